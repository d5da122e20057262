import JvmDerived
import JvmDerived.Pilot.@@N@@Statement
import JvmDerived.Pilot.@@N@@Code
set_option linter.unusedVariables false
set_option linter.unusedSimpArgs false
namespace Jvm.RoadKit
open Sem ClassFile Op Lib Jvm.Stand Jvm.Free Jvm.LawKit
section New
variable {p : Program} {l : Launch} {e : Env} {R : Room} {s : State} {m : MethodId} {args : Array Value} {below : List Frame} {meth : Method} {c : Code} {T : State} {locs : List Loc} {cells slots : Nat}
theorem retI (X : Stand p l e R s m args below meth c T locs cells slots) (hx : p.tables.exec = Jvm.exec) {pc : Nat} {Ls : Array Slot} {z : Int32} {rest : List Value} (hret : meth.sig.returnType = some .int) (hd : decode c.code pc = .ok (.ireturn, 1)) {fs : List Frame}
    (hl : ∀ (f : JFrame) (acts : List Action), f.method = m → f.locked = none → f.entered = [] → (doReturn e (T.setTop f) acts (some (.int z))).1 = T.setFrames fs) : Steps p.tables e below (T.setTop (mkF m pc Ls (.int z :: rest))) (T.setFrames fs) := by
  have hm' : T.vm.method? m = some meth := X.method'
  have hn : narrow .int (.int z) = .int z := rfl
  show Steps p.tables e below (T.setTop { method := m, pc := pc, locals := Ls, stack := _ :: rest, locked := none }) _
  jvm_step X.here [X.here.top, hx, hd, hm', hret, hn]
  first | (intro acts; rw [hl _ acts rfl rfl rfl]) | rw [hl _ _ rfl rfl rfl]
  exact Steps.refl _
end New
end Jvm.RoadKit
namespace Jvm.Pilot.@@N@@
open Jvm Jvm.ClassFile Sem Op Lib Jvm.Free Jvm.Stand Jvm.LawKit Jvm.RoadKit Bundle Jvm.Pilot.@@N@@.Jvm.D
-- OWN CORE: a calculus of runs over the library's Stand (lawnew's family)
abbrev OCtx := Program × Launch × Env × State × MethodId × Array Value × List Frame × Method × Code
def OCtx.p (C : OCtx) : Program := C.1
def OCtx.l (C : OCtx) : Launch := C.2.1
def OCtx.e (C : OCtx) : Env := C.2.2.1
def OCtx.s (C : OCtx) : State := C.2.2.2.1
def OCtx.m (C : OCtx) : MethodId := C.2.2.2.2.1
def OCtx.args (C : OCtx) : Array Value := C.2.2.2.2.2.1
def OCtx.below (C : OCtx) : List Frame := C.2.2.2.2.2.2.1
def OCtx.meth (C : OCtx) : Method := C.2.2.2.2.2.2.2.1
def OCtx.c (C : OCtx) : Code := C.2.2.2.2.2.2.2.2
-- a body: its class, bytes, locals, return type, name, room
abbrev OInfo := String × ByteArray × Nat × Option FieldType × String × Room
abbrev OInfo.own (I : OInfo) : String := I.1
abbrev OInfo.bytes (I : OInfo) : ByteArray := I.2.1
abbrev OInfo.ml (I : OInfo) : Nat := I.2.2.1
abbrev OInfo.ret (I : OInfo) : Option FieldType := I.2.2.2.1
abbrev OInfo.mn (I : OInfo) : String := I.2.2.2.2.1
abbrev OInfo.R (I : OInfo) : Room := I.2.2.2.2.2
-- where a run stands
def oK (C : OCtx) (s0 : State) (Z : State) (n0 : Nat) (I : OInfo) (T : State) (locs : List Loc) (cs sl : Nat) (h : Heap) : Prop :=
  Stand C.p C.l C.e I.R s0 C.m C.args C.below C.meth C.c T locs cs sl ∧ C.p.tables.exec = Jvm.exec ∧ Z.Warmed39 s0.vm ∧ s0.vm.findClass I.own = some C.m.cls ∧ C.c.code = I.bytes ∧ C.c.maxLocals = I.ml ∧
  C.meth.sig.returnType = I.ret ∧ C.meth.name = I.mn ∧ C.meth.locks = false ∧ T.heap = h ∧ Fr n0 locs ∧ Old Z n0 h
theorem o_fresh {a b : Addr} {h : Heap} (q : a < h.size) (g : b = h.size) : a ≠ b := fun e => by subst e; rw [g] at q; exact Nat.lt_irrefl _ q
theorem o_fresh' {a b : Addr} {n : Nat} (q : a < n) (g : n ≤ b) : a ≠ b := fun e => by subst e; exact Nat.lt_irrefl _ (Nat.lt_of_lt_of_le q g)
theorem o_le {Z : State} {n0 : Nat} {h : Heap} (O : Old Z n0 h) : n0 ≤ h.size := O.1 ▸ O.2.1
-- what goes along: the tables' literals say their texts; ws: cells that no literal holds
def wX (C : OCtx) (Z : State) (EL : List (String × Nat)) (ws : List Addr) (vm0 : Vm) (h : Heap) : Prop := (∃ a0, EW Z a0 EL) ∧ (∃ k0, C.s.Since vm0 k0 ∧ k0 ≤ h.size) ∧ CHr Z EL C.s.vm C.s.heap vm0 h ∧ ∀ x ∈ ws, Safe Z EL vm0 h x ∧ x < h.size
def oH (Q : Option Value → Heap → Prop) : Option Value → Vm → Heap → Prop := fun v _ h => Q v h
def oR (Z : State) (EL : List (String × Nat)) (Q : Option Value → Heap → List Addr → Prop) : Option Value → Vm → Heap → Prop := fun v vm h => ∃ rs, Q v h rs ∧ ∀ x ∈ rs, Safe Z EL vm h x ∧ x < h.size
def oRunG (C : OCtx) (Z : State) (n0 : Nat) (I : OInfo) (EL : List (String × Nat)) (ws : List Addr) (G : Option Value → Vm → Heap → Prop) (h : Heap) (cs sl : Nat) (g : JFrame) : Prop :=
  ∀ vm0 T locs, oK C (C.s.setVm vm0) Z n0 I T locs cs sl h → wX C Z EL ws vm0 h → ∃ t o, Steps C.p.tables C.e C.below (T.setTop g) t ∧ t.status = .running ∧ Ended t C.below o ∧ (∃ v L, o = .returned v ∧ (Fr n0 L ∧ Old Z n0 t.heap ∧ G v t.vm t.heap) ∧ CHr Z EL C.s.vm C.s.heap t.vm t.heap ∧ ReturnedEndW C.s o t L I.R.cells I.R.slots)
abbrev oRun (C : OCtx) (Z : State) (n0 : Nat) (I : OInfo) (EL : List (String × Nat)) (ws : List Addr) (Q : Option Value → Heap → Prop) (h : Heap) (cs sl : Nat) (g : JFrame) : Prop := oRunG C Z n0 I EL ws (oH Q) h cs sl g
def oConG (l : Launch) (Z : State) (n0 : Nat) (EL : List (String × Nat)) (ws : List Addr) (y : MethodName) (I : OInfo) (as' : Array Value) (h0 : Heap) (G : Option Value → Vm → Heap → Prop) : Prop :=
  Old Z n0 h0 → ∀ wc, MetFree l y (head1 (Jvm.Cond.code y I.bytes I.ml I.ret :: wc) I.R) (fun a U => a = as' ∧ Z.Warmed39 U.vm ∧ U.heap = h0 ∧ CHv Z EL U.vm h0 ∧ ∀ x ∈ ws, Safe Z EL U.vm h0 x ∧ x < h0.size) (fun _ _ _ _ _ => True)
    (fun _ U o U' => ∃ v L, o = .returned v ∧ (Fr n0 L ∧ Old Z n0 U'.heap ∧ G v U'.vm U'.heap) ∧ CHr Z EL U.vm U.heap U'.vm U'.heap ∧ ReturnedEndW U o U' L I.R.cells I.R.slots)
abbrev oCon (l : Launch) (Z : State) (n0 : Nat) (EL : List (String × Nat)) (ws : List Addr) (y : MethodName) (I : OInfo) (as' : Array Value) (h0 : Heap) (Q : Option Value → Heap → Prop) : Prop := oConG l Z n0 EL ws y I as' h0 (oH Q)
theorem oCon.mk {l : Launch} {Z : State} {n0 : Nat} {EL : List (String × Nat)} {ws : List Addr} {y : MethodName} {I : OInfo} {as' : Array Value} {h0 : Heap} {G : Option Value → Vm → Heap → Prop} {a0 : Array Value} (hEL : EW Z a0 EL) (hp : plainFor y = true) (hy1 : y.cls = I.own) (hy2 : y.name = I.mn) {Ls : Array Slot} (ef : ∀ m, entryFrame m as' I.ml = mkF m 0 Ls [])
    (body : ∀ C : OCtx, C.l = l → oRunG C Z n0 I EL ws G h0 0 0 (mkF C.m 0 Ls [])) : oConG l Z n0 EL ws y I as' h0 G := by
  intro hn wc
  refine MetFree.of_bodySF hp hisR ?_
  intro p e s m args below meth c s₁ Bd hml0 hP hK
  obtain ⟨rfl, hZ, hh, hC, hS⟩ := hP
  have hown : s.vm.findClass I.own = some m.cls := by rw [← hy1]; exact findClass_of_methodNamed Bd.named
  have hnm : meth.name = I.mn := by rw [← hy2]; exact (name_of_methodNamed Bd.named Bd.method).1
  have e0 : s₁.heap = h0 := by rw [← hh, Bd.state]; rfl
  have X0 : Stand p l e I.R s m args below meth c s₁ [] 0 0 := Stand.of_body Bd
  subst hh
  have r := body (p, l, e, s, m, args, below, meth, c) rfl s.vm s₁ [] ⟨X0, Bd.exec, hZ, hown, Bd.bytes, hml0, Bd.returns, hnm, Bd.notSynchronized, e0, Fr.nil n0, hn⟩ ⟨⟨a0, hEL⟩, ⟨0, (State.WarmedH.refl s).since 0, Nat.zero_le _⟩, CHr.refl hC, hS⟩
  obtain ⟨t, o, h1, h2, h3, h4⟩ := r
  refine ⟨t, o, castTop (ef m) h1, h2, h3, h4⟩
theorem wX.step {C : OCtx} {Z : State} {EL : List (String × Nat)} {ws : List Addr} {vm0 vm1 : Vm} {h h' : Heap} (V : wX C Z EL ws vm0 h) (R : CHr Z EL vm0 h vm1 h') (S : ∃ k0, C.s.Since vm1 k0 ∧ k0 ≤ h'.size) : wX C Z EL ws vm1 h' :=
  ⟨V.1, S, V.2.2.1.trans R, fun x hx => ⟨R.safe (V.2.2.2 x hx).2 (V.2.2.2 x hx).1, Nat.lt_of_lt_of_le (V.2.2.2 x hx).2 R.2.1⟩⟩
theorem wX.move {C : OCtx} {Z : State} {EL : List (String × Nat)} {ws : List Addr} {vm0 : Vm} {h h' : Heap} (V : wX C Z EL ws vm0 h) (R : CHr Z EL vm0 h vm0 h') : wX C Z EL ws vm0 h' := by
  obtain ⟨k0, q1, q2⟩ := V.2.1
  exact V.step R ⟨k0, q1, Nat.le_trans q2 R.2.1⟩
theorem wX.wr {C : OCtx} {Z : State} {EL : List (String × Nat)} {ws : List Addr} {vm0 : Vm} {h h' : Heap} {a : Addr} {sl : Nat} {v : Value} (V : wX C Z EL ws vm0 h) (W : Wr h h' a sl v) (hs : a ∈ ws) : wX C Z EL ws vm0 h' := V.move (CHr.wr W (V.2.2.2 a hs).1 V.2.2.1.1)
theorem wX.ext {C : OCtx} {Z : State} {EL : List (String × Nat)} {ws : List Addr} {vm0 : Vm} {h h' : Heap} (V : wX C Z EL ws vm0 h) (E : Ext h h') : wX C Z EL ws vm0 h' := V.move (CHr.ext E V.2.2.1.1)
theorem wX.new {C : OCtx} {Z : State} {EL : List (String × Nat)} {ws : List Addr} {vm0 : Vm} {h h' : Heap} {a : Addr} (V : wX C Z EL ws vm0 h) (E : Ext h h') (ha : a = h.size) (hlt : a < h'.size) : wX C Z EL (a :: ws) vm0 h' := by
  have V' := V.ext E
  refine ⟨V'.1, V'.2.1, V'.2.2.1, fun x hx => ?_⟩
  rcases List.mem_cons.mp hx with rfl | hx
  · exact ⟨Safe.ext E V.2.2.1.1 (Safe.new (Nat.le_of_eq ha.symm)), hlt⟩
  · exact V'.2.2.2 x hx
theorem wX.sub {C : OCtx} {Z : State} {EL : List (String × Nat)} {ws ws' : List Addr} {vm0 : Vm} {h : Heap} (V : wX C Z EL ws vm0 h) (q : ∀ x ∈ ws', x ∈ ws) : wX C Z EL ws' vm0 h := ⟨V.1, V.2.1, V.2.2.1, fun x hx => V.2.2.2 x (q x hx)⟩
-- a callee's contract pays a call (over the library's BackS.of_freeW)
theorem o_back {p : Program} {l : Launch} {e : Env} {R : Room} {s : State} {args : Array Value} {below : List Frame} {Z : State} {a0 : Array Value} {EL : List (String × Nat)} {ws : List Addr} {h : Heap} {vm0 : Vm} {n0 : Nat} {y : MethodName} {J : OInfo} {W : Nat} {as' : Array Value} {G : Option Value → Vm → Heap → Prop}
    (hM : oConG l Z n0 EL ws y J as' h G) (hn : Old Z n0 h) (hZ : Z.Warmed39 vm0) (wc : (Jvm.Cond.code y J.bytes J.ml J.ret).before a0 Z = true) (wz : (Jvm.Cond.initialized y.cls).before a0 Z = true) (hf : J.R.frames + 1 ≤ R.frames) (hl : W + (J.ml + 11) + J.R.locals ≤ R.locals) {a1 : Array Value} (hEL : EW Z a1 EL) (H : CHv Z EL vm0 h) (hS : ∀ x ∈ ws, Safe Z EL vm0 h x ∧ x < h.size) {len : Nat} :
    BackS l R p e below (s.setVm vm0) args y len W (fun A a => a = as' ∧ A.U.heap = h ∧ A.cells + J.R.cells ≤ R.cells ∧ A.slots + J.R.slots ≤ R.slots)
      (fun A _ v B => ∃ L, (Fr n0 L ∧ Old Z n0 B.U.heap ∧ G v B.U.vm B.U.heap) ∧ B.locs = A.locs ++ L ∧ B.cells = A.cells + J.R.cells ∧ B.slots = A.slots + J.R.slots ∧ CHr Z EL vm0 h B.U.vm B.U.heap) :=
  BackS.of_freeW (bytes := J.bytes) (maxL := J.ml) (ret := J.ret) (E := fun _ first o t L k n => k = J.R.cells ∧ n = J.R.slots ∧ (∃ v, o = .returned v ∧ (Fr n0 L ∧ Old Z n0 t.heap ∧ G v t.vm t.heap)) ∧ CHr Z EL first.vm first.heap t.vm t.heap) (hM hn []) hf hl
    (fun m meth c A a Y hp => by
      have hU : Z.Warmed39 A.U.vm := wtrans (s := s.setVm vm0) hZ Y.warmed
      refine ⟨?_, mv hU wc, mv hU wz, hp.2.2.1, hp.2.2.2⟩
      show (Jvm.Cond.and _ .tt).before a A.U = true
      rw [Cond.before_and, mv hU wc]; rfl)
    (fun m meth c A a g mk Y hp => ⟨hp.1, wtrans (s := s.setVm vm0) hZ Y.warmed, hp.2.1, (CHv.at Y hZ hEL H).1, fun x hx => ⟨(CHv.at Y hZ hEL H).safe (hS x hx).2 (hS x hx).1, (hS x hx).2⟩⟩) (fun _ _ _ _ _ _ _ _ _ => trivial)
    (fun _ _ _ _ q => by obtain ⟨v, L, h1, h2, h3, h4⟩ := q; exact ⟨L, _, _, h4, rfl, rfl, ⟨v, h1, h2⟩, h3⟩)
    (fun m meth c A a g mk v t L k n Y hp _ _ q => by
      obtain ⟨e1, e2, ⟨v', e3, e4⟩, e5⟩ := q
      cases e3; subst e1 e2
      refine ⟨L, e4, rfl, rfl, rfl, (CHv.at Y hZ hEL H).trans ?_⟩
      rw [← hp.2.1]; exact e5)
theorem wX.add {C : OCtx} {Z : State} {EL : List (String × Nat)} {ws rs : List Addr} {vm0 : Vm} {h : Heap} (V : wX C Z EL ws vm0 h) (q : ∀ x ∈ rs, Safe Z EL vm0 h x ∧ x < h.size) : wX C Z EL (rs ++ ws) vm0 h := ⟨V.1, V.2.1, V.2.2.1, fun x hx => (List.mem_append.mp hx).elim (q x) (V.2.2.2 x)⟩
section OwnCore
variable {C : OCtx} {Z : State} {n0 : Nat} {I : OInfo} {EL : List (String × Nat)} {ws : List Addr} {G : Option Value → Vm → Heap → Prop} {Q : Option Value → Heap → Prop} {h : Heap} {cs sl pc pc' : Nat} {L : Array Slot} {S : List Value} {x y : Int32}
theorem oStep {g g' : JFrame} (st : ∀ {s0 : State} T locs, oK C s0 Z n0 I T locs cs sl h → ∀ t, Steps C.p.tables C.e C.below (T.setTop g') t → Steps C.p.tables C.e C.below (T.setTop g) t) (r : oRunG C Z n0 I EL ws G h cs sl g') : oRunG C Z n0 I EL ws G h cs sl g := by
  intro vm0 T locs K V
  obtain ⟨t, o, h1, h2⟩ := r vm0 T locs K V
  exact ⟨t, o, st T locs K t h1, h2⟩
theorem oMove {g g' : JFrame} (st : ∀ {s0 : State} T locs, oK C s0 Z n0 I T locs cs sl h → ∃ T' locs', oK C s0 Z n0 I T' locs' cs sl h ∧ ∀ t, Steps C.p.tables C.e C.below (T'.setTop g') t → Steps C.p.tables C.e C.below (T.setTop g) t) (r : oRunG C Z n0 I EL ws G h cs sl g') : oRunG C Z n0 I EL ws G h cs sl g := by
  intro vm0 T locs K V
  obtain ⟨T', locs', K', st'⟩ := st T locs K
  obtain ⟨t, o, h1, h2⟩ := r vm0 T' locs' K' V
  exact ⟨t, o, st' t h1, h2⟩
theorem s_aloadN {k : Fin 4} {v : Value} (hd : decode I.bytes pc = .ok (.aload_n k, 1)) (hq : pc + 1 = pc') (hl : L[k.val]? = some (.val v)) (hv : v.isRef = true) (r : oRunG C Z n0 I EL ws G h cs sl (mkF C.m pc' L (v :: S))) : oRunG C Z n0 I EL ws G h cs sl (mkF C.m pc L S) := by
  subst hq; exact oStep (fun T locs K t kt => XS.aloadN K.1.here K.2.1 rfl (hb K.2.2.2.2.1 hd) hl hv kt) r
theorem s_aload {k : Nat} {v : Value} (hd : decode I.bytes pc = .ok (.aload k, 2)) (hq : pc + 2 = pc') (hl : L[k]? = some (.val v)) (hv : v.isRef = true) (r : oRunG C Z n0 I EL ws G h cs sl (mkF C.m pc' L (v :: S))) : oRunG C Z n0 I EL ws G h cs sl (mkF C.m pc L S) := by
  subst hq; exact oStep (fun T locs K t kt => XS.aload K.1.here K.2.1 rfl (hb K.2.2.2.2.1 hd) hl hv kt) r
theorem s_iloadN {k : Fin 4} (hd : decode I.bytes pc = .ok (.iload_n k, 1)) (hq : pc + 1 = pc') (hl : L[k.val]? = some (.val (.int x))) (r : oRunG C Z n0 I EL ws G h cs sl (mkF C.m pc' L (.int x :: S))) : oRunG C Z n0 I EL ws G h cs sl (mkF C.m pc L S) := by
  subst hq; exact oStep (fun T locs K t kt => XS.iloadN K.1.here K.2.1 rfl (hb K.2.2.2.2.1 hd) hl kt) r
theorem s_iload {k : Nat} (hd : decode I.bytes pc = .ok (.iload k, 2)) (hq : pc + 2 = pc') (hl : L[k]? = some (.val (.int x))) (r : oRunG C Z n0 I EL ws G h cs sl (mkF C.m pc' L (.int x :: S))) : oRunG C Z n0 I EL ws G h cs sl (mkF C.m pc L S) := by
  subst hq; exact oStep (fun T locs K t kt => XS.iload K.1.here K.2.1 rfl (hb K.2.2.2.2.1 hd) hl kt) r
theorem s_iconst {i : Int} (hd : decode I.bytes pc = .ok (.iconst i, 1)) (hq : pc + 1 = pc') (hx : Int32.ofInt i = x) (r : oRunG C Z n0 I EL ws G h cs sl (mkF C.m pc' L (.int x :: S))) : oRunG C Z n0 I EL ws G h cs sl (mkF C.m pc L S) := by
  subst hq hx; exact oStep (fun T locs K t kt => XS.iconst K.1.here K.2.1 rfl (hb K.2.2.2.2.1 hd) kt) r
theorem s_bipush {i : Int} (hd : decode I.bytes pc = .ok (.bipush i, 2)) (hq : pc + 2 = pc') (hx : (Int8.ofInt i).toInt32 = x) (r : oRunG C Z n0 I EL ws G h cs sl (mkF C.m pc' L (.int x :: S))) : oRunG C Z n0 I EL ws G h cs sl (mkF C.m pc L S) := by
  subst hq hx; exact oStep (fun T locs K t kt => XS.bipush K.1.here K.2.1 rfl (hb K.2.2.2.2.1 hd) kt) r
theorem s_sipush {i : Int} (hd : decode I.bytes pc = .ok (.sipush i, 3)) (hq : pc + 3 = pc') (hx : (Int16.ofInt i).toInt32 = x) (r : oRunG C Z n0 I EL ws G h cs sl (mkF C.m pc' L (.int x :: S))) : oRunG C Z n0 I EL ws G h cs sl (mkF C.m pc L S) := by
  subst hq hx; exact oStep (fun T locs K t kt => XS.sipush K.1.here K.2.1 rfl (hb K.2.2.2.2.1 hd) kt) r
theorem s_null (hd : decode I.bytes pc = .ok (.aconst_null, 1)) (hq : pc + 1 = pc') (r : oRunG C Z n0 I EL ws G h cs sl (mkF C.m pc' L (.null :: S))) : oRunG C Z n0 I EL ws G h cs sl (mkF C.m pc L S) := by
  subst hq; exact oStep (fun T locs K t kt => XS.aconstNull K.1.here K.2.1 rfl (hb K.2.2.2.2.1 hd) kt) r
theorem s_iadd (hd : decode I.bytes pc = .ok (.iadd, 1)) (hq : pc + 1 = pc') (r : oRunG C Z n0 I EL ws G h cs sl (mkF C.m pc' L (.int (x + y) :: S))) : oRunG C Z n0 I EL ws G h cs sl (mkF C.m pc L (.int y :: .int x :: S)) := by
  subst hq; exact oStep (fun T locs K t kt => XS.iadd K.1.here K.2.1 rfl (hb K.2.2.2.2.1 hd) rfl kt) r
theorem s_isub (hd : decode I.bytes pc = .ok (.isub, 1)) (hq : pc + 1 = pc') (r : oRunG C Z n0 I EL ws G h cs sl (mkF C.m pc' L (.int (x - y) :: S))) : oRunG C Z n0 I EL ws G h cs sl (mkF C.m pc L (.int y :: .int x :: S)) := by
  subst hq; exact oStep (fun T locs K t kt => XS.isub K.1.here K.2.1 rfl (hb K.2.2.2.2.1 hd) rfl kt) r
theorem s_imul (hd : decode I.bytes pc = .ok (.imul, 1)) (hq : pc + 1 = pc') (r : oRunG C Z n0 I EL ws G h cs sl (mkF C.m pc' L (.int (x * y) :: S))) : oRunG C Z n0 I EL ws G h cs sl (mkF C.m pc L (.int y :: .int x :: S)) := by
  subst hq; exact oStep (fun T locs K t kt => XS.imul K.1.here K.2.1 rfl (hb K.2.2.2.2.1 hd) rfl kt) r
theorem s_idiv (hd : decode I.bytes pc = .ok (.idiv, 1)) (hq : pc + 1 = pc') (hy : y ≠ 0) (r : oRunG C Z n0 I EL ws G h cs sl (mkF C.m pc' L (.int (x / y) :: S))) : oRunG C Z n0 I EL ws G h cs sl (mkF C.m pc L (.int y :: .int x :: S)) := by
  subst hq; exact oStep (fun T locs K t kt => XS.idiv K.1.here K.2.1 rfl (hb K.2.2.2.2.1 hd) rfl hy kt) r
theorem o_rem (x y : Int32) : x - (x / y) * y = x % y := irem_eq_mod x y
theorem s_irem (hd : decode I.bytes pc = .ok (.irem, 1)) (hq : pc + 1 = pc') (hy : y ≠ 0) (r : oRunG C Z n0 I EL ws G h cs sl (mkF C.m pc' L (.int (x % y) :: S))) : oRunG C Z n0 I EL ws G h cs sl (mkF C.m pc L (.int y :: .int x :: S)) := by
  subst hq; rw [← o_rem] at r; exact oStep (fun T locs K t kt => XS.irem K.1.here K.2.1 rfl (hb K.2.2.2.2.1 hd) rfl hy kt) r
theorem s_ineg (hd : decode I.bytes pc = .ok (.ineg, 1)) (hq : pc + 1 = pc') (r : oRunG C Z n0 I EL ws G h cs sl (mkF C.m pc' L (.int (-x) :: S))) : oRunG C Z n0 I EL ws G h cs sl (mkF C.m pc L (.int x :: S)) := by
  subst hq; exact oStep (fun T locs K t kt => XS.ineg K.1.here K.2.1 rfl (hb K.2.2.2.2.1 hd) rfl kt) r
theorem s_iand (hd : decode I.bytes pc = .ok (.iand, 1)) (hq : pc + 1 = pc') (r : oRunG C Z n0 I EL ws G h cs sl (mkF C.m pc' L (.int (x &&& y) :: S))) : oRunG C Z n0 I EL ws G h cs sl (mkF C.m pc L (.int y :: .int x :: S)) := by
  subst hq; exact oStep (fun T locs K t kt => XS.iand K.1.here K.2.1 rfl (hb K.2.2.2.2.1 hd) rfl kt) r
theorem s_ior (hd : decode I.bytes pc = .ok (.ior, 1)) (hq : pc + 1 = pc') (r : oRunG C Z n0 I EL ws G h cs sl (mkF C.m pc' L (.int (x ||| y) :: S))) : oRunG C Z n0 I EL ws G h cs sl (mkF C.m pc L (.int y :: .int x :: S)) := by
  subst hq; exact oStep (fun T locs K t kt => XT.ior K.1.here K.2.1 rfl (hb K.2.2.2.2.1 hd) rfl kt) r
theorem s_ixor (hd : decode I.bytes pc = .ok (.ixor, 1)) (hq : pc + 1 = pc') (r : oRunG C Z n0 I EL ws G h cs sl (mkF C.m pc' L (.int (x ^^^ y) :: S))) : oRunG C Z n0 I EL ws G h cs sl (mkF C.m pc L (.int y :: .int x :: S)) := by
  subst hq; exact oStep (fun T locs K t kt => XT.ixor K.1.here K.2.1 rfl (hb K.2.2.2.2.1 hd) rfl kt) r
theorem s_ishl (hd : decode I.bytes pc = .ok (.ishl, 1)) (hq : pc + 1 = pc') (r : oRunG C Z n0 I EL ws G h cs sl (mkF C.m pc' L (.int (x <<< (y &&& 31)) :: S))) : oRunG C Z n0 I EL ws G h cs sl (mkF C.m pc L (.int y :: .int x :: S)) := by
  subst hq; exact oStep (fun T locs K t kt => XT.ishl K.1.here K.2.1 rfl (hb K.2.2.2.2.1 hd) rfl kt) r
theorem s_ishr (hd : decode I.bytes pc = .ok (.ishr, 1)) (hq : pc + 1 = pc') (r : oRunG C Z n0 I EL ws G h cs sl (mkF C.m pc' L (.int (x >>> (y &&& 31)) :: S))) : oRunG C Z n0 I EL ws G h cs sl (mkF C.m pc L (.int y :: .int x :: S)) := by
  subst hq; exact oStep (fun T locs K t kt => XT.ishr K.1.here K.2.1 rfl (hb K.2.2.2.2.1 hd) rfl kt) r
theorem s_iushr (hd : decode I.bytes pc = .ok (.iushr, 1)) (hq : pc + 1 = pc') (r : oRunG C Z n0 I EL ws G h cs sl (mkF C.m pc' L (.int (XT.ushr x y) :: S))) : oRunG C Z n0 I EL ws G h cs sl (mkF C.m pc L (.int y :: .int x :: S)) := by
  subst hq; exact oStep (fun T locs K t kt => XT.iushr K.1.here K.2.1 rfl (hb K.2.2.2.2.1 hd) rfl kt) r
theorem s_i2c (hd : decode I.bytes pc = .ok (.i2c, 1)) (hq : pc + 1 = pc') (r : oRunG C Z n0 I EL ws G h cs sl (mkF C.m pc' L (.int (x.toUInt32.toUInt16.toUInt32.toInt32) :: S))) : oRunG C Z n0 I EL ws G h cs sl (mkF C.m pc L (.int x :: S)) := by
  subst hq; exact oStep (fun T locs K t kt => XT.i2c K.1.here K.2.1 rfl (hb K.2.2.2.2.1 hd) rfl kt) r
theorem s_i2b (hd : decode I.bytes pc = .ok (.i2b, 1)) (hq : pc + 1 = pc') (r : oRunG C Z n0 I EL ws G h cs sl (mkF C.m pc' L (.int (x.toInt8.toInt32) :: S))) : oRunG C Z n0 I EL ws G h cs sl (mkF C.m pc L (.int x :: S)) := by
  subst hq; exact oStep (fun T locs K t kt => XT.i2b K.1.here K.2.1 rfl (hb K.2.2.2.2.1 hd) rfl kt) r
theorem s_dup {v : Value} (hd : decode I.bytes pc = .ok (.dup, 1)) (hq : pc + 1 = pc') (hc : v.category = 1) (r : oRunG C Z n0 I EL ws G h cs sl (mkF C.m pc' L (v :: v :: S))) : oRunG C Z n0 I EL ws G h cs sl (mkF C.m pc L (v :: S)) := by
  subst hq; exact oStep (fun T locs K t kt => XS.dup K.1.here K.2.1 rfl (hb K.2.2.2.2.1 hd) rfl hc kt) r
theorem o_dupx1 {tb : Tables} [Ours tb] {e : Env} {below : List Frame} {T target : State} {m : MethodId} {c : Code} {g : JFrame} (h : At T m c below) (hx : tb.exec = Jvm.exec) (hg : g.method = m) {x y : Value} {rest : List Value} (hd : decode c.code g.pc = .ok (.dup_x1, 1)) (hs : g.stack = x :: y :: rest) (hc : x.category = 1) (hc2 : y.category = 1)
    (hr : Steps tb e below (T.setTop { g with pc := g.pc + 1, stack := x :: y :: x :: rest }) target) : Steps tb e below (T.setTop g) target := by
  subst hg
  jvm_step h [h.top, hx, hd, hs, hc, hc2, Op.dup_x1.wp_sem]
  exact hr
theorem s_dupx1 {v w : Value} (hd : decode I.bytes pc = .ok (.dup_x1, 1)) (hq : pc + 1 = pc') (hc : v.category = 1) (hc2 : w.category = 1) (r : oRunG C Z n0 I EL ws G h cs sl (mkF C.m pc' L (v :: w :: v :: S))) : oRunG C Z n0 I EL ws G h cs sl (mkF C.m pc L (v :: w :: S)) := by
  subst hq; exact oStep (fun T locs K t kt => o_dupx1 K.1.here K.2.1 rfl (hb K.2.2.2.2.1 hd) rfl hc hc2 kt) r
theorem s_pop {v : Value} (hd : decode I.bytes pc = .ok (.pop, 1)) (hq : pc + 1 = pc') (hc : v.category = 1) (r : oRunG C Z n0 I EL ws G h cs sl (mkF C.m pc' L S)) : oRunG C Z n0 I EL ws G h cs sl (mkF C.m pc L (v :: S)) := by
  subst hq; exact oStep (fun T locs K t kt => XT.pop K.1.here K.2.1 rfl (hb K.2.2.2.2.1 hd) rfl hc kt) r
theorem s_istoreN {k : Fin 4} {kn : Nat} {L : List Slot} (hk : k.val = kn) (hd : decode I.bytes pc = .ok (.istore_n k, 1)) (hq : pc + 1 = pc') (hl : storeLocals L.toArray kn (.int x) = some (L.set kn (.val (.int x))).toArray) (r : oRunG C Z n0 I EL ws G h cs sl (mkF C.m pc' (L.set kn (.val (.int x))).toArray S)) : oRunG C Z n0 I EL ws G h cs sl (mkF C.m pc L.toArray (.int x :: S)) := by
  subst hq hk; exact oStep (fun T locs K t kt => XS.istoreN K.1.here K.2.1 rfl (hb K.2.2.2.2.1 hd) rfl hl kt) r
theorem s_istore {k : Nat} {L : List Slot} (hd : decode I.bytes pc = .ok (.istore k, 2)) (hq : pc + 2 = pc') (hl : storeLocals L.toArray k (.int x) = some (L.set k (.val (.int x))).toArray) (r : oRunG C Z n0 I EL ws G h cs sl (mkF C.m pc' (L.set k (.val (.int x))).toArray S)) : oRunG C Z n0 I EL ws G h cs sl (mkF C.m pc L.toArray (.int x :: S)) := by
  subst hq; exact oStep (fun T locs K t kt => XS.istore K.1.here K.2.1 rfl (hb K.2.2.2.2.1 hd) rfl hl kt) r
theorem s_astoreN {k : Fin 4} {kn : Nat} {v : Value} {L : List Slot} (hk : k.val = kn) (hd : decode I.bytes pc = .ok (.astore_n k, 1)) (hq : pc + 1 = pc') (hv : v.isRef = true) (hl : storeLocals L.toArray kn v = some (L.set kn (.val v)).toArray) (r : oRunG C Z n0 I EL ws G h cs sl (mkF C.m pc' (L.set kn (.val v)).toArray S)) : oRunG C Z n0 I EL ws G h cs sl (mkF C.m pc L.toArray (v :: S)) := by
  subst hq hk; exact oStep (fun T locs K t kt => XS.astoreN K.1.here K.2.1 rfl (hb K.2.2.2.2.1 hd) rfl hv hl kt) r
theorem s_astore {k : Nat} {v : Value} {L : List Slot} (hd : decode I.bytes pc = .ok (.astore k, 2)) (hq : pc + 2 = pc') (hv : v.isRef = true) (hl : storeLocals L.toArray k v = some (L.set k (.val v)).toArray) (r : oRunG C Z n0 I EL ws G h cs sl (mkF C.m pc' (L.set k (.val v)).toArray S)) : oRunG C Z n0 I EL ws G h cs sl (mkF C.m pc L.toArray (v :: S)) := by
  subst hq; exact oStep (fun T locs K t kt => XS.astore K.1.here K.2.1 rfl (hb K.2.2.2.2.1 hd) rfl hv hl kt) r
theorem s_iinc {k : Nat} {i : Int} {L : List Slot} (hd : decode I.bytes pc = .ok (.iinc k i, 3)) (hq : pc + 3 = pc') (hi : Int32.ofInt i = y) (hl0 : L.toArray[k]? = some (.val (.int x))) (hl : storeLocals L.toArray k (.int (x + y)) = some (L.set k (.val (.int (x + y)))).toArray) (r : oRunG C Z n0 I EL ws G h cs sl (mkF C.m pc' (L.set k (.val (.int (x + y)))).toArray S)) : oRunG C Z n0 I EL ws G h cs sl (mkF C.m pc L.toArray S) := by
  subst hq hi; exact oStep (fun T locs K t kt => XS.iinc K.1.here K.2.1 rfl (hb K.2.2.2.2.1 hd) hl0 hl kt) r
theorem o_st {L : List Slot} {k : Nat} {s : Slot} {v : Value} (hk : L[k]? = some s) (hs : One s) (hv : v.category = 1) : storeLocals L.toArray k v = some (L.set k (.val v)).toArray := by
  have hlt : k < L.length := (List.getElem?_eq_some_iff.mp hk).1
  have hka : L.toArray[k]? = some s := by simpa using hk
  have e : storeSelf L.toArray k v = some (L.set k (.val v)).toArray := by simp [storeSelf, setAt, hv, hlt]
  rcases hs with rfl | ⟨w, rfl, hw⟩
  · simp only [storeLocals, hka, Option.bind_eq_bind, Option.bind_some]; exact e
  · simp only [storeLocals, hka, Option.bind_eq_bind, Option.bind_some, hw]; exact e
theorem s_goto {o : Int} (hd : decode I.bytes pc = .ok (.goto o, 3)) (ho : 0 ≤ (pc : Int) + o) (hq : ((pc : Int) + o).toNat = pc') (r : oRunG C Z n0 I EL ws G h cs sl (mkF C.m pc' L S)) : oRunG C Z n0 I EL ws G h cs sl (mkF C.m pc L S) :=
  oStep (fun T locs K t kt => XS.goto K.1.here K.2.1 rfl (pc0 := pc) rfl (hb K.2.2.2.2.1 hd) ho hq kt) r
theorem s_if {cd : ClassFile.Cond} {o : Int} {pc'' : Nat} (hd : decode I.bytes pc = .ok (.ifCond cd o, 3)) (hq : pc + 3 = pc') (ho : 0 ≤ (pc : Int) + o) (hq' : ((pc : Int) + o).toNat = pc'')
    (rt : if_icmp.holds cd x 0 = true → oRunG C Z n0 I EL ws G h cs sl (mkF C.m pc'' L S)) (rf : if_icmp.holds cd x 0 = false → oRunG C Z n0 I EL ws G h cs sl (mkF C.m pc' L S)) : oRunG C Z n0 I EL ws G h cs sl (mkF C.m pc L (.int x :: S)) := by
  subst hq
  cases hh : if_icmp.holds cd x 0
  · exact oStep (fun T locs K t kt => XS.ifNo K.1.here K.2.1 rfl (hb K.2.2.2.2.1 hd) rfl ((if0 _ _).trans hh) kt) (rf hh)
  · exact oStep (fun T locs K t kt => XS.ifYes K.1.here K.2.1 rfl (pc0 := pc) rfl (hb K.2.2.2.2.1 hd) rfl ((if0 _ _).trans hh) ho hq' kt) (rt hh)
theorem s_icmp {cd : ClassFile.Cond} {o : Int} {pc'' : Nat} (hd : decode I.bytes pc = .ok (.if_icmp cd o, 3)) (hq : pc + 3 = pc') (ho : 0 ≤ (pc : Int) + o) (hq' : ((pc : Int) + o).toNat = pc'')
    (rt : if_icmp.holds cd x y = true → oRunG C Z n0 I EL ws G h cs sl (mkF C.m pc'' L S)) (rf : if_icmp.holds cd x y = false → oRunG C Z n0 I EL ws G h cs sl (mkF C.m pc' L S)) : oRunG C Z n0 I EL ws G h cs sl (mkF C.m pc L (.int y :: .int x :: S)) := by
  subst hq
  cases hh : if_icmp.holds cd x y
  · exact oStep (fun T locs K t kt => XS.icmpNo K.1.here K.2.1 rfl (hb K.2.2.2.2.1 hd) rfl hh kt) (rf hh)
  · exact oStep (fun T locs K t kt => XS.icmpYes K.1.here K.2.1 rfl (pc0 := pc) rfl (hb K.2.2.2.2.1 hd) rfl hh ho hq' kt) (rt hh)
theorem b_eq (h : if_icmp.holds .eq x y = true) : x = y := by simpa [if_icmp.holds] using h
theorem b_eqF (h : if_icmp.holds .eq x y = false) : ¬ x = y := by simpa [if_icmp.holds] using h
theorem b_ne (h : if_icmp.holds .ne x y = true) : ¬ x = y := by simpa [if_icmp.holds] using h
theorem b_neF (h : if_icmp.holds .ne x y = false) : x = y := by simpa [if_icmp.holds] using h
theorem b_lt (h : if_icmp.holds .lt x y = true) : x < y := by simpa [if_icmp.holds] using h
theorem b_ltF (h : if_icmp.holds .lt x y = false) : ¬ x < y := by simpa [if_icmp.holds] using h
theorem b_ge (h : if_icmp.holds .ge x y = true) : ¬ x < y := by simpa [if_icmp.holds, Int32.not_lt] using h
theorem b_geF (h : if_icmp.holds .ge x y = false) : x < y := by simpa [if_icmp.holds, Int32.not_le] using h
theorem b_gt (h : if_icmp.holds .gt x y = true) : y < x := by simpa [if_icmp.holds] using h
theorem b_gtF (h : if_icmp.holds .gt x y = false) : ¬ y < x := by simpa [if_icmp.holds] using h
theorem b_le (h : if_icmp.holds .le x y = true) : ¬ y < x := by simpa [if_icmp.holds, Int32.not_lt] using h
theorem b_leF (h : if_icmp.holds .le x y = false) : y < x := by simpa [if_icmp.holds, Int32.not_le] using h
-- the heap's steps
theorem s_old {g : JFrame} (r : Old Z n0 h → oRunG C Z n0 I EL ws G h cs sl g) : oRunG C Z n0 I EL ws G h cs sl g := fun vm0 T locs K V => r K.2.2.2.2.2.2.2.2.2.2.2 vm0 T locs K V
theorem s_getF {a0 : Array Value} {R0 O n d host : String} {index : Nat} {a : Addr} {v : Value} (F : Fld Z h a O n d v) (w : (Jvm.Cond.fieldLink I.own index R0 n d).before a0 Z = true ∨ (Jvm.Cond.fieldLinkNest I.own index R0 n d host).before a0 Z = true) (via : Via Z R0 O n d) (hd : decode I.bytes pc = .ok (.getfield index, 3)) (hq : pc + 3 = pc')
    (r : oRunG C Z n0 I EL ws G h cs sl (mkF C.m pc' L (v :: S))) : oRunG C Z n0 I EL ws G h cs sl (mkF C.m pc L (.ref a :: S)) := by
  subst hq
  refine oMove (fun T locs K => ?_) r
  obtain ⟨X, k1, k2, k3, k4, k5, k6, k7, k8, k9, k10, k11⟩ := K
  obtain ⟨T', X', e', st⟩ := getF X k1 k2 k3 w via k9 F (g := mkF C.m pc L (.ref a :: S)) rfl rfl (hb k4 hd)
  exact ⟨T', locs, ⟨X', k1, k2, k3, k4, k5, k6, k7, k8, e', k10, k11⟩, st⟩
theorem s_putF {a0 : Array Value} {R0 O n d host C' : String} {index kk : Nat} {ty : FieldType} {a : Addr} {v old : Value} (F : Fld Z h a O n d old) (E : Exa Z h a C') (ha : n0 ≤ a) (hs : a ∈ ws) (w : (Jvm.Cond.fieldLink I.own index R0 n d).before a0 Z = true ∨ (Jvm.Cond.fieldLinkNest I.own index R0 n d host).before a0 Z = true) (via : Via Z R0 O n d)
    (Lw : (Jvm.Cond.lays C' O n d).before a0 Z = true ∨ ((Jvm.Cond.laysFinal C' O n d).before a0 Z = true ∧ I.own = O ∧ I.mn = "<init>")) (wi : (Jvm.Cond.instantiable C' kk).before a0 Z = true)
    (hty : parseFieldDescriptor d = some ty) (hn : narrow ty v = v) (hf : fits ty v = true) (hd : decode I.bytes pc = .ok (.putfield index, 3)) (hq : pc + 3 = pc')
    (r : ∀ h', Wr h h' a (Jvm.RoadKit.slotOf Z O n d) v → oRunG C Z n0 I EL ws G h' cs sl (mkF C.m pc' L S)) : oRunG C Z n0 I EL ws G h cs sl (mkF C.m pc L (v :: .ref a :: S)) := by
  subst hq
  intro vm0 T locs K V
  obtain ⟨X, k1, k2, k3, k4, k5, k6, k7, k8, k9, k10, k11⟩ := K
  obtain ⟨T', h', X', e', W, st⟩ := putF X k1 k2 k3 w via k9 F E (Lw.imp id fun q => ⟨q.1, q.2.1, k7.trans q.2.2⟩) wi hty hn hf (g := mkF C.m pc L (v :: .ref a :: S)) rfl rfl (hb k4 hd)
  obtain ⟨t, o, h1, h2⟩ := r h' W vm0 T' _ ⟨X', k1, k2, k3, k4, k5, k6, k7, k8, e', Fr.snoc X' k10 ha, k11.wr W ha⟩ (V.wr W hs)
  exact ⟨t, o, st t h1, h2⟩
theorem s_getS {a0 : Array Value} {R0 O n d : String} {index : Nat} {v : Value} (F : Sta Z Z.heap O n d v) (w : (Jvm.Cond.fieldLink I.own index R0 n d).before a0 Z = true) (via : Via Z R0 O n d) (hd : decode I.bytes pc = .ok (.getstatic index, 3)) (hq : pc + 3 = pc')
    (r : oRunG C Z n0 I EL ws G h cs sl (mkF C.m pc' L (v :: S))) : oRunG C Z n0 I EL ws G h cs sl (mkF C.m pc L S) := by
  subst hq
  refine oMove (fun T locs K => ?_) r
  obtain ⟨X, k1, k2, k3, k4, k5, k6, k7, k8, k9, k10, k11⟩ := K
  obtain ⟨T', X', e', st⟩ := getS (host := "") X k1 k2 k3 w via k9 (F.ext k11.2) (g := mkF C.m pc L S) rfl (hb k4 hd)
  exact ⟨T', locs, ⟨X', k1, k2, k3, k4, k5, k6, k7, k8, e', k10, k11⟩, st⟩
theorem s_new {a0 : Array Value} {C' : String} {index n : Nat} (w : (Jvm.Cond.classLink I.own index C').before a0 Z = true) (wi : (Jvm.Cond.instantiable C' n).before a0 Z = true) (wz : (Jvm.Cond.initialized C').before a0 Z = true) (hd : decode I.bytes pc = .ok (.new index, 3)) (hq : pc + 3 = pc') (hc : cs + 1 ≤ I.R.cells) (hl : sl + n ≤ I.R.slots)
    (r : ∀ h' a, a = h.size → n0 ≤ a → Ext h h' → Exa Z h' a C' → (∀ {O nm d : String} {ty : FieldType}, Laid Z a0 C' O nm d → parseFieldDescriptor d = some ty → Fld Z h' a O nm d (defaultValue ty)) → oRunG C Z n0 I EL (a :: ws) G h' (cs + 1) (sl + n) (mkF C.m pc' L (.ref a :: S))) : oRunG C Z n0 I EL ws G h cs sl (mkF C.m pc L S) := by
  subst hq
  intro vm0 T locs K V
  obtain ⟨X, k1, k2, k3, k4, k5, k6, k7, k8, k9, k10, k11⟩ := K
  obtain ⟨T', h', X', e', E, A, D, -, st⟩ := newO X k1 k2 k3 w wi wz k9 (g := mkF C.m pc L S) rfl (hb k4 hd) hc hl
  obtain ⟨t, o, h1, h2⟩ := r h' _ rfl (o_le k11) E A D vm0 T' _ ⟨X', k1, k2, k3, k4, k5, k6, k7, k8, e', k10, k11.ext E⟩ (V.new E rfl A.lt)
  exact ⟨t, o, st t h1, h2⟩
theorem s_newA {a0 : Array Value} {aty : ArrayType} {n : Int32} (cap : Nat) (w : (Jvm.Cond.arrayClass (newarray.typeOf aty)).before a0 Z = true) (hd : decode I.bytes pc = .ok (.newarray aty, 2)) (hq : pc + 2 = pc') (hn : ¬ n < 0) (hcap : n.toNatClampNeg ≤ cap) (hb' : cap * 8 ≤ 536870912) (hc : cs + 1 ≤ I.R.cells) (hl : sl + cap ≤ I.R.slots)
    (r : ∀ h' a k, a = h.size → n0 ≤ a → Ext h h' → Arv Z h' a k (newarray.typeOf aty) n [] (defaultValue (newarray.typeOf aty)) → oRunG C Z n0 I EL (a :: ws) G h' (cs + 1) (sl + cap) (mkF C.m pc' L (.ref a :: S))) : oRunG C Z n0 I EL ws G h cs sl (mkF C.m pc L (.int n :: S)) := by
  subst hq
  intro vm0 T locs K V
  obtain ⟨X, k1, k2, k3, k4, k5, k6, k7, k8, k9, k10, k11⟩ := K
  obtain ⟨T', h', kA, X', e', E, A, st⟩ := newP X k1 k2 w k9 (g := mkF C.m pc L (.int n :: S)) rfl (hb k4 hd) rfl hn hcap hb' hc hl
  obtain ⟨t, o, h1, h2⟩ := r h' _ kA rfl (o_le k11) E (Arv.new A hn) vm0 T' _ ⟨X', k1, k2, k3, k4, k5, k6, k7, k8, e', k10, k11.ext E⟩ (V.new E rfl A.lt)
  exact ⟨t, o, st t h1, h2⟩
theorem s_newAE {a0 : Array Value} {aty : ArrayType} {n : Int32} {ad : String} (cap : Nat) (had : "[" ++ (newarray.typeOf aty).toString = ad) (w : (Jvm.Cond.arrayClass (newarray.typeOf aty)).before a0 Z = true) (hd : decode I.bytes pc = .ok (.newarray aty, 2)) (hq : pc + 2 = pc') (hn : ¬ n < 0) (hcap : n.toNatClampNeg ≤ cap) (hb' : cap * 8 ≤ 536870912) (hc : cs + 1 ≤ I.R.cells) (hl : sl + cap ≤ I.R.slots)
    (r : ∀ h' a k, a = h.size → n0 ≤ a → Ext h h' → Arv Z h' a k (newarray.typeOf aty) n [] (defaultValue (newarray.typeOf aty)) → Exa Z h' a ad → oRunG C Z n0 I EL (a :: ws) G h' (cs + 1) (sl + cap) (mkF C.m pc' L (.ref a :: S))) : oRunG C Z n0 I EL ws G h cs sl (mkF C.m pc L (.int n :: S)) := by
  subst hq
  intro vm0 T locs K V
  obtain ⟨X, k1, k2, k3, k4, k5, k6, k7, k8, k9, k10, k11⟩ := K
  obtain ⟨T', h', kA, X', e', E, A, EA, st⟩ := newPE X k1 k2 w k9 (g := mkF C.m pc L (.int n :: S)) rfl (hb k4 hd) rfl hn hcap hb' hc hl had
  obtain ⟨t, o, h1, h2⟩ := r h' _ kA rfl (o_le k11) E (Arv.new A hn) EA vm0 T' _ ⟨X', k1, k2, k3, k4, k5, k6, k7, k8, e', k10, k11.ext E⟩ (V.new E rfl A.lt)
  exact ⟨t, o, st t h1, h2⟩
theorem s_clone {a0 : Array Value} {index : Nat} {a : Addr} {k : ClassId} {ty : FieldType} {z : Int32} {vs : List Value} {dv : Value} {ad : String} (cap : Nat) (A : Arv Z h a k ty z vs dv) (E : Exa Z h a ad)
    (w1 : (Jvm.Cond.methodLink I.own index ⟨ad, "clone", "()Ljava/lang/Object;"⟩).before a0 Z = true) (w2 : (Jvm.Cond.sameMethod ad "java/lang/Object" "clone" "()Ljava/lang/Object;").before a0 Z = true) (w3 : (Jvm.Cond.native ⟨"java/lang/Object", "clone", "()Ljava/lang/Object;"⟩).before a0 Z = true) (w4 : (Jvm.Cond.instanceMethod ⟨"java/lang/Object", "clone", "()Ljava/lang/Object;"⟩).before a0 Z = true)
    (w5 : (Jvm.Cond.selects ad ⟨ad, "clone", "()Ljava/lang/Object;"⟩ ⟨"java/lang/Object", "clone", "()Ljava/lang/Object;"⟩).before a0 Z = true) (w6 : (Jvm.Cond.castable ad "java/lang/Cloneable").before a0 Z = true)
    (hsz : L.size = I.ml) (hd : decode I.bytes pc = .ok (.invokevirtual index, 3)) (hq : pc + 3 = pc') (hf : 1 ≤ I.R.frames) (hlo : (S.map fun v => v.category).sum + 14 ≤ I.R.locals) (hcap : z.toNatClampNeg ≤ cap) (hc : cs + 1 ≤ I.R.cells) (hl : sl + cap ≤ I.R.slots)
    (r : ∀ h' b, b = h.size → n0 ≤ b → Ext h h' → Arv Z h' b k ty z vs dv → Exa Z h' b ad → oRunG C Z n0 I EL (b :: ws) G h' (cs + 1) (sl + cap) (mkF C.m pc' L (.ref b :: S))) : oRunG C Z n0 I EL ws G h cs sl (mkF C.m pc L (.ref a :: S)) := by
  subst hq
  intro vm0 T locs K V
  obtain ⟨X, k1, k2, k3, k4, k5, k6, k7, k8, k9, k10, k11⟩ := K
  have F := Ins.of_exa E w6
  obtain ⟨c, A1, A2, A3, A4, A5, A6⟩ := A
  obtain ⟨c2, kE, e1, e2, e3, e4, e5⟩ := E
  cases A1.1.symm.trans e1
  obtain ⟨c3, cT, f1, f2, f3⟩ := F
  cases A1.1.symm.trans f1
  simp only [Bool.and_eq_true, Bool.not_eq_true'] at f3
  obtain ⟨hob, kA, hkA, comp, hkind⟩ := A1.2.1
  have hal : Z.vm.Alike vm0 := k2.alike
  obtain ⟨kB, hkB, ekB⟩ := hal.2.2 _ _ hkA
  have hkindB : kB.kind = .array comp ty := by rw [ekB]; exact hkind
  obtain ⟨kC, hkC, ekC⟩ := X.warmed.alike.2.2 _ _ hkB
  have hkindC : kC.kind = .array comp ty := by rw [ekC]; exact hkindB
  have hfit : ∀ i v, c.slots[i]? = some v → T.fitsSlot c.cls .none i v = true := fun i v hv => by
    have hi : i < c.slots.size := (Array.getElem?_eq_some_iff.mp hv).1
    have q := A5 i hi
    rw [hv] at q
    cases Option.some.inj q
    simp [State.fitsSlot, State.slotType?, hkC, hkindC]
    exact A6 i hi
  obtain ⟨vm', X', st⟩ := X.cloneArray k1 k3 (mvT k2 w1) (mvT k2 w2) (mvT k2 w3) (mvT k2 w4) (mvT k2 w5) (a := a) (cell := c) (by rw [k9]; exact A1.1) hob A1.2.2 ((hal.findClass _ _).trans e2) ((hal.findClass _ _).trans f2) ((hal.assignable _ _).trans f3.2) hfit (g := mkF C.m pc L (.ref a :: S)) rfl (hsz.trans k5.symm) rfl (hb k4 hd) hf (by show 2 * 0 + _ + 14 ≤ _; omega) hc (by omega) (Vm.clonesLoader_of_array hkB hkindB)
  have e' : ((T.setVm vm').pushCell { cls := c.cls, slots := c.slots }).heap = h.push { cls := c.cls, slots := c.slots } := by rw [← k9]; rfl
  have EE : Ext h (h.push { cls := c.cls, slots := c.slots }) := ⟨by simp, fun x cx hx => by rw [Array.getElem?_push_lt (Array.getElem?_eq_some_iff.mp hx).1]; exact (Array.getElem?_eq_getElem _).symm.trans hx⟩
  have hN : (h.push ({ cls := c.cls, slots := c.slots } : Cell))[h.size]? = some { cls := c.cls, slots := c.slots } := by simp
  rw [show T.heap.size = h.size from by rw [k9]] at st
  obtain ⟨t, o, h1, h2⟩ := r _ h.size rfl (o_le k11) EE ⟨_, ⟨hN, ⟨by simp, kA, hkA, comp, hkind⟩, by simp⟩, A2, A3, A4, A5, A6⟩ ⟨_, kE, hN, e2, e3, rfl, e5⟩ vm0 _ _ ⟨X'.more (Nat.le_refl _) (by omega), k1, k2, k3, k4, k5, k6, k7, k8, e', k10, k11.ext EE⟩ (V.new EE rfl (by simp))
  exact ⟨t, o, st t h1, h2⟩
theorem s_alen {a : Addr} {k : ClassId} {ty : FieldType} {n : Int32} {vs : List Value} {dv : Value} (A : Arv Z h a k ty n vs dv) (hd : decode I.bytes pc = .ok (.arraylength, 1)) (hq : pc + 1 = pc') (r : oRunG C Z n0 I EL ws G h cs sl (mkF C.m pc' L (.int n :: S))) : oRunG C Z n0 I EL ws G h cs sl (mkF C.m pc L (.ref a :: S)) := by
  subst hq
  refine oStep (fun T locs K t kt => ?_) r
  obtain ⟨X, k1, k2, k3, k4, k5, k6, k7, k8, k9, k10, k11⟩ := K
  obtain ⟨c, A1, A2, A3, A4, -⟩ := A
  refine X.arraylength k1 (by rw [k9]; exact A1.1) (State.isArrayOf_alike k2.alike A1.2.1) (g := mkF C.m pc L (.ref a :: S)) rfl rfl (hb k4 hd) _ ?_
  rw [len_of A3 A4]; exact kt
theorem o_at {a : Addr} {k : ClassId} {ty : FieldType} {n j : Int32} {vs : List Value} {dv v : Value} (A : Arv Z h a k ty n vs dv) (j0 : ¬ j < 0) (j1 : j < n) (hv : vs.getD j.toNatClampNeg dv = v) : ∃ c, Arr Z h a c ty ∧ ¬ (j < 0 ∨ c.slots.size ≤ j.toNatClampNeg) ∧ c.slots[j.toNatClampNeg]? = some v := by
  obtain ⟨c, A1, A2, A3, A4, A5, A6⟩ := A
  have q := inb_of A3 ⟨j0, j1⟩
  exact ⟨c, A1, q, A5.at q hv⟩
theorem s_iaload {a : Addr} {k : ClassId} {n j : Int32} {vs : List Value} {dv v : Value} (A : Arv Z h a k .int n vs dv) (j0 : ¬ j < 0) (j1 : j < n) (hv : vs.getD j.toNatClampNeg dv = v) (hd : decode I.bytes pc = .ok (.iaload, 1)) (hq : pc + 1 = pc') (r : oRunG C Z n0 I EL ws G h cs sl (mkF C.m pc' L (v :: S))) : oRunG C Z n0 I EL ws G h cs sl (mkF C.m pc L (.int j :: .ref a :: S)) := by
  subst hq
  refine oStep (fun T locs K t kt => ?_) r
  obtain ⟨X, k1, k2, k3, k4, k5, k6, k7, k8, k9, k10, k11⟩ := K
  obtain ⟨c, A1, q, A2⟩ := o_at A j0 j1 hv
  exact X.iaload k1 (by rw [k9]; exact A1.1) (State.isArrayOf_alike k2.alike A1.2.1) A1.2.2 q A2 (g := mkF C.m pc L (.int j :: .ref a :: S)) rfl rfl (hb k4 hd) _ kt
theorem s_caload {a : Addr} {k : ClassId} {n j : Int32} {vs : List Value} {dv v : Value} (A : Arv Z h a k .char n vs dv) (j0 : ¬ j < 0) (j1 : j < n) (hv : vs.getD j.toNatClampNeg dv = v) (hd : decode I.bytes pc = .ok (.caload, 1)) (hq : pc + 1 = pc') (r : oRunG C Z n0 I EL ws G h cs sl (mkF C.m pc' L (v :: S))) : oRunG C Z n0 I EL ws G h cs sl (mkF C.m pc L (.int j :: .ref a :: S)) := by
  subst hq
  refine oStep (fun T locs K t kt => ?_) r
  obtain ⟨X, k1, k2, k3, k4, k5, k6, k7, k8, k9, k10, k11⟩ := K
  obtain ⟨c, A1, q, A2⟩ := o_at A j0 j1 hv
  exact X.caload k1 (by rw [k9]; exact A1.1) (State.isArrayOf_alike k2.alike A1.2.1) A1.2.2 q A2 (g := mkF C.m pc L (.int j :: .ref a :: S)) rfl rfl (hb k4 hd) _ kt
theorem s_baload {a : Addr} {k : ClassId} {n j : Int32} {vs : List Value} {dv v : Value} (A : Arv Z h a k .byte n vs dv) (j0 : ¬ j < 0) (j1 : j < n) (hv : vs.getD j.toNatClampNeg dv = v) (hd : decode I.bytes pc = .ok (.baload, 1)) (hq : pc + 1 = pc') (r : oRunG C Z n0 I EL ws G h cs sl (mkF C.m pc' L (v :: S))) : oRunG C Z n0 I EL ws G h cs sl (mkF C.m pc L (.int j :: .ref a :: S)) := by
  subst hq
  refine oStep (fun T locs K t kt => ?_) r
  obtain ⟨X, k1, k2, k3, k4, k5, k6, k7, k8, k9, k10, k11⟩ := K
  obtain ⟨c, A1, q, A2⟩ := o_at A j0 j1 hv
  exact X.baloadBytes k1 (by rw [k9]; exact A1.1) (State.isArrayOf_alike k2.alike A1.2.1) A1.2.2 q A2 (g := mkF C.m pc L (.int j :: .ref a :: S)) rfl rfl (hb k4 hd) _ kt
theorem s_aaload {a : Addr} {cl : Cell} {ty : FieldType} {j : Int32} {v : Value} (A : Arr Z h a cl ty) (ht : ty.isReference = true) (q : ¬ (j < 0 ∨ cl.slots.size ≤ j.toNatClampNeg)) (hv : cl.slots[j.toNatClampNeg]? = some v) (hd : decode I.bytes pc = .ok (.aaload, 1)) (hq : pc + 1 = pc') (r : oRunG C Z n0 I EL ws G h cs sl (mkF C.m pc' L (v :: S))) : oRunG C Z n0 I EL ws G h cs sl (mkF C.m pc L (.int j :: .ref a :: S)) := by
  subst hq
  refine oStep (fun T locs K t kt => ?_) r
  obtain ⟨X, k1, k2, k3, k4, k5, k6, k7, k8, k9, k10, k11⟩ := K
  exact X.aaload k1 (by rw [k9]; exact A.1) (State.isArrayOf_alike k2.alike A.2.1) ht A.2.2 q hv (g := mkF C.m pc L (.int j :: .ref a :: S)) rfl rfl (hb k4 hd) _ kt
theorem o_padTo {a : Addr} {k : ClassId} {ty : FieldType} {n : Int32} {vs : List Value} {dv : Value} (A : Arv Z h a k ty n vs dv) (N : Nat) : Arv Z h a k ty n (vs ++ List.replicate N dv) dv := A.pad (pad_rep vs dv N)
theorem s_iastore {a : Addr} {k : ClassId} {n j : Int32} {vs : List Value} {dv : Value} (A : Arv Z h a k .int n vs dv) (ha : n0 ≤ a) (hs : a ∈ ws) (j0 : ¬ j < 0) (j1 : j < n) (i : Nat) (hi : j.toNatClampNeg = i) (hl : i < vs.length) (hd : decode I.bytes pc = .ok (.iastore, 1)) (hq : pc + 1 = pc')
    (r : ∀ h', Wr h h' a i (.int x) → Arv Z h' a k .int n (vs.set i (.int x)) dv → oRunG C Z n0 I EL ws G h' cs sl (mkF C.m pc' L S)) : oRunG C Z n0 I EL ws G h cs sl (mkF C.m pc L (.int x :: .int j :: .ref a :: S)) := by
  subst hq
  intro vm0 T locs K V
  obtain ⟨X, k1, k2, k3, k4, k5, k6, k7, k8, k9, k10, k11⟩ := K
  obtain ⟨c, A1, A2, A3, A4, A5, A6⟩ := A
  obtain ⟨T', h', X', e', W, st⟩ := stI X k1 k2 k9 A1 (inb_of A3 ⟨j0, j1⟩) (g := mkF C.m pc L (.int x :: .int j :: .ref a :: S)) rfl rfl (hb k4 hd)
  obtain ⟨t, o, h1, h2⟩ := r h' (hi ▸ W) (Arv.set A1 A2 A3 A4 A5 A6 rfl W i hi hl) vm0 T' _ ⟨X', k1, k2, k3, k4, k5, k6, k7, k8, e', Fr.snoc X' k10 ha, k11.wr W ha⟩ (V.wr W hs)
  exact ⟨t, o, st t h1, h2⟩
theorem s_castore {a : Addr} {k : ClassId} {n j : Int32} {vs : List Value} {dv : Value} (A : Arv Z h a k .char n vs dv) (ha : n0 ≤ a) (hs : a ∈ ws) (j0 : ¬ j < 0) (j1 : j < n) (i : Nat) (hi : j.toNatClampNeg = i) (hl : i < vs.length) (hd : decode I.bytes pc = .ok (.castore, 1)) (hq : pc + 1 = pc')
    (r : ∀ h', Wr h h' a i (.int (nar .char x)) → Arv Z h' a k .char n (vs.set i (.int (nar .char x))) dv → oRunG C Z n0 I EL ws G h' cs sl (mkF C.m pc' L S)) : oRunG C Z n0 I EL ws G h cs sl (mkF C.m pc L (.int x :: .int j :: .ref a :: S)) := by
  subst hq
  intro vm0 T locs K V
  obtain ⟨X, k1, k2, k3, k4, k5, k6, k7, k8, k9, k10, k11⟩ := K
  obtain ⟨c, A1, A2, A3, A4, A5, A6⟩ := A
  obtain ⟨T', h', X', e', W, st⟩ := stC X k1 k2 k9 A1 (inb_of A3 ⟨j0, j1⟩) (g := mkF C.m pc L (.int x :: .int j :: .ref a :: S)) rfl rfl (hb k4 hd)
  obtain ⟨t, o, h1, h2⟩ := r h' (hi ▸ W) (Arv.set A1 A2 A3 A4 A5 A6 (fits_nar_char _) W i hi hl) vm0 T' _ ⟨X', k1, k2, k3, k4, k5, k6, k7, k8, e', Fr.snoc X' k10 ha, k11.wr W ha⟩ (V.wr W hs)
  exact ⟨t, o, st t h1, h2⟩
theorem s_bastore {a : Addr} {k : ClassId} {n j : Int32} {vs : List Value} {dv : Value} (A : Arv Z h a k .byte n vs dv) (ha : n0 ≤ a) (hs : a ∈ ws) (j0 : ¬ j < 0) (j1 : j < n) (i : Nat) (hi : j.toNatClampNeg = i) (hl : i < vs.length) (hd : decode I.bytes pc = .ok (.bastore, 1)) (hq : pc + 1 = pc')
    (r : ∀ h', Wr h h' a i (.int (nar .byte x)) → Arv Z h' a k .byte n (vs.set i (.int (nar .byte x))) dv → oRunG C Z n0 I EL ws G h' cs sl (mkF C.m pc' L S)) : oRunG C Z n0 I EL ws G h cs sl (mkF C.m pc L (.int x :: .int j :: .ref a :: S)) := by
  subst hq
  intro vm0 T locs K V
  obtain ⟨X, k1, k2, k3, k4, k5, k6, k7, k8, k9, k10, k11⟩ := K
  obtain ⟨c, A1, A2, A3, A4, A5, A6⟩ := A
  obtain ⟨T', h', X', e', W, st⟩ := stB X k1 k2 k9 A1 (inb_of A3 ⟨j0, j1⟩) (g := mkF C.m pc L (.int x :: .int j :: .ref a :: S)) rfl rfl (hb k4 hd)
  obtain ⟨t, o, h1, h2⟩ := r h' (hi ▸ W) (Arv.set A1 A2 A3 A4 A5 A6 (fits_nar_byte _) W i hi hl) vm0 T' _ ⟨X', k1, k2, k3, k4, k5, k6, k7, k8, e', Fr.snoc X' k10 ha, k11.wr W ha⟩ (V.wr W hs)
  exact ⟨t, o, st t h1, h2⟩
theorem s_copy {a0 : Array Value} {index : Nat} {a b : Addr} {k k' : ClassId} {ty : FieldType} {z z' sp dp nn : Int32} {vs vd : List Value} {dv dd : Value} (A : Arv Z h a k ty z vs dv) (B : Arv Z h b k' ty z' vd dd) (hty : refKind ty = false) (hgb : n0 ≤ b) (hs : b ∈ ws)
    (w1 : (Jvm.Cond.methodLink I.own index Jvm.Stand.acN).before a0 Z = true) (w2 : (Jvm.Cond.native Jvm.Stand.acN).before a0 Z = true) (w3 : (Jvm.Cond.static Jvm.Stand.acN).before a0 Z = true) (w4 : (Jvm.Cond.initialized "java/lang/System").before a0 Z = true)
    (h1 : ¬ sp < 0) (h2 : ¬ dp < 0) (h3 : ¬ nn < 0) (h4 : sp.toNatClampNeg + nn.toNatClampNeg ≤ z.toNatClampNeg) (h5 : dp.toNatClampNeg + nn.toNatClampNeg ≤ z'.toNatClampNeg) (hl : dp.toNatClampNeg + nn.toNatClampNeg ≤ vd.length)
    (hsz : L.size = I.ml) (hd : decode I.bytes pc = .ok (.invokestatic index, 3)) (hq : pc + 3 = pc') (hf : 1 ≤ I.R.frames) (hlo : (S.map fun v => v.category).sum + (nativeFrameWords "java/lang/System" "arraycopy" 5 + 11) ≤ I.R.locals)
    (r : ∀ h', Keep h h' [b] → Arv Z h' b k' ty z' (vd.take dp.toNatClampNeg ++ ((List.range nn.toNatClampNeg).map fun i => vs.getD (sp.toNatClampNeg + i) dv) ++ vd.drop (dp.toNatClampNeg + nn.toNatClampNeg)) dd → oRunG C Z n0 I EL ws G h' cs sl (mkF C.m pc' L S)) :
    oRunG C Z n0 I EL ws G h cs sl (mkF C.m pc L (.int nn :: .int dp :: .ref b :: .int sp :: .ref a :: S)) := by
  subst hq
  intro vm0 T locs K V
  obtain ⟨X, k1, k2, k3, k4, k5, k6, k7, k8, k9, k10, k11⟩ := K
  obtain ⟨T', h', L', X', e', N', K', A', st⟩ := cpA X k1 k2 k3 w1 w2 w3 w4 k9 A B (Or.inl ⟨rfl, hty⟩) h1 h2 h3 h4 h5 rfl hl k10 hgb (g := mkF C.m pc L (.int nn :: .int dp :: .ref b :: .int sp :: .ref a :: S)) rfl (hsz.trans k5.symm) rfl (hb k4 hd) hf (W := (S.map fun v => v.category).sum) (by show 2 * 0 + _ ≤ _; simp) hlo
  obtain ⟨t, o, q1, q2⟩ := r h' K' A' vm0 T' _ ⟨X', k1, k2, k3, k4, k5, k6, k7, k8, e', N', k11.keep K' (allS hgb all0)⟩ (V.move (CHr.keep K' (fun x hx => by cases List.mem_singleton.mp hx; exact (V.2.2.2 b hs).1) V.2.2.1.1))
  exact ⟨t, o, st t q1, q2⟩
theorem s_initO {a0 : Array Value} {idx : Nat} {a : Addr} (w1 : (Jvm.Cond.methodLink I.own idx Lib.objectInit).before a0 Z = true) (w2 : (Jvm.Cond.instanceMethod Lib.objectInit).before a0 Z = true) (w3 : (Jvm.Cond.code Lib.objectInit ⟨#[0xb1]⟩ 1 none).before a0 Z = true) (hsz : L.size = I.ml) (hd : decode I.bytes pc = .ok (.invokespecial idx, 3)) (hq : pc + 3 = pc') (hf : 1 ≤ I.R.frames) (hlo : (S.map fun v => v.category).sum + 12 ≤ I.R.locals)
    (r : oRunG C Z n0 I EL ws G h cs sl (mkF C.m pc' L S)) : oRunG C Z n0 I EL ws G h cs sl (mkF C.m pc L (.ref a :: S)) := by
  subst hq
  refine oMove (fun T locs K => ?_) r
  obtain ⟨X, k1, k2, k3, k4, k5, k6, k7, k8, k9, k10, k11⟩ := K
  obtain ⟨T', X', e', st⟩ := initO X k1 k2 k3 w1 w2 w3 k9 (g := mkF C.m pc L (.ref a :: S)) rfl (hsz.trans k5.symm) rfl (hb k4 hd) hf (W := (S.map fun v => v.category).sum) (by show 2 * 0 + _ ≤ _; simp) hlo
  exact ⟨T', locs, ⟨X', k1, k2, k3, k4, k5, k6, k7, k8, e', k10, k11⟩, st⟩
theorem s_ldcI {a0 : Array Value} {idx : Nat} (w : (Jvm.Cond.constant I.own idx x).before a0 Z = true) (hd : decode I.bytes pc = .ok (.ldc idx, 2)) (hq : pc + 2 = pc') (r : oRunG C Z n0 I EL ws G h cs sl (mkF C.m pc' L (.int x :: S))) : oRunG C Z n0 I EL ws G h cs sl (mkF C.m pc L S) := by
  subst hq
  refine oStep (fun T locs K t kt => ?_) r
  obtain ⟨X, k1, k2, k3, k4, k5, k6, k7, k8, k9, k10, k11⟩ := K
  exact X.ldcInt k1 k3 (mvT k2 w) (g := mkF C.m pc L S) rfl (hb k4 hd) _ kt
theorem s_acmpNe {o : Int} {pc'' : Nat} {v w : Value} (hv : v.isRef = true) (hw : w.isRef = true) (hd : decode I.bytes pc = .ok (.if_acmp .ne o, 3)) (hq : pc + 3 = pc') (ho : 0 ≤ (pc : Int) + o) (hq' : ((pc : Int) + o).toNat = pc'')
    (rt : ¬ v = w → oRunG C Z n0 I EL ws G h cs sl (mkF C.m pc'' L S)) (rf : v = w → oRunG C Z n0 I EL ws G h cs sl (mkF C.m pc' L S)) : oRunG C Z n0 I EL ws G h cs sl (mkF C.m pc L (w :: v :: S)) := by
  subst hq
  by_cases hh : v = w
  · exact oStep (fun T locs K t kt => XT.acmpNo K.1.here K.2.1 rfl (hb K.2.2.2.2.1 hd) rfl hv hw (by simp [XT.acmp, hh]) kt) (rf hh)
  · exact oStep (fun T locs K t kt => XT.acmpYes K.1.here K.2.1 rfl (pc0 := pc) rfl (hb K.2.2.2.2.1 hd) rfl hv hw (by simp [XT.acmp, hh]) ho hq' kt) (rt hh)
theorem s_acmpEq {o : Int} {pc'' : Nat} {v w : Value} (hv : v.isRef = true) (hw : w.isRef = true) (hd : decode I.bytes pc = .ok (.if_acmp .eq o, 3)) (hq : pc + 3 = pc') (ho : 0 ≤ (pc : Int) + o) (hq' : ((pc : Int) + o).toNat = pc'')
    (rt : v = w → oRunG C Z n0 I EL ws G h cs sl (mkF C.m pc'' L S)) (rf : ¬ v = w → oRunG C Z n0 I EL ws G h cs sl (mkF C.m pc' L S)) : oRunG C Z n0 I EL ws G h cs sl (mkF C.m pc L (w :: v :: S)) := by
  subst hq
  by_cases hh : v = w
  · exact oStep (fun T locs K t kt => XT.acmpYes K.1.here K.2.1 rfl (pc0 := pc) rfl (hb K.2.2.2.2.1 hd) rfl hv hw (by simp [XT.acmp, hh]) ho hq' kt) (rt hh)
  · exact oStep (fun T locs K t kt => XT.acmpNo K.1.here K.2.1 rfl (hb K.2.2.2.2.1 hd) rfl hv hw (by simp [XT.acmp, hh]) kt) (rf hh)
theorem s_nnY {o : Int} {b : Addr} (hd : decode I.bytes pc = .ok (.ifnonnull o, 3)) (ho : 0 ≤ (pc : Int) + o) (hq' : ((pc : Int) + o).toNat = pc') (r : oRunG C Z n0 I EL ws G h cs sl (mkF C.m pc' L S)) : oRunG C Z n0 I EL ws G h cs sl (mkF C.m pc L (.ref b :: S)) :=
  oStep (fun T locs K t kt => XT.ifnonnullYes K.1.here K.2.1 rfl (pc0 := pc) rfl (hb K.2.2.2.2.1 hd) rfl ho hq' kt) r
theorem s_nnN {o : Int} (hd : decode I.bytes pc = .ok (.ifnonnull o, 3)) (hq : pc + 3 = pc') (r : oRunG C Z n0 I EL ws G h cs sl (mkF C.m pc' L S)) : oRunG C Z n0 I EL ws G h cs sl (mkF C.m pc L (.null :: S)) := by
  subst hq; exact oStep (fun T locs K t kt => XT.ifnonnullNo K.1.here K.2.1 rfl (hb K.2.2.2.2.1 hd) rfl kt) r
theorem s_nuY {o : Int} (hd : decode I.bytes pc = .ok (.ifnull o, 3)) (ho : 0 ≤ (pc : Int) + o) (hq' : ((pc : Int) + o).toNat = pc') (r : oRunG C Z n0 I EL ws G h cs sl (mkF C.m pc' L S)) : oRunG C Z n0 I EL ws G h cs sl (mkF C.m pc L (.null :: S)) :=
  oStep (fun T locs K t kt => XS.ifnullYes K.1.here K.2.1 rfl (pc0 := pc) rfl (hb K.2.2.2.2.1 hd) rfl ho hq' kt) r
theorem s_nuN {o : Int} {b : Addr} (hd : decode I.bytes pc = .ok (.ifnull o, 3)) (hq : pc + 3 = pc') (r : oRunG C Z n0 I EL ws G h cs sl (mkF C.m pc' L S)) : oRunG C Z n0 I EL ws G h cs sl (mkF C.m pc L (.ref b :: S)) := by
  subst hq; exact oStep (fun T locs K t kt => XS.ifnullNo K.1.here K.2.1 rfl (hb K.2.2.2.2.1 hd) rfl kt) r
theorem s_castY {a0 : Array Value} {Kn : String} {index : Nat} {a : Addr} (F : Ins Z h a Kn true) (w : (Jvm.Cond.classLink I.own index Kn).before a0 Z = true) (hd : decode I.bytes pc = .ok (.checkcast index, 3)) (hq : pc + 3 = pc')
    (r : oRunG C Z n0 I EL ws G h cs sl (mkF C.m pc' L (.ref a :: S))) : oRunG C Z n0 I EL ws G h cs sl (mkF C.m pc L (.ref a :: S)) := by
  subst hq
  refine oMove (fun T locs K => ?_) r
  obtain ⟨X, k1, k2, k3, k4, k5, k6, k7, k8, k9, k10, k11⟩ := K
  obtain ⟨T', X', e', st⟩ := castY X k1 k2 k3 w k9 F (g := mkF C.m pc L (.ref a :: S)) rfl rfl (hb k4 hd)
  exact ⟨T', locs, ⟨X', k1, k2, k3, k4, k5, k6, k7, k8, e', k10, k11⟩, st⟩
theorem s_instY {a0 : Array Value} {Kn : String} {index : Nat} {a : Addr} (F : Ins Z h a Kn true) (w : (Jvm.Cond.classLink I.own index Kn).before a0 Z = true) (hd : decode I.bytes pc = .ok (.instanceof index, 3)) (hq : pc + 3 = pc')
    (r : oRunG C Z n0 I EL ws G h cs sl (mkF C.m pc' L (.int 1 :: S))) : oRunG C Z n0 I EL ws G h cs sl (mkF C.m pc L (.ref a :: S)) := by
  subst hq
  refine oMove (fun T locs K => ?_) r
  obtain ⟨X, k1, k2, k3, k4, k5, k6, k7, k8, k9, k10, k11⟩ := K
  obtain ⟨T', X', e', st⟩ := instY X k1 k2 k3 w k9 F (g := mkF C.m pc L (.ref a :: S)) rfl rfl (hb k4 hd)
  exact ⟨T', locs, ⟨X', k1, k2, k3, k4, k5, k6, k7, k8, e', k10, k11⟩, st⟩
theorem s_instNo {a0 : Array Value} {Kn Cn : String} {index : Nat} {a : Addr} (E : Exa Z h a Cn) (F : ∃ c t, Z.vm.findClass Cn = some c ∧ Z.vm.findClass Kn = some t ∧ Z.vm.assignable c t = false) (w : (Jvm.Cond.classLink I.own index Kn).before a0 Z = true) (hd : decode I.bytes pc = .ok (.instanceof index, 3)) (hq : pc + 3 = pc')
    (r : oRunG C Z n0 I EL ws G h cs sl (mkF C.m pc' L (.int 0 :: S))) : oRunG C Z n0 I EL ws G h cs sl (mkF C.m pc L (.ref a :: S)) := by
  subst hq
  refine oMove (fun T locs K => ?_) r
  obtain ⟨X, k1, k2, k3, k4, k5, k6, k7, k8, k9, k10, k11⟩ := K
  obtain ⟨T', X', e', st⟩ := instNo X k1 k2 k3 w k9 E F (g := mkF C.m pc L (.ref a :: S)) rfl rfl (hb k4 hd)
  exact ⟨T', locs, ⟨X', k1, k2, k3, k4, k5, k6, k7, k8, e', k10, k11⟩, st⟩
theorem s_instNull {index : Nat} (hd : decode I.bytes pc = .ok (.instanceof index, 3)) (hq : pc + 3 = pc')
    (r : oRunG C Z n0 I EL ws G h cs sl (mkF C.m pc' L (.int 0 :: S))) : oRunG C Z n0 I EL ws G h cs sl (mkF C.m pc L (.null :: S)) := by
  subst hq
  refine oStep (fun T locs K t kt => ?_) r
  exact K.1.instanceofNull K.2.1 (g := mkF C.m pc L (.null :: S)) rfl rfl (hb K.2.2.2.2.1 hd) _ kt
-- a value left by a callee
def oPush : Option Value → List Value → List Value
  | none, S => S
  | some v, S => v :: S
theorem o_push (v : Option Value) (S : List Value) : v.toList ++ S = oPush v S := by cases v <;> rfl
theorem o_zero (S : List Value) (W : Nat) (q : (S.map fun v => v.category).sum ≤ W) (m : MethodId) (pc : Nat) (L : Array Slot) (S' : List Value) : 2 * (mkF m pc L S').monitorRoom + (S.map fun v => v.category).sum ≤ W := by show 2 * 0 + _ ≤ _; simpa using q
theorem s_callS {a0 : Array Value} {index : Nat} {yn : MethodName} {J : OInfo} {as' : Array Value} {G' : Option Value → Vm → Heap → Prop} {Q' : Option Value → Heap → List Addr → Prop} {argsL : List Value} {ws' : List Addr} (M : oConG C.l Z n0 EL ws' yn J as' h G') (ha : argsL.toArray = as') (hsub : ∀ x ∈ ws', x ∈ ws)
    (w1 : (Jvm.Cond.methodLink I.own index yn).before a0 Z = true) (w2 : (Jvm.Cond.static yn).before a0 Z = true) (w3 : (Jvm.Cond.initialized yn.cls).before a0 Z = true) (w4 : (Jvm.Cond.code yn J.bytes J.ml J.ret).before a0 Z = true) (hy : yn.cls ≠ "java/lang/invoke/MethodHandle" ∧ yn.cls ≠ "java/lang/invoke/VarHandle")
    (hlen : ∀ sig, parseMethodDescriptor yn.desc = some sig → argsL.length = sig.parameters.length) (hsz : L.size = I.ml) (hd : decode I.bytes pc = .ok (.invokestatic index, 3)) (hq : pc + 3 = pc') (hf : J.R.frames + 1 ≤ I.R.frames) (hlo : (S.map fun v => v.category).sum + (J.ml + 11) + J.R.locals ≤ I.R.locals) (hc : cs + J.R.cells ≤ I.R.cells) (hs : sl + J.R.slots ≤ I.R.slots)
    (F : ∀ v vm h, G' v vm h → ∃ rs, Q' v h rs ∧ ∀ x ∈ rs, Safe Z EL vm h x ∧ x < h.size) (r : ∀ v h' rs, Q' v h' rs → oRunG C Z n0 I EL (rs ++ ws) G h' (cs + J.R.cells) (sl + J.R.slots) (mkF C.m pc' L (oPush v S))) : oRunG C Z n0 I EL ws G h cs sl (mkF C.m pc L (argsL.reverse ++ S)) := by
  subst hq ha
  intro vm0 T locs K V
  obtain ⟨X, k1, k2, k3, k4, k5, k6, k7, k8, k9, k10, k11⟩ := K
  obtain ⟨v, _, ⟨T', L', c', s'⟩, -, X', hS, hg2, ⟨Lc, ⟨q1, q2, q3⟩, l', y', z', hC⟩, st⟩ := callSS X k1 (y := yn) k3 (mvT k2 w1) (mvT k2 w2) (mvT k2 w3) (mvT k2 w4) hy (o_back (W := (S.map fun v => v.category).sum) M k11 k2 w4 w3 hf hlo V.1.choose_spec V.2.2.1.1 (fun x hx => V.2.2.2 x (hsub x hx))) (g := mkF C.m pc L (argsL.reverse ++ S)) rfl (hsz.trans k5.symm) (argsL := argsL) (rest := S) hlen rfl (o_zero _ _ (Nat.le_refl _) _ _ _ _) (hb k4 hd) (fun _ _ => ⟨rfl, k9, hc, hs⟩)
  dsimp only [Pt.U, Pt.locs, Pt.cells, Pt.slots] at X' l' y' z' st q2 q3 hS hg2 hC
  subst l' y' z'
  obtain ⟨kk, hk1, hk2⟩ := V.2.1
  have hS2 : C.s.Since T'.vm T'.heap.size := hk1.trans hS (Nat.le_trans hk2 (by rw [← k9]; exact hg2))
  have hZ2 : Z.Warmed39 T'.vm := State.Warmed39.trans (t := C.s.setVm vm0) k2 hS.1
  obtain ⟨rs, q4, q5⟩ := F _ _ _ q3
  obtain ⟨t, o, h1, h2⟩ := r v _ rs q4 T'.vm T' _ ⟨X', k1, hZ2, (hS.1.alike.findClass _ _).trans k3, k4, k5, k6, k7, k8, rfl, Fr.app k10 q1, q2⟩ ((V.step hC ⟨_, hS2, Nat.le_refl _⟩).add q5)
  rw [← o_push] at h1
  exact ⟨t, o, st.trans h1, h2⟩
theorem s_callI {a0 : Array Value} {index : Nat} {yn : MethodName} {J : OInfo} {as' : Array Value} {G' : Option Value → Vm → Heap → Prop} {Q' : Option Value → Heap → List Addr → Prop} {argsL : List Value} {a : Addr} {ws' : List Addr} (M : oConG C.l Z n0 EL ws' yn J as' h G') (ha : (.ref a :: argsL).toArray = as') (hsub : ∀ x ∈ ws', x ∈ ws) (hr : J.ret = none) (hn : yn.name = "<init>")
    (w1 : (Jvm.Cond.methodLink I.own index yn).before a0 Z = true) (w2 : (Jvm.Cond.instanceMethod yn).before a0 Z = true) (w3 : (Jvm.Cond.initialized yn.cls).before a0 Z = true) (w4 : (Jvm.Cond.code yn J.bytes J.ml J.ret).before a0 Z = true) (hy : yn.cls ≠ "java/lang/invoke/MethodHandle" ∧ yn.cls ≠ "java/lang/invoke/VarHandle")
    (hlen : ∀ sig, parseMethodDescriptor yn.desc = some sig → argsL.length = sig.parameters.length) (hsz : L.size = I.ml) (hd : decode I.bytes pc = .ok (.invokespecial index, 3)) (hq : pc + 3 = pc') (hf : J.R.frames + 1 ≤ I.R.frames) (hlo : (S.map fun v => v.category).sum + (J.ml + 11) + J.R.locals ≤ I.R.locals) (hc : cs + J.R.cells ≤ I.R.cells) (hs : sl + J.R.slots ≤ I.R.slots)
    (F : ∀ v vm h, G' v vm h → ∃ rs, Q' v h rs ∧ ∀ x ∈ rs, Safe Z EL vm h x ∧ x < h.size) (r : ∀ v h' rs, Q' v h' rs → oRunG C Z n0 I EL (rs ++ ws) G h' (cs + J.R.cells) (sl + J.R.slots) (mkF C.m pc' L (oPush v S))) : oRunG C Z n0 I EL ws G h cs sl (mkF C.m pc L (argsL.reverse ++ .ref a :: S)) := by
  subst hq ha
  intro vm0 T locs K V
  obtain ⟨X, k1, k2, k3, k4, k5, k6, k7, k8, k9, k10, k11⟩ := K
  obtain ⟨v, _, ⟨T', L', c', s'⟩, -, X', hS, hg2, ⟨Lc, ⟨q1, q2, q3⟩, l', y', z', hC⟩, st⟩ := X.specialBackS k1 (y := yn) hn k3 (mvT k2 w1) (mvT k2 w2) (bytes := J.bytes) (maxL := J.ml) (by rw [hr] at w4; exact mvT k2 w4) hy (o_back (W := (S.map fun v => v.category).sum) M k11 k2 w4 w3 hf hlo V.1.choose_spec V.2.2.1.1 (fun x hx => V.2.2.2 x (hsub x hx))) (g := mkF C.m pc L (argsL.reverse ++ .ref a :: S)) rfl (hsz.trans k5.symm) (Steps.refl _) (argsL := argsL) (rest := S) hlen rfl (o_zero _ _ (Nat.le_refl _) _ _ _ _) (hb k4 hd) (fun _ _ => ⟨rfl, k9, hc, hs⟩)
  dsimp only [Pt.U, Pt.locs, Pt.cells, Pt.slots] at X' l' y' z' st q2 q3 hS hg2 hC
  subst l' y' z'
  obtain ⟨kk, hk1, hk2⟩ := V.2.1
  have hS2 : C.s.Since T'.vm T'.heap.size := hk1.trans hS (Nat.le_trans hk2 (by rw [← k9]; exact hg2))
  have hZ2 : Z.Warmed39 T'.vm := State.Warmed39.trans (t := C.s.setVm vm0) k2 hS.1
  obtain ⟨rs, q4, q5⟩ := F _ _ _ q3
  obtain ⟨t, o, h1, h2⟩ := r v _ rs q4 T'.vm T' _ ⟨X', k1, hZ2, (hS.1.alike.findClass _ _).trans k3, k4, k5, k6, k7, k8, rfl, Fr.app k10 q1, q2⟩ ((V.step hC ⟨_, hS2, Nat.le_refl _⟩).add q5)
  rw [← o_push] at h1
  exact ⟨t, o, st.trans h1, h2⟩
theorem s_callV {a0 : Array Value} {index : Nat} {Cn : String} {yn zn : MethodName} {J : OInfo} {as' : Array Value} {G' : Option Value → Vm → Heap → Prop} {Q' : Option Value → Heap → List Addr → Prop} {argsL : List Value} {a : Addr} {ws' : List Addr} (M : oConG C.l Z n0 EL ws' zn J as' h G') (ha : (.ref a :: argsL).toArray = as') (hsub : ∀ x ∈ ws', x ∈ ws) (E : Exa Z h a Cn)
    (w1 : (Jvm.Cond.methodLink I.own index yn).before a0 Z = true) (w2 : (Jvm.Cond.declares yn).before a0 Z = true) (w5 : (Jvm.Cond.selects Cn yn zn).before a0 Z = true) (w6 : (Jvm.Cond.instanceMethod zn).before a0 Z = true) (nf : ∀ s' : State, Z.Warmed39 s'.vm → NotFace s' yn) (w3 : (Jvm.Cond.initialized zn.cls).before a0 Z = true) (w4 : (Jvm.Cond.code zn J.bytes J.ml J.ret).before a0 Z = true) (hy : yn.cls ≠ "java/lang/invoke/MethodHandle" ∧ yn.cls ≠ "java/lang/invoke/VarHandle")
    (hlen : ∀ sig, parseMethodDescriptor yn.desc = some sig → argsL.length = sig.parameters.length) (hsz : L.size = I.ml) (hd : decode I.bytes pc = .ok (.invokevirtual index, 3)) (hq : pc + 3 = pc') (hf : J.R.frames + 1 ≤ I.R.frames) (hlo : (S.map fun v => v.category).sum + (J.ml + 11) + J.R.locals ≤ I.R.locals) (hc : cs + J.R.cells ≤ I.R.cells) (hs : sl + J.R.slots ≤ I.R.slots)
    (F : ∀ v vm h, G' v vm h → ∃ rs, Q' v h rs ∧ ∀ x ∈ rs, Safe Z EL vm h x ∧ x < h.size) (r : ∀ v h' rs, Q' v h' rs → oRunG C Z n0 I EL (rs ++ ws) G h' (cs + J.R.cells) (sl + J.R.slots) (mkF C.m pc' L (oPush v S))) : oRunG C Z n0 I EL ws G h cs sl (mkF C.m pc L (argsL.reverse ++ .ref a :: S)) := by
  subst hq ha
  intro vm0 T locs K V
  obtain ⟨X, k1, k2, k3, k4, k5, k6, k7, k8, k9, k10, k11⟩ := K
  obtain ⟨cq, kq, qa, qb, qc⟩ := isOf (T := T) k2 k9 E
  obtain ⟨v, _, ⟨T', L', c', s'⟩, -, X', hS, hg2, ⟨Lc, ⟨q1, q2, q3⟩, l', y', z', hC⟩, st⟩ := X.virtualBackS k1 (y := yn) (z := zn) k3 (mvT k2 w1) (mvT k2 w2) (nf _ k2) (mvT k2 w5) (mvT k2 w6) hy (o_back (W := (S.map fun v => v.category).sum) M k11 k2 w4 w3 hf hlo V.1.choose_spec V.2.2.1.1 (fun x hx => V.2.2.2 x (hsub x hx))) qa qc (g := mkF C.m pc L (argsL.reverse ++ .ref a :: S)) rfl (hsz.trans k5.symm) (Steps.refl _) (argsL := argsL) (rest := S) hlen rfl (o_zero _ _ (Nat.le_refl _) _ _ _ _) (hb k4 hd) (fun _ _ => ⟨rfl, k9, hc, hs⟩)
  dsimp only [Pt.U, Pt.locs, Pt.cells, Pt.slots] at X' l' y' z' st q2 q3 hS hg2 hC
  subst l' y' z'
  obtain ⟨kk, hk1, hk2⟩ := V.2.1
  have hS2 : C.s.Since T'.vm T'.heap.size := hk1.trans hS (Nat.le_trans hk2 (by rw [← k9]; exact hg2))
  have hZ2 : Z.Warmed39 T'.vm := State.Warmed39.trans (t := C.s.setVm vm0) k2 hS.1
  obtain ⟨rs, q4, q5⟩ := F _ _ _ q3
  obtain ⟨t, o, h1, h2⟩ := r v _ rs q4 T'.vm T' _ ⟨X', k1, hZ2, (hS.1.alike.findClass _ _).trans k3, k4, k5, k6, k7, k8, rfl, Fr.app k10 q1, q2⟩ ((V.step hC ⟨_, hS2, Nat.le_refl _⟩).add q5)
  rw [← o_push] at h1
  exact ⟨t, o, st.trans h1, h2⟩
theorem o_nf {a0 : Array Value} {Cn : String} {yn zn : MethodName} (w5 : (Jvm.Cond.selects Cn yn zn).before a0 Z = true) (q : yn = zn) : ∀ s' : State, Z.Warmed39 s'.vm → NotFace s' yn := by
  subst q; exact fun s' hz => notFace_of_selects (args := #[]) (mvT hz w5)
theorem o_len {d : String} {ps : List FieldType} {r : Option FieldType} (hd : parseMethodDescriptor d = some ⟨ps, r⟩) {n : Nat} (hl : n = ps.length) : ∀ sig, parseMethodDescriptor d = some sig → n = sig.parameters.length := fun sig h => by
  cases hd.symm.trans h; exact hl
theorem s_callU {a0 : Array Value} {index : Nat} {Kn : String} {yn : MethodName} {J : OInfo} {as' : Array Value} {G' : Option Value → Vm → Heap → Prop} {Q' : Option Value → Heap → List Addr → Prop} {argsL : List Value} {a : Addr} {ws' : List Addr} (M : oConG C.l Z n0 EL ws' yn J as' h G') (ha : (.ref a :: argsL).toArray = as') (hsub : ∀ x ∈ ws', x ∈ ws) (E : Ins Z h a Kn true)
    (w1 : (Jvm.Cond.methodLink I.own index yn).before a0 Z = true) (w2 : (Jvm.Cond.sameMethod yn.cls yn.cls yn.name yn.desc).before a0 Z = true) (w5 : (Jvm.Cond.superclass I.own yn.cls).before a0 Z = true) (w6 : (Jvm.Cond.instanceMethod yn).before a0 Z = true) (w3 : (Jvm.Cond.initialized yn.cls).before a0 Z = true) (w4 : (Jvm.Cond.code yn J.bytes J.ml J.ret).before a0 Z = true) (hn : yn.name ≠ "<init>")
    (hlen : ∀ sig, parseMethodDescriptor yn.desc = some sig → argsL.length = sig.parameters.length) (hsz : L.size = I.ml) (hd : decode I.bytes pc = .ok (.invokespecial index, 3)) (hq : pc + 3 = pc') (hf : J.R.frames + 1 ≤ I.R.frames) (hlo : (S.map fun v => v.category).sum + (J.ml + 11) + J.R.locals ≤ I.R.locals) (hc : cs + J.R.cells ≤ I.R.cells) (hs : sl + J.R.slots ≤ I.R.slots)
    (F : ∀ v vm h, G' v vm h → ∃ rs, Q' v h rs ∧ ∀ x ∈ rs, Safe Z EL vm h x ∧ x < h.size) (r : ∀ v h' rs, Q' v h' rs → oRunG C Z n0 I EL (rs ++ ws) G h' (cs + J.R.cells) (sl + J.R.slots) (mkF C.m pc' L (oPush v S))) : oRunG C Z n0 I EL ws G h cs sl (mkF C.m pc L (argsL.reverse ++ .ref a :: S)) := by
  subst hq ha
  intro vm0 T locs K V
  obtain ⟨X, k1, k2, k3, k4, k5, k6, k7, k8, k9, k10, k11⟩ := K
  obtain ⟨v, _, ⟨T', L', c', s'⟩, -, X', hS, hg2, ⟨Lc, ⟨q1, q2, q3⟩, l', y', z', hC⟩, st⟩ := superBackS X k1 k2 k3 w1 w2 w6 w5 hn (o_back (W := (S.map fun v => v.category).sum) M k11 k2 w4 w3 hf hlo V.1.choose_spec V.2.2.1.1 (fun x hx => V.2.2.2 x (hsub x hx))) k9 E (g := mkF C.m pc L (argsL.reverse ++ .ref a :: S)) rfl (hsz.trans k5.symm) w4 (argsL := argsL) (rest := S) hlen rfl (o_zero _ _ (Nat.le_refl _) _ _ _ _) (hb k4 hd) (fun _ _ => ⟨rfl, k9, hc, hs⟩)
  dsimp only [Pt.U, Pt.locs, Pt.cells, Pt.slots] at X' l' y' z' st q2 q3 hS hg2 hC
  subst l' y' z'
  obtain ⟨kk, hk1, hk2⟩ := V.2.1
  have hS2 : C.s.Since T'.vm T'.heap.size := hk1.trans hS (Nat.le_trans hk2 (by rw [← k9]; exact hg2))
  have hZ2 : Z.Warmed39 T'.vm := State.Warmed39.trans (t := C.s.setVm vm0) k2 hS.1
  obtain ⟨rs, q4, q5⟩ := F _ _ _ q3
  obtain ⟨t, o, h1, h2⟩ := r v _ rs q4 T'.vm T' _ ⟨X', k1, hZ2, (hS.1.alike.findClass _ _).trans k3, k4, k5, k6, k7, k8, rfl, Fr.app k10 q1, q2⟩ ((V.step hC ⟨_, hS2, Nat.le_refl _⟩).add q5)
  rw [← o_push] at h1
  exact ⟨t, o, st.trans h1, h2⟩
-- a private method's entry, and a superclass's own one
theorem o_declOf {a0 : Array Value} {y : MethodName} {bytes : ByteArray} {ml : Nat} {ret : Option FieldType} (w : (Jvm.Cond.instanceMethod y).before a0 Z = true) (wc : (Jvm.Cond.code y bytes ml ret).before a0 Z = true) : (Jvm.Cond.declares y).before a0 Z = true := by
  obtain ⟨mk, methM, hnamed, hmethM, hstM, habM⟩ := Cond.instanceMethod_spec w
  obtain ⟨m2, cM, q1, -, -, -, -, -, -, hsig⟩ := Cond.code_spec hnamed wc
  cases hmethM.symm.trans q1
  simp [Cond.before, Cond.holds, Cond.value, hnamed, hmethM, hstM, hsig]
theorem o_nf2 {a0 : Array Value} {y x1 y1 : MethodName} {Cn : String} (w5 : (Jvm.Cond.selects Cn x1 y1).before a0 Z = true) (hc : y1.cls = y.cls) : ∀ s' : State, Z.Warmed39 s'.vm → NotFace s' y := fun s' hz r0 hn => by
  obtain ⟨c2, r2, m2, -, -, q3, -, kP, hkP, hkPi⟩ := Cond.selects_spec (mvT (args := #[]) hz w5)
  have c1 := findClass_of_methodNamed hn
  have c3 := findClass_of_methodNamed q3
  rw [hc] at c3
  have e : m2.cls = r0.cls := Option.some.inj (c3.symm.trans c1)
  rw [e] at hkP
  exact ⟨kP, hkP, hkPi⟩
theorem o_sameOf {a0 : Array Value} {y x1 y1 : MethodName} {Cn : String} (w : (Jvm.Cond.instanceMethod y).before a0 Z = true) (w5 : (Jvm.Cond.selects Cn x1 y1).before a0 Z = true) (hc : y1.cls = y.cls) (hy : y.cls ≠ "java/lang/invoke/MethodHandle" ∧ y.cls ≠ "java/lang/invoke/VarHandle") : (Jvm.Cond.sameMethod y.cls y.cls y.name y.desc).before a0 Z = true := by
  obtain ⟨mk, methM, hnamed, hmethM, hstM, habM⟩ := Cond.instanceMethod_spec w
  obtain ⟨c2, r2, m2, -, -, q3, -, kP, hkP, hkPi⟩ := Cond.selects_spec w5
  have hf := State.methodFound?_of_named hnamed hy
  have c1 := findClass_of_methodNamed hnamed
  have c3 := findClass_of_methodNamed q3
  rw [hc] at c3
  have e : m2.cls = mk.cls := Option.some.inj (c3.symm.trans c1)
  rw [e] at hkP
  simp [Cond.before, Cond.holds, Cond.value, hf, c1, hkP, hkPi, hnamed]
theorem s_callS0 {a0 : Array Value} {index : Nat} {yn : MethodName} {J : OInfo} {Q' : Option Value → Heap → Prop} {ws' : List Addr} (M : oCon C.l Z n0 EL ws' yn J #[] h Q') (hsub : ∀ x ∈ ws', x ∈ ws) (w1 : (Jvm.Cond.methodLink I.own index yn).before a0 Z = true) (w2 : (Jvm.Cond.static yn).before a0 Z = true) (w3 : (Jvm.Cond.initialized yn.cls).before a0 Z = true) (w4 : (Jvm.Cond.code yn J.bytes J.ml J.ret).before a0 Z = true) (hy : yn.cls ≠ "java/lang/invoke/MethodHandle" ∧ yn.cls ≠ "java/lang/invoke/VarHandle")
    (hlen : ∀ sig, parseMethodDescriptor yn.desc = some sig → 0 = sig.parameters.length) (hsz : L.size = I.ml) (hd : decode I.bytes pc = .ok (.invokestatic index, 3)) (hq : pc + 3 = pc') (hf : J.R.frames + 1 ≤ I.R.frames) (hlo : (S.map fun v => v.category).sum + (J.ml + 11) + J.R.locals ≤ I.R.locals) (hc : cs + J.R.cells ≤ I.R.cells) (hs : sl + J.R.slots ≤ I.R.slots)
    (r : ∀ v h', Q' v h' → oRunG C Z n0 I EL ws G h' (cs + J.R.cells) (sl + J.R.slots) (mkF C.m pc' L (oPush v S))) : oRunG C Z n0 I EL ws G h cs sl (mkF C.m pc L (S)) := s_callS (argsL := []) (Q' := fun v h rs => Q' v h ∧ rs = []) M rfl hsub w1 w2 w3 w4 hy hlen hsz hd hq hf hlo hc hs (fun v vm h q => ⟨[], ⟨q, rfl⟩, fun _ hx => nomatch hx⟩) (fun v h' rs q => by obtain ⟨q, rfl⟩ := q; exact r v h' q)
theorem s_callS0R {a0 : Array Value} {index : Nat} {yn : MethodName} {J : OInfo} {Q' : Option Value → Heap → List Addr → Prop} {ws' : List Addr} (M : oConG C.l Z n0 EL ws' yn J #[] h (oR Z EL Q')) (hsub : ∀ x ∈ ws', x ∈ ws) (w1 : (Jvm.Cond.methodLink I.own index yn).before a0 Z = true) (w2 : (Jvm.Cond.static yn).before a0 Z = true) (w3 : (Jvm.Cond.initialized yn.cls).before a0 Z = true) (w4 : (Jvm.Cond.code yn J.bytes J.ml J.ret).before a0 Z = true) (hy : yn.cls ≠ "java/lang/invoke/MethodHandle" ∧ yn.cls ≠ "java/lang/invoke/VarHandle")
    (hlen : ∀ sig, parseMethodDescriptor yn.desc = some sig → 0 = sig.parameters.length) (hsz : L.size = I.ml) (hd : decode I.bytes pc = .ok (.invokestatic index, 3)) (hq : pc + 3 = pc') (hf : J.R.frames + 1 ≤ I.R.frames) (hlo : (S.map fun v => v.category).sum + (J.ml + 11) + J.R.locals ≤ I.R.locals) (hc : cs + J.R.cells ≤ I.R.cells) (hs : sl + J.R.slots ≤ I.R.slots)
    (r : ∀ v h' rs, Q' v h' rs → oRunG C Z n0 I EL (rs ++ ws) G h' (cs + J.R.cells) (sl + J.R.slots) (mkF C.m pc' L (oPush v S))) : oRunG C Z n0 I EL ws G h cs sl (mkF C.m pc L (S)) := s_callS (argsL := []) (Q' := Q') M rfl hsub w1 w2 w3 w4 hy hlen hsz hd hq hf hlo hc hs (fun v vm h q => q) r
theorem s_callI0 {a0 : Array Value} {index : Nat} {yn : MethodName} {J : OInfo} {Q' : Option Value → Heap → Prop} {a : Addr} {ws' : List Addr} (M : oCon C.l Z n0 EL ws' yn J #[.ref a] h Q') (hsub : ∀ x ∈ ws', x ∈ ws) (hr : J.ret = none) (hn : yn.name = "<init>") (w1 : (Jvm.Cond.methodLink I.own index yn).before a0 Z = true) (w2 : (Jvm.Cond.instanceMethod yn).before a0 Z = true) (w3 : (Jvm.Cond.initialized yn.cls).before a0 Z = true) (w4 : (Jvm.Cond.code yn J.bytes J.ml J.ret).before a0 Z = true) (hy : yn.cls ≠ "java/lang/invoke/MethodHandle" ∧ yn.cls ≠ "java/lang/invoke/VarHandle")
    (hlen : ∀ sig, parseMethodDescriptor yn.desc = some sig → 0 = sig.parameters.length) (hsz : L.size = I.ml) (hd : decode I.bytes pc = .ok (.invokespecial index, 3)) (hq : pc + 3 = pc') (hf : J.R.frames + 1 ≤ I.R.frames) (hlo : (S.map fun v => v.category).sum + (J.ml + 11) + J.R.locals ≤ I.R.locals) (hc : cs + J.R.cells ≤ I.R.cells) (hs : sl + J.R.slots ≤ I.R.slots)
    (r : ∀ v h', Q' v h' → oRunG C Z n0 I EL ws G h' (cs + J.R.cells) (sl + J.R.slots) (mkF C.m pc' L (oPush v S))) : oRunG C Z n0 I EL ws G h cs sl (mkF C.m pc L (.ref a :: S)) := s_callI (argsL := []) (Q' := fun v h rs => Q' v h ∧ rs = []) M rfl hsub hr hn w1 w2 w3 w4 hy hlen hsz hd hq hf hlo hc hs (fun v vm h q => ⟨[], ⟨q, rfl⟩, fun _ hx => nomatch hx⟩) (fun v h' rs q => by obtain ⟨q, rfl⟩ := q; exact r v h' q)
theorem s_callI0R {a0 : Array Value} {index : Nat} {yn : MethodName} {J : OInfo} {Q' : Option Value → Heap → List Addr → Prop} {a : Addr} {ws' : List Addr} (M : oConG C.l Z n0 EL ws' yn J #[.ref a] h (oR Z EL Q')) (hsub : ∀ x ∈ ws', x ∈ ws) (hr : J.ret = none) (hn : yn.name = "<init>") (w1 : (Jvm.Cond.methodLink I.own index yn).before a0 Z = true) (w2 : (Jvm.Cond.instanceMethod yn).before a0 Z = true) (w3 : (Jvm.Cond.initialized yn.cls).before a0 Z = true) (w4 : (Jvm.Cond.code yn J.bytes J.ml J.ret).before a0 Z = true) (hy : yn.cls ≠ "java/lang/invoke/MethodHandle" ∧ yn.cls ≠ "java/lang/invoke/VarHandle")
    (hlen : ∀ sig, parseMethodDescriptor yn.desc = some sig → 0 = sig.parameters.length) (hsz : L.size = I.ml) (hd : decode I.bytes pc = .ok (.invokespecial index, 3)) (hq : pc + 3 = pc') (hf : J.R.frames + 1 ≤ I.R.frames) (hlo : (S.map fun v => v.category).sum + (J.ml + 11) + J.R.locals ≤ I.R.locals) (hc : cs + J.R.cells ≤ I.R.cells) (hs : sl + J.R.slots ≤ I.R.slots)
    (r : ∀ v h' rs, Q' v h' rs → oRunG C Z n0 I EL (rs ++ ws) G h' (cs + J.R.cells) (sl + J.R.slots) (mkF C.m pc' L (oPush v S))) : oRunG C Z n0 I EL ws G h cs sl (mkF C.m pc L (.ref a :: S)) := s_callI (argsL := []) (Q' := Q') M rfl hsub hr hn w1 w2 w3 w4 hy hlen hsz hd hq hf hlo hc hs (fun v vm h q => q) r
theorem s_callV0 {a0 : Array Value} {index : Nat} {yn : MethodName} {J : OInfo} {Q' : Option Value → Heap → Prop} {a : Addr} {Cn : String} {zn : MethodName} {ws' : List Addr} (M : oCon C.l Z n0 EL ws' zn J #[.ref a] h Q') (hsub : ∀ x ∈ ws', x ∈ ws) (E : Exa Z h a Cn) (w1 : (Jvm.Cond.methodLink I.own index yn).before a0 Z = true) (w2 : (Jvm.Cond.declares yn).before a0 Z = true) (w5 : (Jvm.Cond.selects Cn yn zn).before a0 Z = true) (w6 : (Jvm.Cond.instanceMethod zn).before a0 Z = true) (nf : ∀ s' : State, Z.Warmed39 s'.vm → NotFace s' yn) (w3 : (Jvm.Cond.initialized zn.cls).before a0 Z = true) (w4 : (Jvm.Cond.code zn J.bytes J.ml J.ret).before a0 Z = true) (hy : yn.cls ≠ "java/lang/invoke/MethodHandle" ∧ yn.cls ≠ "java/lang/invoke/VarHandle")
    (hlen : ∀ sig, parseMethodDescriptor yn.desc = some sig → 0 = sig.parameters.length) (hsz : L.size = I.ml) (hd : decode I.bytes pc = .ok (.invokevirtual index, 3)) (hq : pc + 3 = pc') (hf : J.R.frames + 1 ≤ I.R.frames) (hlo : (S.map fun v => v.category).sum + (J.ml + 11) + J.R.locals ≤ I.R.locals) (hc : cs + J.R.cells ≤ I.R.cells) (hs : sl + J.R.slots ≤ I.R.slots)
    (r : ∀ v h', Q' v h' → oRunG C Z n0 I EL ws G h' (cs + J.R.cells) (sl + J.R.slots) (mkF C.m pc' L (oPush v S))) : oRunG C Z n0 I EL ws G h cs sl (mkF C.m pc L (.ref a :: S)) := s_callV (argsL := []) (Q' := fun v h rs => Q' v h ∧ rs = []) M rfl hsub E w1 w2 w5 w6 nf w3 w4 hy hlen hsz hd hq hf hlo hc hs (fun v vm h q => ⟨[], ⟨q, rfl⟩, fun _ hx => nomatch hx⟩) (fun v h' rs q => by obtain ⟨q, rfl⟩ := q; exact r v h' q)
theorem s_callV0R {a0 : Array Value} {index : Nat} {yn : MethodName} {J : OInfo} {Q' : Option Value → Heap → List Addr → Prop} {a : Addr} {Cn : String} {zn : MethodName} {ws' : List Addr} (M : oConG C.l Z n0 EL ws' zn J #[.ref a] h (oR Z EL Q')) (hsub : ∀ x ∈ ws', x ∈ ws) (E : Exa Z h a Cn) (w1 : (Jvm.Cond.methodLink I.own index yn).before a0 Z = true) (w2 : (Jvm.Cond.declares yn).before a0 Z = true) (w5 : (Jvm.Cond.selects Cn yn zn).before a0 Z = true) (w6 : (Jvm.Cond.instanceMethod zn).before a0 Z = true) (nf : ∀ s' : State, Z.Warmed39 s'.vm → NotFace s' yn) (w3 : (Jvm.Cond.initialized zn.cls).before a0 Z = true) (w4 : (Jvm.Cond.code zn J.bytes J.ml J.ret).before a0 Z = true) (hy : yn.cls ≠ "java/lang/invoke/MethodHandle" ∧ yn.cls ≠ "java/lang/invoke/VarHandle")
    (hlen : ∀ sig, parseMethodDescriptor yn.desc = some sig → 0 = sig.parameters.length) (hsz : L.size = I.ml) (hd : decode I.bytes pc = .ok (.invokevirtual index, 3)) (hq : pc + 3 = pc') (hf : J.R.frames + 1 ≤ I.R.frames) (hlo : (S.map fun v => v.category).sum + (J.ml + 11) + J.R.locals ≤ I.R.locals) (hc : cs + J.R.cells ≤ I.R.cells) (hs : sl + J.R.slots ≤ I.R.slots)
    (r : ∀ v h' rs, Q' v h' rs → oRunG C Z n0 I EL (rs ++ ws) G h' (cs + J.R.cells) (sl + J.R.slots) (mkF C.m pc' L (oPush v S))) : oRunG C Z n0 I EL ws G h cs sl (mkF C.m pc L (.ref a :: S)) := s_callV (argsL := []) (Q' := Q') M rfl hsub E w1 w2 w5 w6 nf w3 w4 hy hlen hsz hd hq hf hlo hc hs (fun v vm h q => q) r
theorem s_callU0 {a0 : Array Value} {index : Nat} {yn : MethodName} {J : OInfo} {Q' : Option Value → Heap → Prop} {a : Addr} {Kn : String} {ws' : List Addr} (M : oCon C.l Z n0 EL ws' yn J #[.ref a] h Q') (hsub : ∀ x ∈ ws', x ∈ ws) (E : Ins Z h a Kn true) (w1 : (Jvm.Cond.methodLink I.own index yn).before a0 Z = true) (w2 : (Jvm.Cond.sameMethod yn.cls yn.cls yn.name yn.desc).before a0 Z = true) (w5 : (Jvm.Cond.superclass I.own yn.cls).before a0 Z = true) (w6 : (Jvm.Cond.instanceMethod yn).before a0 Z = true) (w3 : (Jvm.Cond.initialized yn.cls).before a0 Z = true) (w4 : (Jvm.Cond.code yn J.bytes J.ml J.ret).before a0 Z = true) (hn : yn.name ≠ "<init>")
    (hlen : ∀ sig, parseMethodDescriptor yn.desc = some sig → 0 = sig.parameters.length) (hsz : L.size = I.ml) (hd : decode I.bytes pc = .ok (.invokespecial index, 3)) (hq : pc + 3 = pc') (hf : J.R.frames + 1 ≤ I.R.frames) (hlo : (S.map fun v => v.category).sum + (J.ml + 11) + J.R.locals ≤ I.R.locals) (hc : cs + J.R.cells ≤ I.R.cells) (hs : sl + J.R.slots ≤ I.R.slots)
    (r : ∀ v h', Q' v h' → oRunG C Z n0 I EL ws G h' (cs + J.R.cells) (sl + J.R.slots) (mkF C.m pc' L (oPush v S))) : oRunG C Z n0 I EL ws G h cs sl (mkF C.m pc L (.ref a :: S)) := s_callU (argsL := []) (Q' := fun v h rs => Q' v h ∧ rs = []) M rfl hsub E w1 w2 w5 w6 w3 w4 hn hlen hsz hd hq hf hlo hc hs (fun v vm h q => ⟨[], ⟨q, rfl⟩, fun _ hx => nomatch hx⟩) (fun v h' rs q => by obtain ⟨q, rfl⟩ := q; exact r v h' q)
theorem s_callU0R {a0 : Array Value} {index : Nat} {yn : MethodName} {J : OInfo} {Q' : Option Value → Heap → List Addr → Prop} {a : Addr} {Kn : String} {ws' : List Addr} (M : oConG C.l Z n0 EL ws' yn J #[.ref a] h (oR Z EL Q')) (hsub : ∀ x ∈ ws', x ∈ ws) (E : Ins Z h a Kn true) (w1 : (Jvm.Cond.methodLink I.own index yn).before a0 Z = true) (w2 : (Jvm.Cond.sameMethod yn.cls yn.cls yn.name yn.desc).before a0 Z = true) (w5 : (Jvm.Cond.superclass I.own yn.cls).before a0 Z = true) (w6 : (Jvm.Cond.instanceMethod yn).before a0 Z = true) (w3 : (Jvm.Cond.initialized yn.cls).before a0 Z = true) (w4 : (Jvm.Cond.code yn J.bytes J.ml J.ret).before a0 Z = true) (hn : yn.name ≠ "<init>")
    (hlen : ∀ sig, parseMethodDescriptor yn.desc = some sig → 0 = sig.parameters.length) (hsz : L.size = I.ml) (hd : decode I.bytes pc = .ok (.invokespecial index, 3)) (hq : pc + 3 = pc') (hf : J.R.frames + 1 ≤ I.R.frames) (hlo : (S.map fun v => v.category).sum + (J.ml + 11) + J.R.locals ≤ I.R.locals) (hc : cs + J.R.cells ≤ I.R.cells) (hs : sl + J.R.slots ≤ I.R.slots)
    (r : ∀ v h' rs, Q' v h' rs → oRunG C Z n0 I EL (rs ++ ws) G h' (cs + J.R.cells) (sl + J.R.slots) (mkF C.m pc' L (oPush v S))) : oRunG C Z n0 I EL ws G h cs sl (mkF C.m pc L (.ref a :: S)) := s_callU (argsL := []) (Q' := Q') M rfl hsub E w1 w2 w5 w6 w3 w4 hn hlen hsz hd hq hf hlo hc hs (fun v vm h q => q) r
theorem s_callS1 {a0 : Array Value} {index : Nat} {yn : MethodName} {J : OInfo} {Q' : Option Value → Heap → Prop} {ws' : List Addr} {v0 : Value} (M : oCon C.l Z n0 EL ws' yn J #[v0] h Q') (hsub : ∀ x ∈ ws', x ∈ ws) (w1 : (Jvm.Cond.methodLink I.own index yn).before a0 Z = true) (w2 : (Jvm.Cond.static yn).before a0 Z = true) (w3 : (Jvm.Cond.initialized yn.cls).before a0 Z = true) (w4 : (Jvm.Cond.code yn J.bytes J.ml J.ret).before a0 Z = true) (hy : yn.cls ≠ "java/lang/invoke/MethodHandle" ∧ yn.cls ≠ "java/lang/invoke/VarHandle")
    (hlen : ∀ sig, parseMethodDescriptor yn.desc = some sig → 1 = sig.parameters.length) (hsz : L.size = I.ml) (hd : decode I.bytes pc = .ok (.invokestatic index, 3)) (hq : pc + 3 = pc') (hf : J.R.frames + 1 ≤ I.R.frames) (hlo : (S.map fun v => v.category).sum + (J.ml + 11) + J.R.locals ≤ I.R.locals) (hc : cs + J.R.cells ≤ I.R.cells) (hs : sl + J.R.slots ≤ I.R.slots)
    (r : ∀ v h', Q' v h' → oRunG C Z n0 I EL ws G h' (cs + J.R.cells) (sl + J.R.slots) (mkF C.m pc' L (oPush v S))) : oRunG C Z n0 I EL ws G h cs sl (mkF C.m pc L (v0 :: S)) := s_callS (argsL := [v0]) (Q' := fun v h rs => Q' v h ∧ rs = []) M rfl hsub w1 w2 w3 w4 hy hlen hsz hd hq hf hlo hc hs (fun v vm h q => ⟨[], ⟨q, rfl⟩, fun _ hx => nomatch hx⟩) (fun v h' rs q => by obtain ⟨q, rfl⟩ := q; exact r v h' q)
theorem s_callS1R {a0 : Array Value} {index : Nat} {yn : MethodName} {J : OInfo} {Q' : Option Value → Heap → List Addr → Prop} {ws' : List Addr} {v0 : Value} (M : oConG C.l Z n0 EL ws' yn J #[v0] h (oR Z EL Q')) (hsub : ∀ x ∈ ws', x ∈ ws) (w1 : (Jvm.Cond.methodLink I.own index yn).before a0 Z = true) (w2 : (Jvm.Cond.static yn).before a0 Z = true) (w3 : (Jvm.Cond.initialized yn.cls).before a0 Z = true) (w4 : (Jvm.Cond.code yn J.bytes J.ml J.ret).before a0 Z = true) (hy : yn.cls ≠ "java/lang/invoke/MethodHandle" ∧ yn.cls ≠ "java/lang/invoke/VarHandle")
    (hlen : ∀ sig, parseMethodDescriptor yn.desc = some sig → 1 = sig.parameters.length) (hsz : L.size = I.ml) (hd : decode I.bytes pc = .ok (.invokestatic index, 3)) (hq : pc + 3 = pc') (hf : J.R.frames + 1 ≤ I.R.frames) (hlo : (S.map fun v => v.category).sum + (J.ml + 11) + J.R.locals ≤ I.R.locals) (hc : cs + J.R.cells ≤ I.R.cells) (hs : sl + J.R.slots ≤ I.R.slots)
    (r : ∀ v h' rs, Q' v h' rs → oRunG C Z n0 I EL (rs ++ ws) G h' (cs + J.R.cells) (sl + J.R.slots) (mkF C.m pc' L (oPush v S))) : oRunG C Z n0 I EL ws G h cs sl (mkF C.m pc L (v0 :: S)) := s_callS (argsL := [v0]) (Q' := Q') M rfl hsub w1 w2 w3 w4 hy hlen hsz hd hq hf hlo hc hs (fun v vm h q => q) r
theorem s_callI1 {a0 : Array Value} {index : Nat} {yn : MethodName} {J : OInfo} {Q' : Option Value → Heap → Prop} {a : Addr} {ws' : List Addr} {v0 : Value} (M : oCon C.l Z n0 EL ws' yn J #[.ref a, v0] h Q') (hsub : ∀ x ∈ ws', x ∈ ws) (hr : J.ret = none) (hn : yn.name = "<init>") (w1 : (Jvm.Cond.methodLink I.own index yn).before a0 Z = true) (w2 : (Jvm.Cond.instanceMethod yn).before a0 Z = true) (w3 : (Jvm.Cond.initialized yn.cls).before a0 Z = true) (w4 : (Jvm.Cond.code yn J.bytes J.ml J.ret).before a0 Z = true) (hy : yn.cls ≠ "java/lang/invoke/MethodHandle" ∧ yn.cls ≠ "java/lang/invoke/VarHandle")
    (hlen : ∀ sig, parseMethodDescriptor yn.desc = some sig → 1 = sig.parameters.length) (hsz : L.size = I.ml) (hd : decode I.bytes pc = .ok (.invokespecial index, 3)) (hq : pc + 3 = pc') (hf : J.R.frames + 1 ≤ I.R.frames) (hlo : (S.map fun v => v.category).sum + (J.ml + 11) + J.R.locals ≤ I.R.locals) (hc : cs + J.R.cells ≤ I.R.cells) (hs : sl + J.R.slots ≤ I.R.slots)
    (r : ∀ v h', Q' v h' → oRunG C Z n0 I EL ws G h' (cs + J.R.cells) (sl + J.R.slots) (mkF C.m pc' L (oPush v S))) : oRunG C Z n0 I EL ws G h cs sl (mkF C.m pc L (v0 :: .ref a :: S)) := s_callI (argsL := [v0]) (Q' := fun v h rs => Q' v h ∧ rs = []) M rfl hsub hr hn w1 w2 w3 w4 hy hlen hsz hd hq hf hlo hc hs (fun v vm h q => ⟨[], ⟨q, rfl⟩, fun _ hx => nomatch hx⟩) (fun v h' rs q => by obtain ⟨q, rfl⟩ := q; exact r v h' q)
theorem s_callI1R {a0 : Array Value} {index : Nat} {yn : MethodName} {J : OInfo} {Q' : Option Value → Heap → List Addr → Prop} {a : Addr} {ws' : List Addr} {v0 : Value} (M : oConG C.l Z n0 EL ws' yn J #[.ref a, v0] h (oR Z EL Q')) (hsub : ∀ x ∈ ws', x ∈ ws) (hr : J.ret = none) (hn : yn.name = "<init>") (w1 : (Jvm.Cond.methodLink I.own index yn).before a0 Z = true) (w2 : (Jvm.Cond.instanceMethod yn).before a0 Z = true) (w3 : (Jvm.Cond.initialized yn.cls).before a0 Z = true) (w4 : (Jvm.Cond.code yn J.bytes J.ml J.ret).before a0 Z = true) (hy : yn.cls ≠ "java/lang/invoke/MethodHandle" ∧ yn.cls ≠ "java/lang/invoke/VarHandle")
    (hlen : ∀ sig, parseMethodDescriptor yn.desc = some sig → 1 = sig.parameters.length) (hsz : L.size = I.ml) (hd : decode I.bytes pc = .ok (.invokespecial index, 3)) (hq : pc + 3 = pc') (hf : J.R.frames + 1 ≤ I.R.frames) (hlo : (S.map fun v => v.category).sum + (J.ml + 11) + J.R.locals ≤ I.R.locals) (hc : cs + J.R.cells ≤ I.R.cells) (hs : sl + J.R.slots ≤ I.R.slots)
    (r : ∀ v h' rs, Q' v h' rs → oRunG C Z n0 I EL (rs ++ ws) G h' (cs + J.R.cells) (sl + J.R.slots) (mkF C.m pc' L (oPush v S))) : oRunG C Z n0 I EL ws G h cs sl (mkF C.m pc L (v0 :: .ref a :: S)) := s_callI (argsL := [v0]) (Q' := Q') M rfl hsub hr hn w1 w2 w3 w4 hy hlen hsz hd hq hf hlo hc hs (fun v vm h q => q) r
theorem s_callV1 {a0 : Array Value} {index : Nat} {yn : MethodName} {J : OInfo} {Q' : Option Value → Heap → Prop} {a : Addr} {Cn : String} {zn : MethodName} {ws' : List Addr} {v0 : Value} (M : oCon C.l Z n0 EL ws' zn J #[.ref a, v0] h Q') (hsub : ∀ x ∈ ws', x ∈ ws) (E : Exa Z h a Cn) (w1 : (Jvm.Cond.methodLink I.own index yn).before a0 Z = true) (w2 : (Jvm.Cond.declares yn).before a0 Z = true) (w5 : (Jvm.Cond.selects Cn yn zn).before a0 Z = true) (w6 : (Jvm.Cond.instanceMethod zn).before a0 Z = true) (nf : ∀ s' : State, Z.Warmed39 s'.vm → NotFace s' yn) (w3 : (Jvm.Cond.initialized zn.cls).before a0 Z = true) (w4 : (Jvm.Cond.code zn J.bytes J.ml J.ret).before a0 Z = true) (hy : yn.cls ≠ "java/lang/invoke/MethodHandle" ∧ yn.cls ≠ "java/lang/invoke/VarHandle")
    (hlen : ∀ sig, parseMethodDescriptor yn.desc = some sig → 1 = sig.parameters.length) (hsz : L.size = I.ml) (hd : decode I.bytes pc = .ok (.invokevirtual index, 3)) (hq : pc + 3 = pc') (hf : J.R.frames + 1 ≤ I.R.frames) (hlo : (S.map fun v => v.category).sum + (J.ml + 11) + J.R.locals ≤ I.R.locals) (hc : cs + J.R.cells ≤ I.R.cells) (hs : sl + J.R.slots ≤ I.R.slots)
    (r : ∀ v h', Q' v h' → oRunG C Z n0 I EL ws G h' (cs + J.R.cells) (sl + J.R.slots) (mkF C.m pc' L (oPush v S))) : oRunG C Z n0 I EL ws G h cs sl (mkF C.m pc L (v0 :: .ref a :: S)) := s_callV (argsL := [v0]) (Q' := fun v h rs => Q' v h ∧ rs = []) M rfl hsub E w1 w2 w5 w6 nf w3 w4 hy hlen hsz hd hq hf hlo hc hs (fun v vm h q => ⟨[], ⟨q, rfl⟩, fun _ hx => nomatch hx⟩) (fun v h' rs q => by obtain ⟨q, rfl⟩ := q; exact r v h' q)
theorem s_callV1R {a0 : Array Value} {index : Nat} {yn : MethodName} {J : OInfo} {Q' : Option Value → Heap → List Addr → Prop} {a : Addr} {Cn : String} {zn : MethodName} {ws' : List Addr} {v0 : Value} (M : oConG C.l Z n0 EL ws' zn J #[.ref a, v0] h (oR Z EL Q')) (hsub : ∀ x ∈ ws', x ∈ ws) (E : Exa Z h a Cn) (w1 : (Jvm.Cond.methodLink I.own index yn).before a0 Z = true) (w2 : (Jvm.Cond.declares yn).before a0 Z = true) (w5 : (Jvm.Cond.selects Cn yn zn).before a0 Z = true) (w6 : (Jvm.Cond.instanceMethod zn).before a0 Z = true) (nf : ∀ s' : State, Z.Warmed39 s'.vm → NotFace s' yn) (w3 : (Jvm.Cond.initialized zn.cls).before a0 Z = true) (w4 : (Jvm.Cond.code zn J.bytes J.ml J.ret).before a0 Z = true) (hy : yn.cls ≠ "java/lang/invoke/MethodHandle" ∧ yn.cls ≠ "java/lang/invoke/VarHandle")
    (hlen : ∀ sig, parseMethodDescriptor yn.desc = some sig → 1 = sig.parameters.length) (hsz : L.size = I.ml) (hd : decode I.bytes pc = .ok (.invokevirtual index, 3)) (hq : pc + 3 = pc') (hf : J.R.frames + 1 ≤ I.R.frames) (hlo : (S.map fun v => v.category).sum + (J.ml + 11) + J.R.locals ≤ I.R.locals) (hc : cs + J.R.cells ≤ I.R.cells) (hs : sl + J.R.slots ≤ I.R.slots)
    (r : ∀ v h' rs, Q' v h' rs → oRunG C Z n0 I EL (rs ++ ws) G h' (cs + J.R.cells) (sl + J.R.slots) (mkF C.m pc' L (oPush v S))) : oRunG C Z n0 I EL ws G h cs sl (mkF C.m pc L (v0 :: .ref a :: S)) := s_callV (argsL := [v0]) (Q' := Q') M rfl hsub E w1 w2 w5 w6 nf w3 w4 hy hlen hsz hd hq hf hlo hc hs (fun v vm h q => q) r
theorem s_callU1 {a0 : Array Value} {index : Nat} {yn : MethodName} {J : OInfo} {Q' : Option Value → Heap → Prop} {a : Addr} {Kn : String} {ws' : List Addr} {v0 : Value} (M : oCon C.l Z n0 EL ws' yn J #[.ref a, v0] h Q') (hsub : ∀ x ∈ ws', x ∈ ws) (E : Ins Z h a Kn true) (w1 : (Jvm.Cond.methodLink I.own index yn).before a0 Z = true) (w2 : (Jvm.Cond.sameMethod yn.cls yn.cls yn.name yn.desc).before a0 Z = true) (w5 : (Jvm.Cond.superclass I.own yn.cls).before a0 Z = true) (w6 : (Jvm.Cond.instanceMethod yn).before a0 Z = true) (w3 : (Jvm.Cond.initialized yn.cls).before a0 Z = true) (w4 : (Jvm.Cond.code yn J.bytes J.ml J.ret).before a0 Z = true) (hn : yn.name ≠ "<init>")
    (hlen : ∀ sig, parseMethodDescriptor yn.desc = some sig → 1 = sig.parameters.length) (hsz : L.size = I.ml) (hd : decode I.bytes pc = .ok (.invokespecial index, 3)) (hq : pc + 3 = pc') (hf : J.R.frames + 1 ≤ I.R.frames) (hlo : (S.map fun v => v.category).sum + (J.ml + 11) + J.R.locals ≤ I.R.locals) (hc : cs + J.R.cells ≤ I.R.cells) (hs : sl + J.R.slots ≤ I.R.slots)
    (r : ∀ v h', Q' v h' → oRunG C Z n0 I EL ws G h' (cs + J.R.cells) (sl + J.R.slots) (mkF C.m pc' L (oPush v S))) : oRunG C Z n0 I EL ws G h cs sl (mkF C.m pc L (v0 :: .ref a :: S)) := s_callU (argsL := [v0]) (Q' := fun v h rs => Q' v h ∧ rs = []) M rfl hsub E w1 w2 w5 w6 w3 w4 hn hlen hsz hd hq hf hlo hc hs (fun v vm h q => ⟨[], ⟨q, rfl⟩, fun _ hx => nomatch hx⟩) (fun v h' rs q => by obtain ⟨q, rfl⟩ := q; exact r v h' q)
theorem s_callU1R {a0 : Array Value} {index : Nat} {yn : MethodName} {J : OInfo} {Q' : Option Value → Heap → List Addr → Prop} {a : Addr} {Kn : String} {ws' : List Addr} {v0 : Value} (M : oConG C.l Z n0 EL ws' yn J #[.ref a, v0] h (oR Z EL Q')) (hsub : ∀ x ∈ ws', x ∈ ws) (E : Ins Z h a Kn true) (w1 : (Jvm.Cond.methodLink I.own index yn).before a0 Z = true) (w2 : (Jvm.Cond.sameMethod yn.cls yn.cls yn.name yn.desc).before a0 Z = true) (w5 : (Jvm.Cond.superclass I.own yn.cls).before a0 Z = true) (w6 : (Jvm.Cond.instanceMethod yn).before a0 Z = true) (w3 : (Jvm.Cond.initialized yn.cls).before a0 Z = true) (w4 : (Jvm.Cond.code yn J.bytes J.ml J.ret).before a0 Z = true) (hn : yn.name ≠ "<init>")
    (hlen : ∀ sig, parseMethodDescriptor yn.desc = some sig → 1 = sig.parameters.length) (hsz : L.size = I.ml) (hd : decode I.bytes pc = .ok (.invokespecial index, 3)) (hq : pc + 3 = pc') (hf : J.R.frames + 1 ≤ I.R.frames) (hlo : (S.map fun v => v.category).sum + (J.ml + 11) + J.R.locals ≤ I.R.locals) (hc : cs + J.R.cells ≤ I.R.cells) (hs : sl + J.R.slots ≤ I.R.slots)
    (r : ∀ v h' rs, Q' v h' rs → oRunG C Z n0 I EL (rs ++ ws) G h' (cs + J.R.cells) (sl + J.R.slots) (mkF C.m pc' L (oPush v S))) : oRunG C Z n0 I EL ws G h cs sl (mkF C.m pc L (v0 :: .ref a :: S)) := s_callU (argsL := [v0]) (Q' := Q') M rfl hsub E w1 w2 w5 w6 w3 w4 hn hlen hsz hd hq hf hlo hc hs (fun v vm h q => q) r
theorem s_callS2 {a0 : Array Value} {index : Nat} {yn : MethodName} {J : OInfo} {Q' : Option Value → Heap → Prop} {ws' : List Addr} {v0 v1 : Value} (M : oCon C.l Z n0 EL ws' yn J #[v0, v1] h Q') (hsub : ∀ x ∈ ws', x ∈ ws) (w1 : (Jvm.Cond.methodLink I.own index yn).before a0 Z = true) (w2 : (Jvm.Cond.static yn).before a0 Z = true) (w3 : (Jvm.Cond.initialized yn.cls).before a0 Z = true) (w4 : (Jvm.Cond.code yn J.bytes J.ml J.ret).before a0 Z = true) (hy : yn.cls ≠ "java/lang/invoke/MethodHandle" ∧ yn.cls ≠ "java/lang/invoke/VarHandle")
    (hlen : ∀ sig, parseMethodDescriptor yn.desc = some sig → 2 = sig.parameters.length) (hsz : L.size = I.ml) (hd : decode I.bytes pc = .ok (.invokestatic index, 3)) (hq : pc + 3 = pc') (hf : J.R.frames + 1 ≤ I.R.frames) (hlo : (S.map fun v => v.category).sum + (J.ml + 11) + J.R.locals ≤ I.R.locals) (hc : cs + J.R.cells ≤ I.R.cells) (hs : sl + J.R.slots ≤ I.R.slots)
    (r : ∀ v h', Q' v h' → oRunG C Z n0 I EL ws G h' (cs + J.R.cells) (sl + J.R.slots) (mkF C.m pc' L (oPush v S))) : oRunG C Z n0 I EL ws G h cs sl (mkF C.m pc L (v1 :: v0 :: S)) := s_callS (argsL := [v0, v1]) (Q' := fun v h rs => Q' v h ∧ rs = []) M rfl hsub w1 w2 w3 w4 hy hlen hsz hd hq hf hlo hc hs (fun v vm h q => ⟨[], ⟨q, rfl⟩, fun _ hx => nomatch hx⟩) (fun v h' rs q => by obtain ⟨q, rfl⟩ := q; exact r v h' q)
theorem s_callS2R {a0 : Array Value} {index : Nat} {yn : MethodName} {J : OInfo} {Q' : Option Value → Heap → List Addr → Prop} {ws' : List Addr} {v0 v1 : Value} (M : oConG C.l Z n0 EL ws' yn J #[v0, v1] h (oR Z EL Q')) (hsub : ∀ x ∈ ws', x ∈ ws) (w1 : (Jvm.Cond.methodLink I.own index yn).before a0 Z = true) (w2 : (Jvm.Cond.static yn).before a0 Z = true) (w3 : (Jvm.Cond.initialized yn.cls).before a0 Z = true) (w4 : (Jvm.Cond.code yn J.bytes J.ml J.ret).before a0 Z = true) (hy : yn.cls ≠ "java/lang/invoke/MethodHandle" ∧ yn.cls ≠ "java/lang/invoke/VarHandle")
    (hlen : ∀ sig, parseMethodDescriptor yn.desc = some sig → 2 = sig.parameters.length) (hsz : L.size = I.ml) (hd : decode I.bytes pc = .ok (.invokestatic index, 3)) (hq : pc + 3 = pc') (hf : J.R.frames + 1 ≤ I.R.frames) (hlo : (S.map fun v => v.category).sum + (J.ml + 11) + J.R.locals ≤ I.R.locals) (hc : cs + J.R.cells ≤ I.R.cells) (hs : sl + J.R.slots ≤ I.R.slots)
    (r : ∀ v h' rs, Q' v h' rs → oRunG C Z n0 I EL (rs ++ ws) G h' (cs + J.R.cells) (sl + J.R.slots) (mkF C.m pc' L (oPush v S))) : oRunG C Z n0 I EL ws G h cs sl (mkF C.m pc L (v1 :: v0 :: S)) := s_callS (argsL := [v0, v1]) (Q' := Q') M rfl hsub w1 w2 w3 w4 hy hlen hsz hd hq hf hlo hc hs (fun v vm h q => q) r
theorem s_callI2 {a0 : Array Value} {index : Nat} {yn : MethodName} {J : OInfo} {Q' : Option Value → Heap → Prop} {a : Addr} {ws' : List Addr} {v0 v1 : Value} (M : oCon C.l Z n0 EL ws' yn J #[.ref a, v0, v1] h Q') (hsub : ∀ x ∈ ws', x ∈ ws) (hr : J.ret = none) (hn : yn.name = "<init>") (w1 : (Jvm.Cond.methodLink I.own index yn).before a0 Z = true) (w2 : (Jvm.Cond.instanceMethod yn).before a0 Z = true) (w3 : (Jvm.Cond.initialized yn.cls).before a0 Z = true) (w4 : (Jvm.Cond.code yn J.bytes J.ml J.ret).before a0 Z = true) (hy : yn.cls ≠ "java/lang/invoke/MethodHandle" ∧ yn.cls ≠ "java/lang/invoke/VarHandle")
    (hlen : ∀ sig, parseMethodDescriptor yn.desc = some sig → 2 = sig.parameters.length) (hsz : L.size = I.ml) (hd : decode I.bytes pc = .ok (.invokespecial index, 3)) (hq : pc + 3 = pc') (hf : J.R.frames + 1 ≤ I.R.frames) (hlo : (S.map fun v => v.category).sum + (J.ml + 11) + J.R.locals ≤ I.R.locals) (hc : cs + J.R.cells ≤ I.R.cells) (hs : sl + J.R.slots ≤ I.R.slots)
    (r : ∀ v h', Q' v h' → oRunG C Z n0 I EL ws G h' (cs + J.R.cells) (sl + J.R.slots) (mkF C.m pc' L (oPush v S))) : oRunG C Z n0 I EL ws G h cs sl (mkF C.m pc L (v1 :: v0 :: .ref a :: S)) := s_callI (argsL := [v0, v1]) (Q' := fun v h rs => Q' v h ∧ rs = []) M rfl hsub hr hn w1 w2 w3 w4 hy hlen hsz hd hq hf hlo hc hs (fun v vm h q => ⟨[], ⟨q, rfl⟩, fun _ hx => nomatch hx⟩) (fun v h' rs q => by obtain ⟨q, rfl⟩ := q; exact r v h' q)
theorem s_callI2R {a0 : Array Value} {index : Nat} {yn : MethodName} {J : OInfo} {Q' : Option Value → Heap → List Addr → Prop} {a : Addr} {ws' : List Addr} {v0 v1 : Value} (M : oConG C.l Z n0 EL ws' yn J #[.ref a, v0, v1] h (oR Z EL Q')) (hsub : ∀ x ∈ ws', x ∈ ws) (hr : J.ret = none) (hn : yn.name = "<init>") (w1 : (Jvm.Cond.methodLink I.own index yn).before a0 Z = true) (w2 : (Jvm.Cond.instanceMethod yn).before a0 Z = true) (w3 : (Jvm.Cond.initialized yn.cls).before a0 Z = true) (w4 : (Jvm.Cond.code yn J.bytes J.ml J.ret).before a0 Z = true) (hy : yn.cls ≠ "java/lang/invoke/MethodHandle" ∧ yn.cls ≠ "java/lang/invoke/VarHandle")
    (hlen : ∀ sig, parseMethodDescriptor yn.desc = some sig → 2 = sig.parameters.length) (hsz : L.size = I.ml) (hd : decode I.bytes pc = .ok (.invokespecial index, 3)) (hq : pc + 3 = pc') (hf : J.R.frames + 1 ≤ I.R.frames) (hlo : (S.map fun v => v.category).sum + (J.ml + 11) + J.R.locals ≤ I.R.locals) (hc : cs + J.R.cells ≤ I.R.cells) (hs : sl + J.R.slots ≤ I.R.slots)
    (r : ∀ v h' rs, Q' v h' rs → oRunG C Z n0 I EL (rs ++ ws) G h' (cs + J.R.cells) (sl + J.R.slots) (mkF C.m pc' L (oPush v S))) : oRunG C Z n0 I EL ws G h cs sl (mkF C.m pc L (v1 :: v0 :: .ref a :: S)) := s_callI (argsL := [v0, v1]) (Q' := Q') M rfl hsub hr hn w1 w2 w3 w4 hy hlen hsz hd hq hf hlo hc hs (fun v vm h q => q) r
theorem s_callV2 {a0 : Array Value} {index : Nat} {yn : MethodName} {J : OInfo} {Q' : Option Value → Heap → Prop} {a : Addr} {Cn : String} {zn : MethodName} {ws' : List Addr} {v0 v1 : Value} (M : oCon C.l Z n0 EL ws' zn J #[.ref a, v0, v1] h Q') (hsub : ∀ x ∈ ws', x ∈ ws) (E : Exa Z h a Cn) (w1 : (Jvm.Cond.methodLink I.own index yn).before a0 Z = true) (w2 : (Jvm.Cond.declares yn).before a0 Z = true) (w5 : (Jvm.Cond.selects Cn yn zn).before a0 Z = true) (w6 : (Jvm.Cond.instanceMethod zn).before a0 Z = true) (nf : ∀ s' : State, Z.Warmed39 s'.vm → NotFace s' yn) (w3 : (Jvm.Cond.initialized zn.cls).before a0 Z = true) (w4 : (Jvm.Cond.code zn J.bytes J.ml J.ret).before a0 Z = true) (hy : yn.cls ≠ "java/lang/invoke/MethodHandle" ∧ yn.cls ≠ "java/lang/invoke/VarHandle")
    (hlen : ∀ sig, parseMethodDescriptor yn.desc = some sig → 2 = sig.parameters.length) (hsz : L.size = I.ml) (hd : decode I.bytes pc = .ok (.invokevirtual index, 3)) (hq : pc + 3 = pc') (hf : J.R.frames + 1 ≤ I.R.frames) (hlo : (S.map fun v => v.category).sum + (J.ml + 11) + J.R.locals ≤ I.R.locals) (hc : cs + J.R.cells ≤ I.R.cells) (hs : sl + J.R.slots ≤ I.R.slots)
    (r : ∀ v h', Q' v h' → oRunG C Z n0 I EL ws G h' (cs + J.R.cells) (sl + J.R.slots) (mkF C.m pc' L (oPush v S))) : oRunG C Z n0 I EL ws G h cs sl (mkF C.m pc L (v1 :: v0 :: .ref a :: S)) := s_callV (argsL := [v0, v1]) (Q' := fun v h rs => Q' v h ∧ rs = []) M rfl hsub E w1 w2 w5 w6 nf w3 w4 hy hlen hsz hd hq hf hlo hc hs (fun v vm h q => ⟨[], ⟨q, rfl⟩, fun _ hx => nomatch hx⟩) (fun v h' rs q => by obtain ⟨q, rfl⟩ := q; exact r v h' q)
theorem s_callV2R {a0 : Array Value} {index : Nat} {yn : MethodName} {J : OInfo} {Q' : Option Value → Heap → List Addr → Prop} {a : Addr} {Cn : String} {zn : MethodName} {ws' : List Addr} {v0 v1 : Value} (M : oConG C.l Z n0 EL ws' zn J #[.ref a, v0, v1] h (oR Z EL Q')) (hsub : ∀ x ∈ ws', x ∈ ws) (E : Exa Z h a Cn) (w1 : (Jvm.Cond.methodLink I.own index yn).before a0 Z = true) (w2 : (Jvm.Cond.declares yn).before a0 Z = true) (w5 : (Jvm.Cond.selects Cn yn zn).before a0 Z = true) (w6 : (Jvm.Cond.instanceMethod zn).before a0 Z = true) (nf : ∀ s' : State, Z.Warmed39 s'.vm → NotFace s' yn) (w3 : (Jvm.Cond.initialized zn.cls).before a0 Z = true) (w4 : (Jvm.Cond.code zn J.bytes J.ml J.ret).before a0 Z = true) (hy : yn.cls ≠ "java/lang/invoke/MethodHandle" ∧ yn.cls ≠ "java/lang/invoke/VarHandle")
    (hlen : ∀ sig, parseMethodDescriptor yn.desc = some sig → 2 = sig.parameters.length) (hsz : L.size = I.ml) (hd : decode I.bytes pc = .ok (.invokevirtual index, 3)) (hq : pc + 3 = pc') (hf : J.R.frames + 1 ≤ I.R.frames) (hlo : (S.map fun v => v.category).sum + (J.ml + 11) + J.R.locals ≤ I.R.locals) (hc : cs + J.R.cells ≤ I.R.cells) (hs : sl + J.R.slots ≤ I.R.slots)
    (r : ∀ v h' rs, Q' v h' rs → oRunG C Z n0 I EL (rs ++ ws) G h' (cs + J.R.cells) (sl + J.R.slots) (mkF C.m pc' L (oPush v S))) : oRunG C Z n0 I EL ws G h cs sl (mkF C.m pc L (v1 :: v0 :: .ref a :: S)) := s_callV (argsL := [v0, v1]) (Q' := Q') M rfl hsub E w1 w2 w5 w6 nf w3 w4 hy hlen hsz hd hq hf hlo hc hs (fun v vm h q => q) r
theorem s_callU2 {a0 : Array Value} {index : Nat} {yn : MethodName} {J : OInfo} {Q' : Option Value → Heap → Prop} {a : Addr} {Kn : String} {ws' : List Addr} {v0 v1 : Value} (M : oCon C.l Z n0 EL ws' yn J #[.ref a, v0, v1] h Q') (hsub : ∀ x ∈ ws', x ∈ ws) (E : Ins Z h a Kn true) (w1 : (Jvm.Cond.methodLink I.own index yn).before a0 Z = true) (w2 : (Jvm.Cond.sameMethod yn.cls yn.cls yn.name yn.desc).before a0 Z = true) (w5 : (Jvm.Cond.superclass I.own yn.cls).before a0 Z = true) (w6 : (Jvm.Cond.instanceMethod yn).before a0 Z = true) (w3 : (Jvm.Cond.initialized yn.cls).before a0 Z = true) (w4 : (Jvm.Cond.code yn J.bytes J.ml J.ret).before a0 Z = true) (hn : yn.name ≠ "<init>")
    (hlen : ∀ sig, parseMethodDescriptor yn.desc = some sig → 2 = sig.parameters.length) (hsz : L.size = I.ml) (hd : decode I.bytes pc = .ok (.invokespecial index, 3)) (hq : pc + 3 = pc') (hf : J.R.frames + 1 ≤ I.R.frames) (hlo : (S.map fun v => v.category).sum + (J.ml + 11) + J.R.locals ≤ I.R.locals) (hc : cs + J.R.cells ≤ I.R.cells) (hs : sl + J.R.slots ≤ I.R.slots)
    (r : ∀ v h', Q' v h' → oRunG C Z n0 I EL ws G h' (cs + J.R.cells) (sl + J.R.slots) (mkF C.m pc' L (oPush v S))) : oRunG C Z n0 I EL ws G h cs sl (mkF C.m pc L (v1 :: v0 :: .ref a :: S)) := s_callU (argsL := [v0, v1]) (Q' := fun v h rs => Q' v h ∧ rs = []) M rfl hsub E w1 w2 w5 w6 w3 w4 hn hlen hsz hd hq hf hlo hc hs (fun v vm h q => ⟨[], ⟨q, rfl⟩, fun _ hx => nomatch hx⟩) (fun v h' rs q => by obtain ⟨q, rfl⟩ := q; exact r v h' q)
theorem s_callU2R {a0 : Array Value} {index : Nat} {yn : MethodName} {J : OInfo} {Q' : Option Value → Heap → List Addr → Prop} {a : Addr} {Kn : String} {ws' : List Addr} {v0 v1 : Value} (M : oConG C.l Z n0 EL ws' yn J #[.ref a, v0, v1] h (oR Z EL Q')) (hsub : ∀ x ∈ ws', x ∈ ws) (E : Ins Z h a Kn true) (w1 : (Jvm.Cond.methodLink I.own index yn).before a0 Z = true) (w2 : (Jvm.Cond.sameMethod yn.cls yn.cls yn.name yn.desc).before a0 Z = true) (w5 : (Jvm.Cond.superclass I.own yn.cls).before a0 Z = true) (w6 : (Jvm.Cond.instanceMethod yn).before a0 Z = true) (w3 : (Jvm.Cond.initialized yn.cls).before a0 Z = true) (w4 : (Jvm.Cond.code yn J.bytes J.ml J.ret).before a0 Z = true) (hn : yn.name ≠ "<init>")
    (hlen : ∀ sig, parseMethodDescriptor yn.desc = some sig → 2 = sig.parameters.length) (hsz : L.size = I.ml) (hd : decode I.bytes pc = .ok (.invokespecial index, 3)) (hq : pc + 3 = pc') (hf : J.R.frames + 1 ≤ I.R.frames) (hlo : (S.map fun v => v.category).sum + (J.ml + 11) + J.R.locals ≤ I.R.locals) (hc : cs + J.R.cells ≤ I.R.cells) (hs : sl + J.R.slots ≤ I.R.slots)
    (r : ∀ v h' rs, Q' v h' rs → oRunG C Z n0 I EL (rs ++ ws) G h' (cs + J.R.cells) (sl + J.R.slots) (mkF C.m pc' L (oPush v S))) : oRunG C Z n0 I EL ws G h cs sl (mkF C.m pc L (v1 :: v0 :: .ref a :: S)) := s_callU (argsL := [v0, v1]) (Q' := Q') M rfl hsub E w1 w2 w5 w6 w3 w4 hn hlen hsz hd hq hf hlo hc hs (fun v vm h q => q) r
theorem s_callS3 {a0 : Array Value} {index : Nat} {yn : MethodName} {J : OInfo} {Q' : Option Value → Heap → Prop} {ws' : List Addr} {v0 v1 v2 : Value} (M : oCon C.l Z n0 EL ws' yn J #[v0, v1, v2] h Q') (hsub : ∀ x ∈ ws', x ∈ ws) (w1 : (Jvm.Cond.methodLink I.own index yn).before a0 Z = true) (w2 : (Jvm.Cond.static yn).before a0 Z = true) (w3 : (Jvm.Cond.initialized yn.cls).before a0 Z = true) (w4 : (Jvm.Cond.code yn J.bytes J.ml J.ret).before a0 Z = true) (hy : yn.cls ≠ "java/lang/invoke/MethodHandle" ∧ yn.cls ≠ "java/lang/invoke/VarHandle")
    (hlen : ∀ sig, parseMethodDescriptor yn.desc = some sig → 3 = sig.parameters.length) (hsz : L.size = I.ml) (hd : decode I.bytes pc = .ok (.invokestatic index, 3)) (hq : pc + 3 = pc') (hf : J.R.frames + 1 ≤ I.R.frames) (hlo : (S.map fun v => v.category).sum + (J.ml + 11) + J.R.locals ≤ I.R.locals) (hc : cs + J.R.cells ≤ I.R.cells) (hs : sl + J.R.slots ≤ I.R.slots)
    (r : ∀ v h', Q' v h' → oRunG C Z n0 I EL ws G h' (cs + J.R.cells) (sl + J.R.slots) (mkF C.m pc' L (oPush v S))) : oRunG C Z n0 I EL ws G h cs sl (mkF C.m pc L (v2 :: v1 :: v0 :: S)) := s_callS (argsL := [v0, v1, v2]) (Q' := fun v h rs => Q' v h ∧ rs = []) M rfl hsub w1 w2 w3 w4 hy hlen hsz hd hq hf hlo hc hs (fun v vm h q => ⟨[], ⟨q, rfl⟩, fun _ hx => nomatch hx⟩) (fun v h' rs q => by obtain ⟨q, rfl⟩ := q; exact r v h' q)
theorem s_callS3R {a0 : Array Value} {index : Nat} {yn : MethodName} {J : OInfo} {Q' : Option Value → Heap → List Addr → Prop} {ws' : List Addr} {v0 v1 v2 : Value} (M : oConG C.l Z n0 EL ws' yn J #[v0, v1, v2] h (oR Z EL Q')) (hsub : ∀ x ∈ ws', x ∈ ws) (w1 : (Jvm.Cond.methodLink I.own index yn).before a0 Z = true) (w2 : (Jvm.Cond.static yn).before a0 Z = true) (w3 : (Jvm.Cond.initialized yn.cls).before a0 Z = true) (w4 : (Jvm.Cond.code yn J.bytes J.ml J.ret).before a0 Z = true) (hy : yn.cls ≠ "java/lang/invoke/MethodHandle" ∧ yn.cls ≠ "java/lang/invoke/VarHandle")
    (hlen : ∀ sig, parseMethodDescriptor yn.desc = some sig → 3 = sig.parameters.length) (hsz : L.size = I.ml) (hd : decode I.bytes pc = .ok (.invokestatic index, 3)) (hq : pc + 3 = pc') (hf : J.R.frames + 1 ≤ I.R.frames) (hlo : (S.map fun v => v.category).sum + (J.ml + 11) + J.R.locals ≤ I.R.locals) (hc : cs + J.R.cells ≤ I.R.cells) (hs : sl + J.R.slots ≤ I.R.slots)
    (r : ∀ v h' rs, Q' v h' rs → oRunG C Z n0 I EL (rs ++ ws) G h' (cs + J.R.cells) (sl + J.R.slots) (mkF C.m pc' L (oPush v S))) : oRunG C Z n0 I EL ws G h cs sl (mkF C.m pc L (v2 :: v1 :: v0 :: S)) := s_callS (argsL := [v0, v1, v2]) (Q' := Q') M rfl hsub w1 w2 w3 w4 hy hlen hsz hd hq hf hlo hc hs (fun v vm h q => q) r
theorem s_callI3 {a0 : Array Value} {index : Nat} {yn : MethodName} {J : OInfo} {Q' : Option Value → Heap → Prop} {a : Addr} {ws' : List Addr} {v0 v1 v2 : Value} (M : oCon C.l Z n0 EL ws' yn J #[.ref a, v0, v1, v2] h Q') (hsub : ∀ x ∈ ws', x ∈ ws) (hr : J.ret = none) (hn : yn.name = "<init>") (w1 : (Jvm.Cond.methodLink I.own index yn).before a0 Z = true) (w2 : (Jvm.Cond.instanceMethod yn).before a0 Z = true) (w3 : (Jvm.Cond.initialized yn.cls).before a0 Z = true) (w4 : (Jvm.Cond.code yn J.bytes J.ml J.ret).before a0 Z = true) (hy : yn.cls ≠ "java/lang/invoke/MethodHandle" ∧ yn.cls ≠ "java/lang/invoke/VarHandle")
    (hlen : ∀ sig, parseMethodDescriptor yn.desc = some sig → 3 = sig.parameters.length) (hsz : L.size = I.ml) (hd : decode I.bytes pc = .ok (.invokespecial index, 3)) (hq : pc + 3 = pc') (hf : J.R.frames + 1 ≤ I.R.frames) (hlo : (S.map fun v => v.category).sum + (J.ml + 11) + J.R.locals ≤ I.R.locals) (hc : cs + J.R.cells ≤ I.R.cells) (hs : sl + J.R.slots ≤ I.R.slots)
    (r : ∀ v h', Q' v h' → oRunG C Z n0 I EL ws G h' (cs + J.R.cells) (sl + J.R.slots) (mkF C.m pc' L (oPush v S))) : oRunG C Z n0 I EL ws G h cs sl (mkF C.m pc L (v2 :: v1 :: v0 :: .ref a :: S)) := s_callI (argsL := [v0, v1, v2]) (Q' := fun v h rs => Q' v h ∧ rs = []) M rfl hsub hr hn w1 w2 w3 w4 hy hlen hsz hd hq hf hlo hc hs (fun v vm h q => ⟨[], ⟨q, rfl⟩, fun _ hx => nomatch hx⟩) (fun v h' rs q => by obtain ⟨q, rfl⟩ := q; exact r v h' q)
theorem s_callI3R {a0 : Array Value} {index : Nat} {yn : MethodName} {J : OInfo} {Q' : Option Value → Heap → List Addr → Prop} {a : Addr} {ws' : List Addr} {v0 v1 v2 : Value} (M : oConG C.l Z n0 EL ws' yn J #[.ref a, v0, v1, v2] h (oR Z EL Q')) (hsub : ∀ x ∈ ws', x ∈ ws) (hr : J.ret = none) (hn : yn.name = "<init>") (w1 : (Jvm.Cond.methodLink I.own index yn).before a0 Z = true) (w2 : (Jvm.Cond.instanceMethod yn).before a0 Z = true) (w3 : (Jvm.Cond.initialized yn.cls).before a0 Z = true) (w4 : (Jvm.Cond.code yn J.bytes J.ml J.ret).before a0 Z = true) (hy : yn.cls ≠ "java/lang/invoke/MethodHandle" ∧ yn.cls ≠ "java/lang/invoke/VarHandle")
    (hlen : ∀ sig, parseMethodDescriptor yn.desc = some sig → 3 = sig.parameters.length) (hsz : L.size = I.ml) (hd : decode I.bytes pc = .ok (.invokespecial index, 3)) (hq : pc + 3 = pc') (hf : J.R.frames + 1 ≤ I.R.frames) (hlo : (S.map fun v => v.category).sum + (J.ml + 11) + J.R.locals ≤ I.R.locals) (hc : cs + J.R.cells ≤ I.R.cells) (hs : sl + J.R.slots ≤ I.R.slots)
    (r : ∀ v h' rs, Q' v h' rs → oRunG C Z n0 I EL (rs ++ ws) G h' (cs + J.R.cells) (sl + J.R.slots) (mkF C.m pc' L (oPush v S))) : oRunG C Z n0 I EL ws G h cs sl (mkF C.m pc L (v2 :: v1 :: v0 :: .ref a :: S)) := s_callI (argsL := [v0, v1, v2]) (Q' := Q') M rfl hsub hr hn w1 w2 w3 w4 hy hlen hsz hd hq hf hlo hc hs (fun v vm h q => q) r
theorem s_callV3 {a0 : Array Value} {index : Nat} {yn : MethodName} {J : OInfo} {Q' : Option Value → Heap → Prop} {a : Addr} {Cn : String} {zn : MethodName} {ws' : List Addr} {v0 v1 v2 : Value} (M : oCon C.l Z n0 EL ws' zn J #[.ref a, v0, v1, v2] h Q') (hsub : ∀ x ∈ ws', x ∈ ws) (E : Exa Z h a Cn) (w1 : (Jvm.Cond.methodLink I.own index yn).before a0 Z = true) (w2 : (Jvm.Cond.declares yn).before a0 Z = true) (w5 : (Jvm.Cond.selects Cn yn zn).before a0 Z = true) (w6 : (Jvm.Cond.instanceMethod zn).before a0 Z = true) (nf : ∀ s' : State, Z.Warmed39 s'.vm → NotFace s' yn) (w3 : (Jvm.Cond.initialized zn.cls).before a0 Z = true) (w4 : (Jvm.Cond.code zn J.bytes J.ml J.ret).before a0 Z = true) (hy : yn.cls ≠ "java/lang/invoke/MethodHandle" ∧ yn.cls ≠ "java/lang/invoke/VarHandle")
    (hlen : ∀ sig, parseMethodDescriptor yn.desc = some sig → 3 = sig.parameters.length) (hsz : L.size = I.ml) (hd : decode I.bytes pc = .ok (.invokevirtual index, 3)) (hq : pc + 3 = pc') (hf : J.R.frames + 1 ≤ I.R.frames) (hlo : (S.map fun v => v.category).sum + (J.ml + 11) + J.R.locals ≤ I.R.locals) (hc : cs + J.R.cells ≤ I.R.cells) (hs : sl + J.R.slots ≤ I.R.slots)
    (r : ∀ v h', Q' v h' → oRunG C Z n0 I EL ws G h' (cs + J.R.cells) (sl + J.R.slots) (mkF C.m pc' L (oPush v S))) : oRunG C Z n0 I EL ws G h cs sl (mkF C.m pc L (v2 :: v1 :: v0 :: .ref a :: S)) := s_callV (argsL := [v0, v1, v2]) (Q' := fun v h rs => Q' v h ∧ rs = []) M rfl hsub E w1 w2 w5 w6 nf w3 w4 hy hlen hsz hd hq hf hlo hc hs (fun v vm h q => ⟨[], ⟨q, rfl⟩, fun _ hx => nomatch hx⟩) (fun v h' rs q => by obtain ⟨q, rfl⟩ := q; exact r v h' q)
theorem s_callV3R {a0 : Array Value} {index : Nat} {yn : MethodName} {J : OInfo} {Q' : Option Value → Heap → List Addr → Prop} {a : Addr} {Cn : String} {zn : MethodName} {ws' : List Addr} {v0 v1 v2 : Value} (M : oConG C.l Z n0 EL ws' zn J #[.ref a, v0, v1, v2] h (oR Z EL Q')) (hsub : ∀ x ∈ ws', x ∈ ws) (E : Exa Z h a Cn) (w1 : (Jvm.Cond.methodLink I.own index yn).before a0 Z = true) (w2 : (Jvm.Cond.declares yn).before a0 Z = true) (w5 : (Jvm.Cond.selects Cn yn zn).before a0 Z = true) (w6 : (Jvm.Cond.instanceMethod zn).before a0 Z = true) (nf : ∀ s' : State, Z.Warmed39 s'.vm → NotFace s' yn) (w3 : (Jvm.Cond.initialized zn.cls).before a0 Z = true) (w4 : (Jvm.Cond.code zn J.bytes J.ml J.ret).before a0 Z = true) (hy : yn.cls ≠ "java/lang/invoke/MethodHandle" ∧ yn.cls ≠ "java/lang/invoke/VarHandle")
    (hlen : ∀ sig, parseMethodDescriptor yn.desc = some sig → 3 = sig.parameters.length) (hsz : L.size = I.ml) (hd : decode I.bytes pc = .ok (.invokevirtual index, 3)) (hq : pc + 3 = pc') (hf : J.R.frames + 1 ≤ I.R.frames) (hlo : (S.map fun v => v.category).sum + (J.ml + 11) + J.R.locals ≤ I.R.locals) (hc : cs + J.R.cells ≤ I.R.cells) (hs : sl + J.R.slots ≤ I.R.slots)
    (r : ∀ v h' rs, Q' v h' rs → oRunG C Z n0 I EL (rs ++ ws) G h' (cs + J.R.cells) (sl + J.R.slots) (mkF C.m pc' L (oPush v S))) : oRunG C Z n0 I EL ws G h cs sl (mkF C.m pc L (v2 :: v1 :: v0 :: .ref a :: S)) := s_callV (argsL := [v0, v1, v2]) (Q' := Q') M rfl hsub E w1 w2 w5 w6 nf w3 w4 hy hlen hsz hd hq hf hlo hc hs (fun v vm h q => q) r
theorem s_callU3 {a0 : Array Value} {index : Nat} {yn : MethodName} {J : OInfo} {Q' : Option Value → Heap → Prop} {a : Addr} {Kn : String} {ws' : List Addr} {v0 v1 v2 : Value} (M : oCon C.l Z n0 EL ws' yn J #[.ref a, v0, v1, v2] h Q') (hsub : ∀ x ∈ ws', x ∈ ws) (E : Ins Z h a Kn true) (w1 : (Jvm.Cond.methodLink I.own index yn).before a0 Z = true) (w2 : (Jvm.Cond.sameMethod yn.cls yn.cls yn.name yn.desc).before a0 Z = true) (w5 : (Jvm.Cond.superclass I.own yn.cls).before a0 Z = true) (w6 : (Jvm.Cond.instanceMethod yn).before a0 Z = true) (w3 : (Jvm.Cond.initialized yn.cls).before a0 Z = true) (w4 : (Jvm.Cond.code yn J.bytes J.ml J.ret).before a0 Z = true) (hn : yn.name ≠ "<init>")
    (hlen : ∀ sig, parseMethodDescriptor yn.desc = some sig → 3 = sig.parameters.length) (hsz : L.size = I.ml) (hd : decode I.bytes pc = .ok (.invokespecial index, 3)) (hq : pc + 3 = pc') (hf : J.R.frames + 1 ≤ I.R.frames) (hlo : (S.map fun v => v.category).sum + (J.ml + 11) + J.R.locals ≤ I.R.locals) (hc : cs + J.R.cells ≤ I.R.cells) (hs : sl + J.R.slots ≤ I.R.slots)
    (r : ∀ v h', Q' v h' → oRunG C Z n0 I EL ws G h' (cs + J.R.cells) (sl + J.R.slots) (mkF C.m pc' L (oPush v S))) : oRunG C Z n0 I EL ws G h cs sl (mkF C.m pc L (v2 :: v1 :: v0 :: .ref a :: S)) := s_callU (argsL := [v0, v1, v2]) (Q' := fun v h rs => Q' v h ∧ rs = []) M rfl hsub E w1 w2 w5 w6 w3 w4 hn hlen hsz hd hq hf hlo hc hs (fun v vm h q => ⟨[], ⟨q, rfl⟩, fun _ hx => nomatch hx⟩) (fun v h' rs q => by obtain ⟨q, rfl⟩ := q; exact r v h' q)
theorem s_callU3R {a0 : Array Value} {index : Nat} {yn : MethodName} {J : OInfo} {Q' : Option Value → Heap → List Addr → Prop} {a : Addr} {Kn : String} {ws' : List Addr} {v0 v1 v2 : Value} (M : oConG C.l Z n0 EL ws' yn J #[.ref a, v0, v1, v2] h (oR Z EL Q')) (hsub : ∀ x ∈ ws', x ∈ ws) (E : Ins Z h a Kn true) (w1 : (Jvm.Cond.methodLink I.own index yn).before a0 Z = true) (w2 : (Jvm.Cond.sameMethod yn.cls yn.cls yn.name yn.desc).before a0 Z = true) (w5 : (Jvm.Cond.superclass I.own yn.cls).before a0 Z = true) (w6 : (Jvm.Cond.instanceMethod yn).before a0 Z = true) (w3 : (Jvm.Cond.initialized yn.cls).before a0 Z = true) (w4 : (Jvm.Cond.code yn J.bytes J.ml J.ret).before a0 Z = true) (hn : yn.name ≠ "<init>")
    (hlen : ∀ sig, parseMethodDescriptor yn.desc = some sig → 3 = sig.parameters.length) (hsz : L.size = I.ml) (hd : decode I.bytes pc = .ok (.invokespecial index, 3)) (hq : pc + 3 = pc') (hf : J.R.frames + 1 ≤ I.R.frames) (hlo : (S.map fun v => v.category).sum + (J.ml + 11) + J.R.locals ≤ I.R.locals) (hc : cs + J.R.cells ≤ I.R.cells) (hs : sl + J.R.slots ≤ I.R.slots)
    (r : ∀ v h' rs, Q' v h' rs → oRunG C Z n0 I EL (rs ++ ws) G h' (cs + J.R.cells) (sl + J.R.slots) (mkF C.m pc' L (oPush v S))) : oRunG C Z n0 I EL ws G h cs sl (mkF C.m pc L (v2 :: v1 :: v0 :: .ref a :: S)) := s_callU (argsL := [v0, v1, v2]) (Q' := Q') M rfl hsub E w1 w2 w5 w6 w3 w4 hn hlen hsz hd hq hf hlo hc hs (fun v vm h q => q) r
theorem s_callS4 {a0 : Array Value} {index : Nat} {yn : MethodName} {J : OInfo} {Q' : Option Value → Heap → Prop} {ws' : List Addr} {v0 v1 v2 v3 : Value} (M : oCon C.l Z n0 EL ws' yn J #[v0, v1, v2, v3] h Q') (hsub : ∀ x ∈ ws', x ∈ ws) (w1 : (Jvm.Cond.methodLink I.own index yn).before a0 Z = true) (w2 : (Jvm.Cond.static yn).before a0 Z = true) (w3 : (Jvm.Cond.initialized yn.cls).before a0 Z = true) (w4 : (Jvm.Cond.code yn J.bytes J.ml J.ret).before a0 Z = true) (hy : yn.cls ≠ "java/lang/invoke/MethodHandle" ∧ yn.cls ≠ "java/lang/invoke/VarHandle")
    (hlen : ∀ sig, parseMethodDescriptor yn.desc = some sig → 4 = sig.parameters.length) (hsz : L.size = I.ml) (hd : decode I.bytes pc = .ok (.invokestatic index, 3)) (hq : pc + 3 = pc') (hf : J.R.frames + 1 ≤ I.R.frames) (hlo : (S.map fun v => v.category).sum + (J.ml + 11) + J.R.locals ≤ I.R.locals) (hc : cs + J.R.cells ≤ I.R.cells) (hs : sl + J.R.slots ≤ I.R.slots)
    (r : ∀ v h', Q' v h' → oRunG C Z n0 I EL ws G h' (cs + J.R.cells) (sl + J.R.slots) (mkF C.m pc' L (oPush v S))) : oRunG C Z n0 I EL ws G h cs sl (mkF C.m pc L (v3 :: v2 :: v1 :: v0 :: S)) := s_callS (argsL := [v0, v1, v2, v3]) (Q' := fun v h rs => Q' v h ∧ rs = []) M rfl hsub w1 w2 w3 w4 hy hlen hsz hd hq hf hlo hc hs (fun v vm h q => ⟨[], ⟨q, rfl⟩, fun _ hx => nomatch hx⟩) (fun v h' rs q => by obtain ⟨q, rfl⟩ := q; exact r v h' q)
theorem s_callI4 {a0 : Array Value} {index : Nat} {yn : MethodName} {J : OInfo} {Q' : Option Value → Heap → Prop} {a : Addr} {ws' : List Addr} {v0 v1 v2 v3 : Value} (M : oCon C.l Z n0 EL ws' yn J #[.ref a, v0, v1, v2, v3] h Q') (hsub : ∀ x ∈ ws', x ∈ ws) (hr : J.ret = none) (hn : yn.name = "<init>") (w1 : (Jvm.Cond.methodLink I.own index yn).before a0 Z = true) (w2 : (Jvm.Cond.instanceMethod yn).before a0 Z = true) (w3 : (Jvm.Cond.initialized yn.cls).before a0 Z = true) (w4 : (Jvm.Cond.code yn J.bytes J.ml J.ret).before a0 Z = true) (hy : yn.cls ≠ "java/lang/invoke/MethodHandle" ∧ yn.cls ≠ "java/lang/invoke/VarHandle")
    (hlen : ∀ sig, parseMethodDescriptor yn.desc = some sig → 4 = sig.parameters.length) (hsz : L.size = I.ml) (hd : decode I.bytes pc = .ok (.invokespecial index, 3)) (hq : pc + 3 = pc') (hf : J.R.frames + 1 ≤ I.R.frames) (hlo : (S.map fun v => v.category).sum + (J.ml + 11) + J.R.locals ≤ I.R.locals) (hc : cs + J.R.cells ≤ I.R.cells) (hs : sl + J.R.slots ≤ I.R.slots)
    (r : ∀ v h', Q' v h' → oRunG C Z n0 I EL ws G h' (cs + J.R.cells) (sl + J.R.slots) (mkF C.m pc' L (oPush v S))) : oRunG C Z n0 I EL ws G h cs sl (mkF C.m pc L (v3 :: v2 :: v1 :: v0 :: .ref a :: S)) := s_callI (argsL := [v0, v1, v2, v3]) (Q' := fun v h rs => Q' v h ∧ rs = []) M rfl hsub hr hn w1 w2 w3 w4 hy hlen hsz hd hq hf hlo hc hs (fun v vm h q => ⟨[], ⟨q, rfl⟩, fun _ hx => nomatch hx⟩) (fun v h' rs q => by obtain ⟨q, rfl⟩ := q; exact r v h' q)
theorem s_callV4 {a0 : Array Value} {index : Nat} {yn : MethodName} {J : OInfo} {Q' : Option Value → Heap → Prop} {a : Addr} {Cn : String} {zn : MethodName} {ws' : List Addr} {v0 v1 v2 v3 : Value} (M : oCon C.l Z n0 EL ws' zn J #[.ref a, v0, v1, v2, v3] h Q') (hsub : ∀ x ∈ ws', x ∈ ws) (E : Exa Z h a Cn) (w1 : (Jvm.Cond.methodLink I.own index yn).before a0 Z = true) (w2 : (Jvm.Cond.declares yn).before a0 Z = true) (w5 : (Jvm.Cond.selects Cn yn zn).before a0 Z = true) (w6 : (Jvm.Cond.instanceMethod zn).before a0 Z = true) (nf : ∀ s' : State, Z.Warmed39 s'.vm → NotFace s' yn) (w3 : (Jvm.Cond.initialized zn.cls).before a0 Z = true) (w4 : (Jvm.Cond.code zn J.bytes J.ml J.ret).before a0 Z = true) (hy : yn.cls ≠ "java/lang/invoke/MethodHandle" ∧ yn.cls ≠ "java/lang/invoke/VarHandle")
    (hlen : ∀ sig, parseMethodDescriptor yn.desc = some sig → 4 = sig.parameters.length) (hsz : L.size = I.ml) (hd : decode I.bytes pc = .ok (.invokevirtual index, 3)) (hq : pc + 3 = pc') (hf : J.R.frames + 1 ≤ I.R.frames) (hlo : (S.map fun v => v.category).sum + (J.ml + 11) + J.R.locals ≤ I.R.locals) (hc : cs + J.R.cells ≤ I.R.cells) (hs : sl + J.R.slots ≤ I.R.slots)
    (r : ∀ v h', Q' v h' → oRunG C Z n0 I EL ws G h' (cs + J.R.cells) (sl + J.R.slots) (mkF C.m pc' L (oPush v S))) : oRunG C Z n0 I EL ws G h cs sl (mkF C.m pc L (v3 :: v2 :: v1 :: v0 :: .ref a :: S)) := s_callV (argsL := [v0, v1, v2, v3]) (Q' := fun v h rs => Q' v h ∧ rs = []) M rfl hsub E w1 w2 w5 w6 nf w3 w4 hy hlen hsz hd hq hf hlo hc hs (fun v vm h q => ⟨[], ⟨q, rfl⟩, fun _ hx => nomatch hx⟩) (fun v h' rs q => by obtain ⟨q, rfl⟩ := q; exact r v h' q)
theorem s_callU4 {a0 : Array Value} {index : Nat} {yn : MethodName} {J : OInfo} {Q' : Option Value → Heap → Prop} {a : Addr} {Kn : String} {ws' : List Addr} {v0 v1 v2 v3 : Value} (M : oCon C.l Z n0 EL ws' yn J #[.ref a, v0, v1, v2, v3] h Q') (hsub : ∀ x ∈ ws', x ∈ ws) (E : Ins Z h a Kn true) (w1 : (Jvm.Cond.methodLink I.own index yn).before a0 Z = true) (w2 : (Jvm.Cond.sameMethod yn.cls yn.cls yn.name yn.desc).before a0 Z = true) (w5 : (Jvm.Cond.superclass I.own yn.cls).before a0 Z = true) (w6 : (Jvm.Cond.instanceMethod yn).before a0 Z = true) (w3 : (Jvm.Cond.initialized yn.cls).before a0 Z = true) (w4 : (Jvm.Cond.code yn J.bytes J.ml J.ret).before a0 Z = true) (hn : yn.name ≠ "<init>")
    (hlen : ∀ sig, parseMethodDescriptor yn.desc = some sig → 4 = sig.parameters.length) (hsz : L.size = I.ml) (hd : decode I.bytes pc = .ok (.invokespecial index, 3)) (hq : pc + 3 = pc') (hf : J.R.frames + 1 ≤ I.R.frames) (hlo : (S.map fun v => v.category).sum + (J.ml + 11) + J.R.locals ≤ I.R.locals) (hc : cs + J.R.cells ≤ I.R.cells) (hs : sl + J.R.slots ≤ I.R.slots)
    (r : ∀ v h', Q' v h' → oRunG C Z n0 I EL ws G h' (cs + J.R.cells) (sl + J.R.slots) (mkF C.m pc' L (oPush v S))) : oRunG C Z n0 I EL ws G h cs sl (mkF C.m pc L (v3 :: v2 :: v1 :: v0 :: .ref a :: S)) := s_callU (argsL := [v0, v1, v2, v3]) (Q' := fun v h rs => Q' v h ∧ rs = []) M rfl hsub E w1 w2 w5 w6 w3 w4 hn hlen hsz hd hq hf hlo hc hs (fun v vm h q => ⟨[], ⟨q, rfl⟩, fun _ hx => nomatch hx⟩) (fun v h' rs q => by obtain ⟨q, rfl⟩ := q; exact r v h' q)
theorem s_callS5 {a0 : Array Value} {index : Nat} {yn : MethodName} {J : OInfo} {Q' : Option Value → Heap → Prop} {ws' : List Addr} {v0 v1 v2 v3 v4 : Value} (M : oCon C.l Z n0 EL ws' yn J #[v0, v1, v2, v3, v4] h Q') (hsub : ∀ x ∈ ws', x ∈ ws) (w1 : (Jvm.Cond.methodLink I.own index yn).before a0 Z = true) (w2 : (Jvm.Cond.static yn).before a0 Z = true) (w3 : (Jvm.Cond.initialized yn.cls).before a0 Z = true) (w4 : (Jvm.Cond.code yn J.bytes J.ml J.ret).before a0 Z = true) (hy : yn.cls ≠ "java/lang/invoke/MethodHandle" ∧ yn.cls ≠ "java/lang/invoke/VarHandle")
    (hlen : ∀ sig, parseMethodDescriptor yn.desc = some sig → 5 = sig.parameters.length) (hsz : L.size = I.ml) (hd : decode I.bytes pc = .ok (.invokestatic index, 3)) (hq : pc + 3 = pc') (hf : J.R.frames + 1 ≤ I.R.frames) (hlo : (S.map fun v => v.category).sum + (J.ml + 11) + J.R.locals ≤ I.R.locals) (hc : cs + J.R.cells ≤ I.R.cells) (hs : sl + J.R.slots ≤ I.R.slots)
    (r : ∀ v h', Q' v h' → oRunG C Z n0 I EL ws G h' (cs + J.R.cells) (sl + J.R.slots) (mkF C.m pc' L (oPush v S))) : oRunG C Z n0 I EL ws G h cs sl (mkF C.m pc L (v4 :: v3 :: v2 :: v1 :: v0 :: S)) := s_callS (argsL := [v0, v1, v2, v3, v4]) (Q' := fun v h rs => Q' v h ∧ rs = []) M rfl hsub w1 w2 w3 w4 hy hlen hsz hd hq hf hlo hc hs (fun v vm h q => ⟨[], ⟨q, rfl⟩, fun _ hx => nomatch hx⟩) (fun v h' rs q => by obtain ⟨q, rfl⟩ := q; exact r v h' q)
theorem s_callI5 {a0 : Array Value} {index : Nat} {yn : MethodName} {J : OInfo} {Q' : Option Value → Heap → Prop} {a : Addr} {ws' : List Addr} {v0 v1 v2 v3 v4 : Value} (M : oCon C.l Z n0 EL ws' yn J #[.ref a, v0, v1, v2, v3, v4] h Q') (hsub : ∀ x ∈ ws', x ∈ ws) (hr : J.ret = none) (hn : yn.name = "<init>") (w1 : (Jvm.Cond.methodLink I.own index yn).before a0 Z = true) (w2 : (Jvm.Cond.instanceMethod yn).before a0 Z = true) (w3 : (Jvm.Cond.initialized yn.cls).before a0 Z = true) (w4 : (Jvm.Cond.code yn J.bytes J.ml J.ret).before a0 Z = true) (hy : yn.cls ≠ "java/lang/invoke/MethodHandle" ∧ yn.cls ≠ "java/lang/invoke/VarHandle")
    (hlen : ∀ sig, parseMethodDescriptor yn.desc = some sig → 5 = sig.parameters.length) (hsz : L.size = I.ml) (hd : decode I.bytes pc = .ok (.invokespecial index, 3)) (hq : pc + 3 = pc') (hf : J.R.frames + 1 ≤ I.R.frames) (hlo : (S.map fun v => v.category).sum + (J.ml + 11) + J.R.locals ≤ I.R.locals) (hc : cs + J.R.cells ≤ I.R.cells) (hs : sl + J.R.slots ≤ I.R.slots)
    (r : ∀ v h', Q' v h' → oRunG C Z n0 I EL ws G h' (cs + J.R.cells) (sl + J.R.slots) (mkF C.m pc' L (oPush v S))) : oRunG C Z n0 I EL ws G h cs sl (mkF C.m pc L (v4 :: v3 :: v2 :: v1 :: v0 :: .ref a :: S)) := s_callI (argsL := [v0, v1, v2, v3, v4]) (Q' := fun v h rs => Q' v h ∧ rs = []) M rfl hsub hr hn w1 w2 w3 w4 hy hlen hsz hd hq hf hlo hc hs (fun v vm h q => ⟨[], ⟨q, rfl⟩, fun _ hx => nomatch hx⟩) (fun v h' rs q => by obtain ⟨q, rfl⟩ := q; exact r v h' q)
theorem s_callV5 {a0 : Array Value} {index : Nat} {yn : MethodName} {J : OInfo} {Q' : Option Value → Heap → Prop} {a : Addr} {Cn : String} {zn : MethodName} {ws' : List Addr} {v0 v1 v2 v3 v4 : Value} (M : oCon C.l Z n0 EL ws' zn J #[.ref a, v0, v1, v2, v3, v4] h Q') (hsub : ∀ x ∈ ws', x ∈ ws) (E : Exa Z h a Cn) (w1 : (Jvm.Cond.methodLink I.own index yn).before a0 Z = true) (w2 : (Jvm.Cond.declares yn).before a0 Z = true) (w5 : (Jvm.Cond.selects Cn yn zn).before a0 Z = true) (w6 : (Jvm.Cond.instanceMethod zn).before a0 Z = true) (nf : ∀ s' : State, Z.Warmed39 s'.vm → NotFace s' yn) (w3 : (Jvm.Cond.initialized zn.cls).before a0 Z = true) (w4 : (Jvm.Cond.code zn J.bytes J.ml J.ret).before a0 Z = true) (hy : yn.cls ≠ "java/lang/invoke/MethodHandle" ∧ yn.cls ≠ "java/lang/invoke/VarHandle")
    (hlen : ∀ sig, parseMethodDescriptor yn.desc = some sig → 5 = sig.parameters.length) (hsz : L.size = I.ml) (hd : decode I.bytes pc = .ok (.invokevirtual index, 3)) (hq : pc + 3 = pc') (hf : J.R.frames + 1 ≤ I.R.frames) (hlo : (S.map fun v => v.category).sum + (J.ml + 11) + J.R.locals ≤ I.R.locals) (hc : cs + J.R.cells ≤ I.R.cells) (hs : sl + J.R.slots ≤ I.R.slots)
    (r : ∀ v h', Q' v h' → oRunG C Z n0 I EL ws G h' (cs + J.R.cells) (sl + J.R.slots) (mkF C.m pc' L (oPush v S))) : oRunG C Z n0 I EL ws G h cs sl (mkF C.m pc L (v4 :: v3 :: v2 :: v1 :: v0 :: .ref a :: S)) := s_callV (argsL := [v0, v1, v2, v3, v4]) (Q' := fun v h rs => Q' v h ∧ rs = []) M rfl hsub E w1 w2 w5 w6 nf w3 w4 hy hlen hsz hd hq hf hlo hc hs (fun v vm h q => ⟨[], ⟨q, rfl⟩, fun _ hx => nomatch hx⟩) (fun v h' rs q => by obtain ⟨q, rfl⟩ := q; exact r v h' q)
theorem s_callU5 {a0 : Array Value} {index : Nat} {yn : MethodName} {J : OInfo} {Q' : Option Value → Heap → Prop} {a : Addr} {Kn : String} {ws' : List Addr} {v0 v1 v2 v3 v4 : Value} (M : oCon C.l Z n0 EL ws' yn J #[.ref a, v0, v1, v2, v3, v4] h Q') (hsub : ∀ x ∈ ws', x ∈ ws) (E : Ins Z h a Kn true) (w1 : (Jvm.Cond.methodLink I.own index yn).before a0 Z = true) (w2 : (Jvm.Cond.sameMethod yn.cls yn.cls yn.name yn.desc).before a0 Z = true) (w5 : (Jvm.Cond.superclass I.own yn.cls).before a0 Z = true) (w6 : (Jvm.Cond.instanceMethod yn).before a0 Z = true) (w3 : (Jvm.Cond.initialized yn.cls).before a0 Z = true) (w4 : (Jvm.Cond.code yn J.bytes J.ml J.ret).before a0 Z = true) (hn : yn.name ≠ "<init>")
    (hlen : ∀ sig, parseMethodDescriptor yn.desc = some sig → 5 = sig.parameters.length) (hsz : L.size = I.ml) (hd : decode I.bytes pc = .ok (.invokespecial index, 3)) (hq : pc + 3 = pc') (hf : J.R.frames + 1 ≤ I.R.frames) (hlo : (S.map fun v => v.category).sum + (J.ml + 11) + J.R.locals ≤ I.R.locals) (hc : cs + J.R.cells ≤ I.R.cells) (hs : sl + J.R.slots ≤ I.R.slots)
    (r : ∀ v h', Q' v h' → oRunG C Z n0 I EL ws G h' (cs + J.R.cells) (sl + J.R.slots) (mkF C.m pc' L (oPush v S))) : oRunG C Z n0 I EL ws G h cs sl (mkF C.m pc L (v4 :: v3 :: v2 :: v1 :: v0 :: .ref a :: S)) := s_callU (argsL := [v0, v1, v2, v3, v4]) (Q' := fun v h rs => Q' v h ∧ rs = []) M rfl hsub E w1 w2 w5 w6 w3 w4 hn hlen hsz hd hq hf hlo hc hs (fun v vm h q => ⟨[], ⟨q, rfl⟩, fun _ hx => nomatch hx⟩) (fun v h' rs q => by obtain ⟨q, rfl⟩ := q; exact r v h' q)
theorem s_callS6 {a0 : Array Value} {index : Nat} {yn : MethodName} {J : OInfo} {Q' : Option Value → Heap → Prop} {ws' : List Addr} {v0 v1 v2 v3 v4 v5 : Value} (M : oCon C.l Z n0 EL ws' yn J #[v0, v1, v2, v3, v4, v5] h Q') (hsub : ∀ x ∈ ws', x ∈ ws) (w1 : (Jvm.Cond.methodLink I.own index yn).before a0 Z = true) (w2 : (Jvm.Cond.static yn).before a0 Z = true) (w3 : (Jvm.Cond.initialized yn.cls).before a0 Z = true) (w4 : (Jvm.Cond.code yn J.bytes J.ml J.ret).before a0 Z = true) (hy : yn.cls ≠ "java/lang/invoke/MethodHandle" ∧ yn.cls ≠ "java/lang/invoke/VarHandle")
    (hlen : ∀ sig, parseMethodDescriptor yn.desc = some sig → 6 = sig.parameters.length) (hsz : L.size = I.ml) (hd : decode I.bytes pc = .ok (.invokestatic index, 3)) (hq : pc + 3 = pc') (hf : J.R.frames + 1 ≤ I.R.frames) (hlo : (S.map fun v => v.category).sum + (J.ml + 11) + J.R.locals ≤ I.R.locals) (hc : cs + J.R.cells ≤ I.R.cells) (hs : sl + J.R.slots ≤ I.R.slots)
    (r : ∀ v h', Q' v h' → oRunG C Z n0 I EL ws G h' (cs + J.R.cells) (sl + J.R.slots) (mkF C.m pc' L (oPush v S))) : oRunG C Z n0 I EL ws G h cs sl (mkF C.m pc L (v5 :: v4 :: v3 :: v2 :: v1 :: v0 :: S)) := s_callS (argsL := [v0, v1, v2, v3, v4, v5]) (Q' := fun v h rs => Q' v h ∧ rs = []) M rfl hsub w1 w2 w3 w4 hy hlen hsz hd hq hf hlo hc hs (fun v vm h q => ⟨[], ⟨q, rfl⟩, fun _ hx => nomatch hx⟩) (fun v h' rs q => by obtain ⟨q, rfl⟩ := q; exact r v h' q)
theorem s_callI6 {a0 : Array Value} {index : Nat} {yn : MethodName} {J : OInfo} {Q' : Option Value → Heap → Prop} {a : Addr} {ws' : List Addr} {v0 v1 v2 v3 v4 v5 : Value} (M : oCon C.l Z n0 EL ws' yn J #[.ref a, v0, v1, v2, v3, v4, v5] h Q') (hsub : ∀ x ∈ ws', x ∈ ws) (hr : J.ret = none) (hn : yn.name = "<init>") (w1 : (Jvm.Cond.methodLink I.own index yn).before a0 Z = true) (w2 : (Jvm.Cond.instanceMethod yn).before a0 Z = true) (w3 : (Jvm.Cond.initialized yn.cls).before a0 Z = true) (w4 : (Jvm.Cond.code yn J.bytes J.ml J.ret).before a0 Z = true) (hy : yn.cls ≠ "java/lang/invoke/MethodHandle" ∧ yn.cls ≠ "java/lang/invoke/VarHandle")
    (hlen : ∀ sig, parseMethodDescriptor yn.desc = some sig → 6 = sig.parameters.length) (hsz : L.size = I.ml) (hd : decode I.bytes pc = .ok (.invokespecial index, 3)) (hq : pc + 3 = pc') (hf : J.R.frames + 1 ≤ I.R.frames) (hlo : (S.map fun v => v.category).sum + (J.ml + 11) + J.R.locals ≤ I.R.locals) (hc : cs + J.R.cells ≤ I.R.cells) (hs : sl + J.R.slots ≤ I.R.slots)
    (r : ∀ v h', Q' v h' → oRunG C Z n0 I EL ws G h' (cs + J.R.cells) (sl + J.R.slots) (mkF C.m pc' L (oPush v S))) : oRunG C Z n0 I EL ws G h cs sl (mkF C.m pc L (v5 :: v4 :: v3 :: v2 :: v1 :: v0 :: .ref a :: S)) := s_callI (argsL := [v0, v1, v2, v3, v4, v5]) (Q' := fun v h rs => Q' v h ∧ rs = []) M rfl hsub hr hn w1 w2 w3 w4 hy hlen hsz hd hq hf hlo hc hs (fun v vm h q => ⟨[], ⟨q, rfl⟩, fun _ hx => nomatch hx⟩) (fun v h' rs q => by obtain ⟨q, rfl⟩ := q; exact r v h' q)
theorem s_callV6 {a0 : Array Value} {index : Nat} {yn : MethodName} {J : OInfo} {Q' : Option Value → Heap → Prop} {a : Addr} {Cn : String} {zn : MethodName} {ws' : List Addr} {v0 v1 v2 v3 v4 v5 : Value} (M : oCon C.l Z n0 EL ws' zn J #[.ref a, v0, v1, v2, v3, v4, v5] h Q') (hsub : ∀ x ∈ ws', x ∈ ws) (E : Exa Z h a Cn) (w1 : (Jvm.Cond.methodLink I.own index yn).before a0 Z = true) (w2 : (Jvm.Cond.declares yn).before a0 Z = true) (w5 : (Jvm.Cond.selects Cn yn zn).before a0 Z = true) (w6 : (Jvm.Cond.instanceMethod zn).before a0 Z = true) (nf : ∀ s' : State, Z.Warmed39 s'.vm → NotFace s' yn) (w3 : (Jvm.Cond.initialized zn.cls).before a0 Z = true) (w4 : (Jvm.Cond.code zn J.bytes J.ml J.ret).before a0 Z = true) (hy : yn.cls ≠ "java/lang/invoke/MethodHandle" ∧ yn.cls ≠ "java/lang/invoke/VarHandle")
    (hlen : ∀ sig, parseMethodDescriptor yn.desc = some sig → 6 = sig.parameters.length) (hsz : L.size = I.ml) (hd : decode I.bytes pc = .ok (.invokevirtual index, 3)) (hq : pc + 3 = pc') (hf : J.R.frames + 1 ≤ I.R.frames) (hlo : (S.map fun v => v.category).sum + (J.ml + 11) + J.R.locals ≤ I.R.locals) (hc : cs + J.R.cells ≤ I.R.cells) (hs : sl + J.R.slots ≤ I.R.slots)
    (r : ∀ v h', Q' v h' → oRunG C Z n0 I EL ws G h' (cs + J.R.cells) (sl + J.R.slots) (mkF C.m pc' L (oPush v S))) : oRunG C Z n0 I EL ws G h cs sl (mkF C.m pc L (v5 :: v4 :: v3 :: v2 :: v1 :: v0 :: .ref a :: S)) := s_callV (argsL := [v0, v1, v2, v3, v4, v5]) (Q' := fun v h rs => Q' v h ∧ rs = []) M rfl hsub E w1 w2 w5 w6 nf w3 w4 hy hlen hsz hd hq hf hlo hc hs (fun v vm h q => ⟨[], ⟨q, rfl⟩, fun _ hx => nomatch hx⟩) (fun v h' rs q => by obtain ⟨q, rfl⟩ := q; exact r v h' q)
theorem s_callU6 {a0 : Array Value} {index : Nat} {yn : MethodName} {J : OInfo} {Q' : Option Value → Heap → Prop} {a : Addr} {Kn : String} {ws' : List Addr} {v0 v1 v2 v3 v4 v5 : Value} (M : oCon C.l Z n0 EL ws' yn J #[.ref a, v0, v1, v2, v3, v4, v5] h Q') (hsub : ∀ x ∈ ws', x ∈ ws) (E : Ins Z h a Kn true) (w1 : (Jvm.Cond.methodLink I.own index yn).before a0 Z = true) (w2 : (Jvm.Cond.sameMethod yn.cls yn.cls yn.name yn.desc).before a0 Z = true) (w5 : (Jvm.Cond.superclass I.own yn.cls).before a0 Z = true) (w6 : (Jvm.Cond.instanceMethod yn).before a0 Z = true) (w3 : (Jvm.Cond.initialized yn.cls).before a0 Z = true) (w4 : (Jvm.Cond.code yn J.bytes J.ml J.ret).before a0 Z = true) (hn : yn.name ≠ "<init>")
    (hlen : ∀ sig, parseMethodDescriptor yn.desc = some sig → 6 = sig.parameters.length) (hsz : L.size = I.ml) (hd : decode I.bytes pc = .ok (.invokespecial index, 3)) (hq : pc + 3 = pc') (hf : J.R.frames + 1 ≤ I.R.frames) (hlo : (S.map fun v => v.category).sum + (J.ml + 11) + J.R.locals ≤ I.R.locals) (hc : cs + J.R.cells ≤ I.R.cells) (hs : sl + J.R.slots ≤ I.R.slots)
    (r : ∀ v h', Q' v h' → oRunG C Z n0 I EL ws G h' (cs + J.R.cells) (sl + J.R.slots) (mkF C.m pc' L (oPush v S))) : oRunG C Z n0 I EL ws G h cs sl (mkF C.m pc L (v5 :: v4 :: v3 :: v2 :: v1 :: v0 :: .ref a :: S)) := s_callU (argsL := [v0, v1, v2, v3, v4, v5]) (Q' := fun v h rs => Q' v h ∧ rs = []) M rfl hsub E w1 w2 w5 w6 w3 w4 hn hlen hsz hd hq hf hlo hc hs (fun v vm h q => ⟨[], ⟨q, rfl⟩, fun _ hx => nomatch hx⟩) (fun v h' rs q => by obtain ⟨q, rfl⟩ := q; exact r v h' q)
-- the ends
theorem s_end {v : Option Value} {g : JFrame} (hc : cs ≤ I.R.cells) (hs : sl ≤ I.R.slots) (hv : I.ret = none → v = none) (hQ : ∀ vm, (∀ x ∈ ws, Safe Z EL vm h x ∧ x < h.size) → G v vm h)
    (st : ∀ {s0 : State} T locs fs, oK C s0 Z n0 I T locs cs sl h → (∀ (f : JFrame) (acts : List Action), f.method = C.m → f.locked = none → f.entered = [] → (doReturn C.e (T.setTop f) acts v).1 = T.setFrames fs) → Steps C.p.tables C.e C.below (T.setTop g) (T.setFrames fs)) : oRunG C Z n0 I EL ws G h cs sl g := by
  intro vm0 T locs K V
  have K0 := K
  obtain ⟨X, k1, k2, k3, k4, k5, k6, k7, k8, k9, k10, k11⟩ := K
  obtain ⟨kk, hk1, hk2⟩ := V.2.1
  obtain ⟨fs, hr, hrun, hended, hE⟩ := X.leaveW hk1 (by rw [k9]; exact hk2) (v := v) (fun q => hv (k6.symm.trans q)) k8
  refine ⟨_, _, st T locs fs K0 hr, hrun, hended, v, locs, rfl, ⟨k10, ?_, ?_⟩, ?_, hE.1, hE.2.1, hE.2.2.1, hE.2.2.2.mono hc hs⟩
  · show Old Z n0 T.heap; rw [k9]; exact k11
  · show G v T.vm T.heap; rw [k9]; obtain ⟨a1, hEL⟩ := V.1; exact hQ _ fun x hx => ⟨(CHv.at X k2 hEL V.2.2.1.1).safe (V.2.2.2 x hx).2 (V.2.2.2 x hx).1, (V.2.2.2 x hx).2⟩
  · obtain ⟨a1, hEL⟩ := V.1
    show CHr Z EL C.s.vm C.s.heap T.vm T.heap
    rw [k9]
    exact V.2.2.1.trans (CHv.at X k2 hEL V.2.2.1.1)
-- a String constant, loaded and read
theorem s_ldcS {a0 : Array Value} {idx : Nat} {text : String} {vs : List Value} {z : Int32} (n : Nat) (w : (Jvm.Cond.stringLink I.own idx text).before a0 Z = true) (wS : ∀ d ∈ Bundle.stringAtoms, d.before a0 Z = true) (hEL : EW Z a0 EL) (hmem : (I.own, idx) ∈ EL)
    (ht : (∀ c ∈ text.toList, c.toNat < 256) ∧ text.toList.map (fun c => Value.int (Jvm.Lit.byteI c.toNat.toUInt16)) = vs) (hz : ¬ z < 0) (hl : z.toNatClampNeg = vs.length) (hd : decode I.bytes pc = .ok (.ldc idx, 2)) (hq : pc + 2 = pc') (hn : 4 * text.toList.length ≤ n) (hbig : n ≤ 536870912) (hc : cs + 2 ≤ I.R.cells) (hl' : sl + (n + 4) ≤ I.R.slots)
    (r : ∀ h' a b k, Ext h h' → Exa Z h' a "java/lang/String" → Fld Z h' a "java/lang/String" "coder" "B" (.int 0) → Fld Z h' a "java/lang/String" "value" "[B" (.ref b) → Arv Z h' b k .byte z vs (.int 0) → (∀ x ∈ ws, x ≠ a ∧ x ≠ b) → oRunG C Z n0 I EL ws G h' (cs + 2) (sl + (n + 4)) (mkF C.m pc' L (.ref a :: S))) : oRunG C Z n0 I EL ws G h cs sl (mkF C.m pc L S) := by
  subst hq
  intro vm0 T locs K V
  obtain ⟨X, k1, k2, k3, k4, k5, k6, k7, k8, k9, k10, k11⟩ := K
  obtain ⟨kk, hk1, hk2⟩ := V.2.1
  obtain ⟨a, T', h', kn, b, k, X', e', E, hS, hk', hZ', ho', A1, A2, A3, A4, -, -, hC, -, hsafe, st⟩ := ldcCH X k1 k2 k3 w wS k9 hk1 hk2 hEL hmem V.2.2.1.1 ht hz hl (g := mkF C.m pc L S) rfl (hb k4 hd) hn hbig hc hl'
  have V' := V.step hC ⟨kn, hS, hk'⟩
  obtain ⟨t, o, h1, h2⟩ := r h' a b k E A1 A2 A3 A4 (fun x hx => hsafe x (V'.2.2.2 x hx).1) T'.vm T' _ ⟨X', k1, hZ', ho', k4, k5, k6, k7, k8, e', k10, k11.ext E⟩ V'
  exact ⟨t, o, st t h1, h2⟩
theorem s_ldcO {a0 : Array Value} {idx : Nat} {text : String} (n : Nat) (w : (Jvm.Cond.stringLink I.own idx text).before a0 Z = true) (wS : ∀ d ∈ Bundle.stringAtoms, d.before a0 Z = true) (hEL : EW Z a0 EL)
    (hd : decode I.bytes pc = .ok (.ldc idx, 2)) (hq : pc + 2 = pc') (hn : 4 * text.toList.length ≤ n) (hbig : n ≤ 536870912) (hc : cs + 2 ≤ I.R.cells) (hl' : sl + (n + 4) ≤ I.R.slots)
    (r : ∀ h' a, Ext h h' → oRunG C Z n0 I EL ws G h' (cs + 2) (sl + (n + 4)) (mkF C.m pc' L (.ref a :: S))) : oRunG C Z n0 I EL ws G h cs sl (mkF C.m pc L S) := by
  subst hq
  intro vm0 T locs K V
  obtain ⟨X, k1, k2, k3, k4, k5, k6, k7, k8, k9, k10, k11⟩ := K
  obtain ⟨kk, hk1, hk2⟩ := V.2.1
  obtain ⟨a, T', h', kn, X', e', E, hS, hk', hZ', ho', hC, -, st⟩ := ldcOH X k1 k2 k3 w wS k9 hk1 hk2 hEL V.2.2.1.1 (g := mkF C.m pc L S) rfl (hb k4 hd) hn hbig hc hl'
  have V' := V.step hC ⟨kn, hS, hk'⟩
  obtain ⟨t, o, h1, h2⟩ := r h' a E T'.vm T' _ ⟨X', k1, hZ', ho', k4, k5, k6, k7, k8, e', k10, k11.ext E⟩ V'
  exact ⟨t, o, st t h1, h2⟩
theorem s_more {cs' sl' : Nat} {g : JFrame} (hc : cs ≤ cs') (hs : sl ≤ sl') (r : oRunG C Z n0 I EL ws G h cs' sl' g) : oRunG C Z n0 I EL ws G h cs sl g := fun vm0 T locs K V => r vm0 T locs ⟨K.1.more hc hs, K.2⟩ V
theorem s_weak {ws' : List Addr} {g : JFrame} (q : ∀ x ∈ ws', x ∈ ws) (r : oRunG C Z n0 I EL ws' G h cs sl g) : oRunG C Z n0 I EL ws G h cs sl g := fun vm0 T locs K V => r vm0 T locs K (V.sub q)
theorem s_ret (hr : I.ret = none) (hd : decode I.bytes pc = .ok (.return_, 1)) (hc : cs ≤ I.R.cells) (hs : sl ≤ I.R.slots) (hQ : Q none h) : oRun C Z n0 I EL ws Q h cs sl (mkF C.m pc L []) :=
  s_end hc hs (fun _ => rfl) (fun _ _ => hQ) fun T locs fs K hl => K.1.returnOut K.2.1 (K.2.2.2.2.2.2.1.trans hr) (hb K.2.2.2.2.1 hd) hl
theorem s_iret (hr : I.ret = some .int) (hd : decode I.bytes pc = .ok (.ireturn, 1)) (hc : cs ≤ I.R.cells) (hs : sl ≤ I.R.slots) (hQ : Q (some (.int x)) h) : oRun C Z n0 I EL ws Q h cs sl (mkF C.m pc L (.int x :: S)) :=
  s_end hc hs (fun q => by rw [hr] at q; cases q) (fun _ _ => hQ) fun T locs fs K hl => retI K.1 K.2.1 (K.2.2.2.2.2.2.1.trans hr) (hb K.2.2.2.2.1 hd) hl
theorem s_nret {t : FieldType} (hr : I.ret = some t) (ht : t = .boolean ∨ t = .byte ∨ t = .char ∨ t = .short) (hd : decode I.bytes pc = .ok (.ireturn, 1)) (hc : cs ≤ I.R.cells) (hs : sl ≤ I.R.slots) (hQ : Q (some (.int (nar t x))) h) : oRun C Z n0 I EL ws Q h cs sl (mkF C.m pc L (.int x :: S)) :=
  s_end hc hs (fun q => by rw [hr] at q; cases q) (fun _ _ => hQ) fun T locs fs K hl => retN K.1 K.2.1 (K.2.2.2.2.2.2.1.trans hr) ht (hb K.2.2.2.2.1 hd) hl
theorem s_aret {t : FieldType} {v : Value} (hr : I.ret = some t) (ht : t.isReference = true) (hv : v.isRef = true) (hd : decode I.bytes pc = .ok (.areturn, 1)) (hc : cs ≤ I.R.cells) (hs : sl ≤ I.R.slots) (hQ : Q (some v) h) : oRun C Z n0 I EL ws Q h cs sl (mkF C.m pc L (v :: S)) :=
  s_end hc hs (fun q => by rw [hr] at q; cases q) (fun _ _ => hQ) fun T locs fs K hl => by
    have X := K.1
    have hx := K.2.1
    have hd' := hb K.2.2.2.2.1 hd
    have hret := K.2.2.2.2.2.2.1.trans hr
    have hm' : T.vm.method? C.m = some C.meth := X.method'
    show Steps C.p.tables C.e C.below (T.setTop { method := C.m, pc := pc, locals := L, stack := v :: S, locked := none }) _
    jvm_step X.here [X.here.top, hx, hd', hm', hret, hv, ht]
    first | (intro acts; rw [hl _ acts rfl rfl rfl]) | rw [hl _ _ rfl rfl rfl]
    exact Steps.refl _
theorem s_retR {Qr : Option Value → Heap → List Addr → Prop} (hr : I.ret = none) (hd : decode I.bytes pc = .ok (.return_, 1)) (hc : cs ≤ I.R.cells) (hs : sl ≤ I.R.slots) (rs : List Addr) (hrs : ∀ x ∈ rs, x ∈ ws) (hQ : Qr none h rs) : oRunG C Z n0 I EL ws (oR Z EL Qr) h cs sl (mkF C.m pc L []) :=
  s_end hc hs (fun _ => rfl) (fun _ q => ⟨rs, hQ, fun x hx => q x (hrs x hx)⟩) fun T locs fs K hl => K.1.returnOut K.2.1 (K.2.2.2.2.2.2.1.trans hr) (hb K.2.2.2.2.1 hd) hl
theorem s_aretR {Qr : Option Value → Heap → List Addr → Prop} {t : FieldType} {v : Value} (hr : I.ret = some t) (ht : t.isReference = true) (hv : v.isRef = true) (hd : decode I.bytes pc = .ok (.areturn, 1)) (hc : cs ≤ I.R.cells) (hs : sl ≤ I.R.slots) (rs : List Addr) (hrs : ∀ x ∈ rs, x ∈ ws) (hQ : Qr (some v) h rs) : oRunG C Z n0 I EL ws (oR Z EL Qr) h cs sl (mkF C.m pc L (v :: S)) :=
  s_end hc hs (fun q => by rw [hr] at q; cases q) (fun _ q => ⟨rs, hQ, fun x hx => q x (hrs x hx)⟩) fun T locs fs K hl => by
    have X := K.1
    have hx := K.2.1
    have hd' := hb K.2.2.2.2.1 hd
    have hret := K.2.2.2.2.2.2.1.trans hr
    have hm' : T.vm.method? C.m = some C.meth := X.method'
    show Steps C.p.tables C.e C.below (T.setTop { method := C.m, pc := pc, locals := L, stack := v :: S, locked := none }) _
    jvm_step X.here [X.here.top, hx, hd', hm', hret, hv, ht]
    first | (intro acts; rw [hl _ acts rfl rfl rfl]) | rw [hl _ _ rfl rfl rfl]
    exact Steps.refl _
end OwnCore
-- OWN: Strings of Latin-1 chars
abbrev byt (c : Int32) : Int32 := c.toInt8.toInt32
def Ch (cs : List Int32) : Prop := ∀ c ∈ cs, ¬ c < 0 ∧ ¬ (255 : Int32) < c
theorem o_lt {x y : Int32} : x < y ↔ x.toInt < y.toInt := Int32.lt_iff_toInt_lt
theorem o_eq {x y : Int32} : x = y ↔ x.toInt = y.toInt := ⟨fun h => by rw [h], Int32.toInt_inj.mp⟩
theorem byt_byt (c : Int32) : nar .byte (byt c) = byt c := by show (c.toInt8.toInt32).toInt8.toInt32 = _; rw [Int8.toInt8_toInt32]
theorem c_byt {c : Int32} (h : ¬ c < 0 ∧ ¬ (255 : Int32) < c) : (byt c).toInt = if c.toInt < 128 then c.toInt else c.toInt - 256 := by
  have q := c_i2b c
  have h1 : ¬ c.toInt < (0 : Int32).toInt := fun z => h.1 (o_lt.mpr z)
  have h2 : ¬ (255 : Int32).toInt < c.toInt := fun z => h.2 (o_lt.mpr z)
  have e1 : (0 : Int32).toInt = 0 := rfl
  have e2 : (255 : Int32).toInt = 255 := rfl
  rw [e1] at h1; rw [e2] at h2
  show c.toInt8.toInt32.toInt = _
  split <;> omega
theorem byt_inj {c d : Int32} (hc : ¬ c < 0 ∧ ¬ (255 : Int32) < c) (hd : ¬ d < 0 ∧ ¬ (255 : Int32) < d) (h : byt c = byt d) : c = d := by
  have h' : (byt c).toInt = (byt d).toInt := by rw [h]
  rw [c_byt hc, c_byt hd] at h'
  have h1 : ¬ c.toInt < (0 : Int32).toInt := fun z => hc.1 (o_lt.mpr z)
  have h2 : ¬ (255 : Int32).toInt < c.toInt := fun z => hc.2 (o_lt.mpr z)
  have h3 : ¬ d.toInt < (0 : Int32).toInt := fun z => hd.1 (o_lt.mpr z)
  have h4 : ¬ (255 : Int32).toInt < d.toInt := fun z => hd.2 (o_lt.mpr z)
  have e1 : (0 : Int32).toInt = 0 := rfl
  have e2 : (255 : Int32).toInt = 255 := rfl
  rw [e1] at h1 h3; rw [e2] at h2 h4
  rw [o_eq]
  split at h' <;> split at h' <;> omega
theorem byt_and {c : Int32} (h : ¬ c < 0 ∧ ¬ (255 : Int32) < c) : (byt c) &&& (255 : Int32) = c := by
  rw [o_eq]
  have q := c_mask (byt c) 255 8 (by decide) (by decide)
  rw [q, c_byt h]
  have h1 : ¬ c.toInt < (0 : Int32).toInt := fun z => h.1 (o_lt.mpr z)
  have h2 : ¬ (255 : Int32).toInt < c.toInt := fun z => h.2 (o_lt.mpr z)
  have e1 : (0 : Int32).toInt = 0 := rfl
  have e2 : (255 : Int32).toInt = 255 := rfl
  rw [e1] at h1; rw [e2] at h2
  split <;> omega
theorem nn {i : Nat} (hi : i < 2147483648) : ¬ Int32.ofNat i < 0 := Int32.ofNat_not_neg (by omega)
theorem cl {i : Nat} (hi : i < 2147483648) : (Int32.ofNat i).toNatClampNeg = i := Jvm.Free.XT.n32 (by omega)
theorem lt' {a b : Nat} (hb : b < 2147483648) (h : a < b) : Int32.ofNat a < Int32.ofNat b := Jvm.Free.XT.lt32 (by omega) h
theorem nlt' {a b : Nat} (ha : a < 2147483648) (h : b ≤ a) : ¬ Int32.ofNat a < Int32.ofNat b := Jvm.Free.XT.nlt32 (by omega) h
theorem n_succ (i : Nat) : Int32.ofNat i + 1 = Int32.ofNat (i + 1) := Jvm.Free.XT.succ32 i
theorem n_inj {a b : Nat} (ha : a < 2147483648) (hb : b < 2147483648) (h : Int32.ofNat a = Int32.ofNat b) : a = b := by
  have := congrArg Int32.toNatClampNeg h; rwa [cl ha, cl hb] at this
def SV (Z : State) (h : Heap) (N : Nat) (a : Addr) (cs : List Int32) : Prop := ∃ b k, a < N ∧ b < N ∧ Exa Z h a "java/lang/String" ∧ Fld Z h a "java/lang/String" "coder" "B" (.int 0) ∧ Fld Z h a "java/lang/String" "value" "[B" (.ref b) ∧ Arv Z h b k .byte (Int32.ofNat cs.length) (cs.map fun c => Value.int (byt c)) (.int 0)
theorem SV.ext {Z : State} {h h' : Heap} {N : Nat} {a : Addr} {cs : List Int32} (F : SV Z h N a cs) (E : Ext h h') : SV Z h' N a cs := by
  obtain ⟨b, k, h1, h2, h3, h4, h5, h6⟩ := F; exact ⟨b, k, h1, h2, h3.ext E, h4.ext E, h5.ext E, h6.ext E⟩
theorem SV.keep {Z : State} {h h' : Heap} {N : Nat} {a : Addr} {cs : List Int32} {ws : List Addr} (F : SV Z h N a cs) (K : Keep h h' ws) (q : ∀ x ∈ ws, N ≤ x) : SV Z h' N a cs := by
  obtain ⟨b, k, h1, h2, h3, h4, h5, h6⟩ := F
  have na : a ∉ ws := fun z => absurd (q a z) (Nat.not_le.mpr h1)
  have nb : b ∉ ws := fun z => absurd (q b z) (Nat.not_le.mpr h2)
  exact ⟨b, k, h1, h2, h3.keep K, h4.keep K na, h5.keep K na, h6.keep K nb⟩
theorem SV.wr {Z : State} {h h' : Heap} {N : Nat} {a x : Addr} {cs : List Int32} {sl : Nat} {v : Value} (F : SV Z h N a cs) (W : Wr h h' x sl v) (q : N ≤ x) : SV Z h' N a cs := F.keep (Keep.of_wr W) (allS q all0)
theorem SV.mono {Z : State} {h : Heap} {N M : Nat} {a : Addr} {cs : List Int32} (F : SV Z h N a cs) (q : N ≤ M) : SV Z h M a cs := by
  obtain ⟨b, k, h1, h2, r⟩ := F; exact ⟨b, k, Nat.lt_of_lt_of_le h1 q, Nat.lt_of_lt_of_le h2 q, r⟩
theorem SV.exa {Z : State} {h : Heap} {N : Nat} {a : Addr} {cs : List Int32} (F : SV Z h N a cs) : Exa Z h a "java/lang/String" := by obtain ⟨b, k, h1, h2, h3, -⟩ := F; exact h3
theorem SV.lt {Z : State} {h : Heap} {N : Nat} {a : Addr} {cs : List Int32} (F : SV Z h N a cs) : a < N := by obtain ⟨b, k, h1, -⟩ := F; exact h1
theorem o_extKeep {h0 h1 h : Heap} {ws : List Addr} (E : Ext h0 h1) (K : Keep h1 h ws) (q : ∀ x ∈ ws, h0.size ≤ x) : Ext h0 h :=
  ⟨Nat.le_trans E.1 K.1, fun a c hc => K.2.1 a c (E.2 a c hc) fun z => absurd (Array.getElem?_eq_some_iff.mp hc).1 (Nat.not_lt.mpr (q a z))⟩
theorem o_ext {h0 h1 h2 : Heap} (E : Ext h0 h1) (E' : Ext h1 h2) : Ext h0 h2 := ⟨Nat.le_trans E.1 E'.1, fun a c hc => E'.2 a c (E.2 a c hc)⟩
theorem o_kext {h0 h1 h : Heap} {ws : List Addr} (E : Ext h0 h1) (K : Keep h1 h ws) : Keep h0 h ws := (((Keep.refl h0 ws).ext E).trans K fun x hx => Or.inl hx)
def bv (cs : List Int32) (j : Nat) : List Value := (cs.take j).map (fun c => Value.int (byt c)) ++ List.replicate (cs.length - j) (.int 0)
theorem bv_len (cs : List Int32) {j : Nat} (hj : j ≤ cs.length) : (bv cs j).length = cs.length := by simp [bv]; omega
theorem bv_set {cs : List Int32} {j : Nat} {c : Int32} (hc : cs[j]? = some c) : (bv cs j).set j (.int (byt c)) = bv cs (j + 1) := by
  obtain ⟨hj, -⟩ := List.getElem?_eq_some_iff.mp hc
  have e : List.replicate (cs.length - j) (Value.int 0) = .int 0 :: List.replicate (cs.length - (j + 1)) (.int 0) := by
    rw [show cs.length - j = (cs.length - (j + 1)) + 1 by omega, List.replicate_succ]
  have el : ((cs.take j).map fun c => Value.int (byt c)).length = j := by simp; omega
  unfold bv
  rw [e, List.set_append_right _ _ (by omega), el, Nat.sub_self, List.set_cons_zero, List.take_add_one, hc]
  simp
theorem bv_end (cs : List Int32) : bv cs cs.length = cs.map fun c => Value.int (byt c) := by simp [bv]
theorem cs_get {cs : List Int32} {j : Nat} {c : Int32} (hc : cs[j]? = some c) (d : Value) : (cs.map Value.int).getD j d = .int c := by
  rw [List.getD_eq_getElem?_getD, List.getElem?_map, hc]; rfl
theorem bs_get {cs : List Int32} {j : Nat} {c : Int32} (hc : cs[j]? = some c) (d : Value) : (cs.map fun c => Value.int (byt c)).getD j d = .int (byt c) := by
  rw [List.getD_eq_getElem?_getD, List.getElem?_map, hc]; rfl
theorem nar_ch {c : Int32} (h : ¬ c < 0 ∧ ¬ (255 : Int32) < c) : nar .char c = c := by
  rw [o_eq]; have q := c_i2c c
  have h1 : ¬ c.toInt < (0 : Int32).toInt := fun z => h.1 (o_lt.mpr z)
  have h2 : ¬ (255 : Int32).toInt < c.toInt := fun z => h.2 (o_lt.mpr z)
  have e1 : (0 : Int32).toInt = 0 := rfl
  have e2 : (255 : Int32).toInt = 255 := rfl
  rw [e1] at h1; rw [e2] at h2
  show c.toUInt32.toUInt16.toUInt32.toInt32.toInt = _; omega
theorem r_and (x : Int32) : ¬ (x &&& 255) < 0 ∧ ¬ (255 : Int32) < (x &&& 255) := by
  have h1 := c_and x 255 (by decide)
  have e2 : (255 : Int32).toInt = 255 := rfl
  have e1 : (0 : Int32).toInt = 0 := rfl
  rw [o_lt, o_lt, e1, e2]; rw [e2] at h1; omega
theorem r_nat {c : Int32} : (¬ c < 0 ∧ ¬ (255 : Int32) < c) ↔ c.toBitVec.toNat < 256 := by
  have e2 : (255 : Int32).toInt = 255 := rfl
  have e1 : (0 : Int32).toInt = 0 := rfl
  rw [o_lt, o_lt, e1, e2]
  have q : c.toInt = c.toBitVec.toInt := rfl
  rw [q, BitVec.toInt_eq_toNat_cond]
  have := c.toBitVec.isLt
  split <;> omega
theorem r_xor {x y : Int32} (hx : ¬ x < 0 ∧ ¬ (255 : Int32) < x) (hy : ¬ y < 0 ∧ ¬ (255 : Int32) < y) : ¬ (x ^^^ y) < 0 ∧ ¬ (255 : Int32) < (x ^^^ y) := by
  rw [r_nat] at *
  rw [Int32.toBitVec_xor, BitVec.toNat_xor]
  exact Nat.xor_lt_two_pow (n := 8) hx hy
theorem i2c_ch {c : Int32} (h : ¬ c < 0 ∧ ¬ (255 : Int32) < c) : c.toUInt32.toUInt16.toUInt32.toInt32 = c := nar_ch h
def EL1 : List (String × Nat) := [("java/lang/String", 7)]
def OG (Z : State) (a0 : Array Value) : Prop := (∀ d ∈ tables_1, d.before a0 Z = true) ∧ EW Z a0 EL1 ∧ (∃ cmp : Int32, Sta Z Z.heap "java/lang/String" "COMPACT_STRINGS" "Z" (.int cmp) ∧ ¬ cmp = 0) ∧ (∃ fm : Value, fm.isRef = true ∧ Sta Z Z.heap "jdk/internal/util/Preconditions" "SIOOBE_FORMATTER" "Ljava/util/function/BiFunction;" fm)
theorem o_wS {Z : State} {a0 : Array Value} (hw : ∀ d ∈ tables_1, d.before a0 Z = true) : ∀ d ∈ Bundle.stringAtoms, d.before a0 Z = true := by
  intro d hd
  simp only [Bundle.stringAtoms, List.mem_cons, List.not_mem_nil, or_false] at hd
  rcases hd with rfl | rfl | rfl | rfl | rfl | rfl | rfl
  · exact (hw _ (List.mem_of_getElem? (i := 11) rfl))
  · exact (hw _ (List.mem_of_getElem? (i := 10) rfl))
  · exact (hw _ (List.mem_of_getElem? (i := 24) rfl))
  · exact (hw _ (List.mem_of_getElem? (i := 25) rfl))
  · exact (hw _ (List.mem_of_getElem? (i := 26) rfl))
  · exact (hw _ (List.mem_of_getElem? (i := 27) rfl))
  · exact (hw _ (List.mem_of_getElem? (i := 28) rfl))
def icB : OInfo := ("java/lang/StringUTF16", jdk_52_method_21_code, 7, (some .int), "compress", ({ frames := 0, cells := 0, slots := 0, locals := 0 } : Room))
theorem efcB (x0 : Addr) (x1 : Int32) (x2 : Addr) (x3 : Int32) (x4 : Int32) (m : MethodId) : entryFrame m #[(.ref x0), (.int x1), (.ref x2), (.int x3), (.int x4)] 7 = mkF m 0 #[.val (.ref x0), .val (.int x1), .val (.ref x2), .val (.int x3), .val (.int x4), .unset, .unset] [] := by first | (simp [entryFrame, mkF, argsToLocals, Value.category]; done) | rfl
theorem pdcB : parseMethodDescriptor "([CI[BII)I" = some ⟨[(.array .char), .int, (.array .byte), .int, .int], some .int⟩ := by decide +kernel
theorem pncB : plainFor (⟨"java/lang/StringUTF16", "compress", "([CI[BII)I"⟩ : MethodName) = true := by decide +kernel
theorem dcB_0 : decode jdk_52_method_21_code 0 = .ok (.iconst 0, 1) := by decide +kernel
theorem dcB_1 : decode jdk_52_method_21_code 1 = .ok (.istore 5, 2) := by decide +kernel
theorem dcB_3 : decode jdk_52_method_21_code 3 = .ok (.iload 5, 2) := by decide +kernel
theorem dcB_5 : decode jdk_52_method_21_code 5 = .ok (.iload 4, 2) := by decide +kernel
theorem dcB_7 : decode jdk_52_method_21_code 7 = .ok (.if_icmp .ge 37, 3) := by decide +kernel
theorem dcB_10 : decode jdk_52_method_21_code 10 = .ok (.aload_n 0, 1) := by decide +kernel
theorem dcB_11 : decode jdk_52_method_21_code 11 = .ok (.iload_n 1, 1) := by decide +kernel
theorem dcB_12 : decode jdk_52_method_21_code 12 = .ok (.caload, 1) := by decide +kernel
theorem dcB_13 : decode jdk_52_method_21_code 13 = .ok (.istore 6, 2) := by decide +kernel
theorem dcB_15 : decode jdk_52_method_21_code 15 = .ok (.iload 6, 2) := by decide +kernel
theorem dcB_17 : decode jdk_52_method_21_code 17 = .ok (.sipush 255, 3) := by decide +kernel
theorem dcB_20 : decode jdk_52_method_21_code 20 = .ok (.if_icmp .le 6, 3) := by decide +kernel
theorem dcB_26 : decode jdk_52_method_21_code 26 = .ok (.aload_n 2, 1) := by decide +kernel
theorem dcB_27 : decode jdk_52_method_21_code 27 = .ok (.iload_n 3, 1) := by decide +kernel
theorem dcB_28 : decode jdk_52_method_21_code 28 = .ok (.iload 6, 2) := by decide +kernel
theorem dcB_30 : decode jdk_52_method_21_code 30 = .ok (.i2b, 1) := by decide +kernel
theorem dcB_31 : decode jdk_52_method_21_code 31 = .ok (.bastore, 1) := by decide +kernel
theorem dcB_32 : decode jdk_52_method_21_code 32 = .ok (.iinc 1 1, 3) := by decide +kernel
theorem dcB_35 : decode jdk_52_method_21_code 35 = .ok (.iinc 3 1, 3) := by decide +kernel
theorem dcB_38 : decode jdk_52_method_21_code 38 = .ok (.iinc 5 1, 3) := by decide +kernel
theorem dcB_41 : decode jdk_52_method_21_code 41 = .ok (.goto (-38), 3) := by decide +kernel
theorem dcB_44 : decode jdk_52_method_21_code 44 = .ok (.iload 4, 2) := by decide +kernel
theorem dcB_46 : decode jdk_52_method_21_code 46 = .ok (.ireturn, 1) := by decide +kernel
set_option maxRecDepth 65536 in
set_option maxHeartbeats 4000000 in
theorem cBloop {C : OCtx} {Z : State} {n0 : Nat} {ws : List Addr} {Q : Option Value → Heap → Prop} {h0 : Heap} {c d : Addr} {kc kd : ClassId} {cs : List Int32} {dv : Value} (hb : cs.length < 2147483648) (hch : Ch cs) (gd : n0 ≤ d) (hd : d ∈ ws) (hcd : c ≠ d)
    (fin : ∀ h, Keep h0 h [d] → Arv Z h d kd .byte (Int32.ofNat cs.length) (cs.map fun c => Value.int (byt c)) (.int 0) → Q (some (.int (Int32.ofNat cs.length))) h) (k : Nat) :
    ∀ (h : Heap) (j : Nat) (s6 : Slot), j ≤ cs.length → cs.length - j = k → Keep h0 h [d] → Arv Z h c kc .char (Int32.ofNat cs.length) (cs.map .int) dv → Arv Z h d kd .byte (Int32.ofNat cs.length) (bv cs j) (.int 0) → One s6 →
    oRun C Z n0 icB EL1 ws Q h 0 0 (mkF C.m 3 #[.val (.ref c), .val (.int (Int32.ofNat j)), .val (.ref d), .val (.int (Int32.ofNat j)), .val (.int (Int32.ofNat cs.length)), .val (.int (Int32.ofNat j)), s6] []) := by
  induction k using Nat.strongRecOn with
  | _ k ih =>
  intro h j s6 hj hk K A D hs6
  subst hk
  refine s_iload (pc' := 5) dcB_3 rfl rfl ?_
  refine s_iload (pc' := 7) dcB_5 rfl rfl ?_
  refine s_icmp (pc' := 10) (pc'' := 44) dcB_7 rfl (by decide) rfl (fun hc7 => ?_) (fun hc7 => ?_)
  · replace hc7 := b_ge hc7
    obtain rfl : j = cs.length := by
      by_cases q : j < cs.length
      · exact absurd (lt' hb q) hc7
      · omega
    rw [bv_end] at D
    refine s_iload (pc' := 46) dcB_44 rfl rfl ?_
    exact s_iret rfl dcB_46 (by decide) (by decide) (fin _ K D)
  · replace hc7 := b_geF hc7
    have hj2 : j < cs.length := by
      by_cases q : j < cs.length
      · exact q
      · exact absurd hc7 (nlt' (by omega) (by omega))
    obtain ⟨z, hz⟩ : ∃ z, cs[j]? = some z := ⟨cs[j], List.getElem?_eq_getElem hj2⟩
    have hzr := hch z (List.mem_of_getElem? hz)
    refine s_aloadN (pc' := 11) dcB_10 rfl rfl rfl ?_
    refine s_iloadN (pc' := 12) dcB_11 rfl rfl ?_
    refine s_caload A (nn (by omega)) (lt' hb hj2) (v := .int z) (by rw [cl (by omega)]; exact cs_get hz _) (pc' := 13) dcB_12 rfl ?_
    refine s_istore (pc' := 15) dcB_13 rfl (o_st rfl (by first | exact One.u | exact One.val rfl | assumption) rfl) ?_
    dsimp only [List.set_cons_succ, List.set_cons_zero]
    refine s_iload (pc' := 17) dcB_15 rfl rfl ?_
    refine s_sipush (x := (255 : Int32)) (pc' := 20) dcB_17 rfl rfl ?_
    refine s_icmp (pc' := 23) (pc'' := 26) dcB_20 rfl (by decide) rfl (fun hc20 => ?_) (fun hc20 => ?_)
    · replace hc20 := b_le hc20
      refine s_aloadN (pc' := 27) dcB_26 rfl rfl rfl ?_
      refine s_iloadN (pc' := 28) dcB_27 rfl rfl ?_
      refine s_iload (pc' := 30) dcB_28 rfl rfl ?_
      refine s_i2b (pc' := 31) dcB_30 rfl ?_
      refine s_bastore D gd hd (nn (by omega)) (lt' hb hj2) j (cl (by omega)) (by rw [bv_len _ hj]; omega) (pc' := 32) dcB_31 rfl (fun h31 W31 D31 => ?_)
      rw [byt_byt, bv_set hz] at D31
      refine s_iinc (y := (1 : Int32)) (pc' := 35) dcB_32 rfl rfl rfl (o_st rfl (by first | exact One.u | exact One.val rfl | assumption) rfl) ?_
      dsimp only [List.set_cons_succ, List.set_cons_zero]
      rw [n_succ]
      refine s_iinc (y := (1 : Int32)) (pc' := 38) dcB_35 rfl rfl rfl (o_st rfl (by first | exact One.u | exact One.val rfl | assumption) rfl) ?_
      dsimp only [List.set_cons_succ, List.set_cons_zero]
      rw [n_succ]
      refine s_iinc (y := (1 : Int32)) (pc' := 41) dcB_38 rfl rfl rfl (o_st rfl (by first | exact One.u | exact One.val rfl | assumption) rfl) ?_
      dsimp only [List.set_cons_succ, List.set_cons_zero]
      rw [n_succ]
      refine s_goto (pc' := 3) dcB_41 (by decide) rfl ?_
      exact ih (cs.length - (j + 1)) (by omega) h31 (j + 1) _ (by omega) rfl (K.wr W31 (Or.inl (List.mem_cons_self ..))) (A.other W31 hcd) D31 (One.val rfl)
    · replace hc20 := b_leF hc20
      exact absurd hc20 hzr.2
set_option maxRecDepth 65536 in
set_option maxHeartbeats 4000000 in
theorem rmcB (l : Launch) {Z : State} {a0 : Array Value} (G : OG Z a0) (n0 : Nat) (c d : Addr) (kc kd : ClassId) (cs : List Int32) (dv : Value) (h0 : Heap) (hb : cs.length < 2147483648) (hch : Ch cs) (gd : n0 ≤ d) (hcd : c ≠ d) (A : Arv Z h0 c kc .char (Int32.ofNat cs.length) (cs.map .int) dv) (D : Arv Z h0 d kd .byte (Int32.ofNat cs.length) (List.replicate cs.length (.int 0)) (.int 0)) : oCon l Z n0 EL1 [d] (⟨"java/lang/StringUTF16", "compress", "([CI[BII)I"⟩ : MethodName) icB #[.ref c, .int 0, .ref d, .int 0, .int (Int32.ofNat cs.length)] h0 (fun v h => v = some (.int (Int32.ofNat cs.length)) ∧ Keep h0 h [d] ∧ Arv Z h d kd .byte (Int32.ofNat cs.length) (cs.map fun c => Value.int (byt c)) (.int 0)) := by
  obtain ⟨hw, hEL, ⟨cmp, hC, hc0⟩, ⟨fm, hfm, hF⟩⟩ := id G
  refine oCon.mk hEL pncB rfl rfl (efcB c 0 d 0 _) fun C hCl => ?_
  refine s_iconst (x := (0 : Int32)) (pc' := 1) dcB_0 rfl rfl ?_
  refine s_istore (pc' := 3) dcB_1 rfl (o_st rfl (by first | exact One.u | exact One.val rfl | assumption) rfl) ?_
  dsimp only [List.set_cons_succ, List.set_cons_zero]
  exact cBloop hb hch gd (List.mem_cons_self ..) hcd (fun h K D => ⟨rfl, K, D⟩) cs.length h0 0 _ (Nat.zero_le _) rfl (Keep.refl _ _) A (by simpa [bv] using D) One.u
def icA : OInfo := ("java/lang/StringUTF16", jdk_52_method_16_code, 6, (some (.array .byte)), "compress", ({ frames := 1, cells := 1, slots := 4, locals := 18 } : Room))
theorem efcA (x0 : Addr) (x1 : Int32) (x2 : Int32) (m : MethodId) : entryFrame m #[(.ref x0), (.int x1), (.int x2)] 6 = mkF m 0 #[.val (.ref x0), .val (.int x1), .val (.int x2), .unset, .unset, .unset] [] := by first | (simp [entryFrame, mkF, argsToLocals, Value.category]; done) | rfl
theorem pdcA : parseMethodDescriptor "([CII)[B" = some ⟨[(.array .char), .int, .int], some (.array .byte)⟩ := by decide +kernel
theorem pncA : plainFor (⟨"java/lang/StringUTF16", "compress", "([CII)[B"⟩ : MethodName) = true := by decide +kernel
theorem dcA_0 : decode jdk_52_method_16_code 0 = .ok (.iload_n 2, 1) := by decide +kernel
theorem dcA_1 : decode jdk_52_method_16_code 1 = .ok (.newarray .byte, 2) := by decide +kernel
theorem dcA_3 : decode jdk_52_method_16_code 3 = .ok (.astore_n 3, 1) := by decide +kernel
theorem dcA_4 : decode jdk_52_method_16_code 4 = .ok (.aload_n 0, 1) := by decide +kernel
theorem dcA_5 : decode jdk_52_method_16_code 5 = .ok (.iload_n 1, 1) := by decide +kernel
theorem dcA_6 : decode jdk_52_method_16_code 6 = .ok (.aload_n 3, 1) := by decide +kernel
theorem dcA_7 : decode jdk_52_method_16_code 7 = .ok (.iconst 0, 1) := by decide +kernel
theorem dcA_8 : decode jdk_52_method_16_code 8 = .ok (.iload_n 2, 1) := by decide +kernel
theorem dcA_9 : decode jdk_52_method_16_code 9 = .ok (.invokestatic 115, 3) := by decide +kernel
theorem dcA_12 : decode jdk_52_method_16_code 12 = .ok (.istore 4, 2) := by decide +kernel
theorem dcA_14 : decode jdk_52_method_16_code 14 = .ok (.iload 4, 2) := by decide +kernel
theorem dcA_16 : decode jdk_52_method_16_code 16 = .ok (.iload_n 2, 1) := by decide +kernel
theorem dcA_17 : decode jdk_52_method_16_code 17 = .ok (.if_icmp .eq 40, 3) := by decide +kernel
theorem dcA_57 : decode jdk_52_method_16_code 57 = .ok (.aload_n 3, 1) := by decide +kernel
theorem dcA_58 : decode jdk_52_method_16_code 58 = .ok (.areturn, 1) := by decide +kernel
set_option maxRecDepth 65536 in
set_option maxHeartbeats 4000000 in
theorem rmcA (l : Launch) {Z : State} {a0 : Array Value} (G : OG Z a0) (n0 : Nat) (c : Addr) (kc : ClassId) (cs : List Int32) (dv : Value) (h0 : Heap) (hcap : cs.length ≤ 4) (hch : Ch cs) (A : Arv Z h0 c kc .char (Int32.ofNat cs.length) (cs.map .int) dv) : oCon l Z n0 EL1 [] (⟨"java/lang/StringUTF16", "compress", "([CII)[B"⟩ : MethodName) icA #[.ref c, .int 0, .int (Int32.ofNat cs.length)] h0 (fun v h => ∃ d k, v = some (.ref d) ∧ h0.size ≤ d ∧ Ext h0 h ∧ Arv Z h d k .byte (Int32.ofNat cs.length) (cs.map fun c => Value.int (byt c)) (.int 0)) := by
  obtain ⟨hw, hEL, ⟨cmp, hC, hc0⟩, ⟨fm, hfm, hF⟩⟩ := id G
  refine oCon.mk hEL pncA rfl rfl (efcA c 0 _) fun C hCl => ?_
  refine s_iloadN (pc' := 1) dcA_0 rfl rfl ?_
  refine s_newA 4 (hw _ (List.mem_of_getElem? (i := 24) rfl)) (pc' := 3) dcA_1 rfl (nn (by omega)) (by rw [cl (by omega)]; exact hcap) (by decide) (Nat.le_of_ble_eq_true rfl) (Nat.le_of_ble_eq_true rfl) (fun h1 b1 k1 g1 nb1 E1 A1 => ?_)
  have hcd : c ≠ b1 := o_fresh A.lt g1
  refine s_astoreN (kn := 3) rfl (pc' := 4) dcA_3 rfl rfl (o_st rfl (by first | exact One.u | exact One.val rfl | assumption) rfl) ?_
  dsimp only [List.set_cons_succ, List.set_cons_zero]
  refine s_aloadN (pc' := 5) dcA_4 rfl rfl rfl ?_
  refine s_iloadN (pc' := 6) dcA_5 rfl rfl ?_
  refine s_aloadN (pc' := 7) dcA_6 rfl rfl rfl ?_
  refine s_iconst (x := (0 : Int32)) (pc' := 8) dcA_7 rfl rfl ?_
  refine s_iloadN (pc' := 9) dcA_8 rfl rfl ?_
  refine s_callS5 (rmcB C.l G n0 c b1 kc k1 cs dv h1 (by omega) hch nb1 hcd (A.ext E1) (by have q := o_padTo A1 cs.length; rw [List.nil_append] at q; exact q)) (by simp) (hw _ (List.mem_of_getElem? (i := 125) rfl)) (hw _ (List.mem_of_getElem? (i := 126) rfl)) (hw _ (List.mem_of_getElem? (i := 123) rfl)) (hw _ (List.mem_of_getElem? (i := 127) rfl)) (by decide) (o_len pdcB rfl) rfl (pc' := 12) dcA_9 rfl (Nat.le_of_ble_eq_true rfl) (Nat.le_of_ble_eq_true rfl) (Nat.le_of_ble_eq_true rfl) (Nat.le_of_ble_eq_true rfl) (fun v9 h9 hQ9 => ?_)
  obtain ⟨rfl, K9, D9⟩ := hQ9
  dsimp only [oPush]
  refine s_istore (pc' := 14) dcA_12 rfl (o_st rfl (by first | exact One.u | exact One.val rfl | assumption) rfl) ?_
  dsimp only [List.set_cons_succ, List.set_cons_zero]
  refine s_iload (pc' := 16) dcA_14 rfl rfl ?_
  refine s_iloadN (pc' := 17) dcA_16 rfl rfl ?_
  refine s_icmp (pc' := 20) (pc'' := 57) dcA_17 rfl (by decide) rfl (fun hc17 => ?_) (fun hc17 => ?_)
  · replace hc17 := b_eq hc17
    refine s_aloadN (pc' := 58) dcA_57 rfl rfl rfl ?_
    exact s_aret rfl rfl rfl dcA_58 (by decide) (by decide) ⟨b1, k1, rfl, Nat.le_of_eq g1.symm, o_extKeep E1 K9 (allS (Nat.le_of_eq g1.symm) all0), D9⟩
  · replace hc17 := b_eqF hc17
    exact absurd rfl hc17
def icF : OInfo := ("java/lang/StringUTF16", jdk_52_method_15_code, 2, (some .byte), "coderFromArrayLen", ({ frames := 0, cells := 0, slots := 0, locals := 0 } : Room))
theorem efcF (x0 : Addr) (x1 : Int32) (m : MethodId) : entryFrame m #[(.ref x0), (.int x1)] 2 = mkF m 0 #[.val (.ref x0), .val (.int x1)] [] := by first | (simp [entryFrame, mkF, argsToLocals, Value.category]; done) | rfl
theorem pdcF : parseMethodDescriptor "([BI)B" = some ⟨[(.array .byte), .int], some .byte⟩ := by decide +kernel
theorem pncF : plainFor (⟨"java/lang/StringUTF16", "coderFromArrayLen", "([BI)B"⟩ : MethodName) = true := by decide +kernel
theorem dcF_0 : decode jdk_52_method_15_code 0 = .ok (.iload_n 1, 1) := by decide +kernel
theorem dcF_1 : decode jdk_52_method_15_code 1 = .ok (.aload_n 0, 1) := by decide +kernel
theorem dcF_2 : decode jdk_52_method_15_code 2 = .ok (.arraylength, 1) := by decide +kernel
theorem dcF_3 : decode jdk_52_method_15_code 3 = .ok (.isub, 1) := by decide +kernel
theorem dcF_4 : decode jdk_52_method_15_code 4 = .ok (.bipush 31, 2) := by decide +kernel
theorem dcF_6 : decode jdk_52_method_15_code 6 = .ok (.iushr, 1) := by decide +kernel
theorem dcF_7 : decode jdk_52_method_15_code 7 = .ok (.i2b, 1) := by decide +kernel
theorem dcF_8 : decode jdk_52_method_15_code 8 = .ok (.ireturn, 1) := by decide +kernel
set_option maxRecDepth 65536 in
set_option maxHeartbeats 4000000 in
theorem rmcF (l : Launch) {Z : State} {a0 : Array Value} (G : OG Z a0) (n0 : Nat) (d : Addr) (k : ClassId) (n : Int32) (vs : List Value) (dv : Value) (h0 : Heap) (A : Arv Z h0 d k .byte n vs dv) : oCon l Z n0 EL1 [] (⟨"java/lang/StringUTF16", "coderFromArrayLen", "([BI)B"⟩ : MethodName) icF #[.ref d, .int n] h0 (fun v h => v = some (.int 0) ∧ h = h0) := by
  obtain ⟨hw, hEL, ⟨cmp, hC, hc0⟩, ⟨fm, hfm, hF⟩⟩ := id G
  refine oCon.mk hEL pncF rfl rfl (efcF d n) fun C hCl => ?_
  refine s_iloadN (pc' := 1) dcF_0 rfl rfl ?_
  refine s_aloadN (pc' := 2) dcF_1 rfl rfl rfl ?_
  refine s_alen A (pc' := 3) dcF_2 rfl ?_
  refine s_isub (pc' := 4) dcF_3 rfl ?_
  refine s_bipush (x := (31 : Int32)) (pc' := 6) dcF_4 rfl rfl ?_
  refine s_iushr (pc' := 7) dcF_6 rfl ?_
  refine s_i2b (pc' := 8) dcF_7 rfl ?_
  exact s_nret (t := .byte) rfl (by simp) dcF_8 (by decide) (by decide) ⟨by rw [Int32.sub_self]; rfl, rfl⟩
def isV : OInfo := ("java/lang/String", jdk_42_method_149_code, 6, none, "<init>", ({ frames := 2, cells := 4, slots := 8, locals := 47 } : Room))
theorem pdsV : parseMethodDescriptor "([CIILjava/lang/Void;)V" = some ⟨[(.array .char), .int, .int, (.object "java/lang/Void")], none⟩ := by decide +kernel
theorem pnsV : plainFor (⟨"java/lang/String", "<init>", "([CIILjava/lang/Void;)V"⟩ : MethodName) = true := by decide +kernel
theorem efsV (x0 x1 : Addr) (x2 x3 : Int32) (m : MethodId) : entryFrame m #[(.ref x0), (.ref x1), (.int x2), (.int x3), .null] 6 = mkF m 0 #[.val (.ref x0), .val (.ref x1), .val (.int x2), .val (.int x3), .val .null, .unset] [] := by first | (simp [entryFrame, mkF, argsToLocals, Value.category]; done) | rfl
theorem dsV_0 : decode jdk_42_method_149_code 0 = .ok (.aload_n 0, 1) := by decide +kernel
theorem dsV_1 : decode jdk_42_method_149_code 1 = .ok (.invokespecial 1, 3) := by decide +kernel
theorem dsV_4 : decode jdk_42_method_149_code 4 = .ok (.iload_n 3, 1) := by decide +kernel
theorem dsV_5 : decode jdk_42_method_149_code 5 = .ok (.ifCond .ne 22, 3) := by decide +kernel
theorem dsV_8 : decode jdk_42_method_149_code 8 = .ok (.aload_n 0, 1) := by decide +kernel
theorem dsV_9 : decode jdk_42_method_149_code 9 = .ok (.ldc 7, 2) := by decide +kernel
theorem dsV_11 : decode jdk_42_method_149_code 11 = .ok (.getfield 9, 3) := by decide +kernel
theorem dsV_14 : decode jdk_42_method_149_code 14 = .ok (.putfield 9, 3) := by decide +kernel
theorem dsV_17 : decode jdk_42_method_149_code 17 = .ok (.aload_n 0, 1) := by decide +kernel
theorem dsV_18 : decode jdk_42_method_149_code 18 = .ok (.ldc 7, 2) := by decide +kernel
theorem dsV_20 : decode jdk_42_method_149_code 20 = .ok (.getfield 15, 3) := by decide +kernel
theorem dsV_23 : decode jdk_42_method_149_code 23 = .ok (.putfield 15, 3) := by decide +kernel
theorem dsV_26 : decode jdk_42_method_149_code 26 = .ok (.return_, 1) := by decide +kernel
theorem dsV_27 : decode jdk_42_method_149_code 27 = .ok (.getstatic 38, 3) := by decide +kernel
theorem dsV_30 : decode jdk_42_method_149_code 30 = .ok (.ifCond .eq 28, 3) := by decide +kernel
theorem dsV_33 : decode jdk_42_method_149_code 33 = .ok (.aload_n 1, 1) := by decide +kernel
theorem dsV_34 : decode jdk_42_method_149_code 34 = .ok (.iload_n 2, 1) := by decide +kernel
theorem dsV_35 : decode jdk_42_method_149_code 35 = .ok (.iload_n 3, 1) := by decide +kernel
theorem dsV_36 : decode jdk_42_method_149_code 36 = .ok (.invokestatic 177, 3) := by decide +kernel
theorem dsV_39 : decode jdk_42_method_149_code 39 = .ok (.astore 5, 2) := by decide +kernel
theorem dsV_41 : decode jdk_42_method_149_code 41 = .ok (.aload_n 0, 1) := by decide +kernel
theorem dsV_42 : decode jdk_42_method_149_code 42 = .ok (.aload 5, 2) := by decide +kernel
theorem dsV_44 : decode jdk_42_method_149_code 44 = .ok (.iload_n 3, 1) := by decide +kernel
theorem dsV_45 : decode jdk_42_method_149_code 45 = .ok (.invokestatic 47, 3) := by decide +kernel
theorem dsV_48 : decode jdk_42_method_149_code 48 = .ok (.putfield 15, 3) := by decide +kernel
theorem dsV_51 : decode jdk_42_method_149_code 51 = .ok (.aload_n 0, 1) := by decide +kernel
theorem dsV_52 : decode jdk_42_method_149_code 52 = .ok (.aload 5, 2) := by decide +kernel
theorem dsV_54 : decode jdk_42_method_149_code 54 = .ok (.putfield 9, 3) := by decide +kernel
theorem dsV_57 : decode jdk_42_method_149_code 57 = .ok (.return_, 1) := by decide +kernel
set_option maxRecDepth 65536 in
set_option maxHeartbeats 4000000 in
theorem rmsV (l : Launch) {Z : State} {a0 : Array Value} (G : OG Z a0) (n0 : Nat) (a c : Addr) (kc : ClassId) (cs : List Int32) (dv : Value) (h0 : Heap) (hcap : cs.length ≤ 4) (hch : Ch cs) (A : Arv Z h0 c kc .char (Int32.ofNat cs.length) (cs.map .int) dv) (E : Exa Z h0 a "java/lang/String") (F1 : Fld Z h0 a "java/lang/String" "value" "[B" .null) (F2 : Fld Z h0 a "java/lang/String" "coder" "B" (.int 0)) (ga : n0 ≤ a) : oCon l Z n0 EL1 [a] (⟨"java/lang/String", "<init>", "([CIILjava/lang/Void;)V"⟩ : MethodName) isV #[.ref a, .ref c, .int 0, .int (Int32.ofNat cs.length), .null] h0 (fun v h => v = none ∧ Keep h0 h [a] ∧ SV Z h h.size a cs) := by
  obtain ⟨hw, hEL, ⟨cmp, hC, hc0⟩, ⟨fm, hfm, hF⟩⟩ := id G
  have ha : a ∈ [a] := List.mem_cons_self ..
  refine oCon.mk hEL pnsV rfl rfl (efsV a c 0 _) fun C hCl => ?_
  refine s_aloadN (pc' := 1) dsV_0 rfl rfl rfl ?_
  refine s_initO (hw _ (List.mem_of_getElem? (i := 20) rfl)) (hw _ (List.mem_of_getElem? (i := 21) rfl)) (hw _ (List.mem_of_getElem? (i := 22) rfl)) rfl (pc' := 4) dsV_1 rfl (Nat.le_of_ble_eq_true rfl) (Nat.le_of_ble_eq_true rfl) ?_
  refine s_iloadN (pc' := 5) dsV_4 rfl rfl ?_
  refine s_if (pc' := 8) (pc'' := 27) dsV_5 rfl (by decide) rfl (fun hc5 => ?_) (fun hc5 => ?_)
  · replace hc5 := b_ne hc5
    refine s_getS hC (hw _ (List.mem_of_getElem? (i := 52) rfl)) Via.refl (pc' := 30) dsV_27 rfl ?_
    refine s_if (pc' := 33) (pc'' := 58) dsV_30 rfl (by decide) rfl (fun hc30 => ?_) (fun hc30 => ?_)
    · replace hc30 := b_eq hc30
      exact absurd hc30 hc0
    · replace hc30 := b_eqF hc30
      refine s_aloadN (pc' := 34) dsV_33 rfl rfl rfl ?_
      refine s_iloadN (pc' := 35) dsV_34 rfl rfl ?_
      refine s_iloadN (pc' := 36) dsV_35 rfl rfl ?_
      refine s_callS3 (rmcA C.l G n0 c kc cs dv h0 hcap hch A) (by simp) (hw _ (List.mem_of_getElem? (i := 121) rfl)) (hw _ (List.mem_of_getElem? (i := 122) rfl)) (hw _ (List.mem_of_getElem? (i := 123) rfl)) (hw _ (List.mem_of_getElem? (i := 124) rfl)) (by decide) (o_len pdcA rfl) rfl (pc' := 39) dsV_36 rfl (Nat.le_of_ble_eq_true rfl) (Nat.le_of_ble_eq_true rfl) (Nat.le_of_ble_eq_true rfl) (Nat.le_of_ble_eq_true rfl) (fun v36 h36 hQ36 => ?_)
      obtain ⟨d, kd, rfl, gd, E36, D36⟩ := hQ36
      dsimp only [oPush]
      have had : a ≠ d := o_fresh' E.lt gd
      refine s_astore (pc' := 41) dsV_39 rfl rfl (o_st rfl (by first | exact One.u | exact One.val rfl | assumption) rfl) ?_
      dsimp only [List.set_cons_succ, List.set_cons_zero]
      refine s_aloadN (pc' := 42) dsV_41 rfl rfl rfl ?_
      refine s_aload (pc' := 44) dsV_42 rfl rfl rfl ?_
      refine s_iloadN (pc' := 45) dsV_44 rfl rfl ?_
      refine s_callS2 (rmcF C.l G n0 d kd _ _ _ h36 D36) (by simp) (hw _ (List.mem_of_getElem? (i := 128) rfl)) (hw _ (List.mem_of_getElem? (i := 129) rfl)) (hw _ (List.mem_of_getElem? (i := 123) rfl)) (hw _ (List.mem_of_getElem? (i := 130) rfl)) (by decide) (o_len pdcF rfl) rfl (pc' := 48) dsV_45 rfl (Nat.le_of_ble_eq_true rfl) (Nat.le_of_ble_eq_true rfl) (Nat.le_of_ble_eq_true rfl) (Nat.le_of_ble_eq_true rfl) (fun v45 h45 hQ45 => ?_)
      obtain ⟨rfl, rfl⟩ := hQ45
      dsimp only [oPush]
      refine s_putF (F2.ext E36) (E.ext E36) ga (by simp) (host := "") (Or.inl (hw _ (List.mem_of_getElem? (i := 30) rfl))) Via.refl (Or.inr ⟨(hw _ (List.mem_of_getElem? (i := 26) rfl)), rfl, rfl⟩) (hw _ (List.mem_of_getElem? (i := 10) rfl)) (ty := .byte) (by decide) rfl rfl (pc' := 51) dsV_48 rfl (fun h48 W48 => ?_)
      refine s_aloadN (pc' := 52) dsV_51 rfl rfl rfl ?_
      refine s_aload (pc' := 54) dsV_52 rfl rfl rfl ?_
      refine s_putF ((F1.ext E36).other W48 (Or.inr (slot_ne (Or.inr (hw _ (List.mem_of_getElem? (i := 25) rfl))) (Or.inr (hw _ (List.mem_of_getElem? (i := 26) rfl))) (by decide) (t := .array .byte) (t' := .byte) (by decide) (by decide)))) ((E.ext E36).wr W48) ga (by simp) (host := "") (Or.inl (hw _ (List.mem_of_getElem? (i := 29) rfl))) Via.refl (Or.inr ⟨(hw _ (List.mem_of_getElem? (i := 25) rfl)), rfl, rfl⟩) (hw _ (List.mem_of_getElem? (i := 10) rfl)) (ty := (.array .byte)) (by decide) rfl rfl (pc' := 57) dsV_54 rfl (fun h54 W54 => ?_)
      refine s_ret rfl dsV_57 (by decide) (by decide) ⟨rfl, ?_, d, kd, ?_, ?_, ?_, ?_, ?_, ?_⟩
      · exact o_kext E36 ((Keep.of_wr W48).wr W54 (Or.inl (List.mem_cons_self ..)))
      · exact (((E.ext E36).wr W48).wr W54).lt
      · exact ((D36.other W48 had.symm).other W54 had.symm).lt
      · exact ((E.ext E36).wr W48).wr W54
      · exact ((F2.ext E36).same W48).other W54 (Or.inr (slot_ne (Or.inr (hw _ (List.mem_of_getElem? (i := 26) rfl))) (Or.inr (hw _ (List.mem_of_getElem? (i := 25) rfl))) (by decide) (t := .byte) (t' := .array .byte) (by decide) (by decide)))
      · exact ((F1.ext E36).other W48 (Or.inr (slot_ne (Or.inr (hw _ (List.mem_of_getElem? (i := 25) rfl))) (Or.inr (hw _ (List.mem_of_getElem? (i := 26) rfl))) (by decide) (t := .array .byte) (t' := .byte) (by decide) (by decide)))).same W54
      · exact (D36.other W48 had.symm).other W54 had.symm
  · replace hc5 := b_neF hc5
    obtain rfl : cs = [] := List.eq_nil_of_length_eq_zero (n_inj (by omega) (by omega) hc5)
    refine s_aloadN (pc' := 9) dsV_8 rfl rfl rfl ?_
    refine s_ldcS 0 (text := "") (vs := []) (z := 0) (hw _ (List.mem_of_getElem? (i := 23) rfl)) (o_wS hw) hEL (by decide) ⟨by simp, by simp⟩ (by decide) rfl (pc' := 11) dsV_9 rfl (by decide) (by decide) (Nat.le_of_ble_eq_true rfl) (Nat.le_of_ble_eq_true rfl) (fun h9 a9 b9 k9 E9 X9 C9 V9 A9 N9 => ?_)
    have n9 := N9 a ha
    refine s_getF V9 (host := "") (Or.inl (hw _ (List.mem_of_getElem? (i := 29) rfl))) Via.refl (pc' := 14) dsV_11 rfl ?_
    refine s_putF (F1.ext E9) (E.ext E9) ga (by simp) (host := "") (Or.inl (hw _ (List.mem_of_getElem? (i := 29) rfl))) Via.refl (Or.inr ⟨(hw _ (List.mem_of_getElem? (i := 25) rfl)), rfl, rfl⟩) (hw _ (List.mem_of_getElem? (i := 10) rfl)) (ty := (.array .byte)) (by decide) rfl rfl (pc' := 17) dsV_14 rfl (fun h14 W14 => ?_)
    refine s_aloadN (pc' := 18) dsV_17 rfl rfl rfl ?_
    refine s_ldcS 0 (text := "") (vs := []) (z := 0) (hw _ (List.mem_of_getElem? (i := 23) rfl)) (o_wS hw) hEL (by decide) ⟨by simp, by simp⟩ (by decide) rfl (pc' := 20) dsV_18 rfl (by decide) (by decide) (Nat.le_of_ble_eq_true rfl) (Nat.le_of_ble_eq_true rfl) (fun h18 a18 b18 k18 E18 X18 C18 V18 A18 N18 => ?_)
    have n18 := N18 a ha
    refine s_getF C18 (host := "") (Or.inl (hw _ (List.mem_of_getElem? (i := 30) rfl))) Via.refl (pc' := 23) dsV_20 rfl ?_
    refine s_putF (((F2.ext E9).other W14 (Or.inr (slot_ne (Or.inr (hw _ (List.mem_of_getElem? (i := 26) rfl))) (Or.inr (hw _ (List.mem_of_getElem? (i := 25) rfl))) (by decide) (t := .byte) (t' := .array .byte) (by decide) (by decide)))).ext E18) (((E.ext E9).wr W14).ext E18) ga (by simp) (host := "") (Or.inl (hw _ (List.mem_of_getElem? (i := 30) rfl))) Via.refl (Or.inr ⟨(hw _ (List.mem_of_getElem? (i := 26) rfl)), rfl, rfl⟩) (hw _ (List.mem_of_getElem? (i := 10) rfl)) (ty := .byte) (by decide) rfl rfl (pc' := 26) dsV_23 rfl (fun h23 W23 => ?_)
    refine s_ret rfl dsV_26 (by decide) (by decide) ⟨rfl, ?_, b9, k9, ?_, ?_, ?_, ?_, ?_, ?_⟩
    · exact (o_kext E9 (((Keep.of_wr W14).ext E18).wr W23 (Or.inl (List.mem_cons_self ..))))
    · exact (((((E.ext E9).wr W14).ext E18).wr W23)).lt
    · exact (((A9.other W14 n9.2.symm).ext E18).other W23 n9.2.symm).lt
    · exact ((((E.ext E9).wr W14).ext E18).wr W23)
    · exact (((F2.ext E9).other W14 (Or.inr (slot_ne (Or.inr (hw _ (List.mem_of_getElem? (i := 26) rfl))) (Or.inr (hw _ (List.mem_of_getElem? (i := 25) rfl))) (by decide) (t := .byte) (t' := .array .byte) (by decide) (by decide)))).ext E18).same W23
    · exact ((((F1.ext E9).same W14).ext E18).other W23 (Or.inr (slot_ne (Or.inr (hw _ (List.mem_of_getElem? (i := 25) rfl))) (Or.inr (hw _ (List.mem_of_getElem? (i := 26) rfl))) (by decide) (t := .array .byte) (t' := .byte) (by decide) (by decide))))
    · exact (((A9.other W14 n9.2.symm).ext E18).other W23 n9.2.symm)
def isC : OInfo := ("java/lang/String", jdk_42_method_3_code, 2, none, "<init>", ({ frames := 3, cells := 4, slots := 8, locals := 64 } : Room))
theorem efsC (x0 : Addr) (x1 : Addr) (m : MethodId) : entryFrame m #[(.ref x0), (.ref x1)] 2 = mkF m 0 #[.val (.ref x0), .val (.ref x1)] [] := by first | (simp [entryFrame, mkF, argsToLocals, Value.category]; done) | rfl
theorem pdsC : parseMethodDescriptor "([C)V" = some ⟨[(.array .char)], none⟩ := by decide +kernel
theorem pnsC : plainFor (⟨"java/lang/String", "<init>", "([C)V"⟩ : MethodName) = true := by decide +kernel
theorem dsC_0 : decode jdk_42_method_3_code 0 = .ok (.aload_n 0, 1) := by decide +kernel
theorem dsC_1 : decode jdk_42_method_3_code 1 = .ok (.aload_n 1, 1) := by decide +kernel
theorem dsC_2 : decode jdk_42_method_3_code 2 = .ok (.iconst 0, 1) := by decide +kernel
theorem dsC_3 : decode jdk_42_method_3_code 3 = .ok (.aload_n 1, 1) := by decide +kernel
theorem dsC_4 : decode jdk_42_method_3_code 4 = .ok (.arraylength, 1) := by decide +kernel
theorem dsC_5 : decode jdk_42_method_3_code 5 = .ok (.aconst_null, 1) := by decide +kernel
theorem dsC_6 : decode jdk_42_method_3_code 6 = .ok (.invokespecial 27, 3) := by decide +kernel
theorem dsC_9 : decode jdk_42_method_3_code 9 = .ok (.return_, 1) := by decide +kernel
set_option maxRecDepth 65536 in
set_option maxHeartbeats 4000000 in
theorem rmsC (l : Launch) {Z : State} {a0 : Array Value} (G : OG Z a0) (n0 : Nat) (a c : Addr) (kc : ClassId) (cs : List Int32) (dv : Value) (h0 : Heap) (hcap : cs.length ≤ 4) (hch : Ch cs) (A : Arv Z h0 c kc .char (Int32.ofNat cs.length) (cs.map .int) dv) (E : Exa Z h0 a "java/lang/String") (F1 : Fld Z h0 a "java/lang/String" "value" "[B" .null) (F2 : Fld Z h0 a "java/lang/String" "coder" "B" (.int 0)) (ga : n0 ≤ a) : oCon l Z n0 EL1 [a] (⟨"java/lang/String", "<init>", "([C)V"⟩ : MethodName) isC #[.ref a, .ref c] h0 (fun v h => v = none ∧ Keep h0 h [a] ∧ SV Z h h.size a cs) := by
  obtain ⟨hw, hEL, ⟨cmp, hC, hc0⟩, ⟨fm, hfm, hF⟩⟩ := id G
  refine oCon.mk hEL pnsC rfl rfl (efsC a c) fun C hCl => ?_
  refine s_aloadN (pc' := 1) dsC_0 rfl rfl rfl ?_
  refine s_aloadN (pc' := 2) dsC_1 rfl rfl rfl ?_
  refine s_iconst (x := (0 : Int32)) (pc' := 3) dsC_2 rfl rfl ?_
  refine s_aloadN (pc' := 4) dsC_3 rfl rfl rfl ?_
  refine s_alen A (pc' := 5) dsC_4 rfl ?_
  refine s_null (pc' := 6) dsC_5 rfl ?_
  refine s_callI4 (rmsV C.l G n0 a c kc cs dv h0 hcap hch A E F1 F2 ga) (by simp) rfl rfl (hw _ (List.mem_of_getElem? (i := 16) rfl)) (hw _ (List.mem_of_getElem? (i := 17) rfl)) (hw _ (List.mem_of_getElem? (i := 11) rfl)) (hw _ (List.mem_of_getElem? (i := 19) rfl)) (by decide) (o_len pdsV rfl) rfl (pc' := 9) dsC_6 rfl (Nat.le_of_ble_eq_true rfl) (Nat.le_of_ble_eq_true rfl) (Nat.le_of_ble_eq_true rfl) (Nat.le_of_ble_eq_true rfl) (fun v6 h6 hQ6 => ?_)
  obtain ⟨rfl, q1, q2⟩ := hQ6
  dsimp only [oPush]
  exact s_ret rfl dsC_9 (by decide) (by decide) ⟨rfl, q1, q2⟩
def isK : OInfo := ("java/lang/String", jdk_42_method_152_code, 1, (some .byte), "coder", ({ frames := 0, cells := 0, slots := 0, locals := 0 } : Room))
theorem efsK (x0 : Addr) (m : MethodId) : entryFrame m #[(.ref x0)] 1 = mkF m 0 #[.val (.ref x0)] [] := by first | (simp [entryFrame, mkF, argsToLocals, Value.category]; done) | rfl
theorem pdsK : parseMethodDescriptor "()B" = some ⟨[], some .byte⟩ := by decide +kernel
theorem pnsK : plainFor (⟨"java/lang/String", "coder", "()B"⟩ : MethodName) = true := by decide +kernel
theorem dsK_0 : decode jdk_42_method_152_code 0 = .ok (.getstatic 38, 3) := by decide +kernel
theorem dsK_3 : decode jdk_42_method_152_code 3 = .ok (.ifCond .eq 10, 3) := by decide +kernel
theorem dsK_6 : decode jdk_42_method_152_code 6 = .ok (.aload_n 0, 1) := by decide +kernel
theorem dsK_7 : decode jdk_42_method_152_code 7 = .ok (.getfield 15, 3) := by decide +kernel
theorem dsK_10 : decode jdk_42_method_152_code 10 = .ok (.goto 4, 3) := by decide +kernel
theorem dsK_14 : decode jdk_42_method_152_code 14 = .ok (.ireturn, 1) := by decide +kernel
set_option maxRecDepth 65536 in
set_option maxHeartbeats 4000000 in
theorem rmsK (l : Launch) {Z : State} {a0 : Array Value} (G : OG Z a0) (n0 : Nat) (a : Addr) (h0 : Heap) (C1 : Fld Z h0 a "java/lang/String" "coder" "B" (.int 0)) : oCon l Z n0 EL1 [] (⟨"java/lang/String", "coder", "()B"⟩ : MethodName) isK #[.ref a] h0 (fun v h => v = some (.int 0) ∧ h = h0) := by
  obtain ⟨hw, hEL, ⟨cmp, hC, hc0⟩, ⟨fm, hfm, hF⟩⟩ := id G
  refine oCon.mk hEL pnsK rfl rfl (efsK a) fun C hCl => ?_
  refine s_getS hC (hw _ (List.mem_of_getElem? (i := 52) rfl)) Via.refl (pc' := 3) dsK_0 rfl ?_
  refine s_if (pc' := 6) (pc'' := 13) dsK_3 rfl (by decide) rfl (fun hc3 => ?_) (fun hc3 => ?_)
  · replace hc3 := b_eq hc3
    exact absurd hc3 hc0
  · replace hc3 := b_eqF hc3
    refine s_aloadN (pc' := 7) dsK_6 rfl rfl rfl ?_
    refine s_getF C1 (host := "") (Or.inl (hw _ (List.mem_of_getElem? (i := 30) rfl))) Via.refl (pc' := 10) dsK_7 rfl ?_
    refine s_goto (pc' := 14) dsK_10 (by decide) rfl ?_
    exact s_nret (t := .byte) rfl (by simp) dsK_14 (by decide) (by decide) ⟨rfl, rfl⟩
def isL : OInfo := ("java/lang/String", jdk_42_method_54_code, 1, (some .int), "length", ({ frames := 1, cells := 0, slots := 0, locals := 13 } : Room))
theorem efsL (x0 : Addr) (m : MethodId) : entryFrame m #[(.ref x0)] 1 = mkF m 0 #[.val (.ref x0)] [] := by first | (simp [entryFrame, mkF, argsToLocals, Value.category]; done) | rfl
theorem pdsL : parseMethodDescriptor "()I" = some ⟨[], some .int⟩ := by decide +kernel
theorem pnsL : plainFor (⟨"java/lang/String", "length", "()I"⟩ : MethodName) = true := by decide +kernel
theorem shr_zero (x : Int32) : x >>> ((0 : Int32) &&& 31) = x := by
  rw [o_eq]; have q := c_ishr x 0 0 (by decide); rw [q]; simp
theorem dsL_0 : decode jdk_42_method_54_code 0 = .ok (.aload_n 0, 1) := by decide +kernel
theorem dsL_1 : decode jdk_42_method_54_code 1 = .ok (.getfield 9, 3) := by decide +kernel
theorem dsL_4 : decode jdk_42_method_54_code 4 = .ok (.arraylength, 1) := by decide +kernel
theorem dsL_5 : decode jdk_42_method_54_code 5 = .ok (.aload_n 0, 1) := by decide +kernel
theorem dsL_6 : decode jdk_42_method_54_code 6 = .ok (.invokevirtual 335, 3) := by decide +kernel
theorem dsL_9 : decode jdk_42_method_54_code 9 = .ok (.ishr, 1) := by decide +kernel
theorem dsL_10 : decode jdk_42_method_54_code 10 = .ok (.ireturn, 1) := by decide +kernel
set_option maxRecDepth 65536 in
set_option maxHeartbeats 4000000 in
theorem rmsL (l : Launch) {Z : State} {a0 : Array Value} (G : OG Z a0) (n0 : Nat) (a : Addr) (N : Nat) (cs : List Int32) (h0 : Heap) (H : SV Z h0 N a cs) : oCon l Z n0 EL1 [] (⟨"java/lang/String", "length", "()I"⟩ : MethodName) isL #[.ref a] h0 (fun v h => v = some (.int (Int32.ofNat cs.length)) ∧ h = h0) := by
  obtain ⟨hw, hEL, ⟨cmp, hC, hc0⟩, ⟨fm, hfm, hF⟩⟩ := id G
  obtain ⟨d1, k1, -, -, E1, C1, V1, A1⟩ := H
  refine oCon.mk hEL pnsL rfl rfl (efsL a) fun C hCl => ?_
  refine s_aloadN (pc' := 1) dsL_0 rfl rfl rfl ?_
  refine s_getF V1 (host := "") (Or.inl (hw _ (List.mem_of_getElem? (i := 29) rfl))) Via.refl (pc' := 4) dsL_1 rfl ?_
  refine s_alen A1 (pc' := 5) dsL_4 rfl ?_
  refine s_aloadN (pc' := 6) dsL_5 rfl rfl rfl ?_
  refine s_callV0 (rmsK C.l G n0 a h0 C1) (by simp) E1 (hw _ (List.mem_of_getElem? (i := 47) rfl)) (hw _ (List.mem_of_getElem? (i := 48) rfl)) (hw _ (List.mem_of_getElem? (i := 50) rfl)) (hw _ (List.mem_of_getElem? (i := 49) rfl)) (o_nf (hw _ (List.mem_of_getElem? (i := 50) rfl)) rfl) (hw _ (List.mem_of_getElem? (i := 11) rfl)) (hw _ (List.mem_of_getElem? (i := 51) rfl)) (by decide) (o_len pdsK rfl) rfl (pc' := 9) dsL_6 rfl (Nat.le_of_ble_eq_true rfl) (Nat.le_of_ble_eq_true rfl) (Nat.le_of_ble_eq_true rfl) (Nat.le_of_ble_eq_true rfl) (fun v6 h6 hQ6 => ?_)
  obtain ⟨rfl, rfl⟩ := hQ6
  dsimp only [oPush]
  refine s_ishr (pc' := 10) dsL_9 rfl ?_
  exact s_iret rfl dsL_10 (by decide) (by decide) ⟨by rw [shr_zero], rfl⟩
def isI : OInfo := ("java/lang/String", jdk_42_method_154_code, 1, (some .boolean), "isLatin1", ({ frames := 0, cells := 0, slots := 0, locals := 0 } : Room))
theorem efsI (x0 : Addr) (m : MethodId) : entryFrame m #[(.ref x0)] 1 = mkF m 0 #[.val (.ref x0)] [] := by first | (simp [entryFrame, mkF, argsToLocals, Value.category]; done) | rfl
theorem pdsI : parseMethodDescriptor "()Z" = some ⟨[], some .boolean⟩ := by decide +kernel
theorem pnsI : plainFor (⟨"java/lang/String", "isLatin1", "()Z"⟩ : MethodName) = true := by decide +kernel
theorem dsI_0 : decode jdk_42_method_154_code 0 = .ok (.getstatic 38, 3) := by decide +kernel
theorem dsI_3 : decode jdk_42_method_154_code 3 = .ok (.ifCond .eq 14, 3) := by decide +kernel
theorem dsI_6 : decode jdk_42_method_154_code 6 = .ok (.aload_n 0, 1) := by decide +kernel
theorem dsI_7 : decode jdk_42_method_154_code 7 = .ok (.getfield 15, 3) := by decide +kernel
theorem dsI_10 : decode jdk_42_method_154_code 10 = .ok (.ifCond .ne 7, 3) := by decide +kernel
theorem dsI_13 : decode jdk_42_method_154_code 13 = .ok (.iconst 1, 1) := by decide +kernel
theorem dsI_14 : decode jdk_42_method_154_code 14 = .ok (.goto 4, 3) := by decide +kernel
theorem dsI_18 : decode jdk_42_method_154_code 18 = .ok (.ireturn, 1) := by decide +kernel
set_option maxRecDepth 65536 in
set_option maxHeartbeats 4000000 in
theorem rmsI (l : Launch) {Z : State} {a0 : Array Value} (G : OG Z a0) (n0 : Nat) (a : Addr) (h0 : Heap) (C1 : Fld Z h0 a "java/lang/String" "coder" "B" (.int 0)) : oCon l Z n0 EL1 [] (⟨"java/lang/String", "isLatin1", "()Z"⟩ : MethodName) isI #[.ref a] h0 (fun v h => v = some (.int 1) ∧ h = h0) := by
  obtain ⟨hw, hEL, ⟨cmp, hC, hc0⟩, ⟨fm, hfm, hF⟩⟩ := id G
  refine oCon.mk hEL pnsI rfl rfl (efsI a) fun C hCl => ?_
  refine s_getS hC (hw _ (List.mem_of_getElem? (i := 52) rfl)) Via.refl (pc' := 3) dsI_0 rfl ?_
  refine s_if (pc' := 6) (pc'' := 17) dsI_3 rfl (by decide) rfl (fun hc3 => ?_) (fun hc3 => ?_)
  · replace hc3 := b_eq hc3
    exact absurd hc3 hc0
  · replace hc3 := b_eqF hc3
    refine s_aloadN (pc' := 7) dsI_6 rfl rfl rfl ?_
    refine s_getF C1 (host := "") (Or.inl (hw _ (List.mem_of_getElem? (i := 30) rfl))) Via.refl (pc' := 10) dsI_7 rfl ?_
    refine s_if (pc' := 13) (pc'' := 17) dsI_10 rfl (by decide) rfl (fun hc10 => ?_) (fun hc10 => ?_)
    · replace hc10 := b_ne hc10
      exact absurd rfl hc10
    · replace hc10 := b_neF hc10
      refine s_iconst (x := (1 : Int32)) (pc' := 14) dsI_13 rfl rfl ?_
      refine s_goto (pc' := 18) dsI_14 (by decide) rfl ?_
      exact s_nret (t := .boolean) rfl (by simp) dsI_18 (by decide) (by decide) ⟨rfl, rfl⟩
def ipc : OInfo := ("jdk/internal/util/Preconditions", jdk_41_method_11_code, 3, (some .int), "checkIndex", ({ frames := 0, cells := 0, slots := 0, locals := 0 } : Room))
theorem pdpc : parseMethodDescriptor "(IILjava/util/function/BiFunction;)I" = some ⟨[.int, .int, (.object "java/util/function/BiFunction")], some .int⟩ := by decide +kernel
theorem pnpc : plainName "jdk/internal/util/Preconditions" = true := by first | (simp [plainName, overriddenIn]; done) | decide +kernel
theorem efpc (x0 x1 : Int32) (x2 : Value) (h : x2.isRef = true) (m : MethodId) : entryFrame m #[(.int x0), (.int x1), x2] 3 = mkF m 0 #[.val (.int x0), .val (.int x1), .val x2] [] := by
  rcases ref_cases h with rfl | ⟨a, rfl⟩ <;> first | (simp [entryFrame, mkF, argsToLocals, Value.category]; done) | rfl
theorem dpc_0 : decode jdk_41_method_11_code 0 = .ok (.iload_n 0, 1) := by decide +kernel
theorem dpc_1 : decode jdk_41_method_11_code 1 = .ok (.ifCond .lt 8, 3) := by decide +kernel
theorem dpc_4 : decode jdk_41_method_11_code 4 = .ok (.iload_n 0, 1) := by decide +kernel
theorem dpc_5 : decode jdk_41_method_11_code 5 = .ok (.iload_n 1, 1) := by decide +kernel
theorem dpc_6 : decode jdk_41_method_11_code 6 = .ok (.if_icmp .lt 10, 3) := by decide +kernel
theorem dpc_16 : decode jdk_41_method_11_code 16 = .ok (.iload_n 0, 1) := by decide +kernel
theorem dpc_17 : decode jdk_41_method_11_code 17 = .ok (.ireturn, 1) := by decide +kernel
set_option maxRecDepth 65536 in
set_option maxHeartbeats 4000000 in
theorem rmpc (l : Launch) {Z : State} {a0 : Array Value} (G : OG Z a0) (n0 : Nat) (i n : Int32) (w : Value) (hw2 : w.isRef = true) (h0 : Heap) (h1 : ¬ i < 0) (h2 : i < n) : oCon l Z n0 EL1 [] (⟨"jdk/internal/util/Preconditions", "checkIndex", "(IILjava/util/function/BiFunction;)I"⟩ : MethodName) ipc #[.int i, .int n, w] h0 (fun v h => ∃ r : Int32, v = some (.int r) ∧ h = h0) := by
  obtain ⟨hw, hEL, ⟨cmp, hC, hc0⟩, ⟨fm, hfm, hF⟩⟩ := id G
  refine oCon.mk hEL (plainFor_of_name pnpc) rfl rfl (efpc i n w hw2) fun C hCl => ?_
  refine s_iloadN (pc' := 1) dpc_0 rfl rfl ?_
  refine s_if (pc' := 4) (pc'' := 9) dpc_1 rfl (by decide) rfl (fun hc1 => ?_) (fun hc1 => ?_)
  · replace hc1 := b_lt hc1
    exact absurd hc1 h1
  · replace hc1 := b_ltF hc1
    refine s_iloadN (pc' := 5) dpc_4 rfl rfl ?_
    refine s_iloadN (pc' := 6) dpc_5 rfl rfl ?_
    refine s_icmp (pc' := 9) (pc'' := 16) dpc_6 rfl (by decide) rfl (fun hc6 => ?_) (fun hc6 => ?_)
    · replace hc6 := b_lt hc6
      refine s_iloadN (pc' := 17) dpc_16 rfl rfl ?_
      exact s_iret rfl dpc_17 (by decide) (by decide) ⟨_, rfl, rfl⟩
    · replace hc6 := b_ltF hc6
      exact absurd h2 hc6
def isX : OInfo := ("java/lang/String", jdk_42_method_155_code, 2, none, "checkIndex", ({ frames := 1, cells := 0, slots := 0, locals := 14 } : Room))
theorem efsX (x0 : Int32) (x1 : Int32) (m : MethodId) : entryFrame m #[(.int x0), (.int x1)] 2 = mkF m 0 #[.val (.int x0), .val (.int x1)] [] := by first | (simp [entryFrame, mkF, argsToLocals, Value.category]; done) | rfl
theorem pdsX : parseMethodDescriptor "(II)V" = some ⟨[.int, .int], none⟩ := by decide +kernel
theorem pnsX : plainFor (⟨"java/lang/String", "checkIndex", "(II)V"⟩ : MethodName) = true := by decide +kernel
theorem dsX_0 : decode jdk_42_method_155_code 0 = .ok (.iload_n 0, 1) := by decide +kernel
theorem dsX_1 : decode jdk_42_method_155_code 1 = .ok (.iload_n 1, 1) := by decide +kernel
theorem dsX_2 : decode jdk_42_method_155_code 2 = .ok (.getstatic 1053, 3) := by decide +kernel
theorem dsX_5 : decode jdk_42_method_155_code 5 = .ok (.invokestatic 1059, 3) := by decide +kernel
theorem dsX_8 : decode jdk_42_method_155_code 8 = .ok (.pop, 1) := by decide +kernel
theorem dsX_9 : decode jdk_42_method_155_code 9 = .ok (.return_, 1) := by decide +kernel
set_option maxRecDepth 65536 in
set_option maxHeartbeats 4000000 in
theorem rmsX (l : Launch) {Z : State} {a0 : Array Value} (G : OG Z a0) (n0 : Nat) (i n : Int32) (h0 : Heap) (h1 : ¬ i < 0) (h2 : i < n) : oCon l Z n0 EL1 [] (⟨"java/lang/String", "checkIndex", "(II)V"⟩ : MethodName) isX #[.int i, .int n] h0 (fun v h => v = none ∧ h = h0) := by
  obtain ⟨hw, hEL, ⟨cmp, hC, hc0⟩, ⟨fm, hfm, hF⟩⟩ := id G
  refine oCon.mk hEL pnsX rfl rfl (efsX i n) fun C hCl => ?_
  refine s_iloadN (pc' := 1) dsX_0 rfl rfl ?_
  refine s_iloadN (pc' := 2) dsX_1 rfl rfl ?_
  refine s_getS hF (hw _ (List.mem_of_getElem? (i := 151) rfl)) Via.refl (pc' := 5) dsX_2 rfl ?_
  refine s_callS3 (rmpc C.l G n0 i n fm hfm h0 h1 h2) (by simp) (hw _ (List.mem_of_getElem? (i := 153) rfl)) (hw _ (List.mem_of_getElem? (i := 154) rfl)) (hw _ (List.mem_of_getElem? (i := 152) rfl)) (hw _ (List.mem_of_getElem? (i := 155) rfl)) (by decide) (o_len pdpc rfl) rfl (pc' := 8) dsX_5 rfl (Nat.le_of_ble_eq_true rfl) (Nat.le_of_ble_eq_true rfl) (Nat.le_of_ble_eq_true rfl) (Nat.le_of_ble_eq_true rfl) (fun v5 h5 hQ5 => ?_)
  obtain ⟨r, rfl, rfl⟩ := hQ5
  dsimp only [oPush]
  refine s_pop (pc' := 9) dsX_8 rfl rfl ?_
  exact s_ret rfl dsX_9 (by decide) (by decide) ⟨rfl, rfl⟩
def ilC : OInfo := ("java/lang/StringLatin1", jdk_43_method_2_code, 2, (some .char), "charAt", ({ frames := 2, cells := 0, slots := 0, locals := 27 } : Room))
theorem eflC (x0 : Addr) (x1 : Int32) (m : MethodId) : entryFrame m #[(.ref x0), (.int x1)] 2 = mkF m 0 #[.val (.ref x0), .val (.int x1)] [] := by first | (simp [entryFrame, mkF, argsToLocals, Value.category]; done) | rfl
theorem pdlC : parseMethodDescriptor "([BI)C" = some ⟨[(.array .byte), .int], some .char⟩ := by decide +kernel
theorem pnlC : plainFor (⟨"java/lang/StringLatin1", "charAt", "([BI)C"⟩ : MethodName) = true := by decide +kernel
theorem dlC_0 : decode jdk_43_method_2_code 0 = .ok (.iload_n 1, 1) := by decide +kernel
theorem dlC_1 : decode jdk_43_method_2_code 1 = .ok (.aload_n 0, 1) := by decide +kernel
theorem dlC_2 : decode jdk_43_method_2_code 2 = .ok (.arraylength, 1) := by decide +kernel
theorem dlC_3 : decode jdk_43_method_2_code 3 = .ok (.invokestatic 9, 3) := by decide +kernel
theorem dlC_6 : decode jdk_43_method_2_code 6 = .ok (.aload_n 0, 1) := by decide +kernel
theorem dlC_7 : decode jdk_43_method_2_code 7 = .ok (.iload_n 1, 1) := by decide +kernel
theorem dlC_8 : decode jdk_43_method_2_code 8 = .ok (.baload, 1) := by decide +kernel
theorem dlC_9 : decode jdk_43_method_2_code 9 = .ok (.sipush 255, 3) := by decide +kernel
theorem dlC_12 : decode jdk_43_method_2_code 12 = .ok (.iand, 1) := by decide +kernel
theorem dlC_13 : decode jdk_43_method_2_code 13 = .ok (.i2c, 1) := by decide +kernel
theorem dlC_14 : decode jdk_43_method_2_code 14 = .ok (.ireturn, 1) := by decide +kernel
set_option maxRecDepth 65536 in
set_option maxHeartbeats 4000000 in
theorem rmlC (l : Launch) {Z : State} {a0 : Array Value} (G : OG Z a0) (n0 : Nat) (d : Addr) (k : ClassId) (cs : List Int32) (j : Nat) (z : Int32) (h0 : Heap) (hb : cs.length < 2147483648) (hch : Ch cs) (hz : cs[j]? = some z) (A : Arv Z h0 d k .byte (Int32.ofNat cs.length) (cs.map fun c => Value.int (byt c)) (.int 0)) : oCon l Z n0 EL1 [] (⟨"java/lang/StringLatin1", "charAt", "([BI)C"⟩ : MethodName) ilC #[.ref d, .int (Int32.ofNat j)] h0 (fun v h => v = some (.int z) ∧ h = h0) := by
  obtain ⟨hw, hEL, ⟨cmp, hC, hc0⟩, ⟨fm, hfm, hF⟩⟩ := id G
  have hj := (List.getElem?_eq_some_iff.mp hz).1
  refine oCon.mk hEL pnlC rfl rfl (eflC d _) fun C hCl => ?_
  refine s_iloadN (pc' := 1) dlC_0 rfl rfl ?_
  refine s_aloadN (pc' := 2) dlC_1 rfl rfl rfl ?_
  refine s_alen A (pc' := 3) dlC_2 rfl ?_
  refine s_callS2 (rmsX C.l G n0 (Int32.ofNat j) _ h0 (nn (by omega)) (lt' hb hj)) (by simp) (hw _ (List.mem_of_getElem? (i := 148) rfl)) (hw _ (List.mem_of_getElem? (i := 149) rfl)) (hw _ (List.mem_of_getElem? (i := 11) rfl)) (hw _ (List.mem_of_getElem? (i := 150) rfl)) (by decide) (o_len pdsX rfl) rfl (pc' := 6) dlC_3 rfl (Nat.le_of_ble_eq_true rfl) (Nat.le_of_ble_eq_true rfl) (Nat.le_of_ble_eq_true rfl) (Nat.le_of_ble_eq_true rfl) (fun v3 h3 hQ3 => ?_)
  obtain ⟨rfl, rfl⟩ := hQ3
  dsimp only [oPush]
  refine s_aloadN (pc' := 7) dlC_6 rfl rfl rfl ?_
  refine s_iloadN (pc' := 8) dlC_7 rfl rfl ?_
  refine s_baload A (nn (by omega)) (lt' hb hj) (v := .int (byt z)) (by rw [cl (by omega)]; exact bs_get hz _) (pc' := 9) dlC_8 rfl ?_
  refine s_sipush (x := (255 : Int32)) (pc' := 12) dlC_9 rfl rfl ?_
  refine s_iand (pc' := 13) dlC_12 rfl ?_
  refine s_i2c (pc' := 14) dlC_13 rfl ?_
  exact s_nret (t := .char) rfl (by simp) dlC_14 (by decide) (by decide) ⟨by rw [byt_and (hch z (List.mem_of_getElem? hz)), i2c_ch (hch z (List.mem_of_getElem? hz)), nar_ch (hch z (List.mem_of_getElem? hz))], rfl⟩
def isH : OInfo := ("java/lang/String", jdk_42_method_56_code, 2, (some .char), "charAt", ({ frames := 3, cells := 0, slots := 0, locals := 40 } : Room))
theorem efsH (x0 : Addr) (x1 : Int32) (m : MethodId) : entryFrame m #[(.ref x0), (.int x1)] 2 = mkF m 0 #[.val (.ref x0), .val (.int x1)] [] := by first | (simp [entryFrame, mkF, argsToLocals, Value.category]; done) | rfl
theorem pdsH : parseMethodDescriptor "(I)C" = some ⟨[.int], some .char⟩ := by decide +kernel
theorem pnsH : plainFor (⟨"java/lang/String", "charAt", "(I)C"⟩ : MethodName) = true := by decide +kernel
theorem dsH_0 : decode jdk_42_method_56_code 0 = .ok (.aload_n 0, 1) := by decide +kernel
theorem dsH_1 : decode jdk_42_method_56_code 1 = .ok (.invokevirtual 492, 3) := by decide +kernel
theorem dsH_4 : decode jdk_42_method_56_code 4 = .ok (.ifCond .eq 12, 3) := by decide +kernel
theorem dsH_7 : decode jdk_42_method_56_code 7 = .ok (.aload_n 0, 1) := by decide +kernel
theorem dsH_8 : decode jdk_42_method_56_code 8 = .ok (.getfield 9, 3) := by decide +kernel
theorem dsH_11 : decode jdk_42_method_56_code 11 = .ok (.iload_n 1, 1) := by decide +kernel
theorem dsH_12 : decode jdk_42_method_56_code 12 = .ok (.invokestatic 495, 3) := by decide +kernel
theorem dsH_15 : decode jdk_42_method_56_code 15 = .ok (.ireturn, 1) := by decide +kernel
set_option maxRecDepth 65536 in
set_option maxHeartbeats 4000000 in
theorem rmsH (l : Launch) {Z : State} {a0 : Array Value} (G : OG Z a0) (n0 : Nat) (a : Addr) (N : Nat) (cs : List Int32) (j : Nat) (z : Int32) (h0 : Heap) (hb : cs.length < 2147483648) (hch : Ch cs) (hz : cs[j]? = some z) (H : SV Z h0 N a cs) : oCon l Z n0 EL1 [] (⟨"java/lang/String", "charAt", "(I)C"⟩ : MethodName) isH #[.ref a, .int (Int32.ofNat j)] h0 (fun v h => v = some (.int z) ∧ h = h0) := by
  obtain ⟨hw, hEL, ⟨cmp, hC, hc0⟩, ⟨fm, hfm, hF⟩⟩ := id G
  obtain ⟨d1, k1, -, -, E1, C1, V1, A1⟩ := H
  refine oCon.mk hEL pnsH rfl rfl (efsH a _) fun C hCl => ?_
  refine s_aloadN (pc' := 1) dsH_0 rfl rfl rfl ?_
  refine s_callV0 (rmsI C.l G n0 a h0 C1) (by simp) E1 (hw _ (List.mem_of_getElem? (i := 139) rfl)) (hw _ (List.mem_of_getElem? (i := 140) rfl)) (hw _ (List.mem_of_getElem? (i := 142) rfl)) (hw _ (List.mem_of_getElem? (i := 141) rfl)) (o_nf (hw _ (List.mem_of_getElem? (i := 142) rfl)) rfl) (hw _ (List.mem_of_getElem? (i := 11) rfl)) (hw _ (List.mem_of_getElem? (i := 143) rfl)) (by decide) (o_len pdsI rfl) rfl (pc' := 4) dsH_1 rfl (Nat.le_of_ble_eq_true rfl) (Nat.le_of_ble_eq_true rfl) (Nat.le_of_ble_eq_true rfl) (Nat.le_of_ble_eq_true rfl) (fun v1 h1 hQ1 => ?_)
  obtain ⟨rfl, rfl⟩ := hQ1
  dsimp only [oPush]
  refine s_if (pc' := 7) (pc'' := 16) dsH_4 rfl (by decide) rfl (fun hc4 => ?_) (fun hc4 => ?_)
  · replace hc4 := b_eq hc4
    exact absurd hc4 (by decide)
  · replace hc4 := b_eqF hc4
    refine s_aloadN (pc' := 8) dsH_7 rfl rfl rfl ?_
    refine s_getF V1 (host := "") (Or.inl (hw _ (List.mem_of_getElem? (i := 29) rfl))) Via.refl (pc' := 11) dsH_8 rfl ?_
    refine s_iloadN (pc' := 12) dsH_11 rfl rfl ?_
    refine s_callS2 (rmlC C.l G n0 d1 k1 cs j z _ hb hch hz A1) (by simp) (hw _ (List.mem_of_getElem? (i := 144) rfl)) (hw _ (List.mem_of_getElem? (i := 145) rfl)) (hw _ (List.mem_of_getElem? (i := 146) rfl)) (hw _ (List.mem_of_getElem? (i := 147) rfl)) (by decide) (o_len pdlC rfl) rfl (pc' := 15) dsH_12 rfl (Nat.le_of_ble_eq_true rfl) (Nat.le_of_ble_eq_true rfl) (Nat.le_of_ble_eq_true rfl) (Nat.le_of_ble_eq_true rfl) (fun v12 h12 hQ12 => ?_)
    obtain ⟨rfl, rfl⟩ := hQ12
    dsimp only [oPush]
    exact s_nret (t := .char) rfl (by simp) dsH_15 (by decide) (by decide) ⟨by rw [nar_ch (hch z (List.mem_of_getElem? hz))], rfl⟩
def icE : OInfo := ("java/lang/StringLatin1", jdk_43_method_3_code, 1, (some .boolean), "canEncode", ({ frames := 0, cells := 0, slots := 0, locals := 0 } : Room))
theorem efcE (x0 : Int32) (m : MethodId) : entryFrame m #[(.int x0)] 1 = mkF m 0 #[.val (.int x0)] [] := by first | (simp [entryFrame, mkF, argsToLocals, Value.category]; done) | rfl
theorem pdcE : parseMethodDescriptor "(C)Z" = some ⟨[.char], some .boolean⟩ := by decide +kernel
theorem pncE : plainFor (⟨"java/lang/StringLatin1", "canEncode", "(C)Z"⟩ : MethodName) = true := by decide +kernel
theorem dcE_0 : decode jdk_43_method_3_code 0 = .ok (.iload_n 0, 1) := by decide +kernel
theorem dcE_1 : decode jdk_43_method_3_code 1 = .ok (.sipush 255, 3) := by decide +kernel
theorem dcE_4 : decode jdk_43_method_3_code 4 = .ok (.if_icmp .gt 7, 3) := by decide +kernel
theorem dcE_7 : decode jdk_43_method_3_code 7 = .ok (.iconst 1, 1) := by decide +kernel
theorem dcE_8 : decode jdk_43_method_3_code 8 = .ok (.goto 4, 3) := by decide +kernel
theorem dcE_12 : decode jdk_43_method_3_code 12 = .ok (.ireturn, 1) := by decide +kernel
set_option maxRecDepth 65536 in
set_option maxHeartbeats 4000000 in
theorem rmcE (l : Launch) {Z : State} {a0 : Array Value} (G : OG Z a0) (n0 : Nat) (z : Int32) (h0 : Heap) (hz : ¬ z < 0 ∧ ¬ (255 : Int32) < z) : oCon l Z n0 EL1 [] (⟨"java/lang/StringLatin1", "canEncode", "(C)Z"⟩ : MethodName) icE #[.int z] h0 (fun v h => v = some (.int 1) ∧ h = h0) := by
  obtain ⟨hw, hEL, ⟨cmp, hC, hc0⟩, ⟨fm, hfm, hF⟩⟩ := id G
  refine oCon.mk hEL pncE rfl rfl (efcE z) fun C hCl => ?_
  refine s_iloadN (pc' := 1) dcE_0 rfl rfl ?_
  refine s_sipush (x := (255 : Int32)) (pc' := 4) dcE_1 rfl rfl ?_
  refine s_icmp (pc' := 7) (pc'' := 11) dcE_4 rfl (by decide) rfl (fun hc4 => ?_) (fun hc4 => ?_)
  · replace hc4 := b_gt hc4
    exact absurd hc4 hz.2
  · replace hc4 := b_gtF hc4
    refine s_iconst (x := (1 : Int32)) (pc' := 8) dcE_7 rfl rfl ?_
    refine s_goto (pc' := 12) dcE_8 (by decide) rfl ?_
    exact s_nret (t := .boolean) rfl (by simp) dcE_12 (by decide) (by decide) ⟨rfl, rfl⟩
def itB : OInfo := ("java/lang/StringLatin1", jdk_43_method_46_code, 1, (some (.array .byte)), "toBytes", ({ frames := 0, cells := 1, slots := 1, locals := 0 } : Room))
theorem eftB (x0 : Int32) (m : MethodId) : entryFrame m #[(.int x0)] 1 = mkF m 0 #[.val (.int x0)] [] := by first | (simp [entryFrame, mkF, argsToLocals, Value.category]; done) | rfl
theorem pdtB : parseMethodDescriptor "(C)[B" = some ⟨[.char], some (.array .byte)⟩ := by decide +kernel
theorem pntB : plainFor (⟨"java/lang/StringLatin1", "toBytes", "(C)[B"⟩ : MethodName) = true := by decide +kernel
theorem dtB_0 : decode jdk_43_method_46_code 0 = .ok (.iconst 1, 1) := by decide +kernel
theorem dtB_1 : decode jdk_43_method_46_code 1 = .ok (.newarray .byte, 2) := by decide +kernel
theorem dtB_3 : decode jdk_43_method_46_code 3 = .ok (.dup, 1) := by decide +kernel
theorem dtB_4 : decode jdk_43_method_46_code 4 = .ok (.iconst 0, 1) := by decide +kernel
theorem dtB_5 : decode jdk_43_method_46_code 5 = .ok (.iload_n 0, 1) := by decide +kernel
theorem dtB_6 : decode jdk_43_method_46_code 6 = .ok (.i2b, 1) := by decide +kernel
theorem dtB_7 : decode jdk_43_method_46_code 7 = .ok (.bastore, 1) := by decide +kernel
theorem dtB_8 : decode jdk_43_method_46_code 8 = .ok (.areturn, 1) := by decide +kernel
set_option maxRecDepth 65536 in
set_option maxHeartbeats 4000000 in
theorem rmtB (l : Launch) {Z : State} {a0 : Array Value} (G : OG Z a0) (n0 : Nat) (z : Int32) (h0 : Heap) : oCon l Z n0 EL1 [] (⟨"java/lang/StringLatin1", "toBytes", "(C)[B"⟩ : MethodName) itB #[.int z] h0 (fun v h => ∃ d k, v = some (.ref d) ∧ h0.size ≤ d ∧ Ext h0 h ∧ Arv Z h d k .byte (Int32.ofNat [z].length) ([z].map fun c => Value.int (byt c)) (.int 0)) := by
  obtain ⟨hw, hEL, ⟨cmp, hC, hc0⟩, ⟨fm, hfm, hF⟩⟩ := id G
  refine oCon.mk hEL pntB rfl rfl (eftB z) fun C hCl => ?_
  refine s_iconst (x := (1 : Int32)) (pc' := 1) dtB_0 rfl rfl ?_
  refine s_newA 1 (hw _ (List.mem_of_getElem? (i := 24) rfl)) (pc' := 3) dtB_1 rfl (by decide) (by decide) (by decide) (Nat.le_of_ble_eq_true rfl) (Nat.le_of_ble_eq_true rfl) (fun h1 b1 k1 g1 nb1 E1 A1 => ?_)
  refine s_dup (pc' := 4) dtB_3 rfl rfl ?_
  refine s_iconst (x := (0 : Int32)) (pc' := 5) dtB_4 rfl rfl ?_
  refine s_iloadN (pc' := 6) dtB_5 rfl rfl ?_
  refine s_i2b (pc' := 7) dtB_6 rfl ?_
  refine s_bastore (o_padTo A1 1) nb1 (by simp) (by decide) (by decide) 0 rfl (by simp) (pc' := 8) dtB_7 rfl (fun h7 W7 A7 => ?_)
  rw [byt_byt] at A7
  exact s_aret rfl rfl rfl dtB_8 (Nat.le_of_ble_eq_true rfl) (Nat.le_of_ble_eq_true rfl) ⟨b1, k1, rfl, Nat.le_of_eq g1.symm, o_extKeep E1 (Keep.of_wr W7) (allS (Nat.le_of_eq g1.symm) all0), A7⟩
def isB : OInfo := ("java/lang/String", jdk_42_method_151_code, 3, none, "<init>", ({ frames := 1, cells := 0, slots := 0, locals := 12 } : Room))
theorem efsB (x0 : Addr) (x1 : Addr) (x2 : Int32) (m : MethodId) : entryFrame m #[(.ref x0), (.ref x1), (.int x2)] 3 = mkF m 0 #[.val (.ref x0), .val (.ref x1), .val (.int x2)] [] := by first | (simp [entryFrame, mkF, argsToLocals, Value.category]; done) | rfl
theorem pdsB : parseMethodDescriptor "([BB)V" = some ⟨[(.array .byte), .byte], none⟩ := by decide +kernel
theorem pnsB : plainFor (⟨"java/lang/String", "<init>", "([BB)V"⟩ : MethodName) = true := by decide +kernel
theorem dsB_0 : decode jdk_42_method_151_code 0 = .ok (.aload_n 0, 1) := by decide +kernel
theorem dsB_1 : decode jdk_42_method_151_code 1 = .ok (.invokespecial 1, 3) := by decide +kernel
theorem dsB_4 : decode jdk_42_method_151_code 4 = .ok (.aload_n 0, 1) := by decide +kernel
theorem dsB_5 : decode jdk_42_method_151_code 5 = .ok (.aload_n 1, 1) := by decide +kernel
theorem dsB_6 : decode jdk_42_method_151_code 6 = .ok (.putfield 9, 3) := by decide +kernel
theorem dsB_9 : decode jdk_42_method_151_code 9 = .ok (.aload_n 0, 1) := by decide +kernel
theorem dsB_10 : decode jdk_42_method_151_code 10 = .ok (.iload_n 2, 1) := by decide +kernel
theorem dsB_11 : decode jdk_42_method_151_code 11 = .ok (.putfield 15, 3) := by decide +kernel
theorem dsB_14 : decode jdk_42_method_151_code 14 = .ok (.return_, 1) := by decide +kernel
set_option maxRecDepth 65536 in
set_option maxHeartbeats 4000000 in
theorem rmsB (l : Launch) {Z : State} {a0 : Array Value} (G : OG Z a0) (n0 : Nat) (a d : Addr) (k : ClassId) (cs : List Int32) (h0 : Heap) (had : a ≠ d) (A : Arv Z h0 d k .byte (Int32.ofNat cs.length) (cs.map fun c => Value.int (byt c)) (.int 0)) (E : Exa Z h0 a "java/lang/String") (F1 : Fld Z h0 a "java/lang/String" "value" "[B" .null) (F2 : Fld Z h0 a "java/lang/String" "coder" "B" (.int 0)) (ga : n0 ≤ a) : oCon l Z n0 EL1 [a] (⟨"java/lang/String", "<init>", "([BB)V"⟩ : MethodName) isB #[.ref a, .ref d, .int 0] h0 (fun v h => v = none ∧ Keep h0 h [a] ∧ SV Z h h.size a cs) := by
  obtain ⟨hw, hEL, ⟨cmp, hC, hc0⟩, ⟨fm, hfm, hF⟩⟩ := id G
  refine oCon.mk hEL pnsB rfl rfl (efsB a d 0) fun C hCl => ?_
  refine s_aloadN (pc' := 1) dsB_0 rfl rfl rfl ?_
  refine s_initO (hw _ (List.mem_of_getElem? (i := 20) rfl)) (hw _ (List.mem_of_getElem? (i := 21) rfl)) (hw _ (List.mem_of_getElem? (i := 22) rfl)) rfl (pc' := 4) dsB_1 rfl (Nat.le_of_ble_eq_true rfl) (Nat.le_of_ble_eq_true rfl) ?_
  refine s_aloadN (pc' := 5) dsB_4 rfl rfl rfl ?_
  refine s_aloadN (pc' := 6) dsB_5 rfl rfl rfl ?_
  refine s_putF F1 E ga (by simp) (host := "") (Or.inl (hw _ (List.mem_of_getElem? (i := 29) rfl))) Via.refl (Or.inr ⟨(hw _ (List.mem_of_getElem? (i := 25) rfl)), rfl, rfl⟩) (hw _ (List.mem_of_getElem? (i := 10) rfl)) (ty := (.array .byte)) (by decide) rfl rfl (pc' := 9) dsB_6 rfl (fun h6 W6 => ?_)
  refine s_aloadN (pc' := 10) dsB_9 rfl rfl rfl ?_
  refine s_iloadN (pc' := 11) dsB_10 rfl rfl ?_
  refine s_putF (F2.other W6 (Or.inr (slot_ne (Or.inr (hw _ (List.mem_of_getElem? (i := 26) rfl))) (Or.inr (hw _ (List.mem_of_getElem? (i := 25) rfl))) (by decide) (t := .byte) (t' := .array .byte) (by decide) (by decide)))) (E.wr W6) ga (by simp) (host := "") (Or.inl (hw _ (List.mem_of_getElem? (i := 30) rfl))) Via.refl (Or.inr ⟨(hw _ (List.mem_of_getElem? (i := 26) rfl)), rfl, rfl⟩) (hw _ (List.mem_of_getElem? (i := 10) rfl)) (ty := .byte) (by decide) rfl rfl (pc' := 14) dsB_11 rfl (fun h11 W11 => ?_)
  refine s_ret rfl dsB_14 (by decide) (by decide) ⟨rfl, ?_, d, k, ?_, ?_, ?_, ?_, ?_, ?_⟩
  · exact (Keep.of_wr W6).wr W11 (Or.inl (List.mem_cons_self ..))
  · exact ((E.wr W6).wr W11).lt
  · exact ((A.other W6 had.symm).other W11 had.symm).lt
  · exact (E.wr W6).wr W11
  · exact (F2.other W6 (Or.inr (slot_ne (Or.inr (hw _ (List.mem_of_getElem? (i := 26) rfl))) (Or.inr (hw _ (List.mem_of_getElem? (i := 25) rfl))) (by decide) (t := .byte) (t' := .array .byte) (by decide) (by decide)))).same W11
  · exact (F1.same W6).other W11 (Or.inr (slot_ne (Or.inr (hw _ (List.mem_of_getElem? (i := 25) rfl))) (Or.inr (hw _ (List.mem_of_getElem? (i := 26) rfl))) (by decide) (t := .array .byte) (t' := .byte) (by decide) (by decide)))
  · exact (A.other W6 had.symm).other W11 had.symm
def ivO : OInfo := ("java/lang/String", jdk_42_method_139_code, 1, (some (.object "java/lang/String")), "valueOf", ({ frames := 2, cells := 2, slots := 5, locals := 27 } : Room))
theorem efvO (x0 : Int32) (m : MethodId) : entryFrame m #[(.int x0)] 1 = mkF m 0 #[.val (.int x0)] [] := by first | (simp [entryFrame, mkF, argsToLocals, Value.category]; done) | rfl
theorem pdvO : parseMethodDescriptor "(C)Ljava/lang/String;" = some ⟨[.char], some (.object "java/lang/String")⟩ := by decide +kernel
theorem pnvO : plainFor (⟨"java/lang/String", "valueOf", "(C)Ljava/lang/String;"⟩ : MethodName) = true := by decide +kernel
theorem dvO_0 : decode jdk_42_method_139_code 0 = .ok (.getstatic 38, 3) := by decide +kernel
theorem dvO_3 : decode jdk_42_method_139_code 3 = .ok (.ifCond .eq 23, 3) := by decide +kernel
theorem dvO_6 : decode jdk_42_method_139_code 6 = .ok (.iload_n 0, 1) := by decide +kernel
theorem dvO_7 : decode jdk_42_method_139_code 7 = .ok (.invokestatic 1015, 3) := by decide +kernel
theorem dvO_10 : decode jdk_42_method_139_code 10 = .ok (.ifCond .eq 16, 3) := by decide +kernel
theorem dvO_13 : decode jdk_42_method_139_code 13 = .ok (.new 10, 3) := by decide +kernel
theorem dvO_16 : decode jdk_42_method_139_code 16 = .ok (.dup, 1) := by decide +kernel
theorem dvO_17 : decode jdk_42_method_139_code 17 = .ok (.iload_n 0, 1) := by decide +kernel
theorem dvO_18 : decode jdk_42_method_139_code 18 = .ok (.invokestatic 1018, 3) := by decide +kernel
theorem dvO_21 : decode jdk_42_method_139_code 21 = .ok (.iconst 0, 1) := by decide +kernel
theorem dvO_22 : decode jdk_42_method_139_code 22 = .ok (.invokespecial 209, 3) := by decide +kernel
theorem dvO_25 : decode jdk_42_method_139_code 25 = .ok (.areturn, 1) := by decide +kernel
set_option maxRecDepth 65536 in
set_option maxHeartbeats 4000000 in
theorem rmvO (l : Launch) {Z : State} {a0 : Array Value} (G : OG Z a0) (n0 : Nat) (z : Int32) (h0 : Heap) (hz : ¬ z < 0 ∧ ¬ (255 : Int32) < z) : oCon l Z n0 EL1 [] (⟨"java/lang/String", "valueOf", "(C)Ljava/lang/String;"⟩ : MethodName) ivO #[.int z] h0 (fun v h => ∃ a, v = some (.ref a) ∧ h0.size ≤ a ∧ Ext h0 h ∧ SV Z h h.size a [z]) := by
  obtain ⟨hw, hEL, ⟨cmp, hC, hc0⟩, ⟨fm, hfm, hF⟩⟩ := id G
  refine oCon.mk hEL pnvO rfl rfl (efvO z) fun C hCl => ?_
  refine s_getS hC (hw _ (List.mem_of_getElem? (i := 52) rfl)) Via.refl (pc' := 3) dvO_0 rfl ?_
  refine s_if (pc' := 6) (pc'' := 26) dvO_3 rfl (by decide) rfl (fun hc3 => ?_) (fun hc3 => ?_)
  · replace hc3 := b_eq hc3
    exact absurd hc3 hc0
  · replace hc3 := b_eqF hc3
    refine s_iloadN (pc' := 7) dvO_6 rfl rfl ?_
    refine s_callS1 (rmcE C.l G n0 z h0 hz) (by simp) (hw _ (List.mem_of_getElem? (i := 250) rfl)) (hw _ (List.mem_of_getElem? (i := 192) rfl)) (hw _ (List.mem_of_getElem? (i := 146) rfl)) (hw _ (List.mem_of_getElem? (i := 193) rfl)) (by decide) (o_len pdcE rfl) rfl (pc' := 10) dvO_7 rfl (Nat.le_of_ble_eq_true rfl) (Nat.le_of_ble_eq_true rfl) (Nat.le_of_ble_eq_true rfl) (Nat.le_of_ble_eq_true rfl) (fun v7 h7 hQ7 => ?_)
    obtain ⟨rfl, rfl⟩ := hQ7
    dsimp only [oPush]
    refine s_if (pc' := 13) (pc'' := 26) dvO_10 rfl (by decide) rfl (fun hc10 => ?_) (fun hc10 => ?_)
    · replace hc10 := b_eq hc10
      exact absurd hc10 (by decide)
    · replace hc10 := b_eqF hc10
      refine s_new (hw _ (List.mem_of_getElem? (i := 251) rfl)) (hw _ (List.mem_of_getElem? (i := 10) rfl)) (hw _ (List.mem_of_getElem? (i := 11) rfl)) (pc' := 16) dvO_13 rfl (Nat.le_of_ble_eq_true rfl) (Nat.le_of_ble_eq_true rfl) (fun h13 b13 g13 nb13 E13 A13 D13 => ?_)
      refine s_dup (pc' := 17) dvO_16 rfl rfl ?_
      refine s_iloadN (pc' := 18) dvO_17 rfl rfl ?_
      refine s_callS1 (rmtB C.l G n0 z _) (by simp) (hw _ (List.mem_of_getElem? (i := 252) rfl)) (hw _ (List.mem_of_getElem? (i := 253) rfl)) (hw _ (List.mem_of_getElem? (i := 146) rfl)) (hw _ (List.mem_of_getElem? (i := 254) rfl)) (by decide) (o_len pdtB rfl) rfl (pc' := 21) dvO_18 rfl (Nat.le_of_ble_eq_true rfl) (Nat.le_of_ble_eq_true rfl) (Nat.le_of_ble_eq_true rfl) (Nat.le_of_ble_eq_true rfl) (fun v18 h18 hQ18 => ?_)
      obtain ⟨d, k, rfl, gd, E18, D18c⟩ := hQ18
      dsimp only [oPush]
      refine s_iconst (x := (0 : Int32)) (pc' := 22) dvO_21 rfl rfl ?_
      refine s_callI2 (rmsB C.l G n0 b13 d k [z] _ (o_fresh' A13.lt gd) D18c (A13.ext E18) ((D13 (Or.inr (hw _ (List.mem_of_getElem? (i := 25) rfl))) (ty := .array .byte) (by decide)).ext E18) ((D13 (Or.inr (hw _ (List.mem_of_getElem? (i := 26) rfl))) (ty := .byte) (by decide)).ext E18) nb13) (by simp) rfl rfl (hw _ (List.mem_of_getElem? (i := 255) rfl)) (hw _ (List.mem_of_getElem? (i := 256) rfl)) (hw _ (List.mem_of_getElem? (i := 11) rfl)) (hw _ (List.mem_of_getElem? (i := 257) rfl)) (by decide) (o_len pdsB rfl) rfl (pc' := 25) dvO_22 rfl (Nat.le_of_ble_eq_true rfl) (Nat.le_of_ble_eq_true rfl) (Nat.le_of_ble_eq_true rfl) (Nat.le_of_ble_eq_true rfl) (fun v22 h22 hQ22 => ?_)
      obtain ⟨rfl, K22, V22⟩ := hQ22
      dsimp only [oPush]
      exact s_aret rfl rfl rfl dvO_25 (Nat.le_of_ble_eq_true rfl) (Nat.le_of_ble_eq_true rfl) ⟨b13, rfl, Nat.le_of_eq g13.symm, o_extKeep (o_ext E13 E18) K22 (allS (Nat.le_of_eq g13.symm) all0), V22⟩
theorem pn0 : plainName "com/example/typeloom/typeloom/ttcn/IdentifiersConvertPinLaw" = true := by first | (simp [plainName, overriddenIn]; done) | decide +kernel
-- OWN: a StringBuilder of Latin-1 chars
theorem shl_zero (x : Int32) : x <<< ((0 : Int32) &&& 31) = x := by
  have e : ((0 : Int32) &&& 31) = 0 := by decide
  rw [e, Int32.shiftLeft_zero]
theorem n_add (a b : Nat) : (Int32.ofNat a + Int32.ofNat b : Int32) = Int32.ofNat (a + b) := by rw [Int32.ofNat_add]
theorem n_toInt {a : Nat} (h : a < 2147483648) : (Int32.ofNat a).toInt = a := by
  have q := cl h
  have p := nn h
  rw [o_lt] at p
  have e : (0 : Int32).toInt = 0 := rfl
  rw [e] at p
  have r : (Int32.ofNat a).toNatClampNeg = (Int32.ofNat a).toInt.toNat := rfl
  omega
theorem n_sub {a b : Nat} (ha : a < 2147483648) (hb : b < 2147483648) : (Int32.ofNat a - Int32.ofNat b).toInt = (a : Int) - b := by
  have q := c_isub (Int32.ofNat a) (Int32.ofNat b)
  rw [n_toInt ha, n_toInt hb] at q
  have h1 := (Int32.ofNat a - Int32.ofNat b).toInt_lt
  have h2 := (Int32.ofNat a - Int32.ofNat b).le_toInt
  have e1 : (2 : Int) ^ 31 = 2147483648 := rfl
  omega
theorem n_subp {a b : Nat} (ha : a < 2147483648) (hb : b < 2147483648) : (0 : Int32) < Int32.ofNat a - Int32.ofNat b ↔ b < a := by
  rw [o_lt, n_sub ha hb]
  have e : (0 : Int32).toInt = 0 := rfl
  rw [e]; omega
theorem max18 {g : Int32} (h : ¬ (18 : Int32) < g) : (if g < 18 then (18 : Int32) else g) = 18 := by
  split
  · rfl
  · rename_i q
    rw [o_lt] at h q
    rw [o_eq]; omega
theorem min_nm {n m : Nat} (hm : m < 2147483648) (h : n ≤ m) : (if Int32.ofNat n < Int32.ofNat m then Int32.ofNat n else Int32.ofNat m) = Int32.ofNat n := by
  split
  · rfl
  · rename_i q
    have : n = m := by
      by_cases z : n < m
      · exact absurd (lt' hm z) q
      · omega
    rw [this]
def BB (bs : List Int32) (cap : Nat) : List Value := bs.map (fun c => Value.int (byt c)) ++ List.replicate (cap - bs.length) (.int 0)
theorem BB_len {bs : List Int32} {cap : Nat} (h : bs.length ≤ cap) : (BB bs cap).length = cap := by simp [BB]; omega
theorem BB_nil (cap : Nat) : BB [] cap = List.replicate cap (.int 0) := by simp [BB]
theorem BB_full (bs : List Int32) : BB bs bs.length = bs.map fun c => Value.int (byt c) := by simp [BB]
theorem rng {l : List Value} {d : Value} {n : Nat} (h : n ≤ l.length) : ((List.range n).map fun i => l.getD (0 + i) d) = l.take n := by
  apply List.ext_getElem
  · simp; omega
  · intro i h1 h2
    simp at h1
    have : i < l.length := by omega
    simp [List.getD_eq_getElem?_getD, this]
theorem BB_app {bs cs : List Int32} {cap : Nat} (h : bs.length + cs.length ≤ cap) : (BB bs cap).take bs.length ++ ((List.range cs.length).map fun i => (cs.map fun c => Value.int (byt c)).getD (0 + i) (.int 0)) ++ (BB bs cap).drop (bs.length + cs.length) = BB (bs ++ cs) cap := by
  rw [rng (by simp)]
  have e1 : (BB bs cap).take bs.length = bs.map fun c => Value.int (byt c) := by
    unfold BB; rw [List.take_append_of_le_length (by simp)]; rw [List.take_of_length_le (by simp)]
  have e2 : (BB bs cap).drop (bs.length + cs.length) = List.replicate (cap - (bs.length + cs.length)) (.int 0) := by
    unfold BB
    rw [List.drop_append, List.drop_of_length_le (by simp), List.length_map, Nat.add_sub_cancel_left, List.drop_replicate, List.nil_append]
    congr 1; omega
  have e3 : ((cs.map fun c => Value.int (byt c)).take cs.length) = cs.map fun c => Value.int (byt c) := List.take_of_length_le (by simp)
  rw [e1, e2, e3]
  simp [BB]
theorem BB_grow {bs : List Int32} (h : bs.length ≤ 16) : (List.replicate 34 (Value.int 0)).take 0 ++ ((List.range 16).map fun i => (BB bs 16).getD (0 + i) (.int 0)) ++ (List.replicate 34 (Value.int 0)).drop (0 + 16) = BB bs 34 := by
  rw [List.take_zero, List.nil_append, rng (by rw [BB_len h]; exact Nat.le_refl _), List.take_of_length_le (by rw [BB_len h]; exact Nat.le_refl _)]
  unfold BB
  rw [List.drop_replicate, List.append_assoc, List.replicate_append_replicate]
  congr 2; omega
theorem BB_cut {bs : List Int32} {cap n : Nat} (h : bs.length ≤ cap) (hn : n = bs.length) : (List.replicate n (Value.int 0)).take 0 ++ ((List.range n).map fun i => (BB bs cap).getD (0 + i) (.int 0)) ++ (List.replicate n (Value.int 0)).drop (0 + n) = bs.map fun c => Value.int (byt c) := by
  subst hn
  rw [List.take_zero, List.nil_append, rng (by rw [BB_len h]; exact h)]
  unfold BB
  rw [List.take_append_of_le_length (by simp), List.take_of_length_le (by simp)]
  simp
def BD (Z : State) (h : Heap) (b a : Addr) (k : ClassId) (cap : Nat) (bs : List Int32) : Prop := Exa Z h b "java/lang/StringBuilder" ∧ Fld Z h b "java/lang/AbstractStringBuilder" "value" "[B" (.ref a) ∧ Fld Z h b "java/lang/AbstractStringBuilder" "coder" "B" (.int 0) ∧ Fld Z h b "java/lang/AbstractStringBuilder" "count" "I" (.int (Int32.ofNat bs.length)) ∧ Arv Z h a k .byte (Int32.ofNat cap) (BB bs cap) (.int 0) ∧ Exa Z h a "[B" ∧ bs.length ≤ cap ∧ cap ≤ 64
theorem BD.ext {Z : State} {h h' : Heap} {b a : Addr} {k : ClassId} {cap : Nat} {bs : List Int32} (B : BD Z h b a k cap bs) (E : Ext h h') : BD Z h' b a k cap bs := by
  obtain ⟨h1, h2, h3, h4, h5, h6, h7⟩ := B; exact ⟨h1.ext E, h2.ext E, h3.ext E, h4.ext E, h5.ext E, h6.ext E, h7⟩
theorem BD.ne {Z : State} {h : Heap} {b a : Addr} {k : ClassId} {cap : Nat} {bs : List Int32} (B : BD Z h b a k cap bs) : a ≠ b := Exa.ne B.2.2.2.2.2.1 B.1 (by decide)
theorem SV.ne {Z : State} {h : Heap} {N : Nat} {s b : Addr} {cs : List Int32} {n : Nat} {a0 : Array Value} (w : (Jvm.Cond.instantiable "java/lang/StringBuilder" n).before a0 Z = true) (F : SV Z h N s cs) (E : Exa Z h b "java/lang/StringBuilder") {h' : Heap} (K : Keep h h' [b]) : SV Z h' N s cs := by
  obtain ⟨d, k, h1, h2, h3, h4, h5, h6⟩ := F
  have n1 : s ≠ b := Exa.ne h3 E (by decide)
  have n2 : b ≠ d := Exa.neArv E h6 w
  exact ⟨d, k, h1, h2, h3.keep K, h4.keep K (by simp [n1]), h5.keep K (by simp [n1]), h6.keep K (by simp [n2.symm])⟩
def C16 (cs : List Int32) : Prop := ∀ c ∈ cs, ¬ c < 0 ∧ ¬ (65535 : Int32) < c
def hi8 (c : Int32) : Int32 := c >>> ((8 : Int32) &&& 31)
theorem nar16 {c : Int32} (h : ¬ c < 0 ∧ ¬ (65535 : Int32) < c) : nar .char c = c := by
  rw [o_eq]; have q := c_i2c c
  have h1 : ¬ c.toInt < (0 : Int32).toInt := fun z => h.1 (o_lt.mpr z)
  have h2 : ¬ (65535 : Int32).toInt < c.toInt := fun z => h.2 (o_lt.mpr z)
  have e1 : (0 : Int32).toInt = 0 := rfl
  have e2 : (65535 : Int32).toInt = 65535 := rfl
  rw [e1] at h1; rw [e2] at h2
  show c.toUInt32.toUInt16.toUInt32.toInt32.toInt = _; omega
theorem i2c16 {c : Int32} (h : ¬ c < 0 ∧ ¬ (65535 : Int32) < c) : c.toUInt32.toUInt16.toUInt32.toInt32 = c := nar16 h
theorem r_and16 (x : Int32) : ¬ (x &&& 65535) < 0 ∧ ¬ (65535 : Int32) < (x &&& 65535) := by
  have h1 := c_and x 65535 (by decide)
  have e2 : (65535 : Int32).toInt = 65535 := rfl
  have e1 : (0 : Int32).toInt = 0 := rfl
  rw [o_lt, o_lt, e1, e2]; rw [e2] at h1; omega
def gc (x y : Int32) : Int32 := (((x &&& 255) <<< ((0 : Int32) &&& 31)) ||| ((y &&& 255) <<< ((8 : Int32) &&& 31))).toUInt32.toUInt16.toUInt32.toInt32
theorem gc_eq {c : Int32} (h : ¬ c < 0 ∧ ¬ (65535 : Int32) < c) : gc (byt c) (byt (hi8 c)) = c := by
  have h1 : ¬ c.toInt < (0 : Int32).toInt := fun z => h.1 (o_lt.mpr z)
  have h2 : ¬ (65535 : Int32).toInt < c.toInt := fun z => h.2 (o_lt.mpr z)
  have e1 : (0 : Int32).toInt = 0 := rfl
  have e2 : (65535 : Int32).toInt = 65535 := rfl
  rw [e1] at h1; rw [e2] at h2
  have p1 := (c_i2b c).1
  have p2 := c_mask (byt c) 255 8 (by decide) (by decide)
  have q0 : (hi8 c).toInt = c.toInt / (2 ^ 8 : Nat) := c_ishr c 8 8 (by decide)
  have q1 := (c_i2b (hi8 c)).1
  have q2 := c_mask (byt (hi8 c)) 255 8 (by decide) (by decide)
  have s0 : ((byt c &&& 255) <<< ((0 : Int32) &&& 31)).toInt = (byt c &&& 255).toInt := by
    have q := c_ishl (byt c &&& 255) 0 0 (by decide)
    have r1 := rng32 ((byt c &&& 255) <<< ((0 : Int32) &&& 31))
    have r2 := rng32 (byt c &&& 255)
    simp only [Nat.pow_zero] at q; omega
  have s1 := c_ishl (byt (hi8 c) &&& 255) 8 8 (by decide)
  have r3 := rng32 ((byt (hi8 c) &&& 255) <<< ((8 : Int32) &&& 31))
  have p1' : ((byt c).toInt - c.toInt) % 256 = 0 := p1
  have q1' : ((byt (hi8 c)).toInt - (hi8 c).toInt) % 256 = 0 := q1
  simp only [Nat.reducePow] at q0 p2 q2 s1
  have s1' : ((byt (hi8 c) &&& 255) <<< ((8 : Int32) &&& 31)).toInt % 256 = 0 := by omega
  have o := c_or' ((byt c &&& 255) <<< ((0 : Int32) &&& 31)) ((byt (hi8 c) &&& 255) <<< ((8 : Int32) &&& 31)) 8 (by decide) 256 rfl s1' (by omega) (by omega)
  have f := c_i2c (((byt c &&& 255) <<< ((0 : Int32) &&& 31)) ||| ((byt (hi8 c) &&& 255) <<< ((8 : Int32) &&& 31)))
  rw [o_eq]
  show (((byt c &&& 255) <<< ((0 : Int32) &&& 31)) ||| ((byt (hi8 c) &&& 255) <<< ((8 : Int32) &&& 31))).toUInt32.toUInt16.toUInt32.toInt32.toInt = c.toInt
  omega
def u2 : List Int32 → List Value
  | [] => []
  | c :: r => .int (byt c) :: .int (byt (hi8 c)) :: u2 r
theorem u2_len (cs : List Int32) : (u2 cs).length = 2 * cs.length := by induction cs with | nil => rfl | cons c r ih => simp only [u2, List.length_cons, ih]; omega
theorem u2_app (cs ds : List Int32) : u2 (cs ++ ds) = u2 cs ++ u2 ds := by induction cs with | nil => rfl | cons c r ih => simp only [List.cons_append, u2, ih]
def uv (cs : List Int32) (j : Nat) : List Value := u2 (cs.take j) ++ List.replicate (2 * (cs.length - j)) (.int 0)
theorem uv_len (cs : List Int32) {j : Nat} (hj : j ≤ cs.length) : (uv cs j).length = 2 * cs.length := by simp [uv, u2_len]; omega
theorem uv_set {cs : List Int32} {j : Nat} {c : Int32} (hc : cs[j]? = some c) : ((uv cs j).set (2 * j) (.int (byt c))).set (2 * j + 1) (.int (byt (hi8 c))) = uv cs (j + 1) := by
  obtain ⟨hj, -⟩ := List.getElem?_eq_some_iff.mp hc
  have e : List.replicate (2 * (cs.length - j)) (Value.int 0) = .int 0 :: .int 0 :: List.replicate (2 * (cs.length - (j + 1))) (.int 0) := by
    rw [show 2 * (cs.length - j) = 2 * (cs.length - (j + 1)) + 1 + 1 by omega, List.replicate_succ, List.replicate_succ]
  have el : (u2 (cs.take j)).length = 2 * j := by rw [u2_len]; simp; omega
  unfold uv
  rw [e, List.set_append_right _ _ (by omega), el, Nat.sub_self, List.set_cons_zero, List.set_append_right _ _ (by omega), el, show 2 * j + 1 - 2 * j = 0 + 1 by omega, List.set_cons_succ, List.set_cons_zero, List.take_add_one, hc, u2_app]
  simp [u2]
theorem u2_get {cs : List Int32} {c : Int32} (d : Value) : ∀ {j : Nat}, cs[j]? = some c → (u2 cs).getD (2 * j) d = .int (byt c) ∧ (u2 cs).getD (2 * j + 1) d = .int (byt (hi8 c)) := by
  induction cs with
  | nil => intro j h; simp at h
  | cons x r ih =>
    intro j h
    cases j with
    | zero => simp at h; subst h; exact ⟨rfl, rfl⟩
    | succ j =>
      have := ih (j := j) (by simpa using h)
      rw [show 2 * (j + 1) = 2 * j + 1 + 1 by omega]
      simpa [u2] using this
theorem uv_end (cs : List Int32) : uv cs cs.length = u2 cs := by simp [uv]
def U16S (Z : State) : Prop := Sta Z Z.heap "java/lang/StringUTF16" "$assertionsDisabled" "Z" (.int 1) ∧ Sta Z Z.heap "java/lang/StringUTF16" "HI_BYTE_SHIFT" "I" (.int 0) ∧ Sta Z Z.heap "java/lang/StringUTF16" "LO_BYTE_SHIFT" "I" (.int 8)
def UV (Z : State) (h : Heap) (N : Nat) (a : Addr) (cs : List Int32) : Prop := ∃ b k, a < N ∧ b < N ∧ Exa Z h a "java/lang/String" ∧ Fld Z h a "java/lang/String" "value" "[B" (.ref b) ∧
  ((Fld Z h a "java/lang/String" "coder" "B" (.int 0) ∧ Ch cs ∧ Arv Z h b k .byte (Int32.ofNat cs.length) (cs.map fun c => Value.int (byt c)) (.int 0)) ∨ (Fld Z h a "java/lang/String" "coder" "B" (.int 1) ∧ Arv Z h b k .byte (Int32.ofNat (2 * cs.length)) (u2 cs) (.int 0)))
theorem UV.ext {Z : State} {h h' : Heap} {N : Nat} {a : Addr} {cs : List Int32} (F : UV Z h N a cs) (E : Ext h h') : UV Z h' N a cs := by
  obtain ⟨b, k, h1, h2, h3, h4, h5 | h5⟩ := F
  · exact ⟨b, k, h1, h2, h3.ext E, h4.ext E, Or.inl ⟨h5.1.ext E, h5.2.1, h5.2.2.ext E⟩⟩
  · exact ⟨b, k, h1, h2, h3.ext E, h4.ext E, Or.inr ⟨h5.1.ext E, h5.2.ext E⟩⟩
theorem UV.keep {Z : State} {h h' : Heap} {N : Nat} {a : Addr} {cs : List Int32} {ws : List Addr} (F : UV Z h N a cs) (K : Keep h h' ws) (q : ∀ x ∈ ws, N ≤ x) : UV Z h' N a cs := by
  obtain ⟨b, k, h1, h2, h3, h4, h5⟩ := F
  have na : a ∉ ws := fun z => absurd (q a z) (Nat.not_le.mpr h1)
  have nb : b ∉ ws := fun z => absurd (q b z) (Nat.not_le.mpr h2)
  refine ⟨b, k, h1, h2, h3.keep K, h4.keep K na, ?_⟩
  rcases h5 with h5 | h5
  · exact Or.inl ⟨h5.1.keep K na, h5.2.1, h5.2.2.keep K nb⟩
  · exact Or.inr ⟨h5.1.keep K na, h5.2.keep K nb⟩
theorem UV.exa {Z : State} {h : Heap} {N : Nat} {a : Addr} {cs : List Int32} (F : UV Z h N a cs) : Exa Z h a "java/lang/String" := by obtain ⟨b, k, h1, h2, h3, -⟩ := F; exact h3
theorem UV.mono {Z : State} {h : Heap} {N M : Nat} {a : Addr} {cs : List Int32} (F : UV Z h N a cs) (q : N ≤ M) : UV Z h M a cs := by
  obtain ⟨b, k, h1, h2, r⟩ := F; exact ⟨b, k, Nat.lt_of_lt_of_le h1 q, Nat.lt_of_lt_of_le h2 q, r⟩
theorem SV.uv {Z : State} {h : Heap} {N : Nat} {a : Addr} {cs : List Int32} (F : SV Z h N a cs) (hc : Ch cs) : UV Z h N a cs := by
  obtain ⟨b, k, h1, h2, h3, h4, h5, h6⟩ := F; exact ⟨b, k, h1, h2, h3, h5, Or.inl ⟨h4, hc, h6⟩⟩
theorem f_shl {i : Nat} (hi : i < 5) : Int32.ofNat i <<< ((1 : Int32) &&& 31) = Int32.ofNat (2 * i) := (by decide : ∀ i : Fin 5, Int32.ofNat i.1 <<< ((1 : Int32) &&& 31) = Int32.ofNat (2 * i.1)) ⟨i, hi⟩
theorem f_shr {i : Nat} (hi : i < 5) : Int32.ofNat (2 * i) >>> ((1 : Int32) &&& 31) = Int32.ofNat i := (by decide : ∀ i : Fin 5, Int32.ofNat (2 * i.1) >>> ((1 : Int32) &&& 31) = Int32.ofNat i.1) ⟨i, hi⟩
theorem f_cf {i : Nat} (h0 : 0 < i) (hi : i < 5) : nar .byte (XT.ushr (Int32.ofNat i - Int32.ofNat (2 * i)) 31).toInt8.toInt32 = 1 := (by decide : ∀ i : Fin 5, 0 < i.1 → nar .byte (XT.ushr (Int32.ofNat i.1 - Int32.ofNat (2 * i.1)) 31).toInt8.toInt32 = 1) ⟨i, hi⟩ h0
theorem n_lt {a b : Nat} (ha : a < 2147483648) (hb : b < 2147483648) : Int32.ofNat a < Int32.ofNat b ↔ a < b := by rw [o_lt, n_toInt ha, n_toInt hb]; omega
theorem n_subn {a b : Nat} (ha : a < 2147483648) (h : b ≤ a) : Int32.ofNat a - Int32.ofNat b = Int32.ofNat (a - b) := by
  rw [o_eq, n_sub ha (by omega), n_toInt (by omega)]; omega
theorem ch_snoc {cs : List Int32} {j : Nat} {z : Int32} (hz : cs[j]? = some z) (h : Ch (cs.take j)) (q : ¬ z < 0 ∧ ¬ (255 : Int32) < z) : Ch (cs.take (j + 1)) := by
  intro c hc
  rw [List.take_add_one, hz] at hc
  rcases List.mem_append.mp hc with hc | hc
  · exact h c hc
  · simp at hc; subst hc; exact q
theorem ch_all {cs : List Int32} (h : Ch (cs.take cs.length)) : Ch cs := by rw [List.take_length] at h; exact h
theorem arv_len {Z : State} {h : Heap} {a : Addr} {k k' : ClassId} {ty ty' : FieldType} {z z' : Int32} {vs vs' : List Value} {dv dv' : Value} (A : Arv Z h a k ty z vs dv) (B : Arv Z h a k' ty' z' vs' dv') : z.toNatClampNeg = z'.toNatClampNeg := by
  obtain ⟨c, A1, -, A3, -⟩ := A
  obtain ⟨c', B1, -, B3, -⟩ := B
  cases A1.1.symm.trans B1.1
  exact A3.symm.trans B3
def WV (Z : State) (h : Heap) (N : Nat) (a : Addr) (cs : List Int32) : Prop := ∃ b k, a < N ∧ b < N ∧ Exa Z h a "java/lang/String" ∧ Fld Z h a "java/lang/String" "value" "[B" (.ref b) ∧ Fld Z h a "java/lang/String" "coder" "B" (.int 1) ∧ Arv Z h b k .byte (Int32.ofNat (2 * cs.length)) (u2 cs) (.int 0)
theorem WV.uv {Z : State} {h : Heap} {N : Nat} {a : Addr} {cs : List Int32} (F : WV Z h N a cs) : UV Z h N a cs := by
  obtain ⟨b, k, h1, h2, h3, h4, h5, h6⟩ := F; exact ⟨b, k, h1, h2, h3, h4, Or.inr ⟨h5, h6⟩⟩
def Bad (cs : List Int32) (j : Nat) (z : Int32) : Prop := cs[j]? = some z ∧ (255 : Int32) < z ∧ Ch (cs.take j)
theorem bad_or : ∀ {cs : List Int32}, C16 cs → Ch cs ∨ ∃ j z, Bad cs j z
  | [], _ => Or.inl (by intro z hz; cases hz)
  | x :: r, h => by
    by_cases q : (255 : Int32) < x
    · exact Or.inr ⟨0, x, rfl, q, by intro z hz; simp at hz⟩
    · rcases bad_or (cs := r) (fun z hz => h z (List.mem_cons_of_mem _ hz)) with g | ⟨j, z, g1, g2, g3⟩
      · exact Or.inl fun z hz => by
          rcases List.mem_cons.mp hz with rfl | hz
          · exact ⟨(h z (List.mem_cons_self ..)).1, q⟩
          · exact g z hz
      · refine Or.inr ⟨j + 1, z, by simpa using g1, g2, fun w hw => ?_⟩
        rw [List.take_succ_cons] at hw
        rcases List.mem_cons.mp hw with rfl | hw
        · exact ⟨(h w (List.mem_cons_self ..)).1, q⟩
        · exact g3 w hw
def inL : OInfo := ("java/lang/StringUTF16", jdk_52_method_3_code, 1, (some .int), "newBytesLength", ({ frames := 0, cells := 0, slots := 0, locals := 0 } : Room))
theorem efnL (x0 : Int32) (m : MethodId) : entryFrame m #[(.int x0)] 1 = mkF m 0 #[.val (.int x0)] [] := by first | (simp [entryFrame, mkF, argsToLocals, Value.category]; done) | rfl
theorem pdnL : parseMethodDescriptor "(I)I" = some ⟨[.int], some .int⟩ := by decide +kernel
theorem pnnL : plainFor (⟨"java/lang/StringUTF16", "newBytesLength", "(I)I"⟩ : MethodName) = true := by decide +kernel
theorem dnL_0 : decode jdk_52_method_3_code 0 = .ok (.iload_n 0, 1) := by decide +kernel
theorem dnL_1 : decode jdk_52_method_3_code 1 = .ok (.ifCond .ge 11, 3) := by decide +kernel
theorem dnL_12 : decode jdk_52_method_3_code 12 = .ok (.iload_n 0, 1) := by decide +kernel
theorem dnL_13 : decode jdk_52_method_3_code 13 = .ok (.ldc 20, 2) := by decide +kernel
theorem dnL_15 : decode jdk_52_method_3_code 15 = .ok (.if_icmp .lt 40, 3) := by decide +kernel
theorem dnL_55 : decode jdk_52_method_3_code 55 = .ok (.iload_n 0, 1) := by decide +kernel
theorem dnL_56 : decode jdk_52_method_3_code 56 = .ok (.iconst 1, 1) := by decide +kernel
theorem dnL_57 : decode jdk_52_method_3_code 57 = .ok (.ishl, 1) := by decide +kernel
theorem dnL_58 : decode jdk_52_method_3_code 58 = .ok (.ireturn, 1) := by decide +kernel
set_option maxRecDepth 65536 in
set_option maxHeartbeats 4000000 in
theorem rmnL (l : Launch) {Z : State} {a0 : Array Value} (G : OG Z a0) (n0 : Nat) (n : Nat) (hn : n ≤ 4) (h0 : Heap) : oCon l Z n0 EL1 [] (⟨"java/lang/StringUTF16", "newBytesLength", "(I)I"⟩ : MethodName) inL #[.int (Int32.ofNat n)] h0 (fun v h => v = some (.int (Int32.ofNat (2 * n))) ∧ h = h0) := by
  obtain ⟨hw, hEL, ⟨cmp, hC, hc0⟩, ⟨fm, hfm, hF⟩⟩ := id G
  refine oCon.mk hEL pnnL rfl rfl (efnL _) fun C hCl => ?_
  refine s_iloadN (pc' := 1) dnL_0 rfl rfl ?_
  refine s_if (pc' := 4) (pc'' := 12) dnL_1 rfl (by decide) rfl (fun hc1 => ?_) (fun hc1 => ?_)
  · replace hc1 := b_ge hc1
    refine s_iloadN (pc' := 13) dnL_12 rfl rfl ?_
    refine s_ldcI (x := (1073741823 : Int32)) (hw _ (List.mem_of_getElem? (i := 227) rfl)) (pc' := 15) dnL_13 rfl ?_
    refine s_icmp (pc' := 18) (pc'' := 55) dnL_15 rfl (by decide) rfl (fun hc15 => ?_) (fun hc15 => ?_)
    · replace hc15 := b_lt hc15
      refine s_iloadN (pc' := 56) dnL_55 rfl rfl ?_
      refine s_iconst (x := (1 : Int32)) (pc' := 57) dnL_56 rfl rfl ?_
      refine s_ishl (pc' := 58) dnL_57 rfl ?_
      exact s_iret rfl dnL_58 (Nat.le_of_ble_eq_true rfl) (Nat.le_of_ble_eq_true rfl) ⟨by rw [f_shl (by omega)], rfl⟩
    · replace hc15 := b_ltF hc15
      exact absurd ((n_lt (b := 1073741823) (by omega) (by decide)).mpr (by omega)) hc15
  · replace hc1 := b_geF hc1
    exact absurd hc1 (nn (by omega))
def inF : OInfo := ("java/lang/StringUTF16", jdk_52_method_2_code, 1, (some (.array .byte)), "newBytesFor", ({ frames := 1, cells := 1, slots := 8, locals := 12 } : Room))
theorem efnF (x0 : Int32) (m : MethodId) : entryFrame m #[(.int x0)] 1 = mkF m 0 #[.val (.int x0)] [] := by first | (simp [entryFrame, mkF, argsToLocals, Value.category]; done) | rfl
theorem pdnF : parseMethodDescriptor "(I)[B" = some ⟨[.int], some (.array .byte)⟩ := by decide +kernel
theorem pnnF : plainFor (⟨"java/lang/StringUTF16", "newBytesFor", "(I)[B"⟩ : MethodName) = true := by decide +kernel
theorem dnF_0 : decode jdk_52_method_2_code 0 = .ok (.iload_n 0, 1) := by decide +kernel
theorem dnF_1 : decode jdk_52_method_2_code 1 = .ok (.invokestatic 11, 3) := by decide +kernel
theorem dnF_4 : decode jdk_52_method_2_code 4 = .ok (.newarray .byte, 2) := by decide +kernel
theorem dnF_6 : decode jdk_52_method_2_code 6 = .ok (.areturn, 1) := by decide +kernel
set_option maxRecDepth 65536 in
set_option maxHeartbeats 4000000 in
theorem rmnF (l : Launch) {Z : State} {a0 : Array Value} (G : OG Z a0) (n0 : Nat) (n : Nat) (hn : n ≤ 4) (h0 : Heap) : oConG l Z n0 EL1 [] (⟨"java/lang/StringUTF16", "newBytesFor", "(I)[B"⟩ : MethodName) inF #[.int (Int32.ofNat n)] h0 (oR Z EL1 (fun v h rs => ∃ d k, rs = [d] ∧ v = some (.ref d) ∧ h0.size ≤ d ∧ n0 ≤ d ∧ Ext h0 h ∧ Arv Z h d k .byte (Int32.ofNat (2 * n)) (List.replicate (2 * n) (.int 0)) (.int 0))) := by
  obtain ⟨hw, hEL, ⟨cmp, hC, hc0⟩, ⟨fm, hfm, hF⟩⟩ := id G
  refine oCon.mk hEL pnnF rfl rfl (efnF _) fun C hCl => ?_
  refine s_iloadN (pc' := 1) dnF_0 rfl rfl ?_
  refine s_callS1 (rmnL C.l G n0 n hn h0) (by simp) (hw _ (List.mem_of_getElem? (i := 224) rfl)) (hw _ (List.mem_of_getElem? (i := 225) rfl)) (hw _ (List.mem_of_getElem? (i := 123) rfl)) (hw _ (List.mem_of_getElem? (i := 226) rfl)) (by decide) (o_len pdnL rfl) rfl (pc' := 4) dnF_1 rfl (Nat.le_of_ble_eq_true rfl) (Nat.le_of_ble_eq_true rfl) (Nat.le_of_ble_eq_true rfl) (Nat.le_of_ble_eq_true rfl) (fun v1 h1 hQ1 => ?_)
  obtain ⟨rfl, rfl⟩ := hQ1
  dsimp only [oPush]
  refine s_newA 8 (hw _ (List.mem_of_getElem? (i := 24) rfl)) (pc' := 6) dnF_4 rfl (nn (by omega)) (by rw [cl (by omega)]; omega) (by decide) (Nat.le_of_ble_eq_true rfl) (Nat.le_of_ble_eq_true rfl) (fun h4 b4 k4 g4 nb4 E4 A4 => ?_)
  exact s_aretR rfl rfl rfl dnF_6 (Nat.le_of_ble_eq_true rfl) (Nat.le_of_ble_eq_true rfl) [b4] (by simp) ⟨b4, k4, rfl, rfl, Nat.le_of_eq g4.symm, nb4, E4, by have q := o_padTo A4 (2 * n); rw [List.nil_append] at q; exact q⟩
def ipC : OInfo := ("java/lang/StringUTF16", jdk_52_method_4_code, 3, none, "putChar", ({ frames := 0, cells := 0, slots := 0, locals := 0 } : Room))
theorem efpC (x0 : Addr) (x1 : Int32) (x2 : Int32) (m : MethodId) : entryFrame m #[(.ref x0), (.int x1), (.int x2)] 3 = mkF m 0 #[.val (.ref x0), .val (.int x1), .val (.int x2)] [] := by first | (simp [entryFrame, mkF, argsToLocals, Value.category]; done) | rfl
theorem pdpC : parseMethodDescriptor "([BII)V" = some ⟨[(.array .byte), .int, .int], none⟩ := by decide +kernel
theorem pnpC : plainFor (⟨"java/lang/StringUTF16", "putChar", "([BII)V"⟩ : MethodName) = true := by decide +kernel
theorem dpC_0 : decode jdk_52_method_4_code 0 = .ok (.getstatic 44, 3) := by decide +kernel
theorem dpC_3 : decode jdk_52_method_4_code 3 = .ok (.ifCond .ne 25, 3) := by decide +kernel
theorem dpC_28 : decode jdk_52_method_4_code 28 = .ok (.iload_n 1, 1) := by decide +kernel
theorem dpC_29 : decode jdk_52_method_4_code 29 = .ok (.iconst 1, 1) := by decide +kernel
theorem dpC_30 : decode jdk_52_method_4_code 30 = .ok (.ishl, 1) := by decide +kernel
theorem dpC_31 : decode jdk_52_method_4_code 31 = .ok (.istore_n 1, 1) := by decide +kernel
theorem dpC_32 : decode jdk_52_method_4_code 32 = .ok (.aload_n 0, 1) := by decide +kernel
theorem dpC_33 : decode jdk_52_method_4_code 33 = .ok (.iload_n 1, 1) := by decide +kernel
theorem dpC_34 : decode jdk_52_method_4_code 34 = .ok (.iinc 1 1, 3) := by decide +kernel
theorem dpC_37 : decode jdk_52_method_4_code 37 = .ok (.iload_n 2, 1) := by decide +kernel
theorem dpC_38 : decode jdk_52_method_4_code 38 = .ok (.getstatic 59, 3) := by decide +kernel
theorem dpC_41 : decode jdk_52_method_4_code 41 = .ok (.ishr, 1) := by decide +kernel
theorem dpC_42 : decode jdk_52_method_4_code 42 = .ok (.i2b, 1) := by decide +kernel
theorem dpC_43 : decode jdk_52_method_4_code 43 = .ok (.bastore, 1) := by decide +kernel
theorem dpC_44 : decode jdk_52_method_4_code 44 = .ok (.aload_n 0, 1) := by decide +kernel
theorem dpC_45 : decode jdk_52_method_4_code 45 = .ok (.iload_n 1, 1) := by decide +kernel
theorem dpC_46 : decode jdk_52_method_4_code 46 = .ok (.iload_n 2, 1) := by decide +kernel
theorem dpC_47 : decode jdk_52_method_4_code 47 = .ok (.getstatic 63, 3) := by decide +kernel
theorem dpC_50 : decode jdk_52_method_4_code 50 = .ok (.ishr, 1) := by decide +kernel
theorem dpC_51 : decode jdk_52_method_4_code 51 = .ok (.i2b, 1) := by decide +kernel
theorem dpC_52 : decode jdk_52_method_4_code 52 = .ok (.bastore, 1) := by decide +kernel
theorem dpC_53 : decode jdk_52_method_4_code 53 = .ok (.return_, 1) := by decide +kernel
set_option maxRecDepth 65536 in
set_option maxHeartbeats 4000000 in
theorem rmpC (l : Launch) {Z : State} {a0 : Array Value} (G : OG Z a0) (n0 : Nat) (US : U16S Z) (d : Addr) (k : ClassId) (j m : Nat) (x : Int32) (vs : List Value) (h0 : Heap) (hj : j < m) (hm : m ≤ 4) (hl : vs.length = 2 * m) (gd : n0 ≤ d) (A : Arv Z h0 d k .byte (Int32.ofNat (2 * m)) vs (.int 0)) : oCon l Z n0 EL1 [d] (⟨"java/lang/StringUTF16", "putChar", "([BII)V"⟩ : MethodName) ipC #[.ref d, .int (Int32.ofNat j), .int x] h0 (fun v h => v = none ∧ Keep h0 h [d] ∧ Arv Z h d k .byte (Int32.ofNat (2 * m)) ((vs.set (2 * j) (.int (byt x))).set (2 * j + 1) (.int (byt (hi8 x)))) (.int 0)) := by
  obtain ⟨hw, hEL, ⟨cmp, hC, hc0⟩, ⟨fm, hfm, hF⟩⟩ := id G
  obtain ⟨hAs, hHi, hLo⟩ := US
  refine oCon.mk hEL pnpC rfl rfl (efpC d _ x) fun C hCl => ?_
  refine s_getS hAs (hw _ (List.mem_of_getElem? (i := 231) rfl)) Via.refl (pc' := 3) dpC_0 rfl ?_
  refine s_if (pc' := 6) (pc'' := 28) dpC_3 rfl (by decide) rfl (fun hc3 => ?_) (fun hc3 => ?_)
  · replace hc3 := b_ne hc3
    refine s_iloadN (pc' := 29) dpC_28 rfl rfl ?_
    refine s_iconst (x := (1 : Int32)) (pc' := 30) dpC_29 rfl rfl ?_
    refine s_ishl (pc' := 31) dpC_30 rfl ?_
    rw [f_shl (by omega)]
    refine s_istoreN (kn := 1) rfl (pc' := 32) dpC_31 rfl (o_st rfl (by first | exact One.u | exact One.val rfl | assumption) rfl) ?_
    dsimp only [List.set_cons_succ, List.set_cons_zero]
    refine s_aloadN (pc' := 33) dpC_32 rfl rfl rfl ?_
    refine s_iloadN (pc' := 34) dpC_33 rfl rfl ?_
    refine s_iinc (y := (1 : Int32)) (pc' := 37) dpC_34 rfl rfl rfl (o_st rfl (by first | exact One.u | exact One.val rfl | assumption) rfl) ?_
    dsimp only [List.set_cons_succ, List.set_cons_zero]
    rw [n_succ]
    refine s_iloadN (pc' := 38) dpC_37 rfl rfl ?_
    refine s_getS hHi (hw _ (List.mem_of_getElem? (i := 232) rfl)) Via.refl (pc' := 41) dpC_38 rfl ?_
    refine s_ishr (pc' := 42) dpC_41 rfl ?_
    refine s_i2b (pc' := 43) dpC_42 rfl ?_
    rw [shr_zero]
    refine s_bastore A gd (by simp) (nn (by omega)) (lt' (by omega) (by omega)) (2 * j) (cl (by omega)) (by omega) (pc' := 44) dpC_43 rfl (fun h43 W43 A43 => ?_)
    rw [byt_byt] at A43
    refine s_aloadN (pc' := 45) dpC_44 rfl rfl rfl ?_
    refine s_iloadN (pc' := 46) dpC_45 rfl rfl ?_
    refine s_iloadN (pc' := 47) dpC_46 rfl rfl ?_
    refine s_getS hLo (hw _ (List.mem_of_getElem? (i := 233) rfl)) Via.refl (pc' := 50) dpC_47 rfl ?_
    refine s_ishr (pc' := 51) dpC_50 rfl ?_
    refine s_i2b (pc' := 52) dpC_51 rfl ?_
    refine s_bastore A43 gd (by simp) (nn (by omega)) (lt' (by omega) (by omega)) (2 * j + 1) (cl (by omega)) (by rw [List.length_set]; omega) (pc' := 53) dpC_52 rfl (fun h52 W52 A52 => ?_)
    rw [show nar .byte (x >>> ((8 : Int32) &&& 31)).toInt8.toInt32 = byt (hi8 x) from byt_byt _] at A52
    exact s_ret rfl dpC_53 (Nat.le_of_ble_eq_true rfl) (Nat.le_of_ble_eq_true rfl) ⟨rfl, (Keep.of_wr W43).wr W52 (Or.inl (List.mem_cons_self ..)), A52⟩
  · replace hc3 := b_neF hc3
    exact absurd hc3 (by decide)
def igC : OInfo := ("java/lang/StringUTF16", jdk_52_method_5_code, 2, (some .char), "getChar", ({ frames := 0, cells := 0, slots := 0, locals := 0 } : Room))
theorem efgC (x0 : Addr) (x1 : Int32) (m : MethodId) : entryFrame m #[(.ref x0), (.int x1)] 2 = mkF m 0 #[.val (.ref x0), .val (.int x1)] [] := by first | (simp [entryFrame, mkF, argsToLocals, Value.category]; done) | rfl
theorem pdgC : parseMethodDescriptor "([BI)C" = some ⟨[(.array .byte), .int], some .char⟩ := by decide +kernel
theorem pngC : plainFor (⟨"java/lang/StringUTF16", "getChar", "([BI)C"⟩ : MethodName) = true := by decide +kernel
theorem dgC_0 : decode jdk_52_method_5_code 0 = .ok (.getstatic 44, 3) := by decide +kernel
theorem dgC_3 : decode jdk_52_method_5_code 3 = .ok (.ifCond .ne 25, 3) := by decide +kernel
theorem dgC_28 : decode jdk_52_method_5_code 28 = .ok (.iload_n 1, 1) := by decide +kernel
theorem dgC_29 : decode jdk_52_method_5_code 29 = .ok (.iconst 1, 1) := by decide +kernel
theorem dgC_30 : decode jdk_52_method_5_code 30 = .ok (.ishl, 1) := by decide +kernel
theorem dgC_31 : decode jdk_52_method_5_code 31 = .ok (.istore_n 1, 1) := by decide +kernel
theorem dgC_32 : decode jdk_52_method_5_code 32 = .ok (.aload_n 0, 1) := by decide +kernel
theorem dgC_33 : decode jdk_52_method_5_code 33 = .ok (.iload_n 1, 1) := by decide +kernel
theorem dgC_34 : decode jdk_52_method_5_code 34 = .ok (.iinc 1 1, 3) := by decide +kernel
theorem dgC_37 : decode jdk_52_method_5_code 37 = .ok (.baload, 1) := by decide +kernel
theorem dgC_38 : decode jdk_52_method_5_code 38 = .ok (.sipush 255, 3) := by decide +kernel
theorem dgC_41 : decode jdk_52_method_5_code 41 = .ok (.iand, 1) := by decide +kernel
theorem dgC_42 : decode jdk_52_method_5_code 42 = .ok (.getstatic 59, 3) := by decide +kernel
theorem dgC_45 : decode jdk_52_method_5_code 45 = .ok (.ishl, 1) := by decide +kernel
theorem dgC_46 : decode jdk_52_method_5_code 46 = .ok (.aload_n 0, 1) := by decide +kernel
theorem dgC_47 : decode jdk_52_method_5_code 47 = .ok (.iload_n 1, 1) := by decide +kernel
theorem dgC_48 : decode jdk_52_method_5_code 48 = .ok (.baload, 1) := by decide +kernel
theorem dgC_49 : decode jdk_52_method_5_code 49 = .ok (.sipush 255, 3) := by decide +kernel
theorem dgC_52 : decode jdk_52_method_5_code 52 = .ok (.iand, 1) := by decide +kernel
theorem dgC_53 : decode jdk_52_method_5_code 53 = .ok (.getstatic 63, 3) := by decide +kernel
theorem dgC_56 : decode jdk_52_method_5_code 56 = .ok (.ishl, 1) := by decide +kernel
theorem dgC_57 : decode jdk_52_method_5_code 57 = .ok (.ior, 1) := by decide +kernel
theorem dgC_58 : decode jdk_52_method_5_code 58 = .ok (.i2c, 1) := by decide +kernel
theorem dgC_59 : decode jdk_52_method_5_code 59 = .ok (.ireturn, 1) := by decide +kernel
set_option maxRecDepth 65536 in
set_option maxHeartbeats 4000000 in
theorem rmgC (l : Launch) {Z : State} {a0 : Array Value} (G : OG Z a0) (n0 : Nat) (US : U16S Z) (d : Addr) (k : ClassId) (j : Nat) (x : Int32) (cs : List Int32) (h0 : Heap) (hn : cs.length ≤ 4) (hch : C16 cs) (hx : cs[j]? = some x) (A : Arv Z h0 d k .byte (Int32.ofNat (2 * cs.length)) (u2 cs) (.int 0)) : oCon l Z n0 EL1 [] (⟨"java/lang/StringUTF16", "getChar", "([BI)C"⟩ : MethodName) igC #[.ref d, .int (Int32.ofNat j)] h0 (fun v h => v = some (.int x) ∧ h = h0) := by
  obtain ⟨hw, hEL, ⟨cmp, hC, hc0⟩, ⟨fm, hfm, hF⟩⟩ := id G
  obtain ⟨hAs, hHi, hLo⟩ := US
  have hj : j < cs.length := (List.getElem?_eq_some_iff.mp hx).1
  refine oCon.mk hEL pngC rfl rfl (efgC d _) fun C hCl => ?_
  refine s_getS hAs (hw _ (List.mem_of_getElem? (i := 231) rfl)) Via.refl (pc' := 3) dgC_0 rfl ?_
  refine s_if (pc' := 6) (pc'' := 28) dgC_3 rfl (by decide) rfl (fun hc3 => ?_) (fun hc3 => ?_)
  · replace hc3 := b_ne hc3
    refine s_iloadN (pc' := 29) dgC_28 rfl rfl ?_
    refine s_iconst (x := (1 : Int32)) (pc' := 30) dgC_29 rfl rfl ?_
    refine s_ishl (pc' := 31) dgC_30 rfl ?_
    rw [f_shl (by omega)]
    refine s_istoreN (kn := 1) rfl (pc' := 32) dgC_31 rfl (o_st rfl (by first | exact One.u | exact One.val rfl | assumption) rfl) ?_
    dsimp only [List.set_cons_succ, List.set_cons_zero]
    refine s_aloadN (pc' := 33) dgC_32 rfl rfl rfl ?_
    refine s_iloadN (pc' := 34) dgC_33 rfl rfl ?_
    refine s_iinc (y := (1 : Int32)) (pc' := 37) dgC_34 rfl rfl rfl (o_st rfl (by first | exact One.u | exact One.val rfl | assumption) rfl) ?_
    dsimp only [List.set_cons_succ, List.set_cons_zero]
    rw [n_succ]
    refine s_baload A (nn (by omega)) (lt' (by omega) (by omega)) (v := .int (byt x)) (by rw [cl (by omega)]; exact (u2_get _ hx).1) (pc' := 38) dgC_37 rfl ?_
    refine s_sipush (x := (255 : Int32)) (pc' := 41) dgC_38 rfl rfl ?_
    refine s_iand (pc' := 42) dgC_41 rfl ?_
    refine s_getS hHi (hw _ (List.mem_of_getElem? (i := 232) rfl)) Via.refl (pc' := 45) dgC_42 rfl ?_
    refine s_ishl (pc' := 46) dgC_45 rfl ?_
    refine s_aloadN (pc' := 47) dgC_46 rfl rfl rfl ?_
    refine s_iloadN (pc' := 48) dgC_47 rfl rfl ?_
    refine s_baload A (nn (by omega)) (lt' (by omega) (by omega)) (v := .int (byt (hi8 x))) (by rw [cl (by omega)]; exact (u2_get _ hx).2) (pc' := 49) dgC_48 rfl ?_
    refine s_sipush (x := (255 : Int32)) (pc' := 52) dgC_49 rfl rfl ?_
    refine s_iand (pc' := 53) dgC_52 rfl ?_
    refine s_getS hLo (hw _ (List.mem_of_getElem? (i := 233) rfl)) Via.refl (pc' := 56) dgC_53 rfl ?_
    refine s_ishl (pc' := 57) dgC_56 rfl ?_
    refine s_ior (pc' := 58) dgC_57 rfl ?_
    refine s_i2c (pc' := 59) dgC_58 rfl ?_
    exact s_nret (t := .char) rfl (by simp) dgC_59 (Nat.le_of_ble_eq_true rfl) (Nat.le_of_ble_eq_true rfl) ⟨by show some (Value.int (nar .char (gc (byt x) (byt (hi8 x))))) = _; rw [gc_eq (hch x (List.mem_of_getElem? hx)), nar16 (hch x (List.mem_of_getElem? hx))], rfl⟩
  · replace hc3 := b_neF hc3
    exact absurd hc3 (by decide)
def itY : OInfo := ("java/lang/StringUTF16", jdk_52_method_14_code, 5, (some (.array .byte)), "toBytes", ({ frames := 2, cells := 1, slots := 8, locals := 24 } : Room))
theorem eftY (x0 : Addr) (x1 : Int32) (x2 : Int32) (m : MethodId) : entryFrame m #[(.ref x0), (.int x1), (.int x2)] 5 = mkF m 0 #[.val (.ref x0), .val (.int x1), .val (.int x2), .unset, .unset] [] := by first | (simp [entryFrame, mkF, argsToLocals, Value.category]; done) | rfl
theorem pdtY : parseMethodDescriptor "([CII)[B" = some ⟨[(.array .char), .int, .int], some (.array .byte)⟩ := by decide +kernel
theorem pntY : plainFor (⟨"java/lang/StringUTF16", "toBytes", "([CII)[B"⟩ : MethodName) = true := by decide +kernel
theorem dtY_0 : decode jdk_52_method_14_code 0 = .ok (.iload_n 2, 1) := by decide +kernel
theorem dtY_1 : decode jdk_52_method_14_code 1 = .ok (.invokestatic 107, 3) := by decide +kernel
theorem dtY_4 : decode jdk_52_method_14_code 4 = .ok (.astore_n 3, 1) := by decide +kernel
theorem dtY_5 : decode jdk_52_method_14_code 5 = .ok (.iconst 0, 1) := by decide +kernel
theorem dtY_6 : decode jdk_52_method_14_code 6 = .ok (.istore 4, 2) := by decide +kernel
theorem dtY_8 : decode jdk_52_method_14_code 8 = .ok (.iload 4, 2) := by decide +kernel
theorem dtY_10 : decode jdk_52_method_14_code 10 = .ok (.iload_n 2, 1) := by decide +kernel
theorem dtY_11 : decode jdk_52_method_14_code 11 = .ok (.if_icmp .ge 21, 3) := by decide +kernel
theorem dtY_14 : decode jdk_52_method_14_code 14 = .ok (.aload_n 3, 1) := by decide +kernel
theorem dtY_15 : decode jdk_52_method_14_code 15 = .ok (.iload 4, 2) := by decide +kernel
theorem dtY_17 : decode jdk_52_method_14_code 17 = .ok (.aload_n 0, 1) := by decide +kernel
theorem dtY_18 : decode jdk_52_method_14_code 18 = .ok (.iload_n 1, 1) := by decide +kernel
theorem dtY_19 : decode jdk_52_method_14_code 19 = .ok (.caload, 1) := by decide +kernel
theorem dtY_20 : decode jdk_52_method_14_code 20 = .ok (.invokestatic 111, 3) := by decide +kernel
theorem dtY_23 : decode jdk_52_method_14_code 23 = .ok (.iinc 1 1, 3) := by decide +kernel
theorem dtY_26 : decode jdk_52_method_14_code 26 = .ok (.iinc 4 1, 3) := by decide +kernel
theorem dtY_29 : decode jdk_52_method_14_code 29 = .ok (.goto (-21), 3) := by decide +kernel
theorem dtY_32 : decode jdk_52_method_14_code 32 = .ok (.aload_n 3, 1) := by decide +kernel
theorem dtY_33 : decode jdk_52_method_14_code 33 = .ok (.areturn, 1) := by decide +kernel
set_option maxRecDepth 65536 in
set_option maxHeartbeats 4000000 in
theorem tYloop {C : OCtx} {Z : State} {a0 : Array Value} (G : OG Z a0) (US : U16S Z) {n0 : Nat} {ws : List Addr} {Q : Option Value → Heap → Prop} {h1 : Heap} {c d : Addr} {kc k : ClassId} {cs : List Int32} {dv : Value} (hn : cs.length ≤ 4) (hcd : c ≠ d) (gd : n0 ≤ d) (hd : d ∈ ws)
    (fin : ∀ h, Keep h1 h [d] → Arv Z h d k .byte (Int32.ofNat (2 * cs.length)) (u2 cs) (.int 0) → Q (some (.ref d)) h) (m : Nat) : ∀ (h : Heap) (j : Nat), j ≤ cs.length → cs.length - j = m → Keep h1 h [d] → Arv Z h c kc .char (Int32.ofNat cs.length) (cs.map .int) dv → Arv Z h d k .byte (Int32.ofNat (2 * cs.length)) (uv cs j) (.int 0) →
    oRun C Z n0 itY EL1 ws Q h 1 8 (mkF C.m 8 #[.val (.ref c), .val (.int (Int32.ofNat j)), .val (.int (Int32.ofNat cs.length)), .val (.ref d), .val (.int (Int32.ofNat j))] []) := by
  induction m using Nat.strongRecOn with
  | _ m ih =>
  intro h j hj hk K A D
  subst hk
  have hw := G.1
  refine s_iload (pc' := 10) dtY_8 rfl rfl ?_
  refine s_iloadN (pc' := 11) dtY_10 rfl rfl ?_
  refine s_icmp (pc' := 14) (pc'' := 32) dtY_11 rfl (by decide) rfl (fun hc11 => ?_) (fun hc11 => ?_)
  · replace hc11 := b_ge hc11
    obtain rfl : j = cs.length := by
      by_cases q : j < cs.length
      · exact absurd (lt' (by omega) q) hc11
      · omega
    rw [uv_end] at D
    refine s_aloadN (pc' := 33) dtY_32 rfl rfl rfl ?_
    exact s_aret rfl rfl rfl dtY_33 (Nat.le_of_ble_eq_true rfl) (Nat.le_of_ble_eq_true rfl) (fin _ K D)
  · replace hc11 := b_geF hc11
    have hj2 : j < cs.length := (n_lt (by omega) (by omega)).mp hc11
    obtain ⟨z, hz⟩ : ∃ z, cs[j]? = some z := ⟨cs[j], List.getElem?_eq_getElem hj2⟩
    refine s_aloadN (pc' := 15) dtY_14 rfl rfl rfl ?_
    refine s_iload (pc' := 17) dtY_15 rfl rfl ?_
    refine s_aloadN (pc' := 18) dtY_17 rfl rfl rfl ?_
    refine s_iloadN (pc' := 19) dtY_18 rfl rfl ?_
    refine s_caload A (nn (by omega)) (lt' (by omega) hj2) (v := .int z) (by rw [cl (by omega)]; exact cs_get hz _) (pc' := 20) dtY_19 rfl ?_
    refine s_callS3 (rmpC C.l G n0 US d k j cs.length z _ _ hj2 hn (uv_len _ hj) gd D) (fun x hx => by cases List.mem_singleton.mp hx; exact hd) (hw _ (List.mem_of_getElem? (i := 228) rfl)) (hw _ (List.mem_of_getElem? (i := 229) rfl)) (hw _ (List.mem_of_getElem? (i := 123) rfl)) (hw _ (List.mem_of_getElem? (i := 230) rfl)) (by decide) (o_len pdpC rfl) rfl (pc' := 23) dtY_20 rfl (Nat.le_of_ble_eq_true rfl) (Nat.le_of_ble_eq_true rfl) (Nat.le_of_ble_eq_true rfl) (Nat.le_of_ble_eq_true rfl) (fun v20 h20 hQ20 => ?_)
    obtain ⟨rfl, K20, D20⟩ := hQ20
    dsimp only [oPush]
    rw [uv_set hz] at D20
    refine s_iinc (y := (1 : Int32)) (pc' := 26) dtY_23 rfl rfl rfl (o_st rfl (by first | exact One.u | exact One.val rfl | assumption) rfl) ?_
    dsimp only [List.set_cons_succ, List.set_cons_zero]
    rw [n_succ]
    refine s_iinc (y := (1 : Int32)) (pc' := 29) dtY_26 rfl rfl rfl (o_st rfl (by first | exact One.u | exact One.val rfl | assumption) rfl) ?_
    dsimp only [List.set_cons_succ, List.set_cons_zero]
    rw [n_succ]
    refine s_goto (pc' := 8) dtY_29 (by decide) rfl ?_
    exact ih (cs.length - (j + 1)) (by omega) h20 (j + 1) (by omega) rfl (K.trans K20 (fun x hx => by cases List.mem_singleton.mp hx; exact Or.inl (List.mem_cons_self ..))) (A.keep K20 (ninS hcd nin0)) D20
set_option maxRecDepth 65536 in
set_option maxHeartbeats 4000000 in
theorem rmtY (l : Launch) {Z : State} {a0 : Array Value} (G : OG Z a0) (n0 : Nat) (US : U16S Z) (c : Addr) (kc : ClassId) (cs : List Int32) (dv : Value) (h0 : Heap) (hn : cs.length ≤ 4) (A : Arv Z h0 c kc .char (Int32.ofNat cs.length) (cs.map .int) dv) : oCon l Z n0 EL1 [] (⟨"java/lang/StringUTF16", "toBytes", "([CII)[B"⟩ : MethodName) itY #[.ref c, .int 0, .int (Int32.ofNat cs.length)] h0 (fun v h => ∃ d k, v = some (.ref d) ∧ h0.size ≤ d ∧ Ext h0 h ∧ Arv Z h d k .byte (Int32.ofNat (2 * cs.length)) (u2 cs) (.int 0)) := by
  obtain ⟨hw, hEL, ⟨cmp, hC, hc0⟩, ⟨fm, hfm, hF⟩⟩ := id G
  refine oCon.mk hEL pntY rfl rfl (eftY c 0 _) fun C hCl => ?_
  refine s_iloadN (pc' := 1) dtY_0 rfl rfl ?_
  refine s_callS1R (rmnF C.l G n0 cs.length hn h0) (by simp) (hw _ (List.mem_of_getElem? (i := 221) rfl)) (hw _ (List.mem_of_getElem? (i := 222) rfl)) (hw _ (List.mem_of_getElem? (i := 123) rfl)) (hw _ (List.mem_of_getElem? (i := 223) rfl)) (by decide) (o_len pdnF rfl) rfl (pc' := 4) dtY_1 rfl (Nat.le_of_ble_eq_true rfl) (Nat.le_of_ble_eq_true rfl) (Nat.le_of_ble_eq_true rfl) (Nat.le_of_ble_eq_true rfl) (fun v1 h1 rs1 hQ1 => ?_)
  obtain ⟨d, k, rfl, rfl, gd, gn, E1, D1⟩ := hQ1
  dsimp only [oPush]
  refine s_astoreN (kn := 3) rfl (pc' := 5) dtY_4 rfl rfl (o_st rfl (by first | exact One.u | exact One.val rfl | assumption) rfl) ?_
  dsimp only [List.set_cons_succ, List.set_cons_zero]
  refine s_iconst (x := (0 : Int32)) (pc' := 6) dtY_5 rfl rfl ?_
  refine s_istore (pc' := 8) dtY_6 rfl (o_st rfl (by first | exact One.u | exact One.val rfl | assumption) rfl) ?_
  dsimp only [List.set_cons_succ, List.set_cons_zero]
  exact tYloop G US hn (o_fresh' A.lt gd) gn (by simp) (fun h K D => ⟨d, k, rfl, gd, o_extKeep E1 K (allS gd all0), D⟩) cs.length h1 0 (by omega) rfl (Keep.refl _ _) (A.ext E1) (by simpa [uv, u2] using D1)
def idB : OInfo := ("java/lang/StringUTF16", jdk_52_method_21_code, 7, (some .int), "compress", ({ frames := 0, cells := 0, slots := 0, locals := 0 } : Room))
theorem efdB (x0 : Addr) (x1 : Int32) (x2 : Addr) (x3 : Int32) (x4 : Int32) (m : MethodId) : entryFrame m #[(.ref x0), (.int x1), (.ref x2), (.int x3), (.int x4)] 7 = mkF m 0 #[.val (.ref x0), .val (.int x1), .val (.ref x2), .val (.int x3), .val (.int x4), .unset, .unset] [] := by first | (simp [entryFrame, mkF, argsToLocals, Value.category]; done) | rfl
theorem pddB : parseMethodDescriptor "([CI[BII)I" = some ⟨[(.array .char), .int, (.array .byte), .int, .int], some .int⟩ := by decide +kernel
theorem pndB : plainFor (⟨"java/lang/StringUTF16", "compress", "([CI[BII)I"⟩ : MethodName) = true := by decide +kernel
theorem ddB_0 : decode jdk_52_method_21_code 0 = .ok (.iconst 0, 1) := by decide +kernel
theorem ddB_1 : decode jdk_52_method_21_code 1 = .ok (.istore 5, 2) := by decide +kernel
theorem ddB_3 : decode jdk_52_method_21_code 3 = .ok (.iload 5, 2) := by decide +kernel
theorem ddB_5 : decode jdk_52_method_21_code 5 = .ok (.iload 4, 2) := by decide +kernel
theorem ddB_7 : decode jdk_52_method_21_code 7 = .ok (.if_icmp .ge 37, 3) := by decide +kernel
theorem ddB_10 : decode jdk_52_method_21_code 10 = .ok (.aload_n 0, 1) := by decide +kernel
theorem ddB_11 : decode jdk_52_method_21_code 11 = .ok (.iload_n 1, 1) := by decide +kernel
theorem ddB_12 : decode jdk_52_method_21_code 12 = .ok (.caload, 1) := by decide +kernel
theorem ddB_13 : decode jdk_52_method_21_code 13 = .ok (.istore 6, 2) := by decide +kernel
theorem ddB_15 : decode jdk_52_method_21_code 15 = .ok (.iload 6, 2) := by decide +kernel
theorem ddB_17 : decode jdk_52_method_21_code 17 = .ok (.sipush 255, 3) := by decide +kernel
theorem ddB_20 : decode jdk_52_method_21_code 20 = .ok (.if_icmp .le 6, 3) := by decide +kernel
theorem ddB_23 : decode jdk_52_method_21_code 23 = .ok (.iload 5, 2) := by decide +kernel
theorem ddB_25 : decode jdk_52_method_21_code 25 = .ok (.ireturn, 1) := by decide +kernel
theorem ddB_26 : decode jdk_52_method_21_code 26 = .ok (.aload_n 2, 1) := by decide +kernel
theorem ddB_27 : decode jdk_52_method_21_code 27 = .ok (.iload_n 3, 1) := by decide +kernel
theorem ddB_28 : decode jdk_52_method_21_code 28 = .ok (.iload 6, 2) := by decide +kernel
theorem ddB_30 : decode jdk_52_method_21_code 30 = .ok (.i2b, 1) := by decide +kernel
theorem ddB_31 : decode jdk_52_method_21_code 31 = .ok (.bastore, 1) := by decide +kernel
theorem ddB_32 : decode jdk_52_method_21_code 32 = .ok (.iinc 1 1, 3) := by decide +kernel
theorem ddB_35 : decode jdk_52_method_21_code 35 = .ok (.iinc 3 1, 3) := by decide +kernel
theorem ddB_38 : decode jdk_52_method_21_code 38 = .ok (.iinc 5 1, 3) := by decide +kernel
theorem ddB_41 : decode jdk_52_method_21_code 41 = .ok (.goto (-38), 3) := by decide +kernel
set_option maxRecDepth 65536 in
set_option maxHeartbeats 4000000 in
theorem dBloop {C : OCtx} {Z : State} {n0 : Nat} {ws : List Addr} {Q : Option Value → Heap → Prop} {h0 : Heap} {c d : Addr} {kc kd : ClassId} {cs : List Int32} {dv : Value} {j0 : Nat} {z0 : Int32} (hn : cs.length ≤ 4) (B : Bad cs j0 z0) (hj0 : j0 < cs.length) (gd : n0 ≤ d) (hd : d ∈ ws) (hcd : c ≠ d)
    (fin : ∀ h, Keep h0 h [d] → Q (some (.int (Int32.ofNat j0))) h) (k : Nat) :
    ∀ (h : Heap) (j : Nat) (s6 : Slot), j ≤ j0 → cs.length - j = k → Keep h0 h [d] → Arv Z h c kc .char (Int32.ofNat cs.length) (cs.map .int) dv → Arv Z h d kd .byte (Int32.ofNat cs.length) (bv cs j) (.int 0) → One s6 →
    oRun C Z n0 idB EL1 ws Q h 0 0 (mkF C.m 3 #[.val (.ref c), .val (.int (Int32.ofNat j)), .val (.ref d), .val (.int (Int32.ofNat j)), .val (.int (Int32.ofNat cs.length)), .val (.int (Int32.ofNat j)), s6] []) := by
  induction k using Nat.strongRecOn with
  | _ k ih =>
  intro h j s6 hj hk K A D hs6
  subst hk
  refine s_iload (pc' := 5) ddB_3 rfl rfl ?_
  refine s_iload (pc' := 7) ddB_5 rfl rfl ?_
  refine s_icmp (pc' := 10) (pc'' := 44) ddB_7 rfl (by decide) rfl (fun hc7 => ?_) (fun hc7 => ?_)
  · replace hc7 := b_ge hc7
    exact absurd ((n_lt (by omega) (by omega)).mpr (by omega)) hc7
  · replace hc7 := b_geF hc7
    obtain ⟨z, hz⟩ : ∃ z, cs[j]? = some z := ⟨cs[j]'(by omega), List.getElem?_eq_getElem (by omega)⟩
    refine s_aloadN (pc' := 11) ddB_10 rfl rfl rfl ?_
    refine s_iloadN (pc' := 12) ddB_11 rfl rfl ?_
    refine s_caload A (nn (by omega)) (lt' (by omega) (by omega)) (v := .int z) (by rw [cl (by omega)]; exact cs_get hz _) (pc' := 13) ddB_12 rfl ?_
    refine s_istore (pc' := 15) ddB_13 rfl (o_st rfl (by first | exact One.u | exact One.val rfl | assumption) rfl) ?_
    dsimp only [List.set_cons_succ, List.set_cons_zero]
    refine s_iload (pc' := 17) ddB_15 rfl rfl ?_
    refine s_sipush (x := (255 : Int32)) (pc' := 20) ddB_17 rfl rfl ?_
    refine s_icmp (pc' := 23) (pc'' := 26) ddB_20 rfl (by decide) rfl (fun hc20 => ?_) (fun hc20 => ?_)
    · replace hc20 := b_le hc20
      have hjn : j ≠ j0 := fun q => by subst q; cases B.1.symm.trans hz; exact hc20 B.2.1
      refine s_aloadN (pc' := 27) ddB_26 rfl rfl rfl ?_
      refine s_iloadN (pc' := 28) ddB_27 rfl rfl ?_
      refine s_iload (pc' := 30) ddB_28 rfl rfl ?_
      refine s_i2b (pc' := 31) ddB_30 rfl ?_
      refine s_bastore D gd hd (nn (by omega)) (lt' (by omega) (by omega)) j (cl (by omega)) (by rw [bv_len _ (by omega)]; omega) (pc' := 32) ddB_31 rfl (fun h31 W31 D31 => ?_)
      rw [byt_byt, bv_set hz] at D31
      refine s_iinc (y := (1 : Int32)) (pc' := 35) ddB_32 rfl rfl rfl (o_st rfl (by first | exact One.u | exact One.val rfl | assumption) rfl) ?_
      dsimp only [List.set_cons_succ, List.set_cons_zero]
      rw [n_succ]
      refine s_iinc (y := (1 : Int32)) (pc' := 38) ddB_35 rfl rfl rfl (o_st rfl (by first | exact One.u | exact One.val rfl | assumption) rfl) ?_
      dsimp only [List.set_cons_succ, List.set_cons_zero]
      rw [n_succ]
      refine s_iinc (y := (1 : Int32)) (pc' := 41) ddB_38 rfl rfl rfl (o_st rfl (by first | exact One.u | exact One.val rfl | assumption) rfl) ?_
      dsimp only [List.set_cons_succ, List.set_cons_zero]
      rw [n_succ]
      refine s_goto (pc' := 3) ddB_41 (by decide) rfl ?_
      exact ih (cs.length - (j + 1)) (by omega) h31 (j + 1) _ (by omega) rfl (K.wr W31 (Or.inl (List.mem_cons_self ..))) (A.other W31 hcd) D31 (One.val rfl)
    · replace hc20 := b_leF hc20
      obtain rfl : j = j0 := by
        by_cases q : j = j0
        · exact q
        · exact absurd hc20 (B.2.2 z (List.mem_of_getElem? (i := j) (by rw [List.getElem?_take_of_lt (by omega)]; exact hz))).2
      refine s_iload (pc' := 25) ddB_23 rfl rfl ?_
      exact s_iret rfl ddB_25 (Nat.le_of_ble_eq_true rfl) (Nat.le_of_ble_eq_true rfl) (fin _ K)
set_option maxRecDepth 65536 in
set_option maxHeartbeats 4000000 in
theorem rmdB (l : Launch) {Z : State} {a0 : Array Value} (G : OG Z a0) (n0 : Nat) (c d : Addr) (kc kd : ClassId) (cs : List Int32) (dv : Value) (j0 : Nat) (z0 : Int32) (h0 : Heap) (hn : cs.length ≤ 4) (B : Bad cs j0 z0) (gd : n0 ≤ d) (hcd : c ≠ d) (A : Arv Z h0 c kc .char (Int32.ofNat cs.length) (cs.map .int) dv) (D : Arv Z h0 d kd .byte (Int32.ofNat cs.length) (List.replicate cs.length (.int 0)) (.int 0)) : oCon l Z n0 EL1 [d] (⟨"java/lang/StringUTF16", "compress", "([CI[BII)I"⟩ : MethodName) idB #[.ref c, .int 0, .ref d, .int 0, .int (Int32.ofNat cs.length)] h0 (fun v h => v = some (.int (Int32.ofNat j0)) ∧ Keep h0 h [d]) := by
  obtain ⟨hw, hEL, ⟨cmp, hC, hc0⟩, ⟨fm, hfm, hF⟩⟩ := id G
  refine oCon.mk hEL pndB rfl rfl (efdB c 0 d 0 _) fun C hCl => ?_
  refine s_iconst (x := (0 : Int32)) (pc' := 1) ddB_0 rfl rfl ?_
  refine s_istore (pc' := 3) ddB_1 rfl (o_st rfl (by first | exact One.u | exact One.val rfl | assumption) rfl) ?_
  dsimp only [List.set_cons_succ, List.set_cons_zero]
  exact dBloop hn B (List.getElem?_eq_some_iff.mp B.1).1 gd (List.mem_cons_self ..) hcd (fun h K => ⟨rfl, K⟩) cs.length h0 0 _ (by omega) rfl (Keep.refl _ _) A (by simpa [bv] using D) One.u
def idA : OInfo := ("java/lang/StringUTF16", jdk_52_method_16_code, 6, (some (.array .byte)), "compress", ({ frames := 3, cells := 2, slots := 12, locals := 40 } : Room))
theorem efdA (x0 : Addr) (x1 : Int32) (x2 : Int32) (m : MethodId) : entryFrame m #[(.ref x0), (.int x1), (.int x2)] 6 = mkF m 0 #[.val (.ref x0), .val (.int x1), .val (.int x2), .unset, .unset, .unset] [] := by first | (simp [entryFrame, mkF, argsToLocals, Value.category]; done) | rfl
theorem pddA : parseMethodDescriptor "([CII)[B" = some ⟨[(.array .char), .int, .int], some (.array .byte)⟩ := by decide +kernel
theorem pndA : plainFor (⟨"java/lang/StringUTF16", "compress", "([CII)[B"⟩ : MethodName) = true := by decide +kernel
theorem ddA_0 : decode jdk_52_method_16_code 0 = .ok (.iload_n 2, 1) := by decide +kernel
theorem ddA_1 : decode jdk_52_method_16_code 1 = .ok (.newarray .byte, 2) := by decide +kernel
theorem ddA_3 : decode jdk_52_method_16_code 3 = .ok (.astore_n 3, 1) := by decide +kernel
theorem ddA_4 : decode jdk_52_method_16_code 4 = .ok (.aload_n 0, 1) := by decide +kernel
theorem ddA_5 : decode jdk_52_method_16_code 5 = .ok (.iload_n 1, 1) := by decide +kernel
theorem ddA_6 : decode jdk_52_method_16_code 6 = .ok (.aload_n 3, 1) := by decide +kernel
theorem ddA_7 : decode jdk_52_method_16_code 7 = .ok (.iconst 0, 1) := by decide +kernel
theorem ddA_8 : decode jdk_52_method_16_code 8 = .ok (.iload_n 2, 1) := by decide +kernel
theorem ddA_9 : decode jdk_52_method_16_code 9 = .ok (.invokestatic 115, 3) := by decide +kernel
theorem ddA_12 : decode jdk_52_method_16_code 12 = .ok (.istore 4, 2) := by decide +kernel
theorem ddA_14 : decode jdk_52_method_16_code 14 = .ok (.iload 4, 2) := by decide +kernel
theorem ddA_16 : decode jdk_52_method_16_code 16 = .ok (.iload_n 2, 1) := by decide +kernel
theorem ddA_17 : decode jdk_52_method_16_code 17 = .ok (.if_icmp .eq 40, 3) := by decide +kernel
theorem ddA_20 : decode jdk_52_method_16_code 20 = .ok (.aload_n 0, 1) := by decide +kernel
theorem ddA_21 : decode jdk_52_method_16_code 21 = .ok (.iload_n 1, 1) := by decide +kernel
theorem ddA_22 : decode jdk_52_method_16_code 22 = .ok (.iload_n 2, 1) := by decide +kernel
theorem ddA_23 : decode jdk_52_method_16_code 23 = .ok (.invokestatic 119, 3) := by decide +kernel
theorem ddA_26 : decode jdk_52_method_16_code 26 = .ok (.astore 5, 2) := by decide +kernel
theorem ddA_28 : decode jdk_52_method_16_code 28 = .ok (.aload 5, 2) := by decide +kernel
theorem ddA_30 : decode jdk_52_method_16_code 30 = .ok (.iload 4, 2) := by decide +kernel
theorem ddA_32 : decode jdk_52_method_16_code 32 = .ok (.invokestatic 71, 3) := by decide +kernel
theorem ddA_35 : decode jdk_52_method_16_code 35 = .ok (.sipush 255, 3) := by decide +kernel
theorem ddA_38 : decode jdk_52_method_16_code 38 = .ok (.if_icmp .gt 16, 3) := by decide +kernel
theorem ddA_54 : decode jdk_52_method_16_code 54 = .ok (.aload 5, 2) := by decide +kernel
theorem ddA_56 : decode jdk_52_method_16_code 56 = .ok (.areturn, 1) := by decide +kernel
set_option maxRecDepth 65536 in
set_option maxHeartbeats 4000000 in
theorem rmdA (l : Launch) {Z : State} {a0 : Array Value} (G : OG Z a0) (n0 : Nat) (US : U16S Z) (c : Addr) (kc : ClassId) (cs : List Int32) (dv : Value) (j0 : Nat) (z0 : Int32) (h0 : Heap) (hn : cs.length ≤ 4) (B : Bad cs j0 z0) (hch : C16 cs) (A : Arv Z h0 c kc .char (Int32.ofNat cs.length) (cs.map .int) dv) : oCon l Z n0 EL1 [] (⟨"java/lang/StringUTF16", "compress", "([CII)[B"⟩ : MethodName) idA #[.ref c, .int 0, .int (Int32.ofNat cs.length)] h0 (fun v h => ∃ d k, v = some (.ref d) ∧ h0.size ≤ d ∧ Ext h0 h ∧ Arv Z h d k .byte (Int32.ofNat (2 * cs.length)) (u2 cs) (.int 0)) := by
  obtain ⟨hw, hEL, ⟨cmp, hC, hc0⟩, ⟨fm, hfm, hF⟩⟩ := id G
  have hj0 : j0 < cs.length := (List.getElem?_eq_some_iff.mp B.1).1
  refine oCon.mk hEL pndA rfl rfl (efdA c 0 _) fun C hCl => ?_
  refine s_iloadN (pc' := 1) ddA_0 rfl rfl ?_
  refine s_newA 4 (hw _ (List.mem_of_getElem? (i := 24) rfl)) (pc' := 3) ddA_1 rfl (nn (by omega)) (by rw [cl (by omega)]; exact hn) (by decide) (Nat.le_of_ble_eq_true rfl) (Nat.le_of_ble_eq_true rfl) (fun h1 b1 k1 g1 nb1 E1 A1 => ?_)
  have hcd : c ≠ b1 := o_fresh A.lt g1
  refine s_astoreN (kn := 3) rfl (pc' := 4) ddA_3 rfl rfl (o_st rfl (by first | exact One.u | exact One.val rfl | assumption) rfl) ?_
  dsimp only [List.set_cons_succ, List.set_cons_zero]
  refine s_aloadN (pc' := 5) ddA_4 rfl rfl rfl ?_
  refine s_iloadN (pc' := 6) ddA_5 rfl rfl ?_
  refine s_aloadN (pc' := 7) ddA_6 rfl rfl rfl ?_
  refine s_iconst (x := (0 : Int32)) (pc' := 8) ddA_7 rfl rfl ?_
  refine s_iloadN (pc' := 9) ddA_8 rfl rfl ?_
  refine s_callS5 (rmdB C.l G n0 c b1 kc k1 cs dv j0 z0 h1 hn B nb1 hcd (A.ext E1) (by have q := o_padTo A1 cs.length; rw [List.nil_append] at q; exact q)) (by simp) (hw _ (List.mem_of_getElem? (i := 125) rfl)) (hw _ (List.mem_of_getElem? (i := 126) rfl)) (hw _ (List.mem_of_getElem? (i := 123) rfl)) (hw _ (List.mem_of_getElem? (i := 127) rfl)) (by decide) (o_len pddB rfl) rfl (pc' := 12) ddA_9 rfl (Nat.le_of_ble_eq_true rfl) (Nat.le_of_ble_eq_true rfl) (Nat.le_of_ble_eq_true rfl) (Nat.le_of_ble_eq_true rfl) (fun v9 h9 hQ9 => ?_)
  obtain ⟨rfl, K9⟩ := hQ9
  dsimp only [oPush]
  have X9 := o_extKeep E1 K9 (allS (Nat.le_of_eq g1.symm) all0)
  refine s_istore (pc' := 14) ddA_12 rfl (o_st rfl (by first | exact One.u | exact One.val rfl | assumption) rfl) ?_
  dsimp only [List.set_cons_succ, List.set_cons_zero]
  refine s_iload (pc' := 16) ddA_14 rfl rfl ?_
  refine s_iloadN (pc' := 17) ddA_16 rfl rfl ?_
  refine s_icmp (pc' := 20) (pc'' := 57) ddA_17 rfl (by decide) rfl (fun hc17 => ?_) (fun hc17 => ?_)
  · replace hc17 := b_eq hc17
    exact absurd (n_inj (by omega) (by omega) hc17) (by omega)
  · replace hc17 := b_eqF hc17
    refine s_aloadN (pc' := 21) ddA_20 rfl rfl rfl ?_
    refine s_iloadN (pc' := 22) ddA_21 rfl rfl ?_
    refine s_iloadN (pc' := 23) ddA_22 rfl rfl ?_
    refine s_callS3 (rmtY C.l G n0 US c kc cs dv _ hn ((A.ext E1).keep K9 (ninS hcd nin0))) (by simp) (hw _ (List.mem_of_getElem? (i := 218) rfl)) (hw _ (List.mem_of_getElem? (i := 219) rfl)) (hw _ (List.mem_of_getElem? (i := 123) rfl)) (hw _ (List.mem_of_getElem? (i := 220) rfl)) (by decide) (o_len pdtY rfl) rfl (pc' := 26) ddA_23 rfl (Nat.le_of_ble_eq_true rfl) (Nat.le_of_ble_eq_true rfl) (Nat.le_of_ble_eq_true rfl) (Nat.le_of_ble_eq_true rfl) (fun v23 h23 hQ23 => ?_)
    obtain ⟨d, k, rfl, gd, E23, D23⟩ := hQ23
    dsimp only [oPush]
    refine s_astore (pc' := 28) ddA_26 rfl rfl (o_st rfl (by first | exact One.u | exact One.val rfl | assumption) rfl) ?_
    dsimp only [List.set_cons_succ, List.set_cons_zero]
    refine s_aload (pc' := 30) ddA_28 rfl rfl rfl ?_
    refine s_iload (pc' := 32) ddA_30 rfl rfl ?_
    refine s_callS2 (rmgC C.l G n0 US d k j0 z0 cs _ hn hch B.1 D23) (by simp) (hw _ (List.mem_of_getElem? (i := 234) rfl)) (hw _ (List.mem_of_getElem? (i := 235) rfl)) (hw _ (List.mem_of_getElem? (i := 123) rfl)) (hw _ (List.mem_of_getElem? (i := 236) rfl)) (by decide) (o_len pdgC rfl) rfl (pc' := 35) ddA_32 rfl (Nat.le_of_ble_eq_true rfl) (Nat.le_of_ble_eq_true rfl) (Nat.le_of_ble_eq_true rfl) (Nat.le_of_ble_eq_true rfl) (fun v32 h32 hQ32 => ?_)
    obtain ⟨rfl, rfl⟩ := hQ32
    dsimp only [oPush]
    refine s_sipush (x := (255 : Int32)) (pc' := 38) ddA_35 rfl rfl ?_
    refine s_icmp (pc' := 41) (pc'' := 54) ddA_38 rfl (by decide) rfl (fun hc38 => ?_) (fun hc38 => ?_)
    · replace hc38 := b_gt hc38
      refine s_aload (pc' := 56) ddA_54 rfl rfl rfl ?_
      exact s_aret rfl rfl rfl ddA_56 (Nat.le_of_ble_eq_true rfl) (Nat.le_of_ble_eq_true rfl) ⟨d, k, rfl, Nat.le_trans X9.1 gd, o_ext X9 E23, D23⟩
    · replace hc38 := b_gtF hc38
      exact absurd B.2.1 hc38
def idF : OInfo := ("java/lang/StringUTF16", jdk_52_method_15_code, 2, (some .byte), "coderFromArrayLen", ({ frames := 0, cells := 0, slots := 0, locals := 0 } : Room))
theorem efdF (x0 : Addr) (x1 : Int32) (m : MethodId) : entryFrame m #[(.ref x0), (.int x1)] 2 = mkF m 0 #[.val (.ref x0), .val (.int x1)] [] := by first | (simp [entryFrame, mkF, argsToLocals, Value.category]; done) | rfl
theorem pddF : parseMethodDescriptor "([BI)B" = some ⟨[(.array .byte), .int], some .byte⟩ := by decide +kernel
theorem pndF : plainFor (⟨"java/lang/StringUTF16", "coderFromArrayLen", "([BI)B"⟩ : MethodName) = true := by decide +kernel
theorem ddF_0 : decode jdk_52_method_15_code 0 = .ok (.iload_n 1, 1) := by decide +kernel
theorem ddF_1 : decode jdk_52_method_15_code 1 = .ok (.aload_n 0, 1) := by decide +kernel
theorem ddF_2 : decode jdk_52_method_15_code 2 = .ok (.arraylength, 1) := by decide +kernel
theorem ddF_3 : decode jdk_52_method_15_code 3 = .ok (.isub, 1) := by decide +kernel
theorem ddF_4 : decode jdk_52_method_15_code 4 = .ok (.bipush 31, 2) := by decide +kernel
theorem ddF_6 : decode jdk_52_method_15_code 6 = .ok (.iushr, 1) := by decide +kernel
theorem ddF_7 : decode jdk_52_method_15_code 7 = .ok (.i2b, 1) := by decide +kernel
theorem ddF_8 : decode jdk_52_method_15_code 8 = .ok (.ireturn, 1) := by decide +kernel
set_option maxRecDepth 65536 in
set_option maxHeartbeats 4000000 in
theorem rmdF (l : Launch) {Z : State} {a0 : Array Value} (G : OG Z a0) (n0 : Nat) (d : Addr) (k : ClassId) (n : Nat) (h1 : 0 < n) (hn : n ≤ 4) (vs : List Value) (dv : Value) (h0 : Heap) (A : Arv Z h0 d k .byte (Int32.ofNat (2 * n)) vs dv) : oCon l Z n0 EL1 [] (⟨"java/lang/StringUTF16", "coderFromArrayLen", "([BI)B"⟩ : MethodName) idF #[.ref d, .int (Int32.ofNat n)] h0 (fun v h => v = some (.int 1) ∧ h = h0) := by
  obtain ⟨hw, hEL, ⟨cmp, hC, hc0⟩, ⟨fm, hfm, hF⟩⟩ := id G
  refine oCon.mk hEL pndF rfl rfl (efdF d _) fun C hCl => ?_
  refine s_iloadN (pc' := 1) ddF_0 rfl rfl ?_
  refine s_aloadN (pc' := 2) ddF_1 rfl rfl rfl ?_
  refine s_alen A (pc' := 3) ddF_2 rfl ?_
  refine s_isub (pc' := 4) ddF_3 rfl ?_
  refine s_bipush (x := (31 : Int32)) (pc' := 6) ddF_4 rfl rfl ?_
  refine s_iushr (pc' := 7) ddF_6 rfl ?_
  refine s_i2b (pc' := 8) ddF_7 rfl ?_
  exact s_nret (t := .byte) rfl (by simp) ddF_8 (Nat.le_of_ble_eq_true rfl) (Nat.le_of_ble_eq_true rfl) ⟨by rw [f_cf h1 (by omega)], rfl⟩
def idV : OInfo := ("java/lang/String", jdk_42_method_149_code, 6, none, "<init>", ({ frames := 4, cells := 2, slots := 12, locals := 57 } : Room))
theorem pddV : parseMethodDescriptor "([CIILjava/lang/Void;)V" = some ⟨[(.array .char), .int, .int, (.object "java/lang/Void")], none⟩ := by decide +kernel
theorem pndV : plainFor (⟨"java/lang/String", "<init>", "([CIILjava/lang/Void;)V"⟩ : MethodName) = true := by decide +kernel
theorem ddV_0 : decode jdk_42_method_149_code 0 = .ok (.aload_n 0, 1) := by decide +kernel
theorem ddV_1 : decode jdk_42_method_149_code 1 = .ok (.invokespecial 1, 3) := by decide +kernel
theorem ddV_4 : decode jdk_42_method_149_code 4 = .ok (.iload_n 3, 1) := by decide +kernel
theorem ddV_5 : decode jdk_42_method_149_code 5 = .ok (.ifCond .ne 22, 3) := by decide +kernel
theorem ddV_27 : decode jdk_42_method_149_code 27 = .ok (.getstatic 38, 3) := by decide +kernel
theorem ddV_30 : decode jdk_42_method_149_code 30 = .ok (.ifCond .eq 28, 3) := by decide +kernel
theorem ddV_33 : decode jdk_42_method_149_code 33 = .ok (.aload_n 1, 1) := by decide +kernel
theorem ddV_34 : decode jdk_42_method_149_code 34 = .ok (.iload_n 2, 1) := by decide +kernel
theorem ddV_35 : decode jdk_42_method_149_code 35 = .ok (.iload_n 3, 1) := by decide +kernel
theorem ddV_36 : decode jdk_42_method_149_code 36 = .ok (.invokestatic 177, 3) := by decide +kernel
theorem ddV_39 : decode jdk_42_method_149_code 39 = .ok (.astore 5, 2) := by decide +kernel
theorem ddV_41 : decode jdk_42_method_149_code 41 = .ok (.aload_n 0, 1) := by decide +kernel
theorem ddV_42 : decode jdk_42_method_149_code 42 = .ok (.aload 5, 2) := by decide +kernel
theorem ddV_44 : decode jdk_42_method_149_code 44 = .ok (.iload_n 3, 1) := by decide +kernel
theorem ddV_45 : decode jdk_42_method_149_code 45 = .ok (.invokestatic 47, 3) := by decide +kernel
theorem ddV_48 : decode jdk_42_method_149_code 48 = .ok (.putfield 15, 3) := by decide +kernel
theorem ddV_51 : decode jdk_42_method_149_code 51 = .ok (.aload_n 0, 1) := by decide +kernel
theorem ddV_52 : decode jdk_42_method_149_code 52 = .ok (.aload 5, 2) := by decide +kernel
theorem ddV_54 : decode jdk_42_method_149_code 54 = .ok (.putfield 9, 3) := by decide +kernel
theorem ddV_57 : decode jdk_42_method_149_code 57 = .ok (.return_, 1) := by decide +kernel
set_option maxRecDepth 65536 in
set_option maxHeartbeats 4000000 in
theorem rmdV (l : Launch) {Z : State} {a0 : Array Value} (G : OG Z a0) (n0 : Nat) (US : U16S Z) (a c : Addr) (kc : ClassId) (cs : List Int32) (dv : Value) (j0 : Nat) (z0 : Int32) (h0 : Heap) (hn : cs.length ≤ 4) (B : Bad cs j0 z0) (hch : C16 cs) (A : Arv Z h0 c kc .char (Int32.ofNat cs.length) (cs.map .int) dv) (E : Exa Z h0 a "java/lang/String") (F1 : Fld Z h0 a "java/lang/String" "value" "[B" .null) (F2 : Fld Z h0 a "java/lang/String" "coder" "B" (.int 0)) (ga : n0 ≤ a) : oCon l Z n0 EL1 [a] (⟨"java/lang/String", "<init>", "([CIILjava/lang/Void;)V"⟩ : MethodName) idV #[.ref a, .ref c, .int 0, .int (Int32.ofNat cs.length), .null] h0 (fun v h => v = none ∧ Keep h0 h [a] ∧ WV Z h h.size a cs) := by
  obtain ⟨hw, hEL, ⟨cmp, hC, hc0⟩, ⟨fm, hfm, hF⟩⟩ := id G
  have hj0 : j0 < cs.length := (List.getElem?_eq_some_iff.mp B.1).1
  refine oCon.mk hEL pndV rfl rfl (efsV a c 0 _) fun C hCl => ?_
  refine s_aloadN (pc' := 1) ddV_0 rfl rfl rfl ?_
  refine s_initO (hw _ (List.mem_of_getElem? (i := 20) rfl)) (hw _ (List.mem_of_getElem? (i := 21) rfl)) (hw _ (List.mem_of_getElem? (i := 22) rfl)) rfl (pc' := 4) ddV_1 rfl (Nat.le_of_ble_eq_true rfl) (Nat.le_of_ble_eq_true rfl) ?_
  refine s_iloadN (pc' := 5) ddV_4 rfl rfl ?_
  refine s_if (pc' := 8) (pc'' := 27) ddV_5 rfl (by decide) rfl (fun hc5 => ?_) (fun hc5 => ?_)
  · replace hc5 := b_ne hc5
    refine s_getS hC (hw _ (List.mem_of_getElem? (i := 52) rfl)) Via.refl (pc' := 30) ddV_27 rfl ?_
    refine s_if (pc' := 33) (pc'' := 58) ddV_30 rfl (by decide) rfl (fun hc30 => ?_) (fun hc30 => ?_)
    · replace hc30 := b_eq hc30
      exact absurd hc30 hc0
    · replace hc30 := b_eqF hc30
      refine s_aloadN (pc' := 34) ddV_33 rfl rfl rfl ?_
      refine s_iloadN (pc' := 35) ddV_34 rfl rfl ?_
      refine s_iloadN (pc' := 36) ddV_35 rfl rfl ?_
      refine s_callS3 (rmdA C.l G n0 US c kc cs dv j0 z0 h0 hn B hch A) (by simp) (hw _ (List.mem_of_getElem? (i := 121) rfl)) (hw _ (List.mem_of_getElem? (i := 122) rfl)) (hw _ (List.mem_of_getElem? (i := 123) rfl)) (hw _ (List.mem_of_getElem? (i := 124) rfl)) (by decide) (o_len pddA rfl) rfl (pc' := 39) ddV_36 rfl (Nat.le_of_ble_eq_true rfl) (Nat.le_of_ble_eq_true rfl) (Nat.le_of_ble_eq_true rfl) (Nat.le_of_ble_eq_true rfl) (fun v36 h36 hQ36 => ?_)
      obtain ⟨d, kd, rfl, gd, E36, D36⟩ := hQ36
      dsimp only [oPush]
      have had : a ≠ d := o_fresh' E.lt gd
      refine s_astore (pc' := 41) ddV_39 rfl rfl (o_st rfl (by first | exact One.u | exact One.val rfl | assumption) rfl) ?_
      dsimp only [List.set_cons_succ, List.set_cons_zero]
      refine s_aloadN (pc' := 42) ddV_41 rfl rfl rfl ?_
      refine s_aload (pc' := 44) ddV_42 rfl rfl rfl ?_
      refine s_iloadN (pc' := 45) ddV_44 rfl rfl ?_
      refine s_callS2 (rmdF C.l G n0 d kd cs.length (by omega) hn _ _ h36 D36) (by simp) (hw _ (List.mem_of_getElem? (i := 128) rfl)) (hw _ (List.mem_of_getElem? (i := 129) rfl)) (hw _ (List.mem_of_getElem? (i := 123) rfl)) (hw _ (List.mem_of_getElem? (i := 130) rfl)) (by decide) (o_len pddF rfl) rfl (pc' := 48) ddV_45 rfl (Nat.le_of_ble_eq_true rfl) (Nat.le_of_ble_eq_true rfl) (Nat.le_of_ble_eq_true rfl) (Nat.le_of_ble_eq_true rfl) (fun v45 h45 hQ45 => ?_)
      obtain ⟨rfl, rfl⟩ := hQ45
      dsimp only [oPush]
      refine s_putF (F2.ext E36) (E.ext E36) ga (by simp) (host := "") (Or.inl (hw _ (List.mem_of_getElem? (i := 30) rfl))) Via.refl (Or.inr ⟨(hw _ (List.mem_of_getElem? (i := 26) rfl)), rfl, rfl⟩) (hw _ (List.mem_of_getElem? (i := 10) rfl)) (ty := .byte) (by decide) rfl rfl (pc' := 51) ddV_48 rfl (fun h48 W48 => ?_)
      refine s_aloadN (pc' := 52) ddV_51 rfl rfl rfl ?_
      refine s_aload (pc' := 54) ddV_52 rfl rfl rfl ?_
      refine s_putF ((F1.ext E36).other W48 (Or.inr (slot_ne (Or.inr (hw _ (List.mem_of_getElem? (i := 25) rfl))) (Or.inr (hw _ (List.mem_of_getElem? (i := 26) rfl))) (by decide) (t := .array .byte) (t' := .byte) (by decide) (by decide)))) ((E.ext E36).wr W48) ga (by simp) (host := "") (Or.inl (hw _ (List.mem_of_getElem? (i := 29) rfl))) Via.refl (Or.inr ⟨(hw _ (List.mem_of_getElem? (i := 25) rfl)), rfl, rfl⟩) (hw _ (List.mem_of_getElem? (i := 10) rfl)) (ty := (.array .byte)) (by decide) rfl rfl (pc' := 57) ddV_54 rfl (fun h54 W54 => ?_)
      exact s_ret rfl ddV_57 (Nat.le_of_ble_eq_true rfl) (Nat.le_of_ble_eq_true rfl) ⟨rfl, o_kext E36 ((Keep.of_wr W48).wr W54 (Or.inl (List.mem_cons_self ..))), d, kd, (((E.ext E36).wr W48).wr W54).lt, ((D36.other W48 had.symm).other W54 had.symm).lt, ((E.ext E36).wr W48).wr W54, ((F1.ext E36).other W48 (Or.inr (slot_ne (Or.inr (hw _ (List.mem_of_getElem? (i := 25) rfl))) (Or.inr (hw _ (List.mem_of_getElem? (i := 26) rfl))) (by decide) (t := .array .byte) (t' := .byte) (by decide) (by decide)))).same W54, ((F2.ext E36).same W48).other W54 (Or.inr (slot_ne (Or.inr (hw _ (List.mem_of_getElem? (i := 26) rfl))) (Or.inr (hw _ (List.mem_of_getElem? (i := 25) rfl))) (by decide) (t := .byte) (t' := .array .byte) (by decide) (by decide))), (D36.other W48 had.symm).other W54 had.symm⟩
  · replace hc5 := b_neF hc5
    exact absurd (n_inj (b := 0) (by omega) (by omega) hc5) (by omega)
def idC : OInfo := ("java/lang/String", jdk_42_method_3_code, 2, none, "<init>", ({ frames := 5, cells := 2, slots := 12, locals := 74 } : Room))
theorem efdC (x0 : Addr) (x1 : Addr) (m : MethodId) : entryFrame m #[(.ref x0), (.ref x1)] 2 = mkF m 0 #[.val (.ref x0), .val (.ref x1)] [] := by first | (simp [entryFrame, mkF, argsToLocals, Value.category]; done) | rfl
theorem pddC : parseMethodDescriptor "([C)V" = some ⟨[(.array .char)], none⟩ := by decide +kernel
theorem pndC : plainFor (⟨"java/lang/String", "<init>", "([C)V"⟩ : MethodName) = true := by decide +kernel
theorem ddC_0 : decode jdk_42_method_3_code 0 = .ok (.aload_n 0, 1) := by decide +kernel
theorem ddC_1 : decode jdk_42_method_3_code 1 = .ok (.aload_n 1, 1) := by decide +kernel
theorem ddC_2 : decode jdk_42_method_3_code 2 = .ok (.iconst 0, 1) := by decide +kernel
theorem ddC_3 : decode jdk_42_method_3_code 3 = .ok (.aload_n 1, 1) := by decide +kernel
theorem ddC_4 : decode jdk_42_method_3_code 4 = .ok (.arraylength, 1) := by decide +kernel
theorem ddC_5 : decode jdk_42_method_3_code 5 = .ok (.aconst_null, 1) := by decide +kernel
theorem ddC_6 : decode jdk_42_method_3_code 6 = .ok (.invokespecial 27, 3) := by decide +kernel
theorem ddC_9 : decode jdk_42_method_3_code 9 = .ok (.return_, 1) := by decide +kernel
set_option maxRecDepth 65536 in
set_option maxHeartbeats 4000000 in
theorem rmdC (l : Launch) {Z : State} {a0 : Array Value} (G : OG Z a0) (n0 : Nat) (US : U16S Z) (a c : Addr) (kc : ClassId) (cs : List Int32) (dv : Value) (j0 : Nat) (z0 : Int32) (h0 : Heap) (hn : cs.length ≤ 4) (B : Bad cs j0 z0) (hch : C16 cs) (A : Arv Z h0 c kc .char (Int32.ofNat cs.length) (cs.map .int) dv) (E : Exa Z h0 a "java/lang/String") (F1 : Fld Z h0 a "java/lang/String" "value" "[B" .null) (F2 : Fld Z h0 a "java/lang/String" "coder" "B" (.int 0)) (ga : n0 ≤ a) : oCon l Z n0 EL1 [a] (⟨"java/lang/String", "<init>", "([C)V"⟩ : MethodName) idC #[.ref a, .ref c] h0 (fun v h => v = none ∧ Keep h0 h [a] ∧ WV Z h h.size a cs) := by
  obtain ⟨hw, hEL, ⟨cmp, hC, hc0⟩, ⟨fm, hfm, hF⟩⟩ := id G
  refine oCon.mk hEL pndC rfl rfl (efdC a c) fun C hCl => ?_
  refine s_aloadN (pc' := 1) ddC_0 rfl rfl rfl ?_
  refine s_aloadN (pc' := 2) ddC_1 rfl rfl rfl ?_
  refine s_iconst (x := (0 : Int32)) (pc' := 3) ddC_2 rfl rfl ?_
  refine s_aloadN (pc' := 4) ddC_3 rfl rfl rfl ?_
  refine s_alen A (pc' := 5) ddC_4 rfl ?_
  refine s_null (pc' := 6) ddC_5 rfl ?_
  refine s_callI4 (rmdV C.l G n0 US a c kc cs dv j0 z0 h0 hn B hch A E F1 F2 ga) (by simp) rfl rfl (hw _ (List.mem_of_getElem? (i := 16) rfl)) (hw _ (List.mem_of_getElem? (i := 17) rfl)) (hw _ (List.mem_of_getElem? (i := 11) rfl)) (hw _ (List.mem_of_getElem? (i := 19) rfl)) (by decide) (o_len pddV rfl) rfl (pc' := 9) ddC_6 rfl (Nat.le_of_ble_eq_true rfl) (Nat.le_of_ble_eq_true rfl) (Nat.le_of_ble_eq_true rfl) (Nat.le_of_ble_eq_true rfl) (fun v6 h6 hQ6 => ?_)
  obtain ⟨rfl, q1, q2⟩ := hQ6
  dsimp only [oPush]
  exact s_ret rfl ddC_9 (Nat.le_of_ble_eq_true rfl) (Nat.le_of_ble_eq_true rfl) ⟨rfl, q1, q2⟩
def ikU : OInfo := ("java/lang/String", jdk_42_method_152_code, 1, (some .byte), "coder", ({ frames := 0, cells := 0, slots := 0, locals := 0 } : Room))
theorem efkU (x0 : Addr) (m : MethodId) : entryFrame m #[(.ref x0)] 1 = mkF m 0 #[.val (.ref x0)] [] := by first | (simp [entryFrame, mkF, argsToLocals, Value.category]; done) | rfl
theorem pdkU : parseMethodDescriptor "()B" = some ⟨[], some .byte⟩ := by decide +kernel
theorem pnkU : plainFor (⟨"java/lang/String", "coder", "()B"⟩ : MethodName) = true := by decide +kernel
theorem dkU_0 : decode jdk_42_method_152_code 0 = .ok (.getstatic 38, 3) := by decide +kernel
theorem dkU_3 : decode jdk_42_method_152_code 3 = .ok (.ifCond .eq 10, 3) := by decide +kernel
theorem dkU_6 : decode jdk_42_method_152_code 6 = .ok (.aload_n 0, 1) := by decide +kernel
theorem dkU_7 : decode jdk_42_method_152_code 7 = .ok (.getfield 15, 3) := by decide +kernel
theorem dkU_10 : decode jdk_42_method_152_code 10 = .ok (.goto 4, 3) := by decide +kernel
theorem dkU_14 : decode jdk_42_method_152_code 14 = .ok (.ireturn, 1) := by decide +kernel
set_option maxRecDepth 65536 in
set_option maxHeartbeats 4000000 in
theorem rmkU (l : Launch) {Z : State} {a0 : Array Value} (G : OG Z a0) (n0 : Nat) (a : Addr) (r : Int32) (h0 : Heap) (hr : r = 0 ∨ r = 1) (C1 : Fld Z h0 a "java/lang/String" "coder" "B" (.int r)) : oCon l Z n0 EL1 [] (⟨"java/lang/String", "coder", "()B"⟩ : MethodName) ikU #[.ref a] h0 (fun v h => v = some (.int r) ∧ h = h0) := by
  obtain ⟨hw, hEL, ⟨cmp, hC, hc0⟩, ⟨fm, hfm, hF⟩⟩ := id G
  refine oCon.mk hEL pnkU rfl rfl (efkU a) fun C hCl => ?_
  refine s_getS hC (hw _ (List.mem_of_getElem? (i := 52) rfl)) Via.refl (pc' := 3) dkU_0 rfl ?_
  refine s_if (pc' := 6) (pc'' := 13) dkU_3 rfl (by decide) rfl (fun hc3 => ?_) (fun hc3 => ?_)
  · replace hc3 := b_eq hc3
    exact absurd hc3 hc0
  · replace hc3 := b_eqF hc3
    refine s_aloadN (pc' := 7) dkU_6 rfl rfl rfl ?_
    refine s_getF C1 (host := "") (Or.inl (hw _ (List.mem_of_getElem? (i := 30) rfl))) Via.refl (pc' := 10) dkU_7 rfl ?_
    refine s_goto (pc' := 14) dkU_10 (by decide) rfl ?_
    exact s_nret (t := .byte) rfl (by simp) dkU_14 (Nat.le_of_ble_eq_true rfl) (Nat.le_of_ble_eq_true rfl) ⟨by rcases hr with rfl | rfl <;> rfl, rfl⟩
def iuS : OInfo := ("java/lang/String", jdk_42_method_54_code, 1, (some .int), "length", ({ frames := 1, cells := 0, slots := 0, locals := 13 } : Room))
theorem efuS (x0 : Addr) (m : MethodId) : entryFrame m #[(.ref x0)] 1 = mkF m 0 #[.val (.ref x0)] [] := by first | (simp [entryFrame, mkF, argsToLocals, Value.category]; done) | rfl
theorem pduS : parseMethodDescriptor "()I" = some ⟨[], some .int⟩ := by decide +kernel
theorem pnuS : plainFor (⟨"java/lang/String", "length", "()I"⟩ : MethodName) = true := by decide +kernel
theorem duS_0 : decode jdk_42_method_54_code 0 = .ok (.aload_n 0, 1) := by decide +kernel
theorem duS_1 : decode jdk_42_method_54_code 1 = .ok (.getfield 9, 3) := by decide +kernel
theorem duS_4 : decode jdk_42_method_54_code 4 = .ok (.arraylength, 1) := by decide +kernel
theorem duS_5 : decode jdk_42_method_54_code 5 = .ok (.aload_n 0, 1) := by decide +kernel
theorem duS_6 : decode jdk_42_method_54_code 6 = .ok (.invokevirtual 335, 3) := by decide +kernel
theorem duS_9 : decode jdk_42_method_54_code 9 = .ok (.ishr, 1) := by decide +kernel
theorem duS_10 : decode jdk_42_method_54_code 10 = .ok (.ireturn, 1) := by decide +kernel
set_option maxRecDepth 65536 in
set_option maxHeartbeats 4000000 in
theorem rmuS (l : Launch) {Z : State} {a0 : Array Value} (G : OG Z a0) (n0 : Nat) (a : Addr) (N : Nat) (cs : List Int32) (h0 : Heap) (hn : cs.length ≤ 4) (H : UV Z h0 N a cs) : oCon l Z n0 EL1 [] (⟨"java/lang/String", "length", "()I"⟩ : MethodName) iuS #[.ref a] h0 (fun v h => v = some (.int (Int32.ofNat cs.length)) ∧ h = h0) := by
  obtain ⟨hw, hEL, ⟨cmp, hC, hc0⟩, ⟨fm, hfm, hF⟩⟩ := id G
  obtain ⟨b, k, -, -, E1, V1, hh⟩ := H
  refine oCon.mk hEL pnuS rfl rfl (efuS a) fun C hCl => ?_
  rcases hh with ⟨C1, hc8, A1⟩ | ⟨C1, A1⟩
  · skip
    refine s_aloadN (pc' := 1) duS_0 rfl rfl rfl ?_
    refine s_getF V1 (host := "") (Or.inl (hw _ (List.mem_of_getElem? (i := 29) rfl))) Via.refl (pc' := 4) duS_1 rfl ?_
    refine s_alen A1 (pc' := 5) duS_4 rfl ?_
    refine s_aloadN (pc' := 6) duS_5 rfl rfl rfl ?_
    refine s_callV0 (rmkU C.l G n0 a 0 h0 (by decide) C1) (by simp) E1 (hw _ (List.mem_of_getElem? (i := 47) rfl)) (hw _ (List.mem_of_getElem? (i := 48) rfl)) (hw _ (List.mem_of_getElem? (i := 50) rfl)) (hw _ (List.mem_of_getElem? (i := 49) rfl)) (o_nf (hw _ (List.mem_of_getElem? (i := 50) rfl)) rfl) (hw _ (List.mem_of_getElem? (i := 11) rfl)) (hw _ (List.mem_of_getElem? (i := 51) rfl)) (by decide) (o_len pdkU rfl) rfl (pc' := 9) duS_6 rfl (Nat.le_of_ble_eq_true rfl) (Nat.le_of_ble_eq_true rfl) (Nat.le_of_ble_eq_true rfl) (Nat.le_of_ble_eq_true rfl) (fun v6 h6 hQ6 => ?_)
    obtain ⟨rfl, rfl⟩ := hQ6
    dsimp only [oPush]
    refine s_ishr (pc' := 10) duS_9 rfl ?_
    exact s_iret rfl duS_10 (Nat.le_of_ble_eq_true rfl) (Nat.le_of_ble_eq_true rfl) ⟨by rw [shr_zero], rfl⟩
  · skip
    refine s_aloadN (pc' := 1) duS_0 rfl rfl rfl ?_
    refine s_getF V1 (host := "") (Or.inl (hw _ (List.mem_of_getElem? (i := 29) rfl))) Via.refl (pc' := 4) duS_1 rfl ?_
    refine s_alen A1 (pc' := 5) duS_4 rfl ?_
    refine s_aloadN (pc' := 6) duS_5 rfl rfl rfl ?_
    refine s_callV0 (rmkU C.l G n0 a 1 h0 (by decide) C1) (by simp) E1 (hw _ (List.mem_of_getElem? (i := 47) rfl)) (hw _ (List.mem_of_getElem? (i := 48) rfl)) (hw _ (List.mem_of_getElem? (i := 50) rfl)) (hw _ (List.mem_of_getElem? (i := 49) rfl)) (o_nf (hw _ (List.mem_of_getElem? (i := 50) rfl)) rfl) (hw _ (List.mem_of_getElem? (i := 11) rfl)) (hw _ (List.mem_of_getElem? (i := 51) rfl)) (by decide) (o_len pdkU rfl) rfl (pc' := 9) duS_6 rfl (Nat.le_of_ble_eq_true rfl) (Nat.le_of_ble_eq_true rfl) (Nat.le_of_ble_eq_true rfl) (Nat.le_of_ble_eq_true rfl) (fun v6 h6 hQ6 => ?_)
    obtain ⟨rfl, rfl⟩ := hQ6
    dsimp only [oPush]
    refine s_ishr (pc' := 10) duS_9 rfl ?_
    exact s_iret rfl duS_10 (Nat.le_of_ble_eq_true rfl) (Nat.le_of_ble_eq_true rfl) ⟨by rw [f_shr (by omega)], rfl⟩
def iiU : OInfo := ("java/lang/String", jdk_42_method_154_code, 1, (some .boolean), "isLatin1", ({ frames := 0, cells := 0, slots := 0, locals := 0 } : Room))
theorem efiU (x0 : Addr) (m : MethodId) : entryFrame m #[(.ref x0)] 1 = mkF m 0 #[.val (.ref x0)] [] := by first | (simp [entryFrame, mkF, argsToLocals, Value.category]; done) | rfl
theorem pdiU : parseMethodDescriptor "()Z" = some ⟨[], some .boolean⟩ := by decide +kernel
theorem pniU : plainFor (⟨"java/lang/String", "isLatin1", "()Z"⟩ : MethodName) = true := by decide +kernel
theorem diU_0 : decode jdk_42_method_154_code 0 = .ok (.getstatic 38, 3) := by decide +kernel
theorem diU_3 : decode jdk_42_method_154_code 3 = .ok (.ifCond .eq 14, 3) := by decide +kernel
theorem diU_6 : decode jdk_42_method_154_code 6 = .ok (.aload_n 0, 1) := by decide +kernel
theorem diU_7 : decode jdk_42_method_154_code 7 = .ok (.getfield 15, 3) := by decide +kernel
theorem diU_10 : decode jdk_42_method_154_code 10 = .ok (.ifCond .ne 7, 3) := by decide +kernel
theorem diU_13 : decode jdk_42_method_154_code 13 = .ok (.iconst 1, 1) := by decide +kernel
theorem diU_14 : decode jdk_42_method_154_code 14 = .ok (.goto 4, 3) := by decide +kernel
theorem diU_17 : decode jdk_42_method_154_code 17 = .ok (.iconst 0, 1) := by decide +kernel
theorem diU_18 : decode jdk_42_method_154_code 18 = .ok (.ireturn, 1) := by decide +kernel
set_option maxRecDepth 65536 in
set_option maxHeartbeats 4000000 in
theorem rmiU (l : Launch) {Z : State} {a0 : Array Value} (G : OG Z a0) (n0 : Nat) (a : Addr) (r q : Int32) (h0 : Heap) (hr : (r = 0 ∧ q = 1) ∨ (r = 1 ∧ q = 0)) (C1 : Fld Z h0 a "java/lang/String" "coder" "B" (.int r)) : oCon l Z n0 EL1 [] (⟨"java/lang/String", "isLatin1", "()Z"⟩ : MethodName) iiU #[.ref a] h0 (fun v h => v = some (.int q) ∧ h = h0) := by
  obtain ⟨hw, hEL, ⟨cmp, hC, hc0⟩, ⟨fm, hfm, hF⟩⟩ := id G
  refine oCon.mk hEL pniU rfl rfl (efiU a) fun C hCl => ?_
  refine s_getS hC (hw _ (List.mem_of_getElem? (i := 52) rfl)) Via.refl (pc' := 3) diU_0 rfl ?_
  refine s_if (pc' := 6) (pc'' := 17) diU_3 rfl (by decide) rfl (fun hc3 => ?_) (fun hc3 => ?_)
  · replace hc3 := b_eq hc3
    exact absurd hc3 hc0
  · replace hc3 := b_eqF hc3
    refine s_aloadN (pc' := 7) diU_6 rfl rfl rfl ?_
    refine s_getF C1 (host := "") (Or.inl (hw _ (List.mem_of_getElem? (i := 30) rfl))) Via.refl (pc' := 10) diU_7 rfl ?_
    refine s_if (pc' := 13) (pc'' := 17) diU_10 rfl (by decide) rfl (fun hc10 => ?_) (fun hc10 => ?_)
    · replace hc10 := b_ne hc10
      refine s_iconst (x := (0 : Int32)) (pc' := 18) diU_17 rfl rfl ?_
      exact s_nret (t := .boolean) rfl (by simp) diU_18 (Nat.le_of_ble_eq_true rfl) (Nat.le_of_ble_eq_true rfl) ⟨by rcases hr with ⟨rfl, rfl⟩ | ⟨rfl, rfl⟩ <;> first | rfl | exact absurd rfl hc10 | exact absurd hc10 (by decide), rfl⟩
    · replace hc10 := b_neF hc10
      refine s_iconst (x := (1 : Int32)) (pc' := 14) diU_13 rfl rfl ?_
      refine s_goto (pc' := 18) diU_14 (by decide) rfl ?_
      exact s_nret (t := .boolean) rfl (by simp) diU_18 (Nat.le_of_ble_eq_true rfl) (Nat.le_of_ble_eq_true rfl) ⟨by rcases hr with ⟨rfl, rfl⟩ | ⟨rfl, rfl⟩ <;> first | rfl | exact absurd rfl hc10 | exact absurd hc10 (by decide), rfl⟩
def iuL : OInfo := ("java/lang/StringUTF16", jdk_52_method_6_code, 1, (some .int), "length", ({ frames := 0, cells := 0, slots := 0, locals := 0 } : Room))
theorem efuL (x0 : Addr) (m : MethodId) : entryFrame m #[(.ref x0)] 1 = mkF m 0 #[.val (.ref x0)] [] := by first | (simp [entryFrame, mkF, argsToLocals, Value.category]; done) | rfl
theorem pduL : parseMethodDescriptor "([B)I" = some ⟨[(.array .byte)], some .int⟩ := by decide +kernel
theorem pnuL : plainFor (⟨"java/lang/StringUTF16", "length", "([B)I"⟩ : MethodName) = true := by decide +kernel
theorem duL_0 : decode jdk_52_method_6_code 0 = .ok (.aload_n 0, 1) := by decide +kernel
theorem duL_1 : decode jdk_52_method_6_code 1 = .ok (.arraylength, 1) := by decide +kernel
theorem duL_2 : decode jdk_52_method_6_code 2 = .ok (.iconst 1, 1) := by decide +kernel
theorem duL_3 : decode jdk_52_method_6_code 3 = .ok (.ishr, 1) := by decide +kernel
theorem duL_4 : decode jdk_52_method_6_code 4 = .ok (.ireturn, 1) := by decide +kernel
set_option maxRecDepth 65536 in
set_option maxHeartbeats 4000000 in
theorem rmuL (l : Launch) {Z : State} {a0 : Array Value} (G : OG Z a0) (n0 : Nat) (d : Addr) (k : ClassId) (n : Nat) (hn : n ≤ 4) (vs : List Value) (dv : Value) (h0 : Heap) (A : Arv Z h0 d k .byte (Int32.ofNat (2 * n)) vs dv) : oCon l Z n0 EL1 [] (⟨"java/lang/StringUTF16", "length", "([B)I"⟩ : MethodName) iuL #[.ref d] h0 (fun v h => v = some (.int (Int32.ofNat n)) ∧ h = h0) := by
  obtain ⟨hw, hEL, ⟨cmp, hC, hc0⟩, ⟨fm, hfm, hF⟩⟩ := id G
  refine oCon.mk hEL pnuL rfl rfl (efuL d) fun C hCl => ?_
  refine s_aloadN (pc' := 1) duL_0 rfl rfl rfl ?_
  refine s_alen A (pc' := 2) duL_1 rfl ?_
  refine s_iconst (x := (1 : Int32)) (pc' := 3) duL_2 rfl rfl ?_
  refine s_ishr (pc' := 4) duL_3 rfl ?_
  exact s_iret rfl duL_4 (Nat.le_of_ble_eq_true rfl) (Nat.le_of_ble_eq_true rfl) ⟨by rw [f_shr (by omega)], rfl⟩
def iuX : OInfo := ("java/lang/StringUTF16", jdk_52_method_91_code, 2, none, "checkIndex", ({ frames := 2, cells := 0, slots := 0, locals := 27 } : Room))
theorem efuX (x0 : Int32) (x1 : Addr) (m : MethodId) : entryFrame m #[(.int x0), (.ref x1)] 2 = mkF m 0 #[.val (.int x0), .val (.ref x1)] [] := by first | (simp [entryFrame, mkF, argsToLocals, Value.category]; done) | rfl
theorem pduX : parseMethodDescriptor "(I[B)V" = some ⟨[.int, (.array .byte)], none⟩ := by decide +kernel
theorem pnuX : plainFor (⟨"java/lang/StringUTF16", "checkIndex", "(I[B)V"⟩ : MethodName) = true := by decide +kernel
theorem duX_0 : decode jdk_52_method_91_code 0 = .ok (.iload_n 0, 1) := by decide +kernel
theorem duX_1 : decode jdk_52_method_91_code 1 = .ok (.aload_n 1, 1) := by decide +kernel
theorem duX_2 : decode jdk_52_method_91_code 2 = .ok (.invokestatic 48, 3) := by decide +kernel
theorem duX_5 : decode jdk_52_method_91_code 5 = .ok (.invokestatic 414, 3) := by decide +kernel
theorem duX_8 : decode jdk_52_method_91_code 8 = .ok (.return_, 1) := by decide +kernel
set_option maxRecDepth 65536 in
set_option maxHeartbeats 4000000 in
theorem rmuX (l : Launch) {Z : State} {a0 : Array Value} (G : OG Z a0) (n0 : Nat) (d : Addr) (k : ClassId) (n : Nat) (hn : n ≤ 4) (vs : List Value) (dv : Value) (i : Int32) (h0 : Heap) (hi0 : ¬ i < 0) (hi5 : i < Int32.ofNat n) (A : Arv Z h0 d k .byte (Int32.ofNat (2 * n)) vs dv) : oCon l Z n0 EL1 [] (⟨"java/lang/StringUTF16", "checkIndex", "(I[B)V"⟩ : MethodName) iuX #[.int i, .ref d] h0 (fun v h => v = none ∧ h = h0) := by
  obtain ⟨hw, hEL, ⟨cmp, hC, hc0⟩, ⟨fm, hfm, hF⟩⟩ := id G
  refine oCon.mk hEL pnuX rfl rfl (efuX i d) fun C hCl => ?_
  refine s_iloadN (pc' := 1) duX_0 rfl rfl ?_
  refine s_aloadN (pc' := 2) duX_1 rfl rfl rfl ?_
  refine s_callS1 (rmuL C.l G n0 d k n hn vs dv h0 A) (by simp) (hw _ (List.mem_of_getElem? (i := 243) rfl)) (hw _ (List.mem_of_getElem? (i := 244) rfl)) (hw _ (List.mem_of_getElem? (i := 123) rfl)) (hw _ (List.mem_of_getElem? (i := 245) rfl)) (by decide) (o_len pduL rfl) rfl (pc' := 5) duX_2 rfl (Nat.le_of_ble_eq_true rfl) (Nat.le_of_ble_eq_true rfl) (Nat.le_of_ble_eq_true rfl) (Nat.le_of_ble_eq_true rfl) (fun v2 h2 hQ2 => ?_)
  obtain ⟨rfl, rfl⟩ := hQ2
  dsimp only [oPush]
  refine s_callS2 (rmsX C.l G n0 i (Int32.ofNat n) _ hi0 hi5) (by simp) (hw _ (List.mem_of_getElem? (i := 246) rfl)) (hw _ (List.mem_of_getElem? (i := 149) rfl)) (hw _ (List.mem_of_getElem? (i := 11) rfl)) (hw _ (List.mem_of_getElem? (i := 150) rfl)) (by decide) (o_len pdsX rfl) rfl (pc' := 8) duX_5 rfl (Nat.le_of_ble_eq_true rfl) (Nat.le_of_ble_eq_true rfl) (Nat.le_of_ble_eq_true rfl) (Nat.le_of_ble_eq_true rfl) (fun v5 h5 hQ5 => ?_)
  obtain ⟨rfl, rfl⟩ := hQ5
  dsimp only [oPush]
  exact s_ret rfl duX_8 (Nat.le_of_ble_eq_true rfl) (Nat.le_of_ble_eq_true rfl) ⟨rfl, rfl⟩
def iuC : OInfo := ("java/lang/StringUTF16", jdk_52_method_83_code, 2, (some .char), "charAt", ({ frames := 3, cells := 0, slots := 0, locals := 40 } : Room))
theorem efuC (x0 : Addr) (x1 : Int32) (m : MethodId) : entryFrame m #[(.ref x0), (.int x1)] 2 = mkF m 0 #[.val (.ref x0), .val (.int x1)] [] := by first | (simp [entryFrame, mkF, argsToLocals, Value.category]; done) | rfl
theorem pduC : parseMethodDescriptor "([BI)C" = some ⟨[(.array .byte), .int], some .char⟩ := by decide +kernel
theorem pnuC : plainFor (⟨"java/lang/StringUTF16", "charAt", "([BI)C"⟩ : MethodName) = true := by decide +kernel
theorem duC_0 : decode jdk_52_method_83_code 0 = .ok (.iload_n 1, 1) := by decide +kernel
theorem duC_1 : decode jdk_52_method_83_code 1 = .ok (.aload_n 0, 1) := by decide +kernel
theorem duC_2 : decode jdk_52_method_83_code 2 = .ok (.invokestatic 67, 3) := by decide +kernel
theorem duC_5 : decode jdk_52_method_83_code 5 = .ok (.aload_n 0, 1) := by decide +kernel
theorem duC_6 : decode jdk_52_method_83_code 6 = .ok (.iload_n 1, 1) := by decide +kernel
theorem duC_7 : decode jdk_52_method_83_code 7 = .ok (.invokestatic 71, 3) := by decide +kernel
theorem duC_10 : decode jdk_52_method_83_code 10 = .ok (.ireturn, 1) := by decide +kernel
set_option maxRecDepth 65536 in
set_option maxHeartbeats 4000000 in
theorem rmuC (l : Launch) {Z : State} {a0 : Array Value} (G : OG Z a0) (n0 : Nat) (US : U16S Z) (d : Addr) (k : ClassId) (cs : List Int32) (j : Nat) (z : Int32) (h0 : Heap) (hn : cs.length ≤ 4) (hch : C16 cs) (hz : cs[j]? = some z) (A : Arv Z h0 d k .byte (Int32.ofNat (2 * cs.length)) (u2 cs) (.int 0)) : oCon l Z n0 EL1 [] (⟨"java/lang/StringUTF16", "charAt", "([BI)C"⟩ : MethodName) iuC #[.ref d, .int (Int32.ofNat j)] h0 (fun v h => v = some (.int z) ∧ h = h0) := by
  obtain ⟨hw, hEL, ⟨cmp, hC, hc0⟩, ⟨fm, hfm, hF⟩⟩ := id G
  have hj : j < cs.length := (List.getElem?_eq_some_iff.mp hz).1
  refine oCon.mk hEL pnuC rfl rfl (efuC d _) fun C hCl => ?_
  refine s_iloadN (pc' := 1) duC_0 rfl rfl ?_
  refine s_aloadN (pc' := 2) duC_1 rfl rfl rfl ?_
  refine s_callS2 (rmuX C.l G n0 d k cs.length hn _ _ (Int32.ofNat j) h0 (nn (by omega)) (lt' (by omega) hj) A) (by simp) (hw _ (List.mem_of_getElem? (i := 240) rfl)) (hw _ (List.mem_of_getElem? (i := 241) rfl)) (hw _ (List.mem_of_getElem? (i := 123) rfl)) (hw _ (List.mem_of_getElem? (i := 242) rfl)) (by decide) (o_len pduX rfl) rfl (pc' := 5) duC_2 rfl (Nat.le_of_ble_eq_true rfl) (Nat.le_of_ble_eq_true rfl) (Nat.le_of_ble_eq_true rfl) (Nat.le_of_ble_eq_true rfl) (fun v2 h2 hQ2 => ?_)
  obtain ⟨rfl, rfl⟩ := hQ2
  dsimp only [oPush]
  refine s_aloadN (pc' := 6) duC_5 rfl rfl rfl ?_
  refine s_iloadN (pc' := 7) duC_6 rfl rfl ?_
  refine s_callS2 (rmgC C.l G n0 US d k j z cs _ hn hch hz A) (by simp) (hw _ (List.mem_of_getElem? (i := 234) rfl)) (hw _ (List.mem_of_getElem? (i := 235) rfl)) (hw _ (List.mem_of_getElem? (i := 123) rfl)) (hw _ (List.mem_of_getElem? (i := 236) rfl)) (by decide) (o_len pdgC rfl) rfl (pc' := 10) duC_7 rfl (Nat.le_of_ble_eq_true rfl) (Nat.le_of_ble_eq_true rfl) (Nat.le_of_ble_eq_true rfl) (Nat.le_of_ble_eq_true rfl) (fun v7 h7 hQ7 => ?_)
  obtain ⟨rfl, rfl⟩ := hQ7
  dsimp only [oPush]
  exact s_nret (t := .char) rfl (by simp) duC_10 (Nat.le_of_ble_eq_true rfl) (Nat.le_of_ble_eq_true rfl) ⟨by rw [nar16 (hch z (List.mem_of_getElem? hz))], rfl⟩
def iuH : OInfo := ("java/lang/String", jdk_42_method_56_code, 2, (some .char), "charAt", ({ frames := 4, cells := 0, slots := 0, locals := 53 } : Room))
theorem efuH (x0 : Addr) (x1 : Int32) (m : MethodId) : entryFrame m #[(.ref x0), (.int x1)] 2 = mkF m 0 #[.val (.ref x0), .val (.int x1)] [] := by first | (simp [entryFrame, mkF, argsToLocals, Value.category]; done) | rfl
theorem pduH : parseMethodDescriptor "(I)C" = some ⟨[.int], some .char⟩ := by decide +kernel
theorem pnuH : plainFor (⟨"java/lang/String", "charAt", "(I)C"⟩ : MethodName) = true := by decide +kernel
theorem duH_0 : decode jdk_42_method_56_code 0 = .ok (.aload_n 0, 1) := by decide +kernel
theorem duH_1 : decode jdk_42_method_56_code 1 = .ok (.invokevirtual 492, 3) := by decide +kernel
theorem duH_4 : decode jdk_42_method_56_code 4 = .ok (.ifCond .eq 12, 3) := by decide +kernel
theorem duH_7 : decode jdk_42_method_56_code 7 = .ok (.aload_n 0, 1) := by decide +kernel
theorem duH_8 : decode jdk_42_method_56_code 8 = .ok (.getfield 9, 3) := by decide +kernel
theorem duH_11 : decode jdk_42_method_56_code 11 = .ok (.iload_n 1, 1) := by decide +kernel
theorem duH_12 : decode jdk_42_method_56_code 12 = .ok (.invokestatic 495, 3) := by decide +kernel
theorem duH_15 : decode jdk_42_method_56_code 15 = .ok (.ireturn, 1) := by decide +kernel
theorem duH_16 : decode jdk_42_method_56_code 16 = .ok (.aload_n 0, 1) := by decide +kernel
theorem duH_17 : decode jdk_42_method_56_code 17 = .ok (.getfield 9, 3) := by decide +kernel
theorem duH_20 : decode jdk_42_method_56_code 20 = .ok (.iload_n 1, 1) := by decide +kernel
theorem duH_21 : decode jdk_42_method_56_code 21 = .ok (.invokestatic 498, 3) := by decide +kernel
theorem duH_24 : decode jdk_42_method_56_code 24 = .ok (.ireturn, 1) := by decide +kernel
set_option maxRecDepth 65536 in
set_option maxHeartbeats 4000000 in
theorem rmuH (l : Launch) {Z : State} {a0 : Array Value} (G : OG Z a0) (n0 : Nat) (US : U16S Z) (a : Addr) (N : Nat) (cs : List Int32) (j : Nat) (z : Int32) (h0 : Heap) (hn : cs.length ≤ 4) (hch : C16 cs) (hz : cs[j]? = some z) (H : UV Z h0 N a cs) : oCon l Z n0 EL1 [] (⟨"java/lang/String", "charAt", "(I)C"⟩ : MethodName) iuH #[.ref a, .int (Int32.ofNat j)] h0 (fun v h => v = some (.int z) ∧ h = h0) := by
  obtain ⟨hw, hEL, ⟨cmp, hC, hc0⟩, ⟨fm, hfm, hF⟩⟩ := id G
  obtain ⟨b, k, -, -, E1, V1, hh⟩ := H
  refine oCon.mk hEL pnuH rfl rfl (efuH a _) fun C hCl => ?_
  rcases hh with ⟨C1, hc8, A1⟩ | ⟨C1, A1⟩
  · skip
    refine s_aloadN (pc' := 1) duH_0 rfl rfl rfl ?_
    refine s_callV0 (rmiU C.l G n0 a 0 1 h0 (by decide) C1) (by simp) E1 (hw _ (List.mem_of_getElem? (i := 139) rfl)) (hw _ (List.mem_of_getElem? (i := 140) rfl)) (hw _ (List.mem_of_getElem? (i := 142) rfl)) (hw _ (List.mem_of_getElem? (i := 141) rfl)) (o_nf (hw _ (List.mem_of_getElem? (i := 142) rfl)) rfl) (hw _ (List.mem_of_getElem? (i := 11) rfl)) (hw _ (List.mem_of_getElem? (i := 143) rfl)) (by decide) (o_len pdiU rfl) rfl (pc' := 4) duH_1 rfl (Nat.le_of_ble_eq_true rfl) (Nat.le_of_ble_eq_true rfl) (Nat.le_of_ble_eq_true rfl) (Nat.le_of_ble_eq_true rfl) (fun v1 h1 hQ1 => ?_)
    obtain ⟨rfl, rfl⟩ := hQ1
    dsimp only [oPush]
    refine s_if (pc' := 7) (pc'' := 16) duH_4 rfl (by decide) rfl (fun hc4 => ?_) (fun hc4 => ?_)
    · replace hc4 := b_eq hc4
      exact absurd hc4 (by decide)
    · replace hc4 := b_eqF hc4
      refine s_aloadN (pc' := 8) duH_7 rfl rfl rfl ?_
      refine s_getF V1 (host := "") (Or.inl (hw _ (List.mem_of_getElem? (i := 29) rfl))) Via.refl (pc' := 11) duH_8 rfl ?_
      refine s_iloadN (pc' := 12) duH_11 rfl rfl ?_
      refine s_callS2 (rmlC C.l G n0 b k cs j z _ (by omega) hc8 hz A1) (by simp) (hw _ (List.mem_of_getElem? (i := 144) rfl)) (hw _ (List.mem_of_getElem? (i := 145) rfl)) (hw _ (List.mem_of_getElem? (i := 146) rfl)) (hw _ (List.mem_of_getElem? (i := 147) rfl)) (by decide) (o_len pdlC rfl) rfl (pc' := 15) duH_12 rfl (Nat.le_of_ble_eq_true rfl) (Nat.le_of_ble_eq_true rfl) (Nat.le_of_ble_eq_true rfl) (Nat.le_of_ble_eq_true rfl) (fun v12 h12 hQ12 => ?_)
      obtain ⟨rfl, rfl⟩ := hQ12
      dsimp only [oPush]
      exact s_nret (t := .char) rfl (by simp) duH_15 (Nat.le_of_ble_eq_true rfl) (Nat.le_of_ble_eq_true rfl) ⟨by rw [nar16 (hch z (List.mem_of_getElem? hz))], rfl⟩
  · skip
    refine s_aloadN (pc' := 1) duH_0 rfl rfl rfl ?_
    refine s_callV0 (rmiU C.l G n0 a 1 0 h0 (by decide) C1) (by simp) E1 (hw _ (List.mem_of_getElem? (i := 139) rfl)) (hw _ (List.mem_of_getElem? (i := 140) rfl)) (hw _ (List.mem_of_getElem? (i := 142) rfl)) (hw _ (List.mem_of_getElem? (i := 141) rfl)) (o_nf (hw _ (List.mem_of_getElem? (i := 142) rfl)) rfl) (hw _ (List.mem_of_getElem? (i := 11) rfl)) (hw _ (List.mem_of_getElem? (i := 143) rfl)) (by decide) (o_len pdiU rfl) rfl (pc' := 4) duH_1 rfl (Nat.le_of_ble_eq_true rfl) (Nat.le_of_ble_eq_true rfl) (Nat.le_of_ble_eq_true rfl) (Nat.le_of_ble_eq_true rfl) (fun v1 h1 hQ1 => ?_)
    obtain ⟨rfl, rfl⟩ := hQ1
    dsimp only [oPush]
    refine s_if (pc' := 7) (pc'' := 16) duH_4 rfl (by decide) rfl (fun hc4 => ?_) (fun hc4 => ?_)
    · replace hc4 := b_eq hc4
      refine s_aloadN (pc' := 17) duH_16 rfl rfl rfl ?_
      refine s_getF V1 (host := "") (Or.inl (hw _ (List.mem_of_getElem? (i := 29) rfl))) Via.refl (pc' := 20) duH_17 rfl ?_
      refine s_iloadN (pc' := 21) duH_20 rfl rfl ?_
      refine s_callS2 (rmuC C.l G n0 US b k cs j z _ hn hch hz A1) (by simp) (hw _ (List.mem_of_getElem? (i := 237) rfl)) (hw _ (List.mem_of_getElem? (i := 238) rfl)) (hw _ (List.mem_of_getElem? (i := 123) rfl)) (hw _ (List.mem_of_getElem? (i := 239) rfl)) (by decide) (o_len pduC rfl) rfl (pc' := 24) duH_21 rfl (Nat.le_of_ble_eq_true rfl) (Nat.le_of_ble_eq_true rfl) (Nat.le_of_ble_eq_true rfl) (Nat.le_of_ble_eq_true rfl) (fun v21 h21 hQ21 => ?_)
      obtain ⟨rfl, rfl⟩ := hQ21
      dsimp only [oPush]
      exact s_nret (t := .char) rfl (by simp) duH_24 (Nat.le_of_ble_eq_true rfl) (Nat.le_of_ble_eq_true rfl) ⟨by rw [nar16 (hch z (List.mem_of_getElem? hz))], rfl⟩
    · replace hc4 := b_eqF hc4
      exact absurd rfl hc4
def icG : OInfo := ("java/lang/StringLatin1", jdk_43_method_3_code, 1, (some .boolean), "canEncode", ({ frames := 0, cells := 0, slots := 0, locals := 0 } : Room))
theorem efcG (x0 : Int32) (m : MethodId) : entryFrame m #[(.int x0)] 1 = mkF m 0 #[.val (.int x0)] [] := by first | (simp [entryFrame, mkF, argsToLocals, Value.category]; done) | rfl
theorem pdcG : parseMethodDescriptor "(C)Z" = some ⟨[.char], some .boolean⟩ := by decide +kernel
theorem pncG : plainFor (⟨"java/lang/StringLatin1", "canEncode", "(C)Z"⟩ : MethodName) = true := by decide +kernel
theorem dcG_0 : decode jdk_43_method_3_code 0 = .ok (.iload_n 0, 1) := by decide +kernel
theorem dcG_1 : decode jdk_43_method_3_code 1 = .ok (.sipush 255, 3) := by decide +kernel
theorem dcG_4 : decode jdk_43_method_3_code 4 = .ok (.if_icmp .gt 7, 3) := by decide +kernel
theorem dcG_11 : decode jdk_43_method_3_code 11 = .ok (.iconst 0, 1) := by decide +kernel
theorem dcG_12 : decode jdk_43_method_3_code 12 = .ok (.ireturn, 1) := by decide +kernel
set_option maxRecDepth 65536 in
set_option maxHeartbeats 4000000 in
theorem rmcG (l : Launch) {Z : State} {a0 : Array Value} (G : OG Z a0) (n0 : Nat) (z : Int32) (h0 : Heap) (hz : (255 : Int32) < z) : oCon l Z n0 EL1 [] (⟨"java/lang/StringLatin1", "canEncode", "(C)Z"⟩ : MethodName) icG #[.int z] h0 (fun v h => v = some (.int 0) ∧ h = h0) := by
  obtain ⟨hw, hEL, ⟨cmp, hC, hc0⟩, ⟨fm, hfm, hF⟩⟩ := id G
  refine oCon.mk hEL pncG rfl rfl (efcG z) fun C hCl => ?_
  refine s_iloadN (pc' := 1) dcG_0 rfl rfl ?_
  refine s_sipush (x := (255 : Int32)) (pc' := 4) dcG_1 rfl rfl ?_
  refine s_icmp (pc' := 7) (pc'' := 11) dcG_4 rfl (by decide) rfl (fun hc4 => ?_) (fun hc4 => ?_)
  · replace hc4 := b_gt hc4
    refine s_iconst (x := (0 : Int32)) (pc' := 12) dcG_11 rfl rfl ?_
    exact s_nret (t := .boolean) rfl (by simp) dcG_12 (Nat.le_of_ble_eq_true rfl) (Nat.le_of_ble_eq_true rfl) ⟨rfl, rfl⟩
  · replace hc4 := b_gtF hc4
    exact absurd hz hc4
def itC : OInfo := ("java/lang/StringUTF16", jdk_52_method_24_code, 2, (some (.array .byte)), "toBytes", ({ frames := 1, cells := 1, slots := 2, locals := 16 } : Room))
theorem eftC (x0 : Int32) (m : MethodId) : entryFrame m #[(.int x0)] 2 = mkF m 0 #[.val (.int x0), .unset] [] := by first | (simp [entryFrame, mkF, argsToLocals, Value.category]; done) | rfl
theorem pdtC : parseMethodDescriptor "(C)[B" = some ⟨[.char], some (.array .byte)⟩ := by decide +kernel
theorem pntC : plainFor (⟨"java/lang/StringUTF16", "toBytes", "(C)[B"⟩ : MethodName) = true := by decide +kernel
theorem dtC_0 : decode jdk_52_method_24_code 0 = .ok (.iconst 2, 1) := by decide +kernel
theorem dtC_1 : decode jdk_52_method_24_code 1 = .ok (.newarray .byte, 2) := by decide +kernel
theorem dtC_3 : decode jdk_52_method_24_code 3 = .ok (.astore_n 1, 1) := by decide +kernel
theorem dtC_4 : decode jdk_52_method_24_code 4 = .ok (.aload_n 1, 1) := by decide +kernel
theorem dtC_5 : decode jdk_52_method_24_code 5 = .ok (.iconst 0, 1) := by decide +kernel
theorem dtC_6 : decode jdk_52_method_24_code 6 = .ok (.iload_n 0, 1) := by decide +kernel
theorem dtC_7 : decode jdk_52_method_24_code 7 = .ok (.invokestatic 111, 3) := by decide +kernel
theorem dtC_10 : decode jdk_52_method_24_code 10 = .ok (.aload_n 1, 1) := by decide +kernel
theorem dtC_11 : decode jdk_52_method_24_code 11 = .ok (.areturn, 1) := by decide +kernel
set_option maxRecDepth 65536 in
set_option maxHeartbeats 4000000 in
theorem rmtC (l : Launch) {Z : State} {a0 : Array Value} (G : OG Z a0) (n0 : Nat) (US : U16S Z) (z : Int32) (h0 : Heap) : oCon l Z n0 EL1 [] (⟨"java/lang/StringUTF16", "toBytes", "(C)[B"⟩ : MethodName) itC #[.int z] h0 (fun v h => ∃ d k, v = some (.ref d) ∧ h0.size ≤ d ∧ Ext h0 h ∧ Arv Z h d k .byte (Int32.ofNat (2 * [z].length)) (u2 [z]) (.int 0)) := by
  obtain ⟨hw, hEL, ⟨cmp, hC, hc0⟩, ⟨fm, hfm, hF⟩⟩ := id G
  refine oCon.mk hEL pntC rfl rfl (eftC z) fun C hCl => ?_
  refine s_iconst (x := (2 : Int32)) (pc' := 1) dtC_0 rfl rfl ?_
  refine s_newA 2 (hw _ (List.mem_of_getElem? (i := 24) rfl)) (pc' := 3) dtC_1 rfl (by decide) (by decide) (by decide) (Nat.le_of_ble_eq_true rfl) (Nat.le_of_ble_eq_true rfl) (fun h1 b1 k1 g1 nb1 E1 A1 => ?_)
  refine s_astoreN (kn := 1) rfl (pc' := 4) dtC_3 rfl rfl (o_st rfl (by first | exact One.u | exact One.val rfl | assumption) rfl) ?_
  dsimp only [List.set_cons_succ, List.set_cons_zero]
  refine s_aloadN (pc' := 5) dtC_4 rfl rfl rfl ?_
  refine s_iconst (x := (0 : Int32)) (pc' := 6) dtC_5 rfl rfl ?_
  refine s_iloadN (pc' := 7) dtC_6 rfl rfl ?_
  refine s_callS3 (rmpC C.l G n0 US b1 k1 0 1 z _ h1 (by decide) (by decide) (List.length_replicate (n := 2)) nb1 (by have q := o_padTo A1 2; rw [List.nil_append] at q; exact q)) (by simp) (hw _ (List.mem_of_getElem? (i := 228) rfl)) (hw _ (List.mem_of_getElem? (i := 229) rfl)) (hw _ (List.mem_of_getElem? (i := 123) rfl)) (hw _ (List.mem_of_getElem? (i := 230) rfl)) (by decide) (o_len pdpC rfl) rfl (pc' := 10) dtC_7 rfl (Nat.le_of_ble_eq_true rfl) (Nat.le_of_ble_eq_true rfl) (Nat.le_of_ble_eq_true rfl) (Nat.le_of_ble_eq_true rfl) (fun v7 h7 hQ7 => ?_)
  obtain ⟨rfl, K7, D7c⟩ := hQ7
  dsimp only [oPush]
  refine s_aloadN (pc' := 11) dtC_10 rfl rfl rfl ?_
  exact s_aret rfl rfl rfl dtC_11 (Nat.le_of_ble_eq_true rfl) (Nat.le_of_ble_eq_true rfl) ⟨b1, k1, rfl, Nat.le_of_eq g1.symm, o_extKeep E1 K7 (allS (Nat.le_of_eq g1.symm) all0), D7c⟩
def isD : OInfo := ("java/lang/String", jdk_42_method_151_code, 3, none, "<init>", ({ frames := 1, cells := 0, slots := 0, locals := 12 } : Room))
theorem efsD (x0 : Addr) (x1 : Addr) (x2 : Int32) (m : MethodId) : entryFrame m #[(.ref x0), (.ref x1), (.int x2)] 3 = mkF m 0 #[.val (.ref x0), .val (.ref x1), .val (.int x2)] [] := by first | (simp [entryFrame, mkF, argsToLocals, Value.category]; done) | rfl
theorem pdsD : parseMethodDescriptor "([BB)V" = some ⟨[(.array .byte), .byte], none⟩ := by decide +kernel
theorem pnsD : plainFor (⟨"java/lang/String", "<init>", "([BB)V"⟩ : MethodName) = true := by decide +kernel
theorem dsD_0 : decode jdk_42_method_151_code 0 = .ok (.aload_n 0, 1) := by decide +kernel
theorem dsD_1 : decode jdk_42_method_151_code 1 = .ok (.invokespecial 1, 3) := by decide +kernel
theorem dsD_4 : decode jdk_42_method_151_code 4 = .ok (.aload_n 0, 1) := by decide +kernel
theorem dsD_5 : decode jdk_42_method_151_code 5 = .ok (.aload_n 1, 1) := by decide +kernel
theorem dsD_6 : decode jdk_42_method_151_code 6 = .ok (.putfield 9, 3) := by decide +kernel
theorem dsD_9 : decode jdk_42_method_151_code 9 = .ok (.aload_n 0, 1) := by decide +kernel
theorem dsD_10 : decode jdk_42_method_151_code 10 = .ok (.iload_n 2, 1) := by decide +kernel
theorem dsD_11 : decode jdk_42_method_151_code 11 = .ok (.putfield 15, 3) := by decide +kernel
theorem dsD_14 : decode jdk_42_method_151_code 14 = .ok (.return_, 1) := by decide +kernel
set_option maxRecDepth 65536 in
set_option maxHeartbeats 4000000 in
theorem rmsD (l : Launch) {Z : State} {a0 : Array Value} (G : OG Z a0) (n0 : Nat) (a d : Addr) (k : ClassId) (cs : List Int32) (h0 : Heap) (had : a ≠ d) (A : Arv Z h0 d k .byte (Int32.ofNat (2 * cs.length)) (u2 cs) (.int 0)) (E : Exa Z h0 a "java/lang/String") (F1 : Fld Z h0 a "java/lang/String" "value" "[B" .null) (F2 : Fld Z h0 a "java/lang/String" "coder" "B" (.int 0)) (ga : n0 ≤ a) : oCon l Z n0 EL1 [a] (⟨"java/lang/String", "<init>", "([BB)V"⟩ : MethodName) isD #[.ref a, .ref d, .int 1] h0 (fun v h => v = none ∧ Keep h0 h [a] ∧ WV Z h h.size a cs) := by
  obtain ⟨hw, hEL, ⟨cmp, hC, hc0⟩, ⟨fm, hfm, hF⟩⟩ := id G
  refine oCon.mk hEL pnsD rfl rfl (efsD a d 1) fun C hCl => ?_
  refine s_aloadN (pc' := 1) dsD_0 rfl rfl rfl ?_
  refine s_initO (hw _ (List.mem_of_getElem? (i := 20) rfl)) (hw _ (List.mem_of_getElem? (i := 21) rfl)) (hw _ (List.mem_of_getElem? (i := 22) rfl)) rfl (pc' := 4) dsD_1 rfl (Nat.le_of_ble_eq_true rfl) (Nat.le_of_ble_eq_true rfl) ?_
  refine s_aloadN (pc' := 5) dsD_4 rfl rfl rfl ?_
  refine s_aloadN (pc' := 6) dsD_5 rfl rfl rfl ?_
  refine s_putF F1 E ga (by simp) (host := "") (Or.inl (hw _ (List.mem_of_getElem? (i := 29) rfl))) Via.refl (Or.inr ⟨(hw _ (List.mem_of_getElem? (i := 25) rfl)), rfl, rfl⟩) (hw _ (List.mem_of_getElem? (i := 10) rfl)) (ty := (.array .byte)) (by decide) rfl rfl (pc' := 9) dsD_6 rfl (fun h6 W6 => ?_)
  refine s_aloadN (pc' := 10) dsD_9 rfl rfl rfl ?_
  refine s_iloadN (pc' := 11) dsD_10 rfl rfl ?_
  refine s_putF (F2.other W6 (Or.inr (slot_ne (Or.inr (hw _ (List.mem_of_getElem? (i := 26) rfl))) (Or.inr (hw _ (List.mem_of_getElem? (i := 25) rfl))) (by decide) (t := .byte) (t' := .array .byte) (by decide) (by decide)))) (E.wr W6) ga (by simp) (host := "") (Or.inl (hw _ (List.mem_of_getElem? (i := 30) rfl))) Via.refl (Or.inr ⟨(hw _ (List.mem_of_getElem? (i := 26) rfl)), rfl, rfl⟩) (hw _ (List.mem_of_getElem? (i := 10) rfl)) (ty := .byte) (by decide) rfl rfl (pc' := 14) dsD_11 rfl (fun h11 W11 => ?_)
  exact s_ret rfl dsD_14 (Nat.le_of_ble_eq_true rfl) (Nat.le_of_ble_eq_true rfl) ⟨rfl, (Keep.of_wr W6).wr W11 (Or.inl (List.mem_cons_self ..)), d, k, ((E.wr W6).wr W11).lt, ((A.other W6 had.symm).other W11 had.symm).lt, (E.wr W6).wr W11, (F1.same W6).other W11 (Or.inr (slot_ne (Or.inr (hw _ (List.mem_of_getElem? (i := 25) rfl))) (Or.inr (hw _ (List.mem_of_getElem? (i := 26) rfl))) (by decide) (t := .array .byte) (t' := .byte) (by decide) (by decide))), (F2.other W6 (Or.inr (slot_ne (Or.inr (hw _ (List.mem_of_getElem? (i := 26) rfl))) (Or.inr (hw _ (List.mem_of_getElem? (i := 25) rfl))) (by decide) (t := .byte) (t' := .array .byte) (by decide) (by decide)))).same W11, (A.other W6 had.symm).other W11 had.symm⟩
def ivU : OInfo := ("java/lang/String", jdk_42_method_139_code, 1, (some (.object "java/lang/String")), "valueOf", ({ frames := 2, cells := 2, slots := 6, locals := 33 } : Room))
theorem efvU (x0 : Int32) (m : MethodId) : entryFrame m #[(.int x0)] 1 = mkF m 0 #[.val (.int x0)] [] := by first | (simp [entryFrame, mkF, argsToLocals, Value.category]; done) | rfl
theorem pdvU : parseMethodDescriptor "(C)Ljava/lang/String;" = some ⟨[.char], some (.object "java/lang/String")⟩ := by decide +kernel
theorem pnvU : plainFor (⟨"java/lang/String", "valueOf", "(C)Ljava/lang/String;"⟩ : MethodName) = true := by decide +kernel
theorem dvU_0 : decode jdk_42_method_139_code 0 = .ok (.getstatic 38, 3) := by decide +kernel
theorem dvU_3 : decode jdk_42_method_139_code 3 = .ok (.ifCond .eq 23, 3) := by decide +kernel
theorem dvU_6 : decode jdk_42_method_139_code 6 = .ok (.iload_n 0, 1) := by decide +kernel
theorem dvU_7 : decode jdk_42_method_139_code 7 = .ok (.invokestatic 1015, 3) := by decide +kernel
theorem dvU_10 : decode jdk_42_method_139_code 10 = .ok (.ifCond .eq 16, 3) := by decide +kernel
theorem dvU_26 : decode jdk_42_method_139_code 26 = .ok (.new 10, 3) := by decide +kernel
theorem dvU_29 : decode jdk_42_method_139_code 29 = .ok (.dup, 1) := by decide +kernel
theorem dvU_30 : decode jdk_42_method_139_code 30 = .ok (.iload_n 0, 1) := by decide +kernel
theorem dvU_31 : decode jdk_42_method_139_code 31 = .ok (.invokestatic 1021, 3) := by decide +kernel
theorem dvU_34 : decode jdk_42_method_139_code 34 = .ok (.iconst 1, 1) := by decide +kernel
theorem dvU_35 : decode jdk_42_method_139_code 35 = .ok (.invokespecial 209, 3) := by decide +kernel
theorem dvU_38 : decode jdk_42_method_139_code 38 = .ok (.areturn, 1) := by decide +kernel
set_option maxRecDepth 65536 in
set_option maxHeartbeats 4000000 in
theorem rmvU (l : Launch) {Z : State} {a0 : Array Value} (G : OG Z a0) (n0 : Nat) (US : U16S Z) (z : Int32) (h0 : Heap) (hz : (255 : Int32) < z) : oCon l Z n0 EL1 [] (⟨"java/lang/String", "valueOf", "(C)Ljava/lang/String;"⟩ : MethodName) ivU #[.int z] h0 (fun v h => ∃ a, v = some (.ref a) ∧ Ext h0 h ∧ WV Z h h.size a [z]) := by
  obtain ⟨hw, hEL, ⟨cmp, hC, hc0⟩, ⟨fm, hfm, hF⟩⟩ := id G
  refine oCon.mk hEL pnvU rfl rfl (efvU z) fun C hCl => ?_
  refine s_getS hC (hw _ (List.mem_of_getElem? (i := 52) rfl)) Via.refl (pc' := 3) dvU_0 rfl ?_
  refine s_if (pc' := 6) (pc'' := 26) dvU_3 rfl (by decide) rfl (fun hc3 => ?_) (fun hc3 => ?_)
  · replace hc3 := b_eq hc3
    exact absurd hc3 hc0
  · replace hc3 := b_eqF hc3
    refine s_iloadN (pc' := 7) dvU_6 rfl rfl ?_
    refine s_callS1 (rmcG C.l G n0 z h0 hz) (by simp) (hw _ (List.mem_of_getElem? (i := 250) rfl)) (hw _ (List.mem_of_getElem? (i := 192) rfl)) (hw _ (List.mem_of_getElem? (i := 146) rfl)) (hw _ (List.mem_of_getElem? (i := 193) rfl)) (by decide) (o_len pdcG rfl) rfl (pc' := 10) dvU_7 rfl (Nat.le_of_ble_eq_true rfl) (Nat.le_of_ble_eq_true rfl) (Nat.le_of_ble_eq_true rfl) (Nat.le_of_ble_eq_true rfl) (fun v7 h7 hQ7 => ?_)
    obtain ⟨rfl, rfl⟩ := hQ7
    dsimp only [oPush]
    refine s_if (pc' := 13) (pc'' := 26) dvU_10 rfl (by decide) rfl (fun hc10 => ?_) (fun hc10 => ?_)
    · replace hc10 := b_eq hc10
      refine s_new (hw _ (List.mem_of_getElem? (i := 251) rfl)) (hw _ (List.mem_of_getElem? (i := 10) rfl)) (hw _ (List.mem_of_getElem? (i := 11) rfl)) (pc' := 29) dvU_26 rfl (Nat.le_of_ble_eq_true rfl) (Nat.le_of_ble_eq_true rfl) (fun h26 b26 g26 nb26 E26 A26 D26 => ?_)
      refine s_dup (pc' := 30) dvU_29 rfl rfl ?_
      refine s_iloadN (pc' := 31) dvU_30 rfl rfl ?_
      refine s_callS1 (rmtC C.l G n0 US z _) (by simp) (hw _ (List.mem_of_getElem? (i := 258) rfl)) (hw _ (List.mem_of_getElem? (i := 259) rfl)) (hw _ (List.mem_of_getElem? (i := 123) rfl)) (hw _ (List.mem_of_getElem? (i := 260) rfl)) (by decide) (o_len pdtC rfl) rfl (pc' := 34) dvU_31 rfl (Nat.le_of_ble_eq_true rfl) (Nat.le_of_ble_eq_true rfl) (Nat.le_of_ble_eq_true rfl) (Nat.le_of_ble_eq_true rfl) (fun v31 h31 hQ31 => ?_)
      obtain ⟨d, k, rfl, gd, E31, D31c⟩ := hQ31
      dsimp only [oPush]
      refine s_iconst (x := (1 : Int32)) (pc' := 35) dvU_34 rfl rfl ?_
      refine s_callI2 (rmsD C.l G n0 b26 d k [z] _ (o_fresh' A26.lt gd) D31c (A26.ext E31) ((D26 (Or.inr (hw _ (List.mem_of_getElem? (i := 25) rfl))) (ty := .array .byte) (by decide)).ext E31) ((D26 (Or.inr (hw _ (List.mem_of_getElem? (i := 26) rfl))) (ty := .byte) (by decide)).ext E31) nb26) (by simp) rfl rfl (hw _ (List.mem_of_getElem? (i := 255) rfl)) (hw _ (List.mem_of_getElem? (i := 256) rfl)) (hw _ (List.mem_of_getElem? (i := 11) rfl)) (hw _ (List.mem_of_getElem? (i := 257) rfl)) (by decide) (o_len pdsD rfl) rfl (pc' := 38) dvU_35 rfl (Nat.le_of_ble_eq_true rfl) (Nat.le_of_ble_eq_true rfl) (Nat.le_of_ble_eq_true rfl) (Nat.le_of_ble_eq_true rfl) (fun v35 h35 hQ35 => ?_)
      obtain ⟨rfl, K35, V35⟩ := hQ35
      dsimp only [oPush]
      exact s_aret rfl rfl rfl dvU_38 (Nat.le_of_ble_eq_true rfl) (Nat.le_of_ble_eq_true rfl) ⟨b26, rfl, o_extKeep (o_ext E26 E31) K35 (allS (Nat.le_of_eq g26.symm) all0), V35⟩
    · replace hc10 := b_eqF hc10
      exact absurd rfl hc10
def BM (Z : State) (h : Heap) (b a : Addr) (k : ClassId) (cap : Nat) (bs : List Int32) : Prop := Exa Z h b "java/lang/StringBuilder" ∧ Fld Z h b "java/lang/AbstractStringBuilder" "value" "[B" (.ref a) ∧ Fld Z h b "java/lang/AbstractStringBuilder" "coder" "B" (.int 0) ∧ Fld Z h b "java/lang/AbstractStringBuilder" "count" "I" (.int (Int32.ofNat bs.length)) ∧ (∃ ml : Int32, Fld Z h b "java/lang/AbstractStringBuilder" "maybeLatin1" "Z" (.int ml)) ∧ (∃ xs : List Value, xs.length = cap ∧ xs.take bs.length = bs.map (fun c => Value.int (byt c)) ∧ Arv Z h a k .byte (Int32.ofNat cap) xs (.int 0)) ∧ Exa Z h a "[B" ∧ bs.length ≤ cap ∧ cap ≤ 4
theorem BM.ext {Z : State} {h h' : Heap} {b a : Addr} {k : ClassId} {cap : Nat} {bs : List Int32} (B : BM Z h b a k cap bs) (E : Ext h h') : BM Z h' b a k cap bs := by
  obtain ⟨h1, h2, h3, h4, ⟨m, h5⟩, ⟨xs, g1, g2, g3⟩, h6, h7⟩ := B; exact ⟨h1.ext E, h2.ext E, h3.ext E, h4.ext E, ⟨m, h5.ext E⟩, ⟨xs, g1, g2, g3.ext E⟩, h6.ext E, h7⟩
theorem BM.ne {Z : State} {h : Heap} {b a : Addr} {k : ClassId} {cap : Nat} {bs : List Int32} (B : BM Z h b a k cap bs) : a ≠ b := by obtain ⟨h1, -, -, -, -, -, h6, -⟩ := B; exact Exa.ne h6 h1 (by decide)
theorem xs_get {xs : List Value} {bs : List Int32} {j : Nat} {z : Int32} (ht : xs.take bs.length = bs.map fun c => Value.int (byt c)) (hz : bs[j]? = some z) (d : Value) : xs.getD j d = .int (byt z) := by
  have hj : j < bs.length := (List.getElem?_eq_some_iff.mp hz).1
  have q := congrArg (fun l => l[j]?) ht
  simp only [List.getElem?_take_of_lt hj, List.getElem?_map, hz, Option.map_some] at q
  rw [List.getD_eq_getElem?_getD, q]; rfl
theorem xs_set {xs : List Value} {bs : List Int32} {z : Int32} (ht : xs.take bs.length = bs.map fun c => Value.int (byt c)) (hl : bs.length < xs.length) : (xs.set bs.length (.int (byt z))).take (bs ++ [z]).length = (bs ++ [z]).map fun c => Value.int (byt c) := by
  rw [List.length_append, List.length_singleton, List.take_add_one, List.take_set_of_le (Nat.le_refl _), ht, List.getElem?_set_self hl]
  simp
theorem xs_cut {xs : List Value} {bs : List Int32} {n : Nat} (ht : xs.take bs.length = bs.map fun c => Value.int (byt c)) (hl : bs.length ≤ xs.length) (hn : n = bs.length) : (List.replicate n (Value.int 0)).take 0 ++ ((List.range n).map fun i => xs.getD (0 + i) (.int 0)) ++ (List.replicate n (Value.int 0)).drop (0 + n) = bs.map fun c => Value.int (byt c) := by
  subst hn
  rw [List.take_zero, List.nil_append, rng hl, ht]; simp
theorem xs_trim {xs : List Value} {bs : List Int32} {z : Int32} (ht : xs.take (bs ++ [z]).length = (bs ++ [z]).map fun c => Value.int (byt c)) : xs.take bs.length = bs.map fun c => Value.int (byt c) := by
  have q := congrArg (List.take bs.length) ht
  rw [List.take_take, List.length_append, List.length_singleton, Nat.min_eq_left (by omega)] at q
  rw [q]; simp
def imn : OInfo := ("java/lang/Math", jdk_29_method_69_code, 2, (some .int), "min", ({ frames := 0, cells := 0, slots := 0, locals := 0 } : Room))
theorem efmn (x0 : Int32) (x1 : Int32) (m : MethodId) : entryFrame m #[(.int x0), (.int x1)] 2 = mkF m 0 #[.val (.int x0), .val (.int x1)] [] := by first | (simp [entryFrame, mkF, argsToLocals, Value.category]; done) | rfl
theorem pdmn : parseMethodDescriptor "(II)I" = some ⟨[.int, .int], some .int⟩ := by decide +kernel
theorem pnmn : plainFor (⟨"java/lang/Math", "min", "(II)I"⟩ : MethodName) = true := by decide +kernel
theorem dmn_0 : decode jdk_29_method_69_code 0 = .ok (.iload_n 0, 1) := by decide +kernel
theorem dmn_1 : decode jdk_29_method_69_code 1 = .ok (.iload_n 1, 1) := by decide +kernel
theorem dmn_2 : decode jdk_29_method_69_code 2 = .ok (.if_icmp .gt 7, 3) := by decide +kernel
theorem dmn_5 : decode jdk_29_method_69_code 5 = .ok (.iload_n 0, 1) := by decide +kernel
theorem dmn_6 : decode jdk_29_method_69_code 6 = .ok (.goto 4, 3) := by decide +kernel
theorem dmn_9 : decode jdk_29_method_69_code 9 = .ok (.iload_n 1, 1) := by decide +kernel
theorem dmn_10 : decode jdk_29_method_69_code 10 = .ok (.ireturn, 1) := by decide +kernel
set_option maxRecDepth 65536 in
set_option maxHeartbeats 4000000 in
theorem rmmn (l : Launch) {Z : State} {a0 : Array Value} (G : OG Z a0) (n0 : Nat) (x y : Int32) (h0 : Heap) : oCon l Z n0 EL1 [] (⟨"java/lang/Math", "min", "(II)I"⟩ : MethodName) imn #[.int x, .int y] h0 (fun v h => v = some (.int (if y < x then y else x)) ∧ h = h0) := by
  obtain ⟨hw, hEL, ⟨cmp, hC, hc0⟩, ⟨fm, hfm, hF⟩⟩ := id G
  refine oCon.mk hEL pnmn rfl rfl (efmn x y) fun C hCl => ?_
  refine s_iloadN (pc' := 1) dmn_0 rfl rfl ?_
  refine s_iloadN (pc' := 2) dmn_1 rfl rfl ?_
  refine s_icmp (pc' := 5) (pc'' := 9) dmn_2 rfl (by decide) rfl (fun hc2 => ?_) (fun hc2 => ?_)
  · replace hc2 := b_gt hc2
    refine s_iloadN (pc' := 10) dmn_9 rfl rfl ?_
    exact s_iret rfl dmn_10 (Nat.le_of_ble_eq_true rfl) (Nat.le_of_ble_eq_true rfl) ⟨by first | rw [if_pos hc2] | rw [if_neg hc2], rfl⟩
  · replace hc2 := b_gtF hc2
    refine s_iloadN (pc' := 6) dmn_5 rfl rfl ?_
    refine s_goto (pc' := 10) dmn_6 (by decide) rfl ?_
    exact s_iret rfl dmn_10 (Nat.le_of_ble_eq_true rfl) (Nat.le_of_ble_eq_true rfl) ⟨by first | rw [if_pos hc2] | rw [if_neg hc2], rfl⟩
def iai : OInfo := ("java/lang/AbstractStringBuilder", jdk_68_method_2_code, 2, none, "<init>", ({ frames := 1, cells := 1, slots := 4, locals := 13 } : Room))
theorem efai (x0 : Addr) (x1 : Int32) (m : MethodId) : entryFrame m #[(.ref x0), (.int x1)] 2 = mkF m 0 #[.val (.ref x0), .val (.int x1)] [] := by first | (simp [entryFrame, mkF, argsToLocals, Value.category]; done) | rfl
theorem pdai : parseMethodDescriptor "(I)V" = some ⟨[.int], none⟩ := by decide +kernel
theorem pnai : plainFor (⟨"java/lang/AbstractStringBuilder", "<init>", "(I)V"⟩ : MethodName) = true := by decide +kernel
theorem dai_0 : decode jdk_68_method_2_code 0 = .ok (.aload_n 0, 1) := by decide +kernel
theorem dai_1 : decode jdk_68_method_2_code 1 = .ok (.invokespecial 3, 3) := by decide +kernel
theorem dai_4 : decode jdk_68_method_2_code 4 = .ok (.getstatic 18, 3) := by decide +kernel
theorem dai_7 : decode jdk_68_method_2_code 7 = .ok (.ifCond .eq 18, 3) := by decide +kernel
theorem dai_10 : decode jdk_68_method_2_code 10 = .ok (.aload_n 0, 1) := by decide +kernel
theorem dai_11 : decode jdk_68_method_2_code 11 = .ok (.iload_n 1, 1) := by decide +kernel
theorem dai_12 : decode jdk_68_method_2_code 12 = .ok (.newarray .byte, 2) := by decide +kernel
theorem dai_14 : decode jdk_68_method_2_code 14 = .ok (.putfield 15, 3) := by decide +kernel
theorem dai_17 : decode jdk_68_method_2_code 17 = .ok (.aload_n 0, 1) := by decide +kernel
theorem dai_18 : decode jdk_68_method_2_code 18 = .ok (.iconst 0, 1) := by decide +kernel
theorem dai_19 : decode jdk_68_method_2_code 19 = .ok (.putfield 22, 3) := by decide +kernel
theorem dai_22 : decode jdk_68_method_2_code 22 = .ok (.goto 16, 3) := by decide +kernel
theorem dai_38 : decode jdk_68_method_2_code 38 = .ok (.return_, 1) := by decide +kernel
set_option maxRecDepth 65536 in
set_option maxHeartbeats 4000000 in
theorem rmai (l : Launch) {Z : State} {a0 : Array Value} (G : OG Z a0) (n0 : Nat) (b : Addr) (n : Nat) (hn : n ≤ 4) (h0 : Heap) (XB : Exa Z h0 b "java/lang/StringBuilder") (F1 : Fld Z h0 b "java/lang/AbstractStringBuilder" "value" "[B" .null) (F2 : Fld Z h0 b "java/lang/AbstractStringBuilder" "coder" "B" (.int 0)) (F3 : Fld Z h0 b "java/lang/AbstractStringBuilder" "count" "I" (.int 0)) (F4 : Fld Z h0 b "java/lang/AbstractStringBuilder" "maybeLatin1" "Z" (.int 0)) (gb : n0 ≤ b) : oConG l Z n0 EL1 [b] (⟨"java/lang/AbstractStringBuilder", "<init>", "(I)V"⟩ : MethodName) iai #[.ref b, .int (Int32.ofNat n)] h0 (oR Z EL1 (fun v h rs => ∃ a k, rs = [a] ∧ v = none ∧ h0.size ≤ a ∧ Keep h0 h [b] ∧ BM Z h b a k n [])) := by
  obtain ⟨hw, hEL, ⟨cmp, hC, hc0⟩, ⟨fm, hfm, hF⟩⟩ := id G
  refine oCon.mk hEL pnai rfl rfl (efai b _) fun C hCl => ?_
  refine s_aloadN (pc' := 1) dai_0 rfl rfl rfl ?_
  refine s_initO (hw _ (List.mem_of_getElem? (i := 62) rfl)) (hw _ (List.mem_of_getElem? (i := 21) rfl)) (hw _ (List.mem_of_getElem? (i := 22) rfl)) rfl (pc' := 4) dai_1 rfl (Nat.le_of_ble_eq_true rfl) (Nat.le_of_ble_eq_true rfl) ?_
  refine s_getS hC (hw _ (List.mem_of_getElem? (i := 63) rfl)) Via.refl (pc' := 7) dai_4 rfl ?_
  refine s_if (pc' := 10) (pc'' := 25) dai_7 rfl (by decide) rfl (fun hc7 => ?_) (fun hc7 => ?_)
  · replace hc7 := b_eq hc7
    exact absurd hc7 hc0
  · replace hc7 := b_eqF hc7
    refine s_aloadN (pc' := 11) dai_10 rfl rfl rfl ?_
    refine s_iloadN (pc' := 12) dai_11 rfl rfl ?_
    refine s_newAE 4 (ad := "[B") (by decide) (hw _ (List.mem_of_getElem? (i := 24) rfl)) (pc' := 14) dai_12 rfl (nn (by omega)) (by rw [cl (by omega)]; exact hn) (by decide) (Nat.le_of_ble_eq_true rfl) (Nat.le_of_ble_eq_true rfl) (fun h12 b12 k12 g12 nb12 E12 A12 X12 => ?_)
    have hne : b12 ≠ b := (o_fresh XB.lt g12).symm
    replace A12 := o_padTo A12 n
    refine s_putF (F1.ext E12) (XB.ext E12) gb (by simp) (host := "") (Or.inl (hw _ (List.mem_of_getElem? (i := 64) rfl))) Via.refl (Or.inl (hw _ (List.mem_of_getElem? (i := 65) rfl))) (hw _ (List.mem_of_getElem? (i := 40) rfl)) (ty := .array .byte) (by decide) rfl rfl (pc' := 17) dai_14 rfl (fun h14 W14 => ?_)
    refine s_aloadN (pc' := 18) dai_17 rfl rfl rfl ?_
    refine s_iconst (x := (0 : Int32)) (pc' := 19) dai_18 rfl rfl ?_
    refine s_putF ((F2.ext E12).other W14 (Or.inr (slot_ne (Or.inl (hw _ (List.mem_of_getElem? (i := 67) rfl))) (Or.inl (hw _ (List.mem_of_getElem? (i := 65) rfl))) (by decide) (t := .byte) (t' := (.array .byte)) (by decide) (by decide)))) ((XB.ext E12).wr W14) gb (by simp) (host := "") (Or.inl (hw _ (List.mem_of_getElem? (i := 66) rfl))) Via.refl (Or.inl (hw _ (List.mem_of_getElem? (i := 67) rfl))) (hw _ (List.mem_of_getElem? (i := 40) rfl)) (ty := .byte) (by decide) rfl rfl (pc' := 22) dai_19 rfl (fun h19 W19 => ?_)
    refine s_goto (pc' := 38) dai_22 (by decide) rfl ?_
    exact s_retR rfl dai_38 (Nat.le_of_ble_eq_true rfl) (Nat.le_of_ble_eq_true rfl) [b12] (by simp) ⟨b12, k12, rfl, rfl, Nat.le_of_eq g12.symm, (((Keep.refl h0 [b]).ext E12).wr W14 (Or.inl (List.mem_cons_self ..))).wr W19 (Or.inl (List.mem_cons_self ..)), (((XB.ext E12).wr W14).wr W19), (((F1.ext E12).same W14).other W19 (Or.inr (slot_ne (Or.inl (hw _ (List.mem_of_getElem? (i := 65) rfl))) (Or.inl (hw _ (List.mem_of_getElem? (i := 67) rfl))) (by decide) (t := (.array .byte)) (t' := .byte) (by decide) (by decide)))), (((F2.ext E12).other W14 (Or.inr (slot_ne (Or.inl (hw _ (List.mem_of_getElem? (i := 67) rfl))) (Or.inl (hw _ (List.mem_of_getElem? (i := 65) rfl))) (by decide) (t := .byte) (t' := (.array .byte)) (by decide) (by decide)))).same W19), (((F3.ext E12).other W14 (Or.inr (slot_ne (Or.inl (hw _ (List.mem_of_getElem? (i := 79) rfl))) (Or.inl (hw _ (List.mem_of_getElem? (i := 65) rfl))) (by decide) (t := .int) (t' := (.array .byte)) (by decide) (by decide)))).other W19 (Or.inr (slot_ne (Or.inl (hw _ (List.mem_of_getElem? (i := 79) rfl))) (Or.inl (hw _ (List.mem_of_getElem? (i := 67) rfl))) (by decide) (t := .int) (t' := .byte) (by decide) (by decide)))), ⟨0, (((F4.ext E12).other W14 (Or.inr (slot_ne (Or.inl (hw _ (List.mem_of_getElem? (i := 215) rfl))) (Or.inl (hw _ (List.mem_of_getElem? (i := 65) rfl))) (by decide) (t := .boolean) (t' := (.array .byte)) (by decide) (by decide)))).other W19 (Or.inr (slot_ne (Or.inl (hw _ (List.mem_of_getElem? (i := 215) rfl))) (Or.inl (hw _ (List.mem_of_getElem? (i := 67) rfl))) (by decide) (t := .boolean) (t' := .byte) (by decide) (by decide))))⟩, ⟨_, by simp, by simp, ((A12.other W14 hne).other W19 hne)⟩, ((X12.wr W14).wr W19), Nat.zero_le _, hn⟩
def isi : OInfo := ("java/lang/StringBuilder", jdk_67_method_2_code, 2, none, "<init>", ({ frames := 2, cells := 1, slots := 4, locals := 26 } : Room))
theorem efsi (x0 : Addr) (x1 : Int32) (m : MethodId) : entryFrame m #[(.ref x0), (.int x1)] 2 = mkF m 0 #[.val (.ref x0), .val (.int x1)] [] := by first | (simp [entryFrame, mkF, argsToLocals, Value.category]; done) | rfl
theorem pdsi : parseMethodDescriptor "(I)V" = some ⟨[.int], none⟩ := by decide +kernel
theorem pnsi : plainFor (⟨"java/lang/StringBuilder", "<init>", "(I)V"⟩ : MethodName) = true := by decide +kernel
theorem dsi_0 : decode jdk_67_method_2_code 0 = .ok (.aload_n 0, 1) := by decide +kernel
theorem dsi_1 : decode jdk_67_method_2_code 1 = .ok (.iload_n 1, 1) := by decide +kernel
theorem dsi_2 : decode jdk_67_method_2_code 2 = .ok (.invokespecial 1, 3) := by decide +kernel
theorem dsi_5 : decode jdk_67_method_2_code 5 = .ok (.return_, 1) := by decide +kernel
set_option maxRecDepth 65536 in
set_option maxHeartbeats 4000000 in
theorem rmsi (l : Launch) {Z : State} {a0 : Array Value} (G : OG Z a0) (n0 : Nat) (b : Addr) (n : Nat) (hn : n ≤ 4) (h0 : Heap) (XB : Exa Z h0 b "java/lang/StringBuilder") (F1 : Fld Z h0 b "java/lang/AbstractStringBuilder" "value" "[B" .null) (F2 : Fld Z h0 b "java/lang/AbstractStringBuilder" "coder" "B" (.int 0)) (F3 : Fld Z h0 b "java/lang/AbstractStringBuilder" "count" "I" (.int 0)) (F4 : Fld Z h0 b "java/lang/AbstractStringBuilder" "maybeLatin1" "Z" (.int 0)) (gb : n0 ≤ b) : oConG l Z n0 EL1 [b] (⟨"java/lang/StringBuilder", "<init>", "(I)V"⟩ : MethodName) isi #[.ref b, .int (Int32.ofNat n)] h0 (oR Z EL1 (fun v h rs => ∃ a k, rs = [a] ∧ v = none ∧ h0.size ≤ a ∧ Keep h0 h [b] ∧ BM Z h b a k n [])) := by
  obtain ⟨hw, hEL, ⟨cmp, hC, hc0⟩, ⟨fm, hfm, hF⟩⟩ := id G
  refine oCon.mk hEL pnsi rfl rfl (efsi b _) fun C hCl => ?_
  refine s_aloadN (pc' := 1) dsi_0 rfl rfl rfl ?_
  refine s_iloadN (pc' := 2) dsi_1 rfl rfl ?_
  refine s_callI1R (rmai C.l G n0 b n hn h0 XB F1 F2 F3 F4 gb) (by simp) rfl rfl (hw _ (List.mem_of_getElem? (i := 56) rfl)) (hw _ (List.mem_of_getElem? (i := 57) rfl)) (hw _ (List.mem_of_getElem? (i := 60) rfl)) (hw _ (List.mem_of_getElem? (i := 61) rfl)) (by decide) (o_len pdai rfl) rfl (pc' := 5) dsi_2 rfl (Nat.le_of_ble_eq_true rfl) (Nat.le_of_ble_eq_true rfl) (Nat.le_of_ble_eq_true rfl) (Nat.le_of_ble_eq_true rfl) (fun v2 h2 rs2 hQ2 => ?_)
  obtain ⟨a, k, rfl, rfl, q1, q2, q3⟩ := hQ2
  dsimp only [oPush]
  exact s_retR rfl dsi_5 (Nat.le_of_ble_eq_true rfl) (Nat.le_of_ble_eq_true rfl) [a] (by simp) ⟨a, k, rfl, rfl, q1, q2, q3⟩
def iec : OInfo := ("java/lang/AbstractStringBuilder", jdk_68_method_9_code, 3, none, "ensureCapacityInternal", ({ frames := 0, cells := 0, slots := 0, locals := 0 } : Room))
theorem efec (x0 : Addr) (x1 : Int32) (m : MethodId) : entryFrame m #[(.ref x0), (.int x1)] 3 = mkF m 0 #[.val (.ref x0), .val (.int x1), .unset] [] := by first | (simp [entryFrame, mkF, argsToLocals, Value.category]; done) | rfl
theorem pdec : parseMethodDescriptor "(I)V" = some ⟨[.int], none⟩ := by decide +kernel
theorem pnec : plainFor (⟨"java/lang/AbstractStringBuilder", "ensureCapacityInternal", "(I)V"⟩ : MethodName) = true := by decide +kernel
theorem dec_0 : decode jdk_68_method_9_code 0 = .ok (.aload_n 0, 1) := by decide +kernel
theorem dec_1 : decode jdk_68_method_9_code 1 = .ok (.getfield 15, 3) := by decide +kernel
theorem dec_4 : decode jdk_68_method_9_code 4 = .ok (.arraylength, 1) := by decide +kernel
theorem dec_5 : decode jdk_68_method_9_code 5 = .ok (.aload_n 0, 1) := by decide +kernel
theorem dec_6 : decode jdk_68_method_9_code 6 = .ok (.getfield 22, 3) := by decide +kernel
theorem dec_9 : decode jdk_68_method_9_code 9 = .ok (.ishr, 1) := by decide +kernel
theorem dec_10 : decode jdk_68_method_9_code 10 = .ok (.istore_n 2, 1) := by decide +kernel
theorem dec_11 : decode jdk_68_method_9_code 11 = .ok (.iload_n 1, 1) := by decide +kernel
theorem dec_12 : decode jdk_68_method_9_code 12 = .ok (.iload_n 2, 1) := by decide +kernel
theorem dec_13 : decode jdk_68_method_9_code 13 = .ok (.isub, 1) := by decide +kernel
theorem dec_14 : decode jdk_68_method_9_code 14 = .ok (.ifCond .le 24, 3) := by decide +kernel
theorem dec_38 : decode jdk_68_method_9_code 38 = .ok (.return_, 1) := by decide +kernel
set_option maxRecDepth 65536 in
set_option maxHeartbeats 4000000 in
theorem rmec (l : Launch) {Z : State} {a0 : Array Value} (G : OG Z a0) (n0 : Nat) (m : Nat) (b a : Addr) (k : ClassId) (cap : Nat) (bs : List Int32) (h0 : Heap) (B : BM Z h0 b a k cap bs) (hm : m ≤ cap) : oCon l Z n0 EL1 [] (⟨"java/lang/AbstractStringBuilder", "ensureCapacityInternal", "(I)V"⟩ : MethodName) iec #[.ref b, .int (Int32.ofNat m)] h0 (fun v h => v = none ∧ h = h0) := by
  obtain ⟨hw, hEL, ⟨cmp, hC, hc0⟩, ⟨fm, hfm, hF⟩⟩ := id G
  obtain ⟨XB, FV, FC, FN, ⟨ml, FM⟩, ⟨xs, hx, ht, A⟩, XA, hl, hc⟩ := B
  refine oCon.mk hEL pnec rfl rfl (efec b _) fun C hCl => ?_
  refine s_aloadN (pc' := 1) dec_0 rfl rfl rfl ?_
  refine s_getF FV (host := "") (Or.inl (hw _ (List.mem_of_getElem? (i := 64) rfl))) Via.refl (pc' := 4) dec_1 rfl ?_
  refine s_alen A (pc' := 5) dec_4 rfl ?_
  refine s_aloadN (pc' := 6) dec_5 rfl rfl rfl ?_
  refine s_getF FC (host := "") (Or.inl (hw _ (List.mem_of_getElem? (i := 66) rfl))) Via.refl (pc' := 9) dec_6 rfl ?_
  refine s_ishr (pc' := 10) dec_9 rfl ?_
  rw [shr_zero]
  refine s_istoreN (kn := 2) rfl (pc' := 11) dec_10 rfl (o_st rfl (by first | exact One.u | exact One.val rfl | assumption) rfl) ?_
  dsimp only [List.set_cons_succ, List.set_cons_zero]
  refine s_iloadN (pc' := 12) dec_11 rfl rfl ?_
  refine s_iloadN (pc' := 13) dec_12 rfl rfl ?_
  refine s_isub (pc' := 14) dec_13 rfl ?_
  refine s_if (pc' := 17) (pc'' := 38) dec_14 rfl (by decide) rfl (fun hc14 => ?_) (fun hc14 => ?_)
  · replace hc14 := b_le hc14
    exact s_ret rfl dec_38 (Nat.le_of_ble_eq_true rfl) (Nat.le_of_ble_eq_true rfl) ⟨rfl, rfl⟩
  · replace hc14 := b_leF hc14
    rw [n_subp (by omega) (by omega)] at hc14
    exact absurd hm (by omega)
def igv : OInfo := ("java/lang/AbstractStringBuilder", jdk_68_method_64_code, 1, (some (.array .byte)), "getValue", ({ frames := 0, cells := 0, slots := 0, locals := 0 } : Room))
theorem efgv (x0 : Addr) (m : MethodId) : entryFrame m #[(.ref x0)] 1 = mkF m 0 #[.val (.ref x0)] [] := by first | (simp [entryFrame, mkF, argsToLocals, Value.category]; done) | rfl
theorem pdgv : parseMethodDescriptor "()[B" = some ⟨[], some (.array .byte)⟩ := by decide +kernel
theorem pngv : plainFor (⟨"java/lang/AbstractStringBuilder", "getValue", "()[B"⟩ : MethodName) = true := by decide +kernel
theorem dgv_0 : decode jdk_68_method_64_code 0 = .ok (.aload_n 0, 1) := by decide +kernel
theorem dgv_1 : decode jdk_68_method_64_code 1 = .ok (.getfield 15, 3) := by decide +kernel
theorem dgv_4 : decode jdk_68_method_64_code 4 = .ok (.areturn, 1) := by decide +kernel
set_option maxRecDepth 65536 in
set_option maxHeartbeats 4000000 in
theorem rmgv (l : Launch) {Z : State} {a0 : Array Value} (G : OG Z a0) (n0 : Nat) (b : Addr) (x : Addr) (h0 : Heap) (F1 : Fld Z h0 b "java/lang/AbstractStringBuilder" "value" "[B" (.ref x)) : oCon l Z n0 EL1 [] (⟨"java/lang/AbstractStringBuilder", "getValue", "()[B"⟩ : MethodName) igv #[.ref b] h0 (fun v h => v = some (.ref x) ∧ h = h0) := by
  obtain ⟨hw, hEL, ⟨cmp, hC, hc0⟩, ⟨fm, hfm, hF⟩⟩ := id G
  refine oCon.mk hEL pngv rfl rfl (efgv b) fun C hCl => ?_
  refine s_aloadN (pc' := 1) dgv_0 rfl rfl rfl ?_
  refine s_getF F1 (host := "") (Or.inl (hw _ (List.mem_of_getElem? (i := 64) rfl))) Via.refl (pc' := 4) dgv_1 rfl ?_
  exact s_aret rfl rfl rfl dgv_4 (Nat.le_of_ble_eq_true rfl) (Nat.le_of_ble_eq_true rfl) ⟨rfl, rfl⟩
def ilA : OInfo := ("java/lang/AbstractStringBuilder", jdk_68_method_6_code, 1, (some .int), "length", ({ frames := 0, cells := 0, slots := 0, locals := 0 } : Room))
theorem eflA (x0 : Addr) (m : MethodId) : entryFrame m #[(.ref x0)] 1 = mkF m 0 #[.val (.ref x0)] [] := by first | (simp [entryFrame, mkF, argsToLocals, Value.category]; done) | rfl
theorem pdlA : parseMethodDescriptor "()I" = some ⟨[], some .int⟩ := by decide +kernel
theorem pnlA : plainFor (⟨"java/lang/AbstractStringBuilder", "length", "()I"⟩ : MethodName) = true := by decide +kernel
theorem dlA_0 : decode jdk_68_method_6_code 0 = .ok (.aload_n 0, 1) := by decide +kernel
theorem dlA_1 : decode jdk_68_method_6_code 1 = .ok (.getfield 79, 3) := by decide +kernel
theorem dlA_4 : decode jdk_68_method_6_code 4 = .ok (.ireturn, 1) := by decide +kernel
set_option maxRecDepth 65536 in
set_option maxHeartbeats 4000000 in
theorem rmlA (l : Launch) {Z : State} {a0 : Array Value} (G : OG Z a0) (n0 : Nat) (b : Addr) (x : Int32) (h0 : Heap) (F1 : Fld Z h0 b "java/lang/AbstractStringBuilder" "count" "I" (.int x)) : oCon l Z n0 EL1 [] (⟨"java/lang/AbstractStringBuilder", "length", "()I"⟩ : MethodName) ilA #[.ref b] h0 (fun v h => v = some (.int x) ∧ h = h0) := by
  obtain ⟨hw, hEL, ⟨cmp, hC, hc0⟩, ⟨fm, hfm, hF⟩⟩ := id G
  refine oCon.mk hEL pnlA rfl rfl (eflA b) fun C hCl => ?_
  refine s_aloadN (pc' := 1) dlA_0 rfl rfl rfl ?_
  refine s_getF F1 (host := "") (Or.inl (hw _ (List.mem_of_getElem? (i := 78) rfl))) Via.refl (pc' := 4) dlA_1 rfl ?_
  exact s_iret rfl dlA_4 (Nat.le_of_ble_eq_true rfl) (Nat.le_of_ble_eq_true rfl) ⟨rfl, rfl⟩
def ilB : OInfo := ("java/lang/StringBuilder", jdk_67_method_93_code, 1, (some .int), "length", ({ frames := 1, cells := 0, slots := 0, locals := 12 } : Room))
theorem eflB (x0 : Addr) (m : MethodId) : entryFrame m #[(.ref x0)] 1 = mkF m 0 #[.val (.ref x0)] [] := by first | (simp [entryFrame, mkF, argsToLocals, Value.category]; done) | rfl
theorem pdlB : parseMethodDescriptor "()I" = some ⟨[], some .int⟩ := by decide +kernel
theorem pnlB : plainFor (⟨"java/lang/StringBuilder", "length", "()I"⟩ : MethodName) = true := by decide +kernel
theorem dlB_0 : decode jdk_67_method_93_code 0 = .ok (.aload_n 0, 1) := by decide +kernel
theorem dlB_1 : decode jdk_67_method_93_code 1 = .ok (.invokespecial 343, 3) := by decide +kernel
theorem dlB_4 : decode jdk_67_method_93_code 4 = .ok (.ireturn, 1) := by decide +kernel
set_option maxRecDepth 65536 in
set_option maxHeartbeats 4000000 in
theorem rmlB (l : Launch) {Z : State} {a0 : Array Value} (G : OG Z a0) (n0 : Nat) (b : Addr) (x : Int32) (h0 : Heap) (XB : Exa Z h0 b "java/lang/StringBuilder") (F1 : Fld Z h0 b "java/lang/AbstractStringBuilder" "count" "I" (.int x)) : oCon l Z n0 EL1 [] (⟨"java/lang/StringBuilder", "length", "()I"⟩ : MethodName) ilB #[.ref b] h0 (fun v h => v = some (.int x) ∧ h = h0) := by
  obtain ⟨hw, hEL, ⟨cmp, hC, hc0⟩, ⟨fm, hfm, hF⟩⟩ := id G
  refine oCon.mk hEL pnlB rfl rfl (eflB b) fun C hCl => ?_
  refine s_aloadN (pc' := 1) dlB_0 rfl rfl rfl ?_
  refine s_callU0 (rmlA C.l G n0 b x h0 F1) (by simp) (Ins.self XB) (hw _ (List.mem_of_getElem? (i := 73) rfl)) (o_sameOf (hw _ (List.mem_of_getElem? (i := 74) rfl)) (hw _ (List.mem_of_getElem? (i := 95) rfl)) rfl (by decide)) (hw _ (List.mem_of_getElem? (i := 75) rfl)) (hw _ (List.mem_of_getElem? (i := 74) rfl)) (hw _ (List.mem_of_getElem? (i := 60) rfl)) (hw _ (List.mem_of_getElem? (i := 77) rfl)) (by decide) (o_len pdlA rfl) rfl (pc' := 4) dlB_1 rfl (Nat.le_of_ble_eq_true rfl) (Nat.le_of_ble_eq_true rfl) (Nat.le_of_ble_eq_true rfl) (Nat.le_of_ble_eq_true rfl) (fun v1 h1 hQ1 => ?_)
  obtain ⟨rfl, rfl⟩ := hQ1
  dsimp only [oPush]
  exact s_iret rfl dlB_4 (Nat.le_of_ble_eq_true rfl) (Nat.le_of_ble_eq_true rfl) ⟨rfl, rfl⟩
def iiL : OInfo := ("java/lang/AbstractStringBuilder", jdk_68_method_68_code, 1, (some .boolean), "isLatin1", ({ frames := 0, cells := 0, slots := 0, locals := 0 } : Room))
theorem efiL (x0 : Addr) (m : MethodId) : entryFrame m #[(.ref x0)] 1 = mkF m 0 #[.val (.ref x0)] [] := by first | (simp [entryFrame, mkF, argsToLocals, Value.category]; done) | rfl
theorem pdiL : parseMethodDescriptor "()Z" = some ⟨[], some .boolean⟩ := by decide +kernel
theorem pniL : plainFor (⟨"java/lang/AbstractStringBuilder", "isLatin1", "()Z"⟩ : MethodName) = true := by decide +kernel
theorem diL_0 : decode jdk_68_method_68_code 0 = .ok (.getstatic 18, 3) := by decide +kernel
theorem diL_3 : decode jdk_68_method_68_code 3 = .ok (.ifCond .eq 14, 3) := by decide +kernel
theorem diL_6 : decode jdk_68_method_68_code 6 = .ok (.aload_n 0, 1) := by decide +kernel
theorem diL_7 : decode jdk_68_method_68_code 7 = .ok (.getfield 22, 3) := by decide +kernel
theorem diL_10 : decode jdk_68_method_68_code 10 = .ok (.ifCond .ne 7, 3) := by decide +kernel
theorem diL_13 : decode jdk_68_method_68_code 13 = .ok (.iconst 1, 1) := by decide +kernel
theorem diL_14 : decode jdk_68_method_68_code 14 = .ok (.goto 4, 3) := by decide +kernel
theorem diL_18 : decode jdk_68_method_68_code 18 = .ok (.ireturn, 1) := by decide +kernel
set_option maxRecDepth 65536 in
set_option maxHeartbeats 4000000 in
theorem rmiL (l : Launch) {Z : State} {a0 : Array Value} (G : OG Z a0) (n0 : Nat) (b : Addr) (h0 : Heap) (C1 : Fld Z h0 b "java/lang/AbstractStringBuilder" "coder" "B" (.int 0)) : oCon l Z n0 EL1 [] (⟨"java/lang/AbstractStringBuilder", "isLatin1", "()Z"⟩ : MethodName) iiL #[.ref b] h0 (fun v h => v = some (.int 1) ∧ h = h0) := by
  obtain ⟨hw, hEL, ⟨cmp, hC, hc0⟩, ⟨fm, hfm, hF⟩⟩ := id G
  refine oCon.mk hEL pniL rfl rfl (efiL b) fun C hCl => ?_
  refine s_getS hC (hw _ (List.mem_of_getElem? (i := 63) rfl)) Via.refl (pc' := 3) diL_0 rfl ?_
  refine s_if (pc' := 6) (pc'' := 17) diL_3 rfl (by decide) rfl (fun hc3 => ?_) (fun hc3 => ?_)
  · replace hc3 := b_eq hc3
    exact absurd hc3 hc0
  · replace hc3 := b_eqF hc3
    refine s_aloadN (pc' := 7) diL_6 rfl rfl rfl ?_
    refine s_getF C1 (host := "") (Or.inl (hw _ (List.mem_of_getElem? (i := 66) rfl))) Via.refl (pc' := 10) diL_7 rfl ?_
    refine s_if (pc' := 13) (pc'' := 17) diL_10 rfl (by decide) rfl (fun hc10 => ?_) (fun hc10 => ?_)
    · replace hc10 := b_ne hc10
      exact absurd rfl hc10
    · replace hc10 := b_neF hc10
      refine s_iconst (x := (1 : Int32)) (pc' := 14) diL_13 rfl rfl ?_
      refine s_goto (pc' := 18) diL_14 (by decide) rfl ?_
      exact s_nret (t := .boolean) rfl (by simp) diL_18 (by decide) (by decide) ⟨rfl, rfl⟩
def iaC : OInfo := ("java/lang/AbstractStringBuilder", jdk_68_method_31_code, 2, (some (.object "java/lang/AbstractStringBuilder")), "append", ({ frames := 1, cells := 0, slots := 0, locals := 16 } : Room))
theorem efaC (x0 : Addr) (x1 : Int32) (m : MethodId) : entryFrame m #[(.ref x0), (.int x1)] 2 = mkF m 0 #[.val (.ref x0), .val (.int x1)] [] := by first | (simp [entryFrame, mkF, argsToLocals, Value.category]; done) | rfl
theorem pdaC : parseMethodDescriptor "(C)Ljava/lang/AbstractStringBuilder;" = some ⟨[.char], some (.object "java/lang/AbstractStringBuilder")⟩ := by decide +kernel
theorem pnaC : plainFor (⟨"java/lang/AbstractStringBuilder", "append", "(C)Ljava/lang/AbstractStringBuilder;"⟩ : MethodName) = true := by decide +kernel
theorem daC_0 : decode jdk_68_method_31_code 0 = .ok (.aload_n 0, 1) := by decide +kernel
theorem daC_1 : decode jdk_68_method_31_code 1 = .ok (.aload_n 0, 1) := by decide +kernel
theorem daC_2 : decode jdk_68_method_31_code 2 = .ok (.getfield 79, 3) := by decide +kernel
theorem daC_5 : decode jdk_68_method_31_code 5 = .ok (.iconst 1, 1) := by decide +kernel
theorem daC_6 : decode jdk_68_method_31_code 6 = .ok (.iadd, 1) := by decide +kernel
theorem daC_7 : decode jdk_68_method_31_code 7 = .ok (.invokevirtual 100, 3) := by decide +kernel
theorem daC_10 : decode jdk_68_method_31_code 10 = .ok (.aload_n 0, 1) := by decide +kernel
theorem daC_11 : decode jdk_68_method_31_code 11 = .ok (.invokevirtual 83, 3) := by decide +kernel
theorem daC_14 : decode jdk_68_method_31_code 14 = .ok (.ifCond .eq 31, 3) := by decide +kernel
theorem daC_17 : decode jdk_68_method_31_code 17 = .ok (.iload_n 1, 1) := by decide +kernel
theorem daC_18 : decode jdk_68_method_31_code 18 = .ok (.invokestatic 191, 3) := by decide +kernel
theorem daC_21 : decode jdk_68_method_31_code 21 = .ok (.ifCond .eq 24, 3) := by decide +kernel
theorem daC_24 : decode jdk_68_method_31_code 24 = .ok (.aload_n 0, 1) := by decide +kernel
theorem daC_25 : decode jdk_68_method_31_code 25 = .ok (.getfield 15, 3) := by decide +kernel
theorem daC_28 : decode jdk_68_method_31_code 28 = .ok (.aload_n 0, 1) := by decide +kernel
theorem daC_29 : decode jdk_68_method_31_code 29 = .ok (.dup, 1) := by decide +kernel
theorem daC_30 : decode jdk_68_method_31_code 30 = .ok (.getfield 79, 3) := by decide +kernel
theorem daC_33 : decode jdk_68_method_31_code 33 = .ok (.dup_x1, 1) := by decide +kernel
theorem daC_34 : decode jdk_68_method_31_code 34 = .ok (.iconst 1, 1) := by decide +kernel
theorem daC_35 : decode jdk_68_method_31_code 35 = .ok (.iadd, 1) := by decide +kernel
theorem daC_36 : decode jdk_68_method_31_code 36 = .ok (.putfield 79, 3) := by decide +kernel
theorem daC_39 : decode jdk_68_method_31_code 39 = .ok (.iload_n 1, 1) := by decide +kernel
theorem daC_40 : decode jdk_68_method_31_code 40 = .ok (.i2b, 1) := by decide +kernel
theorem daC_41 : decode jdk_68_method_31_code 41 = .ok (.bastore, 1) := by decide +kernel
theorem daC_42 : decode jdk_68_method_31_code 42 = .ok (.goto 33, 3) := by decide +kernel
theorem daC_75 : decode jdk_68_method_31_code 75 = .ok (.aload_n 0, 1) := by decide +kernel
theorem daC_76 : decode jdk_68_method_31_code 76 = .ok (.areturn, 1) := by decide +kernel
set_option maxRecDepth 65536 in
set_option maxHeartbeats 4000000 in
theorem rmaC (l : Launch) {Z : State} {a0 : Array Value} (G : OG Z a0) (n0 : Nat) (z : Int32) (hz : ¬ z < 0 ∧ ¬ (255 : Int32) < z) (b a : Addr) (k : ClassId) (cap : Nat) (bs : List Int32) (h0 : Heap) (B : BM Z h0 b a k cap bs) (hm : bs.length + 1 ≤ cap) (gb : n0 ≤ b) (ga : n0 ≤ a) : oCon l Z n0 EL1 [b, a] (⟨"java/lang/AbstractStringBuilder", "append", "(C)Ljava/lang/AbstractStringBuilder;"⟩ : MethodName) iaC #[.ref b, .int z] h0 (fun v h => v = some (.ref b) ∧ Keep h0 h [b, a] ∧ BM Z h b a k cap (bs ++ [z])) := by
  obtain ⟨hw, hEL, ⟨cmp, hC, hc0⟩, ⟨fm, hfm, hF⟩⟩ := id G
  have BB0 := B
  have hne := B.ne
  obtain ⟨XB, FV, FC, FN, ⟨ml, FM⟩, ⟨xs, hx, ht, A⟩, XA, hl, hc⟩ := B
  refine oCon.mk hEL pnaC rfl rfl (efaC b z) fun C hCl => ?_
  refine s_aloadN (pc' := 1) daC_0 rfl rfl rfl ?_
  refine s_aloadN (pc' := 2) daC_1 rfl rfl rfl ?_
  refine s_getF FN (host := "") (Or.inl (hw _ (List.mem_of_getElem? (i := 78) rfl))) Via.refl (pc' := 5) daC_2 rfl ?_
  refine s_iconst (x := (1 : Int32)) (pc' := 6) daC_5 rfl rfl ?_
  refine s_iadd (pc' := 7) daC_6 rfl ?_
  rw [n_succ]
  refine s_callV1 (rmec C.l G n0 (bs.length + 1) b a k cap bs h0 BB0 hm) (by simp) XB (hw _ (List.mem_of_getElem? (i := 185) rfl)) (o_declOf (hw _ (List.mem_of_getElem? (i := 186) rfl)) (hw _ (List.mem_of_getElem? (i := 189) rfl))) (hw _ (List.mem_of_getElem? (i := 188) rfl)) (hw _ (List.mem_of_getElem? (i := 186) rfl)) (o_nf (hw _ (List.mem_of_getElem? (i := 188) rfl)) rfl) (hw _ (List.mem_of_getElem? (i := 60) rfl)) (hw _ (List.mem_of_getElem? (i := 189) rfl)) (by decide) (o_len pdec rfl) rfl (pc' := 10) daC_7 rfl (Nat.le_of_ble_eq_true rfl) (Nat.le_of_ble_eq_true rfl) (Nat.le_of_ble_eq_true rfl) (Nat.le_of_ble_eq_true rfl) (fun v7 h7 hQ7 => ?_)
  obtain ⟨rfl, rfl⟩ := hQ7
  dsimp only [oPush]
  refine s_aloadN (pc' := 11) daC_10 rfl rfl rfl ?_
  refine s_callV0 (rmiL C.l G n0 b _ FC) (by simp) XB (hw _ (List.mem_of_getElem? (i := 190) rfl)) (hw _ (List.mem_of_getElem? (i := 100) rfl)) (hw _ (List.mem_of_getElem? (i := 102) rfl)) (hw _ (List.mem_of_getElem? (i := 101) rfl)) (o_nf (hw _ (List.mem_of_getElem? (i := 102) rfl)) rfl) (hw _ (List.mem_of_getElem? (i := 60) rfl)) (hw _ (List.mem_of_getElem? (i := 103) rfl)) (by decide) (o_len pdiL rfl) rfl (pc' := 14) daC_11 rfl (Nat.le_of_ble_eq_true rfl) (Nat.le_of_ble_eq_true rfl) (Nat.le_of_ble_eq_true rfl) (Nat.le_of_ble_eq_true rfl) (fun v11 h11 hQ11 => ?_)
  obtain ⟨rfl, rfl⟩ := hQ11
  dsimp only [oPush]
  refine s_if (pc' := 17) (pc'' := 45) daC_14 rfl (by decide) rfl (fun hc14 => ?_) (fun hc14 => ?_)
  · replace hc14 := b_eq hc14
    exact absurd hc14 (by decide)
  · replace hc14 := b_eqF hc14
    refine s_iloadN (pc' := 18) daC_17 rfl rfl ?_
    refine s_callS1 (rmcE C.l G n0 z _ hz) (by simp) (hw _ (List.mem_of_getElem? (i := 191) rfl)) (hw _ (List.mem_of_getElem? (i := 192) rfl)) (hw _ (List.mem_of_getElem? (i := 146) rfl)) (hw _ (List.mem_of_getElem? (i := 193) rfl)) (by decide) (o_len pdcE rfl) rfl (pc' := 21) daC_18 rfl (Nat.le_of_ble_eq_true rfl) (Nat.le_of_ble_eq_true rfl) (Nat.le_of_ble_eq_true rfl) (Nat.le_of_ble_eq_true rfl) (fun v18 h18 hQ18 => ?_)
    obtain ⟨rfl, rfl⟩ := hQ18
    dsimp only [oPush]
    refine s_if (pc' := 24) (pc'' := 45) daC_21 rfl (by decide) rfl (fun hc21 => ?_) (fun hc21 => ?_)
    · replace hc21 := b_eq hc21
      exact absurd hc21 (by decide)
    · replace hc21 := b_eqF hc21
      refine s_aloadN (pc' := 25) daC_24 rfl rfl rfl ?_
      refine s_getF FV (host := "") (Or.inl (hw _ (List.mem_of_getElem? (i := 64) rfl))) Via.refl (pc' := 28) daC_25 rfl ?_
      refine s_aloadN (pc' := 29) daC_28 rfl rfl rfl ?_
      refine s_dup (pc' := 30) daC_29 rfl rfl ?_
      refine s_getF FN (host := "") (Or.inl (hw _ (List.mem_of_getElem? (i := 78) rfl))) Via.refl (pc' := 33) daC_30 rfl ?_
      refine s_dupx1 (pc' := 34) daC_33 rfl rfl rfl ?_
      refine s_iconst (x := (1 : Int32)) (pc' := 35) daC_34 rfl rfl ?_
      refine s_iadd (pc' := 36) daC_35 rfl ?_
      rw [n_succ]
      refine s_putF FN XB gb (by simp) (host := "") (Or.inl (hw _ (List.mem_of_getElem? (i := 78) rfl))) Via.refl (Or.inl (hw _ (List.mem_of_getElem? (i := 79) rfl))) (hw _ (List.mem_of_getElem? (i := 40) rfl)) (ty := .int) (by decide) rfl rfl (pc' := 39) daC_36 rfl (fun h36 W36 => ?_)
      refine s_iloadN (pc' := 40) daC_39 rfl rfl ?_
      refine s_i2b (pc' := 41) daC_40 rfl ?_
      refine s_bastore (A.other W36 hne) ga (by simp) (nn (by omega)) (lt' (by omega) (by omega)) bs.length (cl (by omega)) (by omega) (pc' := 42) daC_41 rfl (fun h41 W41 A41 => ?_)
      rw [byt_byt] at A41
      refine s_goto (pc' := 75) daC_42 (by decide) rfl ?_
      refine s_aloadN (pc' := 76) daC_75 rfl rfl rfl ?_
      exact s_aret rfl rfl rfl daC_76 (Nat.le_of_ble_eq_true rfl) (Nat.le_of_ble_eq_true rfl) ⟨rfl, ((Keep.refl _ [b, a]).wr W36 (Or.inl (by simp))).wr W41 (Or.inl (by simp)), (XB.wr W36).wr W41, ((FV.other W36 (Or.inr (slot_ne (Or.inl (hw _ (List.mem_of_getElem? (i := 65) rfl))) (Or.inl (hw _ (List.mem_of_getElem? (i := 79) rfl))) (by decide) (t := (.array .byte)) (t' := .int) (by decide) (by decide)))).other W41 (Or.inl hne.symm)), ((FC.other W36 (Or.inr (slot_ne (Or.inl (hw _ (List.mem_of_getElem? (i := 67) rfl))) (Or.inl (hw _ (List.mem_of_getElem? (i := 79) rfl))) (by decide) (t := .byte) (t' := .int) (by decide) (by decide)))).other W41 (Or.inl hne.symm)), by rw [List.length_append]; exact ((FN.same W36).other W41 (Or.inl hne.symm)), ⟨ml, ((FM.other W36 (Or.inr (slot_ne (Or.inl (hw _ (List.mem_of_getElem? (i := 215) rfl))) (Or.inl (hw _ (List.mem_of_getElem? (i := 79) rfl))) (by decide) (t := .boolean) (t' := .int) (by decide) (by decide)))).other W41 (Or.inl hne.symm))⟩, ⟨_, by rw [List.length_set]; exact hx, xs_set ht (by omega), A41⟩, (XA.wr W36).wr W41, by rw [List.length_append]; exact hm, hc⟩
def ibC : OInfo := ("java/lang/StringBuilder", jdk_67_method_14_code, 2, (some (.object "java/lang/StringBuilder")), "append", ({ frames := 2, cells := 0, slots := 0, locals := 29 } : Room))
theorem efbC (x0 : Addr) (x1 : Int32) (m : MethodId) : entryFrame m #[(.ref x0), (.int x1)] 2 = mkF m 0 #[.val (.ref x0), .val (.int x1)] [] := by first | (simp [entryFrame, mkF, argsToLocals, Value.category]; done) | rfl
theorem pdbC : parseMethodDescriptor "(C)Ljava/lang/StringBuilder;" = some ⟨[.char], some (.object "java/lang/StringBuilder")⟩ := by decide +kernel
theorem pnbC : plainFor (⟨"java/lang/StringBuilder", "append", "(C)Ljava/lang/StringBuilder;"⟩ : MethodName) = true := by decide +kernel
theorem dbC_0 : decode jdk_67_method_14_code 0 = .ok (.aload_n 0, 1) := by decide +kernel
theorem dbC_1 : decode jdk_67_method_14_code 1 = .ok (.iload_n 1, 1) := by decide +kernel
theorem dbC_2 : decode jdk_67_method_14_code 2 = .ok (.invokespecial 50, 3) := by decide +kernel
theorem dbC_5 : decode jdk_67_method_14_code 5 = .ok (.pop, 1) := by decide +kernel
theorem dbC_6 : decode jdk_67_method_14_code 6 = .ok (.aload_n 0, 1) := by decide +kernel
theorem dbC_7 : decode jdk_67_method_14_code 7 = .ok (.areturn, 1) := by decide +kernel
set_option maxRecDepth 65536 in
set_option maxHeartbeats 4000000 in
theorem rmbC (l : Launch) {Z : State} {a0 : Array Value} (G : OG Z a0) (n0 : Nat) (z : Int32) (hz : ¬ z < 0 ∧ ¬ (255 : Int32) < z) (b a : Addr) (k : ClassId) (cap : Nat) (bs : List Int32) (h0 : Heap) (B : BM Z h0 b a k cap bs) (hm : bs.length + 1 ≤ cap) (gb : n0 ≤ b) (ga : n0 ≤ a) : oCon l Z n0 EL1 [b, a] (⟨"java/lang/StringBuilder", "append", "(C)Ljava/lang/StringBuilder;"⟩ : MethodName) ibC #[.ref b, .int z] h0 (fun v h => v = some (.ref b) ∧ Keep h0 h [b, a] ∧ BM Z h b a k cap (bs ++ [z])) := by
  obtain ⟨hw, hEL, ⟨cmp, hC, hc0⟩, ⟨fm, hfm, hF⟩⟩ := id G
  refine oCon.mk hEL pnbC rfl rfl (efbC b z) fun C hCl => ?_
  refine s_aloadN (pc' := 1) dbC_0 rfl rfl rfl ?_
  refine s_iloadN (pc' := 2) dbC_1 rfl rfl ?_
  refine s_callU1 (rmaC C.l G n0 z hz b a k cap bs h0 B hm gb ga) (by simp) (Ins.self B.1) (hw _ (List.mem_of_getElem? (i := 181) rfl)) (o_sameOf (hw _ (List.mem_of_getElem? (i := 182) rfl)) (hw _ (List.mem_of_getElem? (i := 95) rfl)) rfl (by decide)) (hw _ (List.mem_of_getElem? (i := 75) rfl)) (hw _ (List.mem_of_getElem? (i := 182) rfl)) (hw _ (List.mem_of_getElem? (i := 60) rfl)) (hw _ (List.mem_of_getElem? (i := 184) rfl)) (by decide) (o_len pdaC rfl) rfl (pc' := 5) dbC_2 rfl (Nat.le_of_ble_eq_true rfl) (Nat.le_of_ble_eq_true rfl) (Nat.le_of_ble_eq_true rfl) (Nat.le_of_ble_eq_true rfl) (fun v2 h2 hQ2 => ?_)
  obtain ⟨rfl, K2, B2⟩ := hQ2
  dsimp only [oPush]
  refine s_pop (pc' := 6) dbC_5 rfl rfl ?_
  refine s_aloadN (pc' := 7) dbC_6 rfl rfl rfl ?_
  exact s_aret rfl rfl rfl dbC_7 (Nat.le_of_ble_eq_true rfl) (Nat.le_of_ble_eq_true rfl) ⟨rfl, K2, B2⟩
def icA2 : OInfo := ("java/lang/AbstractStringBuilder", jdk_68_method_14_code, 5, (some .char), "charAt", ({ frames := 2, cells := 0, slots := 0, locals := 28 } : Room))
theorem efcA2 (x0 : Addr) (x1 : Int32) (m : MethodId) : entryFrame m #[(.ref x0), (.int x1)] 5 = mkF m 0 #[.val (.ref x0), .val (.int x1), .unset, .unset, .unset] [] := by first | (simp [entryFrame, mkF, argsToLocals, Value.category]; done) | rfl
theorem pdcA2 : parseMethodDescriptor "(I)C" = some ⟨[.int], some .char⟩ := by decide +kernel
theorem pncA2 : plainFor (⟨"java/lang/AbstractStringBuilder", "charAt", "(I)C"⟩ : MethodName) = true := by decide +kernel
theorem dcA2_0 : decode jdk_68_method_14_code 0 = .ok (.aload_n 0, 1) := by decide +kernel
theorem dcA2_1 : decode jdk_68_method_14_code 1 = .ok (.getfield 22, 3) := by decide +kernel
theorem dcA2_4 : decode jdk_68_method_14_code 4 = .ok (.istore_n 2, 1) := by decide +kernel
theorem dcA2_5 : decode jdk_68_method_14_code 5 = .ok (.aload_n 0, 1) := by decide +kernel
theorem dcA2_6 : decode jdk_68_method_14_code 6 = .ok (.getfield 15, 3) := by decide +kernel
theorem dcA2_9 : decode jdk_68_method_14_code 9 = .ok (.astore_n 3, 1) := by decide +kernel
theorem dcA2_10 : decode jdk_68_method_14_code 10 = .ok (.aload_n 0, 1) := by decide +kernel
theorem dcA2_11 : decode jdk_68_method_14_code 11 = .ok (.getfield 79, 3) := by decide +kernel
theorem dcA2_14 : decode jdk_68_method_14_code 14 = .ok (.aload_n 3, 1) := by decide +kernel
theorem dcA2_15 : decode jdk_68_method_14_code 15 = .ok (.arraylength, 1) := by decide +kernel
theorem dcA2_16 : decode jdk_68_method_14_code 16 = .ok (.iload_n 2, 1) := by decide +kernel
theorem dcA2_17 : decode jdk_68_method_14_code 17 = .ok (.ishr, 1) := by decide +kernel
theorem dcA2_18 : decode jdk_68_method_14_code 18 = .ok (.invokestatic 138, 3) := by decide +kernel
theorem dcA2_21 : decode jdk_68_method_14_code 21 = .ok (.istore 4, 2) := by decide +kernel
theorem dcA2_23 : decode jdk_68_method_14_code 23 = .ok (.iload_n 1, 1) := by decide +kernel
theorem dcA2_24 : decode jdk_68_method_14_code 24 = .ok (.iload 4, 2) := by decide +kernel
theorem dcA2_26 : decode jdk_68_method_14_code 26 = .ok (.invokestatic 144, 3) := by decide +kernel
theorem dcA2_29 : decode jdk_68_method_14_code 29 = .ok (.iload_n 2, 1) := by decide +kernel
theorem dcA2_30 : decode jdk_68_method_14_code 30 = .ok (.ifCond .ne 12, 3) := by decide +kernel
theorem dcA2_33 : decode jdk_68_method_14_code 33 = .ok (.aload_n 3, 1) := by decide +kernel
theorem dcA2_34 : decode jdk_68_method_14_code 34 = .ok (.iload_n 1, 1) := by decide +kernel
theorem dcA2_35 : decode jdk_68_method_14_code 35 = .ok (.baload, 1) := by decide +kernel
theorem dcA2_36 : decode jdk_68_method_14_code 36 = .ok (.sipush 255, 3) := by decide +kernel
theorem dcA2_39 : decode jdk_68_method_14_code 39 = .ok (.iand, 1) := by decide +kernel
theorem dcA2_40 : decode jdk_68_method_14_code 40 = .ok (.i2c, 1) := by decide +kernel
theorem dcA2_41 : decode jdk_68_method_14_code 41 = .ok (.ireturn, 1) := by decide +kernel
set_option maxRecDepth 65536 in
set_option maxHeartbeats 4000000 in
theorem rmcA2 (l : Launch) {Z : State} {a0 : Array Value} (G : OG Z a0) (n0 : Nat) (j : Nat) (z : Int32) (b a : Addr) (k : ClassId) (cap : Nat) (bs : List Int32) (h0 : Heap) (B : BM Z h0 b a k cap bs) (hch : Ch bs) (hz : bs[j]? = some z) : oCon l Z n0 EL1 [] (⟨"java/lang/AbstractStringBuilder", "charAt", "(I)C"⟩ : MethodName) icA2 #[.ref b, .int (Int32.ofNat j)] h0 (fun v h => v = some (.int z) ∧ h = h0) := by
  obtain ⟨hw, hEL, ⟨cmp, hC, hc0⟩, ⟨fm, hfm, hF⟩⟩ := id G
  obtain ⟨XB, FV, FC, FN, ⟨ml, FM⟩, ⟨xs, hx, ht, A⟩, XA, hl, hc⟩ := B
  have hj : j < bs.length := (List.getElem?_eq_some_iff.mp hz).1
  refine oCon.mk hEL pncA2 rfl rfl (efcA2 b _) fun C hCl => ?_
  refine s_aloadN (pc' := 1) dcA2_0 rfl rfl rfl ?_
  refine s_getF FC (host := "") (Or.inl (hw _ (List.mem_of_getElem? (i := 66) rfl))) Via.refl (pc' := 4) dcA2_1 rfl ?_
  refine s_istoreN (kn := 2) rfl (pc' := 5) dcA2_4 rfl (o_st rfl (by first | exact One.u | exact One.val rfl | assumption) rfl) ?_
  dsimp only [List.set_cons_succ, List.set_cons_zero]
  refine s_aloadN (pc' := 6) dcA2_5 rfl rfl rfl ?_
  refine s_getF FV (host := "") (Or.inl (hw _ (List.mem_of_getElem? (i := 64) rfl))) Via.refl (pc' := 9) dcA2_6 rfl ?_
  refine s_astoreN (kn := 3) rfl (pc' := 10) dcA2_9 rfl rfl (o_st rfl (by first | exact One.u | exact One.val rfl | assumption) rfl) ?_
  dsimp only [List.set_cons_succ, List.set_cons_zero]
  refine s_aloadN (pc' := 11) dcA2_10 rfl rfl rfl ?_
  refine s_getF FN (host := "") (Or.inl (hw _ (List.mem_of_getElem? (i := 78) rfl))) Via.refl (pc' := 14) dcA2_11 rfl ?_
  refine s_aloadN (pc' := 15) dcA2_14 rfl rfl rfl ?_
  refine s_alen A (pc' := 16) dcA2_15 rfl ?_
  refine s_iloadN (pc' := 17) dcA2_16 rfl rfl ?_
  refine s_ishr (pc' := 18) dcA2_17 rfl ?_
  rw [shr_zero]
  refine s_callS2 (rmmn C.l G n0 _ _ _) (by simp) (hw _ (List.mem_of_getElem? (i := 203) rfl)) (hw _ (List.mem_of_getElem? (i := 169) rfl)) (hw _ (List.mem_of_getElem? (i := 170) rfl)) (hw _ (List.mem_of_getElem? (i := 171) rfl)) (by decide) (o_len pdmn rfl) rfl (pc' := 21) dcA2_18 rfl (Nat.le_of_ble_eq_true rfl) (Nat.le_of_ble_eq_true rfl) (Nat.le_of_ble_eq_true rfl) (Nat.le_of_ble_eq_true rfl) (fun v18 h18 hQ18 => ?_)
  obtain ⟨rfl, rfl⟩ := hQ18
  dsimp only [oPush]
  rw [if_neg (nlt' (by omega) hl)]
  refine s_istore (pc' := 23) dcA2_21 rfl (o_st rfl (by first | exact One.u | exact One.val rfl | assumption) rfl) ?_
  dsimp only [List.set_cons_succ, List.set_cons_zero]
  refine s_iloadN (pc' := 24) dcA2_23 rfl rfl ?_
  refine s_iload (pc' := 26) dcA2_24 rfl rfl ?_
  refine s_callS2 (rmsX C.l G n0 _ _ _ (nn (by omega)) (lt' (by omega) hj)) (by simp) (hw _ (List.mem_of_getElem? (i := 204) rfl)) (hw _ (List.mem_of_getElem? (i := 149) rfl)) (hw _ (List.mem_of_getElem? (i := 11) rfl)) (hw _ (List.mem_of_getElem? (i := 150) rfl)) (by decide) (o_len pdsX rfl) rfl (pc' := 29) dcA2_26 rfl (Nat.le_of_ble_eq_true rfl) (Nat.le_of_ble_eq_true rfl) (Nat.le_of_ble_eq_true rfl) (Nat.le_of_ble_eq_true rfl) (fun v26 h26 hQ26 => ?_)
  obtain ⟨rfl, rfl⟩ := hQ26
  dsimp only [oPush]
  refine s_iloadN (pc' := 30) dcA2_29 rfl rfl ?_
  refine s_if (pc' := 33) (pc'' := 42) dcA2_30 rfl (by decide) rfl (fun hc30 => ?_) (fun hc30 => ?_)
  · replace hc30 := b_ne hc30
    exact absurd rfl hc30
  · replace hc30 := b_neF hc30
    refine s_aloadN (pc' := 34) dcA2_33 rfl rfl rfl ?_
    refine s_iloadN (pc' := 35) dcA2_34 rfl rfl ?_
    refine s_baload A (nn (by omega)) (lt' (by omega) (by omega)) (v := .int (byt z)) (by rw [cl (by omega)]; exact xs_get ht hz _) (pc' := 36) dcA2_35 rfl ?_
    refine s_sipush (x := (255 : Int32)) (pc' := 39) dcA2_36 rfl rfl ?_
    refine s_iand (pc' := 40) dcA2_39 rfl ?_
    refine s_i2c (pc' := 41) dcA2_40 rfl ?_
    exact s_nret (t := .char) rfl (by simp) dcA2_41 (Nat.le_of_ble_eq_true rfl) (Nat.le_of_ble_eq_true rfl) ⟨by rw [byt_and (hch z (List.mem_of_getElem? hz)), i2c_ch (hch z (List.mem_of_getElem? hz)), nar_ch (hch z (List.mem_of_getElem? hz))], rfl⟩
def icB2 : OInfo := ("java/lang/StringBuilder", jdk_67_method_88_code, 2, (some .char), "charAt", ({ frames := 3, cells := 0, slots := 0, locals := 44 } : Room))
theorem efcB2 (x0 : Addr) (x1 : Int32) (m : MethodId) : entryFrame m #[(.ref x0), (.int x1)] 2 = mkF m 0 #[.val (.ref x0), .val (.int x1)] [] := by first | (simp [entryFrame, mkF, argsToLocals, Value.category]; done) | rfl
theorem pdcB2 : parseMethodDescriptor "(I)C" = some ⟨[.int], some .char⟩ := by decide +kernel
theorem pncB2 : plainFor (⟨"java/lang/StringBuilder", "charAt", "(I)C"⟩ : MethodName) = true := by decide +kernel
theorem dcB2_0 : decode jdk_67_method_88_code 0 = .ok (.aload_n 0, 1) := by decide +kernel
theorem dcB2_1 : decode jdk_67_method_88_code 1 = .ok (.iload_n 1, 1) := by decide +kernel
theorem dcB2_2 : decode jdk_67_method_88_code 2 = .ok (.invokespecial 329, 3) := by decide +kernel
theorem dcB2_5 : decode jdk_67_method_88_code 5 = .ok (.ireturn, 1) := by decide +kernel
set_option maxRecDepth 65536 in
set_option maxHeartbeats 4000000 in
theorem rmcB2 (l : Launch) {Z : State} {a0 : Array Value} (G : OG Z a0) (n0 : Nat) (j : Nat) (z : Int32) (b a : Addr) (k : ClassId) (cap : Nat) (bs : List Int32) (h0 : Heap) (B : BM Z h0 b a k cap bs) (hch : Ch bs) (hz : bs[j]? = some z) : oCon l Z n0 EL1 [] (⟨"java/lang/StringBuilder", "charAt", "(I)C"⟩ : MethodName) icB2 #[.ref b, .int (Int32.ofNat j)] h0 (fun v h => v = some (.int z) ∧ h = h0) := by
  obtain ⟨hw, hEL, ⟨cmp, hC, hc0⟩, ⟨fm, hfm, hF⟩⟩ := id G
  refine oCon.mk hEL pncB2 rfl rfl (efcB2 b _) fun C hCl => ?_
  refine s_aloadN (pc' := 1) dcB2_0 rfl rfl rfl ?_
  refine s_iloadN (pc' := 2) dcB2_1 rfl rfl ?_
  refine s_callU1 (rmcA2 C.l G n0 j z b a k cap bs h0 B hch hz) (by simp) (Ins.self B.1) (hw _ (List.mem_of_getElem? (i := 199) rfl)) (o_sameOf (hw _ (List.mem_of_getElem? (i := 200) rfl)) (hw _ (List.mem_of_getElem? (i := 95) rfl)) rfl (by decide)) (hw _ (List.mem_of_getElem? (i := 75) rfl)) (hw _ (List.mem_of_getElem? (i := 200) rfl)) (hw _ (List.mem_of_getElem? (i := 60) rfl)) (hw _ (List.mem_of_getElem? (i := 202) rfl)) (by decide) (o_len pdcA2 rfl) rfl (pc' := 5) dcB2_2 rfl (Nat.le_of_ble_eq_true rfl) (Nat.le_of_ble_eq_true rfl) (Nat.le_of_ble_eq_true rfl) (Nat.le_of_ble_eq_true rfl) (fun v2 h2 hQ2 => ?_)
  obtain ⟨rfl, rfl⟩ := hQ2
  dsimp only [oPush]
  exact s_nret (t := .char) rfl (by simp) dcB2_5 (Nat.le_of_ble_eq_true rfl) (Nat.le_of_ble_eq_true rfl) ⟨by rw [nar_ch (hch z (List.mem_of_getElem? hz))], rfl⟩
def isl : OInfo := ("java/lang/AbstractStringBuilder", jdk_68_method_13_code, 2, none, "setLength", ({ frames := 1, cells := 0, slots := 0, locals := 16 } : Room))
theorem efsl (x0 : Addr) (x1 : Int32) (m : MethodId) : entryFrame m #[(.ref x0), (.int x1)] 2 = mkF m 0 #[.val (.ref x0), .val (.int x1)] [] := by first | (simp [entryFrame, mkF, argsToLocals, Value.category]; done) | rfl
theorem pdsl : parseMethodDescriptor "(I)V" = some ⟨[.int], none⟩ := by decide +kernel
theorem pnsl : plainFor (⟨"java/lang/AbstractStringBuilder", "setLength", "(I)V"⟩ : MethodName) = true := by decide +kernel
theorem dsl_0 : decode jdk_68_method_13_code 0 = .ok (.iload_n 1, 1) := by decide +kernel
theorem dsl_1 : decode jdk_68_method_13_code 1 = .ok (.ifCond .ge 12, 3) := by decide +kernel
theorem dsl_13 : decode jdk_68_method_13_code 13 = .ok (.aload_n 0, 1) := by decide +kernel
theorem dsl_14 : decode jdk_68_method_13_code 14 = .ok (.iload_n 1, 1) := by decide +kernel
theorem dsl_15 : decode jdk_68_method_13_code 15 = .ok (.invokevirtual 100, 3) := by decide +kernel
theorem dsl_18 : decode jdk_68_method_13_code 18 = .ok (.aload_n 0, 1) := by decide +kernel
theorem dsl_19 : decode jdk_68_method_13_code 19 = .ok (.getfield 79, 3) := by decide +kernel
theorem dsl_22 : decode jdk_68_method_13_code 22 = .ok (.iload_n 1, 1) := by decide +kernel
theorem dsl_23 : decode jdk_68_method_13_code 23 = .ok (.if_icmp .ge 40, 3) := by decide +kernel
theorem dsl_63 : decode jdk_68_method_13_code 63 = .ok (.aload_n 0, 1) := by decide +kernel
theorem dsl_64 : decode jdk_68_method_13_code 64 = .ok (.getfield 79, 3) := by decide +kernel
theorem dsl_67 : decode jdk_68_method_13_code 67 = .ok (.iload_n 1, 1) := by decide +kernel
theorem dsl_68 : decode jdk_68_method_13_code 68 = .ok (.if_icmp .le 8, 3) := by decide +kernel
theorem dsl_71 : decode jdk_68_method_13_code 71 = .ok (.aload_n 0, 1) := by decide +kernel
theorem dsl_72 : decode jdk_68_method_13_code 72 = .ok (.iconst 1, 1) := by decide +kernel
theorem dsl_73 : decode jdk_68_method_13_code 73 = .ok (.putfield 73, 3) := by decide +kernel
theorem dsl_76 : decode jdk_68_method_13_code 76 = .ok (.aload_n 0, 1) := by decide +kernel
theorem dsl_77 : decode jdk_68_method_13_code 77 = .ok (.iload_n 1, 1) := by decide +kernel
theorem dsl_78 : decode jdk_68_method_13_code 78 = .ok (.putfield 79, 3) := by decide +kernel
theorem dsl_81 : decode jdk_68_method_13_code 81 = .ok (.return_, 1) := by decide +kernel
set_option maxRecDepth 65536 in
set_option maxHeartbeats 4000000 in
theorem rmsl (l : Launch) {Z : State} {a0 : Array Value} (G : OG Z a0) (n0 : Nat) (z : Int32) (b a : Addr) (k : ClassId) (cap : Nat) (bs : List Int32) (h0 : Heap) (B : BM Z h0 b a k cap (bs ++ [z])) (gb : n0 ≤ b) : oCon l Z n0 EL1 [b] (⟨"java/lang/AbstractStringBuilder", "setLength", "(I)V"⟩ : MethodName) isl #[.ref b, .int (Int32.ofNat bs.length)] h0 (fun v h => v = none ∧ Keep h0 h [b] ∧ BM Z h b a k cap bs) := by
  obtain ⟨hw, hEL, ⟨cmp, hC, hc0⟩, ⟨fm, hfm, hF⟩⟩ := id G
  have BB0 := B
  have hne := B.ne
  obtain ⟨XB, FV, FC, FN, ⟨ml, FM⟩, ⟨xs, hx, ht, A⟩, XA, hl, hc⟩ := B
  have hl2 := hl
  rw [List.length_append, List.length_singleton] at hl2
  rw [List.length_append, List.length_singleton] at FN
  refine oCon.mk hEL pnsl rfl rfl (efsl b _) fun C hCl => ?_
  refine s_iloadN (pc' := 1) dsl_0 rfl rfl ?_
  refine s_if (pc' := 4) (pc'' := 13) dsl_1 rfl (by decide) rfl (fun hc1 => ?_) (fun hc1 => ?_)
  · replace hc1 := b_ge hc1
    refine s_aloadN (pc' := 14) dsl_13 rfl rfl rfl ?_
    refine s_iloadN (pc' := 15) dsl_14 rfl rfl ?_
    refine s_callV1 (rmec C.l G n0 bs.length b a k cap (bs ++ [z]) h0 BB0 (by omega)) (by simp) XB (hw _ (List.mem_of_getElem? (i := 185) rfl)) (o_declOf (hw _ (List.mem_of_getElem? (i := 186) rfl)) (hw _ (List.mem_of_getElem? (i := 189) rfl))) (hw _ (List.mem_of_getElem? (i := 188) rfl)) (hw _ (List.mem_of_getElem? (i := 186) rfl)) (o_nf (hw _ (List.mem_of_getElem? (i := 188) rfl)) rfl) (hw _ (List.mem_of_getElem? (i := 60) rfl)) (hw _ (List.mem_of_getElem? (i := 189) rfl)) (by decide) (o_len pdec rfl) rfl (pc' := 18) dsl_15 rfl (Nat.le_of_ble_eq_true rfl) (Nat.le_of_ble_eq_true rfl) (Nat.le_of_ble_eq_true rfl) (Nat.le_of_ble_eq_true rfl) (fun v15 h15 hQ15 => ?_)
    obtain ⟨rfl, rfl⟩ := hQ15
    dsimp only [oPush]
    refine s_aloadN (pc' := 19) dsl_18 rfl rfl rfl ?_
    refine s_getF FN (host := "") (Or.inl (hw _ (List.mem_of_getElem? (i := 78) rfl))) Via.refl (pc' := 22) dsl_19 rfl ?_
    refine s_iloadN (pc' := 23) dsl_22 rfl rfl ?_
    refine s_icmp (pc' := 26) (pc'' := 63) dsl_23 rfl (by decide) rfl (fun hc23 => ?_) (fun hc23 => ?_)
    · replace hc23 := b_ge hc23
      refine s_aloadN (pc' := 64) dsl_63 rfl rfl rfl ?_
      refine s_getF FN (host := "") (Or.inl (hw _ (List.mem_of_getElem? (i := 78) rfl))) Via.refl (pc' := 67) dsl_64 rfl ?_
      refine s_iloadN (pc' := 68) dsl_67 rfl rfl ?_
      refine s_icmp (pc' := 71) (pc'' := 76) dsl_68 rfl (by decide) rfl (fun hc68 => ?_) (fun hc68 => ?_)
      · replace hc68 := b_le hc68
        exact absurd ((n_lt (by omega) (by omega)).mpr (by omega)) hc68
      · replace hc68 := b_leF hc68
        refine s_aloadN (pc' := 72) dsl_71 rfl rfl rfl ?_
        refine s_iconst (x := (1 : Int32)) (pc' := 73) dsl_72 rfl rfl ?_
        refine s_putF FM XB gb (by simp) (host := "") (Or.inl (hw _ (List.mem_of_getElem? (i := 214) rfl))) Via.refl (Or.inl (hw _ (List.mem_of_getElem? (i := 215) rfl))) (hw _ (List.mem_of_getElem? (i := 40) rfl)) (ty := .boolean) (by decide) rfl rfl (pc' := 76) dsl_73 rfl (fun h73 W73 => ?_)
        refine s_aloadN (pc' := 77) dsl_76 rfl rfl rfl ?_
        refine s_iloadN (pc' := 78) dsl_77 rfl rfl ?_
        refine s_putF (FN.other W73 (Or.inr (slot_ne (Or.inl (hw _ (List.mem_of_getElem? (i := 79) rfl))) (Or.inl (hw _ (List.mem_of_getElem? (i := 215) rfl))) (by decide) (t := .int) (t' := .boolean) (by decide) (by decide)))) (XB.wr W73) gb (by simp) (host := "") (Or.inl (hw _ (List.mem_of_getElem? (i := 78) rfl))) Via.refl (Or.inl (hw _ (List.mem_of_getElem? (i := 79) rfl))) (hw _ (List.mem_of_getElem? (i := 40) rfl)) (ty := .int) (by decide) rfl rfl (pc' := 81) dsl_78 rfl (fun h78 W78 => ?_)
        exact s_ret rfl dsl_81 (Nat.le_of_ble_eq_true rfl) (Nat.le_of_ble_eq_true rfl) ⟨rfl, ((Keep.refl _ [b]).wr W73 (Or.inl (by simp))).wr W78 (Or.inl (by simp)), (XB.wr W73).wr W78, ((FV.other W73 (Or.inr (slot_ne (Or.inl (hw _ (List.mem_of_getElem? (i := 65) rfl))) (Or.inl (hw _ (List.mem_of_getElem? (i := 215) rfl))) (by decide) (t := (.array .byte)) (t' := .boolean) (by decide) (by decide)))).other W78 (Or.inr (slot_ne (Or.inl (hw _ (List.mem_of_getElem? (i := 65) rfl))) (Or.inl (hw _ (List.mem_of_getElem? (i := 79) rfl))) (by decide) (t := (.array .byte)) (t' := .int) (by decide) (by decide)))), ((FC.other W73 (Or.inr (slot_ne (Or.inl (hw _ (List.mem_of_getElem? (i := 67) rfl))) (Or.inl (hw _ (List.mem_of_getElem? (i := 215) rfl))) (by decide) (t := .byte) (t' := .boolean) (by decide) (by decide)))).other W78 (Or.inr (slot_ne (Or.inl (hw _ (List.mem_of_getElem? (i := 67) rfl))) (Or.inl (hw _ (List.mem_of_getElem? (i := 79) rfl))) (by decide) (t := .byte) (t' := .int) (by decide) (by decide)))), ((FN.other W73 (Or.inr (slot_ne (Or.inl (hw _ (List.mem_of_getElem? (i := 79) rfl))) (Or.inl (hw _ (List.mem_of_getElem? (i := 215) rfl))) (by decide) (t := .int) (t' := .boolean) (by decide) (by decide)))).same W78), ⟨1, ((FM.same W73).other W78 (Or.inr (slot_ne (Or.inl (hw _ (List.mem_of_getElem? (i := 215) rfl))) (Or.inl (hw _ (List.mem_of_getElem? (i := 79) rfl))) (by decide) (t := .boolean) (t' := .int) (by decide) (by decide))))⟩, ⟨xs, hx, xs_trim ht, (A.other W73 hne).other W78 hne⟩, (XA.wr W73).wr W78, by omega, hc⟩
    · replace hc23 := b_geF hc23
      rw [n_lt (by omega) (by omega)] at hc23
      exact absurd hc23 (by omega)
  · replace hc1 := b_geF hc1
    exact absurd hc1 (nn (by omega))
def ism2 : OInfo := ("java/lang/StringBuilder", jdk_67_method_89_code, 2, none, "setLength", ({ frames := 2, cells := 0, slots := 0, locals := 29 } : Room))
theorem efsm2 (x0 : Addr) (x1 : Int32) (m : MethodId) : entryFrame m #[(.ref x0), (.int x1)] 2 = mkF m 0 #[.val (.ref x0), .val (.int x1)] [] := by first | (simp [entryFrame, mkF, argsToLocals, Value.category]; done) | rfl
theorem pdsm2 : parseMethodDescriptor "(I)V" = some ⟨[.int], none⟩ := by decide +kernel
theorem pnsm2 : plainFor (⟨"java/lang/StringBuilder", "setLength", "(I)V"⟩ : MethodName) = true := by decide +kernel
theorem dsm2_0 : decode jdk_67_method_89_code 0 = .ok (.aload_n 0, 1) := by decide +kernel
theorem dsm2_1 : decode jdk_67_method_89_code 1 = .ok (.iload_n 1, 1) := by decide +kernel
theorem dsm2_2 : decode jdk_67_method_89_code 2 = .ok (.invokespecial 333, 3) := by decide +kernel
theorem dsm2_5 : decode jdk_67_method_89_code 5 = .ok (.return_, 1) := by decide +kernel
set_option maxRecDepth 65536 in
set_option maxHeartbeats 4000000 in
theorem rmsm2 (l : Launch) {Z : State} {a0 : Array Value} (G : OG Z a0) (n0 : Nat) (z : Int32) (b a : Addr) (k : ClassId) (cap : Nat) (bs : List Int32) (h0 : Heap) (B : BM Z h0 b a k cap (bs ++ [z])) (gb : n0 ≤ b) : oCon l Z n0 EL1 [b] (⟨"java/lang/StringBuilder", "setLength", "(I)V"⟩ : MethodName) ism2 #[.ref b, .int (Int32.ofNat bs.length)] h0 (fun v h => v = none ∧ Keep h0 h [b] ∧ BM Z h b a k cap bs) := by
  obtain ⟨hw, hEL, ⟨cmp, hC, hc0⟩, ⟨fm, hfm, hF⟩⟩ := id G
  refine oCon.mk hEL pnsm2 rfl rfl (efsm2 b _) fun C hCl => ?_
  refine s_aloadN (pc' := 1) dsm2_0 rfl rfl rfl ?_
  refine s_iloadN (pc' := 2) dsm2_1 rfl rfl ?_
  refine s_callU1 (rmsl C.l G n0 z b a k cap bs h0 B gb) (by simp) (Ins.self B.1) (hw _ (List.mem_of_getElem? (i := 210) rfl)) (o_sameOf (hw _ (List.mem_of_getElem? (i := 211) rfl)) (hw _ (List.mem_of_getElem? (i := 95) rfl)) rfl (by decide)) (hw _ (List.mem_of_getElem? (i := 75) rfl)) (hw _ (List.mem_of_getElem? (i := 211) rfl)) (hw _ (List.mem_of_getElem? (i := 60) rfl)) (hw _ (List.mem_of_getElem? (i := 213) rfl)) (by decide) (o_len pdsl rfl) rfl (pc' := 5) dsm2_2 rfl (Nat.le_of_ble_eq_true rfl) (Nat.le_of_ble_eq_true rfl) (Nat.le_of_ble_eq_true rfl) (Nat.le_of_ble_eq_true rfl) (fun v2 h2 hQ2 => ?_)
  obtain ⟨rfl, K2, B2⟩ := hQ2
  dsimp only [oPush]
  exact s_ret rfl dsm2_5 (Nat.le_of_ble_eq_true rfl) (Nat.le_of_ble_eq_true rfl) ⟨rfl, K2, B2⟩
def ikL : OInfo := ("java/util/Arrays", jdk_65_method_131_code, 2, none, "checkLength", ({ frames := 0, cells := 0, slots := 0, locals := 0 } : Room))
theorem efkL (x0 : Int32) (x1 : Int32) (m : MethodId) : entryFrame m #[(.int x0), (.int x1)] 2 = mkF m 0 #[.val (.int x0), .val (.int x1)] [] := by first | (simp [entryFrame, mkF, argsToLocals, Value.category]; done) | rfl
theorem pdkL : parseMethodDescriptor "(II)V" = some ⟨[.int, .int], none⟩ := by decide +kernel
theorem pnkL : plainFor (⟨"java/util/Arrays", "checkLength", "(II)V"⟩ : MethodName) = true := by decide +kernel
theorem dkL_0 : decode jdk_65_method_131_code 0 = .ok (.iload_n 1, 1) := by decide +kernel
theorem dkL_1 : decode jdk_65_method_131_code 1 = .ok (.iload_n 0, 1) := by decide +kernel
theorem dkL_2 : decode jdk_65_method_131_code 2 = .ok (.if_icmp .ge 35, 3) := by decide +kernel
theorem dkL_37 : decode jdk_65_method_131_code 37 = .ok (.return_, 1) := by decide +kernel
set_option maxRecDepth 65536 in
set_option maxHeartbeats 4000000 in
theorem rmkL (l : Launch) {Z : State} {a0 : Array Value} (G : OG Z a0) (n0 : Nat) (x : Int32) (hx : ¬ x < 0) (h0 : Heap) : oCon l Z n0 EL1 [] (⟨"java/util/Arrays", "checkLength", "(II)V"⟩ : MethodName) ikL #[.int 0, .int x] h0 (fun v h => v = none ∧ h = h0) := by
  obtain ⟨hw, hEL, ⟨cmp, hC, hc0⟩, ⟨fm, hfm, hF⟩⟩ := id G
  refine oCon.mk hEL pnkL rfl rfl (efkL 0 x) fun C hCl => ?_
  refine s_iloadN (pc' := 1) dkL_0 rfl rfl ?_
  refine s_iloadN (pc' := 2) dkL_1 rfl rfl ?_
  refine s_icmp (pc' := 5) (pc'' := 37) dkL_2 rfl (by decide) rfl (fun hc2 => ?_) (fun hc2 => ?_)
  · replace hc2 := b_ge hc2
    exact s_ret rfl dkL_37 (Nat.le_of_ble_eq_true rfl) (Nat.le_of_ble_eq_true rfl) ⟨rfl, rfl⟩
  · replace hc2 := b_geF hc2
    exact absurd hc2 hx
def icb : OInfo := ("java/util/Arrays", jdk_65_method_133_code, 5, (some (.array .byte)), "copyOfRangeByte", ({ frames := 1, cells := 1, slots := 4, locals := 30 } : Room))
theorem efcb (x0 : Addr) (x1 : Int32) (x2 : Int32) (m : MethodId) : entryFrame m #[(.ref x0), (.int x1), (.int x2)] 5 = mkF m 0 #[.val (.ref x0), .val (.int x1), .val (.int x2), .unset, .unset] [] := by first | (simp [entryFrame, mkF, argsToLocals, Value.category]; done) | rfl
theorem pdcb : parseMethodDescriptor "([BII)[B" = some ⟨[(.array .byte), .int, .int], some (.array .byte)⟩ := by decide +kernel
theorem pncb : plainFor (⟨"java/util/Arrays", "copyOfRangeByte", "([BII)[B"⟩ : MethodName) = true := by decide +kernel
theorem dcb_0 : decode jdk_65_method_133_code 0 = .ok (.iload_n 1, 1) := by decide +kernel
theorem dcb_1 : decode jdk_65_method_133_code 1 = .ok (.iload_n 2, 1) := by decide +kernel
theorem dcb_2 : decode jdk_65_method_133_code 2 = .ok (.invokestatic 343, 3) := by decide +kernel
theorem dcb_5 : decode jdk_65_method_133_code 5 = .ok (.iload_n 2, 1) := by decide +kernel
theorem dcb_6 : decode jdk_65_method_133_code 6 = .ok (.iload_n 1, 1) := by decide +kernel
theorem dcb_7 : decode jdk_65_method_133_code 7 = .ok (.isub, 1) := by decide +kernel
theorem dcb_8 : decode jdk_65_method_133_code 8 = .ok (.istore_n 3, 1) := by decide +kernel
theorem dcb_9 : decode jdk_65_method_133_code 9 = .ok (.iload_n 3, 1) := by decide +kernel
theorem dcb_10 : decode jdk_65_method_133_code 10 = .ok (.newarray .byte, 2) := by decide +kernel
theorem dcb_12 : decode jdk_65_method_133_code 12 = .ok (.astore 4, 2) := by decide +kernel
theorem dcb_14 : decode jdk_65_method_133_code 14 = .ok (.aload_n 0, 1) := by decide +kernel
theorem dcb_15 : decode jdk_65_method_133_code 15 = .ok (.iload_n 1, 1) := by decide +kernel
theorem dcb_16 : decode jdk_65_method_133_code 16 = .ok (.aload 4, 2) := by decide +kernel
theorem dcb_18 : decode jdk_65_method_133_code 18 = .ok (.iconst 0, 1) := by decide +kernel
theorem dcb_19 : decode jdk_65_method_133_code 19 = .ok (.aload_n 0, 1) := by decide +kernel
theorem dcb_20 : decode jdk_65_method_133_code 20 = .ok (.arraylength, 1) := by decide +kernel
theorem dcb_21 : decode jdk_65_method_133_code 21 = .ok (.iload_n 1, 1) := by decide +kernel
theorem dcb_22 : decode jdk_65_method_133_code 22 = .ok (.isub, 1) := by decide +kernel
theorem dcb_23 : decode jdk_65_method_133_code 23 = .ok (.iload_n 3, 1) := by decide +kernel
theorem dcb_24 : decode jdk_65_method_133_code 24 = .ok (.invokestatic 304, 3) := by decide +kernel
theorem dcb_27 : decode jdk_65_method_133_code 27 = .ok (.invokestatic 150, 3) := by decide +kernel
theorem dcb_30 : decode jdk_65_method_133_code 30 = .ok (.aload 4, 2) := by decide +kernel
theorem dcb_32 : decode jdk_65_method_133_code 32 = .ok (.areturn, 1) := by decide +kernel
set_option maxRecDepth 65536 in
set_option maxHeartbeats 4000000 in
theorem rmcb (l : Launch) {Z : State} {a0 : Array Value} (G : OG Z a0) (n0 : Nat) (a : Addr) (k : ClassId) (cap : Nat) (bs : List Int32) (xs : List Value) (hx : xs.length = cap) (ht : xs.take bs.length = bs.map fun c => Value.int (byt c)) (hl : bs.length ≤ cap) (hc : cap ≤ 4) (h0 : Heap) (A : Arv Z h0 a k .byte (Int32.ofNat cap) xs (.int 0)) : oCon l Z n0 EL1 [] (⟨"java/util/Arrays", "copyOfRangeByte", "([BII)[B"⟩ : MethodName) icb #[.ref a, .int 0, .int (Int32.ofNat bs.length)] h0 (fun v h => ∃ d k', v = some (.ref d) ∧ h0.size ≤ d ∧ Ext h0 h ∧ Arv Z h d k' .byte (Int32.ofNat bs.length) (bs.map fun c => Value.int (byt c)) (.int 0)) := by
  obtain ⟨hw, hEL, ⟨cmp, hC, hc0⟩, ⟨fm, hfm, hF⟩⟩ := id G
  refine oCon.mk hEL pncb rfl rfl (efcb a 0 _) fun C hCl => ?_
  refine s_iloadN (pc' := 1) dcb_0 rfl rfl ?_
  refine s_iloadN (pc' := 2) dcb_1 rfl rfl ?_
  refine s_callS2 (rmkL C.l G n0 _ (nn (by omega)) h0) (by simp) (hw _ (List.mem_of_getElem? (i := 165) rfl)) (hw _ (List.mem_of_getElem? (i := 166) rfl)) (hw _ (List.mem_of_getElem? (i := 106) rfl)) (hw _ (List.mem_of_getElem? (i := 167) rfl)) (by decide) (o_len pdkL rfl) rfl (pc' := 5) dcb_2 rfl (Nat.le_of_ble_eq_true rfl) (Nat.le_of_ble_eq_true rfl) (Nat.le_of_ble_eq_true rfl) (Nat.le_of_ble_eq_true rfl) (fun v2 h2 hQ2 => ?_)
  obtain ⟨rfl, rfl⟩ := hQ2
  dsimp only [oPush]
  refine s_iloadN (pc' := 6) dcb_5 rfl rfl ?_
  refine s_iloadN (pc' := 7) dcb_6 rfl rfl ?_
  refine s_isub (pc' := 8) dcb_7 rfl ?_
  rw [Int32.sub_zero]
  refine s_istoreN (kn := 3) rfl (pc' := 9) dcb_8 rfl (o_st rfl (by first | exact One.u | exact One.val rfl | assumption) rfl) ?_
  dsimp only [List.set_cons_succ, List.set_cons_zero]
  refine s_iloadN (pc' := 10) dcb_9 rfl rfl ?_
  refine s_newA 4 (hw _ (List.mem_of_getElem? (i := 24) rfl)) (pc' := 12) dcb_10 rfl (nn (by omega)) (by rw [cl (by omega)]; omega) (by decide) (Nat.le_of_ble_eq_true rfl) (Nat.le_of_ble_eq_true rfl) (fun h10 b10 k10 g10 nb10 E10 A10 => ?_)
  replace A10 := o_padTo A10 bs.length
  rw [List.nil_append] at A10
  replace A := A.ext E10
  refine s_astore (pc' := 14) dcb_12 rfl rfl (o_st rfl (by first | exact One.u | exact One.val rfl | assumption) rfl) ?_
  dsimp only [List.set_cons_succ, List.set_cons_zero]
  refine s_aloadN (pc' := 15) dcb_14 rfl rfl rfl ?_
  refine s_iloadN (pc' := 16) dcb_15 rfl rfl ?_
  refine s_aload (pc' := 18) dcb_16 rfl rfl rfl ?_
  refine s_iconst (x := (0 : Int32)) (pc' := 19) dcb_18 rfl rfl ?_
  refine s_aloadN (pc' := 20) dcb_19 rfl rfl rfl ?_
  refine s_alen A (pc' := 21) dcb_20 rfl ?_
  refine s_iloadN (pc' := 22) dcb_21 rfl rfl ?_
  refine s_isub (pc' := 23) dcb_22 rfl ?_
  rw [Int32.sub_zero]
  refine s_iloadN (pc' := 24) dcb_23 rfl rfl ?_
  refine s_callS2 (rmmn C.l G n0 _ _ _) (by simp) (hw _ (List.mem_of_getElem? (i := 168) rfl)) (hw _ (List.mem_of_getElem? (i := 169) rfl)) (hw _ (List.mem_of_getElem? (i := 170) rfl)) (hw _ (List.mem_of_getElem? (i := 171) rfl)) (by decide) (o_len pdmn rfl) rfl (pc' := 27) dcb_24 rfl (Nat.le_of_ble_eq_true rfl) (Nat.le_of_ble_eq_true rfl) (Nat.le_of_ble_eq_true rfl) (Nat.le_of_ble_eq_true rfl) (fun v24 h24 hQ24 => ?_)
  obtain ⟨rfl, rfl⟩ := hQ24
  dsimp only [oPush]
  rw [min_nm (by omega) hl]
  refine s_copy A A10 rfl nb10 (by simp) (hw _ (List.mem_of_getElem? (i := 172) rfl)) (hw _ (List.mem_of_getElem? (i := 175) rfl)) (hw _ (List.mem_of_getElem? (i := 173) rfl)) (hw _ (List.mem_of_getElem? (i := 174) rfl)) (by decide) (by decide) (nn (by omega)) (by rw [cl (by omega), cl (by omega)]; show 0 + _ ≤ _; omega) (by rw [cl (by omega)]; show 0 + _ ≤ _; omega) (by rw [cl (by omega), List.length_replicate]; show 0 + _ ≤ _; omega) rfl (pc' := 30) dcb_27 rfl (Nat.le_of_ble_eq_true rfl) (Nat.le_of_ble_eq_true rfl) (fun h27 K27 A27 => ?_)
  rw [cl (show bs.length < 2147483648 by omega), show (0 : Int32).toNatClampNeg = 0 from rfl] at A27
  replace A27 := Eq.mp (congrArg (fun z => Arv Z h27 b10 k10 .byte (Int32.ofNat bs.length) z (.int 0)) (xs_cut ht (by omega) rfl)) A27
  refine s_aload (pc' := 32) dcb_30 rfl rfl rfl ?_
  exact s_aret rfl rfl rfl dcb_32 (Nat.le_of_ble_eq_true rfl) (Nat.le_of_ble_eq_true rfl) ⟨b10, k10, rfl, Nat.le_of_eq g10.symm, o_extKeep E10 K27 (allS (Nat.le_of_eq g10.symm) all0), A27⟩
def icr : OInfo := ("java/util/Arrays", jdk_65_method_132_code, 3, (some (.array .byte)), "copyOfRange", ({ frames := 2, cells := 1, slots := 4, locals := 46 } : Room))
theorem efcr (x0 : Addr) (x1 : Int32) (x2 : Int32) (m : MethodId) : entryFrame m #[(.ref x0), (.int x1), (.int x2)] 3 = mkF m 0 #[.val (.ref x0), .val (.int x1), .val (.int x2)] [] := by first | (simp [entryFrame, mkF, argsToLocals, Value.category]; done) | rfl
theorem pdcr : parseMethodDescriptor "([BII)[B" = some ⟨[(.array .byte), .int, .int], some (.array .byte)⟩ := by decide +kernel
theorem pncr : plainFor (⟨"java/util/Arrays", "copyOfRange", "([BII)[B"⟩ : MethodName) = true := by decide +kernel
theorem dcr_0 : decode jdk_65_method_132_code 0 = .ok (.iload_n 1, 1) := by decide +kernel
theorem dcr_1 : decode jdk_65_method_132_code 1 = .ok (.ifCond .ne 9, 3) := by decide +kernel
theorem dcr_4 : decode jdk_65_method_132_code 4 = .ok (.iload_n 2, 1) := by decide +kernel
theorem dcr_5 : decode jdk_65_method_132_code 5 = .ok (.aload_n 0, 1) := by decide +kernel
theorem dcr_6 : decode jdk_65_method_132_code 6 = .ok (.arraylength, 1) := by decide +kernel
theorem dcr_7 : decode jdk_65_method_132_code 7 = .ok (.if_icmp .eq 10, 3) := by decide +kernel
theorem dcr_10 : decode jdk_65_method_132_code 10 = .ok (.aload_n 0, 1) := by decide +kernel
theorem dcr_11 : decode jdk_65_method_132_code 11 = .ok (.iload_n 1, 1) := by decide +kernel
theorem dcr_12 : decode jdk_65_method_132_code 12 = .ok (.iload_n 2, 1) := by decide +kernel
theorem dcr_13 : decode jdk_65_method_132_code 13 = .ok (.invokestatic 339, 3) := by decide +kernel
theorem dcr_16 : decode jdk_65_method_132_code 16 = .ok (.areturn, 1) := by decide +kernel
theorem dcr_17 : decode jdk_65_method_132_code 17 = .ok (.aload_n 0, 1) := by decide +kernel
theorem dcr_18 : decode jdk_65_method_132_code 18 = .ok (.invokevirtual 310, 3) := by decide +kernel
theorem dcr_21 : decode jdk_65_method_132_code 21 = .ok (.checkcast 311, 3) := by decide +kernel
theorem dcr_24 : decode jdk_65_method_132_code 24 = .ok (.areturn, 1) := by decide +kernel
set_option maxRecDepth 65536 in
set_option maxHeartbeats 4000000 in
theorem rmcr (l : Launch) {Z : State} {a0 : Array Value} (G : OG Z a0) (n0 : Nat) (a : Addr) (k : ClassId) (cap : Nat) (bs : List Int32) (xs : List Value) (hx : xs.length = cap) (ht : xs.take bs.length = bs.map fun c => Value.int (byt c)) (hl : bs.length ≤ cap) (hc : cap ≤ 4) (h0 : Heap) (A : Arv Z h0 a k .byte (Int32.ofNat cap) xs (.int 0)) (XA : Exa Z h0 a "[B") : oCon l Z n0 EL1 [] (⟨"java/util/Arrays", "copyOfRange", "([BII)[B"⟩ : MethodName) icr #[.ref a, .int 0, .int (Int32.ofNat bs.length)] h0 (fun v h => ∃ d k', v = some (.ref d) ∧ h0.size ≤ d ∧ Ext h0 h ∧ Arv Z h d k' .byte (Int32.ofNat bs.length) (bs.map fun c => Value.int (byt c)) (.int 0)) := by
  obtain ⟨hw, hEL, ⟨cmp, hC, hc0⟩, ⟨fm, hfm, hF⟩⟩ := id G
  refine oCon.mk hEL pncr rfl rfl (efcr a 0 _) fun C hCl => ?_
  refine s_iloadN (pc' := 1) dcr_0 rfl rfl ?_
  refine s_if (pc' := 4) (pc'' := 10) dcr_1 rfl (by decide) rfl (fun hc1 => ?_) (fun hc1 => ?_)
  · replace hc1 := b_ne hc1
    exact absurd rfl hc1
  · replace hc1 := b_neF hc1
    refine s_iloadN (pc' := 5) dcr_4 rfl rfl ?_
    refine s_aloadN (pc' := 6) dcr_5 rfl rfl rfl ?_
    refine s_alen A (pc' := 7) dcr_6 rfl ?_
    refine s_icmp (pc' := 10) (pc'' := 17) dcr_7 rfl (by decide) rfl (fun hc7 => ?_) (fun hc7 => ?_)
    · replace hc7 := b_eq hc7
      have hlc : bs.length = cap := n_inj (by omega) (by omega) hc7
      rw [hlc, List.take_of_length_le (by omega)] at ht
      subst hlc
      rw [ht] at A
      refine s_aloadN (pc' := 18) dcr_17 rfl rfl rfl ?_
      refine s_clone 4 A XA (hw _ (List.mem_of_getElem? (i := 108) rfl)) (hw _ (List.mem_of_getElem? (i := 109) rfl)) (hw _ (List.mem_of_getElem? (i := 113) rfl)) (hw _ (List.mem_of_getElem? (i := 111) rfl)) (hw _ (List.mem_of_getElem? (i := 112) rfl)) (hw _ (List.mem_of_getElem? (i := 114) rfl)) rfl (pc' := 21) dcr_18 rfl (Nat.le_of_ble_eq_true rfl) (Nat.le_of_ble_eq_true rfl) (by rw [cl (by omega)]; exact hc) (Nat.le_of_ble_eq_true rfl) (Nat.le_of_ble_eq_true rfl) (fun h18 d g18 nb18 E18 A18 X18 => ?_)
      refine s_castY (Ins.self X18) (hw _ (List.mem_of_getElem? (i := 115) rfl)) (pc' := 24) dcr_21 rfl ?_
      exact s_aret rfl rfl rfl dcr_24 (Nat.le_of_ble_eq_true rfl) (Nat.le_of_ble_eq_true rfl) ⟨d, k, rfl, Nat.le_of_eq g18.symm, E18, A18⟩
    · replace hc7 := b_eqF hc7
      refine s_aloadN (pc' := 11) dcr_10 rfl rfl rfl ?_
      refine s_iloadN (pc' := 12) dcr_11 rfl rfl ?_
      refine s_iloadN (pc' := 13) dcr_12 rfl rfl ?_
      refine s_callS3 (rmcb C.l G n0 a k cap bs xs hx ht hl hc h0 A) (by simp) (hw _ (List.mem_of_getElem? (i := 162) rfl)) (hw _ (List.mem_of_getElem? (i := 163) rfl)) (hw _ (List.mem_of_getElem? (i := 106) rfl)) (hw _ (List.mem_of_getElem? (i := 164) rfl)) (by decide) (o_len pdcb rfl) rfl (pc' := 16) dcr_13 rfl (Nat.le_of_ble_eq_true rfl) (Nat.le_of_ble_eq_true rfl) (Nat.le_of_ble_eq_true rfl) (Nat.le_of_ble_eq_true rfl) (fun v13 h13 hQ13 => ?_)
      obtain ⟨d, k2, rfl, q1, q2, q3⟩ := hQ13
      dsimp only [oPush]
      exact s_aret rfl rfl rfl dcr_16 (Nat.le_of_ble_eq_true rfl) (Nat.le_of_ble_eq_true rfl) ⟨d, k2, rfl, q1, q2, q3⟩
def isS : OInfo := ("java/lang/String", jdk_42_method_150_code, 5, none, "<init>", ({ frames := 3, cells := 1, slots := 4, locals := 61 } : Room))
theorem pdsS : parseMethodDescriptor "(Ljava/lang/AbstractStringBuilder;Ljava/lang/Void;)V" = some ⟨[(.object "java/lang/AbstractStringBuilder"), (.object "java/lang/Void")], none⟩ := by decide +kernel
theorem pnsS : plainFor (⟨"java/lang/String", "<init>", "(Ljava/lang/AbstractStringBuilder;Ljava/lang/Void;)V"⟩ : MethodName) = true := by decide +kernel
theorem efsS (x0 x1 : Addr) (m : MethodId) : entryFrame m #[(.ref x0), (.ref x1), .null] 5 = mkF m 0 #[.val (.ref x0), .val (.ref x1), .val .null, .unset, .unset] [] := by first | (simp [entryFrame, mkF, argsToLocals, Value.category]; done) | rfl
theorem dsS_0 : decode jdk_42_method_150_code 0 = .ok (.aload_n 0, 1) := by decide +kernel
theorem dsS_1 : decode jdk_42_method_150_code 1 = .ok (.invokespecial 1, 3) := by decide +kernel
theorem dsS_4 : decode jdk_42_method_150_code 4 = .ok (.aload_n 1, 1) := by decide +kernel
theorem dsS_5 : decode jdk_42_method_150_code 5 = .ok (.invokevirtual 552, 3) := by decide +kernel
theorem dsS_8 : decode jdk_42_method_150_code 8 = .ok (.astore_n 3, 1) := by decide +kernel
theorem dsS_9 : decode jdk_42_method_150_code 9 = .ok (.aload_n 1, 1) := by decide +kernel
theorem dsS_10 : decode jdk_42_method_150_code 10 = .ok (.invokevirtual 549, 3) := by decide +kernel
theorem dsS_13 : decode jdk_42_method_150_code 13 = .ok (.istore 4, 2) := by decide +kernel
theorem dsS_15 : decode jdk_42_method_150_code 15 = .ok (.aload_n 1, 1) := by decide +kernel
theorem dsS_16 : decode jdk_42_method_150_code 16 = .ok (.invokevirtual 1047, 3) := by decide +kernel
theorem dsS_19 : decode jdk_42_method_150_code 19 = .ok (.ifCond .eq 22, 3) := by decide +kernel
theorem dsS_22 : decode jdk_42_method_150_code 22 = .ok (.aload_n 0, 1) := by decide +kernel
theorem dsS_23 : decode jdk_42_method_150_code 23 = .ok (.iconst 0, 1) := by decide +kernel
theorem dsS_24 : decode jdk_42_method_150_code 24 = .ok (.putfield 15, 3) := by decide +kernel
theorem dsS_27 : decode jdk_42_method_150_code 27 = .ok (.aload_n 0, 1) := by decide +kernel
theorem dsS_28 : decode jdk_42_method_150_code 28 = .ok (.aload_n 3, 1) := by decide +kernel
theorem dsS_29 : decode jdk_42_method_150_code 29 = .ok (.iconst 0, 1) := by decide +kernel
theorem dsS_30 : decode jdk_42_method_150_code 30 = .ok (.iload 4, 2) := by decide +kernel
theorem dsS_32 : decode jdk_42_method_150_code 32 = .ok (.invokestatic 54, 3) := by decide +kernel
theorem dsS_35 : decode jdk_42_method_150_code 35 = .ok (.putfield 9, 3) := by decide +kernel
theorem dsS_38 : decode jdk_42_method_150_code 38 = .ok (.goto 59, 3) := by decide +kernel
theorem dsS_97 : decode jdk_42_method_150_code 97 = .ok (.return_, 1) := by decide +kernel
set_option maxRecDepth 65536 in
set_option maxHeartbeats 4000000 in
theorem rmsS (l : Launch) {Z : State} {a0 : Array Value} (G : OG Z a0) (n0 : Nat) (s b a : Addr) (k : ClassId) (cap : Nat) (bs : List Int32) (h0 : Heap) (B : BM Z h0 b a k cap bs) (X1 : Exa Z h0 s "java/lang/String") (G1 : Fld Z h0 s "java/lang/String" "value" "[B" .null) (G2 : Fld Z h0 s "java/lang/String" "coder" "B" (.int 0)) (gs : n0 ≤ s) : oCon l Z n0 EL1 [s] (⟨"java/lang/String", "<init>", "(Ljava/lang/AbstractStringBuilder;Ljava/lang/Void;)V"⟩ : MethodName) isS #[.ref s, .ref b, .null] h0 (fun v h => v = none ∧ Keep h0 h [s] ∧ SV Z h h.size s bs) := by
  obtain ⟨hw, hEL, ⟨cmp, hC, hc0⟩, ⟨fm, hfm, hF⟩⟩ := id G
  obtain ⟨XB, FV, FC, FN, ⟨ml, FM⟩, ⟨xs, hx, ht, A⟩, XA, hl, hc⟩ := B
  refine oCon.mk hEL pnsS rfl rfl (efsS s b) fun C hCl => ?_
  refine s_aloadN (pc' := 1) dsS_0 rfl rfl rfl ?_
  refine s_initO (hw _ (List.mem_of_getElem? (i := 20) rfl)) (hw _ (List.mem_of_getElem? (i := 21) rfl)) (hw _ (List.mem_of_getElem? (i := 22) rfl)) rfl (pc' := 4) dsS_1 rfl (Nat.le_of_ble_eq_true rfl) (Nat.le_of_ble_eq_true rfl) ?_
  refine s_aloadN (pc' := 5) dsS_4 rfl rfl rfl ?_
  refine s_callV0 (rmgv C.l G n0 b a h0 FV) (by simp) XB (hw _ (List.mem_of_getElem? (i := 92) rfl)) (hw _ (List.mem_of_getElem? (i := 93) rfl)) (hw _ (List.mem_of_getElem? (i := 95) rfl)) (hw _ (List.mem_of_getElem? (i := 94) rfl)) (o_nf (hw _ (List.mem_of_getElem? (i := 95) rfl)) rfl) (hw _ (List.mem_of_getElem? (i := 60) rfl)) (hw _ (List.mem_of_getElem? (i := 96) rfl)) (by decide) (o_len pdgv rfl) rfl (pc' := 8) dsS_5 rfl (Nat.le_of_ble_eq_true rfl) (Nat.le_of_ble_eq_true rfl) (Nat.le_of_ble_eq_true rfl) (Nat.le_of_ble_eq_true rfl) (fun v5 h5 hQ5 => ?_)
  obtain ⟨rfl, rfl⟩ := hQ5
  dsimp only [oPush]
  refine s_astoreN (kn := 3) rfl (pc' := 9) dsS_8 rfl rfl (o_st rfl (by first | exact One.u | exact One.val rfl | assumption) rfl) ?_
  dsimp only [List.set_cons_succ, List.set_cons_zero]
  refine s_aloadN (pc' := 10) dsS_9 rfl rfl rfl ?_
  refine s_callV0 (rmlB C.l G n0 b _ _ XB FN) (by simp) XB (hw _ (List.mem_of_getElem? (i := 97) rfl)) (hw _ (List.mem_of_getElem? (i := 76) rfl)) (hw _ (List.mem_of_getElem? (i := 98) rfl)) (hw _ (List.mem_of_getElem? (i := 70) rfl)) (o_nf2 (hw _ (List.mem_of_getElem? (i := 95) rfl)) rfl) (hw _ (List.mem_of_getElem? (i := 41) rfl)) (hw _ (List.mem_of_getElem? (i := 72) rfl)) (by decide) (o_len pdlA rfl) rfl (pc' := 13) dsS_10 rfl (Nat.le_of_ble_eq_true rfl) (Nat.le_of_ble_eq_true rfl) (Nat.le_of_ble_eq_true rfl) (Nat.le_of_ble_eq_true rfl) (fun v10 h10 hQ10 => ?_)
  obtain ⟨rfl, rfl⟩ := hQ10
  dsimp only [oPush]
  refine s_istore (pc' := 15) dsS_13 rfl (o_st rfl (by first | exact One.u | exact One.val rfl | assumption) rfl) ?_
  dsimp only [List.set_cons_succ, List.set_cons_zero]
  refine s_aloadN (pc' := 16) dsS_15 rfl rfl rfl ?_
  refine s_callV0 (rmiL C.l G n0 b _ FC) (by simp) XB (hw _ (List.mem_of_getElem? (i := 99) rfl)) (hw _ (List.mem_of_getElem? (i := 100) rfl)) (hw _ (List.mem_of_getElem? (i := 102) rfl)) (hw _ (List.mem_of_getElem? (i := 101) rfl)) (o_nf (hw _ (List.mem_of_getElem? (i := 102) rfl)) rfl) (hw _ (List.mem_of_getElem? (i := 60) rfl)) (hw _ (List.mem_of_getElem? (i := 103) rfl)) (by decide) (o_len pdiL rfl) rfl (pc' := 19) dsS_16 rfl (Nat.le_of_ble_eq_true rfl) (Nat.le_of_ble_eq_true rfl) (Nat.le_of_ble_eq_true rfl) (Nat.le_of_ble_eq_true rfl) (fun v16 h16 hQ16 => ?_)
  obtain ⟨rfl, rfl⟩ := hQ16
  dsimp only [oPush]
  refine s_if (pc' := 22) (pc'' := 41) dsS_19 rfl (by decide) rfl (fun hc19 => ?_) (fun hc19 => ?_)
  · replace hc19 := b_eq hc19
    exact absurd hc19 (by decide)
  · replace hc19 := b_eqF hc19
    refine s_aloadN (pc' := 23) dsS_22 rfl rfl rfl ?_
    refine s_iconst (x := (0 : Int32)) (pc' := 24) dsS_23 rfl rfl ?_
    refine s_putF G2 X1 gs (by simp) (host := "") (Or.inl (hw _ (List.mem_of_getElem? (i := 30) rfl))) Via.refl (Or.inr ⟨(hw _ (List.mem_of_getElem? (i := 26) rfl)), rfl, rfl⟩) (hw _ (List.mem_of_getElem? (i := 10) rfl)) (ty := .byte) (by decide) rfl rfl (pc' := 27) dsS_24 rfl (fun h24 W24 => ?_)
    have nas : a ≠ s := Exa.ne XA X1 (by decide)
    replace A := A.other W24 nas
    replace XA := XA.wr W24
    refine s_aloadN (pc' := 28) dsS_27 rfl rfl rfl ?_
    refine s_aloadN (pc' := 29) dsS_28 rfl rfl rfl ?_
    refine s_iconst (x := (0 : Int32)) (pc' := 30) dsS_29 rfl rfl ?_
    refine s_iload (pc' := 32) dsS_30 rfl rfl ?_
    refine s_callS3 (rmcr C.l G n0 a k cap bs xs hx ht hl hc _ A XA) (by simp) (hw _ (List.mem_of_getElem? (i := 104) rfl)) (hw _ (List.mem_of_getElem? (i := 105) rfl)) (hw _ (List.mem_of_getElem? (i := 106) rfl)) (hw _ (List.mem_of_getElem? (i := 107) rfl)) (by decide) (o_len pdcr rfl) rfl (pc' := 35) dsS_32 rfl (Nat.le_of_ble_eq_true rfl) (Nat.le_of_ble_eq_true rfl) (Nat.le_of_ble_eq_true rfl) (Nat.le_of_ble_eq_true rfl) (fun v32 h32 hQ32 => ?_)
    obtain ⟨d, k2, rfl, gd, E32, A32⟩ := hQ32
    dsimp only [oPush]
    have sz := (Keep.of_wr W24).1
    have nds : d ≠ s := (o_fresh' (Nat.lt_of_lt_of_le X1.lt sz) gd).symm
    refine s_putF ((G1.other W24 (Or.inr (slot_ne (Or.inr (hw _ (List.mem_of_getElem? (i := 25) rfl))) (Or.inr (hw _ (List.mem_of_getElem? (i := 26) rfl))) (by decide) (t := .array .byte) (t' := .byte) (by decide) (by decide)))).ext E32) ((X1.wr W24).ext E32) gs (by simp) (host := "") (Or.inl (hw _ (List.mem_of_getElem? (i := 29) rfl))) Via.refl (Or.inr ⟨(hw _ (List.mem_of_getElem? (i := 25) rfl)), rfl, rfl⟩) (hw _ (List.mem_of_getElem? (i := 10) rfl)) (ty := .array .byte) (by decide) rfl rfl (pc' := 38) dsS_35 rfl (fun h35 W35 => ?_)
    refine s_goto (pc' := 97) dsS_38 (by decide) rfl ?_
    exact s_ret rfl dsS_97 (Nat.le_of_ble_eq_true rfl) (Nat.le_of_ble_eq_true rfl) ⟨rfl, (((Keep.refl _ [s]).wr W24 (Or.inl (List.mem_cons_self ..))).ext E32).wr W35 (Or.inl (List.mem_cons_self ..)), d, k2, (((X1.wr W24).ext E32).wr W35).lt, ((A32.other W35 nds)).lt, ((X1.wr W24).ext E32).wr W35, (((G2.same W24).ext E32).other W35 (Or.inr (slot_ne (Or.inr (hw _ (List.mem_of_getElem? (i := 26) rfl))) (Or.inr (hw _ (List.mem_of_getElem? (i := 25) rfl))) (by decide) (t := .byte) (t' := .array .byte) (by decide) (by decide)))), (((G1.other W24 (Or.inr (slot_ne (Or.inr (hw _ (List.mem_of_getElem? (i := 25) rfl))) (Or.inr (hw _ (List.mem_of_getElem? (i := 26) rfl))) (by decide) (t := .array .byte) (t' := .byte) (by decide) (by decide)))).ext E32).same W35), A32.other W35 nds⟩
def isT : OInfo := ("java/lang/String", jdk_42_method_53_code, 2, none, "<init>", ({ frames := 4, cells := 1, slots := 4, locals := 77 } : Room))
theorem efsT (x0 : Addr) (x1 : Addr) (m : MethodId) : entryFrame m #[(.ref x0), (.ref x1)] 2 = mkF m 0 #[.val (.ref x0), .val (.ref x1)] [] := by first | (simp [entryFrame, mkF, argsToLocals, Value.category]; done) | rfl
theorem pdsT : parseMethodDescriptor "(Ljava/lang/StringBuilder;)V" = some ⟨[(.object "java/lang/StringBuilder")], none⟩ := by decide +kernel
theorem pnsT : plainFor (⟨"java/lang/String", "<init>", "(Ljava/lang/StringBuilder;)V"⟩ : MethodName) = true := by decide +kernel
theorem dsT_0 : decode jdk_42_method_53_code 0 = .ok (.aload_n 0, 1) := by decide +kernel
theorem dsT_1 : decode jdk_42_method_53_code 1 = .ok (.aload_n 1, 1) := by decide +kernel
theorem dsT_2 : decode jdk_42_method_53_code 2 = .ok (.aconst_null, 1) := by decide +kernel
theorem dsT_3 : decode jdk_42_method_53_code 3 = .ok (.invokespecial 489, 3) := by decide +kernel
theorem dsT_6 : decode jdk_42_method_53_code 6 = .ok (.return_, 1) := by decide +kernel
set_option maxRecDepth 65536 in
set_option maxHeartbeats 4000000 in
theorem rmsT (l : Launch) {Z : State} {a0 : Array Value} (G : OG Z a0) (n0 : Nat) (s b a : Addr) (k : ClassId) (cap : Nat) (bs : List Int32) (h0 : Heap) (B : BM Z h0 b a k cap bs) (X1 : Exa Z h0 s "java/lang/String") (G1 : Fld Z h0 s "java/lang/String" "value" "[B" .null) (G2 : Fld Z h0 s "java/lang/String" "coder" "B" (.int 0)) (gs : n0 ≤ s) : oCon l Z n0 EL1 [s] (⟨"java/lang/String", "<init>", "(Ljava/lang/StringBuilder;)V"⟩ : MethodName) isT #[.ref s, .ref b] h0 (fun v h => v = none ∧ Keep h0 h [s] ∧ SV Z h h.size s bs) := by
  obtain ⟨hw, hEL, ⟨cmp, hC, hc0⟩, ⟨fm, hfm, hF⟩⟩ := id G
  refine oCon.mk hEL pnsT rfl rfl (efsT s b) fun C hCl => ?_
  refine s_aloadN (pc' := 1) dsT_0 rfl rfl rfl ?_
  refine s_aloadN (pc' := 2) dsT_1 rfl rfl rfl ?_
  refine s_null (pc' := 3) dsT_2 rfl ?_
  refine s_callI2 (rmsS C.l G n0 s b a k cap bs h0 B X1 G1 G2 gs) (by simp) rfl rfl (hw _ (List.mem_of_getElem? (i := 89) rfl)) (hw _ (List.mem_of_getElem? (i := 90) rfl)) (hw _ (List.mem_of_getElem? (i := 11) rfl)) (hw _ (List.mem_of_getElem? (i := 91) rfl)) (by decide) (o_len pdsS rfl) rfl (pc' := 6) dsT_3 rfl (Nat.le_of_ble_eq_true rfl) (Nat.le_of_ble_eq_true rfl) (Nat.le_of_ble_eq_true rfl) (Nat.le_of_ble_eq_true rfl) (fun v3 h3 hQ3 => ?_)
  obtain ⟨rfl, K3, V3⟩ := hQ3
  dsimp only [oPush]
  exact s_ret rfl dsT_6 (Nat.le_of_ble_eq_true rfl) (Nat.le_of_ble_eq_true rfl) ⟨rfl, K3, V3⟩
def itS : OInfo := ("java/lang/StringBuilder", jdk_67_method_42_code, 1, (some (.object "java/lang/String")), "toString", ({ frames := 5, cells := 2, slots := 8, locals := 91 } : Room))
theorem eftS (x0 : Addr) (m : MethodId) : entryFrame m #[(.ref x0)] 1 = mkF m 0 #[.val (.ref x0)] [] := by first | (simp [entryFrame, mkF, argsToLocals, Value.category]; done) | rfl
theorem pdtS : parseMethodDescriptor "()Ljava/lang/String;" = some ⟨[], some (.object "java/lang/String")⟩ := by decide +kernel
theorem pntS : plainFor (⟨"java/lang/StringBuilder", "toString", "()Ljava/lang/String;"⟩ : MethodName) = true := by decide +kernel
theorem dtS_0 : decode jdk_67_method_42_code 0 = .ok (.new 18, 3) := by decide +kernel
theorem dtS_3 : decode jdk_67_method_42_code 3 = .ok (.dup, 1) := by decide +kernel
theorem dtS_4 : decode jdk_67_method_42_code 4 = .ok (.aload_n 0, 1) := by decide +kernel
theorem dtS_5 : decode jdk_67_method_42_code 5 = .ok (.invokespecial 137, 3) := by decide +kernel
theorem dtS_8 : decode jdk_67_method_42_code 8 = .ok (.areturn, 1) := by decide +kernel
set_option maxRecDepth 65536 in
set_option maxHeartbeats 4000000 in
theorem rmtS (l : Launch) {Z : State} {a0 : Array Value} (G : OG Z a0) (n0 : Nat) (b a : Addr) (k : ClassId) (cap : Nat) (bs : List Int32) (h0 : Heap) (B : BM Z h0 b a k cap bs) : oCon l Z n0 EL1 [] (⟨"java/lang/StringBuilder", "toString", "()Ljava/lang/String;"⟩ : MethodName) itS #[.ref b] h0 (fun v h => ∃ r, v = some (.ref r) ∧ h0.size ≤ r ∧ Ext h0 h ∧ SV Z h h.size r bs) := by
  obtain ⟨hw, hEL, ⟨cmp, hC, hc0⟩, ⟨fm, hfm, hF⟩⟩ := id G
  refine oCon.mk hEL pntS rfl rfl (eftS b) fun C hCl => ?_
  refine s_new (hw _ (List.mem_of_getElem? (i := 85) rfl)) (hw _ (List.mem_of_getElem? (i := 10) rfl)) (hw _ (List.mem_of_getElem? (i := 11) rfl)) (pc' := 3) dtS_0 rfl (Nat.le_of_ble_eq_true rfl) (Nat.le_of_ble_eq_true rfl) (fun h0 b0 g0 nb0 E0 A0 D0 => ?_)
  refine s_dup (pc' := 4) dtS_3 rfl rfl ?_
  refine s_aloadN (pc' := 5) dtS_4 rfl rfl rfl ?_
  refine s_callI1 (rmsT C.l G n0 b0 b a k cap bs _ (B.ext E0) A0 (D0 (Or.inr (hw _ (List.mem_of_getElem? (i := 25) rfl))) (ty := .array .byte) (by decide)) (D0 (Or.inr (hw _ (List.mem_of_getElem? (i := 26) rfl))) (ty := .byte) (by decide)) nb0) (by simp) rfl rfl (hw _ (List.mem_of_getElem? (i := 86) rfl)) (hw _ (List.mem_of_getElem? (i := 87) rfl)) (hw _ (List.mem_of_getElem? (i := 11) rfl)) (hw _ (List.mem_of_getElem? (i := 88) rfl)) (by decide) (o_len pdsT rfl) rfl (pc' := 8) dtS_5 rfl (Nat.le_of_ble_eq_true rfl) (Nat.le_of_ble_eq_true rfl) (Nat.le_of_ble_eq_true rfl) (Nat.le_of_ble_eq_true rfl) (fun v5 h5 hQ5 => ?_)
  obtain ⟨rfl, K5, V5⟩ := hQ5
  dsimp only [oPush]
  exact s_aret rfl rfl rfl dtS_8 (Nat.le_of_ble_eq_true rfl) (Nat.le_of_ble_eq_true rfl) ⟨b0, rfl, Nat.le_of_eq g0.symm, o_extKeep E0 K5 (allS (Nat.le_of_eq g0.symm) all0), V5⟩
def dgt (x : Int32) : Prop := ¬ x < 48 ∧ ¬ (57 : Int32) < x
def al (x : Int32) : Prop := (¬ x < 97 ∧ ¬ (122 : Int32) < x) ∨ (¬ x < 65 ∧ ¬ (90 : Int32) < x) ∨ dgt x
instance : DecidablePred al := fun x => by unfold al dgt; infer_instance
def iiD : OInfo := ("com/example/typeloom/typeloom/ttcn/Identifiers", prog_19_method_17_code, 1, (some .boolean), "isDigit", ({ frames := 0, cells := 0, slots := 0, locals := 0 } : Room))
theorem efiD (x0 : Int32) (m : MethodId) : entryFrame m #[(.int x0)] 1 = mkF m 0 #[.val (.int x0)] [] := by first | (simp [entryFrame, mkF, argsToLocals, Value.category]; done) | rfl
theorem pdiD : parseMethodDescriptor "(C)Z" = some ⟨[.char], some .boolean⟩ := by decide +kernel
theorem pniD : plainFor (⟨"com/example/typeloom/typeloom/ttcn/Identifiers", "isDigit", "(C)Z"⟩ : MethodName) = true := by decide +kernel
theorem diD_0 : decode prog_19_method_17_code 0 = .ok (.iload_n 0, 1) := by decide +kernel
theorem diD_1 : decode prog_19_method_17_code 1 = .ok (.bipush 48, 2) := by decide +kernel
theorem diD_3 : decode prog_19_method_17_code 3 = .ok (.if_icmp .lt 13, 3) := by decide +kernel
theorem diD_6 : decode prog_19_method_17_code 6 = .ok (.iload_n 0, 1) := by decide +kernel
theorem diD_7 : decode prog_19_method_17_code 7 = .ok (.bipush 57, 2) := by decide +kernel
theorem diD_9 : decode prog_19_method_17_code 9 = .ok (.if_icmp .gt 7, 3) := by decide +kernel
theorem diD_12 : decode prog_19_method_17_code 12 = .ok (.iconst 1, 1) := by decide +kernel
theorem diD_13 : decode prog_19_method_17_code 13 = .ok (.goto 4, 3) := by decide +kernel
theorem diD_16 : decode prog_19_method_17_code 16 = .ok (.iconst 0, 1) := by decide +kernel
theorem diD_17 : decode prog_19_method_17_code 17 = .ok (.ireturn, 1) := by decide +kernel
set_option maxRecDepth 65536 in
set_option maxHeartbeats 4000000 in
theorem rmiD (l : Launch) {Z : State} {a0 : Array Value} (G : OG Z a0) (n0 : Nat) (x : Int32) (h0 : Heap) : oCon l Z n0 EL1 [] (⟨"com/example/typeloom/typeloom/ttcn/Identifiers", "isDigit", "(C)Z"⟩ : MethodName) iiD #[.int x] h0 (fun v h => ∃ r : Int32, v = some (.int r) ∧ h = h0 ∧ ((r = 1 ∧ dgt x) ∨ (r = 0 ∧ ¬ dgt x))) := by
  obtain ⟨hw, hEL, ⟨cmp, hC, hc0⟩, ⟨fm, hfm, hF⟩⟩ := id G
  refine oCon.mk hEL pniD rfl rfl (efiD x) fun C hCl => ?_
  refine s_iloadN (pc' := 1) diD_0 rfl rfl ?_
  refine s_bipush (x := (48 : Int32)) (pc' := 3) diD_1 rfl rfl ?_
  refine s_icmp (pc' := 6) (pc'' := 16) diD_3 rfl (by decide) rfl (fun hc3 => ?_) (fun hc3 => ?_)
  · replace hc3 := b_lt hc3
    refine s_iconst (x := (0 : Int32)) (pc' := 17) diD_16 rfl rfl ?_
    exact s_nret (t := .boolean) rfl (by simp) diD_17 (Nat.le_of_ble_eq_true rfl) (Nat.le_of_ble_eq_true rfl) (by first | exact ⟨1, rfl, rfl, Or.inl ⟨rfl, hc3, hc9⟩⟩ | exact ⟨0, rfl, rfl, Or.inr ⟨rfl, fun q => q.1 hc3⟩⟩ | exact ⟨0, rfl, rfl, Or.inr ⟨rfl, fun q => q.2 hc9⟩⟩)
  · replace hc3 := b_ltF hc3
    refine s_iloadN (pc' := 7) diD_6 rfl rfl ?_
    refine s_bipush (x := (57 : Int32)) (pc' := 9) diD_7 rfl rfl ?_
    refine s_icmp (pc' := 12) (pc'' := 16) diD_9 rfl (by decide) rfl (fun hc9 => ?_) (fun hc9 => ?_)
    · replace hc9 := b_gt hc9
      refine s_iconst (x := (0 : Int32)) (pc' := 17) diD_16 rfl rfl ?_
      exact s_nret (t := .boolean) rfl (by simp) diD_17 (Nat.le_of_ble_eq_true rfl) (Nat.le_of_ble_eq_true rfl) (by first | exact ⟨1, rfl, rfl, Or.inl ⟨rfl, hc3, hc9⟩⟩ | exact ⟨0, rfl, rfl, Or.inr ⟨rfl, fun q => q.1 hc3⟩⟩ | exact ⟨0, rfl, rfl, Or.inr ⟨rfl, fun q => q.2 hc9⟩⟩)
    · replace hc9 := b_gtF hc9
      refine s_iconst (x := (1 : Int32)) (pc' := 13) diD_12 rfl rfl ?_
      refine s_goto (pc' := 17) diD_13 (by decide) rfl ?_
      exact s_nret (t := .boolean) rfl (by simp) diD_17 (Nat.le_of_ble_eq_true rfl) (Nat.le_of_ble_eq_true rfl) (by first | exact ⟨1, rfl, rfl, Or.inl ⟨rfl, hc3, hc9⟩⟩ | exact ⟨0, rfl, rfl, Or.inr ⟨rfl, fun q => q.1 hc3⟩⟩ | exact ⟨0, rfl, rfl, Or.inr ⟨rfl, fun q => q.2 hc9⟩⟩)
def iiT : OInfo := ("com/example/typeloom/typeloom/ttcn/Identifiers", prog_19_method_16_code, 1, (some .boolean), "isLetterOrDigit", ({ frames := 1, cells := 0, slots := 0, locals := 12 } : Room))
theorem efiT (x0 : Int32) (m : MethodId) : entryFrame m #[(.int x0)] 1 = mkF m 0 #[.val (.int x0)] [] := by first | (simp [entryFrame, mkF, argsToLocals, Value.category]; done) | rfl
theorem pdiT : parseMethodDescriptor "(C)Z" = some ⟨[.char], some .boolean⟩ := by decide +kernel
theorem pniT : plainFor (⟨"com/example/typeloom/typeloom/ttcn/Identifiers", "isLetterOrDigit", "(C)Z"⟩ : MethodName) = true := by decide +kernel
theorem diT_0 : decode prog_19_method_16_code 0 = .ok (.iload_n 0, 1) := by decide +kernel
theorem diT_1 : decode prog_19_method_16_code 1 = .ok (.bipush 97, 2) := by decide +kernel
theorem diT_3 : decode prog_19_method_16_code 3 = .ok (.if_icmp .lt 9, 3) := by decide +kernel
theorem diT_6 : decode prog_19_method_16_code 6 = .ok (.iload_n 0, 1) := by decide +kernel
theorem diT_7 : decode prog_19_method_16_code 7 = .ok (.bipush 122, 2) := by decide +kernel
theorem diT_9 : decode prog_19_method_16_code 9 = .ok (.if_icmp .le 22, 3) := by decide +kernel
theorem diT_12 : decode prog_19_method_16_code 12 = .ok (.iload_n 0, 1) := by decide +kernel
theorem diT_13 : decode prog_19_method_16_code 13 = .ok (.bipush 65, 2) := by decide +kernel
theorem diT_15 : decode prog_19_method_16_code 15 = .ok (.if_icmp .lt 9, 3) := by decide +kernel
theorem diT_18 : decode prog_19_method_16_code 18 = .ok (.iload_n 0, 1) := by decide +kernel
theorem diT_19 : decode prog_19_method_16_code 19 = .ok (.bipush 90, 2) := by decide +kernel
theorem diT_21 : decode prog_19_method_16_code 21 = .ok (.if_icmp .le 10, 3) := by decide +kernel
theorem diT_24 : decode prog_19_method_16_code 24 = .ok (.iload_n 0, 1) := by decide +kernel
theorem diT_25 : decode prog_19_method_16_code 25 = .ok (.invokestatic 123, 3) := by decide +kernel
theorem diT_28 : decode prog_19_method_16_code 28 = .ok (.ifCond .eq 7, 3) := by decide +kernel
theorem diT_31 : decode prog_19_method_16_code 31 = .ok (.iconst 1, 1) := by decide +kernel
theorem diT_32 : decode prog_19_method_16_code 32 = .ok (.goto 4, 3) := by decide +kernel
theorem diT_35 : decode prog_19_method_16_code 35 = .ok (.iconst 0, 1) := by decide +kernel
theorem diT_36 : decode prog_19_method_16_code 36 = .ok (.ireturn, 1) := by decide +kernel
set_option maxRecDepth 65536 in
set_option maxHeartbeats 4000000 in
theorem rmiT (l : Launch) {Z : State} {a0 : Array Value} (G : OG Z a0) (n0 : Nat) (x : Int32) (h0 : Heap) : oCon l Z n0 EL1 [] (⟨"com/example/typeloom/typeloom/ttcn/Identifiers", "isLetterOrDigit", "(C)Z"⟩ : MethodName) iiT #[.int x] h0 (fun v h => ∃ r : Int32, v = some (.int r) ∧ h = h0 ∧ ((r = 1 ∧ al x) ∨ (r = 0 ∧ ¬ al x))) := by
  obtain ⟨hw, hEL, ⟨cmp, hC, hc0⟩, ⟨fm, hfm, hF⟩⟩ := id G
  refine oCon.mk hEL pniT rfl rfl (efiT x) fun C hCl => ?_
  refine s_iloadN (pc' := 1) diT_0 rfl rfl ?_
  refine s_bipush (x := (97 : Int32)) (pc' := 3) diT_1 rfl rfl ?_
  refine s_icmp (pc' := 6) (pc'' := 12) diT_3 rfl (by decide) rfl (fun hc3 => ?_) (fun hc3 => ?_)
  · replace hc3 := b_lt hc3
    refine s_iloadN (pc' := 13) diT_12 rfl rfl ?_
    refine s_bipush (x := (65 : Int32)) (pc' := 15) diT_13 rfl rfl ?_
    refine s_icmp (pc' := 18) (pc'' := 24) diT_15 rfl (by decide) rfl (fun hc15 => ?_) (fun hc15 => ?_)
    · replace hc15 := b_lt hc15
      refine s_iloadN (pc' := 25) diT_24 rfl rfl ?_
      refine s_callS1 (rmiD C.l G n0 x h0) (by simp) (hw _ (List.mem_of_getElem? (i := 159) rfl)) (hw _ (List.mem_of_getElem? (i := 160) rfl)) (hw _ (List.mem_of_getElem? (i := 37) rfl)) (hw _ (List.mem_of_getElem? (i := 161) rfl)) (by decide) (o_len pdiD rfl) rfl (pc' := 28) diT_25 rfl (Nat.le_of_ble_eq_true rfl) (Nat.le_of_ble_eq_true rfl) (Nat.le_of_ble_eq_true rfl) (Nat.le_of_ble_eq_true rfl) (fun v25 h25 hQ25 => ?_)
      obtain ⟨r25, rfl, rfl, hr25⟩ := hQ25
      dsimp only [oPush]
      refine s_if (pc' := 31) (pc'' := 35) diT_28 rfl (by decide) rfl (fun hc28 => ?_) (fun hc28 => ?_)
      · replace hc28 := b_eq hc28
        refine s_iconst (x := (0 : Int32)) (pc' := 36) diT_35 rfl rfl ?_
        exact s_nret (t := .boolean) rfl (by simp) diT_36 (Nat.le_of_ble_eq_true rfl) (Nat.le_of_ble_eq_true rfl) (by first | exact ⟨1, rfl, rfl, Or.inl ⟨rfl, Or.inl ⟨hc3, hc9⟩⟩⟩ | exact ⟨1, rfl, rfl, Or.inl ⟨rfl, Or.inr (Or.inl ⟨hc15, hc21⟩)⟩⟩ | exact ⟨1, rfl, rfl, Or.inl ⟨rfl, Or.inr (Or.inr (hr25.elim (·.2) fun z => absurd z.1 hc28))⟩⟩ | exact ⟨0, rfl, rfl, Or.inr ⟨rfl, fun q => q.elim (fun z => by first | exact z.1 hc3 | exact z.2 hc9) fun q => q.elim (fun z => by first | exact z.1 hc15 | exact z.2 hc21) (fun z => hr25.elim (fun y => absurd (y.1.symm.trans hc28) (by decide)) fun y => y.2 z)⟩⟩)
      · replace hc28 := b_eqF hc28
        refine s_iconst (x := (1 : Int32)) (pc' := 32) diT_31 rfl rfl ?_
        refine s_goto (pc' := 36) diT_32 (by decide) rfl ?_
        exact s_nret (t := .boolean) rfl (by simp) diT_36 (Nat.le_of_ble_eq_true rfl) (Nat.le_of_ble_eq_true rfl) (by first | exact ⟨1, rfl, rfl, Or.inl ⟨rfl, Or.inl ⟨hc3, hc9⟩⟩⟩ | exact ⟨1, rfl, rfl, Or.inl ⟨rfl, Or.inr (Or.inl ⟨hc15, hc21⟩)⟩⟩ | exact ⟨1, rfl, rfl, Or.inl ⟨rfl, Or.inr (Or.inr (hr25.elim (·.2) fun z => absurd z.1 hc28))⟩⟩ | exact ⟨0, rfl, rfl, Or.inr ⟨rfl, fun q => q.elim (fun z => by first | exact z.1 hc3 | exact z.2 hc9) fun q => q.elim (fun z => by first | exact z.1 hc15 | exact z.2 hc21) (fun z => hr25.elim (fun y => absurd (y.1.symm.trans hc28) (by decide)) fun y => y.2 z)⟩⟩)
    · replace hc15 := b_ltF hc15
      refine s_iloadN (pc' := 19) diT_18 rfl rfl ?_
      refine s_bipush (x := (90 : Int32)) (pc' := 21) diT_19 rfl rfl ?_
      refine s_icmp (pc' := 24) (pc'' := 31) diT_21 rfl (by decide) rfl (fun hc21 => ?_) (fun hc21 => ?_)
      · replace hc21 := b_le hc21
        refine s_iconst (x := (1 : Int32)) (pc' := 32) diT_31 rfl rfl ?_
        refine s_goto (pc' := 36) diT_32 (by decide) rfl ?_
        exact s_nret (t := .boolean) rfl (by simp) diT_36 (Nat.le_of_ble_eq_true rfl) (Nat.le_of_ble_eq_true rfl) (by first | exact ⟨1, rfl, rfl, Or.inl ⟨rfl, Or.inl ⟨hc3, hc9⟩⟩⟩ | exact ⟨1, rfl, rfl, Or.inl ⟨rfl, Or.inr (Or.inl ⟨hc15, hc21⟩)⟩⟩ | exact ⟨1, rfl, rfl, Or.inl ⟨rfl, Or.inr (Or.inr (hr25.elim (·.2) fun z => absurd z.1 hc28))⟩⟩ | exact ⟨0, rfl, rfl, Or.inr ⟨rfl, fun q => q.elim (fun z => by first | exact z.1 hc3 | exact z.2 hc9) fun q => q.elim (fun z => by first | exact z.1 hc15 | exact z.2 hc21) (fun z => hr25.elim (fun y => absurd (y.1.symm.trans hc28) (by decide)) fun y => y.2 z)⟩⟩)
      · replace hc21 := b_leF hc21
        refine s_iloadN (pc' := 25) diT_24 rfl rfl ?_
        refine s_callS1 (rmiD C.l G n0 x h0) (by simp) (hw _ (List.mem_of_getElem? (i := 159) rfl)) (hw _ (List.mem_of_getElem? (i := 160) rfl)) (hw _ (List.mem_of_getElem? (i := 37) rfl)) (hw _ (List.mem_of_getElem? (i := 161) rfl)) (by decide) (o_len pdiD rfl) rfl (pc' := 28) diT_25 rfl (Nat.le_of_ble_eq_true rfl) (Nat.le_of_ble_eq_true rfl) (Nat.le_of_ble_eq_true rfl) (Nat.le_of_ble_eq_true rfl) (fun v25 h25 hQ25 => ?_)
        obtain ⟨r25, rfl, rfl, hr25⟩ := hQ25
        dsimp only [oPush]
        refine s_if (pc' := 31) (pc'' := 35) diT_28 rfl (by decide) rfl (fun hc28 => ?_) (fun hc28 => ?_)
        · replace hc28 := b_eq hc28
          refine s_iconst (x := (0 : Int32)) (pc' := 36) diT_35 rfl rfl ?_
          exact s_nret (t := .boolean) rfl (by simp) diT_36 (Nat.le_of_ble_eq_true rfl) (Nat.le_of_ble_eq_true rfl) (by first | exact ⟨1, rfl, rfl, Or.inl ⟨rfl, Or.inl ⟨hc3, hc9⟩⟩⟩ | exact ⟨1, rfl, rfl, Or.inl ⟨rfl, Or.inr (Or.inl ⟨hc15, hc21⟩)⟩⟩ | exact ⟨1, rfl, rfl, Or.inl ⟨rfl, Or.inr (Or.inr (hr25.elim (·.2) fun z => absurd z.1 hc28))⟩⟩ | exact ⟨0, rfl, rfl, Or.inr ⟨rfl, fun q => q.elim (fun z => by first | exact z.1 hc3 | exact z.2 hc9) fun q => q.elim (fun z => by first | exact z.1 hc15 | exact z.2 hc21) (fun z => hr25.elim (fun y => absurd (y.1.symm.trans hc28) (by decide)) fun y => y.2 z)⟩⟩)
        · replace hc28 := b_eqF hc28
          refine s_iconst (x := (1 : Int32)) (pc' := 32) diT_31 rfl rfl ?_
          refine s_goto (pc' := 36) diT_32 (by decide) rfl ?_
          exact s_nret (t := .boolean) rfl (by simp) diT_36 (Nat.le_of_ble_eq_true rfl) (Nat.le_of_ble_eq_true rfl) (by first | exact ⟨1, rfl, rfl, Or.inl ⟨rfl, Or.inl ⟨hc3, hc9⟩⟩⟩ | exact ⟨1, rfl, rfl, Or.inl ⟨rfl, Or.inr (Or.inl ⟨hc15, hc21⟩)⟩⟩ | exact ⟨1, rfl, rfl, Or.inl ⟨rfl, Or.inr (Or.inr (hr25.elim (·.2) fun z => absurd z.1 hc28))⟩⟩ | exact ⟨0, rfl, rfl, Or.inr ⟨rfl, fun q => q.elim (fun z => by first | exact z.1 hc3 | exact z.2 hc9) fun q => q.elim (fun z => by first | exact z.1 hc15 | exact z.2 hc21) (fun z => hr25.elim (fun y => absurd (y.1.symm.trans hc28) (by decide)) fun y => y.2 z)⟩⟩)
  · replace hc3 := b_ltF hc3
    refine s_iloadN (pc' := 7) diT_6 rfl rfl ?_
    refine s_bipush (x := (122 : Int32)) (pc' := 9) diT_7 rfl rfl ?_
    refine s_icmp (pc' := 12) (pc'' := 31) diT_9 rfl (by decide) rfl (fun hc9 => ?_) (fun hc9 => ?_)
    · replace hc9 := b_le hc9
      refine s_iconst (x := (1 : Int32)) (pc' := 32) diT_31 rfl rfl ?_
      refine s_goto (pc' := 36) diT_32 (by decide) rfl ?_
      exact s_nret (t := .boolean) rfl (by simp) diT_36 (Nat.le_of_ble_eq_true rfl) (Nat.le_of_ble_eq_true rfl) (by first | exact ⟨1, rfl, rfl, Or.inl ⟨rfl, Or.inl ⟨hc3, hc9⟩⟩⟩ | exact ⟨1, rfl, rfl, Or.inl ⟨rfl, Or.inr (Or.inl ⟨hc15, hc21⟩)⟩⟩ | exact ⟨1, rfl, rfl, Or.inl ⟨rfl, Or.inr (Or.inr (hr25.elim (·.2) fun z => absurd z.1 hc28))⟩⟩ | exact ⟨0, rfl, rfl, Or.inr ⟨rfl, fun q => q.elim (fun z => by first | exact z.1 hc3 | exact z.2 hc9) fun q => q.elim (fun z => by first | exact z.1 hc15 | exact z.2 hc21) (fun z => hr25.elim (fun y => absurd (y.1.symm.trans hc28) (by decide)) fun y => y.2 z)⟩⟩)
    · replace hc9 := b_leF hc9
      refine s_iloadN (pc' := 13) diT_12 rfl rfl ?_
      refine s_bipush (x := (65 : Int32)) (pc' := 15) diT_13 rfl rfl ?_
      refine s_icmp (pc' := 18) (pc'' := 24) diT_15 rfl (by decide) rfl (fun hc15 => ?_) (fun hc15 => ?_)
      · replace hc15 := b_lt hc15
        refine s_iloadN (pc' := 25) diT_24 rfl rfl ?_
        refine s_callS1 (rmiD C.l G n0 x h0) (by simp) (hw _ (List.mem_of_getElem? (i := 159) rfl)) (hw _ (List.mem_of_getElem? (i := 160) rfl)) (hw _ (List.mem_of_getElem? (i := 37) rfl)) (hw _ (List.mem_of_getElem? (i := 161) rfl)) (by decide) (o_len pdiD rfl) rfl (pc' := 28) diT_25 rfl (Nat.le_of_ble_eq_true rfl) (Nat.le_of_ble_eq_true rfl) (Nat.le_of_ble_eq_true rfl) (Nat.le_of_ble_eq_true rfl) (fun v25 h25 hQ25 => ?_)
        obtain ⟨r25, rfl, rfl, hr25⟩ := hQ25
        dsimp only [oPush]
        refine s_if (pc' := 31) (pc'' := 35) diT_28 rfl (by decide) rfl (fun hc28 => ?_) (fun hc28 => ?_)
        · replace hc28 := b_eq hc28
          refine s_iconst (x := (0 : Int32)) (pc' := 36) diT_35 rfl rfl ?_
          exact s_nret (t := .boolean) rfl (by simp) diT_36 (Nat.le_of_ble_eq_true rfl) (Nat.le_of_ble_eq_true rfl) (by first | exact ⟨1, rfl, rfl, Or.inl ⟨rfl, Or.inl ⟨hc3, hc9⟩⟩⟩ | exact ⟨1, rfl, rfl, Or.inl ⟨rfl, Or.inr (Or.inl ⟨hc15, hc21⟩)⟩⟩ | exact ⟨1, rfl, rfl, Or.inl ⟨rfl, Or.inr (Or.inr (hr25.elim (·.2) fun z => absurd z.1 hc28))⟩⟩ | exact ⟨0, rfl, rfl, Or.inr ⟨rfl, fun q => q.elim (fun z => by first | exact z.1 hc3 | exact z.2 hc9) fun q => q.elim (fun z => by first | exact z.1 hc15 | exact z.2 hc21) (fun z => hr25.elim (fun y => absurd (y.1.symm.trans hc28) (by decide)) fun y => y.2 z)⟩⟩)
        · replace hc28 := b_eqF hc28
          refine s_iconst (x := (1 : Int32)) (pc' := 32) diT_31 rfl rfl ?_
          refine s_goto (pc' := 36) diT_32 (by decide) rfl ?_
          exact s_nret (t := .boolean) rfl (by simp) diT_36 (Nat.le_of_ble_eq_true rfl) (Nat.le_of_ble_eq_true rfl) (by first | exact ⟨1, rfl, rfl, Or.inl ⟨rfl, Or.inl ⟨hc3, hc9⟩⟩⟩ | exact ⟨1, rfl, rfl, Or.inl ⟨rfl, Or.inr (Or.inl ⟨hc15, hc21⟩)⟩⟩ | exact ⟨1, rfl, rfl, Or.inl ⟨rfl, Or.inr (Or.inr (hr25.elim (·.2) fun z => absurd z.1 hc28))⟩⟩ | exact ⟨0, rfl, rfl, Or.inr ⟨rfl, fun q => q.elim (fun z => by first | exact z.1 hc3 | exact z.2 hc9) fun q => q.elim (fun z => by first | exact z.1 hc15 | exact z.2 hc21) (fun z => hr25.elim (fun y => absurd (y.1.symm.trans hc28) (by decide)) fun y => y.2 z)⟩⟩)
      · replace hc15 := b_ltF hc15
        refine s_iloadN (pc' := 19) diT_18 rfl rfl ?_
        refine s_bipush (x := (90 : Int32)) (pc' := 21) diT_19 rfl rfl ?_
        refine s_icmp (pc' := 24) (pc'' := 31) diT_21 rfl (by decide) rfl (fun hc21 => ?_) (fun hc21 => ?_)
        · replace hc21 := b_le hc21
          refine s_iconst (x := (1 : Int32)) (pc' := 32) diT_31 rfl rfl ?_
          refine s_goto (pc' := 36) diT_32 (by decide) rfl ?_
          exact s_nret (t := .boolean) rfl (by simp) diT_36 (Nat.le_of_ble_eq_true rfl) (Nat.le_of_ble_eq_true rfl) (by first | exact ⟨1, rfl, rfl, Or.inl ⟨rfl, Or.inl ⟨hc3, hc9⟩⟩⟩ | exact ⟨1, rfl, rfl, Or.inl ⟨rfl, Or.inr (Or.inl ⟨hc15, hc21⟩)⟩⟩ | exact ⟨1, rfl, rfl, Or.inl ⟨rfl, Or.inr (Or.inr (hr25.elim (·.2) fun z => absurd z.1 hc28))⟩⟩ | exact ⟨0, rfl, rfl, Or.inr ⟨rfl, fun q => q.elim (fun z => by first | exact z.1 hc3 | exact z.2 hc9) fun q => q.elim (fun z => by first | exact z.1 hc15 | exact z.2 hc21) (fun z => hr25.elim (fun y => absurd (y.1.symm.trans hc28) (by decide)) fun y => y.2 z)⟩⟩)
        · replace hc21 := b_leF hc21
          refine s_iloadN (pc' := 25) diT_24 rfl rfl ?_
          refine s_callS1 (rmiD C.l G n0 x h0) (by simp) (hw _ (List.mem_of_getElem? (i := 159) rfl)) (hw _ (List.mem_of_getElem? (i := 160) rfl)) (hw _ (List.mem_of_getElem? (i := 37) rfl)) (hw _ (List.mem_of_getElem? (i := 161) rfl)) (by decide) (o_len pdiD rfl) rfl (pc' := 28) diT_25 rfl (Nat.le_of_ble_eq_true rfl) (Nat.le_of_ble_eq_true rfl) (Nat.le_of_ble_eq_true rfl) (Nat.le_of_ble_eq_true rfl) (fun v25 h25 hQ25 => ?_)
          obtain ⟨r25, rfl, rfl, hr25⟩ := hQ25
          dsimp only [oPush]
          refine s_if (pc' := 31) (pc'' := 35) diT_28 rfl (by decide) rfl (fun hc28 => ?_) (fun hc28 => ?_)
          · replace hc28 := b_eq hc28
            refine s_iconst (x := (0 : Int32)) (pc' := 36) diT_35 rfl rfl ?_
            exact s_nret (t := .boolean) rfl (by simp) diT_36 (Nat.le_of_ble_eq_true rfl) (Nat.le_of_ble_eq_true rfl) (by first | exact ⟨1, rfl, rfl, Or.inl ⟨rfl, Or.inl ⟨hc3, hc9⟩⟩⟩ | exact ⟨1, rfl, rfl, Or.inl ⟨rfl, Or.inr (Or.inl ⟨hc15, hc21⟩)⟩⟩ | exact ⟨1, rfl, rfl, Or.inl ⟨rfl, Or.inr (Or.inr (hr25.elim (·.2) fun z => absurd z.1 hc28))⟩⟩ | exact ⟨0, rfl, rfl, Or.inr ⟨rfl, fun q => q.elim (fun z => by first | exact z.1 hc3 | exact z.2 hc9) fun q => q.elim (fun z => by first | exact z.1 hc15 | exact z.2 hc21) (fun z => hr25.elim (fun y => absurd (y.1.symm.trans hc28) (by decide)) fun y => y.2 z)⟩⟩)
          · replace hc28 := b_eqF hc28
            refine s_iconst (x := (1 : Int32)) (pc' := 32) diT_31 rfl rfl ?_
            refine s_goto (pc' := 36) diT_32 (by decide) rfl ?_
            exact s_nret (t := .boolean) rfl (by simp) diT_36 (Nat.le_of_ble_eq_true rfl) (Nat.le_of_ble_eq_true rfl) (by first | exact ⟨1, rfl, rfl, Or.inl ⟨rfl, Or.inl ⟨hc3, hc9⟩⟩⟩ | exact ⟨1, rfl, rfl, Or.inl ⟨rfl, Or.inr (Or.inl ⟨hc15, hc21⟩)⟩⟩ | exact ⟨1, rfl, rfl, Or.inl ⟨rfl, Or.inr (Or.inr (hr25.elim (·.2) fun z => absurd z.1 hc28))⟩⟩ | exact ⟨0, rfl, rfl, Or.inr ⟨rfl, fun q => q.elim (fun z => by first | exact z.1 hc3 | exact z.2 hc9) fun q => q.elim (fun z => by first | exact z.1 hc15 | exact z.2 hc21) (fun z => hr25.elim (fun y => absurd (y.1.symm.trans hc28) (by decide)) fun y => y.2 z)⟩⟩)
def ian : OInfo := ("com/example/typeloom/typeloom/ttcn/IdentifiersConvertPinLaw", method_5_code, 1, (some .boolean), "alnum", ({ frames := 0, cells := 0, slots := 0, locals := 0 } : Room))
theorem efan (x0 : Int32) (m : MethodId) : entryFrame m #[(.int x0)] 1 = mkF m 0 #[.val (.int x0)] [] := by first | (simp [entryFrame, mkF, argsToLocals, Value.category]; done) | rfl
theorem pdan : parseMethodDescriptor "(C)Z" = some ⟨[.char], some .boolean⟩ := by decide +kernel
theorem pnan : plainFor (⟨"com/example/typeloom/typeloom/ttcn/IdentifiersConvertPinLaw", "alnum", "(C)Z"⟩ : MethodName) = true := by decide +kernel
theorem dan_0 : decode method_5_code 0 = .ok (.iload_n 0, 1) := by decide +kernel
theorem dan_1 : decode method_5_code 1 = .ok (.bipush 48, 2) := by decide +kernel
theorem dan_3 : decode method_5_code 3 = .ok (.if_icmp .lt 9, 3) := by decide +kernel
theorem dan_6 : decode method_5_code 6 = .ok (.iload_n 0, 1) := by decide +kernel
theorem dan_7 : decode method_5_code 7 = .ok (.bipush 57, 2) := by decide +kernel
theorem dan_9 : decode method_5_code 9 = .ok (.if_icmp .le 27, 3) := by decide +kernel
theorem dan_12 : decode method_5_code 12 = .ok (.iload_n 0, 1) := by decide +kernel
theorem dan_13 : decode method_5_code 13 = .ok (.bipush 65, 2) := by decide +kernel
theorem dan_15 : decode method_5_code 15 = .ok (.if_icmp .lt 9, 3) := by decide +kernel
theorem dan_18 : decode method_5_code 18 = .ok (.iload_n 0, 1) := by decide +kernel
theorem dan_19 : decode method_5_code 19 = .ok (.bipush 90, 2) := by decide +kernel
theorem dan_21 : decode method_5_code 21 = .ok (.if_icmp .le 15, 3) := by decide +kernel
theorem dan_24 : decode method_5_code 24 = .ok (.iload_n 0, 1) := by decide +kernel
theorem dan_25 : decode method_5_code 25 = .ok (.bipush 97, 2) := by decide +kernel
theorem dan_27 : decode method_5_code 27 = .ok (.if_icmp .lt 13, 3) := by decide +kernel
theorem dan_30 : decode method_5_code 30 = .ok (.iload_n 0, 1) := by decide +kernel
theorem dan_31 : decode method_5_code 31 = .ok (.bipush 122, 2) := by decide +kernel
theorem dan_33 : decode method_5_code 33 = .ok (.if_icmp .gt 7, 3) := by decide +kernel
theorem dan_36 : decode method_5_code 36 = .ok (.iconst 1, 1) := by decide +kernel
theorem dan_37 : decode method_5_code 37 = .ok (.goto 4, 3) := by decide +kernel
theorem dan_40 : decode method_5_code 40 = .ok (.iconst 0, 1) := by decide +kernel
theorem dan_41 : decode method_5_code 41 = .ok (.ireturn, 1) := by decide +kernel
set_option maxRecDepth 65536 in
set_option maxHeartbeats 4000000 in
theorem rman (l : Launch) {Z : State} {a0 : Array Value} (G : OG Z a0) (n0 : Nat) (x : Int32) (h0 : Heap) : oCon l Z n0 EL1 [] (⟨"com/example/typeloom/typeloom/ttcn/IdentifiersConvertPinLaw", "alnum", "(C)Z"⟩ : MethodName) ian #[.int x] h0 (fun v h => ∃ r : Int32, v = some (.int r) ∧ h = h0 ∧ ((r = 1 ∧ al x) ∨ (r = 0 ∧ ¬ al x))) := by
  obtain ⟨hw, hEL, ⟨cmp, hC, hc0⟩, ⟨fm, hfm, hF⟩⟩ := id G
  refine oCon.mk hEL pnan rfl rfl (efan x) fun C hCl => ?_
  refine s_iloadN (pc' := 1) dan_0 rfl rfl ?_
  refine s_bipush (x := (48 : Int32)) (pc' := 3) dan_1 rfl rfl ?_
  refine s_icmp (pc' := 6) (pc'' := 12) dan_3 rfl (by decide) rfl (fun hc3 => ?_) (fun hc3 => ?_)
  · replace hc3 := b_lt hc3
    refine s_iloadN (pc' := 13) dan_12 rfl rfl ?_
    refine s_bipush (x := (65 : Int32)) (pc' := 15) dan_13 rfl rfl ?_
    refine s_icmp (pc' := 18) (pc'' := 24) dan_15 rfl (by decide) rfl (fun hc15 => ?_) (fun hc15 => ?_)
    · replace hc15 := b_lt hc15
      refine s_iloadN (pc' := 25) dan_24 rfl rfl ?_
      refine s_bipush (x := (97 : Int32)) (pc' := 27) dan_25 rfl rfl ?_
      refine s_icmp (pc' := 30) (pc'' := 40) dan_27 rfl (by decide) rfl (fun hc27 => ?_) (fun hc27 => ?_)
      · replace hc27 := b_lt hc27
        refine s_iconst (x := (0 : Int32)) (pc' := 41) dan_40 rfl rfl ?_
        exact s_nret (t := .boolean) rfl (by simp) dan_41 (Nat.le_of_ble_eq_true rfl) (Nat.le_of_ble_eq_true rfl) (by first | exact ⟨1, rfl, rfl, Or.inl ⟨rfl, Or.inr (Or.inr ⟨hc3, hc9⟩)⟩⟩ | exact ⟨1, rfl, rfl, Or.inl ⟨rfl, Or.inr (Or.inl ⟨hc15, hc21⟩)⟩⟩ | exact ⟨1, rfl, rfl, Or.inl ⟨rfl, Or.inl ⟨hc27, hc33⟩⟩⟩ | exact ⟨0, rfl, rfl, Or.inr ⟨rfl, fun q => q.elim (fun z => by first | exact z.1 hc27 | exact z.2 hc33) fun q => q.elim (fun z => by first | exact z.1 hc15 | exact z.2 hc21) (fun z => by first | exact z.1 hc3 | exact z.2 hc9)⟩⟩)
      · replace hc27 := b_ltF hc27
        refine s_iloadN (pc' := 31) dan_30 rfl rfl ?_
        refine s_bipush (x := (122 : Int32)) (pc' := 33) dan_31 rfl rfl ?_
        refine s_icmp (pc' := 36) (pc'' := 40) dan_33 rfl (by decide) rfl (fun hc33 => ?_) (fun hc33 => ?_)
        · replace hc33 := b_gt hc33
          refine s_iconst (x := (0 : Int32)) (pc' := 41) dan_40 rfl rfl ?_
          exact s_nret (t := .boolean) rfl (by simp) dan_41 (Nat.le_of_ble_eq_true rfl) (Nat.le_of_ble_eq_true rfl) (by first | exact ⟨1, rfl, rfl, Or.inl ⟨rfl, Or.inr (Or.inr ⟨hc3, hc9⟩)⟩⟩ | exact ⟨1, rfl, rfl, Or.inl ⟨rfl, Or.inr (Or.inl ⟨hc15, hc21⟩)⟩⟩ | exact ⟨1, rfl, rfl, Or.inl ⟨rfl, Or.inl ⟨hc27, hc33⟩⟩⟩ | exact ⟨0, rfl, rfl, Or.inr ⟨rfl, fun q => q.elim (fun z => by first | exact z.1 hc27 | exact z.2 hc33) fun q => q.elim (fun z => by first | exact z.1 hc15 | exact z.2 hc21) (fun z => by first | exact z.1 hc3 | exact z.2 hc9)⟩⟩)
        · replace hc33 := b_gtF hc33
          refine s_iconst (x := (1 : Int32)) (pc' := 37) dan_36 rfl rfl ?_
          refine s_goto (pc' := 41) dan_37 (by decide) rfl ?_
          exact s_nret (t := .boolean) rfl (by simp) dan_41 (Nat.le_of_ble_eq_true rfl) (Nat.le_of_ble_eq_true rfl) (by first | exact ⟨1, rfl, rfl, Or.inl ⟨rfl, Or.inr (Or.inr ⟨hc3, hc9⟩)⟩⟩ | exact ⟨1, rfl, rfl, Or.inl ⟨rfl, Or.inr (Or.inl ⟨hc15, hc21⟩)⟩⟩ | exact ⟨1, rfl, rfl, Or.inl ⟨rfl, Or.inl ⟨hc27, hc33⟩⟩⟩ | exact ⟨0, rfl, rfl, Or.inr ⟨rfl, fun q => q.elim (fun z => by first | exact z.1 hc27 | exact z.2 hc33) fun q => q.elim (fun z => by first | exact z.1 hc15 | exact z.2 hc21) (fun z => by first | exact z.1 hc3 | exact z.2 hc9)⟩⟩)
    · replace hc15 := b_ltF hc15
      refine s_iloadN (pc' := 19) dan_18 rfl rfl ?_
      refine s_bipush (x := (90 : Int32)) (pc' := 21) dan_19 rfl rfl ?_
      refine s_icmp (pc' := 24) (pc'' := 36) dan_21 rfl (by decide) rfl (fun hc21 => ?_) (fun hc21 => ?_)
      · replace hc21 := b_le hc21
        refine s_iconst (x := (1 : Int32)) (pc' := 37) dan_36 rfl rfl ?_
        refine s_goto (pc' := 41) dan_37 (by decide) rfl ?_
        exact s_nret (t := .boolean) rfl (by simp) dan_41 (Nat.le_of_ble_eq_true rfl) (Nat.le_of_ble_eq_true rfl) (by first | exact ⟨1, rfl, rfl, Or.inl ⟨rfl, Or.inr (Or.inr ⟨hc3, hc9⟩)⟩⟩ | exact ⟨1, rfl, rfl, Or.inl ⟨rfl, Or.inr (Or.inl ⟨hc15, hc21⟩)⟩⟩ | exact ⟨1, rfl, rfl, Or.inl ⟨rfl, Or.inl ⟨hc27, hc33⟩⟩⟩ | exact ⟨0, rfl, rfl, Or.inr ⟨rfl, fun q => q.elim (fun z => by first | exact z.1 hc27 | exact z.2 hc33) fun q => q.elim (fun z => by first | exact z.1 hc15 | exact z.2 hc21) (fun z => by first | exact z.1 hc3 | exact z.2 hc9)⟩⟩)
      · replace hc21 := b_leF hc21
        refine s_iloadN (pc' := 25) dan_24 rfl rfl ?_
        refine s_bipush (x := (97 : Int32)) (pc' := 27) dan_25 rfl rfl ?_
        refine s_icmp (pc' := 30) (pc'' := 40) dan_27 rfl (by decide) rfl (fun hc27 => ?_) (fun hc27 => ?_)
        · replace hc27 := b_lt hc27
          refine s_iconst (x := (0 : Int32)) (pc' := 41) dan_40 rfl rfl ?_
          exact s_nret (t := .boolean) rfl (by simp) dan_41 (Nat.le_of_ble_eq_true rfl) (Nat.le_of_ble_eq_true rfl) (by first | exact ⟨1, rfl, rfl, Or.inl ⟨rfl, Or.inr (Or.inr ⟨hc3, hc9⟩)⟩⟩ | exact ⟨1, rfl, rfl, Or.inl ⟨rfl, Or.inr (Or.inl ⟨hc15, hc21⟩)⟩⟩ | exact ⟨1, rfl, rfl, Or.inl ⟨rfl, Or.inl ⟨hc27, hc33⟩⟩⟩ | exact ⟨0, rfl, rfl, Or.inr ⟨rfl, fun q => q.elim (fun z => by first | exact z.1 hc27 | exact z.2 hc33) fun q => q.elim (fun z => by first | exact z.1 hc15 | exact z.2 hc21) (fun z => by first | exact z.1 hc3 | exact z.2 hc9)⟩⟩)
        · replace hc27 := b_ltF hc27
          refine s_iloadN (pc' := 31) dan_30 rfl rfl ?_
          refine s_bipush (x := (122 : Int32)) (pc' := 33) dan_31 rfl rfl ?_
          refine s_icmp (pc' := 36) (pc'' := 40) dan_33 rfl (by decide) rfl (fun hc33 => ?_) (fun hc33 => ?_)
          · replace hc33 := b_gt hc33
            refine s_iconst (x := (0 : Int32)) (pc' := 41) dan_40 rfl rfl ?_
            exact s_nret (t := .boolean) rfl (by simp) dan_41 (Nat.le_of_ble_eq_true rfl) (Nat.le_of_ble_eq_true rfl) (by first | exact ⟨1, rfl, rfl, Or.inl ⟨rfl, Or.inr (Or.inr ⟨hc3, hc9⟩)⟩⟩ | exact ⟨1, rfl, rfl, Or.inl ⟨rfl, Or.inr (Or.inl ⟨hc15, hc21⟩)⟩⟩ | exact ⟨1, rfl, rfl, Or.inl ⟨rfl, Or.inl ⟨hc27, hc33⟩⟩⟩ | exact ⟨0, rfl, rfl, Or.inr ⟨rfl, fun q => q.elim (fun z => by first | exact z.1 hc27 | exact z.2 hc33) fun q => q.elim (fun z => by first | exact z.1 hc15 | exact z.2 hc21) (fun z => by first | exact z.1 hc3 | exact z.2 hc9)⟩⟩)
          · replace hc33 := b_gtF hc33
            refine s_iconst (x := (1 : Int32)) (pc' := 37) dan_36 rfl rfl ?_
            refine s_goto (pc' := 41) dan_37 (by decide) rfl ?_
            exact s_nret (t := .boolean) rfl (by simp) dan_41 (Nat.le_of_ble_eq_true rfl) (Nat.le_of_ble_eq_true rfl) (by first | exact ⟨1, rfl, rfl, Or.inl ⟨rfl, Or.inr (Or.inr ⟨hc3, hc9⟩)⟩⟩ | exact ⟨1, rfl, rfl, Or.inl ⟨rfl, Or.inr (Or.inl ⟨hc15, hc21⟩)⟩⟩ | exact ⟨1, rfl, rfl, Or.inl ⟨rfl, Or.inl ⟨hc27, hc33⟩⟩⟩ | exact ⟨0, rfl, rfl, Or.inr ⟨rfl, fun q => q.elim (fun z => by first | exact z.1 hc27 | exact z.2 hc33) fun q => q.elim (fun z => by first | exact z.1 hc15 | exact z.2 hc21) (fun z => by first | exact z.1 hc3 | exact z.2 hc9)⟩⟩)
  · replace hc3 := b_ltF hc3
    refine s_iloadN (pc' := 7) dan_6 rfl rfl ?_
    refine s_bipush (x := (57 : Int32)) (pc' := 9) dan_7 rfl rfl ?_
    refine s_icmp (pc' := 12) (pc'' := 36) dan_9 rfl (by decide) rfl (fun hc9 => ?_) (fun hc9 => ?_)
    · replace hc9 := b_le hc9
      refine s_iconst (x := (1 : Int32)) (pc' := 37) dan_36 rfl rfl ?_
      refine s_goto (pc' := 41) dan_37 (by decide) rfl ?_
      exact s_nret (t := .boolean) rfl (by simp) dan_41 (Nat.le_of_ble_eq_true rfl) (Nat.le_of_ble_eq_true rfl) (by first | exact ⟨1, rfl, rfl, Or.inl ⟨rfl, Or.inr (Or.inr ⟨hc3, hc9⟩)⟩⟩ | exact ⟨1, rfl, rfl, Or.inl ⟨rfl, Or.inr (Or.inl ⟨hc15, hc21⟩)⟩⟩ | exact ⟨1, rfl, rfl, Or.inl ⟨rfl, Or.inl ⟨hc27, hc33⟩⟩⟩ | exact ⟨0, rfl, rfl, Or.inr ⟨rfl, fun q => q.elim (fun z => by first | exact z.1 hc27 | exact z.2 hc33) fun q => q.elim (fun z => by first | exact z.1 hc15 | exact z.2 hc21) (fun z => by first | exact z.1 hc3 | exact z.2 hc9)⟩⟩)
    · replace hc9 := b_leF hc9
      refine s_iloadN (pc' := 13) dan_12 rfl rfl ?_
      refine s_bipush (x := (65 : Int32)) (pc' := 15) dan_13 rfl rfl ?_
      refine s_icmp (pc' := 18) (pc'' := 24) dan_15 rfl (by decide) rfl (fun hc15 => ?_) (fun hc15 => ?_)
      · replace hc15 := b_lt hc15
        refine s_iloadN (pc' := 25) dan_24 rfl rfl ?_
        refine s_bipush (x := (97 : Int32)) (pc' := 27) dan_25 rfl rfl ?_
        refine s_icmp (pc' := 30) (pc'' := 40) dan_27 rfl (by decide) rfl (fun hc27 => ?_) (fun hc27 => ?_)
        · replace hc27 := b_lt hc27
          refine s_iconst (x := (0 : Int32)) (pc' := 41) dan_40 rfl rfl ?_
          exact s_nret (t := .boolean) rfl (by simp) dan_41 (Nat.le_of_ble_eq_true rfl) (Nat.le_of_ble_eq_true rfl) (by first | exact ⟨1, rfl, rfl, Or.inl ⟨rfl, Or.inr (Or.inr ⟨hc3, hc9⟩)⟩⟩ | exact ⟨1, rfl, rfl, Or.inl ⟨rfl, Or.inr (Or.inl ⟨hc15, hc21⟩)⟩⟩ | exact ⟨1, rfl, rfl, Or.inl ⟨rfl, Or.inl ⟨hc27, hc33⟩⟩⟩ | exact ⟨0, rfl, rfl, Or.inr ⟨rfl, fun q => q.elim (fun z => by first | exact z.1 hc27 | exact z.2 hc33) fun q => q.elim (fun z => by first | exact z.1 hc15 | exact z.2 hc21) (fun z => by first | exact z.1 hc3 | exact z.2 hc9)⟩⟩)
        · replace hc27 := b_ltF hc27
          refine s_iloadN (pc' := 31) dan_30 rfl rfl ?_
          refine s_bipush (x := (122 : Int32)) (pc' := 33) dan_31 rfl rfl ?_
          refine s_icmp (pc' := 36) (pc'' := 40) dan_33 rfl (by decide) rfl (fun hc33 => ?_) (fun hc33 => ?_)
          · replace hc33 := b_gt hc33
            refine s_iconst (x := (0 : Int32)) (pc' := 41) dan_40 rfl rfl ?_
            exact s_nret (t := .boolean) rfl (by simp) dan_41 (Nat.le_of_ble_eq_true rfl) (Nat.le_of_ble_eq_true rfl) (by first | exact ⟨1, rfl, rfl, Or.inl ⟨rfl, Or.inr (Or.inr ⟨hc3, hc9⟩)⟩⟩ | exact ⟨1, rfl, rfl, Or.inl ⟨rfl, Or.inr (Or.inl ⟨hc15, hc21⟩)⟩⟩ | exact ⟨1, rfl, rfl, Or.inl ⟨rfl, Or.inl ⟨hc27, hc33⟩⟩⟩ | exact ⟨0, rfl, rfl, Or.inr ⟨rfl, fun q => q.elim (fun z => by first | exact z.1 hc27 | exact z.2 hc33) fun q => q.elim (fun z => by first | exact z.1 hc15 | exact z.2 hc21) (fun z => by first | exact z.1 hc3 | exact z.2 hc9)⟩⟩)
          · replace hc33 := b_gtF hc33
            refine s_iconst (x := (1 : Int32)) (pc' := 37) dan_36 rfl rfl ?_
            refine s_goto (pc' := 41) dan_37 (by decide) rfl ?_
            exact s_nret (t := .boolean) rfl (by simp) dan_41 (Nat.le_of_ble_eq_true rfl) (Nat.le_of_ble_eq_true rfl) (by first | exact ⟨1, rfl, rfl, Or.inl ⟨rfl, Or.inr (Or.inr ⟨hc3, hc9⟩)⟩⟩ | exact ⟨1, rfl, rfl, Or.inl ⟨rfl, Or.inr (Or.inl ⟨hc15, hc21⟩)⟩⟩ | exact ⟨1, rfl, rfl, Or.inl ⟨rfl, Or.inl ⟨hc27, hc33⟩⟩⟩ | exact ⟨0, rfl, rfl, Or.inr ⟨rfl, fun q => q.elim (fun z => by first | exact z.1 hc27 | exact z.2 hc33) fun q => q.elim (fun z => by first | exact z.1 hc15 | exact z.2 hc21) (fun z => by first | exact z.1 hc3 | exact z.2 hc9)⟩⟩)
      · replace hc15 := b_ltF hc15
        refine s_iloadN (pc' := 19) dan_18 rfl rfl ?_
        refine s_bipush (x := (90 : Int32)) (pc' := 21) dan_19 rfl rfl ?_
        refine s_icmp (pc' := 24) (pc'' := 36) dan_21 rfl (by decide) rfl (fun hc21 => ?_) (fun hc21 => ?_)
        · replace hc21 := b_le hc21
          refine s_iconst (x := (1 : Int32)) (pc' := 37) dan_36 rfl rfl ?_
          refine s_goto (pc' := 41) dan_37 (by decide) rfl ?_
          exact s_nret (t := .boolean) rfl (by simp) dan_41 (Nat.le_of_ble_eq_true rfl) (Nat.le_of_ble_eq_true rfl) (by first | exact ⟨1, rfl, rfl, Or.inl ⟨rfl, Or.inr (Or.inr ⟨hc3, hc9⟩)⟩⟩ | exact ⟨1, rfl, rfl, Or.inl ⟨rfl, Or.inr (Or.inl ⟨hc15, hc21⟩)⟩⟩ | exact ⟨1, rfl, rfl, Or.inl ⟨rfl, Or.inl ⟨hc27, hc33⟩⟩⟩ | exact ⟨0, rfl, rfl, Or.inr ⟨rfl, fun q => q.elim (fun z => by first | exact z.1 hc27 | exact z.2 hc33) fun q => q.elim (fun z => by first | exact z.1 hc15 | exact z.2 hc21) (fun z => by first | exact z.1 hc3 | exact z.2 hc9)⟩⟩)
        · replace hc21 := b_leF hc21
          refine s_iloadN (pc' := 25) dan_24 rfl rfl ?_
          refine s_bipush (x := (97 : Int32)) (pc' := 27) dan_25 rfl rfl ?_
          refine s_icmp (pc' := 30) (pc'' := 40) dan_27 rfl (by decide) rfl (fun hc27 => ?_) (fun hc27 => ?_)
          · replace hc27 := b_lt hc27
            refine s_iconst (x := (0 : Int32)) (pc' := 41) dan_40 rfl rfl ?_
            exact s_nret (t := .boolean) rfl (by simp) dan_41 (Nat.le_of_ble_eq_true rfl) (Nat.le_of_ble_eq_true rfl) (by first | exact ⟨1, rfl, rfl, Or.inl ⟨rfl, Or.inr (Or.inr ⟨hc3, hc9⟩)⟩⟩ | exact ⟨1, rfl, rfl, Or.inl ⟨rfl, Or.inr (Or.inl ⟨hc15, hc21⟩)⟩⟩ | exact ⟨1, rfl, rfl, Or.inl ⟨rfl, Or.inl ⟨hc27, hc33⟩⟩⟩ | exact ⟨0, rfl, rfl, Or.inr ⟨rfl, fun q => q.elim (fun z => by first | exact z.1 hc27 | exact z.2 hc33) fun q => q.elim (fun z => by first | exact z.1 hc15 | exact z.2 hc21) (fun z => by first | exact z.1 hc3 | exact z.2 hc9)⟩⟩)
          · replace hc27 := b_ltF hc27
            refine s_iloadN (pc' := 31) dan_30 rfl rfl ?_
            refine s_bipush (x := (122 : Int32)) (pc' := 33) dan_31 rfl rfl ?_
            refine s_icmp (pc' := 36) (pc'' := 40) dan_33 rfl (by decide) rfl (fun hc33 => ?_) (fun hc33 => ?_)
            · replace hc33 := b_gt hc33
              refine s_iconst (x := (0 : Int32)) (pc' := 41) dan_40 rfl rfl ?_
              exact s_nret (t := .boolean) rfl (by simp) dan_41 (Nat.le_of_ble_eq_true rfl) (Nat.le_of_ble_eq_true rfl) (by first | exact ⟨1, rfl, rfl, Or.inl ⟨rfl, Or.inr (Or.inr ⟨hc3, hc9⟩)⟩⟩ | exact ⟨1, rfl, rfl, Or.inl ⟨rfl, Or.inr (Or.inl ⟨hc15, hc21⟩)⟩⟩ | exact ⟨1, rfl, rfl, Or.inl ⟨rfl, Or.inl ⟨hc27, hc33⟩⟩⟩ | exact ⟨0, rfl, rfl, Or.inr ⟨rfl, fun q => q.elim (fun z => by first | exact z.1 hc27 | exact z.2 hc33) fun q => q.elim (fun z => by first | exact z.1 hc15 | exact z.2 hc21) (fun z => by first | exact z.1 hc3 | exact z.2 hc9)⟩⟩)
            · replace hc33 := b_gtF hc33
              refine s_iconst (x := (1 : Int32)) (pc' := 37) dan_36 rfl rfl ?_
              refine s_goto (pc' := 41) dan_37 (by decide) rfl ?_
              exact s_nret (t := .boolean) rfl (by simp) dan_41 (Nat.le_of_ble_eq_true rfl) (Nat.le_of_ble_eq_true rfl) (by first | exact ⟨1, rfl, rfl, Or.inl ⟨rfl, Or.inr (Or.inr ⟨hc3, hc9⟩)⟩⟩ | exact ⟨1, rfl, rfl, Or.inl ⟨rfl, Or.inr (Or.inl ⟨hc15, hc21⟩)⟩⟩ | exact ⟨1, rfl, rfl, Or.inl ⟨rfl, Or.inl ⟨hc27, hc33⟩⟩⟩ | exact ⟨0, rfl, rfl, Or.inr ⟨rfl, fun q => q.elim (fun z => by first | exact z.1 hc27 | exact z.2 hc33) fun q => q.elim (fun z => by first | exact z.1 hc15 | exact z.2 hc21) (fun z => by first | exact z.1 hc3 | exact z.2 hc9)⟩⟩)
theorem r_and7 (x : Int32) : ¬ (x &&& 127) < 0 ∧ ¬ (65535 : Int32) < (x &&& 127) := by
  have h1 := c_and x 127 (by decide)
  have e2 : (65535 : Int32).toInt = 65535 := rfl
  have e3 : (127 : Int32).toInt = 127 := rfl
  have e1 : (0 : Int32).toInt = 0 := rfl
  rw [o_lt, o_lt, e1, e2]; rw [e3] at h1; omega
def idw : OInfo := ("com/example/typeloom/typeloom/ttcn/IdentifiersConvertPinLaw", method_3_code, 1, (some .char), "draw", ({ frames := 0, cells := 0, slots := 0, locals := 0 } : Room))
theorem efdw (x0 : Int32) (m : MethodId) : entryFrame m #[(.int x0)] 1 = mkF m 0 #[.val (.int x0)] [] := by first | (simp [entryFrame, mkF, argsToLocals, Value.category]; done) | rfl
theorem pddw : parseMethodDescriptor "(I)C" = some ⟨[.int], some .char⟩ := by decide +kernel
theorem pndw : plainFor (⟨"com/example/typeloom/typeloom/ttcn/IdentifiersConvertPinLaw", "draw", "(I)C"⟩ : MethodName) = true := by decide +kernel
theorem ddw_0 : decode method_3_code 0 = .ok (.iload_n 0, 1) := by decide +kernel
theorem ddw_1 : decode method_3_code 1 = .ok (.ldc 38, 2) := by decide +kernel
theorem ddw_3 : decode method_3_code 3 = .ok (.iand, 1) := by decide +kernel
theorem ddw_4 : decode method_3_code 4 = .ok (.ifCond .eq 11, 3) := by decide +kernel
theorem ddw_7 : decode method_3_code 7 = .ok (.iload_n 0, 1) := by decide +kernel
theorem ddw_8 : decode method_3_code 8 = .ok (.ldc 39, 2) := by decide +kernel
theorem ddw_10 : decode method_3_code 10 = .ok (.iand, 1) := by decide +kernel
theorem ddw_11 : decode method_3_code 11 = .ok (.i2c, 1) := by decide +kernel
theorem ddw_12 : decode method_3_code 12 = .ok (.goto 8, 3) := by decide +kernel
theorem ddw_15 : decode method_3_code 15 = .ok (.iload_n 0, 1) := by decide +kernel
theorem ddw_16 : decode method_3_code 16 = .ok (.bipush 127, 2) := by decide +kernel
theorem ddw_18 : decode method_3_code 18 = .ok (.iand, 1) := by decide +kernel
theorem ddw_19 : decode method_3_code 19 = .ok (.i2c, 1) := by decide +kernel
theorem ddw_20 : decode method_3_code 20 = .ok (.ireturn, 1) := by decide +kernel
set_option maxRecDepth 65536 in
set_option maxHeartbeats 4000000 in
theorem rmdw (l : Launch) {Z : State} {a0 : Array Value} (G : OG Z a0) (n0 : Nat) (x : Int32) (h0 : Heap) : oCon l Z n0 EL1 [] (⟨"com/example/typeloom/typeloom/ttcn/IdentifiersConvertPinLaw", "draw", "(I)C"⟩ : MethodName) idw #[.int x] h0 (fun v h => ∃ r : Int32, v = some (.int r) ∧ h = h0 ∧ ¬ r < 0 ∧ ¬ (65535 : Int32) < r) := by
  obtain ⟨hw, hEL, ⟨cmp, hC, hc0⟩, ⟨fm, hfm, hF⟩⟩ := id G
  refine oCon.mk hEL pndw rfl rfl (efdw x) fun C hCl => ?_
  refine s_iloadN (pc' := 1) ddw_0 rfl rfl ?_
  refine s_ldcI (x := (65536 : Int32)) (hw _ (List.mem_of_getElem? (i := 5) rfl)) (pc' := 3) ddw_1 rfl ?_
  refine s_iand (pc' := 4) ddw_3 rfl ?_
  refine s_if (pc' := 7) (pc'' := 15) ddw_4 rfl (by decide) rfl (fun hc4 => ?_) (fun hc4 => ?_)
  · replace hc4 := b_eq hc4
    refine s_iloadN (pc' := 16) ddw_15 rfl rfl ?_
    refine s_bipush (x := (127 : Int32)) (pc' := 18) ddw_16 rfl rfl ?_
    refine s_iand (pc' := 19) ddw_18 rfl ?_
    refine s_i2c (pc' := 20) ddw_19 rfl ?_
    first
    | exact s_nret (t := .char) rfl (by simp) ddw_20 (Nat.le_of_ble_eq_true rfl) (Nat.le_of_ble_eq_true rfl) ⟨x &&& 65535, by rw [i2c16 (r_and16 _), nar16 (r_and16 _)], rfl, r_and16 _⟩
    | exact s_nret (t := .char) rfl (by simp) ddw_20 (Nat.le_of_ble_eq_true rfl) (Nat.le_of_ble_eq_true rfl) ⟨x &&& 127, by rw [i2c16 (r_and7 _), nar16 (r_and7 _)], rfl, r_and7 _⟩
  · replace hc4 := b_eqF hc4
    refine s_iloadN (pc' := 8) ddw_7 rfl rfl ?_
    refine s_ldcI (x := (65535 : Int32)) (hw _ (List.mem_of_getElem? (i := 217) rfl)) (pc' := 10) ddw_8 rfl ?_
    refine s_iand (pc' := 11) ddw_10 rfl ?_
    refine s_i2c (pc' := 12) ddw_11 rfl ?_
    refine s_goto (pc' := 20) ddw_12 (by decide) rfl ?_
    first
    | exact s_nret (t := .char) rfl (by simp) ddw_20 (Nat.le_of_ble_eq_true rfl) (Nat.le_of_ble_eq_true rfl) ⟨x &&& 65535, by rw [i2c16 (r_and16 _), nar16 (r_and16 _)], rfl, r_and16 _⟩
    | exact s_nret (t := .char) rfl (by simp) ddw_20 (Nat.le_of_ble_eq_true rfl) (Nat.le_of_ble_eq_true rfl) ⟨x &&& 127, by rw [i2c16 (r_and7 _), nar16 (r_and7 _)], rfl, r_and7 _⟩
def ism : OInfo := ("com/example/typeloom/typeloom/ttcn/IdentifiersConvertPinLaw", method_7_code, 4, (some .boolean), "same", ({ frames := 4, cells := 0, slots := 0, locals := 56 } : Room))
theorem efsm (x0 : Addr) (x1 : Addr) (x2 : Int32) (x3 : Int32) (m : MethodId) : entryFrame m #[(.ref x0), (.ref x1), (.int x2), (.int x3)] 4 = mkF m 0 #[.val (.ref x0), .val (.ref x1), .val (.int x2), .val (.int x3)] [] := by first | (simp [entryFrame, mkF, argsToLocals, Value.category]; done) | rfl
theorem pdsm : parseMethodDescriptor "(Ljava/lang/String;[CII)Z" = some ⟨[(.object "java/lang/String"), (.array .char), .int, .int], some .boolean⟩ := by decide +kernel
theorem pnsm : plainFor (⟨"com/example/typeloom/typeloom/ttcn/IdentifiersConvertPinLaw", "same", "(Ljava/lang/String;[CII)Z"⟩ : MethodName) = true := by decide +kernel
theorem ys_get {ys : List Value} {bs : List Int32} {j : Nat} {z : Int32} (ht : ys.take bs.length = bs.map Value.int) (hz : bs[j]? = some z) (d : Value) : ys.getD j d = .int z := by
  have hj : j < bs.length := (List.getElem?_eq_some_iff.mp hz).1
  have q := congrArg (fun l => l[j]?) ht
  simp only [List.getElem?_take_of_lt hj, List.getElem?_map, hz, Option.map_some] at q
  rw [List.getD_eq_getElem?_getD, q]; rfl
theorem dsm_0 : decode method_7_code 0 = .ok (.iload_n 3, 1) := by decide +kernel
theorem dsm_1 : decode method_7_code 1 = .ok (.iload_n 2, 1) := by decide +kernel
theorem dsm_2 : decode method_7_code 2 = .ok (.if_icmp .ge 14, 3) := by decide +kernel
theorem dsm_5 : decode method_7_code 5 = .ok (.aload_n 0, 1) := by decide +kernel
theorem dsm_6 : decode method_7_code 6 = .ok (.iload_n 3, 1) := by decide +kernel
theorem dsm_7 : decode method_7_code 7 = .ok (.invokevirtual 51, 3) := by decide +kernel
theorem dsm_10 : decode method_7_code 10 = .ok (.aload_n 1, 1) := by decide +kernel
theorem dsm_11 : decode method_7_code 11 = .ok (.iload_n 3, 1) := by decide +kernel
theorem dsm_12 : decode method_7_code 12 = .ok (.caload, 1) := by decide +kernel
theorem dsm_13 : decode method_7_code 13 = .ok (.if_icmp .ne 7, 3) := by decide +kernel
theorem dsm_16 : decode method_7_code 16 = .ok (.iconst 1, 1) := by decide +kernel
theorem dsm_17 : decode method_7_code 17 = .ok (.goto 4, 3) := by decide +kernel
theorem dsm_21 : decode method_7_code 21 = .ok (.ireturn, 1) := by decide +kernel
set_option maxRecDepth 65536 in
set_option maxHeartbeats 4000000 in
theorem rmsm (l : Launch) {Z : State} {a0 : Array Value} (G : OG Z a0) (n0 : Nat) (r e : Addr) (ke : ClassId) (N j : Nat) (bs : List Int32) (ys : List Value) (dv : Value) (h0 : Heap) (hj : j ≤ 6) (hl : bs.length ≤ 7) (hch : Ch bs) (ht : ys.take bs.length = bs.map Value.int) (A : Arv Z h0 e ke .char 7 ys dv) (H : SV Z h0 N r bs) : oCon l Z n0 EL1 [] (⟨"com/example/typeloom/typeloom/ttcn/IdentifiersConvertPinLaw", "same", "(Ljava/lang/String;[CII)Z"⟩ : MethodName) ism #[.ref r, .ref e, .int (Int32.ofNat bs.length), .int (Int32.ofNat j)] h0 (fun v h => v = some (.int 1) ∧ h = h0) := by
  obtain ⟨hw, hEL, ⟨cmp, hC, hc0⟩, ⟨fm, hfm, hF⟩⟩ := id G
  refine oCon.mk hEL pnsm rfl rfl (efsm r e _ _) fun C hCl => ?_
  refine s_iloadN (pc' := 1) dsm_0 rfl rfl ?_
  refine s_iloadN (pc' := 2) dsm_1 rfl rfl ?_
  refine s_icmp (pc' := 5) (pc'' := 16) dsm_2 rfl (by decide) rfl (fun hc2 => ?_) (fun hc2 => ?_)
  · replace hc2 := b_ge hc2
    refine s_iconst (x := (1 : Int32)) (pc' := 17) dsm_16 rfl rfl ?_
    refine s_goto (pc' := 21) dsm_17 (by decide) rfl ?_
    exact s_nret (t := .boolean) rfl (by simp) dsm_21 (Nat.le_of_ble_eq_true rfl) (Nat.le_of_ble_eq_true rfl) ⟨rfl, rfl⟩
  · replace hc2 := b_geF hc2
    rw [n_lt (by omega) (by omega)] at hc2
    obtain ⟨z0, hz0⟩ : ∃ z, bs[j]? = some z := ⟨bs[j], List.getElem?_eq_getElem hc2⟩
    refine s_aloadN (pc' := 6) dsm_5 rfl rfl rfl ?_
    refine s_iloadN (pc' := 7) dsm_6 rfl rfl ?_
    refine s_callV1 (rmsH C.l G n0 r N bs j z0 _ (by omega) hch hz0 H) (by simp) H.exa (hw _ (List.mem_of_getElem? (i := 216) rfl)) (hw _ (List.mem_of_getElem? (i := 135) rfl)) (hw _ (List.mem_of_getElem? (i := 137) rfl)) (hw _ (List.mem_of_getElem? (i := 136) rfl)) (o_nf (hw _ (List.mem_of_getElem? (i := 137) rfl)) rfl) (hw _ (List.mem_of_getElem? (i := 11) rfl)) (hw _ (List.mem_of_getElem? (i := 138) rfl)) (by decide) (o_len pdsH rfl) rfl (pc' := 10) dsm_7 rfl (Nat.le_of_ble_eq_true rfl) (Nat.le_of_ble_eq_true rfl) (Nat.le_of_ble_eq_true rfl) (Nat.le_of_ble_eq_true rfl) (fun v7 h7 hQ7 => ?_)
    obtain ⟨rfl, rfl⟩ := hQ7
    dsimp only [oPush]
    refine s_aloadN (pc' := 11) dsm_10 rfl rfl rfl ?_
    refine s_iloadN (pc' := 12) dsm_11 rfl rfl ?_
    refine s_caload A (nn (by omega)) (lt' (b := 7) (by decide) (by omega)) (v := .int z0) (by rw [cl (by omega)]; exact ys_get ht hz0 _) (pc' := 13) dsm_12 rfl ?_
    refine s_icmp (pc' := 16) (pc'' := 20) dsm_13 rfl (by decide) rfl (fun hc13 => ?_) (fun hc13 => ?_)
    · replace hc13 := b_ne hc13
      exact absurd rfl hc13
    · replace hc13 := b_neF hc13
      refine s_iconst (x := (1 : Int32)) (pc' := 17) dsm_16 rfl rfl ?_
      refine s_goto (pc' := 21) dsm_17 (by decide) rfl ?_
      exact s_nret (t := .boolean) rfl (by simp) dsm_21 (Nat.le_of_ble_eq_true rfl) (Nat.le_of_ble_eq_true rfl) ⟨rfl, rfl⟩
def imk : OInfo := ("com/example/typeloom/typeloom/ttcn/IdentifiersConvertPinLaw", method_4_code, 5, (some (.object "java/lang/String")), "make", ({ frames := 6, cells := 6, slots := 20, locals := 90 } : Room))
theorem efmk (x0 : Int32) (x1 : Int32) (x2 : Int32) (x3 : Int32) (x4 : Int32) (m : MethodId) : entryFrame m #[(.int x0), (.int x1), (.int x2), (.int x3), (.int x4)] 5 = mkF m 0 #[.val (.int x0), .val (.int x1), .val (.int x2), .val (.int x3), .val (.int x4)] [] := by first | (simp [entryFrame, mkF, argsToLocals, Value.category]; done) | rfl
theorem pdmk : parseMethodDescriptor "(ICCCC)Ljava/lang/String;" = some ⟨[.int, .char, .char, .char, .char], some (.object "java/lang/String")⟩ := by decide +kernel
theorem pnmk : plainFor (⟨"com/example/typeloom/typeloom/ttcn/IdentifiersConvertPinLaw", "make", "(ICCCC)Ljava/lang/String;"⟩ : MethodName) = true := by decide +kernel
theorem dmk_0 : decode method_4_code 0 = .ok (.iload_n 0, 1) := by decide +kernel
theorem dmk_1 : decode method_4_code 1 = .ok (.ifCond .ne 14, 3) := by decide +kernel
theorem dmk_4 : decode method_4_code 4 = .ok (.new 29, 3) := by decide +kernel
theorem dmk_7 : decode method_4_code 7 = .ok (.dup, 1) := by decide +kernel
theorem dmk_8 : decode method_4_code 8 = .ok (.iconst 0, 1) := by decide +kernel
theorem dmk_9 : decode method_4_code 9 = .ok (.newarray .char, 2) := by decide +kernel
theorem dmk_11 : decode method_4_code 11 = .ok (.invokespecial 40, 3) := by decide +kernel
theorem dmk_14 : decode method_4_code 14 = .ok (.areturn, 1) := by decide +kernel
theorem dmk_15 : decode method_4_code 15 = .ok (.iload_n 0, 1) := by decide +kernel
theorem dmk_16 : decode method_4_code 16 = .ok (.iconst 1, 1) := by decide +kernel
theorem dmk_17 : decode method_4_code 17 = .ok (.if_icmp .ne 8, 3) := by decide +kernel
theorem dmk_20 : decode method_4_code 20 = .ok (.iload_n 1, 1) := by decide +kernel
theorem dmk_21 : decode method_4_code 21 = .ok (.invokestatic 43, 3) := by decide +kernel
theorem dmk_24 : decode method_4_code 24 = .ok (.areturn, 1) := by decide +kernel
theorem dmk_25 : decode method_4_code 25 = .ok (.iload_n 0, 1) := by decide +kernel
theorem dmk_26 : decode method_4_code 26 = .ok (.iconst 2, 1) := by decide +kernel
theorem dmk_27 : decode method_4_code 27 = .ok (.if_icmp .ne 22, 3) := by decide +kernel
theorem dmk_30 : decode method_4_code 30 = .ok (.new 29, 3) := by decide +kernel
theorem dmk_33 : decode method_4_code 33 = .ok (.dup, 1) := by decide +kernel
theorem dmk_34 : decode method_4_code 34 = .ok (.iconst 2, 1) := by decide +kernel
theorem dmk_35 : decode method_4_code 35 = .ok (.newarray .char, 2) := by decide +kernel
theorem dmk_37 : decode method_4_code 37 = .ok (.dup, 1) := by decide +kernel
theorem dmk_38 : decode method_4_code 38 = .ok (.iconst 0, 1) := by decide +kernel
theorem dmk_39 : decode method_4_code 39 = .ok (.iload_n 1, 1) := by decide +kernel
theorem dmk_40 : decode method_4_code 40 = .ok (.castore, 1) := by decide +kernel
theorem dmk_41 : decode method_4_code 41 = .ok (.dup, 1) := by decide +kernel
theorem dmk_42 : decode method_4_code 42 = .ok (.iconst 1, 1) := by decide +kernel
theorem dmk_43 : decode method_4_code 43 = .ok (.iload_n 2, 1) := by decide +kernel
theorem dmk_44 : decode method_4_code 44 = .ok (.castore, 1) := by decide +kernel
theorem dmk_45 : decode method_4_code 45 = .ok (.invokespecial 40, 3) := by decide +kernel
theorem dmk_48 : decode method_4_code 48 = .ok (.areturn, 1) := by decide +kernel
theorem dmk_49 : decode method_4_code 49 = .ok (.iload_n 0, 1) := by decide +kernel
theorem dmk_50 : decode method_4_code 50 = .ok (.iconst 3, 1) := by decide +kernel
theorem dmk_51 : decode method_4_code 51 = .ok (.if_icmp .ne 26, 3) := by decide +kernel
theorem dmk_54 : decode method_4_code 54 = .ok (.new 29, 3) := by decide +kernel
theorem dmk_57 : decode method_4_code 57 = .ok (.dup, 1) := by decide +kernel
theorem dmk_58 : decode method_4_code 58 = .ok (.iconst 3, 1) := by decide +kernel
theorem dmk_59 : decode method_4_code 59 = .ok (.newarray .char, 2) := by decide +kernel
theorem dmk_61 : decode method_4_code 61 = .ok (.dup, 1) := by decide +kernel
theorem dmk_62 : decode method_4_code 62 = .ok (.iconst 0, 1) := by decide +kernel
theorem dmk_63 : decode method_4_code 63 = .ok (.iload_n 1, 1) := by decide +kernel
theorem dmk_64 : decode method_4_code 64 = .ok (.castore, 1) := by decide +kernel
theorem dmk_65 : decode method_4_code 65 = .ok (.dup, 1) := by decide +kernel
theorem dmk_66 : decode method_4_code 66 = .ok (.iconst 1, 1) := by decide +kernel
theorem dmk_67 : decode method_4_code 67 = .ok (.iload_n 2, 1) := by decide +kernel
theorem dmk_68 : decode method_4_code 68 = .ok (.castore, 1) := by decide +kernel
theorem dmk_69 : decode method_4_code 69 = .ok (.dup, 1) := by decide +kernel
theorem dmk_70 : decode method_4_code 70 = .ok (.iconst 2, 1) := by decide +kernel
theorem dmk_71 : decode method_4_code 71 = .ok (.iload_n 3, 1) := by decide +kernel
theorem dmk_72 : decode method_4_code 72 = .ok (.castore, 1) := by decide +kernel
theorem dmk_73 : decode method_4_code 73 = .ok (.invokespecial 40, 3) := by decide +kernel
theorem dmk_76 : decode method_4_code 76 = .ok (.areturn, 1) := by decide +kernel
theorem dmk_77 : decode method_4_code 77 = .ok (.new 29, 3) := by decide +kernel
theorem dmk_80 : decode method_4_code 80 = .ok (.dup, 1) := by decide +kernel
theorem dmk_81 : decode method_4_code 81 = .ok (.iconst 4, 1) := by decide +kernel
theorem dmk_82 : decode method_4_code 82 = .ok (.newarray .char, 2) := by decide +kernel
theorem dmk_84 : decode method_4_code 84 = .ok (.dup, 1) := by decide +kernel
theorem dmk_85 : decode method_4_code 85 = .ok (.iconst 0, 1) := by decide +kernel
theorem dmk_86 : decode method_4_code 86 = .ok (.iload_n 1, 1) := by decide +kernel
theorem dmk_87 : decode method_4_code 87 = .ok (.castore, 1) := by decide +kernel
theorem dmk_88 : decode method_4_code 88 = .ok (.dup, 1) := by decide +kernel
theorem dmk_89 : decode method_4_code 89 = .ok (.iconst 1, 1) := by decide +kernel
theorem dmk_90 : decode method_4_code 90 = .ok (.iload_n 2, 1) := by decide +kernel
theorem dmk_91 : decode method_4_code 91 = .ok (.castore, 1) := by decide +kernel
theorem dmk_92 : decode method_4_code 92 = .ok (.dup, 1) := by decide +kernel
theorem dmk_93 : decode method_4_code 93 = .ok (.iconst 2, 1) := by decide +kernel
theorem dmk_94 : decode method_4_code 94 = .ok (.iload_n 3, 1) := by decide +kernel
theorem dmk_95 : decode method_4_code 95 = .ok (.castore, 1) := by decide +kernel
theorem dmk_96 : decode method_4_code 96 = .ok (.dup, 1) := by decide +kernel
theorem dmk_97 : decode method_4_code 97 = .ok (.iconst 3, 1) := by decide +kernel
theorem dmk_98 : decode method_4_code 98 = .ok (.iload 4, 2) := by decide +kernel
theorem dmk_100 : decode method_4_code 100 = .ok (.castore, 1) := by decide +kernel
theorem dmk_101 : decode method_4_code 101 = .ok (.invokespecial 40, 3) := by decide +kernel
theorem dmk_104 : decode method_4_code 104 = .ok (.areturn, 1) := by decide +kernel
set_option maxRecDepth 65536 in
set_option maxHeartbeats 4000000 in
theorem rmmk (l : Launch) {Z : State} {a0 : Array Value} (G : OG Z a0) (n0 : Nat) (US : U16S Z) (n : Nat) (hn : n ≤ 4) (x0 x1 x2 x3 : Int32) (r0 : ¬ x0 < 0 ∧ ¬ (65535 : Int32) < x0) (r1 : ¬ x1 < 0 ∧ ¬ (65535 : Int32) < x1) (r2 : ¬ x2 < 0 ∧ ¬ (65535 : Int32) < x2) (r3 : ¬ x3 < 0 ∧ ¬ (65535 : Int32) < x3) (h0 : Heap) : oCon l Z n0 EL1 [] (⟨"com/example/typeloom/typeloom/ttcn/IdentifiersConvertPinLaw", "make", "(ICCCC)Ljava/lang/String;"⟩ : MethodName) imk #[.int (Int32.ofNat n), .int x0, .int x1, .int x2, .int x3] h0 (fun v h => ∃ r, v = some (.ref r) ∧ Ext h0 h ∧ UV Z h h.size r (([x0, x1, x2, x3] : List Int32).take n)) := by
  obtain ⟨hw, hEL, ⟨cmp, hC, hc0⟩, ⟨fm, hfm, hF⟩⟩ := id G
  refine oCon.mk hEL pnmk rfl rfl (efmk _ x0 x1 x2 x3) fun C hCl => ?_
  refine s_iloadN (pc' := 1) dmk_0 rfl rfl ?_
  refine s_if (pc' := 4) (pc'' := 15) dmk_1 rfl (by decide) rfl (fun hc1 => ?_) (fun hc1 => ?_)
  · replace hc1 := b_ne hc1
    refine s_iloadN (pc' := 16) dmk_15 rfl rfl ?_
    refine s_iconst (x := (1 : Int32)) (pc' := 17) dmk_16 rfl rfl ?_
    refine s_icmp (pc' := 20) (pc'' := 25) dmk_17 rfl (by decide) rfl (fun hc17 => ?_) (fun hc17 => ?_)
    · replace hc17 := b_ne hc17
      refine s_iloadN (pc' := 26) dmk_25 rfl rfl ?_
      refine s_iconst (x := (2 : Int32)) (pc' := 27) dmk_26 rfl rfl ?_
      refine s_icmp (pc' := 30) (pc'' := 49) dmk_27 rfl (by decide) rfl (fun hc27 => ?_) (fun hc27 => ?_)
      · replace hc27 := b_ne hc27
        refine s_iloadN (pc' := 50) dmk_49 rfl rfl ?_
        refine s_iconst (x := (3 : Int32)) (pc' := 51) dmk_50 rfl rfl ?_
        refine s_icmp (pc' := 54) (pc'' := 77) dmk_51 rfl (by decide) rfl (fun hc51 => ?_) (fun hc51 => ?_)
        · replace hc51 := b_ne hc51
          obtain rfl : n = 4 := by
            rcases (show n = 0 ∨ n = 1 ∨ n = 2 ∨ n = 3 ∨ n = 4 by omega) with rfl | rfl | rfl | rfl | rfl
            · exact absurd rfl hc1
            · exact absurd rfl hc17
            · exact absurd rfl hc27
            · exact absurd rfl hc51
            · rfl
          refine s_new (hw _ (List.mem_of_getElem? (i := 9) rfl)) (hw _ (List.mem_of_getElem? (i := 10) rfl)) (hw _ (List.mem_of_getElem? (i := 11) rfl)) (pc' := 80) dmk_77 rfl (Nat.le_of_ble_eq_true rfl) (Nat.le_of_ble_eq_true rfl) (fun h77 b77 g77 nb77 E77 A77 D77 => ?_)
          refine s_dup (pc' := 81) dmk_80 rfl rfl ?_
          refine s_iconst (x := (4 : Int32)) (pc' := 82) dmk_81 rfl rfl ?_
          refine s_newA 4 (hw _ (List.mem_of_getElem? (i := 12) rfl)) (pc' := 84) dmk_82 rfl (by decide) (by decide) (by decide) (Nat.le_of_ble_eq_true rfl) (Nat.le_of_ble_eq_true rfl) (fun h82 b82 k82 g82 nb82 E82 A82 => ?_)
          have hne77 : b77 ≠ b82 := o_fresh A77.lt g82
          have AA82 := o_padTo A82 4
          refine s_dup (pc' := 85) dmk_84 rfl rfl ?_
          refine s_iconst (x := (0 : Int32)) (pc' := 86) dmk_85 rfl rfl ?_
          refine s_iloadN (pc' := 87) dmk_86 rfl rfl ?_
          refine s_castore AA82 nb82 (by simp) (by decide) (by decide) 0 rfl (by simp) (pc' := 88) dmk_87 rfl (fun h87 W87 A87 => ?_)
          rw [nar16 r0] at A87
          refine s_dup (pc' := 89) dmk_88 rfl rfl ?_
          refine s_iconst (x := (1 : Int32)) (pc' := 90) dmk_89 rfl rfl ?_
          refine s_iloadN (pc' := 91) dmk_90 rfl rfl ?_
          refine s_castore A87 nb82 (by simp) (by decide) (by decide) 1 rfl (by simp) (pc' := 92) dmk_91 rfl (fun h91 W91 A91 => ?_)
          rw [nar16 r1] at A91
          refine s_dup (pc' := 93) dmk_92 rfl rfl ?_
          refine s_iconst (x := (2 : Int32)) (pc' := 94) dmk_93 rfl rfl ?_
          refine s_iloadN (pc' := 95) dmk_94 rfl rfl ?_
          refine s_castore A91 nb82 (by simp) (by decide) (by decide) 2 rfl (by simp) (pc' := 96) dmk_95 rfl (fun h95 W95 A95 => ?_)
          rw [nar16 r2] at A95
          refine s_dup (pc' := 97) dmk_96 rfl rfl ?_
          refine s_iconst (x := (3 : Int32)) (pc' := 98) dmk_97 rfl rfl ?_
          refine s_iload (pc' := 100) dmk_98 rfl rfl ?_
          refine s_castore A95 nb82 (by simp) (by decide) (by decide) 3 rfl (by simp) (pc' := 101) dmk_100 rfl (fun h100 W100 A100 => ?_)
          rw [nar16 r3] at A100
          have hC16 : C16 [x0, x1, x2, x3] := (by intro z hz; simp at hz; rcases hz with rfl | rfl | rfl | rfl; exact r0; exact r1; exact r2; exact r3)
          rcases bad_or hC16 with hch | ⟨j0, z0, hB⟩
          · refine s_callI1 (rmsC C.l G n0 b77 b82 k82 [x0, x1, x2, x3] _ _ (by simp) hch A100 (((((A77.ext E82).wr W87).wr W91).wr W95).wr W100) ((((((D77 (Or.inr (hw _ (List.mem_of_getElem? (i := 25) rfl))) (ty := .array .byte) (by decide)).ext E82).other W87 (Or.inl hne77)).other W91 (Or.inl hne77)).other W95 (Or.inl hne77)).other W100 (Or.inl hne77)) ((((((D77 (Or.inr (hw _ (List.mem_of_getElem? (i := 26) rfl))) (ty := .byte) (by decide)).ext E82).other W87 (Or.inl hne77)).other W91 (Or.inl hne77)).other W95 (Or.inl hne77)).other W100 (Or.inl hne77)) nb77) (by simp) rfl rfl (hw _ (List.mem_of_getElem? (i := 13) rfl)) (hw _ (List.mem_of_getElem? (i := 14) rfl)) (hw _ (List.mem_of_getElem? (i := 11) rfl)) (hw _ (List.mem_of_getElem? (i := 15) rfl)) (by decide) (o_len pdsC rfl) rfl (pc' := 104) dmk_101 rfl (Nat.le_of_ble_eq_true rfl) (Nat.le_of_ble_eq_true rfl) (Nat.le_of_ble_eq_true rfl) (Nat.le_of_ble_eq_true rfl) (fun v101 h101 hQ101 => ?_)
            obtain ⟨rfl, K101, V101⟩ := hQ101
            dsimp only [oPush]
            have Y101 := o_extKeep (o_extKeep (o_extKeep (o_extKeep (o_extKeep (o_ext E77 E82) (Keep.of_wr W87) (allS (by have := E77.1; omega) all0)) (Keep.of_wr W91) (allS (by have := E77.1; omega) all0)) (Keep.of_wr W95) (allS (by have := E77.1; omega) all0)) (Keep.of_wr W100) (allS (by have := E77.1; omega) all0)) K101 (allS (Nat.le_of_eq g77.symm) all0)
            exact s_aret rfl rfl rfl dmk_104 (Nat.le_of_ble_eq_true rfl) (Nat.le_of_ble_eq_true rfl) ⟨b77, rfl, Y101, (V101.uv hch)⟩
          · refine s_callI1 (rmdC C.l G n0 US b77 b82 k82 [x0, x1, x2, x3] _ j0 z0 _ (by simp) hB hC16 A100 (((((A77.ext E82).wr W87).wr W91).wr W95).wr W100) ((((((D77 (Or.inr (hw _ (List.mem_of_getElem? (i := 25) rfl))) (ty := .array .byte) (by decide)).ext E82).other W87 (Or.inl hne77)).other W91 (Or.inl hne77)).other W95 (Or.inl hne77)).other W100 (Or.inl hne77)) ((((((D77 (Or.inr (hw _ (List.mem_of_getElem? (i := 26) rfl))) (ty := .byte) (by decide)).ext E82).other W87 (Or.inl hne77)).other W91 (Or.inl hne77)).other W95 (Or.inl hne77)).other W100 (Or.inl hne77)) nb77) (by simp) rfl rfl (hw _ (List.mem_of_getElem? (i := 13) rfl)) (hw _ (List.mem_of_getElem? (i := 14) rfl)) (hw _ (List.mem_of_getElem? (i := 11) rfl)) (hw _ (List.mem_of_getElem? (i := 15) rfl)) (by decide) (o_len pddC rfl) rfl (pc' := 104) dmk_101 rfl (Nat.le_of_ble_eq_true rfl) (Nat.le_of_ble_eq_true rfl) (Nat.le_of_ble_eq_true rfl) (Nat.le_of_ble_eq_true rfl) (fun v101 h101 hQ101 => ?_)
            obtain ⟨rfl, K101, V101⟩ := hQ101
            dsimp only [oPush]
            have Y101 := o_extKeep (o_extKeep (o_extKeep (o_extKeep (o_extKeep (o_ext E77 E82) (Keep.of_wr W87) (allS (by have := E77.1; omega) all0)) (Keep.of_wr W91) (allS (by have := E77.1; omega) all0)) (Keep.of_wr W95) (allS (by have := E77.1; omega) all0)) (Keep.of_wr W100) (allS (by have := E77.1; omega) all0)) K101 (allS (Nat.le_of_eq g77.symm) all0)
            exact s_aret rfl rfl rfl dmk_104 (Nat.le_of_ble_eq_true rfl) (Nat.le_of_ble_eq_true rfl) ⟨b77, rfl, Y101, V101.uv⟩
        · replace hc51 := b_neF hc51
          obtain rfl : n = 3 := n_inj (by omega) (by omega) hc51
          refine s_new (hw _ (List.mem_of_getElem? (i := 9) rfl)) (hw _ (List.mem_of_getElem? (i := 10) rfl)) (hw _ (List.mem_of_getElem? (i := 11) rfl)) (pc' := 57) dmk_54 rfl (Nat.le_of_ble_eq_true rfl) (Nat.le_of_ble_eq_true rfl) (fun h54 b54 g54 nb54 E54 A54 D54 => ?_)
          refine s_dup (pc' := 58) dmk_57 rfl rfl ?_
          refine s_iconst (x := (3 : Int32)) (pc' := 59) dmk_58 rfl rfl ?_
          refine s_newA 4 (hw _ (List.mem_of_getElem? (i := 12) rfl)) (pc' := 61) dmk_59 rfl (by decide) (by decide) (by decide) (Nat.le_of_ble_eq_true rfl) (Nat.le_of_ble_eq_true rfl) (fun h59 b59 k59 g59 nb59 E59 A59 => ?_)
          have hne54 : b54 ≠ b59 := o_fresh A54.lt g59
          have AA59 := o_padTo A59 3
          refine s_dup (pc' := 62) dmk_61 rfl rfl ?_
          refine s_iconst (x := (0 : Int32)) (pc' := 63) dmk_62 rfl rfl ?_
          refine s_iloadN (pc' := 64) dmk_63 rfl rfl ?_
          refine s_castore AA59 nb59 (by simp) (by decide) (by decide) 0 rfl (by simp) (pc' := 65) dmk_64 rfl (fun h64 W64 A64 => ?_)
          rw [nar16 r0] at A64
          refine s_dup (pc' := 66) dmk_65 rfl rfl ?_
          refine s_iconst (x := (1 : Int32)) (pc' := 67) dmk_66 rfl rfl ?_
          refine s_iloadN (pc' := 68) dmk_67 rfl rfl ?_
          refine s_castore A64 nb59 (by simp) (by decide) (by decide) 1 rfl (by simp) (pc' := 69) dmk_68 rfl (fun h68 W68 A68 => ?_)
          rw [nar16 r1] at A68
          refine s_dup (pc' := 70) dmk_69 rfl rfl ?_
          refine s_iconst (x := (2 : Int32)) (pc' := 71) dmk_70 rfl rfl ?_
          refine s_iloadN (pc' := 72) dmk_71 rfl rfl ?_
          refine s_castore A68 nb59 (by simp) (by decide) (by decide) 2 rfl (by simp) (pc' := 73) dmk_72 rfl (fun h72 W72 A72 => ?_)
          rw [nar16 r2] at A72
          have hC16 : C16 [x0, x1, x2] := (by intro z hz; simp at hz; rcases hz with rfl | rfl | rfl; exact r0; exact r1; exact r2)
          rcases bad_or hC16 with hch | ⟨j0, z0, hB⟩
          · refine s_callI1 (rmsC C.l G n0 b54 b59 k59 [x0, x1, x2] _ _ (by simp) hch A72 ((((A54.ext E59).wr W64).wr W68).wr W72) (((((D54 (Or.inr (hw _ (List.mem_of_getElem? (i := 25) rfl))) (ty := .array .byte) (by decide)).ext E59).other W64 (Or.inl hne54)).other W68 (Or.inl hne54)).other W72 (Or.inl hne54)) (((((D54 (Or.inr (hw _ (List.mem_of_getElem? (i := 26) rfl))) (ty := .byte) (by decide)).ext E59).other W64 (Or.inl hne54)).other W68 (Or.inl hne54)).other W72 (Or.inl hne54)) nb54) (by simp) rfl rfl (hw _ (List.mem_of_getElem? (i := 13) rfl)) (hw _ (List.mem_of_getElem? (i := 14) rfl)) (hw _ (List.mem_of_getElem? (i := 11) rfl)) (hw _ (List.mem_of_getElem? (i := 15) rfl)) (by decide) (o_len pdsC rfl) rfl (pc' := 76) dmk_73 rfl (Nat.le_of_ble_eq_true rfl) (Nat.le_of_ble_eq_true rfl) (Nat.le_of_ble_eq_true rfl) (Nat.le_of_ble_eq_true rfl) (fun v73 h73 hQ73 => ?_)
            obtain ⟨rfl, K73, V73⟩ := hQ73
            dsimp only [oPush]
            have Y73 := o_extKeep (o_extKeep (o_extKeep (o_extKeep (o_ext E54 E59) (Keep.of_wr W64) (allS (by have := E54.1; omega) all0)) (Keep.of_wr W68) (allS (by have := E54.1; omega) all0)) (Keep.of_wr W72) (allS (by have := E54.1; omega) all0)) K73 (allS (Nat.le_of_eq g54.symm) all0)
            exact s_aret rfl rfl rfl dmk_76 (Nat.le_of_ble_eq_true rfl) (Nat.le_of_ble_eq_true rfl) ⟨b54, rfl, Y73, (V73.uv hch)⟩
          · refine s_callI1 (rmdC C.l G n0 US b54 b59 k59 [x0, x1, x2] _ j0 z0 _ (by simp) hB hC16 A72 ((((A54.ext E59).wr W64).wr W68).wr W72) (((((D54 (Or.inr (hw _ (List.mem_of_getElem? (i := 25) rfl))) (ty := .array .byte) (by decide)).ext E59).other W64 (Or.inl hne54)).other W68 (Or.inl hne54)).other W72 (Or.inl hne54)) (((((D54 (Or.inr (hw _ (List.mem_of_getElem? (i := 26) rfl))) (ty := .byte) (by decide)).ext E59).other W64 (Or.inl hne54)).other W68 (Or.inl hne54)).other W72 (Or.inl hne54)) nb54) (by simp) rfl rfl (hw _ (List.mem_of_getElem? (i := 13) rfl)) (hw _ (List.mem_of_getElem? (i := 14) rfl)) (hw _ (List.mem_of_getElem? (i := 11) rfl)) (hw _ (List.mem_of_getElem? (i := 15) rfl)) (by decide) (o_len pddC rfl) rfl (pc' := 76) dmk_73 rfl (Nat.le_of_ble_eq_true rfl) (Nat.le_of_ble_eq_true rfl) (Nat.le_of_ble_eq_true rfl) (Nat.le_of_ble_eq_true rfl) (fun v73 h73 hQ73 => ?_)
            obtain ⟨rfl, K73, V73⟩ := hQ73
            dsimp only [oPush]
            have Y73 := o_extKeep (o_extKeep (o_extKeep (o_extKeep (o_ext E54 E59) (Keep.of_wr W64) (allS (by have := E54.1; omega) all0)) (Keep.of_wr W68) (allS (by have := E54.1; omega) all0)) (Keep.of_wr W72) (allS (by have := E54.1; omega) all0)) K73 (allS (Nat.le_of_eq g54.symm) all0)
            exact s_aret rfl rfl rfl dmk_76 (Nat.le_of_ble_eq_true rfl) (Nat.le_of_ble_eq_true rfl) ⟨b54, rfl, Y73, V73.uv⟩
      · replace hc27 := b_neF hc27
        obtain rfl : n = 2 := n_inj (by omega) (by omega) hc27
        refine s_new (hw _ (List.mem_of_getElem? (i := 9) rfl)) (hw _ (List.mem_of_getElem? (i := 10) rfl)) (hw _ (List.mem_of_getElem? (i := 11) rfl)) (pc' := 33) dmk_30 rfl (Nat.le_of_ble_eq_true rfl) (Nat.le_of_ble_eq_true rfl) (fun h30 b30 g30 nb30 E30 A30 D30 => ?_)
        refine s_dup (pc' := 34) dmk_33 rfl rfl ?_
        refine s_iconst (x := (2 : Int32)) (pc' := 35) dmk_34 rfl rfl ?_
        refine s_newA 4 (hw _ (List.mem_of_getElem? (i := 12) rfl)) (pc' := 37) dmk_35 rfl (by decide) (by decide) (by decide) (Nat.le_of_ble_eq_true rfl) (Nat.le_of_ble_eq_true rfl) (fun h35 b35 k35 g35 nb35 E35 A35 => ?_)
        have hne30 : b30 ≠ b35 := o_fresh A30.lt g35
        have AA35 := o_padTo A35 2
        refine s_dup (pc' := 38) dmk_37 rfl rfl ?_
        refine s_iconst (x := (0 : Int32)) (pc' := 39) dmk_38 rfl rfl ?_
        refine s_iloadN (pc' := 40) dmk_39 rfl rfl ?_
        refine s_castore AA35 nb35 (by simp) (by decide) (by decide) 0 rfl (by simp) (pc' := 41) dmk_40 rfl (fun h40 W40 A40 => ?_)
        rw [nar16 r0] at A40
        refine s_dup (pc' := 42) dmk_41 rfl rfl ?_
        refine s_iconst (x := (1 : Int32)) (pc' := 43) dmk_42 rfl rfl ?_
        refine s_iloadN (pc' := 44) dmk_43 rfl rfl ?_
        refine s_castore A40 nb35 (by simp) (by decide) (by decide) 1 rfl (by simp) (pc' := 45) dmk_44 rfl (fun h44 W44 A44 => ?_)
        rw [nar16 r1] at A44
        have hC16 : C16 [x0, x1] := (by intro z hz; simp at hz; rcases hz with rfl | rfl; exact r0; exact r1)
        rcases bad_or hC16 with hch | ⟨j0, z0, hB⟩
        · refine s_callI1 (rmsC C.l G n0 b30 b35 k35 [x0, x1] _ _ (by simp) hch A44 (((A30.ext E35).wr W40).wr W44) ((((D30 (Or.inr (hw _ (List.mem_of_getElem? (i := 25) rfl))) (ty := .array .byte) (by decide)).ext E35).other W40 (Or.inl hne30)).other W44 (Or.inl hne30)) ((((D30 (Or.inr (hw _ (List.mem_of_getElem? (i := 26) rfl))) (ty := .byte) (by decide)).ext E35).other W40 (Or.inl hne30)).other W44 (Or.inl hne30)) nb30) (by simp) rfl rfl (hw _ (List.mem_of_getElem? (i := 13) rfl)) (hw _ (List.mem_of_getElem? (i := 14) rfl)) (hw _ (List.mem_of_getElem? (i := 11) rfl)) (hw _ (List.mem_of_getElem? (i := 15) rfl)) (by decide) (o_len pdsC rfl) rfl (pc' := 48) dmk_45 rfl (Nat.le_of_ble_eq_true rfl) (Nat.le_of_ble_eq_true rfl) (Nat.le_of_ble_eq_true rfl) (Nat.le_of_ble_eq_true rfl) (fun v45 h45 hQ45 => ?_)
          obtain ⟨rfl, K45, V45⟩ := hQ45
          dsimp only [oPush]
          have Y45 := o_extKeep (o_extKeep (o_extKeep (o_ext E30 E35) (Keep.of_wr W40) (allS (by have := E30.1; omega) all0)) (Keep.of_wr W44) (allS (by have := E30.1; omega) all0)) K45 (allS (Nat.le_of_eq g30.symm) all0)
          exact s_aret rfl rfl rfl dmk_48 (Nat.le_of_ble_eq_true rfl) (Nat.le_of_ble_eq_true rfl) ⟨b30, rfl, Y45, (V45.uv hch)⟩
        · refine s_callI1 (rmdC C.l G n0 US b30 b35 k35 [x0, x1] _ j0 z0 _ (by simp) hB hC16 A44 (((A30.ext E35).wr W40).wr W44) ((((D30 (Or.inr (hw _ (List.mem_of_getElem? (i := 25) rfl))) (ty := .array .byte) (by decide)).ext E35).other W40 (Or.inl hne30)).other W44 (Or.inl hne30)) ((((D30 (Or.inr (hw _ (List.mem_of_getElem? (i := 26) rfl))) (ty := .byte) (by decide)).ext E35).other W40 (Or.inl hne30)).other W44 (Or.inl hne30)) nb30) (by simp) rfl rfl (hw _ (List.mem_of_getElem? (i := 13) rfl)) (hw _ (List.mem_of_getElem? (i := 14) rfl)) (hw _ (List.mem_of_getElem? (i := 11) rfl)) (hw _ (List.mem_of_getElem? (i := 15) rfl)) (by decide) (o_len pddC rfl) rfl (pc' := 48) dmk_45 rfl (Nat.le_of_ble_eq_true rfl) (Nat.le_of_ble_eq_true rfl) (Nat.le_of_ble_eq_true rfl) (Nat.le_of_ble_eq_true rfl) (fun v45 h45 hQ45 => ?_)
          obtain ⟨rfl, K45, V45⟩ := hQ45
          dsimp only [oPush]
          have Y45 := o_extKeep (o_extKeep (o_extKeep (o_ext E30 E35) (Keep.of_wr W40) (allS (by have := E30.1; omega) all0)) (Keep.of_wr W44) (allS (by have := E30.1; omega) all0)) K45 (allS (Nat.le_of_eq g30.symm) all0)
          exact s_aret rfl rfl rfl dmk_48 (Nat.le_of_ble_eq_true rfl) (Nat.le_of_ble_eq_true rfl) ⟨b30, rfl, Y45, V45.uv⟩
    · replace hc17 := b_neF hc17
      obtain rfl : n = 1 := n_inj (by omega) (by omega) hc17
      refine s_iloadN (pc' := 21) dmk_20 rfl rfl ?_
      by_cases hv : (255 : Int32) < x0
      · refine s_callS1 (rmvU C.l G n0 US x0 h0 hv) (by simp) (hw _ (List.mem_of_getElem? (i := 247) rfl)) (hw _ (List.mem_of_getElem? (i := 248) rfl)) (hw _ (List.mem_of_getElem? (i := 11) rfl)) (hw _ (List.mem_of_getElem? (i := 249) rfl)) (by decide) (o_len pdvU rfl) rfl (pc' := 24) dmk_21 rfl (Nat.le_of_ble_eq_true rfl) (Nat.le_of_ble_eq_true rfl) (Nat.le_of_ble_eq_true rfl) (Nat.le_of_ble_eq_true rfl) (fun v21 h21 hQ21 => ?_)
        obtain ⟨r, rfl, Y, V⟩ := hQ21
        dsimp only [oPush]
        exact s_aret rfl rfl rfl dmk_24 (Nat.le_of_ble_eq_true rfl) (Nat.le_of_ble_eq_true rfl) ⟨r, rfl, Y, V.uv⟩
      · refine s_callS1 (rmvO C.l G n0 x0 h0 ⟨r0.1, hv⟩) (by simp) (hw _ (List.mem_of_getElem? (i := 247) rfl)) (hw _ (List.mem_of_getElem? (i := 248) rfl)) (hw _ (List.mem_of_getElem? (i := 11) rfl)) (hw _ (List.mem_of_getElem? (i := 249) rfl)) (by decide) (o_len pdvO rfl) rfl (pc' := 24) dmk_21 rfl (Nat.le_of_ble_eq_true rfl) (Nat.le_of_ble_eq_true rfl) (Nat.le_of_ble_eq_true rfl) (Nat.le_of_ble_eq_true rfl) (fun v21 h21 hQ21 => ?_)
        obtain ⟨r, rfl, gr, Y, V⟩ := hQ21
        dsimp only [oPush]
        exact s_aret rfl rfl rfl dmk_24 (Nat.le_of_ble_eq_true rfl) (Nat.le_of_ble_eq_true rfl) ⟨r, rfl, Y, V.uv (by intro z hz; simp at hz; subst hz; exact ⟨r0.1, hv⟩)⟩
  · replace hc1 := b_neF hc1
    obtain rfl : n = 0 := n_inj (by omega) (by omega) hc1
    refine s_new (hw _ (List.mem_of_getElem? (i := 9) rfl)) (hw _ (List.mem_of_getElem? (i := 10) rfl)) (hw _ (List.mem_of_getElem? (i := 11) rfl)) (pc' := 7) dmk_4 rfl (Nat.le_of_ble_eq_true rfl) (Nat.le_of_ble_eq_true rfl) (fun h4 b4 g4 nb4 E4 A4 D4 => ?_)
    refine s_dup (pc' := 8) dmk_7 rfl rfl ?_
    refine s_iconst (x := (0 : Int32)) (pc' := 9) dmk_8 rfl rfl ?_
    refine s_newA 4 (hw _ (List.mem_of_getElem? (i := 12) rfl)) (pc' := 11) dmk_9 rfl (by decide) (by decide) (by decide) (Nat.le_of_ble_eq_true rfl) (Nat.le_of_ble_eq_true rfl) (fun h9 b9 k9 g9 nb9 E9 A9 => ?_)
    have hne4 : b4 ≠ b9 := o_fresh A4.lt g9
    have hC16 : C16 ([] : List Int32) := (by intro z hz; simp at hz)
    rcases bad_or hC16 with hch | ⟨j0, z0, hB⟩
    · refine s_callI1 (rmsC C.l G n0 b4 b9 k9 ([] : List Int32) _ _ (by simp) hch A9 (A4.ext E9) ((D4 (Or.inr (hw _ (List.mem_of_getElem? (i := 25) rfl))) (ty := .array .byte) (by decide)).ext E9) ((D4 (Or.inr (hw _ (List.mem_of_getElem? (i := 26) rfl))) (ty := .byte) (by decide)).ext E9) nb4) (by simp) rfl rfl (hw _ (List.mem_of_getElem? (i := 13) rfl)) (hw _ (List.mem_of_getElem? (i := 14) rfl)) (hw _ (List.mem_of_getElem? (i := 11) rfl)) (hw _ (List.mem_of_getElem? (i := 15) rfl)) (by decide) (o_len pdsC rfl) rfl (pc' := 14) dmk_11 rfl (Nat.le_of_ble_eq_true rfl) (Nat.le_of_ble_eq_true rfl) (Nat.le_of_ble_eq_true rfl) (Nat.le_of_ble_eq_true rfl) (fun v11 h11 hQ11 => ?_)
      obtain ⟨rfl, K11, V11⟩ := hQ11
      dsimp only [oPush]
      have Y11 := o_extKeep (o_ext E4 E9) K11 (allS (Nat.le_of_eq g4.symm) all0)
      exact s_aret rfl rfl rfl dmk_14 (Nat.le_of_ble_eq_true rfl) (Nat.le_of_ble_eq_true rfl) ⟨b4, rfl, Y11, (V11.uv hch)⟩
    · refine s_callI1 (rmdC C.l G n0 US b4 b9 k9 ([] : List Int32) _ j0 z0 _ (by simp) hB hC16 A9 (A4.ext E9) ((D4 (Or.inr (hw _ (List.mem_of_getElem? (i := 25) rfl))) (ty := .array .byte) (by decide)).ext E9) ((D4 (Or.inr (hw _ (List.mem_of_getElem? (i := 26) rfl))) (ty := .byte) (by decide)).ext E9) nb4) (by simp) rfl rfl (hw _ (List.mem_of_getElem? (i := 13) rfl)) (hw _ (List.mem_of_getElem? (i := 14) rfl)) (hw _ (List.mem_of_getElem? (i := 11) rfl)) (hw _ (List.mem_of_getElem? (i := 15) rfl)) (by decide) (o_len pddC rfl) rfl (pc' := 14) dmk_11 rfl (Nat.le_of_ble_eq_true rfl) (Nat.le_of_ble_eq_true rfl) (Nat.le_of_ble_eq_true rfl) (Nat.le_of_ble_eq_true rfl) (fun v11 h11 hQ11 => ?_)
      obtain ⟨rfl, K11, V11⟩ := hQ11
      dsimp only [oPush]
      have Y11 := o_extKeep (o_ext E4 E9) K11 (allS (Nat.le_of_eq g4.symm) all0)
      exact s_aret rfl rfl rfl dmk_14 (Nat.le_of_ble_eq_true rfl) (Nat.le_of_ble_eq_true rfl) ⟨b4, rfl, Y11, V11.uv⟩
def lst (w : List Int32) (p : Bool) (x : Int32) : List Int32 × Bool := if (127 : Int32) < x then (w, p) else if al x then (if w ≠ [] ∧ p = true then w ++ [95, x] else w ++ [x], false) else (w, true)
def f1 (w : List Int32) : Int32 := if w = [] then 0 else 1
def f2 (p : Bool) : Int32 := if p = true then 1 else 0
def OS (Z : State) (h : Heap) (o s : Addr) (ko ks : ClassId) (w : List Int32) (p : Bool) : Prop := (∃ ys : List Value, ys.length = 7 ∧ ys.take w.length = w.map Value.int ∧ Arv Z h o ko .char 7 ys (.int 0)) ∧ Arv Z h s ks .int 3 [.int (Int32.ofNat w.length), .int (f1 w), .int (f2 p)] (.int 0)
theorem ys_set {ys : List Value} {w : List Int32} {z : Int32} (ht : ys.take w.length = w.map Value.int) (hl : w.length < ys.length) : (ys.set w.length (.int z)).take (w ++ [z]).length = (w ++ [z]).map Value.int := by
  rw [List.length_append, List.length_singleton, List.take_add_one, List.take_set_of_le (Nat.le_refl _), ht, List.getElem?_set_self hl]
  simp
theorem f1_snoc (w : List Int32) (x : Int32) : f1 (w ++ [x]) = 1 := by simp [f1]
def isp : OInfo := ("com/example/typeloom/typeloom/ttcn/IdentifiersConvertPinLaw", method_6_code, 4, none, "step", ({ frames := 1, cells := 0, slots := 0, locals := 16 } : Room))
theorem efsp (x0 : Addr) (x1 : Addr) (x2 : Int32) (x3 : Int32) (m : MethodId) : entryFrame m #[(.ref x0), (.ref x1), (.int x2), (.int x3)] 4 = mkF m 0 #[.val (.ref x0), .val (.ref x1), .val (.int x2), .val (.int x3)] [] := by first | (simp [entryFrame, mkF, argsToLocals, Value.category]; done) | rfl
theorem pdsp : parseMethodDescriptor "([C[ICZ)V" = some ⟨[(.array .char), (.array .int), .char, .boolean], none⟩ := by decide +kernel
theorem pnsp : plainFor (⟨"com/example/typeloom/typeloom/ttcn/IdentifiersConvertPinLaw", "step", "([C[ICZ)V"⟩ : MethodName) = true := by decide +kernel
theorem dsp_0 : decode method_6_code 0 = .ok (.iload_n 3, 1) := by decide +kernel
theorem dsp_1 : decode method_6_code 1 = .ok (.ifCond .eq 9, 3) := by decide +kernel
theorem dsp_4 : decode method_6_code 4 = .ok (.iload_n 2, 1) := by decide +kernel
theorem dsp_5 : decode method_6_code 5 = .ok (.bipush 127, 2) := by decide +kernel
theorem dsp_7 : decode method_6_code 7 = .ok (.if_icmp .le 4, 3) := by decide +kernel
theorem dsp_10 : decode method_6_code 10 = .ok (.return_, 1) := by decide +kernel
theorem dsp_11 : decode method_6_code 11 = .ok (.iload_n 2, 1) := by decide +kernel
theorem dsp_12 : decode method_6_code 12 = .ok (.invokestatic 47, 3) := by decide +kernel
theorem dsp_15 : decode method_6_code 15 = .ok (.ifCond .eq 57, 3) := by decide +kernel
theorem dsp_18 : decode method_6_code 18 = .ok (.aload_n 1, 1) := by decide +kernel
theorem dsp_19 : decode method_6_code 19 = .ok (.iconst 1, 1) := by decide +kernel
theorem dsp_20 : decode method_6_code 20 = .ok (.iaload, 1) := by decide +kernel
theorem dsp_21 : decode method_6_code 21 = .ok (.iconst 1, 1) := by decide +kernel
theorem dsp_22 : decode method_6_code 22 = .ok (.if_icmp .ne 25, 3) := by decide +kernel
theorem dsp_25 : decode method_6_code 25 = .ok (.aload_n 1, 1) := by decide +kernel
theorem dsp_26 : decode method_6_code 26 = .ok (.iconst 2, 1) := by decide +kernel
theorem dsp_27 : decode method_6_code 27 = .ok (.iaload, 1) := by decide +kernel
theorem dsp_28 : decode method_6_code 28 = .ok (.iconst 1, 1) := by decide +kernel
theorem dsp_29 : decode method_6_code 29 = .ok (.if_icmp .ne 18, 3) := by decide +kernel
theorem dsp_32 : decode method_6_code 32 = .ok (.aload_n 0, 1) := by decide +kernel
theorem dsp_33 : decode method_6_code 33 = .ok (.aload_n 1, 1) := by decide +kernel
theorem dsp_34 : decode method_6_code 34 = .ok (.iconst 0, 1) := by decide +kernel
theorem dsp_35 : decode method_6_code 35 = .ok (.iaload, 1) := by decide +kernel
theorem dsp_36 : decode method_6_code 36 = .ok (.bipush 95, 2) := by decide +kernel
theorem dsp_38 : decode method_6_code 38 = .ok (.castore, 1) := by decide +kernel
theorem dsp_39 : decode method_6_code 39 = .ok (.aload_n 1, 1) := by decide +kernel
theorem dsp_40 : decode method_6_code 40 = .ok (.iconst 0, 1) := by decide +kernel
theorem dsp_41 : decode method_6_code 41 = .ok (.aload_n 1, 1) := by decide +kernel
theorem dsp_42 : decode method_6_code 42 = .ok (.iconst 0, 1) := by decide +kernel
theorem dsp_43 : decode method_6_code 43 = .ok (.iaload, 1) := by decide +kernel
theorem dsp_44 : decode method_6_code 44 = .ok (.iconst 1, 1) := by decide +kernel
theorem dsp_45 : decode method_6_code 45 = .ok (.iadd, 1) := by decide +kernel
theorem dsp_46 : decode method_6_code 46 = .ok (.iastore, 1) := by decide +kernel
theorem dsp_47 : decode method_6_code 47 = .ok (.aload_n 0, 1) := by decide +kernel
theorem dsp_48 : decode method_6_code 48 = .ok (.aload_n 1, 1) := by decide +kernel
theorem dsp_49 : decode method_6_code 49 = .ok (.iconst 0, 1) := by decide +kernel
theorem dsp_50 : decode method_6_code 50 = .ok (.iaload, 1) := by decide +kernel
theorem dsp_51 : decode method_6_code 51 = .ok (.iload_n 2, 1) := by decide +kernel
theorem dsp_52 : decode method_6_code 52 = .ok (.castore, 1) := by decide +kernel
theorem dsp_53 : decode method_6_code 53 = .ok (.aload_n 1, 1) := by decide +kernel
theorem dsp_54 : decode method_6_code 54 = .ok (.iconst 0, 1) := by decide +kernel
theorem dsp_55 : decode method_6_code 55 = .ok (.aload_n 1, 1) := by decide +kernel
theorem dsp_56 : decode method_6_code 56 = .ok (.iconst 0, 1) := by decide +kernel
theorem dsp_57 : decode method_6_code 57 = .ok (.iaload, 1) := by decide +kernel
theorem dsp_58 : decode method_6_code 58 = .ok (.iconst 1, 1) := by decide +kernel
theorem dsp_59 : decode method_6_code 59 = .ok (.iadd, 1) := by decide +kernel
theorem dsp_60 : decode method_6_code 60 = .ok (.iastore, 1) := by decide +kernel
theorem dsp_61 : decode method_6_code 61 = .ok (.aload_n 1, 1) := by decide +kernel
theorem dsp_62 : decode method_6_code 62 = .ok (.iconst 1, 1) := by decide +kernel
theorem dsp_63 : decode method_6_code 63 = .ok (.iconst 1, 1) := by decide +kernel
theorem dsp_64 : decode method_6_code 64 = .ok (.iastore, 1) := by decide +kernel
theorem dsp_65 : decode method_6_code 65 = .ok (.aload_n 1, 1) := by decide +kernel
theorem dsp_66 : decode method_6_code 66 = .ok (.iconst 2, 1) := by decide +kernel
theorem dsp_67 : decode method_6_code 67 = .ok (.iconst 0, 1) := by decide +kernel
theorem dsp_68 : decode method_6_code 68 = .ok (.iastore, 1) := by decide +kernel
theorem dsp_69 : decode method_6_code 69 = .ok (.goto 7, 3) := by decide +kernel
theorem dsp_72 : decode method_6_code 72 = .ok (.aload_n 1, 1) := by decide +kernel
theorem dsp_73 : decode method_6_code 73 = .ok (.iconst 2, 1) := by decide +kernel
theorem dsp_74 : decode method_6_code 74 = .ok (.iconst 1, 1) := by decide +kernel
theorem dsp_75 : decode method_6_code 75 = .ok (.iastore, 1) := by decide +kernel
theorem dsp_76 : decode method_6_code 76 = .ok (.return_, 1) := by decide +kernel
set_option maxRecDepth 65536 in
set_option maxHeartbeats 4000000 in
theorem st47 {C : OCtx} {Z : State} {a0 : Array Value} (G : OG Z a0) {n0 : Nat} {Q : Option Value → Heap → Prop} {h0 h : Heap} {o s : Addr} {ko ks : ClassId} {x : Int32} {w2 : List Int32} {ys : List Value} {u1 u2 : Value} {x3 : Int32} (hal : al x) (hx : ¬ x < 0 ∧ ¬ (65535 : Int32) < x) (go : n0 ≤ o) (gs : n0 ≤ s) (hos : o ≠ s) (hw2 : w2.length ≤ 6) (fin : ∀ h, Keep h0 h [o, s] → OS Z h o s ko ks (w2 ++ [x]) false → Q none h) (KK : Keep h0 h [o, s]) (hy : ys.length = 7) (ht : ys.take w2.length = w2.map Value.int) (AO : Arv Z h o ko .char 7 ys (.int 0)) (AS : Arv Z h s ks .int 3 [.int (Int32.ofNat w2.length), u1, u2] (.int 0)) : oRun C Z n0 isp EL1 [o, s] Q h 0 0 (mkF C.m 47 #[.val (.ref o), .val (.ref s), .val (.int x), .val (.int x3)] []) := by
  have hw := G.1
  refine s_aloadN (pc' := 48) dsp_47 rfl rfl rfl ?_
  refine s_aloadN (pc' := 49) dsp_48 rfl rfl rfl ?_
  refine s_iconst (x := (0 : Int32)) (pc' := 50) dsp_49 rfl rfl ?_
  refine s_iaload AS (by decide) (by decide) (v := .int (Int32.ofNat w2.length)) rfl (pc' := 51) dsp_50 rfl ?_
  refine s_iloadN (pc' := 52) dsp_51 rfl rfl ?_
  refine s_castore AO go (by simp) (nn (by omega)) (lt' (b := 7) (by decide) (by omega)) w2.length (cl (by omega)) (by omega) (pc' := 53) dsp_52 rfl (fun h52 W52 A52 => ?_)
  rw [nar16 hx] at A52
  replace AO := A52
  replace AS := AS.other W52 hos.symm
  replace KK := KK.wr W52 (Or.inl (by simp))
  have ht2 := ys_set (z := x) ht (by omega)
  refine s_aloadN (pc' := 54) dsp_53 rfl rfl rfl ?_
  refine s_iconst (x := (0 : Int32)) (pc' := 55) dsp_54 rfl rfl ?_
  refine s_aloadN (pc' := 56) dsp_55 rfl rfl rfl ?_
  refine s_iconst (x := (0 : Int32)) (pc' := 57) dsp_56 rfl rfl ?_
  refine s_iaload AS (by decide) (by decide) (v := .int (Int32.ofNat w2.length)) rfl (pc' := 58) dsp_57 rfl ?_
  refine s_iconst (x := (1 : Int32)) (pc' := 59) dsp_58 rfl rfl ?_
  refine s_iadd (pc' := 60) dsp_59 rfl ?_
  rw [n_succ]
  refine s_iastore AS gs (by simp) (by decide) (by decide) 0 rfl (by simp) (pc' := 61) dsp_60 rfl (fun h60 W60 A60 => ?_)
  replace AS := A60
  replace AO := AO.other W60 hos
  replace KK := KK.wr W60 (Or.inl (by simp))
  refine s_aloadN (pc' := 62) dsp_61 rfl rfl rfl ?_
  refine s_iconst (x := (1 : Int32)) (pc' := 63) dsp_62 rfl rfl ?_
  refine s_iconst (x := (1 : Int32)) (pc' := 64) dsp_63 rfl rfl ?_
  refine s_iastore AS gs (by simp) (by decide) (by decide) 1 rfl (by simp) (pc' := 65) dsp_64 rfl (fun h64 W64 A64 => ?_)
  replace AS := A64
  replace AO := AO.other W64 hos
  replace KK := KK.wr W64 (Or.inl (by simp))
  refine s_aloadN (pc' := 66) dsp_65 rfl rfl rfl ?_
  refine s_iconst (x := (2 : Int32)) (pc' := 67) dsp_66 rfl rfl ?_
  refine s_iconst (x := (0 : Int32)) (pc' := 68) dsp_67 rfl rfl ?_
  refine s_iastore AS gs (by simp) (by decide) (by decide) 2 rfl (by simp) (pc' := 69) dsp_68 rfl (fun h68 W68 A68 => ?_)
  replace AS := A68
  replace AO := AO.other W68 hos
  replace KK := KK.wr W68 (Or.inl (by simp))
  refine s_goto (pc' := 76) dsp_69 (by decide) rfl ?_
  exact s_ret rfl dsp_76 (Nat.le_of_ble_eq_true rfl) (Nat.le_of_ble_eq_true rfl) (fin _ KK ⟨⟨_, by rw [List.length_set]; exact hy, ht2, AO⟩, by rw [f1_snoc, List.length_append]; exact AS⟩)
set_option maxRecDepth 65536 in
set_option maxHeartbeats 4000000 in
theorem rmsp0 (l : Launch) {Z : State} {a0 : Array Value} (G : OG Z a0) (n0 : Nat) (o s : Addr) (x : Int32) (h0 : Heap) : oCon l Z n0 EL1 [] (⟨"com/example/typeloom/typeloom/ttcn/IdentifiersConvertPinLaw", "step", "([C[ICZ)V"⟩ : MethodName) isp #[.ref o, .ref s, .int x, .int 0] h0 (fun v h => v = none ∧ h = h0) := by
  obtain ⟨hw, hEL, ⟨cmp, hC, hc0⟩, ⟨fm, hfm, hF⟩⟩ := id G
  refine oCon.mk hEL pnsp rfl rfl (efsp o s x 0) fun C hCl => ?_
  refine s_iloadN (pc' := 1) dsp_0 rfl rfl ?_
  refine s_if (pc' := 4) (pc'' := 10) dsp_1 rfl (by decide) rfl (fun hc1 => ?_) (fun hc1 => ?_)
  · replace hc1 := b_eq hc1
    exact s_ret rfl dsp_10 (Nat.le_of_ble_eq_true rfl) (Nat.le_of_ble_eq_true rfl) ⟨rfl, rfl⟩
  · replace hc1 := b_eqF hc1
    exact absurd rfl hc1
set_option maxRecDepth 65536 in
set_option maxHeartbeats 4000000 in
theorem rmsp1 (l : Launch) {Z : State} {a0 : Array Value} (G : OG Z a0) (n0 : Nat) (o s : Addr) (ko ks : ClassId) (x : Int32) (w : List Int32) (p : Bool) (h0 : Heap) (hx : ¬ x < 0 ∧ ¬ (65535 : Int32) < x) (go : n0 ≤ o) (gs : n0 ≤ s) (hos : o ≠ s) (hwl : w.length ≤ 5) (O : OS Z h0 o s ko ks w p) : oCon l Z n0 EL1 [o, s] (⟨"com/example/typeloom/typeloom/ttcn/IdentifiersConvertPinLaw", "step", "([C[ICZ)V"⟩ : MethodName) isp #[.ref o, .ref s, .int x, .int 1] h0 (fun v h => v = none ∧ Keep h0 h [o, s] ∧ OS Z h o s ko ks (lst w p x).1 (lst w p x).2) := by
  obtain ⟨hw, hEL, ⟨cmp, hC, hc0⟩, ⟨fm, hfm, hF⟩⟩ := id G
  obtain ⟨⟨ys, hy, ht, AO⟩, AS⟩ := O
  have KK := Keep.refl h0 [o, s]
  refine oCon.mk hEL pnsp rfl rfl (efsp o s x 1) fun C hCl => ?_
  refine s_iloadN (pc' := 1) dsp_0 rfl rfl ?_
  refine s_if (pc' := 4) (pc'' := 10) dsp_1 rfl (by decide) rfl (fun hc1 => ?_) (fun hc1 => ?_)
  · replace hc1 := b_eq hc1
    exact absurd hc1 (by decide)
  · replace hc1 := b_eqF hc1
    refine s_iloadN (pc' := 5) dsp_4 rfl rfl ?_
    refine s_bipush (x := (127 : Int32)) (pc' := 7) dsp_5 rfl rfl ?_
    refine s_icmp (pc' := 10) (pc'' := 11) dsp_7 rfl (by decide) rfl (fun hc7 => ?_) (fun hc7 => ?_)
    · replace hc7 := b_le hc7
      have hx7 := hc7
      refine s_iloadN (pc' := 12) dsp_11 rfl rfl ?_
      refine s_callS1 (rman C.l G n0 x _) (by simp) (hw _ (List.mem_of_getElem? (i := 131) rfl)) (hw _ (List.mem_of_getElem? (i := 132) rfl)) (hw _ (List.mem_of_getElem? (i := 3) rfl)) (hw _ (List.mem_of_getElem? (i := 133) rfl)) (by decide) (o_len pdan rfl) rfl (pc' := 15) dsp_12 rfl (Nat.le_of_ble_eq_true rfl) (Nat.le_of_ble_eq_true rfl) (Nat.le_of_ble_eq_true rfl) (Nat.le_of_ble_eq_true rfl) (fun v12 h12 hQ12 => ?_)
      obtain ⟨q12, rfl, rfl, hr12⟩ := hQ12
      dsimp only [oPush]
      refine s_if (pc' := 18) (pc'' := 72) dsp_15 rfl (by decide) rfl (fun hc15 => ?_) (fun hc15 => ?_)
      · replace hc15 := b_eq hc15
        have hal : ¬ al x := hr12.elim (fun z => absurd (z.1.symm.trans hc15) (by decide)) (·.2)
        refine s_aloadN (pc' := 73) dsp_72 rfl rfl rfl ?_
        refine s_iconst (x := (2 : Int32)) (pc' := 74) dsp_73 rfl rfl ?_
        refine s_iconst (x := (1 : Int32)) (pc' := 75) dsp_74 rfl rfl ?_
        refine s_iastore AS gs (by simp) (by decide) (by decide) 2 rfl (by simp) (pc' := 76) dsp_75 rfl (fun h75 W75 A75 => ?_)
        replace AS := A75
        replace AO := AO.other W75 hos
        replace KK := KK.wr W75 (Or.inl (by simp))
        exact s_ret rfl dsp_76 (Nat.le_of_ble_eq_true rfl) (Nat.le_of_ble_eq_true rfl) ⟨rfl, KK, by rw [lst, if_neg hx7, if_neg hal]; exact ⟨⟨ys, hy, ht, AO⟩, AS⟩⟩
      · replace hc15 := b_eqF hc15
        have hal : al x := hr12.elim (·.2) fun z => absurd z.1 hc15
        refine s_aloadN (pc' := 19) dsp_18 rfl rfl rfl ?_
        refine s_iconst (x := (1 : Int32)) (pc' := 20) dsp_19 rfl rfl ?_
        refine s_iaload AS (by decide) (by decide) (v := .int (f1 w)) rfl (pc' := 21) dsp_20 rfl ?_
        refine s_iconst (x := (1 : Int32)) (pc' := 22) dsp_21 rfl rfl ?_
        refine s_icmp (pc' := 25) (pc'' := 47) dsp_22 rfl (by decide) rfl (fun hc22 => ?_) (fun hc22 => ?_)
        · replace hc22 := b_ne hc22
          first
          | exact st47 G hal hx go gs hos (w2 := w2 ++ [95]) (by simp; omega) (fun h K O => ⟨rfl, K, by rw [lst, if_neg hx7, if_pos hal, if_pos ⟨fun q => by simp [f1, q] at hc22, by cases p <;> simp [f2] at hc29 ⊢⟩]; simpa using O⟩) KK (by rw [List.length_set]; exact hy) ht2 AO (by simpa using AS)
          | exact st47 G hal hx go gs hos (w2 := w) (by omega) (fun h K O => ⟨rfl, K, by rw [lst, if_neg hx7, if_pos hal, if_neg (fun q => by first | exact hc22 (by simp [f1, q.1]) | exact hc29 (by simp [f2, q.2]))]; exact O⟩) KK hy ht AO AS
        · replace hc22 := b_neF hc22
          refine s_aloadN (pc' := 26) dsp_25 rfl rfl rfl ?_
          refine s_iconst (x := (2 : Int32)) (pc' := 27) dsp_26 rfl rfl ?_
          refine s_iaload AS (by decide) (by decide) (v := .int (f2 p)) rfl (pc' := 28) dsp_27 rfl ?_
          refine s_iconst (x := (1 : Int32)) (pc' := 29) dsp_28 rfl rfl ?_
          refine s_icmp (pc' := 32) (pc'' := 47) dsp_29 rfl (by decide) rfl (fun hc29 => ?_) (fun hc29 => ?_)
          · replace hc29 := b_ne hc29
            first
            | exact st47 G hal hx go gs hos (w2 := w2 ++ [95]) (by simp; omega) (fun h K O => ⟨rfl, K, by rw [lst, if_neg hx7, if_pos hal, if_pos ⟨fun q => by simp [f1, q] at hc22, by cases p <;> simp [f2] at hc29 ⊢⟩]; simpa using O⟩) KK (by rw [List.length_set]; exact hy) ht2 AO (by simpa using AS)
            | exact st47 G hal hx go gs hos (w2 := w) (by omega) (fun h K O => ⟨rfl, K, by rw [lst, if_neg hx7, if_pos hal, if_neg (fun q => by first | exact hc22 (by simp [f1, q.1]) | exact hc29 (by simp [f2, q.2]))]; exact O⟩) KK hy ht AO AS
          · replace hc29 := b_neF hc29
            refine s_aloadN (pc' := 33) dsp_32 rfl rfl rfl ?_
            refine s_aloadN (pc' := 34) dsp_33 rfl rfl rfl ?_
            refine s_iconst (x := (0 : Int32)) (pc' := 35) dsp_34 rfl rfl ?_
            obtain ⟨w2, hw2⟩ : ∃ w2, w2 = w := ⟨_, rfl⟩
            subst hw2
            refine s_iaload AS (by decide) (by decide) (v := .int (Int32.ofNat w2.length)) rfl (pc' := 36) dsp_35 rfl ?_
            refine s_bipush (x := (95 : Int32)) (pc' := 38) dsp_36 rfl rfl ?_
            refine s_castore AO go (by simp) (nn (by omega)) (lt' (b := 7) (by decide) (by omega)) w2.length (cl (by omega)) (by omega) (pc' := 39) dsp_38 rfl (fun h38 W38 A38 => ?_)
            rw [nar16 (by decide)] at A38
            replace AO := A38
            replace AS := AS.other W38 hos.symm
            replace KK := KK.wr W38 (Or.inl (by simp))
            have ht2 := ys_set (z := 95) ht (by omega)
            refine s_aloadN (pc' := 40) dsp_39 rfl rfl rfl ?_
            refine s_iconst (x := (0 : Int32)) (pc' := 41) dsp_40 rfl rfl ?_
            refine s_aloadN (pc' := 42) dsp_41 rfl rfl rfl ?_
            refine s_iconst (x := (0 : Int32)) (pc' := 43) dsp_42 rfl rfl ?_
            refine s_iaload AS (by decide) (by decide) (v := .int (Int32.ofNat w2.length)) rfl (pc' := 44) dsp_43 rfl ?_
            refine s_iconst (x := (1 : Int32)) (pc' := 45) dsp_44 rfl rfl ?_
            refine s_iadd (pc' := 46) dsp_45 rfl ?_
            rw [n_succ]
            refine s_iastore AS gs (by simp) (by decide) (by decide) 0 rfl (by simp) (pc' := 47) dsp_46 rfl (fun h46 W46 A46 => ?_)
            replace AS := A46
            replace AO := AO.other W46 hos
            replace KK := KK.wr W46 (Or.inl (by simp))
            first
            | exact st47 G hal hx go gs hos (w2 := w2 ++ [95]) (by simp; omega) (fun h K O => ⟨rfl, K, by rw [lst, if_neg hx7, if_pos hal, if_pos ⟨fun q => by simp [f1, q] at hc22, by cases p <;> simp [f2] at hc29 ⊢⟩]; simpa using O⟩) KK (by rw [List.length_set]; exact hy) ht2 AO (by simpa using AS)
            | exact st47 G hal hx go gs hos (w2 := w) (by omega) (fun h K O => ⟨rfl, K, by rw [lst, if_neg hx7, if_pos hal, if_neg (fun q => by first | exact hc22 (by simp [f1, q.1]) | exact hc29 (by simp [f2, q.2]))]; exact O⟩) KK hy ht AO AS
    · replace hc7 := b_leF hc7
      exact s_ret rfl dsp_10 (Nat.le_of_ble_eq_true rfl) (Nat.le_of_ble_eq_true rfl) ⟨rfl, KK, by rw [lst, if_pos hc7]; exact ⟨⟨ys, hy, ht, AO⟩, AS⟩⟩
theorem al95 {x : Int32} (h : al x) : ¬ x = 95 := by
  intro q; subst q
  rcases h with h | h | h
  · exact h.1 (by decide)
  · exact h.2 (by decide)
  · exact h.2 (by decide)
def CV (w : List Int32) (p : Bool) : List Int32 := w ++ (if w ≠ [] ∧ p = true then [95] else [])
def Good (w : List Int32) : Prop := Ch w ∧ ∀ z, w.getLast? = some z → al z
theorem good_nil : Good [] := ⟨(by intro z hz; cases hz), (by intro z hz; cases hz)⟩
theorem ch_127 {x : Int32} (h : ¬ x < 0 ∧ ¬ (65535 : Int32) < x) (q : ¬ (127 : Int32) < x) : ¬ x < 0 ∧ ¬ (255 : Int32) < x := ⟨h.1, fun z => by
  rw [o_lt] at q z
  have e1 : (127 : Int32).toInt = 127 := rfl
  have e2 : (255 : Int32).toInt = 255 := rfl
  omega⟩
theorem good_lst {w : List Int32} {p : Bool} {x : Int32} (h : ¬ x < 0 ∧ ¬ (65535 : Int32) < x) (g : Good w) : Good (lst w p x).1 := by
  unfold lst
  split
  · exact g
  · rename_i q
    split
    · rename_i a
      dsimp only
      split
      · refine ⟨fun z hz => ?_, fun z hz => by simp at hz; subst hz; exact a⟩
        rcases List.mem_append.mp hz with hz | hz
        · exact g.1 z hz
        · simp at hz
          rcases hz with rfl | rfl
          · decide
          · exact ch_127 h q
      · refine ⟨fun z hz => ?_, fun z hz => by simp at hz; subst hz; exact a⟩
        rcases List.mem_append.mp hz with hz | hz
        · exact g.1 z hz
        · simp at hz; subst hz; exact ch_127 h q
    · exact g
theorem cv_al {w : List Int32} {p : Bool} {x : Int32} (q : ¬ (127 : Int32) < x) (a : al x) : CV (lst w p x).1 (lst w p x).2 = CV w p ++ [x] := by
  rw [lst, if_neg q, if_pos a]
  by_cases z : w ≠ [] ∧ p = true
  · simp [CV, z]
  · simp [CV, z]
theorem cv_sep {w : List Int32} {p : Bool} {x : Int32} (q : ¬ (127 : Int32) < x) (a : ¬ al x) (z : w = [] ∨ p = true) : CV (lst w p x).1 (lst w p x).2 = CV w p := by
  rw [lst, if_neg q, if_neg a]
  rcases z with z | z
  · subst z; simp [CV]
  · subst z; rfl
theorem cv_new {w : List Int32} {p : Bool} {x : Int32} (q : ¬ (127 : Int32) < x) (a : ¬ al x) (z : ¬ w = []) (y : ¬ p = true) : CV (lst w p x).1 (lst w p x).2 = CV w p ++ [95] := by
  rw [lst, if_neg q, if_neg a]
  simp [CV, z, y]
theorem cv_big {w : List Int32} {p : Bool} {x : Int32} (q : (127 : Int32) < x) : CV (lst w p x).1 (lst w p x).2 = CV w p := by rw [lst, if_pos q]
def fd (w : List Int32) (p : Bool) : List Int32 → List Int32 × Bool
  | [] => (w, p)
  | x :: r => fd (lst w p x).1 (lst w p x).2 r
theorem cv_nil {w : List Int32} {p : Bool} (h : CV w p = []) : w = [] := (List.append_eq_nil_iff.mp h).1
theorem cv_last {w : List Int32} {p : Bool} (g : Good w) : (w = [] ∧ CV w p = []) ∨ ∃ u z, CV w p = u ++ [z] ∧ ((z = 95 ∧ u = w ∧ p = true) ∨ (¬ z = 95 ∧ u ++ [z] = w ∧ ¬ p = true)) := by
  by_cases hw : w = []
  · subst hw; exact Or.inl ⟨rfl, by simp [CV]⟩
  · refine Or.inr ?_
    by_cases hp : p = true
    · exact ⟨w, 95, by simp [CV, hw, hp], Or.inl ⟨rfl, rfl, hp⟩⟩
    · refine ⟨w.dropLast, w.getLast hw, ?_, Or.inr ⟨?_, List.dropLast_concat_getLast hw, hp⟩⟩
      · rw [List.dropLast_concat_getLast hw]; simp [CV, hp]
      · exact al95 (g.2 _ (List.getLast?_eq_some_getLast hw))
theorem cv_ch {w : List Int32} (g : Good w) (p : Bool) : Ch (CV w p) := by
  intro z hz
  rcases List.mem_append.mp hz with hz | hz
  · exact g.1 z hz
  · split at hz
    · simp at hz; subst hz; decide
    · cases hz
theorem len_pred {l u : List Int32} {z : Int32} (h : l = u ++ [z]) (hb : l.length ≤ 4) : Int32.ofNat l.length - 1 = Int32.ofNat u.length := by
  subst h
  rw [List.length_append, List.length_singleton] at hb ⊢
  rw [show (1 : Int32) = Int32.ofNat 1 from rfl, n_subn (by omega) (by omega), Nat.add_sub_cancel]
theorem last_at {l u : List Int32} {z : Int32} (h : l = u ++ [z]) : l[u.length]? = some z := by subst h; simp
theorem drop_at {l : List Int32} {j : Nat} {x : Int32} (h : l[j]? = some x) : l.drop j = x :: l.drop (j + 1) := by
  obtain ⟨hj, rfl⟩ := List.getElem?_eq_some_iff.mp h
  exact List.drop_eq_getElem_cons hj
theorem lst_len {w : List Int32} {p : Bool} {x : Int32} {k : Nat} (h : w.length ≤ 2 * k - 1) : (lst w p x).1.length ≤ 2 * (k + 1) - 1 := by
  unfold lst
  split
  · dsimp only; omega
  · split
    · dsimp only
      split
      · rename_i q
        have := List.length_pos_iff.mpr q.1
        simp only [List.length_append, List.length_cons, List.length_nil]; omega
      · simp only [List.length_append, List.length_cons, List.length_nil]; omega
    · dsimp only; omega
theorem fd_len : ∀ (l w : List Int32) (p : Bool) (k : Nat), w.length ≤ 2 * k - 1 → (fd w p l).1.length ≤ 2 * (k + l.length) - 1
  | [], _, _, _, h => h
  | x :: r, w, p, k, h => by
    have q := fd_len r (lst w p x).1 (lst w p x).2 (k + 1) (lst_len h)
    rw [List.length_cons, show k + (r.length + 1) = k + 1 + r.length by omega]; exact q
theorem fd_good : ∀ (l w : List Int32) (p : Bool), C16 l → Good w → Good (fd w p l).1
  | [], _, _, _, g => g
  | x :: r, w, p, h, g => fd_good r (lst w p x).1 (lst w p x).2 (fun z hz => h z (List.mem_cons_of_mem _ hz)) (good_lst (h x (List.mem_cons_self ..)) g)
theorem five (x : Int32) : ∃ m : Nat, m ≤ 4 ∧ (x &&& 2147483647) % 5 = Int32.ofNat m := by
  have h1 := c_and x 2147483647 (by decide)
  have h2 := (c_irem (x &&& 2147483647) 5 5 rfl).1 h1.1
  refine ⟨((x &&& 2147483647) % 5).toInt.toNat, by rw [h2]; omega, ?_⟩
  rw [o_eq, n_toInt (by rw [h2]; omega), h2]; omega
def icv : OInfo := ("com/example/typeloom/typeloom/ttcn/Identifiers", prog_19_method_2_code, 6, (some (.object "java/lang/String")), "convert", ({ frames := 6, cells := 4, slots := 20, locals := 110 } : Room))
theorem efcv (x0 : Addr) (m : MethodId) : entryFrame m #[(.ref x0)] 6 = mkF m 0 #[.val (.ref x0), .unset, .unset, .unset, .unset, .unset] [] := by first | (simp [entryFrame, mkF, argsToLocals, Value.category]; done) | rfl
theorem pdcv : parseMethodDescriptor "(Ljava/lang/String;)Ljava/lang/String;" = some ⟨[(.object "java/lang/String")], some (.object "java/lang/String")⟩ := by decide +kernel
theorem pncv : plainFor (⟨"com/example/typeloom/typeloom/ttcn/Identifiers", "convert", "(Ljava/lang/String;)Ljava/lang/String;"⟩ : MethodName) = true := by decide +kernel
theorem dcv_0 : decode prog_19_method_2_code 0 = .ok (.new 7, 3) := by decide +kernel
theorem dcv_3 : decode prog_19_method_2_code 3 = .ok (.dup, 1) := by decide +kernel
theorem dcv_4 : decode prog_19_method_2_code 4 = .ok (.aload_n 0, 1) := by decide +kernel
theorem dcv_5 : decode prog_19_method_2_code 5 = .ok (.invokevirtual 9, 3) := by decide +kernel
theorem dcv_8 : decode prog_19_method_2_code 8 = .ok (.invokespecial 15, 3) := by decide +kernel
theorem dcv_11 : decode prog_19_method_2_code 11 = .ok (.astore_n 1, 1) := by decide +kernel
theorem dcv_12 : decode prog_19_method_2_code 12 = .ok (.iconst 0, 1) := by decide +kernel
theorem dcv_13 : decode prog_19_method_2_code 13 = .ok (.istore_n 2, 1) := by decide +kernel
theorem dcv_14 : decode prog_19_method_2_code 14 = .ok (.iload_n 2, 1) := by decide +kernel
theorem dcv_15 : decode prog_19_method_2_code 15 = .ok (.aload_n 0, 1) := by decide +kernel
theorem dcv_16 : decode prog_19_method_2_code 16 = .ok (.invokevirtual 9, 3) := by decide +kernel
theorem dcv_19 : decode prog_19_method_2_code 19 = .ok (.if_icmp .ge 87, 3) := by decide +kernel
theorem dcv_22 : decode prog_19_method_2_code 22 = .ok (.aload_n 0, 1) := by decide +kernel
theorem dcv_23 : decode prog_19_method_2_code 23 = .ok (.iload_n 2, 1) := by decide +kernel
theorem dcv_24 : decode prog_19_method_2_code 24 = .ok (.invokevirtual 18, 3) := by decide +kernel
theorem dcv_27 : decode prog_19_method_2_code 27 = .ok (.istore_n 3, 1) := by decide +kernel
theorem dcv_28 : decode prog_19_method_2_code 28 = .ok (.iload_n 3, 1) := by decide +kernel
theorem dcv_29 : decode prog_19_method_2_code 29 = .ok (.bipush 127, 2) := by decide +kernel
theorem dcv_31 : decode prog_19_method_2_code 31 = .ok (.if_icmp .le 6, 3) := by decide +kernel
theorem dcv_34 : decode prog_19_method_2_code 34 = .ok (.goto 66, 3) := by decide +kernel
theorem dcv_37 : decode prog_19_method_2_code 37 = .ok (.iload_n 3, 1) := by decide +kernel
theorem dcv_38 : decode prog_19_method_2_code 38 = .ok (.invokestatic 24, 3) := by decide +kernel
theorem dcv_41 : decode prog_19_method_2_code 41 = .ok (.ifCond .eq 7, 3) := by decide +kernel
theorem dcv_44 : decode prog_19_method_2_code 44 = .ok (.iload_n 3, 1) := by decide +kernel
theorem dcv_45 : decode prog_19_method_2_code 45 = .ok (.goto 5, 3) := by decide +kernel
theorem dcv_48 : decode prog_19_method_2_code 48 = .ok (.bipush 95, 2) := by decide +kernel
theorem dcv_50 : decode prog_19_method_2_code 50 = .ok (.istore 4, 2) := by decide +kernel
theorem dcv_52 : decode prog_19_method_2_code 52 = .ok (.aload_n 1, 1) := by decide +kernel
theorem dcv_53 : decode prog_19_method_2_code 53 = .ok (.invokevirtual 28, 3) := by decide +kernel
theorem dcv_56 : decode prog_19_method_2_code 56 = .ok (.ifCond .eq 18, 3) := by decide +kernel
theorem dcv_59 : decode prog_19_method_2_code 59 = .ok (.aload_n 1, 1) := by decide +kernel
theorem dcv_60 : decode prog_19_method_2_code 60 = .ok (.aload_n 1, 1) := by decide +kernel
theorem dcv_61 : decode prog_19_method_2_code 61 = .ok (.invokevirtual 28, 3) := by decide +kernel
theorem dcv_64 : decode prog_19_method_2_code 64 = .ok (.iconst 1, 1) := by decide +kernel
theorem dcv_65 : decode prog_19_method_2_code 65 = .ok (.isub, 1) := by decide +kernel
theorem dcv_66 : decode prog_19_method_2_code 66 = .ok (.invokevirtual 29, 3) := by decide +kernel
theorem dcv_69 : decode prog_19_method_2_code 69 = .ok (.bipush 95, 2) := by decide +kernel
theorem dcv_71 : decode prog_19_method_2_code 71 = .ok (.if_icmp .ne 7, 3) := by decide +kernel
theorem dcv_74 : decode prog_19_method_2_code 74 = .ok (.iconst 1, 1) := by decide +kernel
theorem dcv_75 : decode prog_19_method_2_code 75 = .ok (.goto 4, 3) := by decide +kernel
theorem dcv_78 : decode prog_19_method_2_code 78 = .ok (.iconst 0, 1) := by decide +kernel
theorem dcv_79 : decode prog_19_method_2_code 79 = .ok (.istore 5, 2) := by decide +kernel
theorem dcv_81 : decode prog_19_method_2_code 81 = .ok (.iload 4, 2) := by decide +kernel
theorem dcv_83 : decode prog_19_method_2_code 83 = .ok (.bipush 95, 2) := by decide +kernel
theorem dcv_85 : decode prog_19_method_2_code 85 = .ok (.if_icmp .ne 8, 3) := by decide +kernel
theorem dcv_88 : decode prog_19_method_2_code 88 = .ok (.iload 5, 2) := by decide +kernel
theorem dcv_90 : decode prog_19_method_2_code 90 = .ok (.ifCond .ne 10, 3) := by decide +kernel
theorem dcv_93 : decode prog_19_method_2_code 93 = .ok (.aload_n 1, 1) := by decide +kernel
theorem dcv_94 : decode prog_19_method_2_code 94 = .ok (.iload 4, 2) := by decide +kernel
theorem dcv_96 : decode prog_19_method_2_code 96 = .ok (.invokevirtual 30, 3) := by decide +kernel
theorem dcv_99 : decode prog_19_method_2_code 99 = .ok (.pop, 1) := by decide +kernel
theorem dcv_100 : decode prog_19_method_2_code 100 = .ok (.iinc 2 1, 3) := by decide +kernel
theorem dcv_103 : decode prog_19_method_2_code 103 = .ok (.goto (-89), 3) := by decide +kernel
theorem dcv_106 : decode prog_19_method_2_code 106 = .ok (.aload_n 1, 1) := by decide +kernel
theorem dcv_107 : decode prog_19_method_2_code 107 = .ok (.invokevirtual 28, 3) := by decide +kernel
theorem dcv_110 : decode prog_19_method_2_code 110 = .ok (.ifCond .le 28, 3) := by decide +kernel
theorem dcv_113 : decode prog_19_method_2_code 113 = .ok (.aload_n 1, 1) := by decide +kernel
theorem dcv_114 : decode prog_19_method_2_code 114 = .ok (.aload_n 1, 1) := by decide +kernel
theorem dcv_115 : decode prog_19_method_2_code 115 = .ok (.invokevirtual 28, 3) := by decide +kernel
theorem dcv_118 : decode prog_19_method_2_code 118 = .ok (.iconst 1, 1) := by decide +kernel
theorem dcv_119 : decode prog_19_method_2_code 119 = .ok (.isub, 1) := by decide +kernel
theorem dcv_120 : decode prog_19_method_2_code 120 = .ok (.invokevirtual 29, 3) := by decide +kernel
theorem dcv_123 : decode prog_19_method_2_code 123 = .ok (.bipush 95, 2) := by decide +kernel
theorem dcv_125 : decode prog_19_method_2_code 125 = .ok (.if_icmp .ne 13, 3) := by decide +kernel
theorem dcv_128 : decode prog_19_method_2_code 128 = .ok (.aload_n 1, 1) := by decide +kernel
theorem dcv_129 : decode prog_19_method_2_code 129 = .ok (.aload_n 1, 1) := by decide +kernel
theorem dcv_130 : decode prog_19_method_2_code 130 = .ok (.invokevirtual 28, 3) := by decide +kernel
theorem dcv_133 : decode prog_19_method_2_code 133 = .ok (.iconst 1, 1) := by decide +kernel
theorem dcv_134 : decode prog_19_method_2_code 134 = .ok (.isub, 1) := by decide +kernel
theorem dcv_135 : decode prog_19_method_2_code 135 = .ok (.invokevirtual 34, 3) := by decide +kernel
theorem dcv_138 : decode prog_19_method_2_code 138 = .ok (.aload_n 1, 1) := by decide +kernel
theorem dcv_139 : decode prog_19_method_2_code 139 = .ok (.invokevirtual 37, 3) := by decide +kernel
theorem dcv_142 : decode prog_19_method_2_code 142 = .ok (.areturn, 1) := by decide +kernel
set_option maxRecDepth 65536 in
set_option maxHeartbeats 4000000 in
theorem cv106 {C : OCtx} {Z : State} {a0 : Array Value} (G : OG Z a0) {n0 : Nat} {Q : Option Value → Heap → Prop} {h0 : Heap} {h : Heap} {t bd a : Addr} {k : ClassId} {cap : Nat} {w : List Int32} {p : Bool} {s2 s3 s4 s5 : Slot} (gb : n0 ≤ bd) (gb2 : h0.size ≤ bd) (fin : ∀ r h, Ext h0 h → SV Z h h.size r w → Q (some (.ref r)) h) (g : Good w) (EE : Ext h0 h) (B : BM Z h bd a k cap (CV w p)) : oRun C Z n0 icv EL1 [bd, a] Q h 2 8 (mkF C.m 106 #[.val (.ref t), .val (.ref bd), s2, s3, s4, s5] []) := by
  obtain ⟨hw, hEL, ⟨cmp, hC, hc0⟩, ⟨fm, hfm, hF⟩⟩ := id G
  have hlc := B.2.2.2.2.2.2.2.1
  have hl4 := B.2.2.2.2.2.2.2.2
  refine s_aloadN (pc' := 107) dcv_106 rfl rfl rfl ?_
  refine s_callV0 (rmlB C.l G n0 bd _ _ B.1 B.2.2.2.1) (by simp) B.1 (hw _ (List.mem_of_getElem? (i := 68) rfl)) (hw _ (List.mem_of_getElem? (i := 69) rfl)) (hw _ (List.mem_of_getElem? (i := 71) rfl)) (hw _ (List.mem_of_getElem? (i := 70) rfl)) (o_nf (hw _ (List.mem_of_getElem? (i := 71) rfl)) rfl) (hw _ (List.mem_of_getElem? (i := 41) rfl)) (hw _ (List.mem_of_getElem? (i := 72) rfl)) (by decide) (o_len pdlB rfl) rfl (pc' := 110) dcv_107 rfl (Nat.le_of_ble_eq_true rfl) (Nat.le_of_ble_eq_true rfl) (Nat.le_of_ble_eq_true rfl) (Nat.le_of_ble_eq_true rfl) (fun v107 h107 hQ107 => ?_)
  obtain ⟨rfl, rfl⟩ := hQ107
  dsimp only [oPush]
  refine s_if (pc' := 113) (pc'' := 138) dcv_110 rfl (by decide) rfl (fun hc110 => ?_) (fun hc110 => ?_)
  · replace hc110 := b_le hc110
    have ew : CV w p = w := (fun q => q.trans (cv_nil q).symm) (List.length_eq_zero_iff.mp (Nat.eq_zero_of_not_pos fun q => hc110 ((n_lt (a := 0) (by decide) (by omega)).mpr q)))
    rw [ew] at B
    refine s_aloadN (pc' := 139) dcv_138 rfl rfl rfl ?_
    refine s_callV0 (rmtS C.l G n0 bd _ _ _ _ _ B) (by simp) B.1 (hw _ (List.mem_of_getElem? (i := 80) rfl)) (hw _ (List.mem_of_getElem? (i := 81) rfl)) (hw _ (List.mem_of_getElem? (i := 83) rfl)) (hw _ (List.mem_of_getElem? (i := 82) rfl)) (o_nf (hw _ (List.mem_of_getElem? (i := 83) rfl)) rfl) (hw _ (List.mem_of_getElem? (i := 41) rfl)) (hw _ (List.mem_of_getElem? (i := 84) rfl)) (by decide) (o_len pdtS rfl) rfl (pc' := 142) dcv_139 rfl (Nat.le_of_ble_eq_true rfl) (Nat.le_of_ble_eq_true rfl) (Nat.le_of_ble_eq_true rfl) (Nat.le_of_ble_eq_true rfl) (fun v139 h139 hQ139 => ?_)
    obtain ⟨r139, rfl, gr139, E139, V139⟩ := hQ139
    dsimp only [oPush]
    exact s_aret rfl rfl rfl dcv_142 (Nat.le_of_ble_eq_true rfl) (Nat.le_of_ble_eq_true rfl) (fin _ _ (o_ext EE E139) V139)
  · replace hc110 := b_leF hc110
    obtain ⟨u, z, hu, hcase⟩ := (cv_last (p := p) g).resolve_left (fun q => absurd hc110 (by rw [q.2]; decide))
    refine s_aloadN (pc' := 114) dcv_113 rfl rfl rfl ?_
    refine s_aloadN (pc' := 115) dcv_114 rfl rfl rfl ?_
    refine s_callV0 (rmlB C.l G n0 bd _ _ B.1 B.2.2.2.1) (by simp) B.1 (hw _ (List.mem_of_getElem? (i := 68) rfl)) (hw _ (List.mem_of_getElem? (i := 69) rfl)) (hw _ (List.mem_of_getElem? (i := 71) rfl)) (hw _ (List.mem_of_getElem? (i := 70) rfl)) (o_nf (hw _ (List.mem_of_getElem? (i := 71) rfl)) rfl) (hw _ (List.mem_of_getElem? (i := 41) rfl)) (hw _ (List.mem_of_getElem? (i := 72) rfl)) (by decide) (o_len pdlB rfl) rfl (pc' := 118) dcv_115 rfl (Nat.le_of_ble_eq_true rfl) (Nat.le_of_ble_eq_true rfl) (Nat.le_of_ble_eq_true rfl) (Nat.le_of_ble_eq_true rfl) (fun v115 h115 hQ115 => ?_)
    obtain ⟨rfl, rfl⟩ := hQ115
    dsimp only [oPush]
    refine s_iconst (x := (1 : Int32)) (pc' := 119) dcv_118 rfl rfl ?_
    refine s_isub (pc' := 120) dcv_119 rfl ?_
    rw [len_pred hu (by omega)]
    refine s_callV1 (rmcB2 C.l G n0 u.length z bd a k _ _ _ B (cv_ch g p) (last_at hu)) (by simp) B.1 (hw _ (List.mem_of_getElem? (i := 194) rfl)) (hw _ (List.mem_of_getElem? (i := 195) rfl)) (hw _ (List.mem_of_getElem? (i := 197) rfl)) (hw _ (List.mem_of_getElem? (i := 196) rfl)) (o_nf (hw _ (List.mem_of_getElem? (i := 197) rfl)) rfl) (hw _ (List.mem_of_getElem? (i := 41) rfl)) (hw _ (List.mem_of_getElem? (i := 198) rfl)) (by decide) (o_len pdcB2 rfl) rfl (pc' := 123) dcv_120 rfl (Nat.le_of_ble_eq_true rfl) (Nat.le_of_ble_eq_true rfl) (Nat.le_of_ble_eq_true rfl) (Nat.le_of_ble_eq_true rfl) (fun v120 h120 hQ120 => ?_)
    obtain ⟨rfl, rfl⟩ := hQ120
    dsimp only [oPush]
    refine s_bipush (x := (95 : Int32)) (pc' := 125) dcv_123 rfl rfl ?_
    refine s_icmp (pc' := 128) (pc'' := 138) dcv_125 rfl (by decide) rfl (fun hc125 => ?_) (fun hc125 => ?_)
    · replace hc125 := b_ne hc125
      have ew : CV w p = w := hcase.elim (fun q => absurd q.1 hc125) fun q => hu.trans q.2.1
      rw [ew] at B
      refine s_aloadN (pc' := 139) dcv_138 rfl rfl rfl ?_
      refine s_callV0 (rmtS C.l G n0 bd _ _ _ _ _ B) (by simp) B.1 (hw _ (List.mem_of_getElem? (i := 80) rfl)) (hw _ (List.mem_of_getElem? (i := 81) rfl)) (hw _ (List.mem_of_getElem? (i := 83) rfl)) (hw _ (List.mem_of_getElem? (i := 82) rfl)) (o_nf (hw _ (List.mem_of_getElem? (i := 83) rfl)) rfl) (hw _ (List.mem_of_getElem? (i := 41) rfl)) (hw _ (List.mem_of_getElem? (i := 84) rfl)) (by decide) (o_len pdtS rfl) rfl (pc' := 142) dcv_139 rfl (Nat.le_of_ble_eq_true rfl) (Nat.le_of_ble_eq_true rfl) (Nat.le_of_ble_eq_true rfl) (Nat.le_of_ble_eq_true rfl) (fun v139 h139 hQ139 => ?_)
      obtain ⟨r139, rfl, gr139, E139, V139⟩ := hQ139
      dsimp only [oPush]
      exact s_aret rfl rfl rfl dcv_142 (Nat.le_of_ble_eq_true rfl) (Nat.le_of_ble_eq_true rfl) (fin _ _ (o_ext EE E139) V139)
    · replace hc125 := b_neF hc125
      refine s_aloadN (pc' := 129) dcv_128 rfl rfl rfl ?_
      refine s_aloadN (pc' := 130) dcv_129 rfl rfl rfl ?_
      refine s_callV0 (rmlB C.l G n0 bd _ _ B.1 B.2.2.2.1) (by simp) B.1 (hw _ (List.mem_of_getElem? (i := 68) rfl)) (hw _ (List.mem_of_getElem? (i := 69) rfl)) (hw _ (List.mem_of_getElem? (i := 71) rfl)) (hw _ (List.mem_of_getElem? (i := 70) rfl)) (o_nf (hw _ (List.mem_of_getElem? (i := 71) rfl)) rfl) (hw _ (List.mem_of_getElem? (i := 41) rfl)) (hw _ (List.mem_of_getElem? (i := 72) rfl)) (by decide) (o_len pdlB rfl) rfl (pc' := 133) dcv_130 rfl (Nat.le_of_ble_eq_true rfl) (Nat.le_of_ble_eq_true rfl) (Nat.le_of_ble_eq_true rfl) (Nat.le_of_ble_eq_true rfl) (fun v130 h130 hQ130 => ?_)
      obtain ⟨rfl, rfl⟩ := hQ130
      dsimp only [oPush]
      refine s_iconst (x := (1 : Int32)) (pc' := 134) dcv_133 rfl rfl ?_
      refine s_isub (pc' := 135) dcv_134 rfl ?_
      rw [len_pred hu (by omega)]
      refine s_callV1 (rmsm2 C.l G n0 z bd a k cap u _ (hu ▸ B) gb) (by simp) B.1 (hw _ (List.mem_of_getElem? (i := 205) rfl)) (hw _ (List.mem_of_getElem? (i := 206) rfl)) (hw _ (List.mem_of_getElem? (i := 208) rfl)) (hw _ (List.mem_of_getElem? (i := 207) rfl)) (o_nf (hw _ (List.mem_of_getElem? (i := 208) rfl)) rfl) (hw _ (List.mem_of_getElem? (i := 41) rfl)) (hw _ (List.mem_of_getElem? (i := 209) rfl)) (by decide) (o_len pdsm2 rfl) rfl (pc' := 138) dcv_135 rfl (Nat.le_of_ble_eq_true rfl) (Nat.le_of_ble_eq_true rfl) (Nat.le_of_ble_eq_true rfl) (Nat.le_of_ble_eq_true rfl) (fun v135 h135 hQ135 => ?_)
      obtain ⟨rfl, K135, B135⟩ := hQ135
      dsimp only [oPush]
      replace EE := o_extKeep EE K135 (allS gb2 all0)
      obtain rfl : u = w := hcase.elim (·.2.1) fun q => absurd hc125 q.1
      replace B := B135
      refine s_aloadN (pc' := 139) dcv_138 rfl rfl rfl ?_
      refine s_callV0 (rmtS C.l G n0 bd _ _ _ _ _ B) (by simp) B.1 (hw _ (List.mem_of_getElem? (i := 80) rfl)) (hw _ (List.mem_of_getElem? (i := 81) rfl)) (hw _ (List.mem_of_getElem? (i := 83) rfl)) (hw _ (List.mem_of_getElem? (i := 82) rfl)) (o_nf (hw _ (List.mem_of_getElem? (i := 83) rfl)) rfl) (hw _ (List.mem_of_getElem? (i := 41) rfl)) (hw _ (List.mem_of_getElem? (i := 84) rfl)) (by decide) (o_len pdtS rfl) rfl (pc' := 142) dcv_139 rfl (Nat.le_of_ble_eq_true rfl) (Nat.le_of_ble_eq_true rfl) (Nat.le_of_ble_eq_true rfl) (Nat.le_of_ble_eq_true rfl) (fun v139 h139 hQ139 => ?_)
      obtain ⟨r139, rfl, gr139, E139, V139⟩ := hQ139
      dsimp only [oPush]
      exact s_aret rfl rfl rfl dcv_142 (Nat.le_of_ble_eq_true rfl) (Nat.le_of_ble_eq_true rfl) (fin _ _ (o_ext EE E139) V139)
set_option maxRecDepth 65536 in
set_option maxHeartbeats 4000000 in
theorem cvl {C : OCtx} {Z : State} {a0 : Array Value} (G : OG Z a0) {n0 : Nat} {Q : Option Value → Heap → Prop} {h0 : Heap} (US : U16S Z) {t bd a : Addr} {k : ClassId} {N : Nat} {cs wt : List Int32} (hn : cs.length ≤ 4) (hch : C16 cs) (H : UV Z h0 N t cs) (gb : n0 ≤ bd) (ga : n0 ≤ a) (gb2 : h0.size ≤ bd) (ga2 : h0.size ≤ a) (fin : ∀ r h, Ext h0 h → SV Z h h.size r wt → Q (some (.ref r)) h) : ∀ (f j : Nat) (h : Heap) (w : List Int32) (p : Bool) (s3 s4 s5 : Slot), f = cs.length - j → j ≤ cs.length → (fd w p (cs.drop j)).1 = wt → (CV w p).length ≤ j → Good w → Ext h0 h → BM Z h bd a k cs.length (CV w p) → One s3 → One s4 → One s5 → oRun C Z n0 icv EL1 [bd, a] Q h 2 8 (mkF C.m 14 #[.val (.ref t), .val (.ref bd), .val (.int (Int32.ofNat j)), s3, s4, s5] []) := by
  have hw := G.1
  intro f
  induction f using Nat.strongRecOn with
  | _ f ih =>
  intro j h w p s3 s4 s5 hf hj hfd hcl g EE B hs3 hs4 hs5
  subst hf
  refine s_iloadN (pc' := 15) dcv_14 rfl rfl ?_
  refine s_aloadN (pc' := 16) dcv_15 rfl rfl rfl ?_
  refine s_callV0 (rmuS C.l G n0 t N cs _ hn (H.ext EE)) (by simp) (H.ext EE).exa (hw _ (List.mem_of_getElem? (i := 42) rfl)) (hw _ (List.mem_of_getElem? (i := 43) rfl)) (hw _ (List.mem_of_getElem? (i := 45) rfl)) (hw _ (List.mem_of_getElem? (i := 44) rfl)) (o_nf (hw _ (List.mem_of_getElem? (i := 45) rfl)) rfl) (hw _ (List.mem_of_getElem? (i := 11) rfl)) (hw _ (List.mem_of_getElem? (i := 46) rfl)) (by decide) (o_len pduS rfl) rfl (pc' := 19) dcv_16 rfl (Nat.le_of_ble_eq_true rfl) (Nat.le_of_ble_eq_true rfl) (Nat.le_of_ble_eq_true rfl) (Nat.le_of_ble_eq_true rfl) (fun v16 h16 hQ16 => ?_)
  obtain ⟨rfl, rfl⟩ := hQ16
  dsimp only [oPush]
  refine s_icmp (pc' := 22) (pc'' := 106) dcv_19 rfl (by decide) rfl (fun hc19 => ?_) (fun hc19 => ?_)
  · replace hc19 := b_ge hc19
    rw [n_lt (by omega) (by omega)] at hc19
    rw [List.drop_of_length_le (by omega)] at hfd
    obtain rfl : w = wt := hfd
    exact cv106 G gb gb2 fin g EE B
  · replace hc19 := b_geF hc19
    rw [n_lt (by omega) (by omega)] at hc19
    obtain ⟨x, hx⟩ : ∃ x, cs[j]? = some x := ⟨cs[j], List.getElem?_eq_getElem hc19⟩
    have hr := hch x (List.mem_of_getElem? hx)
    have hfd2 : (fd (lst w p x).1 (lst w p x).2 (cs.drop (j + 1))).1 = wt := by rw [drop_at hx] at hfd; exact hfd
    refine s_aloadN (pc' := 23) dcv_22 rfl rfl rfl ?_
    refine s_iloadN (pc' := 24) dcv_23 rfl rfl ?_
    refine s_callV1 (rmuH C.l G n0 US t N cs j x _ hn hch hx (H.ext EE)) (by simp) (H.ext EE).exa (hw _ (List.mem_of_getElem? (i := 134) rfl)) (hw _ (List.mem_of_getElem? (i := 135) rfl)) (hw _ (List.mem_of_getElem? (i := 137) rfl)) (hw _ (List.mem_of_getElem? (i := 136) rfl)) (o_nf (hw _ (List.mem_of_getElem? (i := 137) rfl)) rfl) (hw _ (List.mem_of_getElem? (i := 11) rfl)) (hw _ (List.mem_of_getElem? (i := 138) rfl)) (by decide) (o_len pduH rfl) rfl (pc' := 27) dcv_24 rfl (Nat.le_of_ble_eq_true rfl) (Nat.le_of_ble_eq_true rfl) (Nat.le_of_ble_eq_true rfl) (Nat.le_of_ble_eq_true rfl) (fun v24 h24 hQ24 => ?_)
    obtain ⟨rfl, rfl⟩ := hQ24
    dsimp only [oPush]
    refine s_istoreN (kn := 3) rfl (pc' := 28) dcv_27 rfl (o_st rfl (by first | exact One.u | exact One.val rfl | assumption) rfl) ?_
    dsimp only [List.set_cons_succ, List.set_cons_zero]
    refine s_iloadN (pc' := 29) dcv_28 rfl rfl ?_
    refine s_bipush (x := (127 : Int32)) (pc' := 31) dcv_29 rfl rfl ?_
    refine s_icmp (pc' := 34) (pc'' := 37) dcv_31 rfl (by decide) rfl (fun hc31 => ?_) (fun hc31 => ?_)
    · replace hc31 := b_le hc31
      refine s_iloadN (pc' := 38) dcv_37 rfl rfl ?_
      refine s_callS1 (rmiT C.l G n0 x _) (by simp) (hw _ (List.mem_of_getElem? (i := 156) rfl)) (hw _ (List.mem_of_getElem? (i := 157) rfl)) (hw _ (List.mem_of_getElem? (i := 37) rfl)) (hw _ (List.mem_of_getElem? (i := 158) rfl)) (by decide) (o_len pdiT rfl) rfl (pc' := 41) dcv_38 rfl (Nat.le_of_ble_eq_true rfl) (Nat.le_of_ble_eq_true rfl) (Nat.le_of_ble_eq_true rfl) (Nat.le_of_ble_eq_true rfl) (fun v38 h38 hQ38 => ?_)
      obtain ⟨r38, rfl, rfl, hr38⟩ := hQ38
      dsimp only [oPush]
      refine s_if (pc' := 44) (pc'' := 48) dcv_41 rfl (by decide) rfl (fun hc41 => ?_) (fun hc41 => ?_)
      · replace hc41 := b_eq hc41
        have hal : ¬ al x := hr38.elim (fun z => absurd (z.1.symm.trans hc41) (by decide)) (·.2)
        refine s_bipush (x := (95 : Int32)) (pc' := 50) dcv_48 rfl rfl ?_
        refine s_istore (pc' := 52) dcv_50 rfl (o_st rfl (by first | exact One.u | exact One.val rfl | assumption) rfl) ?_
        dsimp only [List.set_cons_succ, List.set_cons_zero]
        refine s_aloadN (pc' := 53) dcv_52 rfl rfl rfl ?_
        refine s_callV0 (rmlB C.l G n0 bd _ _ B.1 B.2.2.2.1) (by simp) B.1 (hw _ (List.mem_of_getElem? (i := 68) rfl)) (hw _ (List.mem_of_getElem? (i := 69) rfl)) (hw _ (List.mem_of_getElem? (i := 71) rfl)) (hw _ (List.mem_of_getElem? (i := 70) rfl)) (o_nf (hw _ (List.mem_of_getElem? (i := 71) rfl)) rfl) (hw _ (List.mem_of_getElem? (i := 41) rfl)) (hw _ (List.mem_of_getElem? (i := 72) rfl)) (by decide) (o_len pdlB rfl) rfl (pc' := 56) dcv_53 rfl (Nat.le_of_ble_eq_true rfl) (Nat.le_of_ble_eq_true rfl) (Nat.le_of_ble_eq_true rfl) (Nat.le_of_ble_eq_true rfl) (fun v53 h53 hQ53 => ?_)
        obtain ⟨rfl, rfl⟩ := hQ53
        dsimp only [oPush]
        refine s_if (pc' := 59) (pc'' := 74) dcv_56 rfl (by decide) rfl (fun hc56 => ?_) (fun hc56 => ?_)
        · replace hc56 := b_eq hc56
          have hwn : w = [] := cv_nil (List.length_eq_zero_iff.mp (n_inj (b := 0) (by omega) (by decide) hc56))
          refine s_iconst (x := (1 : Int32)) (pc' := 75) dcv_74 rfl rfl ?_
          refine s_goto (pc' := 79) dcv_75 (by decide) rfl ?_
          refine s_istore (pc' := 81) dcv_79 rfl (o_st rfl (by first | exact One.u | exact One.val rfl | assumption) rfl) ?_
          dsimp only [List.set_cons_succ, List.set_cons_zero]
          refine s_iload (pc' := 83) dcv_81 rfl rfl ?_
          refine s_bipush (x := (95 : Int32)) (pc' := 85) dcv_83 rfl rfl ?_
          refine s_icmp (pc' := 88) (pc'' := 93) dcv_85 rfl (by decide) rfl (fun hc85 => ?_) (fun hc85 => ?_)
          · replace hc85 := b_ne hc85
            exact absurd rfl hc85
          · replace hc85 := b_neF hc85
            refine s_iload (pc' := 90) dcv_88 rfl rfl ?_
            refine s_if (pc' := 93) (pc'' := 100) dcv_90 rfl (by decide) rfl (fun hc90 => ?_) (fun hc90 => ?_)
            · replace hc90 := b_ne hc90
              refine s_iinc (y := (1 : Int32)) (pc' := 103) dcv_100 rfl rfl rfl (o_st rfl (by first | exact One.u | exact One.val rfl | assumption) rfl) ?_
              dsimp only [List.set_cons_succ, List.set_cons_zero]
              rw [n_succ]
              refine s_goto (pc' := 14) dcv_103 (by decide) rfl ?_
              exact ih (cs.length - (j + 1)) (by omega) (j + 1) _ (lst w p x).1 (lst w p x).2 _ _ _ rfl (by omega) hfd2 (by rw [cv_sep hc31 hal (Or.inl hwn)]; omega) (good_lst hr g) EE (by rw [cv_sep hc31 hal (Or.inl hwn)]; exact B) (by first | exact One.val rfl | assumption) (by first | exact One.val rfl | assumption) (by first | exact One.val rfl | assumption)
            · replace hc90 := b_neF hc90
              exact absurd hc90 (by decide)
        · replace hc56 := b_eqF hc56
          obtain ⟨u, z, hu, hcase⟩ := (cv_last (p := p) g).resolve_left (fun q => absurd (by rw [q.2]; rfl) hc56)
          have hwne : ¬ w = [] := fun q => by
            subst q
            simp [CV] at hu
          refine s_aloadN (pc' := 60) dcv_59 rfl rfl rfl ?_
          refine s_aloadN (pc' := 61) dcv_60 rfl rfl rfl ?_
          refine s_callV0 (rmlB C.l G n0 bd _ _ B.1 B.2.2.2.1) (by simp) B.1 (hw _ (List.mem_of_getElem? (i := 68) rfl)) (hw _ (List.mem_of_getElem? (i := 69) rfl)) (hw _ (List.mem_of_getElem? (i := 71) rfl)) (hw _ (List.mem_of_getElem? (i := 70) rfl)) (o_nf (hw _ (List.mem_of_getElem? (i := 71) rfl)) rfl) (hw _ (List.mem_of_getElem? (i := 41) rfl)) (hw _ (List.mem_of_getElem? (i := 72) rfl)) (by decide) (o_len pdlB rfl) rfl (pc' := 64) dcv_61 rfl (Nat.le_of_ble_eq_true rfl) (Nat.le_of_ble_eq_true rfl) (Nat.le_of_ble_eq_true rfl) (Nat.le_of_ble_eq_true rfl) (fun v61 h61 hQ61 => ?_)
          obtain ⟨rfl, rfl⟩ := hQ61
          dsimp only [oPush]
          refine s_iconst (x := (1 : Int32)) (pc' := 65) dcv_64 rfl rfl ?_
          refine s_isub (pc' := 66) dcv_65 rfl ?_
          rw [len_pred hu (by omega)]
          refine s_callV1 (rmcB2 C.l G n0 u.length z bd a k _ _ _ B (cv_ch g p) (last_at hu)) (by simp) B.1 (hw _ (List.mem_of_getElem? (i := 194) rfl)) (hw _ (List.mem_of_getElem? (i := 195) rfl)) (hw _ (List.mem_of_getElem? (i := 197) rfl)) (hw _ (List.mem_of_getElem? (i := 196) rfl)) (o_nf (hw _ (List.mem_of_getElem? (i := 197) rfl)) rfl) (hw _ (List.mem_of_getElem? (i := 41) rfl)) (hw _ (List.mem_of_getElem? (i := 198) rfl)) (by decide) (o_len pdcB2 rfl) rfl (pc' := 69) dcv_66 rfl (Nat.le_of_ble_eq_true rfl) (Nat.le_of_ble_eq_true rfl) (Nat.le_of_ble_eq_true rfl) (Nat.le_of_ble_eq_true rfl) (fun v66 h66 hQ66 => ?_)
          obtain ⟨rfl, rfl⟩ := hQ66
          dsimp only [oPush]
          refine s_bipush (x := (95 : Int32)) (pc' := 71) dcv_69 rfl rfl ?_
          refine s_icmp (pc' := 74) (pc'' := 78) dcv_71 rfl (by decide) rfl (fun hc71 => ?_) (fun hc71 => ?_)
          · replace hc71 := b_ne hc71
            have hpn : ¬ p = true := hcase.elim (fun q => absurd q.1 hc71) (·.2.2)
            refine s_iconst (x := (0 : Int32)) (pc' := 79) dcv_78 rfl rfl ?_
            refine s_istore (pc' := 81) dcv_79 rfl (o_st rfl (by first | exact One.u | exact One.val rfl | assumption) rfl) ?_
            dsimp only [List.set_cons_succ, List.set_cons_zero]
            refine s_iload (pc' := 83) dcv_81 rfl rfl ?_
            refine s_bipush (x := (95 : Int32)) (pc' := 85) dcv_83 rfl rfl ?_
            refine s_icmp (pc' := 88) (pc'' := 93) dcv_85 rfl (by decide) rfl (fun hc85 => ?_) (fun hc85 => ?_)
            · replace hc85 := b_ne hc85
              exact absurd rfl hc85
            · replace hc85 := b_neF hc85
              refine s_iload (pc' := 90) dcv_88 rfl rfl ?_
              refine s_if (pc' := 93) (pc'' := 100) dcv_90 rfl (by decide) rfl (fun hc90 => ?_) (fun hc90 => ?_)
              · replace hc90 := b_ne hc90
                exact absurd rfl hc90
              · replace hc90 := b_neF hc90
                refine s_aloadN (pc' := 94) dcv_93 rfl rfl rfl ?_
                refine s_iload (pc' := 96) dcv_94 rfl rfl ?_
                refine s_callV1 (rmbC C.l G n0 95 (by decide) bd a k cs.length (CV w p) _ B (by omega) gb ga) (by simp) B.1 (hw _ (List.mem_of_getElem? (i := 176) rfl)) (hw _ (List.mem_of_getElem? (i := 177) rfl)) (hw _ (List.mem_of_getElem? (i := 179) rfl)) (hw _ (List.mem_of_getElem? (i := 178) rfl)) (o_nf (hw _ (List.mem_of_getElem? (i := 179) rfl)) rfl) (hw _ (List.mem_of_getElem? (i := 41) rfl)) (hw _ (List.mem_of_getElem? (i := 180) rfl)) (by decide) (o_len pdbC rfl) rfl (pc' := 99) dcv_96 rfl (Nat.le_of_ble_eq_true rfl) (Nat.le_of_ble_eq_true rfl) (Nat.le_of_ble_eq_true rfl) (Nat.le_of_ble_eq_true rfl) (fun v96 h96 hQ96 => ?_)
                obtain ⟨rfl, K96, B96⟩ := hQ96
                dsimp only [oPush]
                replace EE := o_extKeep EE K96 (allS gb2 (allS ga2 all0))
                refine s_pop (pc' := 100) dcv_99 rfl rfl ?_
                refine s_iinc (y := (1 : Int32)) (pc' := 103) dcv_100 rfl rfl rfl (o_st rfl (by first | exact One.u | exact One.val rfl | assumption) rfl) ?_
                dsimp only [List.set_cons_succ, List.set_cons_zero]
                rw [n_succ]
                refine s_goto (pc' := 14) dcv_103 (by decide) rfl ?_
                exact ih (cs.length - (j + 1)) (by omega) (j + 1) _ (lst w p x).1 (lst w p x).2 _ _ _ rfl (by omega) hfd2 (by rw [cv_new hc31 hal hwne hpn]; rw [List.length_append, List.length_singleton]; omega) (good_lst hr g) EE (by rw [cv_new hc31 hal hwne hpn]; exact B96) (by first | exact One.val rfl | assumption) (by first | exact One.val rfl | assumption) (by first | exact One.val rfl | assumption)
          · replace hc71 := b_neF hc71
            have hpt : p = true := hcase.elim (·.2.2) fun q => absurd hc71 q.1
            refine s_iconst (x := (1 : Int32)) (pc' := 75) dcv_74 rfl rfl ?_
            refine s_goto (pc' := 79) dcv_75 (by decide) rfl ?_
            refine s_istore (pc' := 81) dcv_79 rfl (o_st rfl (by first | exact One.u | exact One.val rfl | assumption) rfl) ?_
            dsimp only [List.set_cons_succ, List.set_cons_zero]
            refine s_iload (pc' := 83) dcv_81 rfl rfl ?_
            refine s_bipush (x := (95 : Int32)) (pc' := 85) dcv_83 rfl rfl ?_
            refine s_icmp (pc' := 88) (pc'' := 93) dcv_85 rfl (by decide) rfl (fun hc85 => ?_) (fun hc85 => ?_)
            · replace hc85 := b_ne hc85
              exact absurd rfl hc85
            · replace hc85 := b_neF hc85
              refine s_iload (pc' := 90) dcv_88 rfl rfl ?_
              refine s_if (pc' := 93) (pc'' := 100) dcv_90 rfl (by decide) rfl (fun hc90 => ?_) (fun hc90 => ?_)
              · replace hc90 := b_ne hc90
                refine s_iinc (y := (1 : Int32)) (pc' := 103) dcv_100 rfl rfl rfl (o_st rfl (by first | exact One.u | exact One.val rfl | assumption) rfl) ?_
                dsimp only [List.set_cons_succ, List.set_cons_zero]
                rw [n_succ]
                refine s_goto (pc' := 14) dcv_103 (by decide) rfl ?_
                exact ih (cs.length - (j + 1)) (by omega) (j + 1) _ (lst w p x).1 (lst w p x).2 _ _ _ rfl (by omega) hfd2 (by rw [cv_sep hc31 hal (Or.inr hpt)]; omega) (good_lst hr g) EE (by rw [cv_sep hc31 hal (Or.inr hpt)]; exact B) (by first | exact One.val rfl | assumption) (by first | exact One.val rfl | assumption) (by first | exact One.val rfl | assumption)
              · replace hc90 := b_neF hc90
                exact absurd hc90 (by decide)
      · replace hc41 := b_eqF hc41
        have hal : al x := hr38.elim (·.2) fun z => absurd z.1 hc41
        refine s_iloadN (pc' := 45) dcv_44 rfl rfl ?_
        refine s_goto (pc' := 50) dcv_45 (by decide) rfl ?_
        refine s_istore (pc' := 52) dcv_50 rfl (o_st rfl (by first | exact One.u | exact One.val rfl | assumption) rfl) ?_
        dsimp only [List.set_cons_succ, List.set_cons_zero]
        refine s_aloadN (pc' := 53) dcv_52 rfl rfl rfl ?_
        refine s_callV0 (rmlB C.l G n0 bd _ _ B.1 B.2.2.2.1) (by simp) B.1 (hw _ (List.mem_of_getElem? (i := 68) rfl)) (hw _ (List.mem_of_getElem? (i := 69) rfl)) (hw _ (List.mem_of_getElem? (i := 71) rfl)) (hw _ (List.mem_of_getElem? (i := 70) rfl)) (o_nf (hw _ (List.mem_of_getElem? (i := 71) rfl)) rfl) (hw _ (List.mem_of_getElem? (i := 41) rfl)) (hw _ (List.mem_of_getElem? (i := 72) rfl)) (by decide) (o_len pdlB rfl) rfl (pc' := 56) dcv_53 rfl (Nat.le_of_ble_eq_true rfl) (Nat.le_of_ble_eq_true rfl) (Nat.le_of_ble_eq_true rfl) (Nat.le_of_ble_eq_true rfl) (fun v53 h53 hQ53 => ?_)
        obtain ⟨rfl, rfl⟩ := hQ53
        dsimp only [oPush]
        refine s_if (pc' := 59) (pc'' := 74) dcv_56 rfl (by decide) rfl (fun hc56 => ?_) (fun hc56 => ?_)
        · replace hc56 := b_eq hc56
          have hwn : w = [] := cv_nil (List.length_eq_zero_iff.mp (n_inj (b := 0) (by omega) (by decide) hc56))
          refine s_iconst (x := (1 : Int32)) (pc' := 75) dcv_74 rfl rfl ?_
          refine s_goto (pc' := 79) dcv_75 (by decide) rfl ?_
          refine s_istore (pc' := 81) dcv_79 rfl (o_st rfl (by first | exact One.u | exact One.val rfl | assumption) rfl) ?_
          dsimp only [List.set_cons_succ, List.set_cons_zero]
          refine s_iload (pc' := 83) dcv_81 rfl rfl ?_
          refine s_bipush (x := (95 : Int32)) (pc' := 85) dcv_83 rfl rfl ?_
          refine s_icmp (pc' := 88) (pc'' := 93) dcv_85 rfl (by decide) rfl (fun hc85 => ?_) (fun hc85 => ?_)
          · replace hc85 := b_ne hc85
            refine s_aloadN (pc' := 94) dcv_93 rfl rfl rfl ?_
            refine s_iload (pc' := 96) dcv_94 rfl rfl ?_
            refine s_callV1 (rmbC C.l G n0 x (ch_127 hr hc31) bd a k cs.length (CV w p) _ B (by omega) gb ga) (by simp) B.1 (hw _ (List.mem_of_getElem? (i := 176) rfl)) (hw _ (List.mem_of_getElem? (i := 177) rfl)) (hw _ (List.mem_of_getElem? (i := 179) rfl)) (hw _ (List.mem_of_getElem? (i := 178) rfl)) (o_nf (hw _ (List.mem_of_getElem? (i := 179) rfl)) rfl) (hw _ (List.mem_of_getElem? (i := 41) rfl)) (hw _ (List.mem_of_getElem? (i := 180) rfl)) (by decide) (o_len pdbC rfl) rfl (pc' := 99) dcv_96 rfl (Nat.le_of_ble_eq_true rfl) (Nat.le_of_ble_eq_true rfl) (Nat.le_of_ble_eq_true rfl) (Nat.le_of_ble_eq_true rfl) (fun v96 h96 hQ96 => ?_)
            obtain ⟨rfl, K96, B96⟩ := hQ96
            dsimp only [oPush]
            replace EE := o_extKeep EE K96 (allS gb2 (allS ga2 all0))
            refine s_pop (pc' := 100) dcv_99 rfl rfl ?_
            refine s_iinc (y := (1 : Int32)) (pc' := 103) dcv_100 rfl rfl rfl (o_st rfl (by first | exact One.u | exact One.val rfl | assumption) rfl) ?_
            dsimp only [List.set_cons_succ, List.set_cons_zero]
            rw [n_succ]
            refine s_goto (pc' := 14) dcv_103 (by decide) rfl ?_
            exact ih (cs.length - (j + 1)) (by omega) (j + 1) _ (lst w p x).1 (lst w p x).2 _ _ _ rfl (by omega) hfd2 (by rw [cv_al hc31 hal]; rw [List.length_append, List.length_singleton]; omega) (good_lst hr g) EE (by rw [cv_al hc31 hal]; exact B96) (by first | exact One.val rfl | assumption) (by first | exact One.val rfl | assumption) (by first | exact One.val rfl | assumption)
          · replace hc85 := b_neF hc85
            exact absurd hc85 (al95 hal)
        · replace hc56 := b_eqF hc56
          obtain ⟨u, z, hu, hcase⟩ := (cv_last (p := p) g).resolve_left (fun q => absurd (by rw [q.2]; rfl) hc56)
          have hwne : ¬ w = [] := fun q => by
            subst q
            simp [CV] at hu
          refine s_aloadN (pc' := 60) dcv_59 rfl rfl rfl ?_
          refine s_aloadN (pc' := 61) dcv_60 rfl rfl rfl ?_
          refine s_callV0 (rmlB C.l G n0 bd _ _ B.1 B.2.2.2.1) (by simp) B.1 (hw _ (List.mem_of_getElem? (i := 68) rfl)) (hw _ (List.mem_of_getElem? (i := 69) rfl)) (hw _ (List.mem_of_getElem? (i := 71) rfl)) (hw _ (List.mem_of_getElem? (i := 70) rfl)) (o_nf (hw _ (List.mem_of_getElem? (i := 71) rfl)) rfl) (hw _ (List.mem_of_getElem? (i := 41) rfl)) (hw _ (List.mem_of_getElem? (i := 72) rfl)) (by decide) (o_len pdlB rfl) rfl (pc' := 64) dcv_61 rfl (Nat.le_of_ble_eq_true rfl) (Nat.le_of_ble_eq_true rfl) (Nat.le_of_ble_eq_true rfl) (Nat.le_of_ble_eq_true rfl) (fun v61 h61 hQ61 => ?_)
          obtain ⟨rfl, rfl⟩ := hQ61
          dsimp only [oPush]
          refine s_iconst (x := (1 : Int32)) (pc' := 65) dcv_64 rfl rfl ?_
          refine s_isub (pc' := 66) dcv_65 rfl ?_
          rw [len_pred hu (by omega)]
          refine s_callV1 (rmcB2 C.l G n0 u.length z bd a k _ _ _ B (cv_ch g p) (last_at hu)) (by simp) B.1 (hw _ (List.mem_of_getElem? (i := 194) rfl)) (hw _ (List.mem_of_getElem? (i := 195) rfl)) (hw _ (List.mem_of_getElem? (i := 197) rfl)) (hw _ (List.mem_of_getElem? (i := 196) rfl)) (o_nf (hw _ (List.mem_of_getElem? (i := 197) rfl)) rfl) (hw _ (List.mem_of_getElem? (i := 41) rfl)) (hw _ (List.mem_of_getElem? (i := 198) rfl)) (by decide) (o_len pdcB2 rfl) rfl (pc' := 69) dcv_66 rfl (Nat.le_of_ble_eq_true rfl) (Nat.le_of_ble_eq_true rfl) (Nat.le_of_ble_eq_true rfl) (Nat.le_of_ble_eq_true rfl) (fun v66 h66 hQ66 => ?_)
          obtain ⟨rfl, rfl⟩ := hQ66
          dsimp only [oPush]
          refine s_bipush (x := (95 : Int32)) (pc' := 71) dcv_69 rfl rfl ?_
          refine s_icmp (pc' := 74) (pc'' := 78) dcv_71 rfl (by decide) rfl (fun hc71 => ?_) (fun hc71 => ?_)
          · replace hc71 := b_ne hc71
            have hpn : ¬ p = true := hcase.elim (fun q => absurd q.1 hc71) (·.2.2)
            refine s_iconst (x := (0 : Int32)) (pc' := 79) dcv_78 rfl rfl ?_
            refine s_istore (pc' := 81) dcv_79 rfl (o_st rfl (by first | exact One.u | exact One.val rfl | assumption) rfl) ?_
            dsimp only [List.set_cons_succ, List.set_cons_zero]
            refine s_iload (pc' := 83) dcv_81 rfl rfl ?_
            refine s_bipush (x := (95 : Int32)) (pc' := 85) dcv_83 rfl rfl ?_
            refine s_icmp (pc' := 88) (pc'' := 93) dcv_85 rfl (by decide) rfl (fun hc85 => ?_) (fun hc85 => ?_)
            · replace hc85 := b_ne hc85
              refine s_aloadN (pc' := 94) dcv_93 rfl rfl rfl ?_
              refine s_iload (pc' := 96) dcv_94 rfl rfl ?_
              refine s_callV1 (rmbC C.l G n0 x (ch_127 hr hc31) bd a k cs.length (CV w p) _ B (by omega) gb ga) (by simp) B.1 (hw _ (List.mem_of_getElem? (i := 176) rfl)) (hw _ (List.mem_of_getElem? (i := 177) rfl)) (hw _ (List.mem_of_getElem? (i := 179) rfl)) (hw _ (List.mem_of_getElem? (i := 178) rfl)) (o_nf (hw _ (List.mem_of_getElem? (i := 179) rfl)) rfl) (hw _ (List.mem_of_getElem? (i := 41) rfl)) (hw _ (List.mem_of_getElem? (i := 180) rfl)) (by decide) (o_len pdbC rfl) rfl (pc' := 99) dcv_96 rfl (Nat.le_of_ble_eq_true rfl) (Nat.le_of_ble_eq_true rfl) (Nat.le_of_ble_eq_true rfl) (Nat.le_of_ble_eq_true rfl) (fun v96 h96 hQ96 => ?_)
              obtain ⟨rfl, K96, B96⟩ := hQ96
              dsimp only [oPush]
              replace EE := o_extKeep EE K96 (allS gb2 (allS ga2 all0))
              refine s_pop (pc' := 100) dcv_99 rfl rfl ?_
              refine s_iinc (y := (1 : Int32)) (pc' := 103) dcv_100 rfl rfl rfl (o_st rfl (by first | exact One.u | exact One.val rfl | assumption) rfl) ?_
              dsimp only [List.set_cons_succ, List.set_cons_zero]
              rw [n_succ]
              refine s_goto (pc' := 14) dcv_103 (by decide) rfl ?_
              exact ih (cs.length - (j + 1)) (by omega) (j + 1) _ (lst w p x).1 (lst w p x).2 _ _ _ rfl (by omega) hfd2 (by rw [cv_al hc31 hal]; rw [List.length_append, List.length_singleton]; omega) (good_lst hr g) EE (by rw [cv_al hc31 hal]; exact B96) (by first | exact One.val rfl | assumption) (by first | exact One.val rfl | assumption) (by first | exact One.val rfl | assumption)
            · replace hc85 := b_neF hc85
              exact absurd hc85 (al95 hal)
          · replace hc71 := b_neF hc71
            have hpt : p = true := hcase.elim (·.2.2) fun q => absurd hc71 q.1
            refine s_iconst (x := (1 : Int32)) (pc' := 75) dcv_74 rfl rfl ?_
            refine s_goto (pc' := 79) dcv_75 (by decide) rfl ?_
            refine s_istore (pc' := 81) dcv_79 rfl (o_st rfl (by first | exact One.u | exact One.val rfl | assumption) rfl) ?_
            dsimp only [List.set_cons_succ, List.set_cons_zero]
            refine s_iload (pc' := 83) dcv_81 rfl rfl ?_
            refine s_bipush (x := (95 : Int32)) (pc' := 85) dcv_83 rfl rfl ?_
            refine s_icmp (pc' := 88) (pc'' := 93) dcv_85 rfl (by decide) rfl (fun hc85 => ?_) (fun hc85 => ?_)
            · replace hc85 := b_ne hc85
              refine s_aloadN (pc' := 94) dcv_93 rfl rfl rfl ?_
              refine s_iload (pc' := 96) dcv_94 rfl rfl ?_
              refine s_callV1 (rmbC C.l G n0 x (ch_127 hr hc31) bd a k cs.length (CV w p) _ B (by omega) gb ga) (by simp) B.1 (hw _ (List.mem_of_getElem? (i := 176) rfl)) (hw _ (List.mem_of_getElem? (i := 177) rfl)) (hw _ (List.mem_of_getElem? (i := 179) rfl)) (hw _ (List.mem_of_getElem? (i := 178) rfl)) (o_nf (hw _ (List.mem_of_getElem? (i := 179) rfl)) rfl) (hw _ (List.mem_of_getElem? (i := 41) rfl)) (hw _ (List.mem_of_getElem? (i := 180) rfl)) (by decide) (o_len pdbC rfl) rfl (pc' := 99) dcv_96 rfl (Nat.le_of_ble_eq_true rfl) (Nat.le_of_ble_eq_true rfl) (Nat.le_of_ble_eq_true rfl) (Nat.le_of_ble_eq_true rfl) (fun v96 h96 hQ96 => ?_)
              obtain ⟨rfl, K96, B96⟩ := hQ96
              dsimp only [oPush]
              replace EE := o_extKeep EE K96 (allS gb2 (allS ga2 all0))
              refine s_pop (pc' := 100) dcv_99 rfl rfl ?_
              refine s_iinc (y := (1 : Int32)) (pc' := 103) dcv_100 rfl rfl rfl (o_st rfl (by first | exact One.u | exact One.val rfl | assumption) rfl) ?_
              dsimp only [List.set_cons_succ, List.set_cons_zero]
              rw [n_succ]
              refine s_goto (pc' := 14) dcv_103 (by decide) rfl ?_
              exact ih (cs.length - (j + 1)) (by omega) (j + 1) _ (lst w p x).1 (lst w p x).2 _ _ _ rfl (by omega) hfd2 (by rw [cv_al hc31 hal]; rw [List.length_append, List.length_singleton]; omega) (good_lst hr g) EE (by rw [cv_al hc31 hal]; exact B96) (by first | exact One.val rfl | assumption) (by first | exact One.val rfl | assumption) (by first | exact One.val rfl | assumption)
            · replace hc85 := b_neF hc85
              exact absurd hc85 (al95 hal)
    · replace hc31 := b_leF hc31
      refine s_goto (pc' := 100) dcv_34 (by decide) rfl ?_
      refine s_iinc (y := (1 : Int32)) (pc' := 103) dcv_100 rfl rfl rfl (o_st rfl (by first | exact One.u | exact One.val rfl | assumption) rfl) ?_
      dsimp only [List.set_cons_succ, List.set_cons_zero]
      rw [n_succ]
      refine s_goto (pc' := 14) dcv_103 (by decide) rfl ?_
      exact ih (cs.length - (j + 1)) (by omega) (j + 1) _ (lst w p x).1 (lst w p x).2 _ _ _ rfl (by omega) hfd2 (by rw [cv_big hc31]; omega) (good_lst hr g) EE (by rw [cv_big hc31]; exact B) (by first | exact One.val rfl | assumption) (by first | exact One.val rfl | assumption) (by first | exact One.val rfl | assumption)
set_option maxRecDepth 65536 in
set_option maxHeartbeats 4000000 in
theorem rmcv (l : Launch) {Z : State} {a0 : Array Value} (G : OG Z a0) (n0 : Nat) (US : U16S Z) (t : Addr) (N : Nat) (cs : List Int32) (h0 : Heap) (hn : cs.length ≤ 4) (hch : C16 cs) (H : UV Z h0 N t cs) : oCon l Z n0 EL1 [] (⟨"com/example/typeloom/typeloom/ttcn/Identifiers", "convert", "(Ljava/lang/String;)Ljava/lang/String;"⟩ : MethodName) icv #[.ref t] h0 (fun v h => ∃ r, v = some (.ref r) ∧ Ext h0 h ∧ SV Z h h.size r (fd [] false cs).1) := by
  obtain ⟨hw, hEL, ⟨cmp, hC, hc0⟩, ⟨fm, hfm, hF⟩⟩ := id G
  refine oCon.mk hEL pncv rfl rfl (efcv t) fun C hCl => ?_
  refine s_new (hw _ (List.mem_of_getElem? (i := 39) rfl)) (hw _ (List.mem_of_getElem? (i := 40) rfl)) (hw _ (List.mem_of_getElem? (i := 41) rfl)) (pc' := 3) dcv_0 rfl (Nat.le_of_ble_eq_true rfl) (Nat.le_of_ble_eq_true rfl) (fun h0 b0 g0 nb0 E0 A0 D0 => ?_)
  have gb2 := Nat.le_of_eq g0.symm
  have hn0 := nb0
  rw [g0] at hn0
  refine s_dup (pc' := 4) dcv_3 rfl rfl ?_
  refine s_aloadN (pc' := 5) dcv_4 rfl rfl rfl ?_
  refine s_callV0 (rmuS C.l G n0 t N cs _ hn (H.ext E0)) (by simp) (H.ext E0).exa (hw _ (List.mem_of_getElem? (i := 42) rfl)) (hw _ (List.mem_of_getElem? (i := 43) rfl)) (hw _ (List.mem_of_getElem? (i := 45) rfl)) (hw _ (List.mem_of_getElem? (i := 44) rfl)) (o_nf (hw _ (List.mem_of_getElem? (i := 45) rfl)) rfl) (hw _ (List.mem_of_getElem? (i := 11) rfl)) (hw _ (List.mem_of_getElem? (i := 46) rfl)) (by decide) (o_len pduS rfl) rfl (pc' := 8) dcv_5 rfl (Nat.le_of_ble_eq_true rfl) (Nat.le_of_ble_eq_true rfl) (Nat.le_of_ble_eq_true rfl) (Nat.le_of_ble_eq_true rfl) (fun v5 h5 hQ5 => ?_)
  obtain ⟨rfl, rfl⟩ := hQ5
  dsimp only [oPush]
  refine s_callI1R (rmsi C.l G n0 b0 cs.length hn _ A0 (D0 (Or.inl (hw _ (List.mem_of_getElem? (i := 65) rfl))) (ty := (.array .byte)) (by decide)) (D0 (Or.inl (hw _ (List.mem_of_getElem? (i := 67) rfl))) (ty := .byte) (by decide)) (D0 (Or.inl (hw _ (List.mem_of_getElem? (i := 79) rfl))) (ty := .int) (by decide)) (D0 (Or.inl (hw _ (List.mem_of_getElem? (i := 215) rfl))) (ty := .boolean) (by decide)) nb0) (by simp) rfl rfl (hw _ (List.mem_of_getElem? (i := 53) rfl)) (hw _ (List.mem_of_getElem? (i := 54) rfl)) (hw _ (List.mem_of_getElem? (i := 41) rfl)) (hw _ (List.mem_of_getElem? (i := 55) rfl)) (by decide) (o_len pdsi rfl) rfl (pc' := 11) dcv_8 rfl (Nat.le_of_ble_eq_true rfl) (Nat.le_of_ble_eq_true rfl) (Nat.le_of_ble_eq_true rfl) (Nat.le_of_ble_eq_true rfl) (fun v8 h8 rs8 hQ8 => ?_)
  obtain ⟨a8, k8, rfl, rfl, ga8, K8, B⟩ := hQ8
  dsimp only [oPush]
  replace ga8 := Nat.le_trans E0.1 ga8
  have EE := o_extKeep E0 K8 (allS gb2 all0)
  refine s_astoreN (kn := 1) rfl (pc' := 12) dcv_11 rfl rfl (o_st rfl (by first | exact One.u | exact One.val rfl | assumption) rfl) ?_
  dsimp only [List.set_cons_succ, List.set_cons_zero]
  refine s_iconst (x := (0 : Int32)) (pc' := 13) dcv_12 rfl rfl ?_
  refine s_istoreN (kn := 2) rfl (pc' := 14) dcv_13 rfl (o_st rfl (by first | exact One.u | exact One.val rfl | assumption) rfl) ?_
  dsimp only [List.set_cons_succ, List.set_cons_zero]
  refine s_more (cs' := 2) (sl' := 8) (Nat.le_of_ble_eq_true rfl) (Nat.le_of_ble_eq_true rfl) ?_
  refine s_weak (ws' := [b0, a8]) (by simp) ?_
  exact cvl G US hn hch H nb0 (Nat.le_trans hn0 ga8) gb2 ga8 (fun r h E V => ⟨r, rfl, E, V⟩) cs.length 0 _ [] false _ _ _ rfl (Nat.zero_le _) rfl (Nat.le_refl _) good_nil EE B One.u One.u One.u
def i0 : OInfo := ("com/example/typeloom/typeloom/ttcn/IdentifiersConvertPinLaw", code, maxLocals, (some .boolean), "law", room_1)
theorem ef0 (x0 : Int32) (x1 : Int32) (x2 : Int32) (x3 : Int32) (x4 : Int32) (m : MethodId) : entryFrame m #[(.int x0), (.int x1), (.int x2), (.int x3), (.int x4)] maxLocals = mkF m 0 #[.val (.int x0), .val (.int x1), .val (.int x2), .val (.int x3), .val (.int x4), .unset, .unset, .unset, .unset, .unset, .unset, .unset, .unset, .unset, .unset] [] := by first | (simp [entryFrame, mkF, argsToLocals, Value.category, maxLocals]; done) | rfl
set_option maxRecDepth 65536 in
set_option maxHeartbeats 4000000 in
theorem sg59_0 {C : OCtx} {n0 : Nat} {Q : Option Value → Heap → Prop} {h : Heap} {i0_ i1_ i2_ i3_ i4_ x0 x1 x2 x3 : Int32} {t o s : Addr} {ko ks : ClassId} {Z : State} {aa : Array Value} (G : OG Z aa)  (go : n0 ≤ o) (gs : n0 ≤ s) (hos : o ≠ s) (O : OS Z h o s ko ks [] false) (K1 : ∀ h', Keep h h' [o, s] → OS Z h' o s ko ks (fd [] false []).1 (fd [] false []).2 → oRun C Z n0 i0 EL1 [s, o] Q h' 8 30 (mkF C.m 138 #[.val (.int i0_), .val (.int i1_), .val (.int i2_), .val (.int i3_), .val (.int i4_), .val (.int (Int32.ofNat 0)), .val (.int x0), .val (.int x1), .val (.int x2), .val (.int x3), .val (.ref t), .val (.ref o), .val (.ref s), .unset, .unset] [])) : oRun C Z n0 i0 EL1 [s, o] Q h 8 30 (mkF C.m 59 #[.val (.int i0_), .val (.int i1_), .val (.int i2_), .val (.int i3_), .val (.int i4_), .val (.int (Int32.ofNat 0)), .val (.int x0), .val (.int x1), .val (.int x2), .val (.int x3), .val (.ref t), .val (.ref o), .val (.ref s), .unset, .unset] []) := by
  obtain ⟨hw, hEL, ⟨cmp, hC, hc0⟩, ⟨fm, hfm, hF⟩⟩ := id G
  have KK := Keep.refl h [o, s]
  have L0 : ([] : List Int32).length ≤ 2 * 0 - 1 := Nat.le_refl _
  refine s_aload (pc' := 61) at_59 rfl rfl rfl ?_
  refine s_aload (pc' := 63) at_61 rfl rfl rfl ?_
  refine s_iload (pc' := 65) at_63 rfl rfl ?_
  refine s_iload (pc' := 67) at_65 rfl rfl ?_
  refine s_if (pc' := 70) (pc'' := 74) at_67 rfl (by decide) rfl (fun hc67 => ?_) (fun hc67 => ?_)
  · replace hc67 := b_le hc67
    refine s_iconst (x := (0 : Int32)) (pc' := 75) at_74 rfl rfl ?_
    refine s_callS4 (rmsp0 C.l G n0 o s x0 _) (by simp) (hw _ (List.mem_of_getElem? (i := 32) rfl)) (hw _ (List.mem_of_getElem? (i := 33) rfl)) (hw _ (List.mem_of_getElem? (i := 3) rfl)) (hw _ (List.mem_of_getElem? (i := 34) rfl)) (by decide) (o_len pdsp rfl) rfl (pc' := 78) at_75 rfl (Nat.le_of_ble_eq_true rfl) (Nat.le_of_ble_eq_true rfl) (Nat.le_of_ble_eq_true rfl) (Nat.le_of_ble_eq_true rfl) (fun v75 h75 hQ75 => ?_)
    obtain ⟨rfl, rfl⟩ := hQ75
    dsimp only [oPush]
    refine s_aload (pc' := 80) at_78 rfl rfl rfl ?_
    refine s_aload (pc' := 82) at_80 rfl rfl rfl ?_
    refine s_iload (pc' := 84) at_82 rfl rfl ?_
    refine s_iload (pc' := 86) at_84 rfl rfl ?_
    refine s_iconst (x := (1 : Int32)) (pc' := 87) at_86 rfl rfl ?_
    refine s_icmp (pc' := 90) (pc'' := 94) at_87 rfl (by decide) rfl (fun hc87 => ?_) (fun hc87 => ?_)
    · replace hc87 := b_le hc87
      refine s_iconst (x := (0 : Int32)) (pc' := 95) at_94 rfl rfl ?_
      refine s_callS4 (rmsp0 C.l G n0 o s x1 _) (by simp) (hw _ (List.mem_of_getElem? (i := 32) rfl)) (hw _ (List.mem_of_getElem? (i := 33) rfl)) (hw _ (List.mem_of_getElem? (i := 3) rfl)) (hw _ (List.mem_of_getElem? (i := 34) rfl)) (by decide) (o_len pdsp rfl) rfl (pc' := 98) at_95 rfl (Nat.le_of_ble_eq_true rfl) (Nat.le_of_ble_eq_true rfl) (Nat.le_of_ble_eq_true rfl) (Nat.le_of_ble_eq_true rfl) (fun v95 h95 hQ95 => ?_)
      obtain ⟨rfl, rfl⟩ := hQ95
      dsimp only [oPush]
      refine s_aload (pc' := 100) at_98 rfl rfl rfl ?_
      refine s_aload (pc' := 102) at_100 rfl rfl rfl ?_
      refine s_iload (pc' := 104) at_102 rfl rfl ?_
      refine s_iload (pc' := 106) at_104 rfl rfl ?_
      refine s_iconst (x := (2 : Int32)) (pc' := 107) at_106 rfl rfl ?_
      refine s_icmp (pc' := 110) (pc'' := 114) at_107 rfl (by decide) rfl (fun hc107 => ?_) (fun hc107 => ?_)
      · replace hc107 := b_le hc107
        refine s_iconst (x := (0 : Int32)) (pc' := 115) at_114 rfl rfl ?_
        refine s_callS4 (rmsp0 C.l G n0 o s x2 _) (by simp) (hw _ (List.mem_of_getElem? (i := 32) rfl)) (hw _ (List.mem_of_getElem? (i := 33) rfl)) (hw _ (List.mem_of_getElem? (i := 3) rfl)) (hw _ (List.mem_of_getElem? (i := 34) rfl)) (by decide) (o_len pdsp rfl) rfl (pc' := 118) at_115 rfl (Nat.le_of_ble_eq_true rfl) (Nat.le_of_ble_eq_true rfl) (Nat.le_of_ble_eq_true rfl) (Nat.le_of_ble_eq_true rfl) (fun v115 h115 hQ115 => ?_)
        obtain ⟨rfl, rfl⟩ := hQ115
        dsimp only [oPush]
        refine s_aload (pc' := 120) at_118 rfl rfl rfl ?_
        refine s_aload (pc' := 122) at_120 rfl rfl rfl ?_
        refine s_iload (pc' := 124) at_122 rfl rfl ?_
        refine s_iload (pc' := 126) at_124 rfl rfl ?_
        refine s_iconst (x := (3 : Int32)) (pc' := 127) at_126 rfl rfl ?_
        refine s_icmp (pc' := 130) (pc'' := 134) at_127 rfl (by decide) rfl (fun hc127 => ?_) (fun hc127 => ?_)
        · replace hc127 := b_le hc127
          refine s_iconst (x := (0 : Int32)) (pc' := 135) at_134 rfl rfl ?_
          refine s_callS4 (rmsp0 C.l G n0 o s x3 _) (by simp) (hw _ (List.mem_of_getElem? (i := 32) rfl)) (hw _ (List.mem_of_getElem? (i := 33) rfl)) (hw _ (List.mem_of_getElem? (i := 3) rfl)) (hw _ (List.mem_of_getElem? (i := 34) rfl)) (by decide) (o_len pdsp rfl) rfl (pc' := 138) at_135 rfl (Nat.le_of_ble_eq_true rfl) (Nat.le_of_ble_eq_true rfl) (Nat.le_of_ble_eq_true rfl) (Nat.le_of_ble_eq_true rfl) (fun v135 h135 hQ135 => ?_)
          obtain ⟨rfl, rfl⟩ := hQ135
          dsimp only [oPush]
          exact K1 _ KK O
        · replace hc127 := b_leF hc127
          exact absurd hc127 (by decide)
      · replace hc107 := b_leF hc107
        exact absurd hc107 (by decide)
    · replace hc87 := b_leF hc87
      exact absurd hc87 (by decide)
  · replace hc67 := b_leF hc67
    exact absurd hc67 (by decide)
set_option maxRecDepth 65536 in
set_option maxHeartbeats 4000000 in
theorem sg59_1 {C : OCtx} {n0 : Nat} {Q : Option Value → Heap → Prop} {h : Heap} {i0_ i1_ i2_ i3_ i4_ x0 x1 x2 x3 : Int32} {t o s : Addr} {ko ks : ClassId} {Z : State} {aa : Array Value} (G : OG Z aa) (r0 : ¬ x0 < 0 ∧ ¬ (65535 : Int32) < x0) (go : n0 ≤ o) (gs : n0 ≤ s) (hos : o ≠ s) (O : OS Z h o s ko ks [] false) (K1 : ∀ h', Keep h h' [o, s] → OS Z h' o s ko ks (fd [] false [x0]).1 (fd [] false [x0]).2 → oRun C Z n0 i0 EL1 [s, o] Q h' 8 30 (mkF C.m 138 #[.val (.int i0_), .val (.int i1_), .val (.int i2_), .val (.int i3_), .val (.int i4_), .val (.int (Int32.ofNat 1)), .val (.int x0), .val (.int x1), .val (.int x2), .val (.int x3), .val (.ref t), .val (.ref o), .val (.ref s), .unset, .unset] [])) : oRun C Z n0 i0 EL1 [s, o] Q h 8 30 (mkF C.m 59 #[.val (.int i0_), .val (.int i1_), .val (.int i2_), .val (.int i3_), .val (.int i4_), .val (.int (Int32.ofNat 1)), .val (.int x0), .val (.int x1), .val (.int x2), .val (.int x3), .val (.ref t), .val (.ref o), .val (.ref s), .unset, .unset] []) := by
  obtain ⟨hw, hEL, ⟨cmp, hC, hc0⟩, ⟨fm, hfm, hF⟩⟩ := id G
  have KK := Keep.refl h [o, s]
  have L0 : ([] : List Int32).length ≤ 2 * 0 - 1 := Nat.le_refl _
  have L1 : (lst [] false x0).1.length ≤ 2 * (0 + 1) - 1 := lst_len L0
  refine s_aload (pc' := 61) at_59 rfl rfl rfl ?_
  refine s_aload (pc' := 63) at_61 rfl rfl rfl ?_
  refine s_iload (pc' := 65) at_63 rfl rfl ?_
  refine s_iload (pc' := 67) at_65 rfl rfl ?_
  refine s_if (pc' := 70) (pc'' := 74) at_67 rfl (by decide) rfl (fun hc67 => ?_) (fun hc67 => ?_)
  · replace hc67 := b_le hc67
    exact absurd (by decide) hc67
  · replace hc67 := b_leF hc67
    refine s_iconst (x := (1 : Int32)) (pc' := 71) at_70 rfl rfl ?_
    refine s_goto (pc' := 75) at_71 (by decide) rfl ?_
    refine s_callS4 (rmsp1 C.l G n0 o s ko ks x0 [] false _ r0 go gs hos (by omega) O) (by simp) (hw _ (List.mem_of_getElem? (i := 32) rfl)) (hw _ (List.mem_of_getElem? (i := 33) rfl)) (hw _ (List.mem_of_getElem? (i := 3) rfl)) (hw _ (List.mem_of_getElem? (i := 34) rfl)) (by decide) (o_len pdsp rfl) rfl (pc' := 78) at_75 rfl (Nat.le_of_ble_eq_true rfl) (Nat.le_of_ble_eq_true rfl) (Nat.le_of_ble_eq_true rfl) (Nat.le_of_ble_eq_true rfl) (fun v75 h75 hQ75 => ?_)
    obtain ⟨rfl, K75, O75⟩ := hQ75
    dsimp only [oPush]
    replace KK := KK.trans K75 (fun _ hx => Or.inl hx)
    replace O := O75
    refine s_aload (pc' := 80) at_78 rfl rfl rfl ?_
    refine s_aload (pc' := 82) at_80 rfl rfl rfl ?_
    refine s_iload (pc' := 84) at_82 rfl rfl ?_
    refine s_iload (pc' := 86) at_84 rfl rfl ?_
    refine s_iconst (x := (1 : Int32)) (pc' := 87) at_86 rfl rfl ?_
    refine s_icmp (pc' := 90) (pc'' := 94) at_87 rfl (by decide) rfl (fun hc87 => ?_) (fun hc87 => ?_)
    · replace hc87 := b_le hc87
      refine s_iconst (x := (0 : Int32)) (pc' := 95) at_94 rfl rfl ?_
      refine s_callS4 (rmsp0 C.l G n0 o s x1 _) (by simp) (hw _ (List.mem_of_getElem? (i := 32) rfl)) (hw _ (List.mem_of_getElem? (i := 33) rfl)) (hw _ (List.mem_of_getElem? (i := 3) rfl)) (hw _ (List.mem_of_getElem? (i := 34) rfl)) (by decide) (o_len pdsp rfl) rfl (pc' := 98) at_95 rfl (Nat.le_of_ble_eq_true rfl) (Nat.le_of_ble_eq_true rfl) (Nat.le_of_ble_eq_true rfl) (Nat.le_of_ble_eq_true rfl) (fun v95 h95 hQ95 => ?_)
      obtain ⟨rfl, rfl⟩ := hQ95
      dsimp only [oPush]
      refine s_aload (pc' := 100) at_98 rfl rfl rfl ?_
      refine s_aload (pc' := 102) at_100 rfl rfl rfl ?_
      refine s_iload (pc' := 104) at_102 rfl rfl ?_
      refine s_iload (pc' := 106) at_104 rfl rfl ?_
      refine s_iconst (x := (2 : Int32)) (pc' := 107) at_106 rfl rfl ?_
      refine s_icmp (pc' := 110) (pc'' := 114) at_107 rfl (by decide) rfl (fun hc107 => ?_) (fun hc107 => ?_)
      · replace hc107 := b_le hc107
        refine s_iconst (x := (0 : Int32)) (pc' := 115) at_114 rfl rfl ?_
        refine s_callS4 (rmsp0 C.l G n0 o s x2 _) (by simp) (hw _ (List.mem_of_getElem? (i := 32) rfl)) (hw _ (List.mem_of_getElem? (i := 33) rfl)) (hw _ (List.mem_of_getElem? (i := 3) rfl)) (hw _ (List.mem_of_getElem? (i := 34) rfl)) (by decide) (o_len pdsp rfl) rfl (pc' := 118) at_115 rfl (Nat.le_of_ble_eq_true rfl) (Nat.le_of_ble_eq_true rfl) (Nat.le_of_ble_eq_true rfl) (Nat.le_of_ble_eq_true rfl) (fun v115 h115 hQ115 => ?_)
        obtain ⟨rfl, rfl⟩ := hQ115
        dsimp only [oPush]
        refine s_aload (pc' := 120) at_118 rfl rfl rfl ?_
        refine s_aload (pc' := 122) at_120 rfl rfl rfl ?_
        refine s_iload (pc' := 124) at_122 rfl rfl ?_
        refine s_iload (pc' := 126) at_124 rfl rfl ?_
        refine s_iconst (x := (3 : Int32)) (pc' := 127) at_126 rfl rfl ?_
        refine s_icmp (pc' := 130) (pc'' := 134) at_127 rfl (by decide) rfl (fun hc127 => ?_) (fun hc127 => ?_)
        · replace hc127 := b_le hc127
          refine s_iconst (x := (0 : Int32)) (pc' := 135) at_134 rfl rfl ?_
          refine s_callS4 (rmsp0 C.l G n0 o s x3 _) (by simp) (hw _ (List.mem_of_getElem? (i := 32) rfl)) (hw _ (List.mem_of_getElem? (i := 33) rfl)) (hw _ (List.mem_of_getElem? (i := 3) rfl)) (hw _ (List.mem_of_getElem? (i := 34) rfl)) (by decide) (o_len pdsp rfl) rfl (pc' := 138) at_135 rfl (Nat.le_of_ble_eq_true rfl) (Nat.le_of_ble_eq_true rfl) (Nat.le_of_ble_eq_true rfl) (Nat.le_of_ble_eq_true rfl) (fun v135 h135 hQ135 => ?_)
          obtain ⟨rfl, rfl⟩ := hQ135
          dsimp only [oPush]
          exact K1 _ KK O
        · replace hc127 := b_leF hc127
          exact absurd hc127 (by decide)
      · replace hc107 := b_leF hc107
        exact absurd hc107 (by decide)
    · replace hc87 := b_leF hc87
      exact absurd hc87 (by decide)
set_option maxRecDepth 65536 in
set_option maxHeartbeats 4000000 in
theorem sg59_2 {C : OCtx} {n0 : Nat} {Q : Option Value → Heap → Prop} {h : Heap} {i0_ i1_ i2_ i3_ i4_ x0 x1 x2 x3 : Int32} {t o s : Addr} {ko ks : ClassId} {Z : State} {aa : Array Value} (G : OG Z aa) (r0 : ¬ x0 < 0 ∧ ¬ (65535 : Int32) < x0) (r1 : ¬ x1 < 0 ∧ ¬ (65535 : Int32) < x1) (go : n0 ≤ o) (gs : n0 ≤ s) (hos : o ≠ s) (O : OS Z h o s ko ks [] false) (K1 : ∀ h', Keep h h' [o, s] → OS Z h' o s ko ks (fd [] false [x0, x1]).1 (fd [] false [x0, x1]).2 → oRun C Z n0 i0 EL1 [s, o] Q h' 8 30 (mkF C.m 138 #[.val (.int i0_), .val (.int i1_), .val (.int i2_), .val (.int i3_), .val (.int i4_), .val (.int (Int32.ofNat 2)), .val (.int x0), .val (.int x1), .val (.int x2), .val (.int x3), .val (.ref t), .val (.ref o), .val (.ref s), .unset, .unset] [])) : oRun C Z n0 i0 EL1 [s, o] Q h 8 30 (mkF C.m 59 #[.val (.int i0_), .val (.int i1_), .val (.int i2_), .val (.int i3_), .val (.int i4_), .val (.int (Int32.ofNat 2)), .val (.int x0), .val (.int x1), .val (.int x2), .val (.int x3), .val (.ref t), .val (.ref o), .val (.ref s), .unset, .unset] []) := by
  obtain ⟨hw, hEL, ⟨cmp, hC, hc0⟩, ⟨fm, hfm, hF⟩⟩ := id G
  have KK := Keep.refl h [o, s]
  have L0 : ([] : List Int32).length ≤ 2 * 0 - 1 := Nat.le_refl _
  have L1 : (lst [] false x0).1.length ≤ 2 * (0 + 1) - 1 := lst_len L0
  have L2 : (lst (lst [] false x0).1 (lst [] false x0).2 x1).1.length ≤ 2 * (1 + 1) - 1 := lst_len L1
  refine s_aload (pc' := 61) at_59 rfl rfl rfl ?_
  refine s_aload (pc' := 63) at_61 rfl rfl rfl ?_
  refine s_iload (pc' := 65) at_63 rfl rfl ?_
  refine s_iload (pc' := 67) at_65 rfl rfl ?_
  refine s_if (pc' := 70) (pc'' := 74) at_67 rfl (by decide) rfl (fun hc67 => ?_) (fun hc67 => ?_)
  · replace hc67 := b_le hc67
    exact absurd (by decide) hc67
  · replace hc67 := b_leF hc67
    refine s_iconst (x := (1 : Int32)) (pc' := 71) at_70 rfl rfl ?_
    refine s_goto (pc' := 75) at_71 (by decide) rfl ?_
    refine s_callS4 (rmsp1 C.l G n0 o s ko ks x0 [] false _ r0 go gs hos (by omega) O) (by simp) (hw _ (List.mem_of_getElem? (i := 32) rfl)) (hw _ (List.mem_of_getElem? (i := 33) rfl)) (hw _ (List.mem_of_getElem? (i := 3) rfl)) (hw _ (List.mem_of_getElem? (i := 34) rfl)) (by decide) (o_len pdsp rfl) rfl (pc' := 78) at_75 rfl (Nat.le_of_ble_eq_true rfl) (Nat.le_of_ble_eq_true rfl) (Nat.le_of_ble_eq_true rfl) (Nat.le_of_ble_eq_true rfl) (fun v75 h75 hQ75 => ?_)
    obtain ⟨rfl, K75, O75⟩ := hQ75
    dsimp only [oPush]
    replace KK := KK.trans K75 (fun _ hx => Or.inl hx)
    replace O := O75
    refine s_aload (pc' := 80) at_78 rfl rfl rfl ?_
    refine s_aload (pc' := 82) at_80 rfl rfl rfl ?_
    refine s_iload (pc' := 84) at_82 rfl rfl ?_
    refine s_iload (pc' := 86) at_84 rfl rfl ?_
    refine s_iconst (x := (1 : Int32)) (pc' := 87) at_86 rfl rfl ?_
    refine s_icmp (pc' := 90) (pc'' := 94) at_87 rfl (by decide) rfl (fun hc87 => ?_) (fun hc87 => ?_)
    · replace hc87 := b_le hc87
      exact absurd (by decide) hc87
    · replace hc87 := b_leF hc87
      refine s_iconst (x := (1 : Int32)) (pc' := 91) at_90 rfl rfl ?_
      refine s_goto (pc' := 95) at_91 (by decide) rfl ?_
      refine s_callS4 (rmsp1 C.l G n0 o s ko ks x1 (lst [] false x0).1 (lst [] false x0).2 _ r1 go gs hos (by omega) O) (by simp) (hw _ (List.mem_of_getElem? (i := 32) rfl)) (hw _ (List.mem_of_getElem? (i := 33) rfl)) (hw _ (List.mem_of_getElem? (i := 3) rfl)) (hw _ (List.mem_of_getElem? (i := 34) rfl)) (by decide) (o_len pdsp rfl) rfl (pc' := 98) at_95 rfl (Nat.le_of_ble_eq_true rfl) (Nat.le_of_ble_eq_true rfl) (Nat.le_of_ble_eq_true rfl) (Nat.le_of_ble_eq_true rfl) (fun v95 h95 hQ95 => ?_)
      obtain ⟨rfl, K95, O95⟩ := hQ95
      dsimp only [oPush]
      replace KK := KK.trans K95 (fun _ hx => Or.inl hx)
      replace O := O95
      refine s_aload (pc' := 100) at_98 rfl rfl rfl ?_
      refine s_aload (pc' := 102) at_100 rfl rfl rfl ?_
      refine s_iload (pc' := 104) at_102 rfl rfl ?_
      refine s_iload (pc' := 106) at_104 rfl rfl ?_
      refine s_iconst (x := (2 : Int32)) (pc' := 107) at_106 rfl rfl ?_
      refine s_icmp (pc' := 110) (pc'' := 114) at_107 rfl (by decide) rfl (fun hc107 => ?_) (fun hc107 => ?_)
      · replace hc107 := b_le hc107
        refine s_iconst (x := (0 : Int32)) (pc' := 115) at_114 rfl rfl ?_
        refine s_callS4 (rmsp0 C.l G n0 o s x2 _) (by simp) (hw _ (List.mem_of_getElem? (i := 32) rfl)) (hw _ (List.mem_of_getElem? (i := 33) rfl)) (hw _ (List.mem_of_getElem? (i := 3) rfl)) (hw _ (List.mem_of_getElem? (i := 34) rfl)) (by decide) (o_len pdsp rfl) rfl (pc' := 118) at_115 rfl (Nat.le_of_ble_eq_true rfl) (Nat.le_of_ble_eq_true rfl) (Nat.le_of_ble_eq_true rfl) (Nat.le_of_ble_eq_true rfl) (fun v115 h115 hQ115 => ?_)
        obtain ⟨rfl, rfl⟩ := hQ115
        dsimp only [oPush]
        refine s_aload (pc' := 120) at_118 rfl rfl rfl ?_
        refine s_aload (pc' := 122) at_120 rfl rfl rfl ?_
        refine s_iload (pc' := 124) at_122 rfl rfl ?_
        refine s_iload (pc' := 126) at_124 rfl rfl ?_
        refine s_iconst (x := (3 : Int32)) (pc' := 127) at_126 rfl rfl ?_
        refine s_icmp (pc' := 130) (pc'' := 134) at_127 rfl (by decide) rfl (fun hc127 => ?_) (fun hc127 => ?_)
        · replace hc127 := b_le hc127
          refine s_iconst (x := (0 : Int32)) (pc' := 135) at_134 rfl rfl ?_
          refine s_callS4 (rmsp0 C.l G n0 o s x3 _) (by simp) (hw _ (List.mem_of_getElem? (i := 32) rfl)) (hw _ (List.mem_of_getElem? (i := 33) rfl)) (hw _ (List.mem_of_getElem? (i := 3) rfl)) (hw _ (List.mem_of_getElem? (i := 34) rfl)) (by decide) (o_len pdsp rfl) rfl (pc' := 138) at_135 rfl (Nat.le_of_ble_eq_true rfl) (Nat.le_of_ble_eq_true rfl) (Nat.le_of_ble_eq_true rfl) (Nat.le_of_ble_eq_true rfl) (fun v135 h135 hQ135 => ?_)
          obtain ⟨rfl, rfl⟩ := hQ135
          dsimp only [oPush]
          exact K1 _ KK O
        · replace hc127 := b_leF hc127
          exact absurd hc127 (by decide)
      · replace hc107 := b_leF hc107
        exact absurd hc107 (by decide)
set_option maxRecDepth 65536 in
set_option maxHeartbeats 4000000 in
theorem sg59_3 {C : OCtx} {n0 : Nat} {Q : Option Value → Heap → Prop} {h : Heap} {i0_ i1_ i2_ i3_ i4_ x0 x1 x2 x3 : Int32} {t o s : Addr} {ko ks : ClassId} {Z : State} {aa : Array Value} (G : OG Z aa) (r0 : ¬ x0 < 0 ∧ ¬ (65535 : Int32) < x0) (r1 : ¬ x1 < 0 ∧ ¬ (65535 : Int32) < x1) (r2 : ¬ x2 < 0 ∧ ¬ (65535 : Int32) < x2) (go : n0 ≤ o) (gs : n0 ≤ s) (hos : o ≠ s) (O : OS Z h o s ko ks [] false) (K1 : ∀ h', Keep h h' [o, s] → OS Z h' o s ko ks (fd [] false [x0, x1, x2]).1 (fd [] false [x0, x1, x2]).2 → oRun C Z n0 i0 EL1 [s, o] Q h' 8 30 (mkF C.m 138 #[.val (.int i0_), .val (.int i1_), .val (.int i2_), .val (.int i3_), .val (.int i4_), .val (.int (Int32.ofNat 3)), .val (.int x0), .val (.int x1), .val (.int x2), .val (.int x3), .val (.ref t), .val (.ref o), .val (.ref s), .unset, .unset] [])) : oRun C Z n0 i0 EL1 [s, o] Q h 8 30 (mkF C.m 59 #[.val (.int i0_), .val (.int i1_), .val (.int i2_), .val (.int i3_), .val (.int i4_), .val (.int (Int32.ofNat 3)), .val (.int x0), .val (.int x1), .val (.int x2), .val (.int x3), .val (.ref t), .val (.ref o), .val (.ref s), .unset, .unset] []) := by
  obtain ⟨hw, hEL, ⟨cmp, hC, hc0⟩, ⟨fm, hfm, hF⟩⟩ := id G
  have KK := Keep.refl h [o, s]
  have L0 : ([] : List Int32).length ≤ 2 * 0 - 1 := Nat.le_refl _
  have L1 : (lst [] false x0).1.length ≤ 2 * (0 + 1) - 1 := lst_len L0
  have L2 : (lst (lst [] false x0).1 (lst [] false x0).2 x1).1.length ≤ 2 * (1 + 1) - 1 := lst_len L1
  have L3 : (lst (lst (lst [] false x0).1 (lst [] false x0).2 x1).1 (lst (lst [] false x0).1 (lst [] false x0).2 x1).2 x2).1.length ≤ 2 * (2 + 1) - 1 := lst_len L2
  refine s_aload (pc' := 61) at_59 rfl rfl rfl ?_
  refine s_aload (pc' := 63) at_61 rfl rfl rfl ?_
  refine s_iload (pc' := 65) at_63 rfl rfl ?_
  refine s_iload (pc' := 67) at_65 rfl rfl ?_
  refine s_if (pc' := 70) (pc'' := 74) at_67 rfl (by decide) rfl (fun hc67 => ?_) (fun hc67 => ?_)
  · replace hc67 := b_le hc67
    exact absurd (by decide) hc67
  · replace hc67 := b_leF hc67
    refine s_iconst (x := (1 : Int32)) (pc' := 71) at_70 rfl rfl ?_
    refine s_goto (pc' := 75) at_71 (by decide) rfl ?_
    refine s_callS4 (rmsp1 C.l G n0 o s ko ks x0 [] false _ r0 go gs hos (by omega) O) (by simp) (hw _ (List.mem_of_getElem? (i := 32) rfl)) (hw _ (List.mem_of_getElem? (i := 33) rfl)) (hw _ (List.mem_of_getElem? (i := 3) rfl)) (hw _ (List.mem_of_getElem? (i := 34) rfl)) (by decide) (o_len pdsp rfl) rfl (pc' := 78) at_75 rfl (Nat.le_of_ble_eq_true rfl) (Nat.le_of_ble_eq_true rfl) (Nat.le_of_ble_eq_true rfl) (Nat.le_of_ble_eq_true rfl) (fun v75 h75 hQ75 => ?_)
    obtain ⟨rfl, K75, O75⟩ := hQ75
    dsimp only [oPush]
    replace KK := KK.trans K75 (fun _ hx => Or.inl hx)
    replace O := O75
    refine s_aload (pc' := 80) at_78 rfl rfl rfl ?_
    refine s_aload (pc' := 82) at_80 rfl rfl rfl ?_
    refine s_iload (pc' := 84) at_82 rfl rfl ?_
    refine s_iload (pc' := 86) at_84 rfl rfl ?_
    refine s_iconst (x := (1 : Int32)) (pc' := 87) at_86 rfl rfl ?_
    refine s_icmp (pc' := 90) (pc'' := 94) at_87 rfl (by decide) rfl (fun hc87 => ?_) (fun hc87 => ?_)
    · replace hc87 := b_le hc87
      exact absurd (by decide) hc87
    · replace hc87 := b_leF hc87
      refine s_iconst (x := (1 : Int32)) (pc' := 91) at_90 rfl rfl ?_
      refine s_goto (pc' := 95) at_91 (by decide) rfl ?_
      refine s_callS4 (rmsp1 C.l G n0 o s ko ks x1 (lst [] false x0).1 (lst [] false x0).2 _ r1 go gs hos (by omega) O) (by simp) (hw _ (List.mem_of_getElem? (i := 32) rfl)) (hw _ (List.mem_of_getElem? (i := 33) rfl)) (hw _ (List.mem_of_getElem? (i := 3) rfl)) (hw _ (List.mem_of_getElem? (i := 34) rfl)) (by decide) (o_len pdsp rfl) rfl (pc' := 98) at_95 rfl (Nat.le_of_ble_eq_true rfl) (Nat.le_of_ble_eq_true rfl) (Nat.le_of_ble_eq_true rfl) (Nat.le_of_ble_eq_true rfl) (fun v95 h95 hQ95 => ?_)
      obtain ⟨rfl, K95, O95⟩ := hQ95
      dsimp only [oPush]
      replace KK := KK.trans K95 (fun _ hx => Or.inl hx)
      replace O := O95
      refine s_aload (pc' := 100) at_98 rfl rfl rfl ?_
      refine s_aload (pc' := 102) at_100 rfl rfl rfl ?_
      refine s_iload (pc' := 104) at_102 rfl rfl ?_
      refine s_iload (pc' := 106) at_104 rfl rfl ?_
      refine s_iconst (x := (2 : Int32)) (pc' := 107) at_106 rfl rfl ?_
      refine s_icmp (pc' := 110) (pc'' := 114) at_107 rfl (by decide) rfl (fun hc107 => ?_) (fun hc107 => ?_)
      · replace hc107 := b_le hc107
        exact absurd (by decide) hc107
      · replace hc107 := b_leF hc107
        refine s_iconst (x := (1 : Int32)) (pc' := 111) at_110 rfl rfl ?_
        refine s_goto (pc' := 115) at_111 (by decide) rfl ?_
        refine s_callS4 (rmsp1 C.l G n0 o s ko ks x2 (lst (lst [] false x0).1 (lst [] false x0).2 x1).1 (lst (lst [] false x0).1 (lst [] false x0).2 x1).2 _ r2 go gs hos (by omega) O) (by simp) (hw _ (List.mem_of_getElem? (i := 32) rfl)) (hw _ (List.mem_of_getElem? (i := 33) rfl)) (hw _ (List.mem_of_getElem? (i := 3) rfl)) (hw _ (List.mem_of_getElem? (i := 34) rfl)) (by decide) (o_len pdsp rfl) rfl (pc' := 118) at_115 rfl (Nat.le_of_ble_eq_true rfl) (Nat.le_of_ble_eq_true rfl) (Nat.le_of_ble_eq_true rfl) (Nat.le_of_ble_eq_true rfl) (fun v115 h115 hQ115 => ?_)
        obtain ⟨rfl, K115, O115⟩ := hQ115
        dsimp only [oPush]
        replace KK := KK.trans K115 (fun _ hx => Or.inl hx)
        replace O := O115
        refine s_aload (pc' := 120) at_118 rfl rfl rfl ?_
        refine s_aload (pc' := 122) at_120 rfl rfl rfl ?_
        refine s_iload (pc' := 124) at_122 rfl rfl ?_
        refine s_iload (pc' := 126) at_124 rfl rfl ?_
        refine s_iconst (x := (3 : Int32)) (pc' := 127) at_126 rfl rfl ?_
        refine s_icmp (pc' := 130) (pc'' := 134) at_127 rfl (by decide) rfl (fun hc127 => ?_) (fun hc127 => ?_)
        · replace hc127 := b_le hc127
          refine s_iconst (x := (0 : Int32)) (pc' := 135) at_134 rfl rfl ?_
          refine s_callS4 (rmsp0 C.l G n0 o s x3 _) (by simp) (hw _ (List.mem_of_getElem? (i := 32) rfl)) (hw _ (List.mem_of_getElem? (i := 33) rfl)) (hw _ (List.mem_of_getElem? (i := 3) rfl)) (hw _ (List.mem_of_getElem? (i := 34) rfl)) (by decide) (o_len pdsp rfl) rfl (pc' := 138) at_135 rfl (Nat.le_of_ble_eq_true rfl) (Nat.le_of_ble_eq_true rfl) (Nat.le_of_ble_eq_true rfl) (Nat.le_of_ble_eq_true rfl) (fun v135 h135 hQ135 => ?_)
          obtain ⟨rfl, rfl⟩ := hQ135
          dsimp only [oPush]
          exact K1 _ KK O
        · replace hc127 := b_leF hc127
          exact absurd hc127 (by decide)
set_option maxRecDepth 65536 in
set_option maxHeartbeats 4000000 in
theorem sg59_4 {C : OCtx} {n0 : Nat} {Q : Option Value → Heap → Prop} {h : Heap} {i0_ i1_ i2_ i3_ i4_ x0 x1 x2 x3 : Int32} {t o s : Addr} {ko ks : ClassId} {Z : State} {aa : Array Value} (G : OG Z aa) (r0 : ¬ x0 < 0 ∧ ¬ (65535 : Int32) < x0) (r1 : ¬ x1 < 0 ∧ ¬ (65535 : Int32) < x1) (r2 : ¬ x2 < 0 ∧ ¬ (65535 : Int32) < x2) (r3 : ¬ x3 < 0 ∧ ¬ (65535 : Int32) < x3) (go : n0 ≤ o) (gs : n0 ≤ s) (hos : o ≠ s) (O : OS Z h o s ko ks [] false) (K1 : ∀ h', Keep h h' [o, s] → OS Z h' o s ko ks (fd [] false [x0, x1, x2, x3]).1 (fd [] false [x0, x1, x2, x3]).2 → oRun C Z n0 i0 EL1 [s, o] Q h' 8 30 (mkF C.m 138 #[.val (.int i0_), .val (.int i1_), .val (.int i2_), .val (.int i3_), .val (.int i4_), .val (.int (Int32.ofNat 4)), .val (.int x0), .val (.int x1), .val (.int x2), .val (.int x3), .val (.ref t), .val (.ref o), .val (.ref s), .unset, .unset] [])) : oRun C Z n0 i0 EL1 [s, o] Q h 8 30 (mkF C.m 59 #[.val (.int i0_), .val (.int i1_), .val (.int i2_), .val (.int i3_), .val (.int i4_), .val (.int (Int32.ofNat 4)), .val (.int x0), .val (.int x1), .val (.int x2), .val (.int x3), .val (.ref t), .val (.ref o), .val (.ref s), .unset, .unset] []) := by
  obtain ⟨hw, hEL, ⟨cmp, hC, hc0⟩, ⟨fm, hfm, hF⟩⟩ := id G
  have KK := Keep.refl h [o, s]
  have L0 : ([] : List Int32).length ≤ 2 * 0 - 1 := Nat.le_refl _
  have L1 : (lst [] false x0).1.length ≤ 2 * (0 + 1) - 1 := lst_len L0
  have L2 : (lst (lst [] false x0).1 (lst [] false x0).2 x1).1.length ≤ 2 * (1 + 1) - 1 := lst_len L1
  have L3 : (lst (lst (lst [] false x0).1 (lst [] false x0).2 x1).1 (lst (lst [] false x0).1 (lst [] false x0).2 x1).2 x2).1.length ≤ 2 * (2 + 1) - 1 := lst_len L2
  have L4 : (lst (lst (lst (lst [] false x0).1 (lst [] false x0).2 x1).1 (lst (lst [] false x0).1 (lst [] false x0).2 x1).2 x2).1 (lst (lst (lst [] false x0).1 (lst [] false x0).2 x1).1 (lst (lst [] false x0).1 (lst [] false x0).2 x1).2 x2).2 x3).1.length ≤ 2 * (3 + 1) - 1 := lst_len L3
  refine s_aload (pc' := 61) at_59 rfl rfl rfl ?_
  refine s_aload (pc' := 63) at_61 rfl rfl rfl ?_
  refine s_iload (pc' := 65) at_63 rfl rfl ?_
  refine s_iload (pc' := 67) at_65 rfl rfl ?_
  refine s_if (pc' := 70) (pc'' := 74) at_67 rfl (by decide) rfl (fun hc67 => ?_) (fun hc67 => ?_)
  · replace hc67 := b_le hc67
    exact absurd (by decide) hc67
  · replace hc67 := b_leF hc67
    refine s_iconst (x := (1 : Int32)) (pc' := 71) at_70 rfl rfl ?_
    refine s_goto (pc' := 75) at_71 (by decide) rfl ?_
    refine s_callS4 (rmsp1 C.l G n0 o s ko ks x0 [] false _ r0 go gs hos (by omega) O) (by simp) (hw _ (List.mem_of_getElem? (i := 32) rfl)) (hw _ (List.mem_of_getElem? (i := 33) rfl)) (hw _ (List.mem_of_getElem? (i := 3) rfl)) (hw _ (List.mem_of_getElem? (i := 34) rfl)) (by decide) (o_len pdsp rfl) rfl (pc' := 78) at_75 rfl (Nat.le_of_ble_eq_true rfl) (Nat.le_of_ble_eq_true rfl) (Nat.le_of_ble_eq_true rfl) (Nat.le_of_ble_eq_true rfl) (fun v75 h75 hQ75 => ?_)
    obtain ⟨rfl, K75, O75⟩ := hQ75
    dsimp only [oPush]
    replace KK := KK.trans K75 (fun _ hx => Or.inl hx)
    replace O := O75
    refine s_aload (pc' := 80) at_78 rfl rfl rfl ?_
    refine s_aload (pc' := 82) at_80 rfl rfl rfl ?_
    refine s_iload (pc' := 84) at_82 rfl rfl ?_
    refine s_iload (pc' := 86) at_84 rfl rfl ?_
    refine s_iconst (x := (1 : Int32)) (pc' := 87) at_86 rfl rfl ?_
    refine s_icmp (pc' := 90) (pc'' := 94) at_87 rfl (by decide) rfl (fun hc87 => ?_) (fun hc87 => ?_)
    · replace hc87 := b_le hc87
      exact absurd (by decide) hc87
    · replace hc87 := b_leF hc87
      refine s_iconst (x := (1 : Int32)) (pc' := 91) at_90 rfl rfl ?_
      refine s_goto (pc' := 95) at_91 (by decide) rfl ?_
      refine s_callS4 (rmsp1 C.l G n0 o s ko ks x1 (lst [] false x0).1 (lst [] false x0).2 _ r1 go gs hos (by omega) O) (by simp) (hw _ (List.mem_of_getElem? (i := 32) rfl)) (hw _ (List.mem_of_getElem? (i := 33) rfl)) (hw _ (List.mem_of_getElem? (i := 3) rfl)) (hw _ (List.mem_of_getElem? (i := 34) rfl)) (by decide) (o_len pdsp rfl) rfl (pc' := 98) at_95 rfl (Nat.le_of_ble_eq_true rfl) (Nat.le_of_ble_eq_true rfl) (Nat.le_of_ble_eq_true rfl) (Nat.le_of_ble_eq_true rfl) (fun v95 h95 hQ95 => ?_)
      obtain ⟨rfl, K95, O95⟩ := hQ95
      dsimp only [oPush]
      replace KK := KK.trans K95 (fun _ hx => Or.inl hx)
      replace O := O95
      refine s_aload (pc' := 100) at_98 rfl rfl rfl ?_
      refine s_aload (pc' := 102) at_100 rfl rfl rfl ?_
      refine s_iload (pc' := 104) at_102 rfl rfl ?_
      refine s_iload (pc' := 106) at_104 rfl rfl ?_
      refine s_iconst (x := (2 : Int32)) (pc' := 107) at_106 rfl rfl ?_
      refine s_icmp (pc' := 110) (pc'' := 114) at_107 rfl (by decide) rfl (fun hc107 => ?_) (fun hc107 => ?_)
      · replace hc107 := b_le hc107
        exact absurd (by decide) hc107
      · replace hc107 := b_leF hc107
        refine s_iconst (x := (1 : Int32)) (pc' := 111) at_110 rfl rfl ?_
        refine s_goto (pc' := 115) at_111 (by decide) rfl ?_
        refine s_callS4 (rmsp1 C.l G n0 o s ko ks x2 (lst (lst [] false x0).1 (lst [] false x0).2 x1).1 (lst (lst [] false x0).1 (lst [] false x0).2 x1).2 _ r2 go gs hos (by omega) O) (by simp) (hw _ (List.mem_of_getElem? (i := 32) rfl)) (hw _ (List.mem_of_getElem? (i := 33) rfl)) (hw _ (List.mem_of_getElem? (i := 3) rfl)) (hw _ (List.mem_of_getElem? (i := 34) rfl)) (by decide) (o_len pdsp rfl) rfl (pc' := 118) at_115 rfl (Nat.le_of_ble_eq_true rfl) (Nat.le_of_ble_eq_true rfl) (Nat.le_of_ble_eq_true rfl) (Nat.le_of_ble_eq_true rfl) (fun v115 h115 hQ115 => ?_)
        obtain ⟨rfl, K115, O115⟩ := hQ115
        dsimp only [oPush]
        replace KK := KK.trans K115 (fun _ hx => Or.inl hx)
        replace O := O115
        refine s_aload (pc' := 120) at_118 rfl rfl rfl ?_
        refine s_aload (pc' := 122) at_120 rfl rfl rfl ?_
        refine s_iload (pc' := 124) at_122 rfl rfl ?_
        refine s_iload (pc' := 126) at_124 rfl rfl ?_
        refine s_iconst (x := (3 : Int32)) (pc' := 127) at_126 rfl rfl ?_
        refine s_icmp (pc' := 130) (pc'' := 134) at_127 rfl (by decide) rfl (fun hc127 => ?_) (fun hc127 => ?_)
        · replace hc127 := b_le hc127
          exact absurd (by decide) hc127
        · replace hc127 := b_leF hc127
          refine s_iconst (x := (1 : Int32)) (pc' := 131) at_130 rfl rfl ?_
          refine s_goto (pc' := 135) at_131 (by decide) rfl ?_
          refine s_callS4 (rmsp1 C.l G n0 o s ko ks x3 (lst (lst (lst [] false x0).1 (lst [] false x0).2 x1).1 (lst (lst [] false x0).1 (lst [] false x0).2 x1).2 x2).1 (lst (lst (lst [] false x0).1 (lst [] false x0).2 x1).1 (lst (lst [] false x0).1 (lst [] false x0).2 x1).2 x2).2 _ r3 go gs hos (by omega) O) (by simp) (hw _ (List.mem_of_getElem? (i := 32) rfl)) (hw _ (List.mem_of_getElem? (i := 33) rfl)) (hw _ (List.mem_of_getElem? (i := 3) rfl)) (hw _ (List.mem_of_getElem? (i := 34) rfl)) (by decide) (o_len pdsp rfl) rfl (pc' := 138) at_135 rfl (Nat.le_of_ble_eq_true rfl) (Nat.le_of_ble_eq_true rfl) (Nat.le_of_ble_eq_true rfl) (Nat.le_of_ble_eq_true rfl) (fun v135 h135 hQ135 => ?_)
          obtain ⟨rfl, K135, O135⟩ := hQ135
          dsimp only [oPush]
          replace KK := KK.trans K135 (fun _ hx => Or.inl hx)
          replace O := O135
          exact K1 _ KK O
set_option maxRecDepth 65536 in
set_option maxHeartbeats 4000000 in
theorem sg138 {C : OCtx} {n0 : Nat} {Q : Option Value → Heap → Prop} {h : Heap} {i0_ i1_ i2_ i3_ i4_ x0 x1 x2 x3 : Int32} {t o s : Addr} {ko ks : ClassId} {l : List Int32} {N : Nat} {n5 : Nat} {Z : State} {aa : Array Value} (G : OG Z aa) (US : U16S Z) (hn : l.length ≤ 4) (hc : C16 l) (H : UV Z h N t l) (O : OS Z h o s ko ks (fd [] false l).1 (fd [] false l).2) (hg : Good (fd [] false l).1) (hl7 : (fd [] false l).1.length ≤ 7) (fin : ∀ h, Q (some (.int (nar .boolean 1))) h) : oRun C Z n0 i0 EL1 [s, o] Q h 8 30 (mkF C.m 138 #[.val (.int i0_), .val (.int i1_), .val (.int i2_), .val (.int i3_), .val (.int i4_), .val (.int (Int32.ofNat n5)), .val (.int x0), .val (.int x1), .val (.int x2), .val (.int x3), .val (.ref t), .val (.ref o), .val (.ref s), .unset, .unset] []) := by
  obtain ⟨hw, hEL, ⟨cmp, hC, hc0⟩, ⟨fm, hfm, hF⟩⟩ := id G
  obtain ⟨⟨ys, hy, ht, AO⟩, AS⟩ := O
  refine s_aload (pc' := 140) at_138 rfl rfl rfl ?_
  refine s_callS1 (rmcv C.l G n0 US t N l _ hn hc H) (by simp) (hw _ (List.mem_of_getElem? (i := 35) rfl)) (hw _ (List.mem_of_getElem? (i := 36) rfl)) (hw _ (List.mem_of_getElem? (i := 37) rfl)) (hw _ (List.mem_of_getElem? (i := 38) rfl)) (by decide) (o_len pdcv rfl) rfl (pc' := 143) at_140 rfl (Nat.le_of_ble_eq_true rfl) (Nat.le_of_ble_eq_true rfl) (Nat.le_of_ble_eq_true rfl) (Nat.le_of_ble_eq_true rfl) (fun v140 h140 hQ140 => ?_)
  obtain ⟨r140, rfl, E140, V⟩ := hQ140
  dsimp only [oPush]
  replace AO := AO.ext E140
  replace AS := AS.ext E140
  generalize (fd [] false l).1 = w at *
  refine s_astore (pc' := 145) at_143 rfl rfl (o_st rfl (by first | exact One.u | exact One.val rfl | assumption) rfl) ?_
  dsimp only [List.set_cons_succ, List.set_cons_zero]
  refine s_aload (pc' := 147) at_145 rfl rfl rfl ?_
  refine s_callV0 (rmsL C.l G n0 r140 _ w _ V) (by simp) V.exa (hw _ (List.mem_of_getElem? (i := 117) rfl)) (hw _ (List.mem_of_getElem? (i := 43) rfl)) (hw _ (List.mem_of_getElem? (i := 45) rfl)) (hw _ (List.mem_of_getElem? (i := 44) rfl)) (o_nf (hw _ (List.mem_of_getElem? (i := 45) rfl)) rfl) (hw _ (List.mem_of_getElem? (i := 11) rfl)) (hw _ (List.mem_of_getElem? (i := 46) rfl)) (by decide) (o_len pdsL rfl) rfl (pc' := 150) at_147 rfl (Nat.le_of_ble_eq_true rfl) (Nat.le_of_ble_eq_true rfl) (Nat.le_of_ble_eq_true rfl) (Nat.le_of_ble_eq_true rfl) (fun v147 h147 hQ147 => ?_)
  obtain ⟨rfl, rfl⟩ := hQ147
  dsimp only [oPush]
  refine s_aload (pc' := 152) at_150 rfl rfl rfl ?_
  refine s_iconst (x := (0 : Int32)) (pc' := 153) at_152 rfl rfl ?_
  refine s_iaload AS (by decide) (by decide) (v := .int (Int32.ofNat w.length)) rfl (pc' := 154) at_153 rfl ?_
  refine s_icmp (pc' := 157) (pc'' := 159) at_154 rfl (by decide) rfl (fun hc154 => ?_) (fun hc154 => ?_)
  · replace hc154 := b_eq hc154
    refine s_aload (pc' := 161) at_159 rfl rfl rfl ?_
    refine s_iconst (x := (0 : Int32)) (pc' := 162) at_161 rfl rfl ?_
    refine s_iaload AS (by decide) (by decide) (v := .int (Int32.ofNat w.length)) rfl (pc' := 163) at_162 rfl ?_
    refine s_istore (pc' := 165) at_163 rfl (o_st rfl (by first | exact One.u | exact One.val rfl | assumption) rfl) ?_
    dsimp only [List.set_cons_succ, List.set_cons_zero]
    refine s_aload (pc' := 167) at_165 rfl rfl rfl ?_
    refine s_aload (pc' := 169) at_167 rfl rfl rfl ?_
    refine s_iload (pc' := 171) at_169 rfl rfl ?_
    refine s_iconst (x := (0 : Int32)) (pc' := 172) at_171 rfl rfl ?_
    refine s_callS4 (rmsm C.l G n0 r140 o _ _ 0 w ys _ _ (by decide) hl7 hg.1 ht AO V) (by simp) (hw _ (List.mem_of_getElem? (i := 118) rfl)) (hw _ (List.mem_of_getElem? (i := 119) rfl)) (hw _ (List.mem_of_getElem? (i := 3) rfl)) (hw _ (List.mem_of_getElem? (i := 120) rfl)) (by decide) (o_len pdsm rfl) rfl (pc' := 175) at_172 rfl (Nat.le_of_ble_eq_true rfl) (Nat.le_of_ble_eq_true rfl) (Nat.le_of_ble_eq_true rfl) (Nat.le_of_ble_eq_true rfl) (fun v172 h172 hQ172 => ?_)
    obtain ⟨rfl, rfl⟩ := hQ172
    dsimp only [oPush]
    refine s_if (pc' := 178) (pc'' := 261) at_175 rfl (by decide) rfl (fun hc175 => ?_) (fun hc175 => ?_)
    · replace hc175 := b_eq hc175
      exact absurd hc175 (by decide)
    · replace hc175 := b_eqF hc175
      refine s_aload (pc' := 180) at_178 rfl rfl rfl ?_
      refine s_aload (pc' := 182) at_180 rfl rfl rfl ?_
      refine s_iload (pc' := 184) at_182 rfl rfl ?_
      refine s_iconst (x := (1 : Int32)) (pc' := 185) at_184 rfl rfl ?_
      refine s_callS4 (rmsm C.l G n0 r140 o _ _ 1 w ys _ _ (by decide) hl7 hg.1 ht AO V) (by simp) (hw _ (List.mem_of_getElem? (i := 118) rfl)) (hw _ (List.mem_of_getElem? (i := 119) rfl)) (hw _ (List.mem_of_getElem? (i := 3) rfl)) (hw _ (List.mem_of_getElem? (i := 120) rfl)) (by decide) (o_len pdsm rfl) rfl (pc' := 188) at_185 rfl (Nat.le_of_ble_eq_true rfl) (Nat.le_of_ble_eq_true rfl) (Nat.le_of_ble_eq_true rfl) (Nat.le_of_ble_eq_true rfl) (fun v185 h185 hQ185 => ?_)
      obtain ⟨rfl, rfl⟩ := hQ185
      dsimp only [oPush]
      refine s_if (pc' := 191) (pc'' := 261) at_188 rfl (by decide) rfl (fun hc188 => ?_) (fun hc188 => ?_)
      · replace hc188 := b_eq hc188
        exact absurd hc188 (by decide)
      · replace hc188 := b_eqF hc188
        refine s_aload (pc' := 193) at_191 rfl rfl rfl ?_
        refine s_aload (pc' := 195) at_193 rfl rfl rfl ?_
        refine s_iload (pc' := 197) at_195 rfl rfl ?_
        refine s_iconst (x := (2 : Int32)) (pc' := 198) at_197 rfl rfl ?_
        refine s_callS4 (rmsm C.l G n0 r140 o _ _ 2 w ys _ _ (by decide) hl7 hg.1 ht AO V) (by simp) (hw _ (List.mem_of_getElem? (i := 118) rfl)) (hw _ (List.mem_of_getElem? (i := 119) rfl)) (hw _ (List.mem_of_getElem? (i := 3) rfl)) (hw _ (List.mem_of_getElem? (i := 120) rfl)) (by decide) (o_len pdsm rfl) rfl (pc' := 201) at_198 rfl (Nat.le_of_ble_eq_true rfl) (Nat.le_of_ble_eq_true rfl) (Nat.le_of_ble_eq_true rfl) (Nat.le_of_ble_eq_true rfl) (fun v198 h198 hQ198 => ?_)
        obtain ⟨rfl, rfl⟩ := hQ198
        dsimp only [oPush]
        refine s_if (pc' := 204) (pc'' := 261) at_201 rfl (by decide) rfl (fun hc201 => ?_) (fun hc201 => ?_)
        · replace hc201 := b_eq hc201
          exact absurd hc201 (by decide)
        · replace hc201 := b_eqF hc201
          refine s_aload (pc' := 206) at_204 rfl rfl rfl ?_
          refine s_aload (pc' := 208) at_206 rfl rfl rfl ?_
          refine s_iload (pc' := 210) at_208 rfl rfl ?_
          refine s_iconst (x := (3 : Int32)) (pc' := 211) at_210 rfl rfl ?_
          refine s_callS4 (rmsm C.l G n0 r140 o _ _ 3 w ys _ _ (by decide) hl7 hg.1 ht AO V) (by simp) (hw _ (List.mem_of_getElem? (i := 118) rfl)) (hw _ (List.mem_of_getElem? (i := 119) rfl)) (hw _ (List.mem_of_getElem? (i := 3) rfl)) (hw _ (List.mem_of_getElem? (i := 120) rfl)) (by decide) (o_len pdsm rfl) rfl (pc' := 214) at_211 rfl (Nat.le_of_ble_eq_true rfl) (Nat.le_of_ble_eq_true rfl) (Nat.le_of_ble_eq_true rfl) (Nat.le_of_ble_eq_true rfl) (fun v211 h211 hQ211 => ?_)
          obtain ⟨rfl, rfl⟩ := hQ211
          dsimp only [oPush]
          refine s_if (pc' := 217) (pc'' := 261) at_214 rfl (by decide) rfl (fun hc214 => ?_) (fun hc214 => ?_)
          · replace hc214 := b_eq hc214
            exact absurd hc214 (by decide)
          · replace hc214 := b_eqF hc214
            refine s_aload (pc' := 219) at_217 rfl rfl rfl ?_
            refine s_aload (pc' := 221) at_219 rfl rfl rfl ?_
            refine s_iload (pc' := 223) at_221 rfl rfl ?_
            refine s_iconst (x := (4 : Int32)) (pc' := 224) at_223 rfl rfl ?_
            refine s_callS4 (rmsm C.l G n0 r140 o _ _ 4 w ys _ _ (by decide) hl7 hg.1 ht AO V) (by simp) (hw _ (List.mem_of_getElem? (i := 118) rfl)) (hw _ (List.mem_of_getElem? (i := 119) rfl)) (hw _ (List.mem_of_getElem? (i := 3) rfl)) (hw _ (List.mem_of_getElem? (i := 120) rfl)) (by decide) (o_len pdsm rfl) rfl (pc' := 227) at_224 rfl (Nat.le_of_ble_eq_true rfl) (Nat.le_of_ble_eq_true rfl) (Nat.le_of_ble_eq_true rfl) (Nat.le_of_ble_eq_true rfl) (fun v224 h224 hQ224 => ?_)
            obtain ⟨rfl, rfl⟩ := hQ224
            dsimp only [oPush]
            refine s_if (pc' := 230) (pc'' := 261) at_227 rfl (by decide) rfl (fun hc227 => ?_) (fun hc227 => ?_)
            · replace hc227 := b_eq hc227
              exact absurd hc227 (by decide)
            · replace hc227 := b_eqF hc227
              refine s_aload (pc' := 232) at_230 rfl rfl rfl ?_
              refine s_aload (pc' := 234) at_232 rfl rfl rfl ?_
              refine s_iload (pc' := 236) at_234 rfl rfl ?_
              refine s_iconst (x := (5 : Int32)) (pc' := 237) at_236 rfl rfl ?_
              refine s_callS4 (rmsm C.l G n0 r140 o _ _ 5 w ys _ _ (by decide) hl7 hg.1 ht AO V) (by simp) (hw _ (List.mem_of_getElem? (i := 118) rfl)) (hw _ (List.mem_of_getElem? (i := 119) rfl)) (hw _ (List.mem_of_getElem? (i := 3) rfl)) (hw _ (List.mem_of_getElem? (i := 120) rfl)) (by decide) (o_len pdsm rfl) rfl (pc' := 240) at_237 rfl (Nat.le_of_ble_eq_true rfl) (Nat.le_of_ble_eq_true rfl) (Nat.le_of_ble_eq_true rfl) (Nat.le_of_ble_eq_true rfl) (fun v237 h237 hQ237 => ?_)
              obtain ⟨rfl, rfl⟩ := hQ237
              dsimp only [oPush]
              refine s_if (pc' := 243) (pc'' := 261) at_240 rfl (by decide) rfl (fun hc240 => ?_) (fun hc240 => ?_)
              · replace hc240 := b_eq hc240
                exact absurd hc240 (by decide)
              · replace hc240 := b_eqF hc240
                refine s_aload (pc' := 245) at_243 rfl rfl rfl ?_
                refine s_aload (pc' := 247) at_245 rfl rfl rfl ?_
                refine s_iload (pc' := 249) at_247 rfl rfl ?_
                refine s_bipush (x := (6 : Int32)) (pc' := 251) at_249 rfl rfl ?_
                refine s_callS4 (rmsm C.l G n0 r140 o _ _ 6 w ys _ _ (by decide) hl7 hg.1 ht AO V) (by simp) (hw _ (List.mem_of_getElem? (i := 118) rfl)) (hw _ (List.mem_of_getElem? (i := 119) rfl)) (hw _ (List.mem_of_getElem? (i := 3) rfl)) (hw _ (List.mem_of_getElem? (i := 120) rfl)) (by decide) (o_len pdsm rfl) rfl (pc' := 254) at_251 rfl (Nat.le_of_ble_eq_true rfl) (Nat.le_of_ble_eq_true rfl) (Nat.le_of_ble_eq_true rfl) (Nat.le_of_ble_eq_true rfl) (fun v251 h251 hQ251 => ?_)
                obtain ⟨rfl, rfl⟩ := hQ251
                dsimp only [oPush]
                refine s_if (pc' := 257) (pc'' := 261) at_254 rfl (by decide) rfl (fun hc254 => ?_) (fun hc254 => ?_)
                · replace hc254 := b_eq hc254
                  exact absurd hc254 (by decide)
                · replace hc254 := b_eqF hc254
                  refine s_iconst (x := (1 : Int32)) (pc' := 258) at_257 rfl rfl ?_
                  refine s_goto (pc' := 262) at_258 (by decide) rfl ?_
                  exact s_nret (t := .boolean) rfl (by simp) at_262 (Nat.le_of_ble_eq_true rfl) (Nat.le_of_ble_eq_true rfl) (fin _)
  · replace hc154 := b_eqF hc154
    exact absurd rfl hc154
set_option maxRecDepth 65536 in
set_option maxHeartbeats 4000000 in
theorem rm0 (l : Launch) {Z : State} {a0 : Array Value} (G : OG Z a0) (n0 : Nat) (US : U16S Z) (i0_ i1_ i2_ i3_ i4_ : Int32) (h0 : Heap) : oCon l Z n0 EL1 [] x i0 #[.int i0_, .int i1_, .int i2_, .int i3_, .int i4_] h0 (fun v h => v = some (.int 1)) := by
  obtain ⟨hw, hEL, ⟨cmp, hC, hc0⟩, ⟨fm, hfm, hF⟩⟩ := id G
  refine oCon.mk hEL (plainFor_of_name pn0) rfl rfl (ef0 i0_ i1_ i2_ i3_ i4_) fun C hCl => ?_
  refine s_iloadN (pc' := 1) at_0 rfl rfl ?_
  refine s_ldcI (x := (2147483647 : Int32)) (hw _ (List.mem_of_getElem? (i := 0) rfl)) (pc' := 3) at_1 rfl ?_
  refine s_iand (pc' := 4) at_3 rfl ?_
  refine s_iconst (x := (5 : Int32)) (pc' := 5) at_4 rfl rfl ?_
  refine s_irem (pc' := 6) at_5 rfl (by decide) ?_
  obtain ⟨m, hm, em⟩ := five i0_
  rw [em]
  refine s_istore (pc' := 8) at_6 rfl (o_st rfl (by first | exact One.u | exact One.val rfl | assumption) rfl) ?_
  dsimp only [List.set_cons_succ, List.set_cons_zero]
  refine s_iloadN (pc' := 9) at_8 rfl rfl ?_
  refine s_callS1 (rmdw C.l G n0 _ _) (by simp) (hw _ (List.mem_of_getElem? (i := 1) rfl)) (hw _ (List.mem_of_getElem? (i := 2) rfl)) (hw _ (List.mem_of_getElem? (i := 3) rfl)) (hw _ (List.mem_of_getElem? (i := 4) rfl)) (by decide) (o_len pddw rfl) rfl (pc' := 12) at_9 rfl (Nat.le_of_ble_eq_true rfl) (Nat.le_of_ble_eq_true rfl) (Nat.le_of_ble_eq_true rfl) (Nat.le_of_ble_eq_true rfl) (fun v9 h9 hQ9 => ?_)
  obtain ⟨y9, rfl, rfl, q9⟩ := hQ9
  dsimp only [oPush]
  refine s_istore (pc' := 14) at_12 rfl (o_st rfl (by first | exact One.u | exact One.val rfl | assumption) rfl) ?_
  dsimp only [List.set_cons_succ, List.set_cons_zero]
  refine s_iloadN (pc' := 15) at_14 rfl rfl ?_
  refine s_callS1 (rmdw C.l G n0 _ _) (by simp) (hw _ (List.mem_of_getElem? (i := 1) rfl)) (hw _ (List.mem_of_getElem? (i := 2) rfl)) (hw _ (List.mem_of_getElem? (i := 3) rfl)) (hw _ (List.mem_of_getElem? (i := 4) rfl)) (by decide) (o_len pddw rfl) rfl (pc' := 18) at_15 rfl (Nat.le_of_ble_eq_true rfl) (Nat.le_of_ble_eq_true rfl) (Nat.le_of_ble_eq_true rfl) (Nat.le_of_ble_eq_true rfl) (fun v15 h15 hQ15 => ?_)
  obtain ⟨y15, rfl, rfl, q15⟩ := hQ15
  dsimp only [oPush]
  refine s_istore (pc' := 20) at_18 rfl (o_st rfl (by first | exact One.u | exact One.val rfl | assumption) rfl) ?_
  dsimp only [List.set_cons_succ, List.set_cons_zero]
  refine s_iloadN (pc' := 21) at_20 rfl rfl ?_
  refine s_callS1 (rmdw C.l G n0 _ _) (by simp) (hw _ (List.mem_of_getElem? (i := 1) rfl)) (hw _ (List.mem_of_getElem? (i := 2) rfl)) (hw _ (List.mem_of_getElem? (i := 3) rfl)) (hw _ (List.mem_of_getElem? (i := 4) rfl)) (by decide) (o_len pddw rfl) rfl (pc' := 24) at_21 rfl (Nat.le_of_ble_eq_true rfl) (Nat.le_of_ble_eq_true rfl) (Nat.le_of_ble_eq_true rfl) (Nat.le_of_ble_eq_true rfl) (fun v21 h21 hQ21 => ?_)
  obtain ⟨y21, rfl, rfl, q21⟩ := hQ21
  dsimp only [oPush]
  refine s_istore (pc' := 26) at_24 rfl (o_st rfl (by first | exact One.u | exact One.val rfl | assumption) rfl) ?_
  dsimp only [List.set_cons_succ, List.set_cons_zero]
  refine s_iload (pc' := 28) at_26 rfl rfl ?_
  refine s_callS1 (rmdw C.l G n0 _ _) (by simp) (hw _ (List.mem_of_getElem? (i := 1) rfl)) (hw _ (List.mem_of_getElem? (i := 2) rfl)) (hw _ (List.mem_of_getElem? (i := 3) rfl)) (hw _ (List.mem_of_getElem? (i := 4) rfl)) (by decide) (o_len pddw rfl) rfl (pc' := 31) at_28 rfl (Nat.le_of_ble_eq_true rfl) (Nat.le_of_ble_eq_true rfl) (Nat.le_of_ble_eq_true rfl) (Nat.le_of_ble_eq_true rfl) (fun v28 h28 hQ28 => ?_)
  obtain ⟨y28, rfl, rfl, q28⟩ := hQ28
  dsimp only [oPush]
  refine s_istore (pc' := 33) at_31 rfl (o_st rfl (by first | exact One.u | exact One.val rfl | assumption) rfl) ?_
  dsimp only [List.set_cons_succ, List.set_cons_zero]
  refine s_iload (pc' := 35) at_33 rfl rfl ?_
  refine s_iload (pc' := 37) at_35 rfl rfl ?_
  refine s_iload (pc' := 39) at_37 rfl rfl ?_
  refine s_iload (pc' := 41) at_39 rfl rfl ?_
  refine s_iload (pc' := 43) at_41 rfl rfl ?_
  refine s_callS5 (rmmk C.l G n0 US m hm y9 y15 y21 y28 q9 q15 q21 q28 _) (by simp) (hw _ (List.mem_of_getElem? (i := 6) rfl)) (hw _ (List.mem_of_getElem? (i := 7) rfl)) (hw _ (List.mem_of_getElem? (i := 3) rfl)) (hw _ (List.mem_of_getElem? (i := 8) rfl)) (by decide) (o_len pdmk rfl) rfl (pc' := 46) at_43 rfl (Nat.le_of_ble_eq_true rfl) (Nat.le_of_ble_eq_true rfl) (Nat.le_of_ble_eq_true rfl) (Nat.le_of_ble_eq_true rfl) (fun v43 h43 hQ43 => ?_)
  obtain ⟨r43, rfl, E43, H43⟩ := hQ43
  dsimp only [oPush]
  refine s_astore (pc' := 48) at_46 rfl rfl (o_st rfl (by first | exact One.u | exact One.val rfl | assumption) rfl) ?_
  dsimp only [List.set_cons_succ, List.set_cons_zero]
  refine s_bipush (x := (7 : Int32)) (pc' := 50) at_48 rfl rfl ?_
  refine s_newA 7 (hw _ (List.mem_of_getElem? (i := 12) rfl)) (pc' := 52) at_50 rfl (by decide) (by decide) (by decide) (Nat.le_of_ble_eq_true rfl) (Nat.le_of_ble_eq_true rfl) (fun h50 b50 k50 g50 nb50 E50 A50 => ?_)
  refine s_astore (pc' := 54) at_52 rfl rfl (o_st rfl (by first | exact One.u | exact One.val rfl | assumption) rfl) ?_
  dsimp only [List.set_cons_succ, List.set_cons_zero]
  refine s_iconst (x := (3 : Int32)) (pc' := 55) at_54 rfl rfl ?_
  refine s_newA 3 (hw _ (List.mem_of_getElem? (i := 31) rfl)) (pc' := 57) at_55 rfl (by decide) (by decide) (by decide) (Nat.le_of_ble_eq_true rfl) (Nat.le_of_ble_eq_true rfl) (fun h55 b55 k55 g55 nb55 E55 A55 => ?_)
  have hos : b50 ≠ b55 := o_fresh A50.lt g55
  have AO := o_padTo (A50.ext E55) 7
  have AS := o_padTo A55 3
  have H55 := (H43.ext E50).ext E55
  refine s_astore (pc' := 59) at_57 rfl rfl (o_st rfl (by first | exact One.u | exact One.val rfl | assumption) rfl) ?_
  dsimp only [List.set_cons_succ, List.set_cons_zero]
  refine s_more (cs' := 8) (sl' := 30) (Nat.le_of_ble_eq_true rfl) (Nat.le_of_ble_eq_true rfl) ?_
  have O : OS Z h55 b50 b55 k50 k55 [] false := ⟨⟨_, by simp, by simp, AO⟩, AS⟩
  rcases (show m = 0 ∨ m = 1 ∨ m = 2 ∨ m = 3 ∨ m = 4 by omega) with rfl | rfl | rfl | rfl | rfl
  · have hc : C16 ([] : List Int32) := (by intro z hz; simp at hz)
    exact sg59_0 G  nb50 nb55 hos O fun h6 K6 O6 => sg138 G US (l := ([] : List Int32)) (Nat.le_of_ble_eq_true rfl) hc (H55.keep K6 (allS (Nat.le_of_eq g50.symm) (allS (Nat.le_trans E50.1 (Nat.le_of_eq g55.symm)) all0))) O6 (fd_good _ _ _ hc good_nil) (Nat.le_trans (fd_len ([] : List Int32) [] false 0 (Nat.le_refl _)) (Nat.le_of_ble_eq_true rfl)) (fun _ => rfl)
  · have hc : C16 [y9] := (by intro z hz; simp at hz; subst hz; exact q9)
    exact sg59_1 G q9 nb50 nb55 hos O fun h6 K6 O6 => sg138 G US (l := [y9]) (Nat.le_of_ble_eq_true rfl) hc (H55.keep K6 (allS (Nat.le_of_eq g50.symm) (allS (Nat.le_trans E50.1 (Nat.le_of_eq g55.symm)) all0))) O6 (fd_good _ _ _ hc good_nil) (Nat.le_trans (fd_len [y9] [] false 0 (Nat.le_refl _)) (Nat.le_of_ble_eq_true rfl)) (fun _ => rfl)
  · have hc : C16 [y9, y15] := (by intro z hz; simp at hz; rcases hz with rfl | rfl; exact q9; exact q15)
    exact sg59_2 G q9 q15 nb50 nb55 hos O fun h6 K6 O6 => sg138 G US (l := [y9, y15]) (Nat.le_of_ble_eq_true rfl) hc (H55.keep K6 (allS (Nat.le_of_eq g50.symm) (allS (Nat.le_trans E50.1 (Nat.le_of_eq g55.symm)) all0))) O6 (fd_good _ _ _ hc good_nil) (Nat.le_trans (fd_len [y9, y15] [] false 0 (Nat.le_refl _)) (Nat.le_of_ble_eq_true rfl)) (fun _ => rfl)
  · have hc : C16 [y9, y15, y21] := (by intro z hz; simp at hz; rcases hz with rfl | rfl | rfl; exact q9; exact q15; exact q21)
    exact sg59_3 G q9 q15 q21 nb50 nb55 hos O fun h6 K6 O6 => sg138 G US (l := [y9, y15, y21]) (Nat.le_of_ble_eq_true rfl) hc (H55.keep K6 (allS (Nat.le_of_eq g50.symm) (allS (Nat.le_trans E50.1 (Nat.le_of_eq g55.symm)) all0))) O6 (fd_good _ _ _ hc good_nil) (Nat.le_trans (fd_len [y9, y15, y21] [] false 0 (Nat.le_refl _)) (Nat.le_of_ble_eq_true rfl)) (fun _ => rfl)
  · have hc : C16 [y9, y15, y21, y28] := (by intro z hz; simp at hz; rcases hz with rfl | rfl | rfl | rfl; exact q9; exact q15; exact q21; exact q28)
    exact sg59_4 G q9 q15 q21 q28 nb50 nb55 hos O fun h6 K6 O6 => sg138 G US (l := [y9, y15, y21, y28]) (Nat.le_of_ble_eq_true rfl) hc (H55.keep K6 (allS (Nat.le_of_eq g50.symm) (allS (Nat.le_trans E50.1 (Nat.le_of_eq g55.symm)) all0))) O6 (fd_good _ _ _ hc good_nil) (Nat.le_trans (fd_len [y9, y15, y21, y28] [] false 0 (Nat.le_refl _)) (Nat.le_of_ble_eq_true rfl)) (fun _ => rfl)
set_option maxRecDepth 65536 in
set_option maxHeartbeats 4000000 in
theorem comes_1 {Post : Tables → Env → Array Value → State → Outcome → State → Prop} (hpost : ∀ tb e args s v u, (limb_1_1.after args s (.returned v) u = true ∧ limb_1_2.after args s (.returned v) u = true ∧ True) → ReturnedEndW s (.returned v) u (Jvm.fieldLocs frame_1_writes args s ++ Jvm.arrayLocs frame_1_arrays args s ++ Jvm.staticLocs frame_1_statics s) 32 1216 → Post tb e args s (.returned v) u) :
    ArmFor flags0 classFile x code maxLocals ret World_1 tables_1 room_1 Calls_1 rest_1 Pre_1 Post := by
  intro l hfl _ _ p e ha hc hk s m args below hf hA hF happ hP
  obtain ⟨hcalls, hrest, hpre⟩ := hP
  obtain ⟨-, -, -, hnamed, -, -, -, hat⟩ := (Spec.applies_iff hf).mp happ
  obtain ⟨hg, hn⟩ := and_e (Cond.before_iff.mp (show (Jvm.Cond.and given_1 narrow_1).before args s = true from hpre))
  obtain ⟨hcount, hr0⟩ := and_e hg
  obtain ⟨ha0, hr1⟩ := and_e hr0
  obtain ⟨ha1, hr2⟩ := and_e hr1
  obtain ⟨ha2, hr3⟩ := and_e hr2
  obtain ⟨ha3, hr4⟩ := and_e hr3
  have ha4 := hr4
  obtain ⟨w0, w1, w2, w3, w4, rfl⟩ : ∃ w0 w1 w2 w3 w4 : Value, args = #[w0, w1, w2, w3, w4] := by
    have hs : args.size = 5 := by simpa [Cond.value, given_1] using hcount
    obtain ⟨L⟩ := args
    match L, hs with
    | [w0, w1, w2, w3, w4], _ => exact ⟨w0, w1, w2, w3, w4, rfl⟩
  have hw := fun d (hd : d ∈ tables_1) => atoms_spec (ws := Jvm.Cond.code x code maxLocals ret :: tables_1) hat d (List.mem_cons_of_mem _ hd)
  obtain ⟨hsets, hown0⟩ := atoms_of _ (rest_1_c_eq ▸ (show rest_1_c.before _ s = true from hrest))
  have hfit : Fit s := fun {y c} hc i hi => by
    obtain ⟨ha, rfl⟩ := Array.getElem?_eq_some_iff.mp hc
    have q := List.all_eq_true.mp ((Array.all_eq_true_iff_forall_mem.mp hF) _ (Array.getElem_mem ha)) i (List.mem_range.mpr hi)
    simpa [Array.getElem?_eq_getElem hi] using q
  obtain ⟨i0, e0⟩ := is_v ha0
  obtain rfl : w0 = (.int i0) := Option.some.inj e0
  obtain ⟨i1, e1⟩ := is_v ha1
  obtain rfl : w1 = (.int i1) := Option.some.inj e1
  obtain ⟨i2, e2⟩ := is_v ha2
  obtain rfl : w2 = (.int i2) := Option.some.inj e2
  obtain ⟨i3, e3⟩ := is_v ha3
  obtain rfl : w3 = (.int i3) := Option.some.inj e3
  obtain ⟨i4, e4⟩ := is_v ha4
  obtain rfl : w4 = (.int i4) := Option.some.inj e4
  have n2 := not_v (Cond.before_iff.mp (hsets _ (List.mem_of_getElem? (i := 2) rfl)))
  obtain ⟨cmp, ec⟩ := is_v (Cond.before_iff.mp (hsets _ (List.mem_of_getElem? (i := 1) rfl)))
  have hC : Sta s s.heap "java/lang/String" "COMPACT_STRINGS" "Z" (.int cmp) := Sta.start ec (Or.inl (hsets _ (List.mem_of_getElem? (i := 0) rfl)))
  have hc0 : ¬ cmp = 0 := gotF (Cond.eq_ints ec (Term.int_eval 0)) n2
  obtain ⟨fm, ef, hfm⟩ := isR_v (Cond.before_iff.mp (hsets _ (List.mem_of_getElem? (i := 8) rfl)))
  have hF : Sta s s.heap "jdk/internal/util/Preconditions" "SIOOBE_FORMATTER" "Ljava/util/function/BiFunction;" fm := Sta.start ef (Or.inl (hsets _ (List.mem_of_getElem? (i := 7) rfl)))
  have hEL : EW s #[.int i0, .int i1, .int i2, .int i3, .int i4] EL1 := (EW.cons (hw _ (List.mem_of_getElem? (i := 23) rfl)) (by decide) EW.nil)
  have G : OG s _ := ⟨hw, hEL, ⟨cmp, hC, hc0⟩, ⟨fm, hfm, hF⟩⟩
  have hCH : CHv s EL1 s.vm s.heap := CHv.start hEL (fun p hp => hcalls.1 p hp) (hsets _ (List.mem_of_getElem? (i := 2) rfl)) (hw _ (List.mem_of_getElem? (i := 24) rfl)) (hw _ (List.mem_of_getElem? (i := 10) rfl))
  have hAs : Sta s s.heap "java/lang/StringUTF16" "$assertionsDisabled" "Z" (.int 1) := Sta.start (eqv_i (Term.int_eval 1) (Cond.before_iff.mp (hsets _ (List.mem_of_getElem? (i := 12) rfl)))) (Or.inl (hsets _ (List.mem_of_getElem? (i := 11) rfl)))
  have hHi : Sta s s.heap "java/lang/StringUTF16" "HI_BYTE_SHIFT" "I" (.int 0) := Sta.start (eqv_i (Term.int_eval 0) (Cond.before_iff.mp (hsets _ (List.mem_of_getElem? (i := 15) rfl)))) (Or.inl (hsets _ (List.mem_of_getElem? (i := 14) rfl)))
  have hLo : Sta s s.heap "java/lang/StringUTF16" "LO_BYTE_SHIFT" "I" (.int 8) := Sta.start (eqv_i (Term.int_eval 8) (Cond.before_iff.mp (hsets _ (List.mem_of_getElem? (i := 18) rfl)))) (Or.inl (hsets _ (List.mem_of_getElem? (i := 17) rfl)))
  obtain ⟨n, o, q1, q2, q3, _, L, rfl, ⟨N, -, rfl⟩, -, hq⟩ := (rm0 l G s.heap.size ⟨hAs, hHi, hLo⟩ i0 i1 i2 i3 i4 s.heap) (Old.start s) tables_1 p e ha hc hk s m _ below hf ((Spec.applies_iff_loose hf).mp happ).1 ⟨rfl, State.Warmed39.refl s, rfl, hCH, by simp⟩ trivial
  refine ⟨n, _, q1, q2, q3, hpost _ _ _ _ _ _ ⟨Cond.after_iff.mpr rfl, Cond.after_iff.mpr (eq_i res_at (Term.int_eval (1)) rfl), trivial⟩ ⟨hq.1, hq.2.1, hq.2.2.1, (hq.2.2.2.sift fun y hy => Or.inr (N y hy)).mono (by decide) (by decide)⟩⟩
theorem main_1_1 : Claimed_1_1 := comes_1 fun _ _ _ _ _ _ h hF => ⟨h.1, hF⟩
theorem main_1_2 : Claimed_1_2 := comes_1 fun _ _ _ _ _ _ h hF => ⟨h.2.1, hF⟩
end Jvm.Pilot.@@N@@
namespace Jvm.Pilot.@@N@@
open Jvm Jvm.ClassFile Sem Op Lib Jvm.Free Jvm.Stand Jvm.Pilot.@@N@@.Jvm.D
/-! MADE BY PROGRAM (witnessworld.py) out of the Statement's table words and the real class files: 26 classes; the members and pool entries that the words name. The judged class is class 1, her method 1. -/
namespace start1
open Jvm.ClassFile
def u (s : String) : CpInfo := .utf8 (stringToUtf16 s)
/-- a pool by its gaps: so many unusable entries, then the entry; so many at the end -/
def gap : Nat → List CpInfo → List CpInfo
  | 0, r => r
  | n + 1, r => .unusable :: gap n r
def poolList (es : List (Nat × CpInfo)) (last : Nat) : List CpInfo := es.foldr (fun e r => gap e.1 (e.2 :: r)) (gap last [])
def pool (es : List (Nat × CpInfo)) (last : Nat) : Array CpInfo := ⟨poolList es last⟩
def fileOf (pool : Array CpInfo) (this : Nat) (attrs : Array Attribute := #[]) (ms : Array MethodInfo := #[]) (fl : Nat := 33) (sup : Nat := 0) (ifs : Array Nat := #[]) (fds : Array FieldInfo := #[]) : ClassFile where
  minorVersion := 0
  majorVersion := 65
  constantPool := pool
  accessFlags := fl
  thisClass := this
  superClass := sup
  interfaces := ifs
  fields := fds
  methods := ms
  attributes := attrs
def plain (name : String) (sup : Option ClassId) : Class where
  name := name
  kind := .ordinary
  loader := none
  accessFlags := 33
  super := sup
  interfaces := #[]
  cf := none
  fields := #[]
  methods := #[]
  instanceTypes := #[]
  staticTypes := #[]
  resolved := #[]
  callSites := []
  init := .initialized
  statics := none
  mirror := none

def pool0 : Array CpInfo := pool [(5, u "<init>"), (0, u "()V"), (1, .class_ 10), (1, u "java/lang/Object"), (85, u "clone"), (0, u "()Ljava/lang/Object;")] 26

def k0c0 : Code := { maxStack := 0, maxLocals := 1, code := object_method_1_code, exceptionTable := #[], attributes := #[] }
def k0m0 : Method := { name := "<init>", desc := "()V", sig := { parameters := [], returnType := none }, accessFlags := 1, code := some k0c0 }
def k0m1 : Method := { name := "clone", desc := "()Ljava/lang/Object;", sig := { parameters := [], returnType := some (.object "java/lang/Object") }, accessFlags := 260, code := none }
/-- java/lang/Object -/
def k0 : Class := { plain "java/lang/Object" none with
  accessFlags := 33
  interfaces := #[]
  cf := some (fileOf pool0 8 #[] #[{ accessFlags := 1, nameIndex := 5, descriptorIndex := 6, attributes := #[] }, { accessFlags := 260, nameIndex := 96, descriptorIndex := 97, attributes := #[] }] 33 0 #[] #[])
  fields := #[]
  methods := #[k0m0, k0m1]
  instanceTypes := #[]
  staticTypes := #[]
  resolved := Array.replicate 124 none
  statics := none }

def pool1 : Array CpInfo := pool [(2, .class_ 4), (1, u "java/lang/Object"), (0, u "<init>"), (0, u "()V"), (0, .integer 2147483647), (0, .methodref 9 10), (0, .class_ 11), (0, .nameAndType 12 13), (0, u "com/example/typeloom/typeloom/ttcn/IdentifiersConvertPinLaw"), (0, u "draw"), (0, u "(I)C"), (0, .methodref 9 15), (0, .nameAndType 16 17), (0, u "make"), (0, u "(ICCCC)Ljava/lang/String;"), (0, .methodref 9 19), (0, .nameAndType 20 21), (0, u "step"), (0, u "([C[ICZ)V"), (0, .methodref 23 24), (0, .class_ 25), (0, .nameAndType 26 27), (0, u "com/example/typeloom/typeloom/ttcn/Identifiers"), (0, u "convert"), (0, u "(Ljava/lang/String;)Ljava/lang/String;"), (0, .methodref 29 30), (0, .class_ 31), (0, .nameAndType 32 33), (0, u "java/lang/String"), (0, u "length"), (0, u "()I"), (0, .methodref 9 35), (0, .nameAndType 36 37), (0, u "same"), (0, u "(Ljava/lang/String;[CII)Z"), (0, .integer 65536), (0, .integer 65535), (0, .methodref 29 41), (0, .nameAndType 5 42), (0, u "([C)V"), (0, .methodref 29 44), (0, .nameAndType 45 46), (0, u "valueOf"), (0, u "(C)Ljava/lang/String;"), (0, .methodref 9 48), (0, .nameAndType 49 50), (0, u "alnum"), (0, u "(C)Z"), (0, .methodref 29 52), (0, .nameAndType 53 13), (0, u "charAt"), (2, u "law"), (0, u "(IIIII)Z")] 7

def k1m0 : Method := { name := "<init>", desc := "()V", sig := { parameters := [], returnType := none }, accessFlags := 1, code := none }
def k1c1 : Code := { maxStack := 5, maxLocals := 15, code := code, exceptionTable := #[], attributes := #[] }
def k1m1 : Method := { name := "law", desc := "(IIIII)Z", sig := { parameters := [.int, .int, .int, .int, .int], returnType := some .boolean }, accessFlags := 9, code := some k1c1 }
def k1c2 : Code := { maxStack := 2, maxLocals := 1, code := method_3_code, exceptionTable := #[], attributes := #[] }
def k1m2 : Method := { name := "draw", desc := "(I)C", sig := { parameters := [.int], returnType := some .char }, accessFlags := 10, code := some k1c2 }
def k1c3 : Code := { maxStack := 6, maxLocals := 5, code := method_4_code, exceptionTable := #[], attributes := #[] }
def k1m3 : Method := { name := "make", desc := "(ICCCC)Ljava/lang/String;", sig := { parameters := [.int, .char, .char, .char, .char], returnType := some (.object "java/lang/String") }, accessFlags := 10, code := some k1c3 }
def k1c4 : Code := { maxStack := 2, maxLocals := 1, code := method_5_code, exceptionTable := #[], attributes := #[] }
def k1m4 : Method := { name := "alnum", desc := "(C)Z", sig := { parameters := [.char], returnType := some .boolean }, accessFlags := 10, code := some k1c4 }
def k1c5 : Code := { maxStack := 4, maxLocals := 4, code := method_6_code, exceptionTable := #[], attributes := #[] }
def k1m5 : Method := { name := "step", desc := "([C[ICZ)V", sig := { parameters := [(.array .char), (.array .int), .char, .boolean], returnType := none }, accessFlags := 10, code := some k1c5 }
def k1c6 : Code := { maxStack := 3, maxLocals := 4, code := method_7_code, exceptionTable := #[], attributes := #[] }
def k1m6 : Method := { name := "same", desc := "(Ljava/lang/String;[CII)Z", sig := { parameters := [(.object "java/lang/String"), (.array .char), .int, .int], returnType := some .boolean }, accessFlags := 10, code := some k1c6 }
/-- com/example/typeloom/typeloom/ttcn/IdentifiersConvertPinLaw -/
def k1 : Class := { plain "com/example/typeloom/typeloom/ttcn/IdentifiersConvertPinLaw" (some 0) with
  accessFlags := 49
  interfaces := #[]
  cf := some (fileOf pool1 9 #[] #[{ accessFlags := 1, nameIndex := 5, descriptorIndex := 6, attributes := #[] }, { accessFlags := 9, nameIndex := 56, descriptorIndex := 57, attributes := #[] }, { accessFlags := 10, nameIndex := 12, descriptorIndex := 13, attributes := #[] }, { accessFlags := 10, nameIndex := 16, descriptorIndex := 17, attributes := #[] }, { accessFlags := 10, nameIndex := 49, descriptorIndex := 50, attributes := #[] }, { accessFlags := 10, nameIndex := 20, descriptorIndex := 21, attributes := #[] }, { accessFlags := 10, nameIndex := 36, descriptorIndex := 37, attributes := #[] }] 49 2 #[] #[])
  fields := #[]
  methods := #[k1m0, k1m1, k1m2, k1m3, k1m4, k1m5, k1m6]
  instanceTypes := #[]
  staticTypes := #[]
  resolved := Array.replicate 65 none
  statics := none }

def pool2 : Array CpInfo := pool [(1, .class_ 2), (0, u "java/io/Serializable"), (0, .class_ 4), (0, u "java/lang/Object")] 2

/-- java/io/Serializable -/
def k2 : Class := { plain "java/io/Serializable" (some 0) with
  accessFlags := 1537
  interfaces := #[]
  cf := some (fileOf pool2 1 #[] #[] 1537 3 #[] #[])
  fields := #[]
  methods := #[]
  instanceTypes := #[]
  staticTypes := #[]
  resolved := Array.replicate 7 none
  statics := none }

def pool3 : Array CpInfo := pool [(1, .class_ 2), (0, u "java/lang/Comparable"), (0, .class_ 4), (0, u "java/lang/Object")] 7

/-- java/lang/Comparable -/
def k3 : Class := { plain "java/lang/Comparable" (some 0) with
  accessFlags := 1537
  interfaces := #[]
  cf := some (fileOf pool3 1 #[] #[] 1537 3 #[] #[])
  fields := #[]
  methods := #[]
  instanceTypes := #[]
  staticTypes := #[]
  resolved := Array.replicate 12 none
  statics := none }

def pool4 : Array CpInfo := pool [(2, .class_ 4), (1, u "java/lang/CharSequence"), (42, .class_ 48), (0, u "java/lang/CharSequence$1CodePointIterator"), (10, .class_ 60), (0, u "java/lang/CharSequence$1CharIterator"), (5, .class_ 67), (0, u "java/lang/Object")] 63

/-- java/lang/CharSequence -/
def k4 : Class := { plain "java/lang/CharSequence" (some 0) with
  accessFlags := 1537
  interfaces := #[]
  cf := some (fileOf pool4 2 #[.nestMembers #[47, 59]] #[] 1537 66 #[] #[])
  fields := #[]
  methods := #[]
  instanceTypes := #[]
  staticTypes := #[]
  resolved := Array.replicate 131 none
  statics := none }

def pool5 : Array CpInfo := pool [(1, .class_ 2), (0, u "java/lang/constant/Constable"), (0, .class_ 4), (0, u "java/lang/Object")] 6

/-- java/lang/constant/Constable -/
def k5 : Class := { plain "java/lang/constant/Constable" (some 0) with
  accessFlags := 1537
  interfaces := #[]
  cf := some (fileOf pool5 1 #[] #[] 1537 3 #[] #[])
  fields := #[]
  methods := #[]
  instanceTypes := #[]
  staticTypes := #[]
  resolved := Array.replicate 11 none
  statics := none }

def pool6 : Array CpInfo := pool [(1, .class_ 2), (0, u "java/lang/constant/ConstantDesc"), (0, .class_ 4), (0, u "java/lang/Object")] 32

/-- java/lang/constant/ConstantDesc -/
def k6 : Class := { plain "java/lang/constant/ConstantDesc" (some 0) with
  accessFlags := 1537
  interfaces := #[]
  cf := some (fileOf pool6 1 #[] #[] 1537 3 #[] #[])
  fields := #[]
  methods := #[]
  instanceTypes := #[]
  staticTypes := #[]
  resolved := Array.replicate 37 none
  statics := none }

def pool7 : Array CpInfo := pool [(1, .methodref 2 3), (0, .class_ 4), (0, .nameAndType 5 6), (0, u "java/lang/Object"), (0, u "<init>"), (0, u "()V"), (0, .string 8), (0, u ""), (0, .fieldref 10 11), (0, .class_ 12), (0, .nameAndType 13 14), (0, u "java/lang/String"), (0, u "value"), (0, u "[B"), (0, .fieldref 10 16), (0, .nameAndType 17 18), (0, u "coder"), (0, u "B"), (2, u "hash"), (0, u "I"), (2, u "hashIsZero"), (0, u "Z"), (0, .methodref 10 28), (0, .nameAndType 5 29), (0, u "([CIILjava/lang/Void;)V"), (8, .fieldref 10 39), (0, .nameAndType 40 26), (0, u "COMPACT_STRINGS"), (1, .class_ 44), (1, u "java/lang/StringUTF16"), (0, u "compress"), (1, .methodref 42 48), (0, .nameAndType 49 50), (0, u "coderFromArrayLen"), (0, u "([BI)B"), (2, u "toBytes"), (0, .methodref 55 56), (0, .class_ 57), (0, .nameAndType 58 59), (0, u "java/util/Arrays"), (0, u "copyOfRange"), (0, u "([BII)[B"), (47, .class_ 109), (1, u "java/lang/StringLatin1"), (32, u "()Z"), (34, .methodref 42 178), (0, .nameAndType 45 179), (0, u "([CII)[B"), (29, .methodref 10 210), (0, .nameAndType 5 211), (0, u "([BB)V"), (122, u "()I"), (0, .methodref 10 336), (0, .nameAndType 17 337), (0, u "()B"), (2, u "()[B"), (22, u "([BI)C"), (5, u "(C)Z"), (21, u "(II)V"), (35, u "(I)C"), (61, .methodref 10 490), (0, .nameAndType 5 491), (0, u "(Ljava/lang/AbstractStringBuilder;Ljava/lang/Void;)V"), (0, .methodref 10 493), (0, .nameAndType 494 142), (0, u "isLatin1"), (0, .methodref 107 496), (0, .nameAndType 497 363), (0, u "charAt"), (0, .methodref 42 496), (2, u "checkIndex"), (4, .nameAndType 507 334), (0, u "length"), (41, .methodref 550 506), (0, .class_ 551), (0, u "java/lang/AbstractStringBuilder"), (0, .methodref 550 553), (0, .nameAndType 554 340), (0, u "getValue"), (20, .class_ 576), (0, u "java/lang/CharSequence"), (22, u "CASE_INSENSITIVE_ORDER"), (0, u "Ljava/util/Comparator;"), (181, u "valueOf"), (0, u "(C)Ljava/lang/String;"), (226, u "([C)V"), (4, .methodref 107 1016), (0, .nameAndType 1017 369), (0, u "canEncode"), (0, .methodref 107 1019), (0, .nameAndType 53 1020), (0, u "(C)[B"), (0, .methodref 42 1019), (25, .methodref 550 493), (5, .fieldref 1054 1055), (0, .class_ 1056), (0, .nameAndType 1057 1058), (0, u "jdk/internal/util/Preconditions"), (0, u "SIOOBE_FORMATTER"), (0, u "Ljava/util/function/BiFunction;"), (0, .methodref 1054 1060), (0, .nameAndType 501 1061), (0, u "(IILjava/util/function/BiFunction;)I"), (39, u "serialPersistentFields"), (0, u "[Ljava/io/ObjectStreamField;"), (0, .class_ 1104), (0, u "java/lang/String$CaseInsensitiveComparator"), (1, .class_ 1107), (0, u "java/io/Serializable"), (0, .class_ 1109), (0, u "java/lang/Comparable"), (0, .class_ 1111), (0, u "java/lang/constant/Constable"), (0, .class_ 1113), (0, u "java/lang/constant/ConstantDesc"), (2, u "serialVersionUID"), (0, u "J"), (3, u "REPL"), (0, u "C"), (2, u "LATIN1"), (1, u "UTF16"), (105, u "(Ljava/lang/StringBuilder;)V")] 217

def k7m0 : Method := { name := "<init>", desc := "()V", sig := { parameters := [], returnType := none }, accessFlags := 1, code := none }
def k7c1 : Code := { maxStack := 5, maxLocals := 2, code := jdk_42_method_3_code, exceptionTable := #[], attributes := #[] }
def k7m1 : Method := { name := "<init>", desc := "([C)V", sig := { parameters := [(.array .char)], returnType := none }, accessFlags := 1, code := some k7c1 }
def k7c2 : Code := { maxStack := 3, maxLocals := 2, code := jdk_42_method_53_code, exceptionTable := #[], attributes := #[] }
def k7m2 : Method := { name := "<init>", desc := "(Ljava/lang/StringBuilder;)V", sig := { parameters := [(.object "java/lang/StringBuilder")], returnType := none }, accessFlags := 1, code := some k7c2 }
def k7c3 : Code := { maxStack := 2, maxLocals := 1, code := jdk_42_method_54_code, exceptionTable := #[], attributes := #[] }
def k7m3 : Method := { name := "length", desc := "()I", sig := { parameters := [], returnType := some .int }, accessFlags := 1, code := some k7c3 }
def k7c4 : Code := { maxStack := 2, maxLocals := 2, code := jdk_42_method_56_code, exceptionTable := #[], attributes := #[] }
def k7m4 : Method := { name := "charAt", desc := "(I)C", sig := { parameters := [.int], returnType := some .char }, accessFlags := 1, code := some k7c4 }
def k7c5 : Code := { maxStack := 4, maxLocals := 1, code := jdk_42_method_139_code, exceptionTable := #[], attributes := #[] }
def k7m5 : Method := { name := "valueOf", desc := "(C)Ljava/lang/String;", sig := { parameters := [.char], returnType := some (.object "java/lang/String") }, accessFlags := 9, code := some k7c5 }
def k7c6 : Code := { maxStack := 4, maxLocals := 6, code := jdk_42_method_149_code, exceptionTable := #[], attributes := #[] }
def k7m6 : Method := { name := "<init>", desc := "([CIILjava/lang/Void;)V", sig := { parameters := [(.array .char), .int, .int, (.object "java/lang/Void")], returnType := none }, accessFlags := 2, code := some k7c6 }
def k7c7 : Code := { maxStack := 5, maxLocals := 5, code := jdk_42_method_150_code, exceptionTable := #[], attributes := #[] }
def k7m7 : Method := { name := "<init>", desc := "(Ljava/lang/AbstractStringBuilder;Ljava/lang/Void;)V", sig := { parameters := [(.object "java/lang/AbstractStringBuilder"), (.object "java/lang/Void")], returnType := none }, accessFlags := 0, code := some k7c7 }
def k7c8 : Code := { maxStack := 2, maxLocals := 3, code := jdk_42_method_151_code, exceptionTable := #[], attributes := #[] }
def k7m8 : Method := { name := "<init>", desc := "([BB)V", sig := { parameters := [(.array .byte), .byte], returnType := none }, accessFlags := 0, code := some k7c8 }
def k7c9 : Code := { maxStack := 1, maxLocals := 1, code := jdk_42_method_152_code, exceptionTable := #[], attributes := #[] }
def k7m9 : Method := { name := "coder", desc := "()B", sig := { parameters := [], returnType := some .byte }, accessFlags := 0, code := some k7c9 }
def k7c10 : Code := { maxStack := 1, maxLocals := 1, code := jdk_42_method_154_code, exceptionTable := #[], attributes := #[] }
def k7m10 : Method := { name := "isLatin1", desc := "()Z", sig := { parameters := [], returnType := some .boolean }, accessFlags := 0, code := some k7c10 }
def k7c11 : Code := { maxStack := 3, maxLocals := 2, code := jdk_42_method_155_code, exceptionTable := #[], attributes := #[] }
def k7m11 : Method := { name := "checkIndex", desc := "(II)V", sig := { parameters := [.int, .int], returnType := none }, accessFlags := 8, code := some k7c11 }
/-- java/lang/String -/
def k7 : Class := { plain "java/lang/String" (some 0) with
  accessFlags := 49
  interfaces := #[2, 3, 4, 5, 6]
  cf := some (fileOf pool7 10 #[.nestMembers #[1103]] #[{ accessFlags := 1, nameIndex := 5, descriptorIndex := 6, attributes := #[] }, { accessFlags := 1, nameIndex := 5, descriptorIndex := 1010, attributes := #[] }, { accessFlags := 1, nameIndex := 5, descriptorIndex := 1233, attributes := #[] }, { accessFlags := 1, nameIndex := 507, descriptorIndex := 334, attributes := #[] }, { accessFlags := 1, nameIndex := 497, descriptorIndex := 427, attributes := #[] }, { accessFlags := 9, nameIndex := 782, descriptorIndex := 783, attributes := #[] }, { accessFlags := 2, nameIndex := 5, descriptorIndex := 29, attributes := #[] }, { accessFlags := 0, nameIndex := 5, descriptorIndex := 491, attributes := #[] }, { accessFlags := 0, nameIndex := 5, descriptorIndex := 211, attributes := #[] }, { accessFlags := 0, nameIndex := 17, descriptorIndex := 337, attributes := #[] }, { accessFlags := 0, nameIndex := 494, descriptorIndex := 142, attributes := #[] }, { accessFlags := 8, nameIndex := 501, descriptorIndex := 391, attributes := #[] }] 49 2 #[1106, 1108, 575, 1110, 1112] #[{ accessFlags := 18, nameIndex := 13, descriptorIndex := 14, attributes := #[] }, { accessFlags := 18, nameIndex := 17, descriptorIndex := 18, attributes := #[] }, { accessFlags := 2, nameIndex := 21, descriptorIndex := 22, attributes := #[] }, { accessFlags := 2, nameIndex := 25, descriptorIndex := 26, attributes := #[] }, { accessFlags := 26, nameIndex := 1116, descriptorIndex := 1117, attributes := #[] }, { accessFlags := 24, nameIndex := 40, descriptorIndex := 26, attributes := #[] }, { accessFlags := 26, nameIndex := 1101, descriptorIndex := 1102, attributes := #[] }, { accessFlags := 26, nameIndex := 1121, descriptorIndex := 1122, attributes := #[] }, { accessFlags := 25, nameIndex := 599, descriptorIndex := 600, attributes := #[] }, { accessFlags := 24, nameIndex := 1125, descriptorIndex := 18, attributes := #[] }, { accessFlags := 24, nameIndex := 1127, descriptorIndex := 18, attributes := #[] }])
  fields := #[{ name := "value", type := (.array .byte), accessFlags := 18, slot := 0, constantValue := 0 }, { name := "coder", type := .byte, accessFlags := 18, slot := 1, constantValue := 0 }, { name := "hash", type := .int, accessFlags := 2, slot := 2, constantValue := 0 }, { name := "hashIsZero", type := .boolean, accessFlags := 2, slot := 3, constantValue := 0 }, { name := "serialVersionUID", type := .long, accessFlags := 26, slot := 0, constantValue := 0 }, { name := "COMPACT_STRINGS", type := .boolean, accessFlags := 24, slot := 1, constantValue := 0 }, { name := "serialPersistentFields", type := (.array (.object "java/io/ObjectStreamField")), accessFlags := 26, slot := 2, constantValue := 0 }, { name := "REPL", type := .char, accessFlags := 26, slot := 3, constantValue := 0 }, { name := "CASE_INSENSITIVE_ORDER", type := (.object "java/util/Comparator"), accessFlags := 25, slot := 4, constantValue := 0 }, { name := "LATIN1", type := .byte, accessFlags := 24, slot := 5, constantValue := 0 }, { name := "UTF16", type := .byte, accessFlags := 24, slot := 6, constantValue := 0 }]
  methods := #[k7m0, k7m1, k7m2, k7m3, k7m4, k7m5, k7m6, k7m7, k7m8, k7m9, k7m10, k7m11]
  instanceTypes := #[(.array .byte), .byte, .int, .boolean]
  staticTypes := #[.long, .boolean, (.array (.object "java/io/ObjectStreamField")), .char, (.object "java/util/Comparator"), .byte, .byte]
  resolved := Array.replicate 1451 none
  statics := some 0 }

def pool8 : Array CpInfo := pool [(2, .class_ 4), (1, u "java/lang/Object"), (0, u "<init>"), (0, u "()V"), (0, .class_ 8), (0, u "java/lang/StringBuilder"), (0, .methodref 10 11), (0, .class_ 12), (0, .nameAndType 13 14), (0, u "java/lang/String"), (0, u "length"), (0, u "()I"), (0, .methodref 7 16), (0, .nameAndType 5 17), (0, u "(I)V"), (0, .methodref 10 19), (0, .nameAndType 20 21), (0, u "charAt"), (0, u "(I)C"), (0, .class_ 23), (0, u "com/example/typeloom/typeloom/ttcn/Identifiers"), (0, .methodref 22 25), (0, .nameAndType 26 27), (0, u "isLetterOrDigit"), (0, u "(C)Z"), (0, .methodref 7 11), (0, .methodref 7 19), (0, .methodref 7 31), (0, .nameAndType 32 33), (0, u "append"), (0, u "(C)Ljava/lang/StringBuilder;"), (0, .methodref 7 35), (0, .nameAndType 36 17), (0, u "setLength"), (0, .methodref 7 38), (0, .nameAndType 39 40), (0, u "toString"), (0, u "()Ljava/lang/String;"), (4, u "convert"), (0, u "(Ljava/lang/String;)Ljava/lang/String;"), (19, u "RESERVED"), (0, u "Ljava/util/Set;"), (55, .methodref 22 124), (0, .nameAndType 125 27), (0, u "isDigit"), (432, u "NO_TARGET_NAMESPACE"), (0, u "Ljava/lang/String;"), (1, u "SEPARATOR"), (0, u "C"), (1, u "TYPE_PREFIX"), (0, u "FIELD_PREFIX"), (0, u "LAST_ASCII")] 46

def k8m0 : Method := { name := "<init>", desc := "()V", sig := { parameters := [], returnType := none }, accessFlags := 2, code := none }
def k8c1 : Code := { maxStack := 3, maxLocals := 6, code := prog_19_method_2_code, exceptionTable := #[], attributes := #[] }
def k8m1 : Method := { name := "convert", desc := "(Ljava/lang/String;)Ljava/lang/String;", sig := { parameters := [(.object "java/lang/String")], returnType := some (.object "java/lang/String") }, accessFlags := 9, code := some k8c1 }
def k8c2 : Code := { maxStack := 2, maxLocals := 1, code := prog_19_method_16_code, exceptionTable := #[], attributes := #[] }
def k8m2 : Method := { name := "isLetterOrDigit", desc := "(C)Z", sig := { parameters := [.char], returnType := some .boolean }, accessFlags := 10, code := some k8c2 }
def k8c3 : Code := { maxStack := 2, maxLocals := 1, code := prog_19_method_17_code, exceptionTable := #[], attributes := #[] }
def k8m3 : Method := { name := "isDigit", desc := "(C)Z", sig := { parameters := [.char], returnType := some .boolean }, accessFlags := 10, code := some k8c3 }
/-- com/example/typeloom/typeloom/ttcn/Identifiers -/
def k8 : Class := { plain "com/example/typeloom/typeloom/ttcn/Identifiers" (some 0) with
  accessFlags := 49
  interfaces := #[]
  cf := some (fileOf pool8 22 #[] #[{ accessFlags := 2, nameIndex := 5, descriptorIndex := 6, attributes := #[] }, { accessFlags := 9, nameIndex := 45, descriptorIndex := 46, attributes := #[] }, { accessFlags := 10, nameIndex := 26, descriptorIndex := 27, attributes := #[] }, { accessFlags := 10, nameIndex := 125, descriptorIndex := 27, attributes := #[] }] 49 2 #[] #[{ accessFlags := 25, nameIndex := 558, descriptorIndex := 559, attributes := #[] }, { accessFlags := 26, nameIndex := 561, descriptorIndex := 562, attributes := #[] }, { accessFlags := 26, nameIndex := 564, descriptorIndex := 559, attributes := #[] }, { accessFlags := 26, nameIndex := 565, descriptorIndex := 559, attributes := #[] }, { accessFlags := 26, nameIndex := 566, descriptorIndex := 562, attributes := #[] }, { accessFlags := 26, nameIndex := 66, descriptorIndex := 67, attributes := #[] }])
  fields := #[{ name := "NO_TARGET_NAMESPACE", type := (.object "java/lang/String"), accessFlags := 25, slot := 0, constantValue := 0 }, { name := "SEPARATOR", type := .char, accessFlags := 26, slot := 1, constantValue := 0 }, { name := "TYPE_PREFIX", type := (.object "java/lang/String"), accessFlags := 26, slot := 2, constantValue := 0 }, { name := "FIELD_PREFIX", type := (.object "java/lang/String"), accessFlags := 26, slot := 3, constantValue := 0 }, { name := "LAST_ASCII", type := .char, accessFlags := 26, slot := 4, constantValue := 0 }, { name := "RESERVED", type := (.object "java/util/Set"), accessFlags := 26, slot := 5, constantValue := 0 }]
  methods := #[k8m0, k8m1, k8m2, k8m3]
  instanceTypes := #[]
  staticTypes := #[(.object "java/lang/String"), .char, (.object "java/lang/String"), (.object "java/lang/String"), .char, (.object "java/util/Set")]
  resolved := Array.replicate 613 none
  statics := none }

def pool9 : Array CpInfo := pool [(1, .class_ 2), (0, u "java/lang/Appendable"), (0, .class_ 4), (0, u "java/lang/Object")] 9

/-- java/lang/Appendable -/
def k9 : Class := { plain "java/lang/Appendable" (some 0) with
  accessFlags := 1537
  interfaces := #[]
  cf := some (fileOf pool9 1 #[] #[] 1537 3 #[] #[])
  fields := #[]
  methods := #[]
  instanceTypes := #[]
  staticTypes := #[]
  resolved := Array.replicate 14 none
  statics := none }

def pool10 : Array CpInfo := pool [(1, .class_ 2), (0, u "java/lang/String"), (0, .methodref 4 5), (0, .class_ 6), (0, .nameAndType 7 8), (0, u "java/lang/Object"), (0, u "<init>"), (0, u "()V"), (1, .class_ 12), (1, u "java/lang/AbstractStringBuilder"), (0, u "EMPTYVALUE"), (0, u "[B"), (0, .fieldref 10 16), (0, .nameAndType 17 14), (0, u "value"), (0, .fieldref 1 19), (0, .nameAndType 20 21), (0, u "COMPACT_STRINGS"), (0, u "Z"), (0, .fieldref 10 23), (0, .nameAndType 24 25), (0, u "coder"), (0, u "B"), (8, u "length"), (0, u "()I"), (9, u "append"), (2, .class_ 49), (0, u "java/lang/CharSequence"), (23, .fieldref 10 74), (0, .nameAndType 75 21), (0, u "maybeLatin1"), (3, .fieldref 10 80), (0, .nameAndType 81 82), (0, u "count"), (0, u "I"), (0, .methodref 10 84), (0, .nameAndType 85 86), (0, u "isLatin1"), (0, u "()Z"), (1, .class_ 90), (1, u "java/lang/StringLatin1"), (9, .methodref 10 101), (0, .nameAndType 102 103), (0, u "ensureCapacityInternal"), (0, u "(I)V"), (34, .methodref 139 140), (0, .class_ 141), (0, .nameAndType 142 143), (0, u "java/lang/Math"), (0, u "min"), (0, u "(II)I"), (0, .methodref 1 145), (0, .nameAndType 146 147), (0, u "checkIndex"), (0, u "(II)V"), (43, .methodref 88 192), (0, .nameAndType 193 194), (0, u "canEncode"), (0, u "(C)Z"), (97, u "(C)Ljava/lang/AbstractStringBuilder;"), (99, u "charAt"), (0, u "(I)C"), (9, u "()[B"), (40, .class_ 445), (0, u "java/lang/Appendable"), (30, u "setLength"), (75, u "getValue")] 56

def k10m0 : Method := { name := "<init>", desc := "()V", sig := { parameters := [], returnType := none }, accessFlags := 0, code := none }
def k10c1 : Code := { maxStack := 2, maxLocals := 2, code := jdk_68_method_2_code, exceptionTable := #[], attributes := #[] }
def k10m1 : Method := { name := "<init>", desc := "(I)V", sig := { parameters := [.int], returnType := none }, accessFlags := 0, code := some k10c1 }
def k10c2 : Code := { maxStack := 1, maxLocals := 1, code := jdk_68_method_6_code, exceptionTable := #[], attributes := #[] }
def k10m2 : Method := { name := "length", desc := "()I", sig := { parameters := [], returnType := some .int }, accessFlags := 1, code := some k10c2 }
def k10c3 : Code := { maxStack := 4, maxLocals := 3, code := jdk_68_method_9_code, exceptionTable := #[], attributes := #[] }
def k10m3 : Method := { name := "ensureCapacityInternal", desc := "(I)V", sig := { parameters := [.int], returnType := none }, accessFlags := 2, code := some k10c3 }
def k10c4 : Code := { maxStack := 3, maxLocals := 2, code := jdk_68_method_13_code, exceptionTable := #[], attributes := #[] }
def k10m4 : Method := { name := "setLength", desc := "(I)V", sig := { parameters := [.int], returnType := none }, accessFlags := 1, code := some k10c4 }
def k10c5 : Code := { maxStack := 3, maxLocals := 5, code := jdk_68_method_14_code, exceptionTable := #[], attributes := #[] }
def k10m5 : Method := { name := "charAt", desc := "(I)C", sig := { parameters := [.int], returnType := some .char }, accessFlags := 1, code := some k10c5 }
def k10c6 : Code := { maxStack := 5, maxLocals := 2, code := jdk_68_method_31_code, exceptionTable := #[], attributes := #[] }
def k10m6 : Method := { name := "append", desc := "(C)Ljava/lang/AbstractStringBuilder;", sig := { parameters := [.char], returnType := some (.object "java/lang/AbstractStringBuilder") }, accessFlags := 1, code := some k10c6 }
def k10c7 : Code := { maxStack := 1, maxLocals := 1, code := jdk_68_method_64_code, exceptionTable := #[], attributes := #[] }
def k10m7 : Method := { name := "getValue", desc := "()[B", sig := { parameters := [], returnType := some (.array .byte) }, accessFlags := 16, code := some k10c7 }
def k10c8 : Code := { maxStack := 1, maxLocals := 1, code := jdk_68_method_68_code, exceptionTable := #[], attributes := #[] }
def k10m8 : Method := { name := "isLatin1", desc := "()Z", sig := { parameters := [], returnType := some .boolean }, accessFlags := 16, code := some k10c8 }
/-- java/lang/AbstractStringBuilder -/
def k10 : Class := { plain "java/lang/AbstractStringBuilder" (some 0) with
  accessFlags := 1056
  interfaces := #[9, 4]
  cf := some (fileOf pool10 10 #[] #[{ accessFlags := 0, nameIndex := 7, descriptorIndex := 8, attributes := #[] }, { accessFlags := 0, nameIndex := 7, descriptorIndex := 103, attributes := #[] }, { accessFlags := 1, nameIndex := 34, descriptorIndex := 35, attributes := #[] }, { accessFlags := 2, nameIndex := 102, descriptorIndex := 103, attributes := #[] }, { accessFlags := 1, nameIndex := 476, descriptorIndex := 103, attributes := #[] }, { accessFlags := 1, nameIndex := 392, descriptorIndex := 393, attributes := #[] }, { accessFlags := 1, nameIndex := 45, descriptorIndex := 292, attributes := #[] }, { accessFlags := 16, nameIndex := 552, descriptorIndex := 403, attributes := #[] }, { accessFlags := 16, nameIndex := 85, descriptorIndex := 86, attributes := #[] }] 1056 4 #[444, 48] #[{ accessFlags := 0, nameIndex := 17, descriptorIndex := 14, attributes := #[] }, { accessFlags := 0, nameIndex := 24, descriptorIndex := 25, attributes := #[] }, { accessFlags := 0, nameIndex := 75, descriptorIndex := 21, attributes := #[] }, { accessFlags := 0, nameIndex := 81, descriptorIndex := 82, attributes := #[] }, { accessFlags := 26, nameIndex := 13, descriptorIndex := 14, attributes := #[] }])
  fields := #[{ name := "value", type := (.array .byte), accessFlags := 0, slot := 0, constantValue := 0 }, { name := "coder", type := .byte, accessFlags := 0, slot := 1, constantValue := 0 }, { name := "maybeLatin1", type := .boolean, accessFlags := 0, slot := 2, constantValue := 0 }, { name := "count", type := .int, accessFlags := 0, slot := 3, constantValue := 0 }, { name := "EMPTYVALUE", type := (.array .byte), accessFlags := 26, slot := 0, constantValue := 0 }]
  methods := #[k10m0, k10m1, k10m2, k10m3, k10m4, k10m5, k10m6, k10m7, k10m8]
  instanceTypes := #[(.array .byte), .byte, .boolean, .int]
  staticTypes := #[(.array .byte)]
  resolved := Array.replicate 609 none
  statics := none }

def pool11 : Array CpInfo := pool [(1, .methodref 2 3), (0, .class_ 4), (0, .nameAndType 5 6), (0, u "java/lang/AbstractStringBuilder"), (0, u "<init>"), (0, u "(I)V"), (11, .class_ 20), (1, u "java/lang/String"), (3, .class_ 26), (1, u "java/lang/StringBuilder"), (0, u "append"), (22, .methodref 2 51), (0, .nameAndType 27 52), (0, u "(C)Ljava/lang/AbstractStringBuilder;"), (84, .methodref 18 138), (0, .nameAndType 5 139), (0, u "(Ljava/lang/StringBuilder;)V"), (5, u "()V"), (10, u "()I"), (129, u "(C)Ljava/lang/StringBuilder;"), (42, .methodref 2 330), (0, .nameAndType 331 332), (0, u "charAt"), (0, u "(I)C"), (0, .methodref 2 334), (0, .nameAndType 335 6), (0, u "setLength"), (7, .methodref 2 344), (0, .nameAndType 345 156), (0, u "length"), (3, .class_ 350), (0, u "java/lang/Appendable"), (0, .class_ 352), (0, u "java/io/Serializable"), (0, .class_ 354), (0, u "java/lang/Comparable"), (0, .class_ 356), (0, u "java/lang/CharSequence"), (0, u "serialVersionUID"), (0, u "J"), (40, u "toString"), (0, u "()Ljava/lang/String;")] 21

def k11m0 : Method := { name := "<init>", desc := "()V", sig := { parameters := [], returnType := none }, accessFlags := 1, code := none }
def k11c1 : Code := { maxStack := 2, maxLocals := 2, code := jdk_67_method_2_code, exceptionTable := #[], attributes := #[] }
def k11m1 : Method := { name := "<init>", desc := "(I)V", sig := { parameters := [.int], returnType := none }, accessFlags := 1, code := some k11c1 }
def k11c2 : Code := { maxStack := 2, maxLocals := 2, code := jdk_67_method_14_code, exceptionTable := #[], attributes := #[] }
def k11m2 : Method := { name := "append", desc := "(C)Ljava/lang/StringBuilder;", sig := { parameters := [.char], returnType := some (.object "java/lang/StringBuilder") }, accessFlags := 1, code := some k11c2 }
def k11c3 : Code := { maxStack := 3, maxLocals := 1, code := jdk_67_method_42_code, exceptionTable := #[], attributes := #[] }
def k11m3 : Method := { name := "toString", desc := "()Ljava/lang/String;", sig := { parameters := [], returnType := some (.object "java/lang/String") }, accessFlags := 1, code := some k11c3 }
def k11c4 : Code := { maxStack := 2, maxLocals := 2, code := jdk_67_method_88_code, exceptionTable := #[], attributes := #[] }
def k11m4 : Method := { name := "charAt", desc := "(I)C", sig := { parameters := [.int], returnType := some .char }, accessFlags := 4161, code := some k11c4 }
def k11c5 : Code := { maxStack := 2, maxLocals := 2, code := jdk_67_method_89_code, exceptionTable := #[], attributes := #[] }
def k11m5 : Method := { name := "setLength", desc := "(I)V", sig := { parameters := [.int], returnType := none }, accessFlags := 4161, code := some k11c5 }
def k11c6 : Code := { maxStack := 1, maxLocals := 1, code := jdk_67_method_93_code, exceptionTable := #[], attributes := #[] }
def k11m6 : Method := { name := "length", desc := "()I", sig := { parameters := [], returnType := some .int }, accessFlags := 4161, code := some k11c6 }
/-- java/lang/StringBuilder -/
def k11 : Class := { plain "java/lang/StringBuilder" (some 10) with
  accessFlags := 49
  interfaces := #[9, 2, 3, 4]
  cf := some (fileOf pool11 24 #[] #[{ accessFlags := 1, nameIndex := 5, descriptorIndex := 145, attributes := #[] }, { accessFlags := 1, nameIndex := 5, descriptorIndex := 6, attributes := #[] }, { accessFlags := 1, nameIndex := 27, descriptorIndex := 286, attributes := #[] }, { accessFlags := 1, nameIndex := 399, descriptorIndex := 400, attributes := #[] }, { accessFlags := 4161, nameIndex := 331, descriptorIndex := 332, attributes := #[] }, { accessFlags := 4161, nameIndex := 335, descriptorIndex := 6, attributes := #[] }, { accessFlags := 4161, nameIndex := 345, descriptorIndex := 156, attributes := #[] }] 49 2 #[349, 351, 353, 355] #[{ accessFlags := 24, nameIndex := 357, descriptorIndex := 358, attributes := #[] }])
  fields := #[{ name := "serialVersionUID", type := .long, accessFlags := 24, slot := 0, constantValue := 0 }]
  methods := #[k11m0, k11m1, k11m2, k11m3, k11m4, k11m5, k11m6]
  instanceTypes := #[(.array .byte), .byte, .boolean, .int]
  staticTypes := #[.long]
  resolved := Array.replicate 422 none
  statics := none }

def pool12 : Array CpInfo := pool [(2, .class_ 4), (1, u "java/lang/Object"), (0, u "<init>"), (0, u "()V"), (7, .class_ 16), (1, u "java/util/Arrays"), (57, .class_ 76), (1, u "java/util/Arrays$NaturalOrder"), (32, u "()Ljava/lang/Object;"), (3, .class_ 115), (1, u "java/util/Arrays$LegacyMergeSort"), (1, u "Z"), (10, .nameAndType 129 109), (0, u "clone"), (9, u "copyOfRange"), (10, .methodref 151 152), (0, .class_ 153), (0, .nameAndType 154 155), (0, u "java/lang/System"), (0, u "arraycopy"), (0, u "(Ljava/lang/Object;ILjava/lang/Object;II)V"), (148, .methodref 305 306), (0, .class_ 307), (0, .nameAndType 308 309), (0, u "java/lang/Math"), (0, u "min"), (0, u "(II)I"), (0, .methodref 311 128), (0, .class_ 312), (0, u "[B"), (26, .methodref 14 340), (0, .nameAndType 341 342), (0, u "copyOfRangeByte"), (0, u "([BII)[B"), (0, .methodref 14 344), (0, .nameAndType 345 346), (0, u "checkLength"), (0, u "(II)V"), (28, .class_ 376), (0, u "java/util/Arrays$ArrayList"), (68, u "$assertionsDisabled"), (269, u "MIN_ARRAY_SORT_GRAN"), (0, u "I"), (2, u "INSERTIONSORT_THRESHOLD"), (255, .class_ 976), (0, u "java/util/Arrays$ArrayItr")] 52

def k12m0 : Method := { name := "<init>", desc := "()V", sig := { parameters := [], returnType := none }, accessFlags := 2, code := none }
def k12c1 : Code := { maxStack := 4, maxLocals := 2, code := jdk_65_method_131_code, exceptionTable := #[], attributes := #[] }
def k12m1 : Method := { name := "checkLength", desc := "(II)V", sig := { parameters := [.int, .int], returnType := none }, accessFlags := 10, code := some k12c1 }
def k12c2 : Code := { maxStack := 3, maxLocals := 3, code := jdk_65_method_132_code, exceptionTable := #[], attributes := #[] }
def k12m2 : Method := { name := "copyOfRange", desc := "([BII)[B", sig := { parameters := [(.array .byte), .int, .int], returnType := some (.array .byte) }, accessFlags := 9, code := some k12c2 }
def k12c3 : Code := { maxStack := 6, maxLocals := 5, code := jdk_65_method_133_code, exceptionTable := #[], attributes := #[] }
def k12m3 : Method := { name := "copyOfRangeByte", desc := "([BII)[B", sig := { parameters := [(.array .byte), .int, .int], returnType := some (.array .byte) }, accessFlags := 10, code := some k12c3 }
/-- java/util/Arrays -/
def k12 : Class := { plain "java/util/Arrays" (some 0) with
  accessFlags := 49
  interfaces := #[]
  cf := some (fileOf pool12 14 #[.nestMembers #[975, 375, 113, 74]] #[{ accessFlags := 2, nameIndex := 5, descriptorIndex := 6, attributes := #[] }, { accessFlags := 10, nameIndex := 345, descriptorIndex := 346, attributes := #[] }, { accessFlags := 9, nameIndex := 139, descriptorIndex := 342, attributes := #[] }, { accessFlags := 10, nameIndex := 341, descriptorIndex := 342, attributes := #[] }] 49 2 #[] #[{ accessFlags := 26, nameIndex := 715, descriptorIndex := 716, attributes := #[] }, { accessFlags := 26, nameIndex := 719, descriptorIndex := 716, attributes := #[] }, { accessFlags := 4120, nameIndex := 445, descriptorIndex := 117, attributes := #[] }])
  fields := #[{ name := "MIN_ARRAY_SORT_GRAN", type := .int, accessFlags := 26, slot := 0, constantValue := 0 }, { name := "INSERTIONSORT_THRESHOLD", type := .int, accessFlags := 26, slot := 1, constantValue := 0 }, { name := "$assertionsDisabled", type := .boolean, accessFlags := 4120, slot := 2, constantValue := 0 }]
  methods := #[k12m0, k12m1, k12m2, k12m3]
  instanceTypes := #[]
  staticTypes := #[.int, .int, .boolean]
  resolved := Array.replicate 1029 none
  statics := none }

def pool13 : Array CpInfo := pool [(1, .class_ 2), (0, u "java/lang/Cloneable"), (0, .class_ 4), (0, u "java/lang/Object")] 2

/-- java/lang/Cloneable -/
def k13 : Class := { plain "java/lang/Cloneable" (some 0) with
  accessFlags := 1537
  interfaces := #[]
  cf := some (fileOf pool13 1 #[] #[] 1537 3 #[] #[])
  fields := #[]
  methods := #[]
  instanceTypes := #[]
  staticTypes := #[]
  resolved := Array.replicate 7 none
  statics := none }

def pool14 : Array CpInfo := pool [(3, .class_ 4), (0, u "java/lang/String"), (1, .class_ 8), (1, u "java/lang/Object"), (0, u "<init>"), (0, u "()V"), (0, .methodref 12 13), (0, .class_ 14), (0, .nameAndType 15 16), (0, u "java/lang/StringUTF16"), (0, u "newBytesLength"), (0, u "(I)I"), (3, .integer 1073741823), (23, .fieldref 12 45), (0, .nameAndType 46 47), (0, u "$assertionsDisabled"), (0, u "Z"), (0, .methodref 12 49), (0, .nameAndType 50 51), (0, u "length"), (0, u "([B)I"), (7, .fieldref 12 60), (0, .nameAndType 61 62), (0, u "HI_BYTE_SHIFT"), (0, u "I"), (0, .fieldref 12 64), (0, .nameAndType 65 62), (0, u "LO_BYTE_SHIFT"), (1, .methodref 12 68), (0, .nameAndType 69 70), (0, u "checkIndex"), (0, u "(I[B)V"), (0, .methodref 12 72), (0, .nameAndType 73 74), (0, u "getChar"), (0, u "([BI)C"), (32, .methodref 12 108), (0, .nameAndType 109 110), (0, u "newBytesFor"), (0, u "(I)[B"), (0, .methodref 12 112), (0, .nameAndType 113 114), (0, u "putChar"), (0, u "([BII)V"), (0, .methodref 12 116), (0, .nameAndType 117 118), (0, u "compress"), (0, u "([CI[BII)I"), (0, .methodref 12 120), (0, .nameAndType 121 122), (0, u "toBytes"), (0, u "([CII)[B"), (138, u "coderFromArrayLen"), (0, u "([BI)B"), (106, .class_ 371), (1, u "java/lang/StringUTF16$LinesSpliterator"), (20, u "charAt"), (21, .methodref 3 415), (0, .nameAndType 69 416), (0, u "(II)V"), (13, u "MAX_LENGTH"), (44, u "(C)[B"), (151, .class_ 628), (0, u "java/lang/StringUTF16$CodePointsSpliterator"), (0, .class_ 630), (0, u "java/lang/StringUTF16$CharsSpliterator")] 4

def k14m0 : Method := { name := "<init>", desc := "()V", sig := { parameters := [], returnType := none }, accessFlags := 0, code := none }
def k14c1 : Code := { maxStack := 1, maxLocals := 1, code := jdk_52_method_2_code, exceptionTable := #[], attributes := #[] }
def k14m1 : Method := { name := "newBytesFor", desc := "(I)[B", sig := { parameters := [.int], returnType := some (.array .byte) }, accessFlags := 9, code := some k14c1 }
def k14c2 : Code := { maxStack := 4, maxLocals := 1, code := jdk_52_method_3_code, exceptionTable := #[], attributes := #[] }
def k14m2 : Method := { name := "newBytesLength", desc := "(I)I", sig := { parameters := [.int], returnType := some .int }, accessFlags := 9, code := some k14c2 }
def k14c3 : Code := { maxStack := 4, maxLocals := 3, code := jdk_52_method_4_code, exceptionTable := #[], attributes := #[] }
def k14m3 : Method := { name := "putChar", desc := "([BII)V", sig := { parameters := [(.array .byte), .int, .int], returnType := none }, accessFlags := 8, code := some k14c3 }
def k14c4 : Code := { maxStack := 3, maxLocals := 2, code := jdk_52_method_5_code, exceptionTable := #[], attributes := #[] }
def k14m4 : Method := { name := "getChar", desc := "([BI)C", sig := { parameters := [(.array .byte), .int], returnType := some .char }, accessFlags := 8, code := some k14c4 }
def k14c5 : Code := { maxStack := 2, maxLocals := 1, code := jdk_52_method_6_code, exceptionTable := #[], attributes := #[] }
def k14m5 : Method := { name := "length", desc := "([B)I", sig := { parameters := [(.array .byte)], returnType := some .int }, accessFlags := 9, code := some k14c5 }
def k14c6 : Code := { maxStack := 4, maxLocals := 5, code := jdk_52_method_14_code, exceptionTable := #[], attributes := #[] }
def k14m6 : Method := { name := "toBytes", desc := "([CII)[B", sig := { parameters := [(.array .char), .int, .int], returnType := some (.array .byte) }, accessFlags := 9, code := some k14c6 }
def k14c7 : Code := { maxStack := 2, maxLocals := 2, code := jdk_52_method_15_code, exceptionTable := #[], attributes := #[] }
def k14m7 : Method := { name := "coderFromArrayLen", desc := "([BI)B", sig := { parameters := [(.array .byte), .int], returnType := some .byte }, accessFlags := 8, code := some k14c7 }
def k14c8 : Code := { maxStack := 5, maxLocals := 6, code := jdk_52_method_16_code, exceptionTable := #[], attributes := #[] }
def k14m8 : Method := { name := "compress", desc := "([CII)[B", sig := { parameters := [(.array .char), .int, .int], returnType := some (.array .byte) }, accessFlags := 9, code := some k14c8 }
def k14c9 : Code := { maxStack := 3, maxLocals := 7, code := jdk_52_method_21_code, exceptionTable := #[], attributes := #[] }
def k14m9 : Method := { name := "compress", desc := "([CI[BII)I", sig := { parameters := [(.array .char), .int, (.array .byte), .int, .int], returnType := some .int }, accessFlags := 9, code := some k14c9 }
def k14c10 : Code := { maxStack := 3, maxLocals := 2, code := jdk_52_method_24_code, exceptionTable := #[], attributes := #[] }
def k14m10 : Method := { name := "toBytes", desc := "(C)[B", sig := { parameters := [.char], returnType := some (.array .byte) }, accessFlags := 9, code := some k14c10 }
def k14c11 : Code := { maxStack := 2, maxLocals := 2, code := jdk_52_method_83_code, exceptionTable := #[], attributes := #[] }
def k14m11 : Method := { name := "charAt", desc := "([BI)C", sig := { parameters := [(.array .byte), .int], returnType := some .char }, accessFlags := 9, code := some k14c11 }
def k14c12 : Code := { maxStack := 2, maxLocals := 2, code := jdk_52_method_91_code, exceptionTable := #[], attributes := #[] }
def k14m12 : Method := { name := "checkIndex", desc := "(I[B)V", sig := { parameters := [.int, (.array .byte)], returnType := none }, accessFlags := 9, code := some k14c12 }
/-- java/lang/StringUTF16 -/
def k14 : Class := { plain "java/lang/StringUTF16" (some 0) with
  accessFlags := 48
  interfaces := #[]
  cf := some (fileOf pool14 12 #[.nestMembers #[627, 629, 369]] #[{ accessFlags := 0, nameIndex := 9, descriptorIndex := 10, attributes := #[] }, { accessFlags := 9, nameIndex := 109, descriptorIndex := 110, attributes := #[] }, { accessFlags := 9, nameIndex := 15, descriptorIndex := 16, attributes := #[] }, { accessFlags := 8, nameIndex := 113, descriptorIndex := 114, attributes := #[] }, { accessFlags := 8, nameIndex := 73, descriptorIndex := 74, attributes := #[] }, { accessFlags := 9, nameIndex := 50, descriptorIndex := 51, attributes := #[] }, { accessFlags := 9, nameIndex := 121, descriptorIndex := 122, attributes := #[] }, { accessFlags := 8, nameIndex := 261, descriptorIndex := 262, attributes := #[] }, { accessFlags := 9, nameIndex := 117, descriptorIndex := 122, attributes := #[] }, { accessFlags := 9, nameIndex := 117, descriptorIndex := 118, attributes := #[] }, { accessFlags := 9, nameIndex := 121, descriptorIndex := 475, attributes := #[] }, { accessFlags := 9, nameIndex := 392, descriptorIndex := 74, attributes := #[] }, { accessFlags := 9, nameIndex := 69, descriptorIndex := 70, attributes := #[] }] 48 6 #[] #[{ accessFlags := 26, nameIndex := 61, descriptorIndex := 62, attributes := #[] }, { accessFlags := 26, nameIndex := 65, descriptorIndex := 62, attributes := #[] }, { accessFlags := 24, nameIndex := 430, descriptorIndex := 62, attributes := #[] }, { accessFlags := 4120, nameIndex := 46, descriptorIndex := 47, attributes := #[] }])
  fields := #[{ name := "HI_BYTE_SHIFT", type := .int, accessFlags := 26, slot := 0, constantValue := 0 }, { name := "LO_BYTE_SHIFT", type := .int, accessFlags := 26, slot := 1, constantValue := 0 }, { name := "MAX_LENGTH", type := .int, accessFlags := 24, slot := 2, constantValue := 0 }, { name := "$assertionsDisabled", type := .boolean, accessFlags := 4120, slot := 3, constantValue := 0 }]
  methods := #[k14m0, k14m1, k14m2, k14m3, k14m4, k14m5, k14m6, k14m7, k14m8, k14m9, k14m10, k14m11, k14m12]
  instanceTypes := #[]
  staticTypes := #[.int, .int, .int, .boolean]
  resolved := Array.replicate 635 none
  statics := some 1 }

def pool15 : Array CpInfo := pool [(1, .class_ 2), (0, u "java/lang/String"), (1, .class_ 6), (1, u "java/lang/Object"), (0, u "<init>"), (0, u "()V"), (0, .methodref 1 10), (0, .nameAndType 11 12), (0, u "checkIndex"), (0, u "(II)V"), (1, .class_ 16), (1, u "java/lang/StringLatin1"), (36, u "([BI)C"), (36, u "canEncode"), (14, u "(C)Z"), (15, u "$assertionsDisabled"), (0, u "Z"), (98, .class_ 223), (1, u "java/lang/StringLatin1$LinesSpliterator"), (28, u "charAt"), (127, u "toBytes"), (1, u "(C)[B"), (7, .class_ 391), (0, u "java/lang/StringLatin1$CharsSpliterator")] 3

def k15m0 : Method := { name := "<init>", desc := "()V", sig := { parameters := [], returnType := none }, accessFlags := 0, code := none }
def k15c1 : Code := { maxStack := 2, maxLocals := 2, code := jdk_43_method_2_code, exceptionTable := #[], attributes := #[] }
def k15m1 : Method := { name := "charAt", desc := "([BI)C", sig := { parameters := [(.array .byte), .int], returnType := some .char }, accessFlags := 9, code := some k15c1 }
def k15c2 : Code := { maxStack := 2, maxLocals := 1, code := jdk_43_method_3_code, exceptionTable := #[], attributes := #[] }
def k15m2 : Method := { name := "canEncode", desc := "(C)Z", sig := { parameters := [.char], returnType := some .boolean }, accessFlags := 9, code := some k15c2 }
def k15c3 : Code := { maxStack := 4, maxLocals := 1, code := jdk_43_method_46_code, exceptionTable := #[], attributes := #[] }
def k15m3 : Method := { name := "toBytes", desc := "(C)[B", sig := { parameters := [.char], returnType := some (.array .byte) }, accessFlags := 9, code := some k15c3 }
/-- java/lang/StringLatin1 -/
def k15 : Class := { plain "java/lang/StringLatin1" (some 0) with
  accessFlags := 48
  interfaces := #[]
  cf := some (fileOf pool15 14 #[.nestMembers #[390, 221]] #[{ accessFlags := 0, nameIndex := 7, descriptorIndex := 8, attributes := #[] }, { accessFlags := 9, nameIndex := 252, descriptorIndex := 53, attributes := #[] }, { accessFlags := 9, nameIndex := 90, descriptorIndex := 105, attributes := #[] }, { accessFlags := 9, nameIndex := 380, descriptorIndex := 382, attributes := #[] }] 48 4 #[] #[{ accessFlags := 4120, nameIndex := 121, descriptorIndex := 122, attributes := #[] }])
  fields := #[{ name := "$assertionsDisabled", type := .boolean, accessFlags := 4120, slot := 0, constantValue := 0 }]
  methods := #[k15m0, k15m1, k15m2, k15m3]
  instanceTypes := #[]
  staticTypes := #[.boolean]
  resolved := Array.replicate 395 none
  statics := none }

def pool16 : Array CpInfo := pool [(2, .class_ 4), (1, u "java/lang/Object"), (0, u "<init>"), (0, u "()V"), (17, .class_ 26), (1, u "jdk/internal/util/Preconditions"), (6, u "checkIndex"), (21, .class_ 56), (0, u "jdk/internal/util/Preconditions$4"), (57, .class_ 115), (0, u "jdk/internal/util/Preconditions$1"), (7, u "SIOOBE_FORMATTER"), (0, u "Ljava/util/function/BiFunction;"), (0, .class_ 126), (0, u "jdk/internal/util/Preconditions$2"), (3, u "AIOOBE_FORMATTER"), (0, .class_ 132), (0, u "jdk/internal/util/Preconditions$3"), (3, u "IOOBE_FORMATTER"), (41, u "(IILjava/util/function/BiFunction;)I")] 15

def k16m0 : Method := { name := "<init>", desc := "()V", sig := { parameters := [], returnType := none }, accessFlags := 1, code := none }
def k16c1 : Code := { maxStack := 3, maxLocals := 3, code := jdk_41_method_11_code, exceptionTable := #[], attributes := #[] }
def k16m1 : Method := { name := "checkIndex", desc := "(IILjava/util/function/BiFunction;)I", sig := { parameters := [.int, .int, (.object "java/util/function/BiFunction")], returnType := some .int }, accessFlags := 9, code := some k16c1 }
/-- jdk/internal/util/Preconditions -/
def k16 : Class := { plain "jdk/internal/util/Preconditions" (some 0) with
  accessFlags := 33
  interfaces := #[]
  cf := some (fileOf pool16 24 #[.nestMembers #[55, 131, 125, 114]] #[{ accessFlags := 1, nameIndex := 5, descriptorIndex := 6, attributes := #[] }, { accessFlags := 9, nameIndex := 33, descriptorIndex := 178, attributes := #[] }] 33 2 #[] #[{ accessFlags := 25, nameIndex := 123, descriptorIndex := 124, attributes := #[] }, { accessFlags := 25, nameIndex := 130, descriptorIndex := 124, attributes := #[] }, { accessFlags := 25, nameIndex := 136, descriptorIndex := 124, attributes := #[] }])
  fields := #[{ name := "SIOOBE_FORMATTER", type := (.object "java/util/function/BiFunction"), accessFlags := 25, slot := 0, constantValue := 0 }, { name := "AIOOBE_FORMATTER", type := (.object "java/util/function/BiFunction"), accessFlags := 25, slot := 1, constantValue := 0 }, { name := "IOOBE_FORMATTER", type := (.object "java/util/function/BiFunction"), accessFlags := 25, slot := 2, constantValue := 0 }]
  methods := #[k16m0, k16m1]
  instanceTypes := #[]
  staticTypes := #[(.object "java/util/function/BiFunction"), (.object "java/util/function/BiFunction"), (.object "java/util/function/BiFunction")]
  resolved := Array.replicate 194 none
  statics := some 2 }

def pool17 : Array CpInfo := pool [(1, .class_ 2), (0, u "java/lang/Math"), (1, .class_ 6), (1, u "java/lang/Object"), (0, u "<init>"), (0, u "()V"), (89, .class_ 100), (1, u "java/lang/Math$RandomNumberGeneratorHolder"), (71, u "negativeZeroFloatBits"), (0, u "J"), (2, u "negativeZeroDoubleBits"), (24, u "min"), (43, u "$assertionsDisabled"), (0, u "Z"), (88, u "(II)I"), (2, u "twoToTheDoubleScaleDown"), (0, u "D"), (4, u "twoToTheDoubleScaleUp"), (9, u "E"), (3, u "PI"), (2, u "TAU"), (2, u "DEGREES_TO_RADIANS"), (0, u "RADIANS_TO_DEGREES")] 94

def k17m0 : Method := { name := "<init>", desc := "()V", sig := { parameters := [], returnType := none }, accessFlags := 2, code := none }
def k17c1 : Code := { maxStack := 2, maxLocals := 2, code := jdk_29_method_69_code, exceptionTable := #[], attributes := #[] }
def k17m1 : Method := { name := "min", desc := "(II)I", sig := { parameters := [.int, .int], returnType := some .int }, accessFlags := 9, code := some k17c1 }
/-- java/lang/Math -/
def k17 : Class := { plain "java/lang/Math" (some 0) with
  accessFlags := 49
  interfaces := #[]
  cf := some (fileOf pool17 1 #[.nestMembers #[98]] #[{ accessFlags := 2, nameIndex := 7, descriptorIndex := 8, attributes := #[] }, { accessFlags := 9, nameIndex := 201, descriptorIndex := 335, attributes := #[] }] 49 4 #[] #[{ accessFlags := 25, nameIndex := 354, descriptorIndex := 339, attributes := #[] }, { accessFlags := 25, nameIndex := 358, descriptorIndex := 339, attributes := #[] }, { accessFlags := 25, nameIndex := 361, descriptorIndex := 339, attributes := #[] }, { accessFlags := 26, nameIndex := 364, descriptorIndex := 339, attributes := #[] }, { accessFlags := 26, nameIndex := 365, descriptorIndex := 339, attributes := #[] }, { accessFlags := 26, nameIndex := 172, descriptorIndex := 173, attributes := #[] }, { accessFlags := 26, nameIndex := 176, descriptorIndex := 173, attributes := #[] }, { accessFlags := 8, nameIndex := 344, descriptorIndex := 339, attributes := #[] }, { accessFlags := 8, nameIndex := 338, descriptorIndex := 339, attributes := #[] }, { accessFlags := 4120, nameIndex := 245, descriptorIndex := 246, attributes := #[] }])
  fields := #[{ name := "E", type := .double, accessFlags := 25, slot := 0, constantValue := 0 }, { name := "PI", type := .double, accessFlags := 25, slot := 1, constantValue := 0 }, { name := "TAU", type := .double, accessFlags := 25, slot := 2, constantValue := 0 }, { name := "DEGREES_TO_RADIANS", type := .double, accessFlags := 26, slot := 3, constantValue := 0 }, { name := "RADIANS_TO_DEGREES", type := .double, accessFlags := 26, slot := 4, constantValue := 0 }, { name := "negativeZeroFloatBits", type := .long, accessFlags := 26, slot := 5, constantValue := 0 }, { name := "negativeZeroDoubleBits", type := .long, accessFlags := 26, slot := 6, constantValue := 0 }, { name := "twoToTheDoubleScaleUp", type := .double, accessFlags := 8, slot := 7, constantValue := 0 }, { name := "twoToTheDoubleScaleDown", type := .double, accessFlags := 8, slot := 8, constantValue := 0 }, { name := "$assertionsDisabled", type := .boolean, accessFlags := 4120, slot := 9, constantValue := 0 }]
  methods := #[k17m0, k17m1]
  instanceTypes := #[]
  staticTypes := #[.double, .double, .double, .double, .double, .long, .long, .double, .double, .boolean]
  resolved := Array.replicate 460 none
  statics := none }

def pool18 : Array CpInfo := pool [(2, .class_ 4), (1, u "java/lang/Object"), (0, u "<init>"), (0, u "()V"), (1, .class_ 10), (1, u "java/lang/System"), (0, u "allowSecurityManager"), (0, u "I"), (16, u "cons"), (0, u "Ljava/io/Console;"), (77, .class_ 110), (1, u "java/lang/System$CallersHolder"), (43, u "initialErrStream"), (0, u "Ljava/io/PrintStream;"), (19, u "security"), (0, u "Ljava/lang/SecurityManager;"), (31, .class_ 209), (0, u "java/lang/System$1"), (7, u "props"), (0, u "Ljava/util/Properties;"), (2, u "lineSeparator"), (0, u "Ljava/lang/String;"), (96, .class_ 321), (1, u "java/lang/System$LoggerFinder"), (5, .class_ 328), (0, u "java/lang/System$Logger"), (67, u "err"), (2, u "out"), (91, u "notSupportedJnuEncoding"), (15, u "in"), (17, u "initialIn"), (0, u "Ljava/io/InputStream;"), (35, u "bootLayer"), (0, u "Ljava/lang/ModuleLayer;"), (99, .class_ 664), (0, u "java/lang/System$2"), (9, u "NEVER"), (2, u "MAYBE"), (49, u "arraycopy"), (0, u "(Ljava/lang/Object;ILjava/lang/Object;II)V"), (72, .class_ 802), (0, u "java/lang/System$Logger$Level")] 31

def k18m0 : Method := { name := "<init>", desc := "()V", sig := { parameters := [], returnType := none }, accessFlags := 2, code := none }
def k18m1 : Method := { name := "arraycopy", desc := "(Ljava/lang/Object;ILjava/lang/Object;II)V", sig := { parameters := [(.object "java/lang/Object"), .int, (.object "java/lang/Object"), .int, .int], returnType := none }, accessFlags := 265, code := none }
/-- java/lang/System -/
def k18 : Class := { plain "java/lang/System" (some 0) with
  accessFlags := 49
  interfaces := #[]
  cf := some (fileOf pool18 8 #[.nestMembers #[319, 327, 801, 108, 663, 208]] #[{ accessFlags := 2, nameIndex := 5, descriptorIndex := 6, attributes := #[] }, { accessFlags := 265, nameIndex := 727, descriptorIndex := 728, attributes := #[] }] 49 2 #[] #[{ accessFlags := 25, nameIndex := 507, descriptorIndex := 526, attributes := #[] }, { accessFlags := 25, nameIndex := 399, descriptorIndex := 155, attributes := #[] }, { accessFlags := 25, nameIndex := 396, descriptorIndex := 155, attributes := #[] }, { accessFlags := 10, nameIndex := 525, descriptorIndex := 526, attributes := #[] }, { accessFlags := 26, nameIndex := 674, descriptorIndex := 12, attributes := #[] }, { accessFlags := 26, nameIndex := 677, descriptorIndex := 12, attributes := #[] }, { accessFlags := 10, nameIndex := 11, descriptorIndex := 12, attributes := #[] }, { accessFlags := 74, nameIndex := 175, descriptorIndex := 176, attributes := #[] }, { accessFlags := 10, nameIndex := 491, descriptorIndex := 222, attributes := #[] }, { accessFlags := 74, nameIndex := 29, descriptorIndex := 30, attributes := #[] }, { accessFlags := 74, nameIndex := 154, descriptorIndex := 155, attributes := #[] }, { accessFlags := 10, nameIndex := 217, descriptorIndex := 218, attributes := #[] }, { accessFlags := 10, nameIndex := 221, descriptorIndex := 222, attributes := #[] }, { accessFlags := 8, nameIndex := 562, descriptorIndex := 563, attributes := #[] }])
  fields := #[{ name := "in", type := (.object "java/io/InputStream"), accessFlags := 25, slot := 0, constantValue := 0 }, { name := "out", type := (.object "java/io/PrintStream"), accessFlags := 25, slot := 1, constantValue := 0 }, { name := "err", type := (.object "java/io/PrintStream"), accessFlags := 25, slot := 2, constantValue := 0 }, { name := "initialIn", type := (.object "java/io/InputStream"), accessFlags := 10, slot := 3, constantValue := 0 }, { name := "NEVER", type := .int, accessFlags := 26, slot := 4, constantValue := 0 }, { name := "MAYBE", type := .int, accessFlags := 26, slot := 5, constantValue := 0 }, { name := "allowSecurityManager", type := .int, accessFlags := 10, slot := 6, constantValue := 0 }, { name := "security", type := (.object "java/lang/SecurityManager"), accessFlags := 74, slot := 7, constantValue := 0 }, { name := "notSupportedJnuEncoding", type := (.object "java/lang/String"), accessFlags := 10, slot := 8, constantValue := 0 }, { name := "cons", type := (.object "java/io/Console"), accessFlags := 74, slot := 9, constantValue := 0 }, { name := "initialErrStream", type := (.object "java/io/PrintStream"), accessFlags := 74, slot := 10, constantValue := 0 }, { name := "props", type := (.object "java/util/Properties"), accessFlags := 10, slot := 11, constantValue := 0 }, { name := "lineSeparator", type := (.object "java/lang/String"), accessFlags := 10, slot := 12, constantValue := 0 }, { name := "bootLayer", type := (.object "java/lang/ModuleLayer"), accessFlags := 8, slot := 13, constantValue := 0 }]
  methods := #[k18m0, k18m1]
  instanceTypes := #[]
  staticTypes := #[(.object "java/io/InputStream"), (.object "java/io/PrintStream"), (.object "java/io/PrintStream"), (.object "java/io/InputStream"), .int, .int, .int, (.object "java/lang/SecurityManager"), (.object "java/lang/String"), (.object "java/io/Console"), (.object "java/io/PrintStream"), (.object "java/util/Properties"), (.object "java/lang/String"), (.object "java/lang/ModuleLayer")]
  resolved := Array.replicate 834 none
  statics := none }

def pool19 : Array CpInfo := pool [(9, u "<init>"), (6, .class_ 18), (1, u "java/lang/Object"), (0, u "()V"), (1, .class_ 23), (1, u "jdk/internal/util/ArraysSupport"), (0, u "LOG2_ARRAY_LONG_INDEX_SCALE"), (0, u "I"), (2, u "U"), (0, u "Ljdk/internal/misc/Unsafe;"), (8, u "BIG_ENDIAN"), (0, u "Z"), (8, u "LOG2_BYTE_BIT_SIZE"), (4, u "LOG2_ARRAY_INT_INDEX_SCALE"), (54, u "JLA"), (0, u "Ljdk/internal/access/JavaLangAccess;"), (11, u "LOG2_ARRAY_BOOLEAN_INDEX_SCALE"), (9, u "LOG2_ARRAY_BYTE_INDEX_SCALE"), (5, u "LOG2_ARRAY_CHAR_INDEX_SCALE"), (5, u "LOG2_ARRAY_SHORT_INDEX_SCALE"), (18, u "LOG2_ARRAY_FLOAT_INDEX_SCALE"), (24, u "LOG2_ARRAY_DOUBLE_INDEX_SCALE"), (89, u "T_BOOLEAN"), (2, u "T_CHAR"), (1, u "T_FLOAT"), (1, u "T_DOUBLE"), (1, u "T_BYTE"), (1, u "T_SHORT"), (1, u "T_INT"), (1, u "T_LONG"), (1, u "SOFT_MAX_ARRAY_LENGTH")] 83

def k19m0 : Method := { name := "<init>", desc := "()V", sig := { parameters := [], returnType := none }, accessFlags := 2, code := none }
/-- jdk/internal/util/ArraysSupport -/
def k19 : Class := { plain "jdk/internal/util/ArraysSupport" (some 0) with
  accessFlags := 33
  interfaces := #[]
  cf := some (fileOf pool19 21 #[] #[{ accessFlags := 2, nameIndex := 9, descriptorIndex := 19, attributes := #[] }] 33 16 #[] #[{ accessFlags := 24, nameIndex := 28, descriptorIndex := 29, attributes := #[] }, { accessFlags := 26, nameIndex := 38, descriptorIndex := 39, attributes := #[] }, { accessFlags := 25, nameIndex := 121, descriptorIndex := 25, attributes := #[] }, { accessFlags := 25, nameIndex := 131, descriptorIndex := 25, attributes := #[] }, { accessFlags := 25, nameIndex := 137, descriptorIndex := 25, attributes := #[] }, { accessFlags := 25, nameIndex := 143, descriptorIndex := 25, attributes := #[] }, { accessFlags := 25, nameIndex := 53, descriptorIndex := 25, attributes := #[] }, { accessFlags := 25, nameIndex := 24, descriptorIndex := 25, attributes := #[] }, { accessFlags := 25, nameIndex := 162, descriptorIndex := 25, attributes := #[] }, { accessFlags := 25, nameIndex := 187, descriptorIndex := 25, attributes := #[] }, { accessFlags := 26, nameIndex := 48, descriptorIndex := 25, attributes := #[] }, { accessFlags := 25, nameIndex := 277, descriptorIndex := 25, attributes := #[] }, { accessFlags := 25, nameIndex := 280, descriptorIndex := 25, attributes := #[] }, { accessFlags := 25, nameIndex := 282, descriptorIndex := 25, attributes := #[] }, { accessFlags := 25, nameIndex := 284, descriptorIndex := 25, attributes := #[] }, { accessFlags := 25, nameIndex := 286, descriptorIndex := 25, attributes := #[] }, { accessFlags := 25, nameIndex := 288, descriptorIndex := 25, attributes := #[] }, { accessFlags := 25, nameIndex := 290, descriptorIndex := 25, attributes := #[] }, { accessFlags := 25, nameIndex := 292, descriptorIndex := 25, attributes := #[] }, { accessFlags := 26, nameIndex := 108, descriptorIndex := 109, attributes := #[] }, { accessFlags := 25, nameIndex := 294, descriptorIndex := 25, attributes := #[] }])
  fields := #[{ name := "U", type := (.object "jdk/internal/misc/Unsafe"), accessFlags := 24, slot := 0, constantValue := 0 }, { name := "BIG_ENDIAN", type := .boolean, accessFlags := 26, slot := 1, constantValue := 0 }, { name := "LOG2_ARRAY_BOOLEAN_INDEX_SCALE", type := .int, accessFlags := 25, slot := 2, constantValue := 0 }, { name := "LOG2_ARRAY_BYTE_INDEX_SCALE", type := .int, accessFlags := 25, slot := 3, constantValue := 0 }, { name := "LOG2_ARRAY_CHAR_INDEX_SCALE", type := .int, accessFlags := 25, slot := 4, constantValue := 0 }, { name := "LOG2_ARRAY_SHORT_INDEX_SCALE", type := .int, accessFlags := 25, slot := 5, constantValue := 0 }, { name := "LOG2_ARRAY_INT_INDEX_SCALE", type := .int, accessFlags := 25, slot := 6, constantValue := 0 }, { name := "LOG2_ARRAY_LONG_INDEX_SCALE", type := .int, accessFlags := 25, slot := 7, constantValue := 0 }, { name := "LOG2_ARRAY_FLOAT_INDEX_SCALE", type := .int, accessFlags := 25, slot := 8, constantValue := 0 }, { name := "LOG2_ARRAY_DOUBLE_INDEX_SCALE", type := .int, accessFlags := 25, slot := 9, constantValue := 0 }, { name := "LOG2_BYTE_BIT_SIZE", type := .int, accessFlags := 26, slot := 10, constantValue := 0 }, { name := "T_BOOLEAN", type := .int, accessFlags := 25, slot := 11, constantValue := 0 }, { name := "T_CHAR", type := .int, accessFlags := 25, slot := 12, constantValue := 0 }, { name := "T_FLOAT", type := .int, accessFlags := 25, slot := 13, constantValue := 0 }, { name := "T_DOUBLE", type := .int, accessFlags := 25, slot := 14, constantValue := 0 }, { name := "T_BYTE", type := .int, accessFlags := 25, slot := 15, constantValue := 0 }, { name := "T_SHORT", type := .int, accessFlags := 25, slot := 16, constantValue := 0 }, { name := "T_INT", type := .int, accessFlags := 25, slot := 17, constantValue := 0 }, { name := "T_LONG", type := .int, accessFlags := 25, slot := 18, constantValue := 0 }, { name := "JLA", type := (.object "jdk/internal/access/JavaLangAccess"), accessFlags := 26, slot := 19, constantValue := 0 }, { name := "SOFT_MAX_ARRAY_LENGTH", type := .int, accessFlags := 25, slot := 20, constantValue := 0 }]
  methods := #[k19m0]
  instanceTypes := #[]
  staticTypes := #[(.object "jdk/internal/misc/Unsafe"), .boolean, .int, .int, .int, .int, .int, .int, .int, .int, .int, .int, .int, .int, .int, .int, .int, .int, .int, (.object "jdk/internal/access/JavaLangAccess"), .int]
  resolved := Array.replicate 378 none
  statics := none }

/-- the primitive byte -/
def k20 : Class := { plain "byte" none with kind := .primitive 'B', accessFlags := 0x411 }
/-- [B -/
def k21 : Class := { plain "[B" (some 0) with kind := .array 20 .byte, interfaces := #[13, 2], accessFlags := 1041 }

/-- the primitive char -/
def k22 : Class := { plain "char" none with kind := .primitive 'C', accessFlags := 0x411 }
/-- [C -/
def k23 : Class := { plain "[C" (some 0) with kind := .array 22 .char, interfaces := #[13, 2], accessFlags := 1041 }

/-- the primitive int -/
def k24 : Class := { plain "int" none with kind := .primitive 'I', accessFlags := 0x411 }
/-- [I -/
def k25 : Class := { plain "[I" (some 0) with kind := .array 24 .int, interfaces := #[13, 2], accessFlags := 1041 }

def heap : Heap := #[{ cls := 7, slots := #[.long 0, .int 1, .null, .int 0, .null, .int 0, .int 0], vm := .statics 7 },
  { cls := 14, slots := #[.int 0, .int 8, .int 0, .int 1], vm := .statics 14 },
  { cls := 16, slots := #[.null, .null, .null], vm := .statics 16 }]
def classes : Array Class := #[k0, k1, k2, k3, k4, k5, k6, k7, k8, k9, k10, k11, k12, k13, k14, k15, k16, k17, k18, k19, k20, k21, k22, k23, k24, k25]
def interned : List (Array UInt16 × Addr) := []
def slotsUsed : Nat := 14
def theMethod : MethodId := ⟨1, 1⟩
def args0 : Array Value := #[.int 5, .int 3, .int 5, .int 1, .int 4]
def aboutOver (below : List Frame) : State where
  vm := { classes := classes, interned := interned.toArray }
  heap := heap
  slotsUsed := slotsUsed
  threads := #[{ frames := .invoking theMethod args0 :: below }]
def below0 : List Frame := [.native { method := ⟨0, 0⟩, args := #[] }]
def about1 : State := aboutOver below0
def p0 : Program := .bare "" "" ""
def e0 : Env := launch0.env 0 0 0
theorem w_frames : about1.frames = Frame.invoking theMethod args0 :: below0 := rfl
set_option maxRecDepth 65536 in
theorem w_args : argsFit about1.vm theMethod args0 = true := by decide +kernel
set_option maxRecDepth 65536 in
theorem w_heap : heapFits about1 = true := by decide +kernel
set_option maxRecDepth 65536 in
theorem w_runnable : about1.curStatus? = some .runnable := by decide +kernel
set_option maxRecDepth 65536 in
theorem w_alone : about1.alone = true := by decide +kernel
set_option maxRecDepth 65536 in
theorem w_named : about1.methodNamed? x = some theMethod := by decide +kernel
set_option maxRecDepth 65536 in
theorem w_hears : about1.hears theMethod below0 = true := by decide +kernel
set_option maxRecDepth 65536 in
theorem w_ripe : about1.ripe theMethod args0 below0 = true := by decide +kernel
theorem w_running : about1.status = .running := rfl
set_option maxRecDepth 65536 in
theorem w_room : about1.hasRoom e0.platform room_1 = true :=
  launch0.hasRoom_least _ room_1 (by decide +kernel) (by decide +kernel) (by decide +kernel) (by decide +kernel) (by decide +kernel) (by decide +kernel)
theorem allAtoms_all (ts : List Jvm.Cond) (a : Array Jvm.Value) (st : Jvm.State) : (allAtoms ts).before a st = ts.all (fun c => c.before a st) := by
  induction ts with
  | nil => rfl
  | cons c t ih =>
    show (Jvm.Cond.and c (allAtoms t)).before a st = _
    rw [Jvm.Cond.before_and, ih, List.all_cons]
def words1 : List Jvm.Cond := Jvm.Cond.code x code maxLocals ret :: tables_1
/-- a 'code' word, met by the world's own term for the bytes: nothing is compared byte by byte -/
theorem code_word {y : MethodName} {bytes : ByteArray} {mx : Nat} {rt : Option FieldType} {a : Array Value} {s : State} {m : MethodId} {meth : Method} {c : Code} (h1 : s.methodNamed? y = some m) (h2 : s.vm.method? m = some meth) (h3 : meth.code = some c) (h4 : c.code = bytes)
    (h5 : (c.maxLocals == mx && c.exceptionTable.isEmpty && decide (c.maxStack ≤ mostOperands) && decide (meth.sig.returnType = rt) && !meth.locks && decide (parseMethodDescriptor y.desc = some meth.sig)) = true) : (Jvm.Cond.code y bytes mx rt).before a s = true := by
  simp only [Bool.and_eq_true, beq_iff_eq, Bool.not_eq_true', decide_eq_true_eq] at h5
  obtain ⟨⟨⟨⟨⟨g1, g2⟩, g3⟩, g4⟩, g5⟩, g6⟩ := h5
  simp [Cond.before, Cond.holds, Cond.value, h1, h2, h3, h4, g1, g2, g3, g4, g5, g6]
def isCode : Jvm.Cond → Bool
  | .code _ _ _ _ => true
  | _ => false
theorem all_split {L : List Jvm.Cond} {P : Jvm.Cond → Bool} (h1 : L.all (fun c => isCode c || P c) = true) (h2 : ∀ c ∈ L.filter isCode, P c = true) : L.all P = true := by
  refine List.all_eq_true.mpr fun c hc => ?_
  have h := List.all_eq_true.mp h1 c hc
  rcases Bool.eq_false_or_eq_true (isCode c) with hi | hi
  · exact h2 c (List.mem_filter.mpr ⟨hc, hi⟩)
  · simpa [hi] using h
set_option maxRecDepth 65536 in
theorem w_c0 : (Jvm.Cond.code x code maxLocals ret).before args0 about1 = true := code_word (m := ⟨1, 1⟩) (meth := k1m1) (c := k1c1) (by decide +kernel) rfl rfl rfl (by decide +kernel)
set_option maxRecDepth 65536 in
theorem w_c1 : (Jvm.Cond.code ({ cls := "com/example/typeloom/typeloom/ttcn/IdentifiersConvertPinLaw", name := "draw", desc := "(I)C" } : Jvm.MethodName) method_3_code (1 : Nat) (Option.some Jvm.ClassFile.FieldType.char)).before args0 about1 = true := code_word (m := ⟨1, 2⟩) (meth := k1m2) (c := k1c2) (by decide +kernel) rfl rfl rfl (by decide +kernel)
set_option maxRecDepth 65536 in
theorem w_c2 : (Jvm.Cond.code ({ cls := "com/example/typeloom/typeloom/ttcn/IdentifiersConvertPinLaw", name := "make", desc := "(ICCCC)Ljava/lang/String;" } : Jvm.MethodName) method_4_code (5 : Nat) (Option.some (Jvm.ClassFile.FieldType.object "java/lang/String"))).before args0 about1 = true := code_word (m := ⟨1, 3⟩) (meth := k1m3) (c := k1c3) (by decide +kernel) rfl rfl rfl (by decide +kernel)
set_option maxRecDepth 65536 in
theorem w_c3 : (Jvm.Cond.code ({ cls := "java/lang/String", name := "<init>", desc := "([C)V" } : Jvm.MethodName) jdk_42_method_3_code (2 : Nat) (Option.none : Option Jvm.ClassFile.FieldType)).before args0 about1 = true := code_word (m := ⟨7, 1⟩) (meth := k7m1) (c := k7c1) (by decide +kernel) rfl rfl rfl (by decide +kernel)
set_option maxRecDepth 65536 in
theorem w_c4 : (Jvm.Cond.code ({ cls := "java/lang/String", name := "<init>", desc := "([CIILjava/lang/Void;)V" } : Jvm.MethodName) jdk_42_method_149_code (6 : Nat) (Option.none : Option Jvm.ClassFile.FieldType)).before args0 about1 = true := code_word (m := ⟨7, 6⟩) (meth := k7m6) (c := k7c6) (by decide +kernel) rfl rfl rfl (by decide +kernel)
set_option maxRecDepth 65536 in
theorem w_c5 : (Jvm.Cond.code ({ cls := "java/lang/Object", name := "<init>", desc := "()V" } : Jvm.MethodName) object_method_1_code (1 : Nat) (Option.none : Option Jvm.ClassFile.FieldType)).before args0 about1 = true := code_word (m := ⟨0, 0⟩) (meth := k0m0) (c := k0c0) (by decide +kernel) rfl rfl rfl (by decide +kernel)
set_option maxRecDepth 65536 in
theorem w_c6 : (Jvm.Cond.code ({ cls := "com/example/typeloom/typeloom/ttcn/IdentifiersConvertPinLaw", name := "step", desc := "([C[ICZ)V" } : Jvm.MethodName) method_6_code (4 : Nat) (Option.none : Option Jvm.ClassFile.FieldType)).before args0 about1 = true := code_word (m := ⟨1, 5⟩) (meth := k1m5) (c := k1c5) (by decide +kernel) rfl rfl rfl (by decide +kernel)
set_option maxRecDepth 65536 in
theorem w_c7 : (Jvm.Cond.code ({ cls := "com/example/typeloom/typeloom/ttcn/Identifiers", name := "convert", desc := "(Ljava/lang/String;)Ljava/lang/String;" } : Jvm.MethodName) prog_19_method_2_code (6 : Nat) (Option.some (Jvm.ClassFile.FieldType.object "java/lang/String"))).before args0 about1 = true := code_word (m := ⟨8, 1⟩) (meth := k8m1) (c := k8c1) (by decide +kernel) rfl rfl rfl (by decide +kernel)
set_option maxRecDepth 65536 in
theorem w_c8 : (Jvm.Cond.code ({ cls := "java/lang/String", name := "length", desc := "()I" } : Jvm.MethodName) jdk_42_method_54_code (1 : Nat) (Option.some Jvm.ClassFile.FieldType.int)).before args0 about1 = true := code_word (m := ⟨7, 3⟩) (meth := k7m3) (c := k7c3) (by decide +kernel) rfl rfl rfl (by decide +kernel)
set_option maxRecDepth 65536 in
theorem w_c9 : (Jvm.Cond.code ({ cls := "java/lang/String", name := "coder", desc := "()B" } : Jvm.MethodName) jdk_42_method_152_code (1 : Nat) (Option.some Jvm.ClassFile.FieldType.byte)).before args0 about1 = true := code_word (m := ⟨7, 9⟩) (meth := k7m9) (c := k7c9) (by decide +kernel) rfl rfl rfl (by decide +kernel)
set_option maxRecDepth 65536 in
theorem w_c10 : (Jvm.Cond.code ({ cls := "java/lang/StringBuilder", name := "<init>", desc := "(I)V" } : Jvm.MethodName) jdk_67_method_2_code (2 : Nat) (Option.none : Option Jvm.ClassFile.FieldType)).before args0 about1 = true := code_word (m := ⟨11, 1⟩) (meth := k11m1) (c := k11c1) (by decide +kernel) rfl rfl rfl (by decide +kernel)
set_option maxRecDepth 65536 in
theorem w_c11 : (Jvm.Cond.code ({ cls := "java/lang/AbstractStringBuilder", name := "<init>", desc := "(I)V" } : Jvm.MethodName) jdk_68_method_2_code (2 : Nat) (Option.none : Option Jvm.ClassFile.FieldType)).before args0 about1 = true := code_word (m := ⟨10, 1⟩) (meth := k10m1) (c := k10c1) (by decide +kernel) rfl rfl rfl (by decide +kernel)
set_option maxRecDepth 65536 in
theorem w_c12 : (Jvm.Cond.code ({ cls := "java/lang/StringBuilder", name := "length", desc := "()I" } : Jvm.MethodName) jdk_67_method_93_code (1 : Nat) (Option.some Jvm.ClassFile.FieldType.int)).before args0 about1 = true := code_word (m := ⟨11, 6⟩) (meth := k11m6) (c := k11c6) (by decide +kernel) rfl rfl rfl (by decide +kernel)
set_option maxRecDepth 65536 in
theorem w_c13 : (Jvm.Cond.code ({ cls := "java/lang/AbstractStringBuilder", name := "length", desc := "()I" } : Jvm.MethodName) jdk_68_method_6_code (1 : Nat) (Option.some Jvm.ClassFile.FieldType.int)).before args0 about1 = true := code_word (m := ⟨10, 2⟩) (meth := k10m2) (c := k10c2) (by decide +kernel) rfl rfl rfl (by decide +kernel)
set_option maxRecDepth 65536 in
theorem w_c14 : (Jvm.Cond.code ({ cls := "java/lang/StringBuilder", name := "toString", desc := "()Ljava/lang/String;" } : Jvm.MethodName) jdk_67_method_42_code (1 : Nat) (Option.some (Jvm.ClassFile.FieldType.object "java/lang/String"))).before args0 about1 = true := code_word (m := ⟨11, 3⟩) (meth := k11m3) (c := k11c3) (by decide +kernel) rfl rfl rfl (by decide +kernel)
set_option maxRecDepth 65536 in
theorem w_c15 : (Jvm.Cond.code ({ cls := "java/lang/String", name := "<init>", desc := "(Ljava/lang/StringBuilder;)V" } : Jvm.MethodName) jdk_42_method_53_code (2 : Nat) (Option.none : Option Jvm.ClassFile.FieldType)).before args0 about1 = true := code_word (m := ⟨7, 2⟩) (meth := k7m2) (c := k7c2) (by decide +kernel) rfl rfl rfl (by decide +kernel)
set_option maxRecDepth 65536 in
theorem w_c16 : (Jvm.Cond.code ({ cls := "java/lang/String", name := "<init>", desc := "(Ljava/lang/AbstractStringBuilder;Ljava/lang/Void;)V" } : Jvm.MethodName) jdk_42_method_150_code (5 : Nat) (Option.none : Option Jvm.ClassFile.FieldType)).before args0 about1 = true := code_word (m := ⟨7, 7⟩) (meth := k7m7) (c := k7c7) (by decide +kernel) rfl rfl rfl (by decide +kernel)
set_option maxRecDepth 65536 in
theorem w_c17 : (Jvm.Cond.code ({ cls := "java/lang/AbstractStringBuilder", name := "getValue", desc := "()[B" } : Jvm.MethodName) jdk_68_method_64_code (1 : Nat) (Option.some (Jvm.ClassFile.FieldType.array Jvm.ClassFile.FieldType.byte))).before args0 about1 = true := code_word (m := ⟨10, 7⟩) (meth := k10m7) (c := k10c7) (by decide +kernel) rfl rfl rfl (by decide +kernel)
set_option maxRecDepth 65536 in
theorem w_c18 : (Jvm.Cond.code ({ cls := "java/lang/AbstractStringBuilder", name := "isLatin1", desc := "()Z" } : Jvm.MethodName) jdk_68_method_68_code (1 : Nat) (Option.some Jvm.ClassFile.FieldType.boolean)).before args0 about1 = true := code_word (m := ⟨10, 8⟩) (meth := k10m8) (c := k10c8) (by decide +kernel) rfl rfl rfl (by decide +kernel)
set_option maxRecDepth 65536 in
theorem w_c19 : (Jvm.Cond.code ({ cls := "java/util/Arrays", name := "copyOfRange", desc := "([BII)[B" } : Jvm.MethodName) jdk_65_method_132_code (3 : Nat) (Option.some (Jvm.ClassFile.FieldType.array Jvm.ClassFile.FieldType.byte))).before args0 about1 = true := code_word (m := ⟨12, 2⟩) (meth := k12m2) (c := k12c2) (by decide +kernel) rfl rfl rfl (by decide +kernel)
set_option maxRecDepth 65536 in
theorem w_c20 : (Jvm.Cond.code ({ cls := "com/example/typeloom/typeloom/ttcn/IdentifiersConvertPinLaw", name := "same", desc := "(Ljava/lang/String;[CII)Z" } : Jvm.MethodName) method_7_code (4 : Nat) (Option.some Jvm.ClassFile.FieldType.boolean)).before args0 about1 = true := code_word (m := ⟨1, 6⟩) (meth := k1m6) (c := k1c6) (by decide +kernel) rfl rfl rfl (by decide +kernel)
set_option maxRecDepth 65536 in
theorem w_c21 : (Jvm.Cond.code ({ cls := "java/lang/StringUTF16", name := "compress", desc := "([CII)[B" } : Jvm.MethodName) jdk_52_method_16_code (6 : Nat) (Option.some (Jvm.ClassFile.FieldType.array Jvm.ClassFile.FieldType.byte))).before args0 about1 = true := code_word (m := ⟨14, 8⟩) (meth := k14m8) (c := k14c8) (by decide +kernel) rfl rfl rfl (by decide +kernel)
set_option maxRecDepth 65536 in
theorem w_c22 : (Jvm.Cond.code ({ cls := "java/lang/StringUTF16", name := "compress", desc := "([CI[BII)I" } : Jvm.MethodName) jdk_52_method_21_code (7 : Nat) (Option.some Jvm.ClassFile.FieldType.int)).before args0 about1 = true := code_word (m := ⟨14, 9⟩) (meth := k14m9) (c := k14c9) (by decide +kernel) rfl rfl rfl (by decide +kernel)
set_option maxRecDepth 65536 in
theorem w_c23 : (Jvm.Cond.code ({ cls := "java/lang/StringUTF16", name := "coderFromArrayLen", desc := "([BI)B" } : Jvm.MethodName) jdk_52_method_15_code (2 : Nat) (Option.some Jvm.ClassFile.FieldType.byte)).before args0 about1 = true := code_word (m := ⟨14, 7⟩) (meth := k14m7) (c := k14c7) (by decide +kernel) rfl rfl rfl (by decide +kernel)
set_option maxRecDepth 65536 in
theorem w_c24 : (Jvm.Cond.code ({ cls := "com/example/typeloom/typeloom/ttcn/IdentifiersConvertPinLaw", name := "alnum", desc := "(C)Z" } : Jvm.MethodName) method_5_code (1 : Nat) (Option.some Jvm.ClassFile.FieldType.boolean)).before args0 about1 = true := code_word (m := ⟨1, 4⟩) (meth := k1m4) (c := k1c4) (by decide +kernel) rfl rfl rfl (by decide +kernel)
set_option maxRecDepth 65536 in
theorem w_c25 : (Jvm.Cond.code ({ cls := "java/lang/String", name := "charAt", desc := "(I)C" } : Jvm.MethodName) jdk_42_method_56_code (2 : Nat) (Option.some Jvm.ClassFile.FieldType.char)).before args0 about1 = true := code_word (m := ⟨7, 4⟩) (meth := k7m4) (c := k7c4) (by decide +kernel) rfl rfl rfl (by decide +kernel)
set_option maxRecDepth 65536 in
theorem w_c26 : (Jvm.Cond.code ({ cls := "java/lang/String", name := "isLatin1", desc := "()Z" } : Jvm.MethodName) jdk_42_method_154_code (1 : Nat) (Option.some Jvm.ClassFile.FieldType.boolean)).before args0 about1 = true := code_word (m := ⟨7, 10⟩) (meth := k7m10) (c := k7c10) (by decide +kernel) rfl rfl rfl (by decide +kernel)
set_option maxRecDepth 65536 in
theorem w_c27 : (Jvm.Cond.code ({ cls := "java/lang/StringLatin1", name := "charAt", desc := "([BI)C" } : Jvm.MethodName) jdk_43_method_2_code (2 : Nat) (Option.some Jvm.ClassFile.FieldType.char)).before args0 about1 = true := code_word (m := ⟨15, 1⟩) (meth := k15m1) (c := k15c1) (by decide +kernel) rfl rfl rfl (by decide +kernel)
set_option maxRecDepth 65536 in
theorem w_c28 : (Jvm.Cond.code ({ cls := "java/lang/String", name := "checkIndex", desc := "(II)V" } : Jvm.MethodName) jdk_42_method_155_code (2 : Nat) (Option.none : Option Jvm.ClassFile.FieldType)).before args0 about1 = true := code_word (m := ⟨7, 11⟩) (meth := k7m11) (c := k7c11) (by decide +kernel) rfl rfl rfl (by decide +kernel)
set_option maxRecDepth 65536 in
theorem w_c29 : (Jvm.Cond.code ({ cls := "jdk/internal/util/Preconditions", name := "checkIndex", desc := "(IILjava/util/function/BiFunction;)I" } : Jvm.MethodName) jdk_41_method_11_code (3 : Nat) (Option.some Jvm.ClassFile.FieldType.int)).before args0 about1 = true := code_word (m := ⟨16, 1⟩) (meth := k16m1) (c := k16c1) (by decide +kernel) rfl rfl rfl (by decide +kernel)
set_option maxRecDepth 65536 in
theorem w_c30 : (Jvm.Cond.code ({ cls := "com/example/typeloom/typeloom/ttcn/Identifiers", name := "isLetterOrDigit", desc := "(C)Z" } : Jvm.MethodName) prog_19_method_16_code (1 : Nat) (Option.some Jvm.ClassFile.FieldType.boolean)).before args0 about1 = true := code_word (m := ⟨8, 2⟩) (meth := k8m2) (c := k8c2) (by decide +kernel) rfl rfl rfl (by decide +kernel)
set_option maxRecDepth 65536 in
theorem w_c31 : (Jvm.Cond.code ({ cls := "com/example/typeloom/typeloom/ttcn/Identifiers", name := "isDigit", desc := "(C)Z" } : Jvm.MethodName) prog_19_method_17_code (1 : Nat) (Option.some Jvm.ClassFile.FieldType.boolean)).before args0 about1 = true := code_word (m := ⟨8, 3⟩) (meth := k8m3) (c := k8c3) (by decide +kernel) rfl rfl rfl (by decide +kernel)
set_option maxRecDepth 65536 in
theorem w_c32 : (Jvm.Cond.code ({ cls := "java/util/Arrays", name := "copyOfRangeByte", desc := "([BII)[B" } : Jvm.MethodName) jdk_65_method_133_code (5 : Nat) (Option.some (Jvm.ClassFile.FieldType.array Jvm.ClassFile.FieldType.byte))).before args0 about1 = true := code_word (m := ⟨12, 3⟩) (meth := k12m3) (c := k12c3) (by decide +kernel) rfl rfl rfl (by decide +kernel)
set_option maxRecDepth 65536 in
theorem w_c33 : (Jvm.Cond.code ({ cls := "java/util/Arrays", name := "checkLength", desc := "(II)V" } : Jvm.MethodName) jdk_65_method_131_code (2 : Nat) (Option.none : Option Jvm.ClassFile.FieldType)).before args0 about1 = true := code_word (m := ⟨12, 1⟩) (meth := k12m1) (c := k12c1) (by decide +kernel) rfl rfl rfl (by decide +kernel)
set_option maxRecDepth 65536 in
theorem w_c34 : (Jvm.Cond.code ({ cls := "java/lang/Math", name := "min", desc := "(II)I" } : Jvm.MethodName) jdk_29_method_69_code (2 : Nat) (Option.some Jvm.ClassFile.FieldType.int)).before args0 about1 = true := code_word (m := ⟨17, 1⟩) (meth := k17m1) (c := k17c1) (by decide +kernel) rfl rfl rfl (by decide +kernel)
set_option maxRecDepth 65536 in
theorem w_c35 : (Jvm.Cond.code ({ cls := "java/lang/StringBuilder", name := "append", desc := "(C)Ljava/lang/StringBuilder;" } : Jvm.MethodName) jdk_67_method_14_code (2 : Nat) (Option.some (Jvm.ClassFile.FieldType.object "java/lang/StringBuilder"))).before args0 about1 = true := code_word (m := ⟨11, 2⟩) (meth := k11m2) (c := k11c2) (by decide +kernel) rfl rfl rfl (by decide +kernel)
set_option maxRecDepth 65536 in
theorem w_c36 : (Jvm.Cond.code ({ cls := "java/lang/AbstractStringBuilder", name := "append", desc := "(C)Ljava/lang/AbstractStringBuilder;" } : Jvm.MethodName) jdk_68_method_31_code (2 : Nat) (Option.some (Jvm.ClassFile.FieldType.object "java/lang/AbstractStringBuilder"))).before args0 about1 = true := code_word (m := ⟨10, 6⟩) (meth := k10m6) (c := k10c6) (by decide +kernel) rfl rfl rfl (by decide +kernel)
set_option maxRecDepth 65536 in
theorem w_c37 : (Jvm.Cond.code ({ cls := "java/lang/AbstractStringBuilder", name := "ensureCapacityInternal", desc := "(I)V" } : Jvm.MethodName) jdk_68_method_9_code (3 : Nat) (Option.none : Option Jvm.ClassFile.FieldType)).before args0 about1 = true := code_word (m := ⟨10, 3⟩) (meth := k10m3) (c := k10c3) (by decide +kernel) rfl rfl rfl (by decide +kernel)
set_option maxRecDepth 65536 in
theorem w_c38 : (Jvm.Cond.code ({ cls := "java/lang/StringLatin1", name := "canEncode", desc := "(C)Z" } : Jvm.MethodName) jdk_43_method_3_code (1 : Nat) (Option.some Jvm.ClassFile.FieldType.boolean)).before args0 about1 = true := code_word (m := ⟨15, 2⟩) (meth := k15m2) (c := k15c2) (by decide +kernel) rfl rfl rfl (by decide +kernel)
set_option maxRecDepth 65536 in
theorem w_c39 : (Jvm.Cond.code ({ cls := "java/lang/StringBuilder", name := "charAt", desc := "(I)C" } : Jvm.MethodName) jdk_67_method_88_code (2 : Nat) (Option.some Jvm.ClassFile.FieldType.char)).before args0 about1 = true := code_word (m := ⟨11, 4⟩) (meth := k11m4) (c := k11c4) (by decide +kernel) rfl rfl rfl (by decide +kernel)
set_option maxRecDepth 65536 in
theorem w_c40 : (Jvm.Cond.code ({ cls := "java/lang/AbstractStringBuilder", name := "charAt", desc := "(I)C" } : Jvm.MethodName) jdk_68_method_14_code (5 : Nat) (Option.some Jvm.ClassFile.FieldType.char)).before args0 about1 = true := code_word (m := ⟨10, 5⟩) (meth := k10m5) (c := k10c5) (by decide +kernel) rfl rfl rfl (by decide +kernel)
set_option maxRecDepth 65536 in
theorem w_c41 : (Jvm.Cond.code ({ cls := "java/lang/StringBuilder", name := "setLength", desc := "(I)V" } : Jvm.MethodName) jdk_67_method_89_code (2 : Nat) (Option.none : Option Jvm.ClassFile.FieldType)).before args0 about1 = true := code_word (m := ⟨11, 5⟩) (meth := k11m5) (c := k11c5) (by decide +kernel) rfl rfl rfl (by decide +kernel)
set_option maxRecDepth 65536 in
theorem w_c42 : (Jvm.Cond.code ({ cls := "java/lang/AbstractStringBuilder", name := "setLength", desc := "(I)V" } : Jvm.MethodName) jdk_68_method_13_code (2 : Nat) (Option.none : Option Jvm.ClassFile.FieldType)).before args0 about1 = true := code_word (m := ⟨10, 4⟩) (meth := k10m4) (c := k10c4) (by decide +kernel) rfl rfl rfl (by decide +kernel)
set_option maxRecDepth 65536 in
theorem w_c43 : (Jvm.Cond.code ({ cls := "java/lang/StringUTF16", name := "toBytes", desc := "([CII)[B" } : Jvm.MethodName) jdk_52_method_14_code (5 : Nat) (Option.some (Jvm.ClassFile.FieldType.array Jvm.ClassFile.FieldType.byte))).before args0 about1 = true := code_word (m := ⟨14, 6⟩) (meth := k14m6) (c := k14c6) (by decide +kernel) rfl rfl rfl (by decide +kernel)
set_option maxRecDepth 65536 in
theorem w_c44 : (Jvm.Cond.code ({ cls := "java/lang/StringUTF16", name := "newBytesFor", desc := "(I)[B" } : Jvm.MethodName) jdk_52_method_2_code (1 : Nat) (Option.some (Jvm.ClassFile.FieldType.array Jvm.ClassFile.FieldType.byte))).before args0 about1 = true := code_word (m := ⟨14, 1⟩) (meth := k14m1) (c := k14c1) (by decide +kernel) rfl rfl rfl (by decide +kernel)
set_option maxRecDepth 65536 in
theorem w_c45 : (Jvm.Cond.code ({ cls := "java/lang/StringUTF16", name := "newBytesLength", desc := "(I)I" } : Jvm.MethodName) jdk_52_method_3_code (1 : Nat) (Option.some Jvm.ClassFile.FieldType.int)).before args0 about1 = true := code_word (m := ⟨14, 2⟩) (meth := k14m2) (c := k14c2) (by decide +kernel) rfl rfl rfl (by decide +kernel)
set_option maxRecDepth 65536 in
theorem w_c46 : (Jvm.Cond.code ({ cls := "java/lang/StringUTF16", name := "putChar", desc := "([BII)V" } : Jvm.MethodName) jdk_52_method_4_code (3 : Nat) (Option.none : Option Jvm.ClassFile.FieldType)).before args0 about1 = true := code_word (m := ⟨14, 3⟩) (meth := k14m3) (c := k14c3) (by decide +kernel) rfl rfl rfl (by decide +kernel)
set_option maxRecDepth 65536 in
theorem w_c47 : (Jvm.Cond.code ({ cls := "java/lang/StringUTF16", name := "getChar", desc := "([BI)C" } : Jvm.MethodName) jdk_52_method_5_code (2 : Nat) (Option.some Jvm.ClassFile.FieldType.char)).before args0 about1 = true := code_word (m := ⟨14, 4⟩) (meth := k14m4) (c := k14c4) (by decide +kernel) rfl rfl rfl (by decide +kernel)
set_option maxRecDepth 65536 in
theorem w_c48 : (Jvm.Cond.code ({ cls := "java/lang/StringUTF16", name := "charAt", desc := "([BI)C" } : Jvm.MethodName) jdk_52_method_83_code (2 : Nat) (Option.some Jvm.ClassFile.FieldType.char)).before args0 about1 = true := code_word (m := ⟨14, 11⟩) (meth := k14m11) (c := k14c11) (by decide +kernel) rfl rfl rfl (by decide +kernel)
set_option maxRecDepth 65536 in
theorem w_c49 : (Jvm.Cond.code ({ cls := "java/lang/StringUTF16", name := "checkIndex", desc := "(I[B)V" } : Jvm.MethodName) jdk_52_method_91_code (2 : Nat) (Option.none : Option Jvm.ClassFile.FieldType)).before args0 about1 = true := code_word (m := ⟨14, 12⟩) (meth := k14m12) (c := k14c12) (by decide +kernel) rfl rfl rfl (by decide +kernel)
set_option maxRecDepth 65536 in
theorem w_c50 : (Jvm.Cond.code ({ cls := "java/lang/StringUTF16", name := "length", desc := "([B)I" } : Jvm.MethodName) jdk_52_method_6_code (1 : Nat) (Option.some Jvm.ClassFile.FieldType.int)).before args0 about1 = true := code_word (m := ⟨14, 5⟩) (meth := k14m5) (c := k14c5) (by decide +kernel) rfl rfl rfl (by decide +kernel)
set_option maxRecDepth 65536 in
theorem w_c51 : (Jvm.Cond.code ({ cls := "java/lang/String", name := "valueOf", desc := "(C)Ljava/lang/String;" } : Jvm.MethodName) jdk_42_method_139_code (1 : Nat) (Option.some (Jvm.ClassFile.FieldType.object "java/lang/String"))).before args0 about1 = true := code_word (m := ⟨7, 5⟩) (meth := k7m5) (c := k7c5) (by decide +kernel) rfl rfl rfl (by decide +kernel)
set_option maxRecDepth 65536 in
theorem w_c52 : (Jvm.Cond.code ({ cls := "java/lang/StringLatin1", name := "toBytes", desc := "(C)[B" } : Jvm.MethodName) jdk_43_method_46_code (1 : Nat) (Option.some (Jvm.ClassFile.FieldType.array Jvm.ClassFile.FieldType.byte))).before args0 about1 = true := code_word (m := ⟨15, 3⟩) (meth := k15m3) (c := k15c3) (by decide +kernel) rfl rfl rfl (by decide +kernel)
set_option maxRecDepth 65536 in
theorem w_c53 : (Jvm.Cond.code ({ cls := "java/lang/String", name := "<init>", desc := "([BB)V" } : Jvm.MethodName) jdk_42_method_151_code (3 : Nat) (Option.none : Option Jvm.ClassFile.FieldType)).before args0 about1 = true := code_word (m := ⟨7, 8⟩) (meth := k7m8) (c := k7c8) (by decide +kernel) rfl rfl rfl (by decide +kernel)
set_option maxRecDepth 65536 in
theorem w_c54 : (Jvm.Cond.code ({ cls := "java/lang/StringUTF16", name := "toBytes", desc := "(C)[B" } : Jvm.MethodName) jdk_52_method_24_code (2 : Nat) (Option.some (Jvm.ClassFile.FieldType.array Jvm.ClassFile.FieldType.byte))).before args0 about1 = true := code_word (m := ⟨14, 10⟩) (meth := k14m10) (c := k14c10) (by decide +kernel) rfl rfl rfl (by decide +kernel)
def codes1 : List Jvm.Cond := [Jvm.Cond.code x code maxLocals ret, Jvm.Cond.code ({ cls := "com/example/typeloom/typeloom/ttcn/IdentifiersConvertPinLaw", name := "draw", desc := "(I)C" } : Jvm.MethodName) method_3_code (1 : Nat) (Option.some Jvm.ClassFile.FieldType.char), Jvm.Cond.code ({ cls := "com/example/typeloom/typeloom/ttcn/IdentifiersConvertPinLaw", name := "make", desc := "(ICCCC)Ljava/lang/String;" } : Jvm.MethodName) method_4_code (5 : Nat) (Option.some (Jvm.ClassFile.FieldType.object "java/lang/String")), Jvm.Cond.code ({ cls := "java/lang/String", name := "<init>", desc := "([C)V" } : Jvm.MethodName) jdk_42_method_3_code (2 : Nat) (Option.none : Option Jvm.ClassFile.FieldType), Jvm.Cond.code ({ cls := "java/lang/String", name := "<init>", desc := "([CIILjava/lang/Void;)V" } : Jvm.MethodName) jdk_42_method_149_code (6 : Nat) (Option.none : Option Jvm.ClassFile.FieldType), Jvm.Cond.code ({ cls := "java/lang/Object", name := "<init>", desc := "()V" } : Jvm.MethodName) object_method_1_code (1 : Nat) (Option.none : Option Jvm.ClassFile.FieldType), Jvm.Cond.code ({ cls := "com/example/typeloom/typeloom/ttcn/IdentifiersConvertPinLaw", name := "step", desc := "([C[ICZ)V" } : Jvm.MethodName) method_6_code (4 : Nat) (Option.none : Option Jvm.ClassFile.FieldType), Jvm.Cond.code ({ cls := "com/example/typeloom/typeloom/ttcn/Identifiers", name := "convert", desc := "(Ljava/lang/String;)Ljava/lang/String;" } : Jvm.MethodName) prog_19_method_2_code (6 : Nat) (Option.some (Jvm.ClassFile.FieldType.object "java/lang/String")), Jvm.Cond.code ({ cls := "java/lang/String", name := "length", desc := "()I" } : Jvm.MethodName) jdk_42_method_54_code (1 : Nat) (Option.some Jvm.ClassFile.FieldType.int), Jvm.Cond.code ({ cls := "java/lang/String", name := "coder", desc := "()B" } : Jvm.MethodName) jdk_42_method_152_code (1 : Nat) (Option.some Jvm.ClassFile.FieldType.byte), Jvm.Cond.code ({ cls := "java/lang/StringBuilder", name := "<init>", desc := "(I)V" } : Jvm.MethodName) jdk_67_method_2_code (2 : Nat) (Option.none : Option Jvm.ClassFile.FieldType), Jvm.Cond.code ({ cls := "java/lang/AbstractStringBuilder", name := "<init>", desc := "(I)V" } : Jvm.MethodName) jdk_68_method_2_code (2 : Nat) (Option.none : Option Jvm.ClassFile.FieldType), Jvm.Cond.code ({ cls := "java/lang/StringBuilder", name := "length", desc := "()I" } : Jvm.MethodName) jdk_67_method_93_code (1 : Nat) (Option.some Jvm.ClassFile.FieldType.int), Jvm.Cond.code ({ cls := "java/lang/AbstractStringBuilder", name := "length", desc := "()I" } : Jvm.MethodName) jdk_68_method_6_code (1 : Nat) (Option.some Jvm.ClassFile.FieldType.int), Jvm.Cond.code ({ cls := "java/lang/StringBuilder", name := "toString", desc := "()Ljava/lang/String;" } : Jvm.MethodName) jdk_67_method_42_code (1 : Nat) (Option.some (Jvm.ClassFile.FieldType.object "java/lang/String")), Jvm.Cond.code ({ cls := "java/lang/String", name := "<init>", desc := "(Ljava/lang/StringBuilder;)V" } : Jvm.MethodName) jdk_42_method_53_code (2 : Nat) (Option.none : Option Jvm.ClassFile.FieldType), Jvm.Cond.code ({ cls := "java/lang/String", name := "<init>", desc := "(Ljava/lang/AbstractStringBuilder;Ljava/lang/Void;)V" } : Jvm.MethodName) jdk_42_method_150_code (5 : Nat) (Option.none : Option Jvm.ClassFile.FieldType), Jvm.Cond.code ({ cls := "java/lang/AbstractStringBuilder", name := "getValue", desc := "()[B" } : Jvm.MethodName) jdk_68_method_64_code (1 : Nat) (Option.some (Jvm.ClassFile.FieldType.array Jvm.ClassFile.FieldType.byte)), Jvm.Cond.code ({ cls := "java/lang/AbstractStringBuilder", name := "isLatin1", desc := "()Z" } : Jvm.MethodName) jdk_68_method_68_code (1 : Nat) (Option.some Jvm.ClassFile.FieldType.boolean), Jvm.Cond.code ({ cls := "java/util/Arrays", name := "copyOfRange", desc := "([BII)[B" } : Jvm.MethodName) jdk_65_method_132_code (3 : Nat) (Option.some (Jvm.ClassFile.FieldType.array Jvm.ClassFile.FieldType.byte)), Jvm.Cond.code ({ cls := "com/example/typeloom/typeloom/ttcn/IdentifiersConvertPinLaw", name := "same", desc := "(Ljava/lang/String;[CII)Z" } : Jvm.MethodName) method_7_code (4 : Nat) (Option.some Jvm.ClassFile.FieldType.boolean), Jvm.Cond.code ({ cls := "java/lang/StringUTF16", name := "compress", desc := "([CII)[B" } : Jvm.MethodName) jdk_52_method_16_code (6 : Nat) (Option.some (Jvm.ClassFile.FieldType.array Jvm.ClassFile.FieldType.byte)), Jvm.Cond.code ({ cls := "java/lang/StringUTF16", name := "compress", desc := "([CI[BII)I" } : Jvm.MethodName) jdk_52_method_21_code (7 : Nat) (Option.some Jvm.ClassFile.FieldType.int), Jvm.Cond.code ({ cls := "java/lang/StringUTF16", name := "coderFromArrayLen", desc := "([BI)B" } : Jvm.MethodName) jdk_52_method_15_code (2 : Nat) (Option.some Jvm.ClassFile.FieldType.byte), Jvm.Cond.code ({ cls := "com/example/typeloom/typeloom/ttcn/IdentifiersConvertPinLaw", name := "alnum", desc := "(C)Z" } : Jvm.MethodName) method_5_code (1 : Nat) (Option.some Jvm.ClassFile.FieldType.boolean), Jvm.Cond.code ({ cls := "java/lang/String", name := "charAt", desc := "(I)C" } : Jvm.MethodName) jdk_42_method_56_code (2 : Nat) (Option.some Jvm.ClassFile.FieldType.char), Jvm.Cond.code ({ cls := "java/lang/String", name := "isLatin1", desc := "()Z" } : Jvm.MethodName) jdk_42_method_154_code (1 : Nat) (Option.some Jvm.ClassFile.FieldType.boolean), Jvm.Cond.code ({ cls := "java/lang/StringLatin1", name := "charAt", desc := "([BI)C" } : Jvm.MethodName) jdk_43_method_2_code (2 : Nat) (Option.some Jvm.ClassFile.FieldType.char), Jvm.Cond.code ({ cls := "java/lang/String", name := "checkIndex", desc := "(II)V" } : Jvm.MethodName) jdk_42_method_155_code (2 : Nat) (Option.none : Option Jvm.ClassFile.FieldType), Jvm.Cond.code ({ cls := "jdk/internal/util/Preconditions", name := "checkIndex", desc := "(IILjava/util/function/BiFunction;)I" } : Jvm.MethodName) jdk_41_method_11_code (3 : Nat) (Option.some Jvm.ClassFile.FieldType.int), Jvm.Cond.code ({ cls := "com/example/typeloom/typeloom/ttcn/Identifiers", name := "isLetterOrDigit", desc := "(C)Z" } : Jvm.MethodName) prog_19_method_16_code (1 : Nat) (Option.some Jvm.ClassFile.FieldType.boolean), Jvm.Cond.code ({ cls := "com/example/typeloom/typeloom/ttcn/Identifiers", name := "isDigit", desc := "(C)Z" } : Jvm.MethodName) prog_19_method_17_code (1 : Nat) (Option.some Jvm.ClassFile.FieldType.boolean), Jvm.Cond.code ({ cls := "java/util/Arrays", name := "copyOfRangeByte", desc := "([BII)[B" } : Jvm.MethodName) jdk_65_method_133_code (5 : Nat) (Option.some (Jvm.ClassFile.FieldType.array Jvm.ClassFile.FieldType.byte)), Jvm.Cond.code ({ cls := "java/util/Arrays", name := "checkLength", desc := "(II)V" } : Jvm.MethodName) jdk_65_method_131_code (2 : Nat) (Option.none : Option Jvm.ClassFile.FieldType), Jvm.Cond.code ({ cls := "java/lang/Math", name := "min", desc := "(II)I" } : Jvm.MethodName) jdk_29_method_69_code (2 : Nat) (Option.some Jvm.ClassFile.FieldType.int), Jvm.Cond.code ({ cls := "java/lang/StringBuilder", name := "append", desc := "(C)Ljava/lang/StringBuilder;" } : Jvm.MethodName) jdk_67_method_14_code (2 : Nat) (Option.some (Jvm.ClassFile.FieldType.object "java/lang/StringBuilder")), Jvm.Cond.code ({ cls := "java/lang/AbstractStringBuilder", name := "append", desc := "(C)Ljava/lang/AbstractStringBuilder;" } : Jvm.MethodName) jdk_68_method_31_code (2 : Nat) (Option.some (Jvm.ClassFile.FieldType.object "java/lang/AbstractStringBuilder")), Jvm.Cond.code ({ cls := "java/lang/AbstractStringBuilder", name := "ensureCapacityInternal", desc := "(I)V" } : Jvm.MethodName) jdk_68_method_9_code (3 : Nat) (Option.none : Option Jvm.ClassFile.FieldType), Jvm.Cond.code ({ cls := "java/lang/StringLatin1", name := "canEncode", desc := "(C)Z" } : Jvm.MethodName) jdk_43_method_3_code (1 : Nat) (Option.some Jvm.ClassFile.FieldType.boolean), Jvm.Cond.code ({ cls := "java/lang/StringBuilder", name := "charAt", desc := "(I)C" } : Jvm.MethodName) jdk_67_method_88_code (2 : Nat) (Option.some Jvm.ClassFile.FieldType.char), Jvm.Cond.code ({ cls := "java/lang/AbstractStringBuilder", name := "charAt", desc := "(I)C" } : Jvm.MethodName) jdk_68_method_14_code (5 : Nat) (Option.some Jvm.ClassFile.FieldType.char), Jvm.Cond.code ({ cls := "java/lang/StringBuilder", name := "setLength", desc := "(I)V" } : Jvm.MethodName) jdk_67_method_89_code (2 : Nat) (Option.none : Option Jvm.ClassFile.FieldType), Jvm.Cond.code ({ cls := "java/lang/AbstractStringBuilder", name := "setLength", desc := "(I)V" } : Jvm.MethodName) jdk_68_method_13_code (2 : Nat) (Option.none : Option Jvm.ClassFile.FieldType), Jvm.Cond.code ({ cls := "java/lang/StringUTF16", name := "toBytes", desc := "([CII)[B" } : Jvm.MethodName) jdk_52_method_14_code (5 : Nat) (Option.some (Jvm.ClassFile.FieldType.array Jvm.ClassFile.FieldType.byte)), Jvm.Cond.code ({ cls := "java/lang/StringUTF16", name := "newBytesFor", desc := "(I)[B" } : Jvm.MethodName) jdk_52_method_2_code (1 : Nat) (Option.some (Jvm.ClassFile.FieldType.array Jvm.ClassFile.FieldType.byte)), Jvm.Cond.code ({ cls := "java/lang/StringUTF16", name := "newBytesLength", desc := "(I)I" } : Jvm.MethodName) jdk_52_method_3_code (1 : Nat) (Option.some Jvm.ClassFile.FieldType.int), Jvm.Cond.code ({ cls := "java/lang/StringUTF16", name := "putChar", desc := "([BII)V" } : Jvm.MethodName) jdk_52_method_4_code (3 : Nat) (Option.none : Option Jvm.ClassFile.FieldType), Jvm.Cond.code ({ cls := "java/lang/StringUTF16", name := "getChar", desc := "([BI)C" } : Jvm.MethodName) jdk_52_method_5_code (2 : Nat) (Option.some Jvm.ClassFile.FieldType.char), Jvm.Cond.code ({ cls := "java/lang/StringUTF16", name := "charAt", desc := "([BI)C" } : Jvm.MethodName) jdk_52_method_83_code (2 : Nat) (Option.some Jvm.ClassFile.FieldType.char), Jvm.Cond.code ({ cls := "java/lang/StringUTF16", name := "checkIndex", desc := "(I[B)V" } : Jvm.MethodName) jdk_52_method_91_code (2 : Nat) (Option.none : Option Jvm.ClassFile.FieldType), Jvm.Cond.code ({ cls := "java/lang/StringUTF16", name := "length", desc := "([B)I" } : Jvm.MethodName) jdk_52_method_6_code (1 : Nat) (Option.some Jvm.ClassFile.FieldType.int), Jvm.Cond.code ({ cls := "java/lang/String", name := "valueOf", desc := "(C)Ljava/lang/String;" } : Jvm.MethodName) jdk_42_method_139_code (1 : Nat) (Option.some (Jvm.ClassFile.FieldType.object "java/lang/String")), Jvm.Cond.code ({ cls := "java/lang/StringLatin1", name := "toBytes", desc := "(C)[B" } : Jvm.MethodName) jdk_43_method_46_code (1 : Nat) (Option.some (Jvm.ClassFile.FieldType.array Jvm.ClassFile.FieldType.byte)), Jvm.Cond.code ({ cls := "java/lang/String", name := "<init>", desc := "([BB)V" } : Jvm.MethodName) jdk_42_method_151_code (3 : Nat) (Option.none : Option Jvm.ClassFile.FieldType), Jvm.Cond.code ({ cls := "java/lang/StringUTF16", name := "toBytes", desc := "(C)[B" } : Jvm.MethodName) jdk_52_method_24_code (2 : Nat) (Option.some (Jvm.ClassFile.FieldType.array Jvm.ClassFile.FieldType.byte))]
set_option maxRecDepth 65536 in
theorem codes_eq : words1.filter isCode = codes1 := rfl
theorem w_codes : ∀ c ∈ words1.filter isCode, c.before args0 about1 = true := by
  rw [codes_eq]
  intro c hc
  simp only [codes1, List.mem_cons, List.not_mem_nil, or_false] at hc
  rcases hc with rfl | rfl | rfl | rfl | rfl | rfl | rfl | rfl | rfl | rfl | rfl | rfl | rfl | rfl | rfl | rfl | rfl | rfl | rfl | rfl | rfl | rfl | rfl | rfl | rfl | rfl | rfl | rfl | rfl | rfl | rfl | rfl | rfl | rfl | rfl | rfl | rfl | rfl | rfl | rfl | rfl | rfl | rfl | rfl | rfl | rfl | rfl | rfl | rfl | rfl | rfl | rfl | rfl | rfl | rfl
  · exact w_c0
  · exact w_c1
  · exact w_c2
  · exact w_c3
  · exact w_c4
  · exact w_c5
  · exact w_c6
  · exact w_c7
  · exact w_c8
  · exact w_c9
  · exact w_c10
  · exact w_c11
  · exact w_c12
  · exact w_c13
  · exact w_c14
  · exact w_c15
  · exact w_c16
  · exact w_c17
  · exact w_c18
  · exact w_c19
  · exact w_c20
  · exact w_c21
  · exact w_c22
  · exact w_c23
  · exact w_c24
  · exact w_c25
  · exact w_c26
  · exact w_c27
  · exact w_c28
  · exact w_c29
  · exact w_c30
  · exact w_c31
  · exact w_c32
  · exact w_c33
  · exact w_c34
  · exact w_c35
  · exact w_c36
  · exact w_c37
  · exact w_c38
  · exact w_c39
  · exact w_c40
  · exact w_c41
  · exact w_c42
  · exact w_c43
  · exact w_c44
  · exact w_c45
  · exact w_c46
  · exact w_c47
  · exact w_c48
  · exact w_c49
  · exact w_c50
  · exact w_c51
  · exact w_c52
  · exact w_c53
  · exact w_c54
set_option maxRecDepth 65536 in
theorem w_t1 : (words1.take 24).all (fun c => isCode c || c.before args0 about1) = true := by decide +kernel
set_option maxRecDepth 65536 in
theorem w_t2 : ((words1.drop 24).take 24).all (fun c => isCode c || c.before args0 about1) = true := by decide +kernel
set_option maxRecDepth 65536 in
theorem w_t3 : (((words1.drop 24).drop 24).take 24).all (fun c => isCode c || c.before args0 about1) = true := by decide +kernel
set_option maxRecDepth 65536 in
theorem w_t4 : ((((words1.drop 24).drop 24).drop 24).take 24).all (fun c => isCode c || c.before args0 about1) = true := by decide +kernel
set_option maxRecDepth 65536 in
theorem w_t5 : (((((words1.drop 24).drop 24).drop 24).drop 24).take 24).all (fun c => isCode c || c.before args0 about1) = true := by decide +kernel
set_option maxRecDepth 65536 in
theorem w_t6 : ((((((words1.drop 24).drop 24).drop 24).drop 24).drop 24).take 24).all (fun c => isCode c || c.before args0 about1) = true := by decide +kernel
set_option maxRecDepth 65536 in
theorem w_t7 : (((((((words1.drop 24).drop 24).drop 24).drop 24).drop 24).drop 24).take 24).all (fun c => isCode c || c.before args0 about1) = true := by decide +kernel
set_option maxRecDepth 65536 in
theorem w_t8 : ((((((((words1.drop 24).drop 24).drop 24).drop 24).drop 24).drop 24).drop 24).take 24).all (fun c => isCode c || c.before args0 about1) = true := by decide +kernel
set_option maxRecDepth 65536 in
theorem w_t9 : (((((((((words1.drop 24).drop 24).drop 24).drop 24).drop 24).drop 24).drop 24).drop 24).take 24).all (fun c => isCode c || c.before args0 about1) = true := by decide +kernel
set_option maxRecDepth 65536 in
theorem w_t10 : ((((((((((words1.drop 24).drop 24).drop 24).drop 24).drop 24).drop 24).drop 24).drop 24).drop 24).take 24).all (fun c => isCode c || c.before args0 about1) = true := by decide +kernel
set_option maxRecDepth 65536 in
theorem w_t11 : ((((((((((words1.drop 24).drop 24).drop 24).drop 24).drop 24).drop 24).drop 24).drop 24).drop 24).drop 24).all (fun c => isCode c || c.before args0 about1) = true := by decide +kernel
theorem w_tables : (allAtoms (Jvm.Cond.code x code maxLocals ret :: tables_1)).before args0 about1 = true := by
  rw [allAtoms_all]
  show words1.all (fun c => c.before args0 about1) = true
  refine all_split ?_ w_codes
  rw [← List.take_append_drop 24 words1, List.all_append, w_t1, ← List.take_append_drop 24 (words1.drop 24), List.all_append, w_t2, ← List.take_append_drop 24 ((words1.drop 24).drop 24), List.all_append, w_t3, ← List.take_append_drop 24 (((words1.drop 24).drop 24).drop 24), List.all_append, w_t4, ← List.take_append_drop 24 ((((words1.drop 24).drop 24).drop 24).drop 24), List.all_append, w_t5, ← List.take_append_drop 24 (((((words1.drop 24).drop 24).drop 24).drop 24).drop 24), List.all_append, w_t6, ← List.take_append_drop 24 ((((((words1.drop 24).drop 24).drop 24).drop 24).drop 24).drop 24), List.all_append, w_t7, ← List.take_append_drop 24 (((((((words1.drop 24).drop 24).drop 24).drop 24).drop 24).drop 24).drop 24), List.all_append, w_t8, ← List.take_append_drop 24 ((((((((words1.drop 24).drop 24).drop 24).drop 24).drop 24).drop 24).drop 24).drop 24), List.all_append, w_t9, ← List.take_append_drop 24 (((((((((words1.drop 24).drop 24).drop 24).drop 24).drop 24).drop 24).drop 24).drop 24).drop 24), List.all_append, w_t10, w_t11]
  rfl
set_option maxRecDepth 65536 in
theorem w_rest : rest_1_c.before args0 about1 = true := by decide +kernel
set_option maxRecDepth 65536 in
theorem w_case : (Jvm.Cond.and given_1 narrow_1).before args0 about1 = true := by decide +kernel
set_option maxRecDepth 65536 in
theorem w_consts : constsHeld consts_1 about1 := Jvm.Lit.constsHeldB_iff.mp (by decide +kernel)
theorem w_applies : (headSpec (Jvm.Cond.code x code maxLocals ret :: tables_1) room_1).applies x e0.platform about1 = true :=
  (Spec.applies_iff w_frames).mpr ⟨w_running, w_runnable, w_alone, w_named, w_hears, w_ripe, w_room, w_tables⟩
theorem atStart : AtStart classFile x code maxLocals ret World_1 tables_1 room_1 Calls_1 rest_1 Pre_1 launch0 p0 e0 about1 theMethod args0 below0 :=
  ⟨lists_1, trivial, launch0.admits_env _ _ _, launch0.least_env, fairChoices_fair.cas, fairChoices_fair.clock, w_frames, w_args, w_heap, w_applies, ⟨w_consts, trivial⟩, w_rest, w_case⟩
end start1
theorem witness_1 : WitnessClaimed_1 := ⟨start1.p0, start1.e0, start1.about1, start1.theMethod, start1.args0, start1.below0, start1.atStart⟩
end Jvm.Pilot.@@N@@
