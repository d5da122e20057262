import JvmDerived
import JvmDerived.Pilot.@@N@@Statement
import JvmDerived.Pilot.@@N@@Code
set_option linter.unusedVariables false
set_option linter.unusedSimpArgs false
namespace Jvm.RoadKit
open Sem ClassFile Op Lib Jvm.Stand Jvm.Free Jvm.LawKit
section New
variable {p : Program} {l : Launch} {e : Env} {R : Room} {s : State} {m : MethodId} {args : Array Value} {below : List Frame} {meth : Method} {c : Code} {T : State} {locs : List Loc} {cells slots : Nat}
theorem retI (X : Stand p l e R s m args below meth c T locs cells slots) (hx : p.tables.exec = Jvm.exec) {pc : Nat} {Ls : Array Slot} {z : Int32} {rest : List Value} (hret : meth.sig.returnType = some .int) (hd : decode c.code pc = .ok (.ireturn, 1)) {fs : List Frame}
    (hl : ∀ (f : JFrame) (acts : List Action), f.method = m → f.locked = none → f.entered = [] → (doReturn e (T.setTop f) acts (some (.int z))).1 = T.setFrames fs) : Steps p.tables e below (T.setTop (mkF m pc Ls (.int z :: rest))) (T.setFrames fs) := by
  have hm' : T.vm.method? m = some meth := X.method'
  have hn : narrow .int (.int z) = .int z := rfl
  show Steps p.tables e below (T.setTop { method := m, pc := pc, locals := Ls, stack := _ :: rest, locked := none }) _
  jvm_step X.here [X.here.top, hx, hd, hm', hret, hn]
  first | (intro acts; rw [hl _ acts rfl rfl rfl]) | rw [hl _ _ rfl rfl rfl]
  exact Steps.refl _
end New
end Jvm.RoadKit
namespace Jvm.Pilot.@@N@@
open Jvm Jvm.ClassFile Sem Op Lib Jvm.Free Jvm.Stand Jvm.LawKit Jvm.RoadKit Bundle Jvm.Pilot.@@N@@.Jvm.D
-- OWN CORE: a calculus of runs over the library's Stand (lawnew's family)
abbrev OCtx := Program × Launch × Env × State × MethodId × Array Value × List Frame × Method × Code
def OCtx.p (C : OCtx) : Program := C.1
def OCtx.l (C : OCtx) : Launch := C.2.1
def OCtx.e (C : OCtx) : Env := C.2.2.1
def OCtx.s (C : OCtx) : State := C.2.2.2.1
def OCtx.m (C : OCtx) : MethodId := C.2.2.2.2.1
def OCtx.args (C : OCtx) : Array Value := C.2.2.2.2.2.1
def OCtx.below (C : OCtx) : List Frame := C.2.2.2.2.2.2.1
def OCtx.meth (C : OCtx) : Method := C.2.2.2.2.2.2.2.1
def OCtx.c (C : OCtx) : Code := C.2.2.2.2.2.2.2.2
-- a body: its class, bytes, locals, return type, name, room
abbrev OInfo := String × ByteArray × Nat × Option FieldType × String × Room
abbrev OInfo.own (I : OInfo) : String := I.1
abbrev OInfo.bytes (I : OInfo) : ByteArray := I.2.1
abbrev OInfo.ml (I : OInfo) : Nat := I.2.2.1
abbrev OInfo.ret (I : OInfo) : Option FieldType := I.2.2.2.1
abbrev OInfo.mn (I : OInfo) : String := I.2.2.2.2.1
abbrev OInfo.R (I : OInfo) : Room := I.2.2.2.2.2
-- where a run stands
def oK (C : OCtx) (s0 : State) (Z : State) (n0 : Nat) (I : OInfo) (T : State) (locs : List Loc) (cs sl : Nat) (h : Heap) : Prop :=
  Stand C.p C.l C.e I.R s0 C.m C.args C.below C.meth C.c T locs cs sl ∧ C.p.tables.exec = Jvm.exec ∧ Z.Warmed39 s0.vm ∧ s0.vm.findClass I.own = some C.m.cls ∧ C.c.code = I.bytes ∧ C.c.maxLocals = I.ml ∧
  C.meth.sig.returnType = I.ret ∧ C.meth.name = I.mn ∧ C.meth.locks = false ∧ T.heap = h ∧ Fr n0 locs ∧ Old Z n0 h
theorem o_fresh {a b : Addr} {h : Heap} (q : a < h.size) (g : b = h.size) : a ≠ b := fun e => by subst e; rw [g] at q; exact Nat.lt_irrefl _ q
theorem o_fresh' {a b : Addr} {n : Nat} (q : a < n) (g : n ≤ b) : a ≠ b := fun e => by subst e; exact Nat.lt_irrefl _ (Nat.lt_of_lt_of_le q g)
theorem o_le {Z : State} {n0 : Nat} {h : Heap} (O : Old Z n0 h) : n0 ≤ h.size := O.1 ▸ O.2.1
-- what goes along: the tables' literals say their texts; ws: cells that no literal holds
def wX (C : OCtx) (Z : State) (EL : List (String × Nat)) (ws : List Addr) (vm0 : Vm) (h : Heap) : Prop := (∃ a0, EW Z a0 EL) ∧ (∃ k0, C.s.Since vm0 k0 ∧ k0 ≤ h.size) ∧ CHr Z EL C.s.vm C.s.heap vm0 h ∧ ∀ x ∈ ws, Safe Z EL vm0 h x ∧ x < h.size
def oH (Q : Option Value → Heap → Prop) : Option Value → Vm → Heap → Prop := fun v _ h => Q v h
def oR (Z : State) (EL : List (String × Nat)) (Q : Option Value → Heap → List Addr → Prop) : Option Value → Vm → Heap → Prop := fun v vm h => ∃ rs, Q v h rs ∧ ∀ x ∈ rs, Safe Z EL vm h x ∧ x < h.size
def oRunG (C : OCtx) (Z : State) (n0 : Nat) (I : OInfo) (EL : List (String × Nat)) (ws : List Addr) (G : Option Value → Vm → Heap → Prop) (h : Heap) (cs sl : Nat) (g : JFrame) : Prop :=
  ∀ vm0 T locs, oK C (C.s.setVm vm0) Z n0 I T locs cs sl h → wX C Z EL ws vm0 h → ∃ t o, Steps C.p.tables C.e C.below (T.setTop g) t ∧ t.status = .running ∧ Ended t C.below o ∧ (∃ v L, o = .returned v ∧ (Fr n0 L ∧ Old Z n0 t.heap ∧ G v t.vm t.heap) ∧ CHr Z EL C.s.vm C.s.heap t.vm t.heap ∧ ReturnedEndW C.s o t L I.R.cells I.R.slots)
abbrev oRun (C : OCtx) (Z : State) (n0 : Nat) (I : OInfo) (EL : List (String × Nat)) (ws : List Addr) (Q : Option Value → Heap → Prop) (h : Heap) (cs sl : Nat) (g : JFrame) : Prop := oRunG C Z n0 I EL ws (oH Q) h cs sl g
def oConG (l : Launch) (Z : State) (n0 : Nat) (EL : List (String × Nat)) (ws : List Addr) (y : MethodName) (I : OInfo) (as' : Array Value) (h0 : Heap) (G : Option Value → Vm → Heap → Prop) : Prop :=
  Old Z n0 h0 → ∀ wc, MetFree l y (head1 (Jvm.Cond.code y I.bytes I.ml I.ret :: wc) I.R) (fun a U => a = as' ∧ Z.Warmed39 U.vm ∧ U.heap = h0 ∧ CHv Z EL U.vm h0 ∧ ∀ x ∈ ws, Safe Z EL U.vm h0 x ∧ x < h0.size) (fun _ _ _ _ _ => True)
    (fun _ U o U' => ∃ v L, o = .returned v ∧ (Fr n0 L ∧ Old Z n0 U'.heap ∧ G v U'.vm U'.heap) ∧ CHr Z EL U.vm U.heap U'.vm U'.heap ∧ ReturnedEndW U o U' L I.R.cells I.R.slots)
abbrev oCon (l : Launch) (Z : State) (n0 : Nat) (EL : List (String × Nat)) (ws : List Addr) (y : MethodName) (I : OInfo) (as' : Array Value) (h0 : Heap) (Q : Option Value → Heap → Prop) : Prop := oConG l Z n0 EL ws y I as' h0 (oH Q)
theorem oCon.mk {l : Launch} {Z : State} {n0 : Nat} {EL : List (String × Nat)} {ws : List Addr} {y : MethodName} {I : OInfo} {as' : Array Value} {h0 : Heap} {G : Option Value → Vm → Heap → Prop} {a0 : Array Value} (hEL : EW Z a0 EL) (hp : plainFor y = true) (hy1 : y.cls = I.own) (hy2 : y.name = I.mn) {Ls : Array Slot} (ef : ∀ m, entryFrame m as' I.ml = mkF m 0 Ls [])
    (body : ∀ C : OCtx, C.l = l → oRunG C Z n0 I EL ws G h0 0 0 (mkF C.m 0 Ls [])) : oConG l Z n0 EL ws y I as' h0 G := by
  intro hn wc
  refine MetFree.of_bodySF hp hisR ?_
  intro p e s m args below meth c s₁ Bd hml0 hP hK
  obtain ⟨rfl, hZ, hh, hC, hS⟩ := hP
  have hown : s.vm.findClass I.own = some m.cls := by rw [← hy1]; exact findClass_of_methodNamed Bd.named
  have hnm : meth.name = I.mn := by rw [← hy2]; exact (name_of_methodNamed Bd.named Bd.method).1
  have e0 : s₁.heap = h0 := by rw [← hh, Bd.state]; rfl
  have X0 : Stand p l e I.R s m args below meth c s₁ [] 0 0 := Stand.of_body Bd
  subst hh
  have r := body (p, l, e, s, m, args, below, meth, c) rfl s.vm s₁ [] ⟨X0, Bd.exec, hZ, hown, Bd.bytes, hml0, Bd.returns, hnm, Bd.notSynchronized, e0, Fr.nil n0, hn⟩ ⟨⟨a0, hEL⟩, ⟨0, (State.WarmedH.refl s).since 0, Nat.zero_le _⟩, CHr.refl hC, hS⟩
  obtain ⟨t, o, h1, h2, h3, h4⟩ := r
  refine ⟨t, o, castTop (ef m) h1, h2, h3, h4⟩
theorem wX.step {C : OCtx} {Z : State} {EL : List (String × Nat)} {ws : List Addr} {vm0 vm1 : Vm} {h h' : Heap} (V : wX C Z EL ws vm0 h) (R : CHr Z EL vm0 h vm1 h') (S : ∃ k0, C.s.Since vm1 k0 ∧ k0 ≤ h'.size) : wX C Z EL ws vm1 h' :=
  ⟨V.1, S, V.2.2.1.trans R, fun x hx => ⟨R.safe (V.2.2.2 x hx).2 (V.2.2.2 x hx).1, Nat.lt_of_lt_of_le (V.2.2.2 x hx).2 R.2.1⟩⟩
theorem wX.move {C : OCtx} {Z : State} {EL : List (String × Nat)} {ws : List Addr} {vm0 : Vm} {h h' : Heap} (V : wX C Z EL ws vm0 h) (R : CHr Z EL vm0 h vm0 h') : wX C Z EL ws vm0 h' := by
  obtain ⟨k0, q1, q2⟩ := V.2.1
  exact V.step R ⟨k0, q1, Nat.le_trans q2 R.2.1⟩
theorem wX.wr {C : OCtx} {Z : State} {EL : List (String × Nat)} {ws : List Addr} {vm0 : Vm} {h h' : Heap} {a : Addr} {sl : Nat} {v : Value} (V : wX C Z EL ws vm0 h) (W : Wr h h' a sl v) (hs : a ∈ ws) : wX C Z EL ws vm0 h' := V.move (CHr.wr W (V.2.2.2 a hs).1 V.2.2.1.1)
theorem wX.ext {C : OCtx} {Z : State} {EL : List (String × Nat)} {ws : List Addr} {vm0 : Vm} {h h' : Heap} (V : wX C Z EL ws vm0 h) (E : Ext h h') : wX C Z EL ws vm0 h' := V.move (CHr.ext E V.2.2.1.1)
theorem wX.new {C : OCtx} {Z : State} {EL : List (String × Nat)} {ws : List Addr} {vm0 : Vm} {h h' : Heap} {a : Addr} (V : wX C Z EL ws vm0 h) (E : Ext h h') (ha : a = h.size) (hlt : a < h'.size) : wX C Z EL (a :: ws) vm0 h' := by
  have V' := V.ext E
  refine ⟨V'.1, V'.2.1, V'.2.2.1, fun x hx => ?_⟩
  rcases List.mem_cons.mp hx with rfl | hx
  · exact ⟨Safe.ext E V.2.2.1.1 (Safe.new (Nat.le_of_eq ha.symm)), hlt⟩
  · exact V'.2.2.2 x hx
theorem wX.sub {C : OCtx} {Z : State} {EL : List (String × Nat)} {ws ws' : List Addr} {vm0 : Vm} {h : Heap} (V : wX C Z EL ws vm0 h) (q : ∀ x ∈ ws', x ∈ ws) : wX C Z EL ws' vm0 h := ⟨V.1, V.2.1, V.2.2.1, fun x hx => V.2.2.2 x (q x hx)⟩
-- a callee's contract pays a call (over the library's BackS.of_freeW)
theorem o_back {p : Program} {l : Launch} {e : Env} {R : Room} {s : State} {args : Array Value} {below : List Frame} {Z : State} {a0 : Array Value} {EL : List (String × Nat)} {ws : List Addr} {h : Heap} {vm0 : Vm} {n0 : Nat} {y : MethodName} {J : OInfo} {W : Nat} {as' : Array Value} {G : Option Value → Vm → Heap → Prop}
    (hM : oConG l Z n0 EL ws y J as' h G) (hn : Old Z n0 h) (hZ : Z.Warmed39 vm0) (wc : (Jvm.Cond.code y J.bytes J.ml J.ret).before a0 Z = true) (wz : (Jvm.Cond.initialized y.cls).before a0 Z = true) (hf : J.R.frames + 1 ≤ R.frames) (hl : W + (J.ml + 11) + J.R.locals ≤ R.locals) {a1 : Array Value} (hEL : EW Z a1 EL) (H : CHv Z EL vm0 h) (hS : ∀ x ∈ ws, Safe Z EL vm0 h x ∧ x < h.size) {len : Nat} :
    BackS l R p e below (s.setVm vm0) args y len W (fun A a => a = as' ∧ A.U.heap = h ∧ A.cells + J.R.cells ≤ R.cells ∧ A.slots + J.R.slots ≤ R.slots)
      (fun A _ v B => ∃ L, (Fr n0 L ∧ Old Z n0 B.U.heap ∧ G v B.U.vm B.U.heap) ∧ B.locs = A.locs ++ L ∧ B.cells = A.cells + J.R.cells ∧ B.slots = A.slots + J.R.slots ∧ CHr Z EL vm0 h B.U.vm B.U.heap) :=
  BackS.of_freeW (bytes := J.bytes) (maxL := J.ml) (ret := J.ret) (E := fun _ first o t L k n => k = J.R.cells ∧ n = J.R.slots ∧ (∃ v, o = .returned v ∧ (Fr n0 L ∧ Old Z n0 t.heap ∧ G v t.vm t.heap)) ∧ CHr Z EL first.vm first.heap t.vm t.heap) (hM hn []) hf hl
    (fun m meth c A a Y hp => by
      have hU : Z.Warmed39 A.U.vm := wtrans (s := s.setVm vm0) hZ Y.warmed
      refine ⟨?_, mv hU wc, mv hU wz, hp.2.2.1, hp.2.2.2⟩
      show (Jvm.Cond.and _ .tt).before a A.U = true
      rw [Cond.before_and, mv hU wc]; rfl)
    (fun m meth c A a g mk Y hp => ⟨hp.1, wtrans (s := s.setVm vm0) hZ Y.warmed, hp.2.1, (CHv.at Y hZ hEL H).1, fun x hx => ⟨(CHv.at Y hZ hEL H).safe (hS x hx).2 (hS x hx).1, (hS x hx).2⟩⟩) (fun _ _ _ _ _ _ _ _ _ => trivial)
    (fun _ _ _ _ q => by obtain ⟨v, L, h1, h2, h3, h4⟩ := q; exact ⟨L, _, _, h4, rfl, rfl, ⟨v, h1, h2⟩, h3⟩)
    (fun m meth c A a g mk v t L k n Y hp _ _ q => by
      obtain ⟨e1, e2, ⟨v', e3, e4⟩, e5⟩ := q
      cases e3; subst e1 e2
      refine ⟨L, e4, rfl, rfl, rfl, (CHv.at Y hZ hEL H).trans ?_⟩
      rw [← hp.2.1]; exact e5)
theorem wX.add {C : OCtx} {Z : State} {EL : List (String × Nat)} {ws rs : List Addr} {vm0 : Vm} {h : Heap} (V : wX C Z EL ws vm0 h) (q : ∀ x ∈ rs, Safe Z EL vm0 h x ∧ x < h.size) : wX C Z EL (rs ++ ws) vm0 h := ⟨V.1, V.2.1, V.2.2.1, fun x hx => (List.mem_append.mp hx).elim (q x) (V.2.2.2 x)⟩
section OwnCore
variable {C : OCtx} {Z : State} {n0 : Nat} {I : OInfo} {EL : List (String × Nat)} {ws : List Addr} {G : Option Value → Vm → Heap → Prop} {Q : Option Value → Heap → Prop} {h : Heap} {cs sl pc pc' : Nat} {L : Array Slot} {S : List Value} {x y : Int32}
theorem oStep {g g' : JFrame} (st : ∀ {s0 : State} T locs, oK C s0 Z n0 I T locs cs sl h → ∀ t, Steps C.p.tables C.e C.below (T.setTop g') t → Steps C.p.tables C.e C.below (T.setTop g) t) (r : oRunG C Z n0 I EL ws G h cs sl g') : oRunG C Z n0 I EL ws G h cs sl g := by
  intro vm0 T locs K V
  obtain ⟨t, o, h1, h2⟩ := r vm0 T locs K V
  exact ⟨t, o, st T locs K t h1, h2⟩
theorem oMove {g g' : JFrame} (st : ∀ {s0 : State} T locs, oK C s0 Z n0 I T locs cs sl h → ∃ T' locs', oK C s0 Z n0 I T' locs' cs sl h ∧ ∀ t, Steps C.p.tables C.e C.below (T'.setTop g') t → Steps C.p.tables C.e C.below (T.setTop g) t) (r : oRunG C Z n0 I EL ws G h cs sl g') : oRunG C Z n0 I EL ws G h cs sl g := by
  intro vm0 T locs K V
  obtain ⟨T', locs', K', st'⟩ := st T locs K
  obtain ⟨t, o, h1, h2⟩ := r vm0 T' locs' K' V
  exact ⟨t, o, st' t h1, h2⟩
theorem s_aloadN {k : Fin 4} {v : Value} (hd : decode I.bytes pc = .ok (.aload_n k, 1)) (hq : pc + 1 = pc') (hl : L[k.val]? = some (.val v)) (hv : v.isRef = true) (r : oRunG C Z n0 I EL ws G h cs sl (mkF C.m pc' L (v :: S))) : oRunG C Z n0 I EL ws G h cs sl (mkF C.m pc L S) := by
  subst hq; exact oStep (fun T locs K t kt => XS.aloadN K.1.here K.2.1 rfl (hb K.2.2.2.2.1 hd) hl hv kt) r
theorem s_aload {k : Nat} {v : Value} (hd : decode I.bytes pc = .ok (.aload k, 2)) (hq : pc + 2 = pc') (hl : L[k]? = some (.val v)) (hv : v.isRef = true) (r : oRunG C Z n0 I EL ws G h cs sl (mkF C.m pc' L (v :: S))) : oRunG C Z n0 I EL ws G h cs sl (mkF C.m pc L S) := by
  subst hq; exact oStep (fun T locs K t kt => XS.aload K.1.here K.2.1 rfl (hb K.2.2.2.2.1 hd) hl hv kt) r
theorem s_iloadN {k : Fin 4} (hd : decode I.bytes pc = .ok (.iload_n k, 1)) (hq : pc + 1 = pc') (hl : L[k.val]? = some (.val (.int x))) (r : oRunG C Z n0 I EL ws G h cs sl (mkF C.m pc' L (.int x :: S))) : oRunG C Z n0 I EL ws G h cs sl (mkF C.m pc L S) := by
  subst hq; exact oStep (fun T locs K t kt => XS.iloadN K.1.here K.2.1 rfl (hb K.2.2.2.2.1 hd) hl kt) r
theorem s_iload {k : Nat} (hd : decode I.bytes pc = .ok (.iload k, 2)) (hq : pc + 2 = pc') (hl : L[k]? = some (.val (.int x))) (r : oRunG C Z n0 I EL ws G h cs sl (mkF C.m pc' L (.int x :: S))) : oRunG C Z n0 I EL ws G h cs sl (mkF C.m pc L S) := by
  subst hq; exact oStep (fun T locs K t kt => XS.iload K.1.here K.2.1 rfl (hb K.2.2.2.2.1 hd) hl kt) r
theorem s_iconst {i : Int} (hd : decode I.bytes pc = .ok (.iconst i, 1)) (hq : pc + 1 = pc') (hx : Int32.ofInt i = x) (r : oRunG C Z n0 I EL ws G h cs sl (mkF C.m pc' L (.int x :: S))) : oRunG C Z n0 I EL ws G h cs sl (mkF C.m pc L S) := by
  subst hq hx; exact oStep (fun T locs K t kt => XS.iconst K.1.here K.2.1 rfl (hb K.2.2.2.2.1 hd) kt) r
theorem s_bipush {i : Int} (hd : decode I.bytes pc = .ok (.bipush i, 2)) (hq : pc + 2 = pc') (hx : (Int8.ofInt i).toInt32 = x) (r : oRunG C Z n0 I EL ws G h cs sl (mkF C.m pc' L (.int x :: S))) : oRunG C Z n0 I EL ws G h cs sl (mkF C.m pc L S) := by
  subst hq hx; exact oStep (fun T locs K t kt => XS.bipush K.1.here K.2.1 rfl (hb K.2.2.2.2.1 hd) kt) r
theorem s_sipush {i : Int} (hd : decode I.bytes pc = .ok (.sipush i, 3)) (hq : pc + 3 = pc') (hx : (Int16.ofInt i).toInt32 = x) (r : oRunG C Z n0 I EL ws G h cs sl (mkF C.m pc' L (.int x :: S))) : oRunG C Z n0 I EL ws G h cs sl (mkF C.m pc L S) := by
  subst hq hx; exact oStep (fun T locs K t kt => XS.sipush K.1.here K.2.1 rfl (hb K.2.2.2.2.1 hd) kt) r
theorem s_null (hd : decode I.bytes pc = .ok (.aconst_null, 1)) (hq : pc + 1 = pc') (r : oRunG C Z n0 I EL ws G h cs sl (mkF C.m pc' L (.null :: S))) : oRunG C Z n0 I EL ws G h cs sl (mkF C.m pc L S) := by
  subst hq; exact oStep (fun T locs K t kt => XS.aconstNull K.1.here K.2.1 rfl (hb K.2.2.2.2.1 hd) kt) r
theorem s_iadd (hd : decode I.bytes pc = .ok (.iadd, 1)) (hq : pc + 1 = pc') (r : oRunG C Z n0 I EL ws G h cs sl (mkF C.m pc' L (.int (x + y) :: S))) : oRunG C Z n0 I EL ws G h cs sl (mkF C.m pc L (.int y :: .int x :: S)) := by
  subst hq; exact oStep (fun T locs K t kt => XS.iadd K.1.here K.2.1 rfl (hb K.2.2.2.2.1 hd) rfl kt) r
theorem s_isub (hd : decode I.bytes pc = .ok (.isub, 1)) (hq : pc + 1 = pc') (r : oRunG C Z n0 I EL ws G h cs sl (mkF C.m pc' L (.int (x - y) :: S))) : oRunG C Z n0 I EL ws G h cs sl (mkF C.m pc L (.int y :: .int x :: S)) := by
  subst hq; exact oStep (fun T locs K t kt => XS.isub K.1.here K.2.1 rfl (hb K.2.2.2.2.1 hd) rfl kt) r
theorem s_imul (hd : decode I.bytes pc = .ok (.imul, 1)) (hq : pc + 1 = pc') (r : oRunG C Z n0 I EL ws G h cs sl (mkF C.m pc' L (.int (x * y) :: S))) : oRunG C Z n0 I EL ws G h cs sl (mkF C.m pc L (.int y :: .int x :: S)) := by
  subst hq; exact oStep (fun T locs K t kt => XS.imul K.1.here K.2.1 rfl (hb K.2.2.2.2.1 hd) rfl kt) r
theorem s_idiv (hd : decode I.bytes pc = .ok (.idiv, 1)) (hq : pc + 1 = pc') (hy : y ≠ 0) (r : oRunG C Z n0 I EL ws G h cs sl (mkF C.m pc' L (.int (x / y) :: S))) : oRunG C Z n0 I EL ws G h cs sl (mkF C.m pc L (.int y :: .int x :: S)) := by
  subst hq; exact oStep (fun T locs K t kt => XS.idiv K.1.here K.2.1 rfl (hb K.2.2.2.2.1 hd) rfl hy kt) r
theorem o_rem (x y : Int32) : x - (x / y) * y = x % y := irem_eq_mod x y
theorem s_irem (hd : decode I.bytes pc = .ok (.irem, 1)) (hq : pc + 1 = pc') (hy : y ≠ 0) (r : oRunG C Z n0 I EL ws G h cs sl (mkF C.m pc' L (.int (x % y) :: S))) : oRunG C Z n0 I EL ws G h cs sl (mkF C.m pc L (.int y :: .int x :: S)) := by
  subst hq; rw [← o_rem] at r; exact oStep (fun T locs K t kt => XS.irem K.1.here K.2.1 rfl (hb K.2.2.2.2.1 hd) rfl hy kt) r
theorem s_ineg (hd : decode I.bytes pc = .ok (.ineg, 1)) (hq : pc + 1 = pc') (r : oRunG C Z n0 I EL ws G h cs sl (mkF C.m pc' L (.int (-x) :: S))) : oRunG C Z n0 I EL ws G h cs sl (mkF C.m pc L (.int x :: S)) := by
  subst hq; exact oStep (fun T locs K t kt => XS.ineg K.1.here K.2.1 rfl (hb K.2.2.2.2.1 hd) rfl kt) r
theorem s_iand (hd : decode I.bytes pc = .ok (.iand, 1)) (hq : pc + 1 = pc') (r : oRunG C Z n0 I EL ws G h cs sl (mkF C.m pc' L (.int (x &&& y) :: S))) : oRunG C Z n0 I EL ws G h cs sl (mkF C.m pc L (.int y :: .int x :: S)) := by
  subst hq; exact oStep (fun T locs K t kt => XS.iand K.1.here K.2.1 rfl (hb K.2.2.2.2.1 hd) rfl kt) r
theorem s_ior (hd : decode I.bytes pc = .ok (.ior, 1)) (hq : pc + 1 = pc') (r : oRunG C Z n0 I EL ws G h cs sl (mkF C.m pc' L (.int (x ||| y) :: S))) : oRunG C Z n0 I EL ws G h cs sl (mkF C.m pc L (.int y :: .int x :: S)) := by
  subst hq; exact oStep (fun T locs K t kt => XT.ior K.1.here K.2.1 rfl (hb K.2.2.2.2.1 hd) rfl kt) r
theorem s_ixor (hd : decode I.bytes pc = .ok (.ixor, 1)) (hq : pc + 1 = pc') (r : oRunG C Z n0 I EL ws G h cs sl (mkF C.m pc' L (.int (x ^^^ y) :: S))) : oRunG C Z n0 I EL ws G h cs sl (mkF C.m pc L (.int y :: .int x :: S)) := by
  subst hq; exact oStep (fun T locs K t kt => XT.ixor K.1.here K.2.1 rfl (hb K.2.2.2.2.1 hd) rfl kt) r
theorem s_ishl (hd : decode I.bytes pc = .ok (.ishl, 1)) (hq : pc + 1 = pc') (r : oRunG C Z n0 I EL ws G h cs sl (mkF C.m pc' L (.int (x <<< (y &&& 31)) :: S))) : oRunG C Z n0 I EL ws G h cs sl (mkF C.m pc L (.int y :: .int x :: S)) := by
  subst hq; exact oStep (fun T locs K t kt => XT.ishl K.1.here K.2.1 rfl (hb K.2.2.2.2.1 hd) rfl kt) r
theorem s_ishr (hd : decode I.bytes pc = .ok (.ishr, 1)) (hq : pc + 1 = pc') (r : oRunG C Z n0 I EL ws G h cs sl (mkF C.m pc' L (.int (x >>> (y &&& 31)) :: S))) : oRunG C Z n0 I EL ws G h cs sl (mkF C.m pc L (.int y :: .int x :: S)) := by
  subst hq; exact oStep (fun T locs K t kt => XT.ishr K.1.here K.2.1 rfl (hb K.2.2.2.2.1 hd) rfl kt) r
theorem s_iushr (hd : decode I.bytes pc = .ok (.iushr, 1)) (hq : pc + 1 = pc') (r : oRunG C Z n0 I EL ws G h cs sl (mkF C.m pc' L (.int (XT.ushr x y) :: S))) : oRunG C Z n0 I EL ws G h cs sl (mkF C.m pc L (.int y :: .int x :: S)) := by
  subst hq; exact oStep (fun T locs K t kt => XT.iushr K.1.here K.2.1 rfl (hb K.2.2.2.2.1 hd) rfl kt) r
theorem s_i2c (hd : decode I.bytes pc = .ok (.i2c, 1)) (hq : pc + 1 = pc') (r : oRunG C Z n0 I EL ws G h cs sl (mkF C.m pc' L (.int (x.toUInt32.toUInt16.toUInt32.toInt32) :: S))) : oRunG C Z n0 I EL ws G h cs sl (mkF C.m pc L (.int x :: S)) := by
  subst hq; exact oStep (fun T locs K t kt => XT.i2c K.1.here K.2.1 rfl (hb K.2.2.2.2.1 hd) rfl kt) r
theorem s_i2b (hd : decode I.bytes pc = .ok (.i2b, 1)) (hq : pc + 1 = pc') (r : oRunG C Z n0 I EL ws G h cs sl (mkF C.m pc' L (.int (x.toInt8.toInt32) :: S))) : oRunG C Z n0 I EL ws G h cs sl (mkF C.m pc L (.int x :: S)) := by
  subst hq; exact oStep (fun T locs K t kt => XT.i2b K.1.here K.2.1 rfl (hb K.2.2.2.2.1 hd) rfl kt) r
theorem s_dup {v : Value} (hd : decode I.bytes pc = .ok (.dup, 1)) (hq : pc + 1 = pc') (hc : v.category = 1) (r : oRunG C Z n0 I EL ws G h cs sl (mkF C.m pc' L (v :: v :: S))) : oRunG C Z n0 I EL ws G h cs sl (mkF C.m pc L (v :: S)) := by
  subst hq; exact oStep (fun T locs K t kt => XS.dup K.1.here K.2.1 rfl (hb K.2.2.2.2.1 hd) rfl hc kt) r
theorem s_pop {v : Value} (hd : decode I.bytes pc = .ok (.pop, 1)) (hq : pc + 1 = pc') (hc : v.category = 1) (r : oRunG C Z n0 I EL ws G h cs sl (mkF C.m pc' L S)) : oRunG C Z n0 I EL ws G h cs sl (mkF C.m pc L (v :: S)) := by
  subst hq; exact oStep (fun T locs K t kt => XT.pop K.1.here K.2.1 rfl (hb K.2.2.2.2.1 hd) rfl hc kt) r
theorem s_istoreN {k : Fin 4} {kn : Nat} {L : List Slot} (hk : k.val = kn) (hd : decode I.bytes pc = .ok (.istore_n k, 1)) (hq : pc + 1 = pc') (hl : storeLocals L.toArray kn (.int x) = some (L.set kn (.val (.int x))).toArray) (r : oRunG C Z n0 I EL ws G h cs sl (mkF C.m pc' (L.set kn (.val (.int x))).toArray S)) : oRunG C Z n0 I EL ws G h cs sl (mkF C.m pc L.toArray (.int x :: S)) := by
  subst hq hk; exact oStep (fun T locs K t kt => XS.istoreN K.1.here K.2.1 rfl (hb K.2.2.2.2.1 hd) rfl hl kt) r
theorem s_istore {k : Nat} {L : List Slot} (hd : decode I.bytes pc = .ok (.istore k, 2)) (hq : pc + 2 = pc') (hl : storeLocals L.toArray k (.int x) = some (L.set k (.val (.int x))).toArray) (r : oRunG C Z n0 I EL ws G h cs sl (mkF C.m pc' (L.set k (.val (.int x))).toArray S)) : oRunG C Z n0 I EL ws G h cs sl (mkF C.m pc L.toArray (.int x :: S)) := by
  subst hq; exact oStep (fun T locs K t kt => XS.istore K.1.here K.2.1 rfl (hb K.2.2.2.2.1 hd) rfl hl kt) r
theorem s_astoreN {k : Fin 4} {kn : Nat} {v : Value} {L : List Slot} (hk : k.val = kn) (hd : decode I.bytes pc = .ok (.astore_n k, 1)) (hq : pc + 1 = pc') (hv : v.isRef = true) (hl : storeLocals L.toArray kn v = some (L.set kn (.val v)).toArray) (r : oRunG C Z n0 I EL ws G h cs sl (mkF C.m pc' (L.set kn (.val v)).toArray S)) : oRunG C Z n0 I EL ws G h cs sl (mkF C.m pc L.toArray (v :: S)) := by
  subst hq hk; exact oStep (fun T locs K t kt => XS.astoreN K.1.here K.2.1 rfl (hb K.2.2.2.2.1 hd) rfl hv hl kt) r
theorem s_astore {k : Nat} {v : Value} {L : List Slot} (hd : decode I.bytes pc = .ok (.astore k, 2)) (hq : pc + 2 = pc') (hv : v.isRef = true) (hl : storeLocals L.toArray k v = some (L.set k (.val v)).toArray) (r : oRunG C Z n0 I EL ws G h cs sl (mkF C.m pc' (L.set k (.val v)).toArray S)) : oRunG C Z n0 I EL ws G h cs sl (mkF C.m pc L.toArray (v :: S)) := by
  subst hq; exact oStep (fun T locs K t kt => XS.astore K.1.here K.2.1 rfl (hb K.2.2.2.2.1 hd) rfl hv hl kt) r
theorem s_iinc {k : Nat} {i : Int} {L : List Slot} (hd : decode I.bytes pc = .ok (.iinc k i, 3)) (hq : pc + 3 = pc') (hi : Int32.ofInt i = y) (hl0 : L.toArray[k]? = some (.val (.int x))) (hl : storeLocals L.toArray k (.int (x + y)) = some (L.set k (.val (.int (x + y)))).toArray) (r : oRunG C Z n0 I EL ws G h cs sl (mkF C.m pc' (L.set k (.val (.int (x + y)))).toArray S)) : oRunG C Z n0 I EL ws G h cs sl (mkF C.m pc L.toArray S) := by
  subst hq hi; exact oStep (fun T locs K t kt => XS.iinc K.1.here K.2.1 rfl (hb K.2.2.2.2.1 hd) hl0 hl kt) r
theorem o_st {L : List Slot} {k : Nat} {s : Slot} {v : Value} (hk : L[k]? = some s) (hs : One s) (hv : v.category = 1) : storeLocals L.toArray k v = some (L.set k (.val v)).toArray := by
  have hlt : k < L.length := (List.getElem?_eq_some_iff.mp hk).1
  have hka : L.toArray[k]? = some s := by simpa using hk
  have e : storeSelf L.toArray k v = some (L.set k (.val v)).toArray := by simp [storeSelf, setAt, hv, hlt]
  rcases hs with rfl | ⟨w, rfl, hw⟩
  · simp only [storeLocals, hka, Option.bind_eq_bind, Option.bind_some]; exact e
  · simp only [storeLocals, hka, Option.bind_eq_bind, Option.bind_some, hw]; exact e
theorem s_goto {o : Int} (hd : decode I.bytes pc = .ok (.goto o, 3)) (ho : 0 ≤ (pc : Int) + o) (hq : ((pc : Int) + o).toNat = pc') (r : oRunG C Z n0 I EL ws G h cs sl (mkF C.m pc' L S)) : oRunG C Z n0 I EL ws G h cs sl (mkF C.m pc L S) :=
  oStep (fun T locs K t kt => XS.goto K.1.here K.2.1 rfl (pc0 := pc) rfl (hb K.2.2.2.2.1 hd) ho hq kt) r
theorem s_if {cd : ClassFile.Cond} {o : Int} {pc'' : Nat} (hd : decode I.bytes pc = .ok (.ifCond cd o, 3)) (hq : pc + 3 = pc') (ho : 0 ≤ (pc : Int) + o) (hq' : ((pc : Int) + o).toNat = pc'')
    (rt : if_icmp.holds cd x 0 = true → oRunG C Z n0 I EL ws G h cs sl (mkF C.m pc'' L S)) (rf : if_icmp.holds cd x 0 = false → oRunG C Z n0 I EL ws G h cs sl (mkF C.m pc' L S)) : oRunG C Z n0 I EL ws G h cs sl (mkF C.m pc L (.int x :: S)) := by
  subst hq
  cases hh : if_icmp.holds cd x 0
  · exact oStep (fun T locs K t kt => XS.ifNo K.1.here K.2.1 rfl (hb K.2.2.2.2.1 hd) rfl ((if0 _ _).trans hh) kt) (rf hh)
  · exact oStep (fun T locs K t kt => XS.ifYes K.1.here K.2.1 rfl (pc0 := pc) rfl (hb K.2.2.2.2.1 hd) rfl ((if0 _ _).trans hh) ho hq' kt) (rt hh)
theorem s_icmp {cd : ClassFile.Cond} {o : Int} {pc'' : Nat} (hd : decode I.bytes pc = .ok (.if_icmp cd o, 3)) (hq : pc + 3 = pc') (ho : 0 ≤ (pc : Int) + o) (hq' : ((pc : Int) + o).toNat = pc'')
    (rt : if_icmp.holds cd x y = true → oRunG C Z n0 I EL ws G h cs sl (mkF C.m pc'' L S)) (rf : if_icmp.holds cd x y = false → oRunG C Z n0 I EL ws G h cs sl (mkF C.m pc' L S)) : oRunG C Z n0 I EL ws G h cs sl (mkF C.m pc L (.int y :: .int x :: S)) := by
  subst hq
  cases hh : if_icmp.holds cd x y
  · exact oStep (fun T locs K t kt => XS.icmpNo K.1.here K.2.1 rfl (hb K.2.2.2.2.1 hd) rfl hh kt) (rf hh)
  · exact oStep (fun T locs K t kt => XS.icmpYes K.1.here K.2.1 rfl (pc0 := pc) rfl (hb K.2.2.2.2.1 hd) rfl hh ho hq' kt) (rt hh)
theorem b_eq (h : if_icmp.holds .eq x y = true) : x = y := by simpa [if_icmp.holds] using h
theorem b_eqF (h : if_icmp.holds .eq x y = false) : ¬ x = y := by simpa [if_icmp.holds] using h
theorem b_ne (h : if_icmp.holds .ne x y = true) : ¬ x = y := by simpa [if_icmp.holds] using h
theorem b_neF (h : if_icmp.holds .ne x y = false) : x = y := by simpa [if_icmp.holds] using h
theorem b_lt (h : if_icmp.holds .lt x y = true) : x < y := by simpa [if_icmp.holds] using h
theorem b_ltF (h : if_icmp.holds .lt x y = false) : ¬ x < y := by simpa [if_icmp.holds] using h
theorem b_ge (h : if_icmp.holds .ge x y = true) : ¬ x < y := by simpa [if_icmp.holds, Int32.not_lt] using h
theorem b_geF (h : if_icmp.holds .ge x y = false) : x < y := by simpa [if_icmp.holds, Int32.not_le] using h
theorem b_gt (h : if_icmp.holds .gt x y = true) : y < x := by simpa [if_icmp.holds] using h
theorem b_gtF (h : if_icmp.holds .gt x y = false) : ¬ y < x := by simpa [if_icmp.holds] using h
theorem b_le (h : if_icmp.holds .le x y = true) : ¬ y < x := by simpa [if_icmp.holds, Int32.not_lt] using h
theorem b_leF (h : if_icmp.holds .le x y = false) : y < x := by simpa [if_icmp.holds, Int32.not_le] using h
-- the heap's steps
theorem s_old {g : JFrame} (r : Old Z n0 h → oRunG C Z n0 I EL ws G h cs sl g) : oRunG C Z n0 I EL ws G h cs sl g := fun vm0 T locs K V => r K.2.2.2.2.2.2.2.2.2.2.2 vm0 T locs K V
theorem s_getF {a0 : Array Value} {R0 O n d host : String} {index : Nat} {a : Addr} {v : Value} (F : Fld Z h a O n d v) (w : (Jvm.Cond.fieldLink I.own index R0 n d).before a0 Z = true ∨ (Jvm.Cond.fieldLinkNest I.own index R0 n d host).before a0 Z = true) (via : Via Z R0 O n d) (hd : decode I.bytes pc = .ok (.getfield index, 3)) (hq : pc + 3 = pc')
    (r : oRunG C Z n0 I EL ws G h cs sl (mkF C.m pc' L (v :: S))) : oRunG C Z n0 I EL ws G h cs sl (mkF C.m pc L (.ref a :: S)) := by
  subst hq
  refine oMove (fun T locs K => ?_) r
  obtain ⟨X, k1, k2, k3, k4, k5, k6, k7, k8, k9, k10, k11⟩ := K
  obtain ⟨T', X', e', st⟩ := getF X k1 k2 k3 w via k9 F (g := mkF C.m pc L (.ref a :: S)) rfl rfl (hb k4 hd)
  exact ⟨T', locs, ⟨X', k1, k2, k3, k4, k5, k6, k7, k8, e', k10, k11⟩, st⟩
theorem s_putF {a0 : Array Value} {R0 O n d host C' : String} {index kk : Nat} {ty : FieldType} {a : Addr} {v old : Value} (F : Fld Z h a O n d old) (E : Exa Z h a C') (ha : n0 ≤ a) (hs : a ∈ ws) (w : (Jvm.Cond.fieldLink I.own index R0 n d).before a0 Z = true ∨ (Jvm.Cond.fieldLinkNest I.own index R0 n d host).before a0 Z = true) (via : Via Z R0 O n d)
    (Lw : (Jvm.Cond.lays C' O n d).before a0 Z = true ∨ ((Jvm.Cond.laysFinal C' O n d).before a0 Z = true ∧ I.own = O ∧ I.mn = "<init>")) (wi : (Jvm.Cond.instantiable C' kk).before a0 Z = true)
    (hty : parseFieldDescriptor d = some ty) (hn : narrow ty v = v) (hf : fits ty v = true) (hd : decode I.bytes pc = .ok (.putfield index, 3)) (hq : pc + 3 = pc')
    (r : ∀ h', Wr h h' a (Jvm.RoadKit.slotOf Z O n d) v → oRunG C Z n0 I EL ws G h' cs sl (mkF C.m pc' L S)) : oRunG C Z n0 I EL ws G h cs sl (mkF C.m pc L (v :: .ref a :: S)) := by
  subst hq
  intro vm0 T locs K V
  obtain ⟨X, k1, k2, k3, k4, k5, k6, k7, k8, k9, k10, k11⟩ := K
  obtain ⟨T', h', X', e', W, st⟩ := putF X k1 k2 k3 w via k9 F E (Lw.imp id fun q => ⟨q.1, q.2.1, k7.trans q.2.2⟩) wi hty hn hf (g := mkF C.m pc L (v :: .ref a :: S)) rfl rfl (hb k4 hd)
  obtain ⟨t, o, h1, h2⟩ := r h' W vm0 T' _ ⟨X', k1, k2, k3, k4, k5, k6, k7, k8, e', Fr.snoc X' k10 ha, k11.wr W ha⟩ (V.wr W hs)
  exact ⟨t, o, st t h1, h2⟩
theorem s_getS {a0 : Array Value} {R0 O n d : String} {index : Nat} {v : Value} (F : Sta Z Z.heap O n d v) (w : (Jvm.Cond.fieldLink I.own index R0 n d).before a0 Z = true) (via : Via Z R0 O n d) (hd : decode I.bytes pc = .ok (.getstatic index, 3)) (hq : pc + 3 = pc')
    (r : oRunG C Z n0 I EL ws G h cs sl (mkF C.m pc' L (v :: S))) : oRunG C Z n0 I EL ws G h cs sl (mkF C.m pc L S) := by
  subst hq
  refine oMove (fun T locs K => ?_) r
  obtain ⟨X, k1, k2, k3, k4, k5, k6, k7, k8, k9, k10, k11⟩ := K
  obtain ⟨T', X', e', st⟩ := getS (host := "") X k1 k2 k3 w via k9 (F.ext k11.2) (g := mkF C.m pc L S) rfl (hb k4 hd)
  exact ⟨T', locs, ⟨X', k1, k2, k3, k4, k5, k6, k7, k8, e', k10, k11⟩, st⟩
theorem s_new {a0 : Array Value} {C' : String} {index n : Nat} (w : (Jvm.Cond.classLink I.own index C').before a0 Z = true) (wi : (Jvm.Cond.instantiable C' n).before a0 Z = true) (wz : (Jvm.Cond.initialized C').before a0 Z = true) (hd : decode I.bytes pc = .ok (.new index, 3)) (hq : pc + 3 = pc') (hc : cs + 1 ≤ I.R.cells) (hl : sl + n ≤ I.R.slots)
    (r : ∀ h' a, a = h.size → n0 ≤ a → Ext h h' → Exa Z h' a C' → (∀ {O nm d : String} {ty : FieldType}, Laid Z a0 C' O nm d → parseFieldDescriptor d = some ty → Fld Z h' a O nm d (defaultValue ty)) → oRunG C Z n0 I EL (a :: ws) G h' (cs + 1) (sl + n) (mkF C.m pc' L (.ref a :: S))) : oRunG C Z n0 I EL ws G h cs sl (mkF C.m pc L S) := by
  subst hq
  intro vm0 T locs K V
  obtain ⟨X, k1, k2, k3, k4, k5, k6, k7, k8, k9, k10, k11⟩ := K
  obtain ⟨T', h', X', e', E, A, D, -, st⟩ := newO X k1 k2 k3 w wi wz k9 (g := mkF C.m pc L S) rfl (hb k4 hd) hc hl
  obtain ⟨t, o, h1, h2⟩ := r h' _ rfl (o_le k11) E A D vm0 T' _ ⟨X', k1, k2, k3, k4, k5, k6, k7, k8, e', k10, k11.ext E⟩ (V.new E rfl A.lt)
  exact ⟨t, o, st t h1, h2⟩
theorem s_newA {a0 : Array Value} {aty : ArrayType} {n : Int32} (cap : Nat) (w : (Jvm.Cond.arrayClass (newarray.typeOf aty)).before a0 Z = true) (hd : decode I.bytes pc = .ok (.newarray aty, 2)) (hq : pc + 2 = pc') (hn : ¬ n < 0) (hcap : n.toNatClampNeg ≤ cap) (hb' : cap * 8 ≤ 536870912) (hc : cs + 1 ≤ I.R.cells) (hl : sl + cap ≤ I.R.slots)
    (r : ∀ h' a k, a = h.size → n0 ≤ a → Ext h h' → Arv Z h' a k (newarray.typeOf aty) n [] (defaultValue (newarray.typeOf aty)) → oRunG C Z n0 I EL (a :: ws) G h' (cs + 1) (sl + cap) (mkF C.m pc' L (.ref a :: S))) : oRunG C Z n0 I EL ws G h cs sl (mkF C.m pc L (.int n :: S)) := by
  subst hq
  intro vm0 T locs K V
  obtain ⟨X, k1, k2, k3, k4, k5, k6, k7, k8, k9, k10, k11⟩ := K
  obtain ⟨T', h', kA, X', e', E, A, st⟩ := newP X k1 k2 w k9 (g := mkF C.m pc L (.int n :: S)) rfl (hb k4 hd) rfl hn hcap hb' hc hl
  obtain ⟨t, o, h1, h2⟩ := r h' _ kA rfl (o_le k11) E (Arv.new A hn) vm0 T' _ ⟨X', k1, k2, k3, k4, k5, k6, k7, k8, e', k10, k11.ext E⟩ (V.new E rfl A.lt)
  exact ⟨t, o, st t h1, h2⟩
theorem s_newAE {a0 : Array Value} {aty : ArrayType} {n : Int32} {ad : String} (cap : Nat) (had : "[" ++ (newarray.typeOf aty).toString = ad) (w : (Jvm.Cond.arrayClass (newarray.typeOf aty)).before a0 Z = true) (hd : decode I.bytes pc = .ok (.newarray aty, 2)) (hq : pc + 2 = pc') (hn : ¬ n < 0) (hcap : n.toNatClampNeg ≤ cap) (hb' : cap * 8 ≤ 536870912) (hc : cs + 1 ≤ I.R.cells) (hl : sl + cap ≤ I.R.slots)
    (r : ∀ h' a k, a = h.size → n0 ≤ a → Ext h h' → Arv Z h' a k (newarray.typeOf aty) n [] (defaultValue (newarray.typeOf aty)) → Exa Z h' a ad → oRunG C Z n0 I EL (a :: ws) G h' (cs + 1) (sl + cap) (mkF C.m pc' L (.ref a :: S))) : oRunG C Z n0 I EL ws G h cs sl (mkF C.m pc L (.int n :: S)) := by
  subst hq
  intro vm0 T locs K V
  obtain ⟨X, k1, k2, k3, k4, k5, k6, k7, k8, k9, k10, k11⟩ := K
  obtain ⟨T', h', kA, X', e', E, A, EA, st⟩ := newPE X k1 k2 w k9 (g := mkF C.m pc L (.int n :: S)) rfl (hb k4 hd) rfl hn hcap hb' hc hl had
  obtain ⟨t, o, h1, h2⟩ := r h' _ kA rfl (o_le k11) E (Arv.new A hn) EA vm0 T' _ ⟨X', k1, k2, k3, k4, k5, k6, k7, k8, e', k10, k11.ext E⟩ (V.new E rfl A.lt)
  exact ⟨t, o, st t h1, h2⟩
theorem s_clone {a0 : Array Value} {index : Nat} {a : Addr} {k : ClassId} {ty : FieldType} {z : Int32} {vs : List Value} {dv : Value} {ad : String} (cap : Nat) (A : Arv Z h a k ty z vs dv) (E : Exa Z h a ad)
    (w1 : (Jvm.Cond.methodLink I.own index ⟨ad, "clone", "()Ljava/lang/Object;"⟩).before a0 Z = true) (w2 : (Jvm.Cond.sameMethod ad "java/lang/Object" "clone" "()Ljava/lang/Object;").before a0 Z = true) (w3 : (Jvm.Cond.native ⟨"java/lang/Object", "clone", "()Ljava/lang/Object;"⟩).before a0 Z = true) (w4 : (Jvm.Cond.instanceMethod ⟨"java/lang/Object", "clone", "()Ljava/lang/Object;"⟩).before a0 Z = true)
    (w5 : (Jvm.Cond.selects ad ⟨ad, "clone", "()Ljava/lang/Object;"⟩ ⟨"java/lang/Object", "clone", "()Ljava/lang/Object;"⟩).before a0 Z = true) (w6 : (Jvm.Cond.castable ad "java/lang/Cloneable").before a0 Z = true)
    (hsz : L.size = I.ml) (hd : decode I.bytes pc = .ok (.invokevirtual index, 3)) (hq : pc + 3 = pc') (hf : 1 ≤ I.R.frames) (hlo : (S.map fun v => v.category).sum + 14 ≤ I.R.locals) (hcap : z.toNatClampNeg ≤ cap) (hc : cs + 1 ≤ I.R.cells) (hl : sl + cap ≤ I.R.slots)
    (r : ∀ h' b, b = h.size → n0 ≤ b → Ext h h' → Arv Z h' b k ty z vs dv → Exa Z h' b ad → oRunG C Z n0 I EL (b :: ws) G h' (cs + 1) (sl + cap) (mkF C.m pc' L (.ref b :: S))) : oRunG C Z n0 I EL ws G h cs sl (mkF C.m pc L (.ref a :: S)) := by
  subst hq
  intro vm0 T locs K V
  obtain ⟨X, k1, k2, k3, k4, k5, k6, k7, k8, k9, k10, k11⟩ := K
  have F := Ins.of_exa E w6
  obtain ⟨c, A1, A2, A3, A4, A5, A6⟩ := A
  obtain ⟨c2, kE, e1, e2, e3, e4, e5⟩ := E
  cases A1.1.symm.trans e1
  obtain ⟨c3, cT, f1, f2, f3⟩ := F
  cases A1.1.symm.trans f1
  simp only [Bool.and_eq_true, Bool.not_eq_true'] at f3
  obtain ⟨hob, kA, hkA, comp, hkind⟩ := A1.2.1
  have hal : Z.vm.Alike vm0 := k2.alike
  obtain ⟨kB, hkB, ekB⟩ := hal.2.2 _ _ hkA
  have hkindB : kB.kind = .array comp ty := by rw [ekB]; exact hkind
  obtain ⟨kC, hkC, ekC⟩ := X.warmed.alike.2.2 _ _ hkB
  have hkindC : kC.kind = .array comp ty := by rw [ekC]; exact hkindB
  have hfit : ∀ i v, c.slots[i]? = some v → T.fitsSlot c.cls .none i v = true := fun i v hv => by
    have hi : i < c.slots.size := (Array.getElem?_eq_some_iff.mp hv).1
    have q := A5 i hi
    rw [hv] at q
    cases Option.some.inj q
    simp [State.fitsSlot, State.slotType?, hkC, hkindC]
    exact A6 i hi
  obtain ⟨vm', X', st⟩ := X.cloneArray k1 k3 (mvT k2 w1) (mvT k2 w2) (mvT k2 w3) (mvT k2 w4) (mvT k2 w5) (a := a) (cell := c) (by rw [k9]; exact A1.1) hob A1.2.2 ((hal.findClass _ _).trans e2) ((hal.findClass _ _).trans f2) ((hal.assignable _ _).trans f3.2) hfit (g := mkF C.m pc L (.ref a :: S)) rfl (hsz.trans k5.symm) rfl (hb k4 hd) hf (by show 2 * 0 + _ + 14 ≤ _; omega) hc (by omega) (Vm.clonesLoader_of_array hkB hkindB)
  have e' : ((T.setVm vm').pushCell { cls := c.cls, slots := c.slots }).heap = h.push { cls := c.cls, slots := c.slots } := by rw [← k9]; rfl
  have EE : Ext h (h.push { cls := c.cls, slots := c.slots }) := ⟨by simp, fun x cx hx => by rw [Array.getElem?_push_lt (Array.getElem?_eq_some_iff.mp hx).1]; exact (Array.getElem?_eq_getElem _).symm.trans hx⟩
  have hN : (h.push ({ cls := c.cls, slots := c.slots } : Cell))[h.size]? = some { cls := c.cls, slots := c.slots } := by simp
  rw [show T.heap.size = h.size from by rw [k9]] at st
  obtain ⟨t, o, h1, h2⟩ := r _ h.size rfl (o_le k11) EE ⟨_, ⟨hN, ⟨by simp, kA, hkA, comp, hkind⟩, by simp⟩, A2, A3, A4, A5, A6⟩ ⟨_, kE, hN, e2, e3, rfl, e5⟩ vm0 _ _ ⟨X'.more (Nat.le_refl _) (by omega), k1, k2, k3, k4, k5, k6, k7, k8, e', k10, k11.ext EE⟩ (V.new EE rfl (by simp))
  exact ⟨t, o, st t h1, h2⟩
theorem s_alen {a : Addr} {k : ClassId} {ty : FieldType} {n : Int32} {vs : List Value} {dv : Value} (A : Arv Z h a k ty n vs dv) (hd : decode I.bytes pc = .ok (.arraylength, 1)) (hq : pc + 1 = pc') (r : oRunG C Z n0 I EL ws G h cs sl (mkF C.m pc' L (.int n :: S))) : oRunG C Z n0 I EL ws G h cs sl (mkF C.m pc L (.ref a :: S)) := by
  subst hq
  refine oStep (fun T locs K t kt => ?_) r
  obtain ⟨X, k1, k2, k3, k4, k5, k6, k7, k8, k9, k10, k11⟩ := K
  obtain ⟨c, A1, A2, A3, A4, -⟩ := A
  refine X.arraylength k1 (by rw [k9]; exact A1.1) (State.isArrayOf_alike k2.alike A1.2.1) (g := mkF C.m pc L (.ref a :: S)) rfl rfl (hb k4 hd) _ ?_
  rw [len_of A3 A4]; exact kt
theorem o_at {a : Addr} {k : ClassId} {ty : FieldType} {n j : Int32} {vs : List Value} {dv v : Value} (A : Arv Z h a k ty n vs dv) (j0 : ¬ j < 0) (j1 : j < n) (hv : vs.getD j.toNatClampNeg dv = v) : ∃ c, Arr Z h a c ty ∧ ¬ (j < 0 ∨ c.slots.size ≤ j.toNatClampNeg) ∧ c.slots[j.toNatClampNeg]? = some v := by
  obtain ⟨c, A1, A2, A3, A4, A5, A6⟩ := A
  have q := inb_of A3 ⟨j0, j1⟩
  exact ⟨c, A1, q, A5.at q hv⟩
theorem s_iaload {a : Addr} {k : ClassId} {n j : Int32} {vs : List Value} {dv v : Value} (A : Arv Z h a k .int n vs dv) (j0 : ¬ j < 0) (j1 : j < n) (hv : vs.getD j.toNatClampNeg dv = v) (hd : decode I.bytes pc = .ok (.iaload, 1)) (hq : pc + 1 = pc') (r : oRunG C Z n0 I EL ws G h cs sl (mkF C.m pc' L (v :: S))) : oRunG C Z n0 I EL ws G h cs sl (mkF C.m pc L (.int j :: .ref a :: S)) := by
  subst hq
  refine oStep (fun T locs K t kt => ?_) r
  obtain ⟨X, k1, k2, k3, k4, k5, k6, k7, k8, k9, k10, k11⟩ := K
  obtain ⟨c, A1, q, A2⟩ := o_at A j0 j1 hv
  exact X.iaload k1 (by rw [k9]; exact A1.1) (State.isArrayOf_alike k2.alike A1.2.1) A1.2.2 q A2 (g := mkF C.m pc L (.int j :: .ref a :: S)) rfl rfl (hb k4 hd) _ kt
theorem s_caload {a : Addr} {k : ClassId} {n j : Int32} {vs : List Value} {dv v : Value} (A : Arv Z h a k .char n vs dv) (j0 : ¬ j < 0) (j1 : j < n) (hv : vs.getD j.toNatClampNeg dv = v) (hd : decode I.bytes pc = .ok (.caload, 1)) (hq : pc + 1 = pc') (r : oRunG C Z n0 I EL ws G h cs sl (mkF C.m pc' L (v :: S))) : oRunG C Z n0 I EL ws G h cs sl (mkF C.m pc L (.int j :: .ref a :: S)) := by
  subst hq
  refine oStep (fun T locs K t kt => ?_) r
  obtain ⟨X, k1, k2, k3, k4, k5, k6, k7, k8, k9, k10, k11⟩ := K
  obtain ⟨c, A1, q, A2⟩ := o_at A j0 j1 hv
  exact X.caload k1 (by rw [k9]; exact A1.1) (State.isArrayOf_alike k2.alike A1.2.1) A1.2.2 q A2 (g := mkF C.m pc L (.int j :: .ref a :: S)) rfl rfl (hb k4 hd) _ kt
theorem s_baload {a : Addr} {k : ClassId} {n j : Int32} {vs : List Value} {dv v : Value} (A : Arv Z h a k .byte n vs dv) (j0 : ¬ j < 0) (j1 : j < n) (hv : vs.getD j.toNatClampNeg dv = v) (hd : decode I.bytes pc = .ok (.baload, 1)) (hq : pc + 1 = pc') (r : oRunG C Z n0 I EL ws G h cs sl (mkF C.m pc' L (v :: S))) : oRunG C Z n0 I EL ws G h cs sl (mkF C.m pc L (.int j :: .ref a :: S)) := by
  subst hq
  refine oStep (fun T locs K t kt => ?_) r
  obtain ⟨X, k1, k2, k3, k4, k5, k6, k7, k8, k9, k10, k11⟩ := K
  obtain ⟨c, A1, q, A2⟩ := o_at A j0 j1 hv
  exact X.baloadBytes k1 (by rw [k9]; exact A1.1) (State.isArrayOf_alike k2.alike A1.2.1) A1.2.2 q A2 (g := mkF C.m pc L (.int j :: .ref a :: S)) rfl rfl (hb k4 hd) _ kt
theorem s_aaload {a : Addr} {cl : Cell} {ty : FieldType} {j : Int32} {v : Value} (A : Arr Z h a cl ty) (ht : ty.isReference = true) (q : ¬ (j < 0 ∨ cl.slots.size ≤ j.toNatClampNeg)) (hv : cl.slots[j.toNatClampNeg]? = some v) (hd : decode I.bytes pc = .ok (.aaload, 1)) (hq : pc + 1 = pc') (r : oRunG C Z n0 I EL ws G h cs sl (mkF C.m pc' L (v :: S))) : oRunG C Z n0 I EL ws G h cs sl (mkF C.m pc L (.int j :: .ref a :: S)) := by
  subst hq
  refine oStep (fun T locs K t kt => ?_) r
  obtain ⟨X, k1, k2, k3, k4, k5, k6, k7, k8, k9, k10, k11⟩ := K
  exact X.aaload k1 (by rw [k9]; exact A.1) (State.isArrayOf_alike k2.alike A.2.1) ht A.2.2 q hv (g := mkF C.m pc L (.int j :: .ref a :: S)) rfl rfl (hb k4 hd) _ kt
theorem o_padTo {a : Addr} {k : ClassId} {ty : FieldType} {n : Int32} {vs : List Value} {dv : Value} (A : Arv Z h a k ty n vs dv) (N : Nat) : Arv Z h a k ty n (vs ++ List.replicate N dv) dv := A.pad (pad_rep vs dv N)
theorem s_iastore {a : Addr} {k : ClassId} {n j : Int32} {vs : List Value} {dv : Value} (A : Arv Z h a k .int n vs dv) (ha : n0 ≤ a) (hs : a ∈ ws) (j0 : ¬ j < 0) (j1 : j < n) (i : Nat) (hi : j.toNatClampNeg = i) (hl : i < vs.length) (hd : decode I.bytes pc = .ok (.iastore, 1)) (hq : pc + 1 = pc')
    (r : ∀ h', Wr h h' a i (.int x) → Arv Z h' a k .int n (vs.set i (.int x)) dv → oRunG C Z n0 I EL ws G h' cs sl (mkF C.m pc' L S)) : oRunG C Z n0 I EL ws G h cs sl (mkF C.m pc L (.int x :: .int j :: .ref a :: S)) := by
  subst hq
  intro vm0 T locs K V
  obtain ⟨X, k1, k2, k3, k4, k5, k6, k7, k8, k9, k10, k11⟩ := K
  obtain ⟨c, A1, A2, A3, A4, A5, A6⟩ := A
  obtain ⟨T', h', X', e', W, st⟩ := stI X k1 k2 k9 A1 (inb_of A3 ⟨j0, j1⟩) (g := mkF C.m pc L (.int x :: .int j :: .ref a :: S)) rfl rfl (hb k4 hd)
  obtain ⟨t, o, h1, h2⟩ := r h' (hi ▸ W) (Arv.set A1 A2 A3 A4 A5 A6 rfl W i hi hl) vm0 T' _ ⟨X', k1, k2, k3, k4, k5, k6, k7, k8, e', Fr.snoc X' k10 ha, k11.wr W ha⟩ (V.wr W hs)
  exact ⟨t, o, st t h1, h2⟩
theorem s_castore {a : Addr} {k : ClassId} {n j : Int32} {vs : List Value} {dv : Value} (A : Arv Z h a k .char n vs dv) (ha : n0 ≤ a) (hs : a ∈ ws) (j0 : ¬ j < 0) (j1 : j < n) (i : Nat) (hi : j.toNatClampNeg = i) (hl : i < vs.length) (hd : decode I.bytes pc = .ok (.castore, 1)) (hq : pc + 1 = pc')
    (r : ∀ h', Wr h h' a i (.int (nar .char x)) → Arv Z h' a k .char n (vs.set i (.int (nar .char x))) dv → oRunG C Z n0 I EL ws G h' cs sl (mkF C.m pc' L S)) : oRunG C Z n0 I EL ws G h cs sl (mkF C.m pc L (.int x :: .int j :: .ref a :: S)) := by
  subst hq
  intro vm0 T locs K V
  obtain ⟨X, k1, k2, k3, k4, k5, k6, k7, k8, k9, k10, k11⟩ := K
  obtain ⟨c, A1, A2, A3, A4, A5, A6⟩ := A
  obtain ⟨T', h', X', e', W, st⟩ := stC X k1 k2 k9 A1 (inb_of A3 ⟨j0, j1⟩) (g := mkF C.m pc L (.int x :: .int j :: .ref a :: S)) rfl rfl (hb k4 hd)
  obtain ⟨t, o, h1, h2⟩ := r h' (hi ▸ W) (Arv.set A1 A2 A3 A4 A5 A6 (fits_nar_char _) W i hi hl) vm0 T' _ ⟨X', k1, k2, k3, k4, k5, k6, k7, k8, e', Fr.snoc X' k10 ha, k11.wr W ha⟩ (V.wr W hs)
  exact ⟨t, o, st t h1, h2⟩
theorem s_bastore {a : Addr} {k : ClassId} {n j : Int32} {vs : List Value} {dv : Value} (A : Arv Z h a k .byte n vs dv) (ha : n0 ≤ a) (hs : a ∈ ws) (j0 : ¬ j < 0) (j1 : j < n) (i : Nat) (hi : j.toNatClampNeg = i) (hl : i < vs.length) (hd : decode I.bytes pc = .ok (.bastore, 1)) (hq : pc + 1 = pc')
    (r : ∀ h', Wr h h' a i (.int (nar .byte x)) → Arv Z h' a k .byte n (vs.set i (.int (nar .byte x))) dv → oRunG C Z n0 I EL ws G h' cs sl (mkF C.m pc' L S)) : oRunG C Z n0 I EL ws G h cs sl (mkF C.m pc L (.int x :: .int j :: .ref a :: S)) := by
  subst hq
  intro vm0 T locs K V
  obtain ⟨X, k1, k2, k3, k4, k5, k6, k7, k8, k9, k10, k11⟩ := K
  obtain ⟨c, A1, A2, A3, A4, A5, A6⟩ := A
  obtain ⟨T', h', X', e', W, st⟩ := stB X k1 k2 k9 A1 (inb_of A3 ⟨j0, j1⟩) (g := mkF C.m pc L (.int x :: .int j :: .ref a :: S)) rfl rfl (hb k4 hd)
  obtain ⟨t, o, h1, h2⟩ := r h' (hi ▸ W) (Arv.set A1 A2 A3 A4 A5 A6 (fits_nar_byte _) W i hi hl) vm0 T' _ ⟨X', k1, k2, k3, k4, k5, k6, k7, k8, e', Fr.snoc X' k10 ha, k11.wr W ha⟩ (V.wr W hs)
  exact ⟨t, o, st t h1, h2⟩
theorem s_copy {a0 : Array Value} {index : Nat} {a b : Addr} {k k' : ClassId} {ty : FieldType} {z z' sp dp nn : Int32} {vs vd : List Value} {dv dd : Value} (A : Arv Z h a k ty z vs dv) (B : Arv Z h b k' ty z' vd dd) (hty : refKind ty = false) (hgb : n0 ≤ b) (hs : b ∈ ws)
    (w1 : (Jvm.Cond.methodLink I.own index Jvm.Stand.acN).before a0 Z = true) (w2 : (Jvm.Cond.native Jvm.Stand.acN).before a0 Z = true) (w3 : (Jvm.Cond.static Jvm.Stand.acN).before a0 Z = true) (w4 : (Jvm.Cond.initialized "java/lang/System").before a0 Z = true)
    (h1 : ¬ sp < 0) (h2 : ¬ dp < 0) (h3 : ¬ nn < 0) (h4 : sp.toNatClampNeg + nn.toNatClampNeg ≤ z.toNatClampNeg) (h5 : dp.toNatClampNeg + nn.toNatClampNeg ≤ z'.toNatClampNeg) (hl : dp.toNatClampNeg + nn.toNatClampNeg ≤ vd.length)
    (hsz : L.size = I.ml) (hd : decode I.bytes pc = .ok (.invokestatic index, 3)) (hq : pc + 3 = pc') (hf : 1 ≤ I.R.frames) (hlo : (S.map fun v => v.category).sum + (nativeFrameWords "java/lang/System" "arraycopy" 5 + 11) ≤ I.R.locals)
    (r : ∀ h', Keep h h' [b] → Arv Z h' b k' ty z' (vd.take dp.toNatClampNeg ++ ((List.range nn.toNatClampNeg).map fun i => vs.getD (sp.toNatClampNeg + i) dv) ++ vd.drop (dp.toNatClampNeg + nn.toNatClampNeg)) dd → oRunG C Z n0 I EL ws G h' cs sl (mkF C.m pc' L S)) :
    oRunG C Z n0 I EL ws G h cs sl (mkF C.m pc L (.int nn :: .int dp :: .ref b :: .int sp :: .ref a :: S)) := by
  subst hq
  intro vm0 T locs K V
  obtain ⟨X, k1, k2, k3, k4, k5, k6, k7, k8, k9, k10, k11⟩ := K
  obtain ⟨T', h', L', X', e', N', K', A', st⟩ := cpA X k1 k2 k3 w1 w2 w3 w4 k9 A B (Or.inl ⟨rfl, hty⟩) h1 h2 h3 h4 h5 rfl hl k10 hgb (g := mkF C.m pc L (.int nn :: .int dp :: .ref b :: .int sp :: .ref a :: S)) rfl (hsz.trans k5.symm) rfl (hb k4 hd) hf (W := (S.map fun v => v.category).sum) (by show 2 * 0 + _ ≤ _; simp) hlo
  obtain ⟨t, o, q1, q2⟩ := r h' K' A' vm0 T' _ ⟨X', k1, k2, k3, k4, k5, k6, k7, k8, e', N', k11.keep K' (allS hgb all0)⟩ (V.move (CHr.keep K' (fun x hx => by cases List.mem_singleton.mp hx; exact (V.2.2.2 b hs).1) V.2.2.1.1))
  exact ⟨t, o, st t q1, q2⟩
theorem s_initO {a0 : Array Value} {idx : Nat} {a : Addr} (w1 : (Jvm.Cond.methodLink I.own idx Lib.objectInit).before a0 Z = true) (w2 : (Jvm.Cond.instanceMethod Lib.objectInit).before a0 Z = true) (w3 : (Jvm.Cond.code Lib.objectInit ⟨#[0xb1]⟩ 1 none).before a0 Z = true) (hsz : L.size = I.ml) (hd : decode I.bytes pc = .ok (.invokespecial idx, 3)) (hq : pc + 3 = pc') (hf : 1 ≤ I.R.frames) (hlo : (S.map fun v => v.category).sum + 12 ≤ I.R.locals)
    (r : oRunG C Z n0 I EL ws G h cs sl (mkF C.m pc' L S)) : oRunG C Z n0 I EL ws G h cs sl (mkF C.m pc L (.ref a :: S)) := by
  subst hq
  refine oMove (fun T locs K => ?_) r
  obtain ⟨X, k1, k2, k3, k4, k5, k6, k7, k8, k9, k10, k11⟩ := K
  obtain ⟨T', X', e', st⟩ := initO X k1 k2 k3 w1 w2 w3 k9 (g := mkF C.m pc L (.ref a :: S)) rfl (hsz.trans k5.symm) rfl (hb k4 hd) hf (W := (S.map fun v => v.category).sum) (by show 2 * 0 + _ ≤ _; simp) hlo
  exact ⟨T', locs, ⟨X', k1, k2, k3, k4, k5, k6, k7, k8, e', k10, k11⟩, st⟩
theorem s_ldcI {a0 : Array Value} {idx : Nat} (w : (Jvm.Cond.constant I.own idx x).before a0 Z = true) (hd : decode I.bytes pc = .ok (.ldc idx, 2)) (hq : pc + 2 = pc') (r : oRunG C Z n0 I EL ws G h cs sl (mkF C.m pc' L (.int x :: S))) : oRunG C Z n0 I EL ws G h cs sl (mkF C.m pc L S) := by
  subst hq
  refine oStep (fun T locs K t kt => ?_) r
  obtain ⟨X, k1, k2, k3, k4, k5, k6, k7, k8, k9, k10, k11⟩ := K
  exact X.ldcInt k1 k3 (mvT k2 w) (g := mkF C.m pc L S) rfl (hb k4 hd) _ kt
theorem s_acmpNe {o : Int} {pc'' : Nat} {v w : Value} (hv : v.isRef = true) (hw : w.isRef = true) (hd : decode I.bytes pc = .ok (.if_acmp .ne o, 3)) (hq : pc + 3 = pc') (ho : 0 ≤ (pc : Int) + o) (hq' : ((pc : Int) + o).toNat = pc'')
    (rt : ¬ v = w → oRunG C Z n0 I EL ws G h cs sl (mkF C.m pc'' L S)) (rf : v = w → oRunG C Z n0 I EL ws G h cs sl (mkF C.m pc' L S)) : oRunG C Z n0 I EL ws G h cs sl (mkF C.m pc L (w :: v :: S)) := by
  subst hq
  by_cases hh : v = w
  · exact oStep (fun T locs K t kt => XT.acmpNo K.1.here K.2.1 rfl (hb K.2.2.2.2.1 hd) rfl hv hw (by simp [XT.acmp, hh]) kt) (rf hh)
  · exact oStep (fun T locs K t kt => XT.acmpYes K.1.here K.2.1 rfl (pc0 := pc) rfl (hb K.2.2.2.2.1 hd) rfl hv hw (by simp [XT.acmp, hh]) ho hq' kt) (rt hh)
theorem s_acmpEq {o : Int} {pc'' : Nat} {v w : Value} (hv : v.isRef = true) (hw : w.isRef = true) (hd : decode I.bytes pc = .ok (.if_acmp .eq o, 3)) (hq : pc + 3 = pc') (ho : 0 ≤ (pc : Int) + o) (hq' : ((pc : Int) + o).toNat = pc'')
    (rt : v = w → oRunG C Z n0 I EL ws G h cs sl (mkF C.m pc'' L S)) (rf : ¬ v = w → oRunG C Z n0 I EL ws G h cs sl (mkF C.m pc' L S)) : oRunG C Z n0 I EL ws G h cs sl (mkF C.m pc L (w :: v :: S)) := by
  subst hq
  by_cases hh : v = w
  · exact oStep (fun T locs K t kt => XT.acmpYes K.1.here K.2.1 rfl (pc0 := pc) rfl (hb K.2.2.2.2.1 hd) rfl hv hw (by simp [XT.acmp, hh]) ho hq' kt) (rt hh)
  · exact oStep (fun T locs K t kt => XT.acmpNo K.1.here K.2.1 rfl (hb K.2.2.2.2.1 hd) rfl hv hw (by simp [XT.acmp, hh]) kt) (rf hh)
theorem s_nnY {o : Int} {b : Addr} (hd : decode I.bytes pc = .ok (.ifnonnull o, 3)) (ho : 0 ≤ (pc : Int) + o) (hq' : ((pc : Int) + o).toNat = pc') (r : oRunG C Z n0 I EL ws G h cs sl (mkF C.m pc' L S)) : oRunG C Z n0 I EL ws G h cs sl (mkF C.m pc L (.ref b :: S)) :=
  oStep (fun T locs K t kt => XT.ifnonnullYes K.1.here K.2.1 rfl (pc0 := pc) rfl (hb K.2.2.2.2.1 hd) rfl ho hq' kt) r
theorem s_nnN {o : Int} (hd : decode I.bytes pc = .ok (.ifnonnull o, 3)) (hq : pc + 3 = pc') (r : oRunG C Z n0 I EL ws G h cs sl (mkF C.m pc' L S)) : oRunG C Z n0 I EL ws G h cs sl (mkF C.m pc L (.null :: S)) := by
  subst hq; exact oStep (fun T locs K t kt => XT.ifnonnullNo K.1.here K.2.1 rfl (hb K.2.2.2.2.1 hd) rfl kt) r
theorem s_nuY {o : Int} (hd : decode I.bytes pc = .ok (.ifnull o, 3)) (ho : 0 ≤ (pc : Int) + o) (hq' : ((pc : Int) + o).toNat = pc') (r : oRunG C Z n0 I EL ws G h cs sl (mkF C.m pc' L S)) : oRunG C Z n0 I EL ws G h cs sl (mkF C.m pc L (.null :: S)) :=
  oStep (fun T locs K t kt => XS.ifnullYes K.1.here K.2.1 rfl (pc0 := pc) rfl (hb K.2.2.2.2.1 hd) rfl ho hq' kt) r
theorem s_nuN {o : Int} {b : Addr} (hd : decode I.bytes pc = .ok (.ifnull o, 3)) (hq : pc + 3 = pc') (r : oRunG C Z n0 I EL ws G h cs sl (mkF C.m pc' L S)) : oRunG C Z n0 I EL ws G h cs sl (mkF C.m pc L (.ref b :: S)) := by
  subst hq; exact oStep (fun T locs K t kt => XS.ifnullNo K.1.here K.2.1 rfl (hb K.2.2.2.2.1 hd) rfl kt) r
theorem s_castY {a0 : Array Value} {Kn : String} {index : Nat} {a : Addr} (F : Ins Z h a Kn true) (w : (Jvm.Cond.classLink I.own index Kn).before a0 Z = true) (hd : decode I.bytes pc = .ok (.checkcast index, 3)) (hq : pc + 3 = pc')
    (r : oRunG C Z n0 I EL ws G h cs sl (mkF C.m pc' L (.ref a :: S))) : oRunG C Z n0 I EL ws G h cs sl (mkF C.m pc L (.ref a :: S)) := by
  subst hq
  refine oMove (fun T locs K => ?_) r
  obtain ⟨X, k1, k2, k3, k4, k5, k6, k7, k8, k9, k10, k11⟩ := K
  obtain ⟨T', X', e', st⟩ := castY X k1 k2 k3 w k9 F (g := mkF C.m pc L (.ref a :: S)) rfl rfl (hb k4 hd)
  exact ⟨T', locs, ⟨X', k1, k2, k3, k4, k5, k6, k7, k8, e', k10, k11⟩, st⟩
theorem s_instY {a0 : Array Value} {Kn : String} {index : Nat} {a : Addr} (F : Ins Z h a Kn true) (w : (Jvm.Cond.classLink I.own index Kn).before a0 Z = true) (hd : decode I.bytes pc = .ok (.instanceof index, 3)) (hq : pc + 3 = pc')
    (r : oRunG C Z n0 I EL ws G h cs sl (mkF C.m pc' L (.int 1 :: S))) : oRunG C Z n0 I EL ws G h cs sl (mkF C.m pc L (.ref a :: S)) := by
  subst hq
  refine oMove (fun T locs K => ?_) r
  obtain ⟨X, k1, k2, k3, k4, k5, k6, k7, k8, k9, k10, k11⟩ := K
  obtain ⟨T', X', e', st⟩ := instY X k1 k2 k3 w k9 F (g := mkF C.m pc L (.ref a :: S)) rfl rfl (hb k4 hd)
  exact ⟨T', locs, ⟨X', k1, k2, k3, k4, k5, k6, k7, k8, e', k10, k11⟩, st⟩
theorem s_instNo {a0 : Array Value} {Kn Cn : String} {index : Nat} {a : Addr} (E : Exa Z h a Cn) (F : ∃ c t, Z.vm.findClass Cn = some c ∧ Z.vm.findClass Kn = some t ∧ Z.vm.assignable c t = false) (w : (Jvm.Cond.classLink I.own index Kn).before a0 Z = true) (hd : decode I.bytes pc = .ok (.instanceof index, 3)) (hq : pc + 3 = pc')
    (r : oRunG C Z n0 I EL ws G h cs sl (mkF C.m pc' L (.int 0 :: S))) : oRunG C Z n0 I EL ws G h cs sl (mkF C.m pc L (.ref a :: S)) := by
  subst hq
  refine oMove (fun T locs K => ?_) r
  obtain ⟨X, k1, k2, k3, k4, k5, k6, k7, k8, k9, k10, k11⟩ := K
  obtain ⟨T', X', e', st⟩ := instNo X k1 k2 k3 w k9 E F (g := mkF C.m pc L (.ref a :: S)) rfl rfl (hb k4 hd)
  exact ⟨T', locs, ⟨X', k1, k2, k3, k4, k5, k6, k7, k8, e', k10, k11⟩, st⟩
theorem s_instNull {index : Nat} (hd : decode I.bytes pc = .ok (.instanceof index, 3)) (hq : pc + 3 = pc')
    (r : oRunG C Z n0 I EL ws G h cs sl (mkF C.m pc' L (.int 0 :: S))) : oRunG C Z n0 I EL ws G h cs sl (mkF C.m pc L (.null :: S)) := by
  subst hq
  refine oStep (fun T locs K t kt => ?_) r
  exact K.1.instanceofNull K.2.1 (g := mkF C.m pc L (.null :: S)) rfl rfl (hb K.2.2.2.2.1 hd) _ kt
-- a value left by a callee
def oPush : Option Value → List Value → List Value
  | none, S => S
  | some v, S => v :: S
theorem o_push (v : Option Value) (S : List Value) : v.toList ++ S = oPush v S := by cases v <;> rfl
theorem o_zero (S : List Value) (W : Nat) (q : (S.map fun v => v.category).sum ≤ W) (m : MethodId) (pc : Nat) (L : Array Slot) (S' : List Value) : 2 * (mkF m pc L S').monitorRoom + (S.map fun v => v.category).sum ≤ W := by show 2 * 0 + _ ≤ _; simpa using q
theorem s_callS {a0 : Array Value} {index : Nat} {yn : MethodName} {J : OInfo} {as' : Array Value} {G' : Option Value → Vm → Heap → Prop} {Q' : Option Value → Heap → List Addr → Prop} {argsL : List Value} {ws' : List Addr} (M : oConG C.l Z n0 EL ws' yn J as' h G') (ha : argsL.toArray = as') (hsub : ∀ x ∈ ws', x ∈ ws)
    (w1 : (Jvm.Cond.methodLink I.own index yn).before a0 Z = true) (w2 : (Jvm.Cond.static yn).before a0 Z = true) (w3 : (Jvm.Cond.initialized yn.cls).before a0 Z = true) (w4 : (Jvm.Cond.code yn J.bytes J.ml J.ret).before a0 Z = true) (hy : yn.cls ≠ "java/lang/invoke/MethodHandle" ∧ yn.cls ≠ "java/lang/invoke/VarHandle")
    (hlen : ∀ sig, parseMethodDescriptor yn.desc = some sig → argsL.length = sig.parameters.length) (hsz : L.size = I.ml) (hd : decode I.bytes pc = .ok (.invokestatic index, 3)) (hq : pc + 3 = pc') (hf : J.R.frames + 1 ≤ I.R.frames) (hlo : (S.map fun v => v.category).sum + (J.ml + 11) + J.R.locals ≤ I.R.locals) (hc : cs + J.R.cells ≤ I.R.cells) (hs : sl + J.R.slots ≤ I.R.slots)
    (F : ∀ v vm h, G' v vm h → ∃ rs, Q' v h rs ∧ ∀ x ∈ rs, Safe Z EL vm h x ∧ x < h.size) (r : ∀ v h' rs, Q' v h' rs → oRunG C Z n0 I EL (rs ++ ws) G h' (cs + J.R.cells) (sl + J.R.slots) (mkF C.m pc' L (oPush v S))) : oRunG C Z n0 I EL ws G h cs sl (mkF C.m pc L (argsL.reverse ++ S)) := by
  subst hq ha
  intro vm0 T locs K V
  obtain ⟨X, k1, k2, k3, k4, k5, k6, k7, k8, k9, k10, k11⟩ := K
  obtain ⟨v, _, ⟨T', L', c', s'⟩, -, X', hS, hg2, ⟨Lc, ⟨q1, q2, q3⟩, l', y', z', hC⟩, st⟩ := callSS X k1 (y := yn) k3 (mvT k2 w1) (mvT k2 w2) (mvT k2 w3) (mvT k2 w4) hy (o_back (W := (S.map fun v => v.category).sum) M k11 k2 w4 w3 hf hlo V.1.choose_spec V.2.2.1.1 (fun x hx => V.2.2.2 x (hsub x hx))) (g := mkF C.m pc L (argsL.reverse ++ S)) rfl (hsz.trans k5.symm) (argsL := argsL) (rest := S) hlen rfl (o_zero _ _ (Nat.le_refl _) _ _ _ _) (hb k4 hd) (fun _ _ => ⟨rfl, k9, hc, hs⟩)
  dsimp only [Pt.U, Pt.locs, Pt.cells, Pt.slots] at X' l' y' z' st q2 q3 hS hg2 hC
  subst l' y' z'
  obtain ⟨kk, hk1, hk2⟩ := V.2.1
  have hS2 : C.s.Since T'.vm T'.heap.size := hk1.trans hS (Nat.le_trans hk2 (by rw [← k9]; exact hg2))
  have hZ2 : Z.Warmed39 T'.vm := State.Warmed39.trans (t := C.s.setVm vm0) k2 hS.1
  obtain ⟨rs, q4, q5⟩ := F _ _ _ q3
  obtain ⟨t, o, h1, h2⟩ := r v _ rs q4 T'.vm T' _ ⟨X', k1, hZ2, (hS.1.alike.findClass _ _).trans k3, k4, k5, k6, k7, k8, rfl, Fr.app k10 q1, q2⟩ ((V.step hC ⟨_, hS2, Nat.le_refl _⟩).add q5)
  rw [← o_push] at h1
  exact ⟨t, o, st.trans h1, h2⟩
theorem s_callI {a0 : Array Value} {index : Nat} {yn : MethodName} {J : OInfo} {as' : Array Value} {G' : Option Value → Vm → Heap → Prop} {Q' : Option Value → Heap → List Addr → Prop} {argsL : List Value} {a : Addr} {ws' : List Addr} (M : oConG C.l Z n0 EL ws' yn J as' h G') (ha : (.ref a :: argsL).toArray = as') (hsub : ∀ x ∈ ws', x ∈ ws) (hr : J.ret = none) (hn : yn.name = "<init>")
    (w1 : (Jvm.Cond.methodLink I.own index yn).before a0 Z = true) (w2 : (Jvm.Cond.instanceMethod yn).before a0 Z = true) (w3 : (Jvm.Cond.initialized yn.cls).before a0 Z = true) (w4 : (Jvm.Cond.code yn J.bytes J.ml J.ret).before a0 Z = true) (hy : yn.cls ≠ "java/lang/invoke/MethodHandle" ∧ yn.cls ≠ "java/lang/invoke/VarHandle")
    (hlen : ∀ sig, parseMethodDescriptor yn.desc = some sig → argsL.length = sig.parameters.length) (hsz : L.size = I.ml) (hd : decode I.bytes pc = .ok (.invokespecial index, 3)) (hq : pc + 3 = pc') (hf : J.R.frames + 1 ≤ I.R.frames) (hlo : (S.map fun v => v.category).sum + (J.ml + 11) + J.R.locals ≤ I.R.locals) (hc : cs + J.R.cells ≤ I.R.cells) (hs : sl + J.R.slots ≤ I.R.slots)
    (F : ∀ v vm h, G' v vm h → ∃ rs, Q' v h rs ∧ ∀ x ∈ rs, Safe Z EL vm h x ∧ x < h.size) (r : ∀ v h' rs, Q' v h' rs → oRunG C Z n0 I EL (rs ++ ws) G h' (cs + J.R.cells) (sl + J.R.slots) (mkF C.m pc' L (oPush v S))) : oRunG C Z n0 I EL ws G h cs sl (mkF C.m pc L (argsL.reverse ++ .ref a :: S)) := by
  subst hq ha
  intro vm0 T locs K V
  obtain ⟨X, k1, k2, k3, k4, k5, k6, k7, k8, k9, k10, k11⟩ := K
  obtain ⟨v, _, ⟨T', L', c', s'⟩, -, X', hS, hg2, ⟨Lc, ⟨q1, q2, q3⟩, l', y', z', hC⟩, st⟩ := X.specialBackS k1 (y := yn) hn k3 (mvT k2 w1) (mvT k2 w2) (bytes := J.bytes) (maxL := J.ml) (by rw [hr] at w4; exact mvT k2 w4) hy (o_back (W := (S.map fun v => v.category).sum) M k11 k2 w4 w3 hf hlo V.1.choose_spec V.2.2.1.1 (fun x hx => V.2.2.2 x (hsub x hx))) (g := mkF C.m pc L (argsL.reverse ++ .ref a :: S)) rfl (hsz.trans k5.symm) (Steps.refl _) (argsL := argsL) (rest := S) hlen rfl (o_zero _ _ (Nat.le_refl _) _ _ _ _) (hb k4 hd) (fun _ _ => ⟨rfl, k9, hc, hs⟩)
  dsimp only [Pt.U, Pt.locs, Pt.cells, Pt.slots] at X' l' y' z' st q2 q3 hS hg2 hC
  subst l' y' z'
  obtain ⟨kk, hk1, hk2⟩ := V.2.1
  have hS2 : C.s.Since T'.vm T'.heap.size := hk1.trans hS (Nat.le_trans hk2 (by rw [← k9]; exact hg2))
  have hZ2 : Z.Warmed39 T'.vm := State.Warmed39.trans (t := C.s.setVm vm0) k2 hS.1
  obtain ⟨rs, q4, q5⟩ := F _ _ _ q3
  obtain ⟨t, o, h1, h2⟩ := r v _ rs q4 T'.vm T' _ ⟨X', k1, hZ2, (hS.1.alike.findClass _ _).trans k3, k4, k5, k6, k7, k8, rfl, Fr.app k10 q1, q2⟩ ((V.step hC ⟨_, hS2, Nat.le_refl _⟩).add q5)
  rw [← o_push] at h1
  exact ⟨t, o, st.trans h1, h2⟩
theorem s_callV {a0 : Array Value} {index : Nat} {Cn : String} {yn zn : MethodName} {J : OInfo} {as' : Array Value} {G' : Option Value → Vm → Heap → Prop} {Q' : Option Value → Heap → List Addr → Prop} {argsL : List Value} {a : Addr} {ws' : List Addr} (M : oConG C.l Z n0 EL ws' zn J as' h G') (ha : (.ref a :: argsL).toArray = as') (hsub : ∀ x ∈ ws', x ∈ ws) (E : Exa Z h a Cn)
    (w1 : (Jvm.Cond.methodLink I.own index yn).before a0 Z = true) (w2 : (Jvm.Cond.declares yn).before a0 Z = true) (w5 : (Jvm.Cond.selects Cn yn zn).before a0 Z = true) (w6 : (Jvm.Cond.instanceMethod zn).before a0 Z = true) (nf : ∀ s' : State, Z.Warmed39 s'.vm → NotFace s' yn) (w3 : (Jvm.Cond.initialized zn.cls).before a0 Z = true) (w4 : (Jvm.Cond.code zn J.bytes J.ml J.ret).before a0 Z = true) (hy : yn.cls ≠ "java/lang/invoke/MethodHandle" ∧ yn.cls ≠ "java/lang/invoke/VarHandle")
    (hlen : ∀ sig, parseMethodDescriptor yn.desc = some sig → argsL.length = sig.parameters.length) (hsz : L.size = I.ml) (hd : decode I.bytes pc = .ok (.invokevirtual index, 3)) (hq : pc + 3 = pc') (hf : J.R.frames + 1 ≤ I.R.frames) (hlo : (S.map fun v => v.category).sum + (J.ml + 11) + J.R.locals ≤ I.R.locals) (hc : cs + J.R.cells ≤ I.R.cells) (hs : sl + J.R.slots ≤ I.R.slots)
    (F : ∀ v vm h, G' v vm h → ∃ rs, Q' v h rs ∧ ∀ x ∈ rs, Safe Z EL vm h x ∧ x < h.size) (r : ∀ v h' rs, Q' v h' rs → oRunG C Z n0 I EL (rs ++ ws) G h' (cs + J.R.cells) (sl + J.R.slots) (mkF C.m pc' L (oPush v S))) : oRunG C Z n0 I EL ws G h cs sl (mkF C.m pc L (argsL.reverse ++ .ref a :: S)) := by
  subst hq ha
  intro vm0 T locs K V
  obtain ⟨X, k1, k2, k3, k4, k5, k6, k7, k8, k9, k10, k11⟩ := K
  obtain ⟨cq, kq, qa, qb, qc⟩ := isOf (T := T) k2 k9 E
  obtain ⟨v, _, ⟨T', L', c', s'⟩, -, X', hS, hg2, ⟨Lc, ⟨q1, q2, q3⟩, l', y', z', hC⟩, st⟩ := X.virtualBackS k1 (y := yn) (z := zn) k3 (mvT k2 w1) (mvT k2 w2) (nf _ k2) (mvT k2 w5) (mvT k2 w6) hy (o_back (W := (S.map fun v => v.category).sum) M k11 k2 w4 w3 hf hlo V.1.choose_spec V.2.2.1.1 (fun x hx => V.2.2.2 x (hsub x hx))) qa qc (g := mkF C.m pc L (argsL.reverse ++ .ref a :: S)) rfl (hsz.trans k5.symm) (Steps.refl _) (argsL := argsL) (rest := S) hlen rfl (o_zero _ _ (Nat.le_refl _) _ _ _ _) (hb k4 hd) (fun _ _ => ⟨rfl, k9, hc, hs⟩)
  dsimp only [Pt.U, Pt.locs, Pt.cells, Pt.slots] at X' l' y' z' st q2 q3 hS hg2 hC
  subst l' y' z'
  obtain ⟨kk, hk1, hk2⟩ := V.2.1
  have hS2 : C.s.Since T'.vm T'.heap.size := hk1.trans hS (Nat.le_trans hk2 (by rw [← k9]; exact hg2))
  have hZ2 : Z.Warmed39 T'.vm := State.Warmed39.trans (t := C.s.setVm vm0) k2 hS.1
  obtain ⟨rs, q4, q5⟩ := F _ _ _ q3
  obtain ⟨t, o, h1, h2⟩ := r v _ rs q4 T'.vm T' _ ⟨X', k1, hZ2, (hS.1.alike.findClass _ _).trans k3, k4, k5, k6, k7, k8, rfl, Fr.app k10 q1, q2⟩ ((V.step hC ⟨_, hS2, Nat.le_refl _⟩).add q5)
  rw [← o_push] at h1
  exact ⟨t, o, st.trans h1, h2⟩
theorem o_nf {a0 : Array Value} {Cn : String} {yn zn : MethodName} (w5 : (Jvm.Cond.selects Cn yn zn).before a0 Z = true) (q : yn = zn) : ∀ s' : State, Z.Warmed39 s'.vm → NotFace s' yn := by
  subst q; exact fun s' hz => notFace_of_selects (args := #[]) (mvT hz w5)
theorem o_len {d : String} {ps : List FieldType} {r : Option FieldType} (hd : parseMethodDescriptor d = some ⟨ps, r⟩) {n : Nat} (hl : n = ps.length) : ∀ sig, parseMethodDescriptor d = some sig → n = sig.parameters.length := fun sig h => by
  cases hd.symm.trans h; exact hl
theorem s_callU {a0 : Array Value} {index : Nat} {Kn : String} {yn : MethodName} {J : OInfo} {as' : Array Value} {G' : Option Value → Vm → Heap → Prop} {Q' : Option Value → Heap → List Addr → Prop} {argsL : List Value} {a : Addr} {ws' : List Addr} (M : oConG C.l Z n0 EL ws' yn J as' h G') (ha : (.ref a :: argsL).toArray = as') (hsub : ∀ x ∈ ws', x ∈ ws) (E : Ins Z h a Kn true)
    (w1 : (Jvm.Cond.methodLink I.own index yn).before a0 Z = true) (w2 : (Jvm.Cond.sameMethod yn.cls yn.cls yn.name yn.desc).before a0 Z = true) (w5 : (Jvm.Cond.superclass I.own yn.cls).before a0 Z = true) (w6 : (Jvm.Cond.instanceMethod yn).before a0 Z = true) (w3 : (Jvm.Cond.initialized yn.cls).before a0 Z = true) (w4 : (Jvm.Cond.code yn J.bytes J.ml J.ret).before a0 Z = true) (hn : yn.name ≠ "<init>")
    (hlen : ∀ sig, parseMethodDescriptor yn.desc = some sig → argsL.length = sig.parameters.length) (hsz : L.size = I.ml) (hd : decode I.bytes pc = .ok (.invokespecial index, 3)) (hq : pc + 3 = pc') (hf : J.R.frames + 1 ≤ I.R.frames) (hlo : (S.map fun v => v.category).sum + (J.ml + 11) + J.R.locals ≤ I.R.locals) (hc : cs + J.R.cells ≤ I.R.cells) (hs : sl + J.R.slots ≤ I.R.slots)
    (F : ∀ v vm h, G' v vm h → ∃ rs, Q' v h rs ∧ ∀ x ∈ rs, Safe Z EL vm h x ∧ x < h.size) (r : ∀ v h' rs, Q' v h' rs → oRunG C Z n0 I EL (rs ++ ws) G h' (cs + J.R.cells) (sl + J.R.slots) (mkF C.m pc' L (oPush v S))) : oRunG C Z n0 I EL ws G h cs sl (mkF C.m pc L (argsL.reverse ++ .ref a :: S)) := by
  subst hq ha
  intro vm0 T locs K V
  obtain ⟨X, k1, k2, k3, k4, k5, k6, k7, k8, k9, k10, k11⟩ := K
  obtain ⟨v, _, ⟨T', L', c', s'⟩, -, X', hS, hg2, ⟨Lc, ⟨q1, q2, q3⟩, l', y', z', hC⟩, st⟩ := superBackS X k1 k2 k3 w1 w2 w6 w5 hn (o_back (W := (S.map fun v => v.category).sum) M k11 k2 w4 w3 hf hlo V.1.choose_spec V.2.2.1.1 (fun x hx => V.2.2.2 x (hsub x hx))) k9 E (g := mkF C.m pc L (argsL.reverse ++ .ref a :: S)) rfl (hsz.trans k5.symm) w4 (argsL := argsL) (rest := S) hlen rfl (o_zero _ _ (Nat.le_refl _) _ _ _ _) (hb k4 hd) (fun _ _ => ⟨rfl, k9, hc, hs⟩)
  dsimp only [Pt.U, Pt.locs, Pt.cells, Pt.slots] at X' l' y' z' st q2 q3 hS hg2 hC
  subst l' y' z'
  obtain ⟨kk, hk1, hk2⟩ := V.2.1
  have hS2 : C.s.Since T'.vm T'.heap.size := hk1.trans hS (Nat.le_trans hk2 (by rw [← k9]; exact hg2))
  have hZ2 : Z.Warmed39 T'.vm := State.Warmed39.trans (t := C.s.setVm vm0) k2 hS.1
  obtain ⟨rs, q4, q5⟩ := F _ _ _ q3
  obtain ⟨t, o, h1, h2⟩ := r v _ rs q4 T'.vm T' _ ⟨X', k1, hZ2, (hS.1.alike.findClass _ _).trans k3, k4, k5, k6, k7, k8, rfl, Fr.app k10 q1, q2⟩ ((V.step hC ⟨_, hS2, Nat.le_refl _⟩).add q5)
  rw [← o_push] at h1
  exact ⟨t, o, st.trans h1, h2⟩
-- a private method's entry, and a superclass's own one
theorem o_declOf {a0 : Array Value} {y : MethodName} {bytes : ByteArray} {ml : Nat} {ret : Option FieldType} (w : (Jvm.Cond.instanceMethod y).before a0 Z = true) (wc : (Jvm.Cond.code y bytes ml ret).before a0 Z = true) : (Jvm.Cond.declares y).before a0 Z = true := by
  obtain ⟨mk, methM, hnamed, hmethM, hstM, habM⟩ := Cond.instanceMethod_spec w
  obtain ⟨m2, cM, q1, -, -, -, -, -, -, hsig⟩ := Cond.code_spec hnamed wc
  cases hmethM.symm.trans q1
  simp [Cond.before, Cond.holds, Cond.value, hnamed, hmethM, hstM, hsig]
theorem o_nf2 {a0 : Array Value} {y x1 y1 : MethodName} {Cn : String} (w5 : (Jvm.Cond.selects Cn x1 y1).before a0 Z = true) (hc : y1.cls = y.cls) : ∀ s' : State, Z.Warmed39 s'.vm → NotFace s' y := fun s' hz r0 hn => by
  obtain ⟨c2, r2, m2, -, -, q3, -, kP, hkP, hkPi⟩ := Cond.selects_spec (mvT (args := #[]) hz w5)
  have c1 := findClass_of_methodNamed hn
  have c3 := findClass_of_methodNamed q3
  rw [hc] at c3
  have e : m2.cls = r0.cls := Option.some.inj (c3.symm.trans c1)
  rw [e] at hkP
  exact ⟨kP, hkP, hkPi⟩
theorem o_sameOf {a0 : Array Value} {y x1 y1 : MethodName} {Cn : String} (w : (Jvm.Cond.instanceMethod y).before a0 Z = true) (w5 : (Jvm.Cond.selects Cn x1 y1).before a0 Z = true) (hc : y1.cls = y.cls) (hy : y.cls ≠ "java/lang/invoke/MethodHandle" ∧ y.cls ≠ "java/lang/invoke/VarHandle") : (Jvm.Cond.sameMethod y.cls y.cls y.name y.desc).before a0 Z = true := by
  obtain ⟨mk, methM, hnamed, hmethM, hstM, habM⟩ := Cond.instanceMethod_spec w
  obtain ⟨c2, r2, m2, -, -, q3, -, kP, hkP, hkPi⟩ := Cond.selects_spec w5
  have hf := State.methodFound?_of_named hnamed hy
  have c1 := findClass_of_methodNamed hnamed
  have c3 := findClass_of_methodNamed q3
  rw [hc] at c3
  have e : m2.cls = mk.cls := Option.some.inj (c3.symm.trans c1)
  rw [e] at hkP
  simp [Cond.before, Cond.holds, Cond.value, hf, c1, hkP, hkPi, hnamed]
theorem s_callS0 {a0 : Array Value} {index : Nat} {yn : MethodName} {J : OInfo} {Q' : Option Value → Heap → Prop} {ws' : List Addr} (M : oCon C.l Z n0 EL ws' yn J #[] h Q') (hsub : ∀ x ∈ ws', x ∈ ws) (w1 : (Jvm.Cond.methodLink I.own index yn).before a0 Z = true) (w2 : (Jvm.Cond.static yn).before a0 Z = true) (w3 : (Jvm.Cond.initialized yn.cls).before a0 Z = true) (w4 : (Jvm.Cond.code yn J.bytes J.ml J.ret).before a0 Z = true) (hy : yn.cls ≠ "java/lang/invoke/MethodHandle" ∧ yn.cls ≠ "java/lang/invoke/VarHandle")
    (hlen : ∀ sig, parseMethodDescriptor yn.desc = some sig → 0 = sig.parameters.length) (hsz : L.size = I.ml) (hd : decode I.bytes pc = .ok (.invokestatic index, 3)) (hq : pc + 3 = pc') (hf : J.R.frames + 1 ≤ I.R.frames) (hlo : (S.map fun v => v.category).sum + (J.ml + 11) + J.R.locals ≤ I.R.locals) (hc : cs + J.R.cells ≤ I.R.cells) (hs : sl + J.R.slots ≤ I.R.slots)
    (r : ∀ v h', Q' v h' → oRunG C Z n0 I EL ws G h' (cs + J.R.cells) (sl + J.R.slots) (mkF C.m pc' L (oPush v S))) : oRunG C Z n0 I EL ws G h cs sl (mkF C.m pc L (S)) := s_callS (argsL := []) (Q' := fun v h rs => Q' v h ∧ rs = []) M rfl hsub w1 w2 w3 w4 hy hlen hsz hd hq hf hlo hc hs (fun v vm h q => ⟨[], ⟨q, rfl⟩, fun _ hx => nomatch hx⟩) (fun v h' rs q => by obtain ⟨q, rfl⟩ := q; exact r v h' q)
theorem s_callS0R {a0 : Array Value} {index : Nat} {yn : MethodName} {J : OInfo} {Q' : Option Value → Heap → List Addr → Prop} {ws' : List Addr} (M : oConG C.l Z n0 EL ws' yn J #[] h (oR Z EL Q')) (hsub : ∀ x ∈ ws', x ∈ ws) (w1 : (Jvm.Cond.methodLink I.own index yn).before a0 Z = true) (w2 : (Jvm.Cond.static yn).before a0 Z = true) (w3 : (Jvm.Cond.initialized yn.cls).before a0 Z = true) (w4 : (Jvm.Cond.code yn J.bytes J.ml J.ret).before a0 Z = true) (hy : yn.cls ≠ "java/lang/invoke/MethodHandle" ∧ yn.cls ≠ "java/lang/invoke/VarHandle")
    (hlen : ∀ sig, parseMethodDescriptor yn.desc = some sig → 0 = sig.parameters.length) (hsz : L.size = I.ml) (hd : decode I.bytes pc = .ok (.invokestatic index, 3)) (hq : pc + 3 = pc') (hf : J.R.frames + 1 ≤ I.R.frames) (hlo : (S.map fun v => v.category).sum + (J.ml + 11) + J.R.locals ≤ I.R.locals) (hc : cs + J.R.cells ≤ I.R.cells) (hs : sl + J.R.slots ≤ I.R.slots)
    (r : ∀ v h' rs, Q' v h' rs → oRunG C Z n0 I EL (rs ++ ws) G h' (cs + J.R.cells) (sl + J.R.slots) (mkF C.m pc' L (oPush v S))) : oRunG C Z n0 I EL ws G h cs sl (mkF C.m pc L (S)) := s_callS (argsL := []) (Q' := Q') M rfl hsub w1 w2 w3 w4 hy hlen hsz hd hq hf hlo hc hs (fun v vm h q => q) r
theorem s_callI0 {a0 : Array Value} {index : Nat} {yn : MethodName} {J : OInfo} {Q' : Option Value → Heap → Prop} {a : Addr} {ws' : List Addr} (M : oCon C.l Z n0 EL ws' yn J #[.ref a] h Q') (hsub : ∀ x ∈ ws', x ∈ ws) (hr : J.ret = none) (hn : yn.name = "<init>") (w1 : (Jvm.Cond.methodLink I.own index yn).before a0 Z = true) (w2 : (Jvm.Cond.instanceMethod yn).before a0 Z = true) (w3 : (Jvm.Cond.initialized yn.cls).before a0 Z = true) (w4 : (Jvm.Cond.code yn J.bytes J.ml J.ret).before a0 Z = true) (hy : yn.cls ≠ "java/lang/invoke/MethodHandle" ∧ yn.cls ≠ "java/lang/invoke/VarHandle")
    (hlen : ∀ sig, parseMethodDescriptor yn.desc = some sig → 0 = sig.parameters.length) (hsz : L.size = I.ml) (hd : decode I.bytes pc = .ok (.invokespecial index, 3)) (hq : pc + 3 = pc') (hf : J.R.frames + 1 ≤ I.R.frames) (hlo : (S.map fun v => v.category).sum + (J.ml + 11) + J.R.locals ≤ I.R.locals) (hc : cs + J.R.cells ≤ I.R.cells) (hs : sl + J.R.slots ≤ I.R.slots)
    (r : ∀ v h', Q' v h' → oRunG C Z n0 I EL ws G h' (cs + J.R.cells) (sl + J.R.slots) (mkF C.m pc' L (oPush v S))) : oRunG C Z n0 I EL ws G h cs sl (mkF C.m pc L (.ref a :: S)) := s_callI (argsL := []) (Q' := fun v h rs => Q' v h ∧ rs = []) M rfl hsub hr hn w1 w2 w3 w4 hy hlen hsz hd hq hf hlo hc hs (fun v vm h q => ⟨[], ⟨q, rfl⟩, fun _ hx => nomatch hx⟩) (fun v h' rs q => by obtain ⟨q, rfl⟩ := q; exact r v h' q)
theorem s_callI0R {a0 : Array Value} {index : Nat} {yn : MethodName} {J : OInfo} {Q' : Option Value → Heap → List Addr → Prop} {a : Addr} {ws' : List Addr} (M : oConG C.l Z n0 EL ws' yn J #[.ref a] h (oR Z EL Q')) (hsub : ∀ x ∈ ws', x ∈ ws) (hr : J.ret = none) (hn : yn.name = "<init>") (w1 : (Jvm.Cond.methodLink I.own index yn).before a0 Z = true) (w2 : (Jvm.Cond.instanceMethod yn).before a0 Z = true) (w3 : (Jvm.Cond.initialized yn.cls).before a0 Z = true) (w4 : (Jvm.Cond.code yn J.bytes J.ml J.ret).before a0 Z = true) (hy : yn.cls ≠ "java/lang/invoke/MethodHandle" ∧ yn.cls ≠ "java/lang/invoke/VarHandle")
    (hlen : ∀ sig, parseMethodDescriptor yn.desc = some sig → 0 = sig.parameters.length) (hsz : L.size = I.ml) (hd : decode I.bytes pc = .ok (.invokespecial index, 3)) (hq : pc + 3 = pc') (hf : J.R.frames + 1 ≤ I.R.frames) (hlo : (S.map fun v => v.category).sum + (J.ml + 11) + J.R.locals ≤ I.R.locals) (hc : cs + J.R.cells ≤ I.R.cells) (hs : sl + J.R.slots ≤ I.R.slots)
    (r : ∀ v h' rs, Q' v h' rs → oRunG C Z n0 I EL (rs ++ ws) G h' (cs + J.R.cells) (sl + J.R.slots) (mkF C.m pc' L (oPush v S))) : oRunG C Z n0 I EL ws G h cs sl (mkF C.m pc L (.ref a :: S)) := s_callI (argsL := []) (Q' := Q') M rfl hsub hr hn w1 w2 w3 w4 hy hlen hsz hd hq hf hlo hc hs (fun v vm h q => q) r
theorem s_callV0 {a0 : Array Value} {index : Nat} {yn : MethodName} {J : OInfo} {Q' : Option Value → Heap → Prop} {a : Addr} {Cn : String} {zn : MethodName} {ws' : List Addr} (M : oCon C.l Z n0 EL ws' zn J #[.ref a] h Q') (hsub : ∀ x ∈ ws', x ∈ ws) (E : Exa Z h a Cn) (w1 : (Jvm.Cond.methodLink I.own index yn).before a0 Z = true) (w2 : (Jvm.Cond.declares yn).before a0 Z = true) (w5 : (Jvm.Cond.selects Cn yn zn).before a0 Z = true) (w6 : (Jvm.Cond.instanceMethod zn).before a0 Z = true) (nf : ∀ s' : State, Z.Warmed39 s'.vm → NotFace s' yn) (w3 : (Jvm.Cond.initialized zn.cls).before a0 Z = true) (w4 : (Jvm.Cond.code zn J.bytes J.ml J.ret).before a0 Z = true) (hy : yn.cls ≠ "java/lang/invoke/MethodHandle" ∧ yn.cls ≠ "java/lang/invoke/VarHandle")
    (hlen : ∀ sig, parseMethodDescriptor yn.desc = some sig → 0 = sig.parameters.length) (hsz : L.size = I.ml) (hd : decode I.bytes pc = .ok (.invokevirtual index, 3)) (hq : pc + 3 = pc') (hf : J.R.frames + 1 ≤ I.R.frames) (hlo : (S.map fun v => v.category).sum + (J.ml + 11) + J.R.locals ≤ I.R.locals) (hc : cs + J.R.cells ≤ I.R.cells) (hs : sl + J.R.slots ≤ I.R.slots)
    (r : ∀ v h', Q' v h' → oRunG C Z n0 I EL ws G h' (cs + J.R.cells) (sl + J.R.slots) (mkF C.m pc' L (oPush v S))) : oRunG C Z n0 I EL ws G h cs sl (mkF C.m pc L (.ref a :: S)) := s_callV (argsL := []) (Q' := fun v h rs => Q' v h ∧ rs = []) M rfl hsub E w1 w2 w5 w6 nf w3 w4 hy hlen hsz hd hq hf hlo hc hs (fun v vm h q => ⟨[], ⟨q, rfl⟩, fun _ hx => nomatch hx⟩) (fun v h' rs q => by obtain ⟨q, rfl⟩ := q; exact r v h' q)
theorem s_callV0R {a0 : Array Value} {index : Nat} {yn : MethodName} {J : OInfo} {Q' : Option Value → Heap → List Addr → Prop} {a : Addr} {Cn : String} {zn : MethodName} {ws' : List Addr} (M : oConG C.l Z n0 EL ws' zn J #[.ref a] h (oR Z EL Q')) (hsub : ∀ x ∈ ws', x ∈ ws) (E : Exa Z h a Cn) (w1 : (Jvm.Cond.methodLink I.own index yn).before a0 Z = true) (w2 : (Jvm.Cond.declares yn).before a0 Z = true) (w5 : (Jvm.Cond.selects Cn yn zn).before a0 Z = true) (w6 : (Jvm.Cond.instanceMethod zn).before a0 Z = true) (nf : ∀ s' : State, Z.Warmed39 s'.vm → NotFace s' yn) (w3 : (Jvm.Cond.initialized zn.cls).before a0 Z = true) (w4 : (Jvm.Cond.code zn J.bytes J.ml J.ret).before a0 Z = true) (hy : yn.cls ≠ "java/lang/invoke/MethodHandle" ∧ yn.cls ≠ "java/lang/invoke/VarHandle")
    (hlen : ∀ sig, parseMethodDescriptor yn.desc = some sig → 0 = sig.parameters.length) (hsz : L.size = I.ml) (hd : decode I.bytes pc = .ok (.invokevirtual index, 3)) (hq : pc + 3 = pc') (hf : J.R.frames + 1 ≤ I.R.frames) (hlo : (S.map fun v => v.category).sum + (J.ml + 11) + J.R.locals ≤ I.R.locals) (hc : cs + J.R.cells ≤ I.R.cells) (hs : sl + J.R.slots ≤ I.R.slots)
    (r : ∀ v h' rs, Q' v h' rs → oRunG C Z n0 I EL (rs ++ ws) G h' (cs + J.R.cells) (sl + J.R.slots) (mkF C.m pc' L (oPush v S))) : oRunG C Z n0 I EL ws G h cs sl (mkF C.m pc L (.ref a :: S)) := s_callV (argsL := []) (Q' := Q') M rfl hsub E w1 w2 w5 w6 nf w3 w4 hy hlen hsz hd hq hf hlo hc hs (fun v vm h q => q) r
theorem s_callU0 {a0 : Array Value} {index : Nat} {yn : MethodName} {J : OInfo} {Q' : Option Value → Heap → Prop} {a : Addr} {Kn : String} {ws' : List Addr} (M : oCon C.l Z n0 EL ws' yn J #[.ref a] h Q') (hsub : ∀ x ∈ ws', x ∈ ws) (E : Ins Z h a Kn true) (w1 : (Jvm.Cond.methodLink I.own index yn).before a0 Z = true) (w2 : (Jvm.Cond.sameMethod yn.cls yn.cls yn.name yn.desc).before a0 Z = true) (w5 : (Jvm.Cond.superclass I.own yn.cls).before a0 Z = true) (w6 : (Jvm.Cond.instanceMethod yn).before a0 Z = true) (w3 : (Jvm.Cond.initialized yn.cls).before a0 Z = true) (w4 : (Jvm.Cond.code yn J.bytes J.ml J.ret).before a0 Z = true) (hn : yn.name ≠ "<init>")
    (hlen : ∀ sig, parseMethodDescriptor yn.desc = some sig → 0 = sig.parameters.length) (hsz : L.size = I.ml) (hd : decode I.bytes pc = .ok (.invokespecial index, 3)) (hq : pc + 3 = pc') (hf : J.R.frames + 1 ≤ I.R.frames) (hlo : (S.map fun v => v.category).sum + (J.ml + 11) + J.R.locals ≤ I.R.locals) (hc : cs + J.R.cells ≤ I.R.cells) (hs : sl + J.R.slots ≤ I.R.slots)
    (r : ∀ v h', Q' v h' → oRunG C Z n0 I EL ws G h' (cs + J.R.cells) (sl + J.R.slots) (mkF C.m pc' L (oPush v S))) : oRunG C Z n0 I EL ws G h cs sl (mkF C.m pc L (.ref a :: S)) := s_callU (argsL := []) (Q' := fun v h rs => Q' v h ∧ rs = []) M rfl hsub E w1 w2 w5 w6 w3 w4 hn hlen hsz hd hq hf hlo hc hs (fun v vm h q => ⟨[], ⟨q, rfl⟩, fun _ hx => nomatch hx⟩) (fun v h' rs q => by obtain ⟨q, rfl⟩ := q; exact r v h' q)
theorem s_callU0R {a0 : Array Value} {index : Nat} {yn : MethodName} {J : OInfo} {Q' : Option Value → Heap → List Addr → Prop} {a : Addr} {Kn : String} {ws' : List Addr} (M : oConG C.l Z n0 EL ws' yn J #[.ref a] h (oR Z EL Q')) (hsub : ∀ x ∈ ws', x ∈ ws) (E : Ins Z h a Kn true) (w1 : (Jvm.Cond.methodLink I.own index yn).before a0 Z = true) (w2 : (Jvm.Cond.sameMethod yn.cls yn.cls yn.name yn.desc).before a0 Z = true) (w5 : (Jvm.Cond.superclass I.own yn.cls).before a0 Z = true) (w6 : (Jvm.Cond.instanceMethod yn).before a0 Z = true) (w3 : (Jvm.Cond.initialized yn.cls).before a0 Z = true) (w4 : (Jvm.Cond.code yn J.bytes J.ml J.ret).before a0 Z = true) (hn : yn.name ≠ "<init>")
    (hlen : ∀ sig, parseMethodDescriptor yn.desc = some sig → 0 = sig.parameters.length) (hsz : L.size = I.ml) (hd : decode I.bytes pc = .ok (.invokespecial index, 3)) (hq : pc + 3 = pc') (hf : J.R.frames + 1 ≤ I.R.frames) (hlo : (S.map fun v => v.category).sum + (J.ml + 11) + J.R.locals ≤ I.R.locals) (hc : cs + J.R.cells ≤ I.R.cells) (hs : sl + J.R.slots ≤ I.R.slots)
    (r : ∀ v h' rs, Q' v h' rs → oRunG C Z n0 I EL (rs ++ ws) G h' (cs + J.R.cells) (sl + J.R.slots) (mkF C.m pc' L (oPush v S))) : oRunG C Z n0 I EL ws G h cs sl (mkF C.m pc L (.ref a :: S)) := s_callU (argsL := []) (Q' := Q') M rfl hsub E w1 w2 w5 w6 w3 w4 hn hlen hsz hd hq hf hlo hc hs (fun v vm h q => q) r
theorem s_callS1 {a0 : Array Value} {index : Nat} {yn : MethodName} {J : OInfo} {Q' : Option Value → Heap → Prop} {ws' : List Addr} {v0 : Value} (M : oCon C.l Z n0 EL ws' yn J #[v0] h Q') (hsub : ∀ x ∈ ws', x ∈ ws) (w1 : (Jvm.Cond.methodLink I.own index yn).before a0 Z = true) (w2 : (Jvm.Cond.static yn).before a0 Z = true) (w3 : (Jvm.Cond.initialized yn.cls).before a0 Z = true) (w4 : (Jvm.Cond.code yn J.bytes J.ml J.ret).before a0 Z = true) (hy : yn.cls ≠ "java/lang/invoke/MethodHandle" ∧ yn.cls ≠ "java/lang/invoke/VarHandle")
    (hlen : ∀ sig, parseMethodDescriptor yn.desc = some sig → 1 = sig.parameters.length) (hsz : L.size = I.ml) (hd : decode I.bytes pc = .ok (.invokestatic index, 3)) (hq : pc + 3 = pc') (hf : J.R.frames + 1 ≤ I.R.frames) (hlo : (S.map fun v => v.category).sum + (J.ml + 11) + J.R.locals ≤ I.R.locals) (hc : cs + J.R.cells ≤ I.R.cells) (hs : sl + J.R.slots ≤ I.R.slots)
    (r : ∀ v h', Q' v h' → oRunG C Z n0 I EL ws G h' (cs + J.R.cells) (sl + J.R.slots) (mkF C.m pc' L (oPush v S))) : oRunG C Z n0 I EL ws G h cs sl (mkF C.m pc L (v0 :: S)) := s_callS (argsL := [v0]) (Q' := fun v h rs => Q' v h ∧ rs = []) M rfl hsub w1 w2 w3 w4 hy hlen hsz hd hq hf hlo hc hs (fun v vm h q => ⟨[], ⟨q, rfl⟩, fun _ hx => nomatch hx⟩) (fun v h' rs q => by obtain ⟨q, rfl⟩ := q; exact r v h' q)
theorem s_callS1R {a0 : Array Value} {index : Nat} {yn : MethodName} {J : OInfo} {Q' : Option Value → Heap → List Addr → Prop} {ws' : List Addr} {v0 : Value} (M : oConG C.l Z n0 EL ws' yn J #[v0] h (oR Z EL Q')) (hsub : ∀ x ∈ ws', x ∈ ws) (w1 : (Jvm.Cond.methodLink I.own index yn).before a0 Z = true) (w2 : (Jvm.Cond.static yn).before a0 Z = true) (w3 : (Jvm.Cond.initialized yn.cls).before a0 Z = true) (w4 : (Jvm.Cond.code yn J.bytes J.ml J.ret).before a0 Z = true) (hy : yn.cls ≠ "java/lang/invoke/MethodHandle" ∧ yn.cls ≠ "java/lang/invoke/VarHandle")
    (hlen : ∀ sig, parseMethodDescriptor yn.desc = some sig → 1 = sig.parameters.length) (hsz : L.size = I.ml) (hd : decode I.bytes pc = .ok (.invokestatic index, 3)) (hq : pc + 3 = pc') (hf : J.R.frames + 1 ≤ I.R.frames) (hlo : (S.map fun v => v.category).sum + (J.ml + 11) + J.R.locals ≤ I.R.locals) (hc : cs + J.R.cells ≤ I.R.cells) (hs : sl + J.R.slots ≤ I.R.slots)
    (r : ∀ v h' rs, Q' v h' rs → oRunG C Z n0 I EL (rs ++ ws) G h' (cs + J.R.cells) (sl + J.R.slots) (mkF C.m pc' L (oPush v S))) : oRunG C Z n0 I EL ws G h cs sl (mkF C.m pc L (v0 :: S)) := s_callS (argsL := [v0]) (Q' := Q') M rfl hsub w1 w2 w3 w4 hy hlen hsz hd hq hf hlo hc hs (fun v vm h q => q) r
theorem s_callI1 {a0 : Array Value} {index : Nat} {yn : MethodName} {J : OInfo} {Q' : Option Value → Heap → Prop} {a : Addr} {ws' : List Addr} {v0 : Value} (M : oCon C.l Z n0 EL ws' yn J #[.ref a, v0] h Q') (hsub : ∀ x ∈ ws', x ∈ ws) (hr : J.ret = none) (hn : yn.name = "<init>") (w1 : (Jvm.Cond.methodLink I.own index yn).before a0 Z = true) (w2 : (Jvm.Cond.instanceMethod yn).before a0 Z = true) (w3 : (Jvm.Cond.initialized yn.cls).before a0 Z = true) (w4 : (Jvm.Cond.code yn J.bytes J.ml J.ret).before a0 Z = true) (hy : yn.cls ≠ "java/lang/invoke/MethodHandle" ∧ yn.cls ≠ "java/lang/invoke/VarHandle")
    (hlen : ∀ sig, parseMethodDescriptor yn.desc = some sig → 1 = sig.parameters.length) (hsz : L.size = I.ml) (hd : decode I.bytes pc = .ok (.invokespecial index, 3)) (hq : pc + 3 = pc') (hf : J.R.frames + 1 ≤ I.R.frames) (hlo : (S.map fun v => v.category).sum + (J.ml + 11) + J.R.locals ≤ I.R.locals) (hc : cs + J.R.cells ≤ I.R.cells) (hs : sl + J.R.slots ≤ I.R.slots)
    (r : ∀ v h', Q' v h' → oRunG C Z n0 I EL ws G h' (cs + J.R.cells) (sl + J.R.slots) (mkF C.m pc' L (oPush v S))) : oRunG C Z n0 I EL ws G h cs sl (mkF C.m pc L (v0 :: .ref a :: S)) := s_callI (argsL := [v0]) (Q' := fun v h rs => Q' v h ∧ rs = []) M rfl hsub hr hn w1 w2 w3 w4 hy hlen hsz hd hq hf hlo hc hs (fun v vm h q => ⟨[], ⟨q, rfl⟩, fun _ hx => nomatch hx⟩) (fun v h' rs q => by obtain ⟨q, rfl⟩ := q; exact r v h' q)
theorem s_callI1R {a0 : Array Value} {index : Nat} {yn : MethodName} {J : OInfo} {Q' : Option Value → Heap → List Addr → Prop} {a : Addr} {ws' : List Addr} {v0 : Value} (M : oConG C.l Z n0 EL ws' yn J #[.ref a, v0] h (oR Z EL Q')) (hsub : ∀ x ∈ ws', x ∈ ws) (hr : J.ret = none) (hn : yn.name = "<init>") (w1 : (Jvm.Cond.methodLink I.own index yn).before a0 Z = true) (w2 : (Jvm.Cond.instanceMethod yn).before a0 Z = true) (w3 : (Jvm.Cond.initialized yn.cls).before a0 Z = true) (w4 : (Jvm.Cond.code yn J.bytes J.ml J.ret).before a0 Z = true) (hy : yn.cls ≠ "java/lang/invoke/MethodHandle" ∧ yn.cls ≠ "java/lang/invoke/VarHandle")
    (hlen : ∀ sig, parseMethodDescriptor yn.desc = some sig → 1 = sig.parameters.length) (hsz : L.size = I.ml) (hd : decode I.bytes pc = .ok (.invokespecial index, 3)) (hq : pc + 3 = pc') (hf : J.R.frames + 1 ≤ I.R.frames) (hlo : (S.map fun v => v.category).sum + (J.ml + 11) + J.R.locals ≤ I.R.locals) (hc : cs + J.R.cells ≤ I.R.cells) (hs : sl + J.R.slots ≤ I.R.slots)
    (r : ∀ v h' rs, Q' v h' rs → oRunG C Z n0 I EL (rs ++ ws) G h' (cs + J.R.cells) (sl + J.R.slots) (mkF C.m pc' L (oPush v S))) : oRunG C Z n0 I EL ws G h cs sl (mkF C.m pc L (v0 :: .ref a :: S)) := s_callI (argsL := [v0]) (Q' := Q') M rfl hsub hr hn w1 w2 w3 w4 hy hlen hsz hd hq hf hlo hc hs (fun v vm h q => q) r
theorem s_callV1 {a0 : Array Value} {index : Nat} {yn : MethodName} {J : OInfo} {Q' : Option Value → Heap → Prop} {a : Addr} {Cn : String} {zn : MethodName} {ws' : List Addr} {v0 : Value} (M : oCon C.l Z n0 EL ws' zn J #[.ref a, v0] h Q') (hsub : ∀ x ∈ ws', x ∈ ws) (E : Exa Z h a Cn) (w1 : (Jvm.Cond.methodLink I.own index yn).before a0 Z = true) (w2 : (Jvm.Cond.declares yn).before a0 Z = true) (w5 : (Jvm.Cond.selects Cn yn zn).before a0 Z = true) (w6 : (Jvm.Cond.instanceMethod zn).before a0 Z = true) (nf : ∀ s' : State, Z.Warmed39 s'.vm → NotFace s' yn) (w3 : (Jvm.Cond.initialized zn.cls).before a0 Z = true) (w4 : (Jvm.Cond.code zn J.bytes J.ml J.ret).before a0 Z = true) (hy : yn.cls ≠ "java/lang/invoke/MethodHandle" ∧ yn.cls ≠ "java/lang/invoke/VarHandle")
    (hlen : ∀ sig, parseMethodDescriptor yn.desc = some sig → 1 = sig.parameters.length) (hsz : L.size = I.ml) (hd : decode I.bytes pc = .ok (.invokevirtual index, 3)) (hq : pc + 3 = pc') (hf : J.R.frames + 1 ≤ I.R.frames) (hlo : (S.map fun v => v.category).sum + (J.ml + 11) + J.R.locals ≤ I.R.locals) (hc : cs + J.R.cells ≤ I.R.cells) (hs : sl + J.R.slots ≤ I.R.slots)
    (r : ∀ v h', Q' v h' → oRunG C Z n0 I EL ws G h' (cs + J.R.cells) (sl + J.R.slots) (mkF C.m pc' L (oPush v S))) : oRunG C Z n0 I EL ws G h cs sl (mkF C.m pc L (v0 :: .ref a :: S)) := s_callV (argsL := [v0]) (Q' := fun v h rs => Q' v h ∧ rs = []) M rfl hsub E w1 w2 w5 w6 nf w3 w4 hy hlen hsz hd hq hf hlo hc hs (fun v vm h q => ⟨[], ⟨q, rfl⟩, fun _ hx => nomatch hx⟩) (fun v h' rs q => by obtain ⟨q, rfl⟩ := q; exact r v h' q)
theorem s_callV1R {a0 : Array Value} {index : Nat} {yn : MethodName} {J : OInfo} {Q' : Option Value → Heap → List Addr → Prop} {a : Addr} {Cn : String} {zn : MethodName} {ws' : List Addr} {v0 : Value} (M : oConG C.l Z n0 EL ws' zn J #[.ref a, v0] h (oR Z EL Q')) (hsub : ∀ x ∈ ws', x ∈ ws) (E : Exa Z h a Cn) (w1 : (Jvm.Cond.methodLink I.own index yn).before a0 Z = true) (w2 : (Jvm.Cond.declares yn).before a0 Z = true) (w5 : (Jvm.Cond.selects Cn yn zn).before a0 Z = true) (w6 : (Jvm.Cond.instanceMethod zn).before a0 Z = true) (nf : ∀ s' : State, Z.Warmed39 s'.vm → NotFace s' yn) (w3 : (Jvm.Cond.initialized zn.cls).before a0 Z = true) (w4 : (Jvm.Cond.code zn J.bytes J.ml J.ret).before a0 Z = true) (hy : yn.cls ≠ "java/lang/invoke/MethodHandle" ∧ yn.cls ≠ "java/lang/invoke/VarHandle")
    (hlen : ∀ sig, parseMethodDescriptor yn.desc = some sig → 1 = sig.parameters.length) (hsz : L.size = I.ml) (hd : decode I.bytes pc = .ok (.invokevirtual index, 3)) (hq : pc + 3 = pc') (hf : J.R.frames + 1 ≤ I.R.frames) (hlo : (S.map fun v => v.category).sum + (J.ml + 11) + J.R.locals ≤ I.R.locals) (hc : cs + J.R.cells ≤ I.R.cells) (hs : sl + J.R.slots ≤ I.R.slots)
    (r : ∀ v h' rs, Q' v h' rs → oRunG C Z n0 I EL (rs ++ ws) G h' (cs + J.R.cells) (sl + J.R.slots) (mkF C.m pc' L (oPush v S))) : oRunG C Z n0 I EL ws G h cs sl (mkF C.m pc L (v0 :: .ref a :: S)) := s_callV (argsL := [v0]) (Q' := Q') M rfl hsub E w1 w2 w5 w6 nf w3 w4 hy hlen hsz hd hq hf hlo hc hs (fun v vm h q => q) r
theorem s_callU1 {a0 : Array Value} {index : Nat} {yn : MethodName} {J : OInfo} {Q' : Option Value → Heap → Prop} {a : Addr} {Kn : String} {ws' : List Addr} {v0 : Value} (M : oCon C.l Z n0 EL ws' yn J #[.ref a, v0] h Q') (hsub : ∀ x ∈ ws', x ∈ ws) (E : Ins Z h a Kn true) (w1 : (Jvm.Cond.methodLink I.own index yn).before a0 Z = true) (w2 : (Jvm.Cond.sameMethod yn.cls yn.cls yn.name yn.desc).before a0 Z = true) (w5 : (Jvm.Cond.superclass I.own yn.cls).before a0 Z = true) (w6 : (Jvm.Cond.instanceMethod yn).before a0 Z = true) (w3 : (Jvm.Cond.initialized yn.cls).before a0 Z = true) (w4 : (Jvm.Cond.code yn J.bytes J.ml J.ret).before a0 Z = true) (hn : yn.name ≠ "<init>")
    (hlen : ∀ sig, parseMethodDescriptor yn.desc = some sig → 1 = sig.parameters.length) (hsz : L.size = I.ml) (hd : decode I.bytes pc = .ok (.invokespecial index, 3)) (hq : pc + 3 = pc') (hf : J.R.frames + 1 ≤ I.R.frames) (hlo : (S.map fun v => v.category).sum + (J.ml + 11) + J.R.locals ≤ I.R.locals) (hc : cs + J.R.cells ≤ I.R.cells) (hs : sl + J.R.slots ≤ I.R.slots)
    (r : ∀ v h', Q' v h' → oRunG C Z n0 I EL ws G h' (cs + J.R.cells) (sl + J.R.slots) (mkF C.m pc' L (oPush v S))) : oRunG C Z n0 I EL ws G h cs sl (mkF C.m pc L (v0 :: .ref a :: S)) := s_callU (argsL := [v0]) (Q' := fun v h rs => Q' v h ∧ rs = []) M rfl hsub E w1 w2 w5 w6 w3 w4 hn hlen hsz hd hq hf hlo hc hs (fun v vm h q => ⟨[], ⟨q, rfl⟩, fun _ hx => nomatch hx⟩) (fun v h' rs q => by obtain ⟨q, rfl⟩ := q; exact r v h' q)
theorem s_callU1R {a0 : Array Value} {index : Nat} {yn : MethodName} {J : OInfo} {Q' : Option Value → Heap → List Addr → Prop} {a : Addr} {Kn : String} {ws' : List Addr} {v0 : Value} (M : oConG C.l Z n0 EL ws' yn J #[.ref a, v0] h (oR Z EL Q')) (hsub : ∀ x ∈ ws', x ∈ ws) (E : Ins Z h a Kn true) (w1 : (Jvm.Cond.methodLink I.own index yn).before a0 Z = true) (w2 : (Jvm.Cond.sameMethod yn.cls yn.cls yn.name yn.desc).before a0 Z = true) (w5 : (Jvm.Cond.superclass I.own yn.cls).before a0 Z = true) (w6 : (Jvm.Cond.instanceMethod yn).before a0 Z = true) (w3 : (Jvm.Cond.initialized yn.cls).before a0 Z = true) (w4 : (Jvm.Cond.code yn J.bytes J.ml J.ret).before a0 Z = true) (hn : yn.name ≠ "<init>")
    (hlen : ∀ sig, parseMethodDescriptor yn.desc = some sig → 1 = sig.parameters.length) (hsz : L.size = I.ml) (hd : decode I.bytes pc = .ok (.invokespecial index, 3)) (hq : pc + 3 = pc') (hf : J.R.frames + 1 ≤ I.R.frames) (hlo : (S.map fun v => v.category).sum + (J.ml + 11) + J.R.locals ≤ I.R.locals) (hc : cs + J.R.cells ≤ I.R.cells) (hs : sl + J.R.slots ≤ I.R.slots)
    (r : ∀ v h' rs, Q' v h' rs → oRunG C Z n0 I EL (rs ++ ws) G h' (cs + J.R.cells) (sl + J.R.slots) (mkF C.m pc' L (oPush v S))) : oRunG C Z n0 I EL ws G h cs sl (mkF C.m pc L (v0 :: .ref a :: S)) := s_callU (argsL := [v0]) (Q' := Q') M rfl hsub E w1 w2 w5 w6 w3 w4 hn hlen hsz hd hq hf hlo hc hs (fun v vm h q => q) r
theorem s_callS2 {a0 : Array Value} {index : Nat} {yn : MethodName} {J : OInfo} {Q' : Option Value → Heap → Prop} {ws' : List Addr} {v0 v1 : Value} (M : oCon C.l Z n0 EL ws' yn J #[v0, v1] h Q') (hsub : ∀ x ∈ ws', x ∈ ws) (w1 : (Jvm.Cond.methodLink I.own index yn).before a0 Z = true) (w2 : (Jvm.Cond.static yn).before a0 Z = true) (w3 : (Jvm.Cond.initialized yn.cls).before a0 Z = true) (w4 : (Jvm.Cond.code yn J.bytes J.ml J.ret).before a0 Z = true) (hy : yn.cls ≠ "java/lang/invoke/MethodHandle" ∧ yn.cls ≠ "java/lang/invoke/VarHandle")
    (hlen : ∀ sig, parseMethodDescriptor yn.desc = some sig → 2 = sig.parameters.length) (hsz : L.size = I.ml) (hd : decode I.bytes pc = .ok (.invokestatic index, 3)) (hq : pc + 3 = pc') (hf : J.R.frames + 1 ≤ I.R.frames) (hlo : (S.map fun v => v.category).sum + (J.ml + 11) + J.R.locals ≤ I.R.locals) (hc : cs + J.R.cells ≤ I.R.cells) (hs : sl + J.R.slots ≤ I.R.slots)
    (r : ∀ v h', Q' v h' → oRunG C Z n0 I EL ws G h' (cs + J.R.cells) (sl + J.R.slots) (mkF C.m pc' L (oPush v S))) : oRunG C Z n0 I EL ws G h cs sl (mkF C.m pc L (v1 :: v0 :: S)) := s_callS (argsL := [v0, v1]) (Q' := fun v h rs => Q' v h ∧ rs = []) M rfl hsub w1 w2 w3 w4 hy hlen hsz hd hq hf hlo hc hs (fun v vm h q => ⟨[], ⟨q, rfl⟩, fun _ hx => nomatch hx⟩) (fun v h' rs q => by obtain ⟨q, rfl⟩ := q; exact r v h' q)
theorem s_callS2R {a0 : Array Value} {index : Nat} {yn : MethodName} {J : OInfo} {Q' : Option Value → Heap → List Addr → Prop} {ws' : List Addr} {v0 v1 : Value} (M : oConG C.l Z n0 EL ws' yn J #[v0, v1] h (oR Z EL Q')) (hsub : ∀ x ∈ ws', x ∈ ws) (w1 : (Jvm.Cond.methodLink I.own index yn).before a0 Z = true) (w2 : (Jvm.Cond.static yn).before a0 Z = true) (w3 : (Jvm.Cond.initialized yn.cls).before a0 Z = true) (w4 : (Jvm.Cond.code yn J.bytes J.ml J.ret).before a0 Z = true) (hy : yn.cls ≠ "java/lang/invoke/MethodHandle" ∧ yn.cls ≠ "java/lang/invoke/VarHandle")
    (hlen : ∀ sig, parseMethodDescriptor yn.desc = some sig → 2 = sig.parameters.length) (hsz : L.size = I.ml) (hd : decode I.bytes pc = .ok (.invokestatic index, 3)) (hq : pc + 3 = pc') (hf : J.R.frames + 1 ≤ I.R.frames) (hlo : (S.map fun v => v.category).sum + (J.ml + 11) + J.R.locals ≤ I.R.locals) (hc : cs + J.R.cells ≤ I.R.cells) (hs : sl + J.R.slots ≤ I.R.slots)
    (r : ∀ v h' rs, Q' v h' rs → oRunG C Z n0 I EL (rs ++ ws) G h' (cs + J.R.cells) (sl + J.R.slots) (mkF C.m pc' L (oPush v S))) : oRunG C Z n0 I EL ws G h cs sl (mkF C.m pc L (v1 :: v0 :: S)) := s_callS (argsL := [v0, v1]) (Q' := Q') M rfl hsub w1 w2 w3 w4 hy hlen hsz hd hq hf hlo hc hs (fun v vm h q => q) r
theorem s_callI2 {a0 : Array Value} {index : Nat} {yn : MethodName} {J : OInfo} {Q' : Option Value → Heap → Prop} {a : Addr} {ws' : List Addr} {v0 v1 : Value} (M : oCon C.l Z n0 EL ws' yn J #[.ref a, v0, v1] h Q') (hsub : ∀ x ∈ ws', x ∈ ws) (hr : J.ret = none) (hn : yn.name = "<init>") (w1 : (Jvm.Cond.methodLink I.own index yn).before a0 Z = true) (w2 : (Jvm.Cond.instanceMethod yn).before a0 Z = true) (w3 : (Jvm.Cond.initialized yn.cls).before a0 Z = true) (w4 : (Jvm.Cond.code yn J.bytes J.ml J.ret).before a0 Z = true) (hy : yn.cls ≠ "java/lang/invoke/MethodHandle" ∧ yn.cls ≠ "java/lang/invoke/VarHandle")
    (hlen : ∀ sig, parseMethodDescriptor yn.desc = some sig → 2 = sig.parameters.length) (hsz : L.size = I.ml) (hd : decode I.bytes pc = .ok (.invokespecial index, 3)) (hq : pc + 3 = pc') (hf : J.R.frames + 1 ≤ I.R.frames) (hlo : (S.map fun v => v.category).sum + (J.ml + 11) + J.R.locals ≤ I.R.locals) (hc : cs + J.R.cells ≤ I.R.cells) (hs : sl + J.R.slots ≤ I.R.slots)
    (r : ∀ v h', Q' v h' → oRunG C Z n0 I EL ws G h' (cs + J.R.cells) (sl + J.R.slots) (mkF C.m pc' L (oPush v S))) : oRunG C Z n0 I EL ws G h cs sl (mkF C.m pc L (v1 :: v0 :: .ref a :: S)) := s_callI (argsL := [v0, v1]) (Q' := fun v h rs => Q' v h ∧ rs = []) M rfl hsub hr hn w1 w2 w3 w4 hy hlen hsz hd hq hf hlo hc hs (fun v vm h q => ⟨[], ⟨q, rfl⟩, fun _ hx => nomatch hx⟩) (fun v h' rs q => by obtain ⟨q, rfl⟩ := q; exact r v h' q)
theorem s_callI2R {a0 : Array Value} {index : Nat} {yn : MethodName} {J : OInfo} {Q' : Option Value → Heap → List Addr → Prop} {a : Addr} {ws' : List Addr} {v0 v1 : Value} (M : oConG C.l Z n0 EL ws' yn J #[.ref a, v0, v1] h (oR Z EL Q')) (hsub : ∀ x ∈ ws', x ∈ ws) (hr : J.ret = none) (hn : yn.name = "<init>") (w1 : (Jvm.Cond.methodLink I.own index yn).before a0 Z = true) (w2 : (Jvm.Cond.instanceMethod yn).before a0 Z = true) (w3 : (Jvm.Cond.initialized yn.cls).before a0 Z = true) (w4 : (Jvm.Cond.code yn J.bytes J.ml J.ret).before a0 Z = true) (hy : yn.cls ≠ "java/lang/invoke/MethodHandle" ∧ yn.cls ≠ "java/lang/invoke/VarHandle")
    (hlen : ∀ sig, parseMethodDescriptor yn.desc = some sig → 2 = sig.parameters.length) (hsz : L.size = I.ml) (hd : decode I.bytes pc = .ok (.invokespecial index, 3)) (hq : pc + 3 = pc') (hf : J.R.frames + 1 ≤ I.R.frames) (hlo : (S.map fun v => v.category).sum + (J.ml + 11) + J.R.locals ≤ I.R.locals) (hc : cs + J.R.cells ≤ I.R.cells) (hs : sl + J.R.slots ≤ I.R.slots)
    (r : ∀ v h' rs, Q' v h' rs → oRunG C Z n0 I EL (rs ++ ws) G h' (cs + J.R.cells) (sl + J.R.slots) (mkF C.m pc' L (oPush v S))) : oRunG C Z n0 I EL ws G h cs sl (mkF C.m pc L (v1 :: v0 :: .ref a :: S)) := s_callI (argsL := [v0, v1]) (Q' := Q') M rfl hsub hr hn w1 w2 w3 w4 hy hlen hsz hd hq hf hlo hc hs (fun v vm h q => q) r
theorem s_callV2 {a0 : Array Value} {index : Nat} {yn : MethodName} {J : OInfo} {Q' : Option Value → Heap → Prop} {a : Addr} {Cn : String} {zn : MethodName} {ws' : List Addr} {v0 v1 : Value} (M : oCon C.l Z n0 EL ws' zn J #[.ref a, v0, v1] h Q') (hsub : ∀ x ∈ ws', x ∈ ws) (E : Exa Z h a Cn) (w1 : (Jvm.Cond.methodLink I.own index yn).before a0 Z = true) (w2 : (Jvm.Cond.declares yn).before a0 Z = true) (w5 : (Jvm.Cond.selects Cn yn zn).before a0 Z = true) (w6 : (Jvm.Cond.instanceMethod zn).before a0 Z = true) (nf : ∀ s' : State, Z.Warmed39 s'.vm → NotFace s' yn) (w3 : (Jvm.Cond.initialized zn.cls).before a0 Z = true) (w4 : (Jvm.Cond.code zn J.bytes J.ml J.ret).before a0 Z = true) (hy : yn.cls ≠ "java/lang/invoke/MethodHandle" ∧ yn.cls ≠ "java/lang/invoke/VarHandle")
    (hlen : ∀ sig, parseMethodDescriptor yn.desc = some sig → 2 = sig.parameters.length) (hsz : L.size = I.ml) (hd : decode I.bytes pc = .ok (.invokevirtual index, 3)) (hq : pc + 3 = pc') (hf : J.R.frames + 1 ≤ I.R.frames) (hlo : (S.map fun v => v.category).sum + (J.ml + 11) + J.R.locals ≤ I.R.locals) (hc : cs + J.R.cells ≤ I.R.cells) (hs : sl + J.R.slots ≤ I.R.slots)
    (r : ∀ v h', Q' v h' → oRunG C Z n0 I EL ws G h' (cs + J.R.cells) (sl + J.R.slots) (mkF C.m pc' L (oPush v S))) : oRunG C Z n0 I EL ws G h cs sl (mkF C.m pc L (v1 :: v0 :: .ref a :: S)) := s_callV (argsL := [v0, v1]) (Q' := fun v h rs => Q' v h ∧ rs = []) M rfl hsub E w1 w2 w5 w6 nf w3 w4 hy hlen hsz hd hq hf hlo hc hs (fun v vm h q => ⟨[], ⟨q, rfl⟩, fun _ hx => nomatch hx⟩) (fun v h' rs q => by obtain ⟨q, rfl⟩ := q; exact r v h' q)
theorem s_callV2R {a0 : Array Value} {index : Nat} {yn : MethodName} {J : OInfo} {Q' : Option Value → Heap → List Addr → Prop} {a : Addr} {Cn : String} {zn : MethodName} {ws' : List Addr} {v0 v1 : Value} (M : oConG C.l Z n0 EL ws' zn J #[.ref a, v0, v1] h (oR Z EL Q')) (hsub : ∀ x ∈ ws', x ∈ ws) (E : Exa Z h a Cn) (w1 : (Jvm.Cond.methodLink I.own index yn).before a0 Z = true) (w2 : (Jvm.Cond.declares yn).before a0 Z = true) (w5 : (Jvm.Cond.selects Cn yn zn).before a0 Z = true) (w6 : (Jvm.Cond.instanceMethod zn).before a0 Z = true) (nf : ∀ s' : State, Z.Warmed39 s'.vm → NotFace s' yn) (w3 : (Jvm.Cond.initialized zn.cls).before a0 Z = true) (w4 : (Jvm.Cond.code zn J.bytes J.ml J.ret).before a0 Z = true) (hy : yn.cls ≠ "java/lang/invoke/MethodHandle" ∧ yn.cls ≠ "java/lang/invoke/VarHandle")
    (hlen : ∀ sig, parseMethodDescriptor yn.desc = some sig → 2 = sig.parameters.length) (hsz : L.size = I.ml) (hd : decode I.bytes pc = .ok (.invokevirtual index, 3)) (hq : pc + 3 = pc') (hf : J.R.frames + 1 ≤ I.R.frames) (hlo : (S.map fun v => v.category).sum + (J.ml + 11) + J.R.locals ≤ I.R.locals) (hc : cs + J.R.cells ≤ I.R.cells) (hs : sl + J.R.slots ≤ I.R.slots)
    (r : ∀ v h' rs, Q' v h' rs → oRunG C Z n0 I EL (rs ++ ws) G h' (cs + J.R.cells) (sl + J.R.slots) (mkF C.m pc' L (oPush v S))) : oRunG C Z n0 I EL ws G h cs sl (mkF C.m pc L (v1 :: v0 :: .ref a :: S)) := s_callV (argsL := [v0, v1]) (Q' := Q') M rfl hsub E w1 w2 w5 w6 nf w3 w4 hy hlen hsz hd hq hf hlo hc hs (fun v vm h q => q) r
theorem s_callU2 {a0 : Array Value} {index : Nat} {yn : MethodName} {J : OInfo} {Q' : Option Value → Heap → Prop} {a : Addr} {Kn : String} {ws' : List Addr} {v0 v1 : Value} (M : oCon C.l Z n0 EL ws' yn J #[.ref a, v0, v1] h Q') (hsub : ∀ x ∈ ws', x ∈ ws) (E : Ins Z h a Kn true) (w1 : (Jvm.Cond.methodLink I.own index yn).before a0 Z = true) (w2 : (Jvm.Cond.sameMethod yn.cls yn.cls yn.name yn.desc).before a0 Z = true) (w5 : (Jvm.Cond.superclass I.own yn.cls).before a0 Z = true) (w6 : (Jvm.Cond.instanceMethod yn).before a0 Z = true) (w3 : (Jvm.Cond.initialized yn.cls).before a0 Z = true) (w4 : (Jvm.Cond.code yn J.bytes J.ml J.ret).before a0 Z = true) (hn : yn.name ≠ "<init>")
    (hlen : ∀ sig, parseMethodDescriptor yn.desc = some sig → 2 = sig.parameters.length) (hsz : L.size = I.ml) (hd : decode I.bytes pc = .ok (.invokespecial index, 3)) (hq : pc + 3 = pc') (hf : J.R.frames + 1 ≤ I.R.frames) (hlo : (S.map fun v => v.category).sum + (J.ml + 11) + J.R.locals ≤ I.R.locals) (hc : cs + J.R.cells ≤ I.R.cells) (hs : sl + J.R.slots ≤ I.R.slots)
    (r : ∀ v h', Q' v h' → oRunG C Z n0 I EL ws G h' (cs + J.R.cells) (sl + J.R.slots) (mkF C.m pc' L (oPush v S))) : oRunG C Z n0 I EL ws G h cs sl (mkF C.m pc L (v1 :: v0 :: .ref a :: S)) := s_callU (argsL := [v0, v1]) (Q' := fun v h rs => Q' v h ∧ rs = []) M rfl hsub E w1 w2 w5 w6 w3 w4 hn hlen hsz hd hq hf hlo hc hs (fun v vm h q => ⟨[], ⟨q, rfl⟩, fun _ hx => nomatch hx⟩) (fun v h' rs q => by obtain ⟨q, rfl⟩ := q; exact r v h' q)
theorem s_callU2R {a0 : Array Value} {index : Nat} {yn : MethodName} {J : OInfo} {Q' : Option Value → Heap → List Addr → Prop} {a : Addr} {Kn : String} {ws' : List Addr} {v0 v1 : Value} (M : oConG C.l Z n0 EL ws' yn J #[.ref a, v0, v1] h (oR Z EL Q')) (hsub : ∀ x ∈ ws', x ∈ ws) (E : Ins Z h a Kn true) (w1 : (Jvm.Cond.methodLink I.own index yn).before a0 Z = true) (w2 : (Jvm.Cond.sameMethod yn.cls yn.cls yn.name yn.desc).before a0 Z = true) (w5 : (Jvm.Cond.superclass I.own yn.cls).before a0 Z = true) (w6 : (Jvm.Cond.instanceMethod yn).before a0 Z = true) (w3 : (Jvm.Cond.initialized yn.cls).before a0 Z = true) (w4 : (Jvm.Cond.code yn J.bytes J.ml J.ret).before a0 Z = true) (hn : yn.name ≠ "<init>")
    (hlen : ∀ sig, parseMethodDescriptor yn.desc = some sig → 2 = sig.parameters.length) (hsz : L.size = I.ml) (hd : decode I.bytes pc = .ok (.invokespecial index, 3)) (hq : pc + 3 = pc') (hf : J.R.frames + 1 ≤ I.R.frames) (hlo : (S.map fun v => v.category).sum + (J.ml + 11) + J.R.locals ≤ I.R.locals) (hc : cs + J.R.cells ≤ I.R.cells) (hs : sl + J.R.slots ≤ I.R.slots)
    (r : ∀ v h' rs, Q' v h' rs → oRunG C Z n0 I EL (rs ++ ws) G h' (cs + J.R.cells) (sl + J.R.slots) (mkF C.m pc' L (oPush v S))) : oRunG C Z n0 I EL ws G h cs sl (mkF C.m pc L (v1 :: v0 :: .ref a :: S)) := s_callU (argsL := [v0, v1]) (Q' := Q') M rfl hsub E w1 w2 w5 w6 w3 w4 hn hlen hsz hd hq hf hlo hc hs (fun v vm h q => q) r
theorem s_callS3 {a0 : Array Value} {index : Nat} {yn : MethodName} {J : OInfo} {Q' : Option Value → Heap → Prop} {ws' : List Addr} {v0 v1 v2 : Value} (M : oCon C.l Z n0 EL ws' yn J #[v0, v1, v2] h Q') (hsub : ∀ x ∈ ws', x ∈ ws) (w1 : (Jvm.Cond.methodLink I.own index yn).before a0 Z = true) (w2 : (Jvm.Cond.static yn).before a0 Z = true) (w3 : (Jvm.Cond.initialized yn.cls).before a0 Z = true) (w4 : (Jvm.Cond.code yn J.bytes J.ml J.ret).before a0 Z = true) (hy : yn.cls ≠ "java/lang/invoke/MethodHandle" ∧ yn.cls ≠ "java/lang/invoke/VarHandle")
    (hlen : ∀ sig, parseMethodDescriptor yn.desc = some sig → 3 = sig.parameters.length) (hsz : L.size = I.ml) (hd : decode I.bytes pc = .ok (.invokestatic index, 3)) (hq : pc + 3 = pc') (hf : J.R.frames + 1 ≤ I.R.frames) (hlo : (S.map fun v => v.category).sum + (J.ml + 11) + J.R.locals ≤ I.R.locals) (hc : cs + J.R.cells ≤ I.R.cells) (hs : sl + J.R.slots ≤ I.R.slots)
    (r : ∀ v h', Q' v h' → oRunG C Z n0 I EL ws G h' (cs + J.R.cells) (sl + J.R.slots) (mkF C.m pc' L (oPush v S))) : oRunG C Z n0 I EL ws G h cs sl (mkF C.m pc L (v2 :: v1 :: v0 :: S)) := s_callS (argsL := [v0, v1, v2]) (Q' := fun v h rs => Q' v h ∧ rs = []) M rfl hsub w1 w2 w3 w4 hy hlen hsz hd hq hf hlo hc hs (fun v vm h q => ⟨[], ⟨q, rfl⟩, fun _ hx => nomatch hx⟩) (fun v h' rs q => by obtain ⟨q, rfl⟩ := q; exact r v h' q)
theorem s_callS3R {a0 : Array Value} {index : Nat} {yn : MethodName} {J : OInfo} {Q' : Option Value → Heap → List Addr → Prop} {ws' : List Addr} {v0 v1 v2 : Value} (M : oConG C.l Z n0 EL ws' yn J #[v0, v1, v2] h (oR Z EL Q')) (hsub : ∀ x ∈ ws', x ∈ ws) (w1 : (Jvm.Cond.methodLink I.own index yn).before a0 Z = true) (w2 : (Jvm.Cond.static yn).before a0 Z = true) (w3 : (Jvm.Cond.initialized yn.cls).before a0 Z = true) (w4 : (Jvm.Cond.code yn J.bytes J.ml J.ret).before a0 Z = true) (hy : yn.cls ≠ "java/lang/invoke/MethodHandle" ∧ yn.cls ≠ "java/lang/invoke/VarHandle")
    (hlen : ∀ sig, parseMethodDescriptor yn.desc = some sig → 3 = sig.parameters.length) (hsz : L.size = I.ml) (hd : decode I.bytes pc = .ok (.invokestatic index, 3)) (hq : pc + 3 = pc') (hf : J.R.frames + 1 ≤ I.R.frames) (hlo : (S.map fun v => v.category).sum + (J.ml + 11) + J.R.locals ≤ I.R.locals) (hc : cs + J.R.cells ≤ I.R.cells) (hs : sl + J.R.slots ≤ I.R.slots)
    (r : ∀ v h' rs, Q' v h' rs → oRunG C Z n0 I EL (rs ++ ws) G h' (cs + J.R.cells) (sl + J.R.slots) (mkF C.m pc' L (oPush v S))) : oRunG C Z n0 I EL ws G h cs sl (mkF C.m pc L (v2 :: v1 :: v0 :: S)) := s_callS (argsL := [v0, v1, v2]) (Q' := Q') M rfl hsub w1 w2 w3 w4 hy hlen hsz hd hq hf hlo hc hs (fun v vm h q => q) r
theorem s_callI3 {a0 : Array Value} {index : Nat} {yn : MethodName} {J : OInfo} {Q' : Option Value → Heap → Prop} {a : Addr} {ws' : List Addr} {v0 v1 v2 : Value} (M : oCon C.l Z n0 EL ws' yn J #[.ref a, v0, v1, v2] h Q') (hsub : ∀ x ∈ ws', x ∈ ws) (hr : J.ret = none) (hn : yn.name = "<init>") (w1 : (Jvm.Cond.methodLink I.own index yn).before a0 Z = true) (w2 : (Jvm.Cond.instanceMethod yn).before a0 Z = true) (w3 : (Jvm.Cond.initialized yn.cls).before a0 Z = true) (w4 : (Jvm.Cond.code yn J.bytes J.ml J.ret).before a0 Z = true) (hy : yn.cls ≠ "java/lang/invoke/MethodHandle" ∧ yn.cls ≠ "java/lang/invoke/VarHandle")
    (hlen : ∀ sig, parseMethodDescriptor yn.desc = some sig → 3 = sig.parameters.length) (hsz : L.size = I.ml) (hd : decode I.bytes pc = .ok (.invokespecial index, 3)) (hq : pc + 3 = pc') (hf : J.R.frames + 1 ≤ I.R.frames) (hlo : (S.map fun v => v.category).sum + (J.ml + 11) + J.R.locals ≤ I.R.locals) (hc : cs + J.R.cells ≤ I.R.cells) (hs : sl + J.R.slots ≤ I.R.slots)
    (r : ∀ v h', Q' v h' → oRunG C Z n0 I EL ws G h' (cs + J.R.cells) (sl + J.R.slots) (mkF C.m pc' L (oPush v S))) : oRunG C Z n0 I EL ws G h cs sl (mkF C.m pc L (v2 :: v1 :: v0 :: .ref a :: S)) := s_callI (argsL := [v0, v1, v2]) (Q' := fun v h rs => Q' v h ∧ rs = []) M rfl hsub hr hn w1 w2 w3 w4 hy hlen hsz hd hq hf hlo hc hs (fun v vm h q => ⟨[], ⟨q, rfl⟩, fun _ hx => nomatch hx⟩) (fun v h' rs q => by obtain ⟨q, rfl⟩ := q; exact r v h' q)
theorem s_callI3R {a0 : Array Value} {index : Nat} {yn : MethodName} {J : OInfo} {Q' : Option Value → Heap → List Addr → Prop} {a : Addr} {ws' : List Addr} {v0 v1 v2 : Value} (M : oConG C.l Z n0 EL ws' yn J #[.ref a, v0, v1, v2] h (oR Z EL Q')) (hsub : ∀ x ∈ ws', x ∈ ws) (hr : J.ret = none) (hn : yn.name = "<init>") (w1 : (Jvm.Cond.methodLink I.own index yn).before a0 Z = true) (w2 : (Jvm.Cond.instanceMethod yn).before a0 Z = true) (w3 : (Jvm.Cond.initialized yn.cls).before a0 Z = true) (w4 : (Jvm.Cond.code yn J.bytes J.ml J.ret).before a0 Z = true) (hy : yn.cls ≠ "java/lang/invoke/MethodHandle" ∧ yn.cls ≠ "java/lang/invoke/VarHandle")
    (hlen : ∀ sig, parseMethodDescriptor yn.desc = some sig → 3 = sig.parameters.length) (hsz : L.size = I.ml) (hd : decode I.bytes pc = .ok (.invokespecial index, 3)) (hq : pc + 3 = pc') (hf : J.R.frames + 1 ≤ I.R.frames) (hlo : (S.map fun v => v.category).sum + (J.ml + 11) + J.R.locals ≤ I.R.locals) (hc : cs + J.R.cells ≤ I.R.cells) (hs : sl + J.R.slots ≤ I.R.slots)
    (r : ∀ v h' rs, Q' v h' rs → oRunG C Z n0 I EL (rs ++ ws) G h' (cs + J.R.cells) (sl + J.R.slots) (mkF C.m pc' L (oPush v S))) : oRunG C Z n0 I EL ws G h cs sl (mkF C.m pc L (v2 :: v1 :: v0 :: .ref a :: S)) := s_callI (argsL := [v0, v1, v2]) (Q' := Q') M rfl hsub hr hn w1 w2 w3 w4 hy hlen hsz hd hq hf hlo hc hs (fun v vm h q => q) r
theorem s_callV3 {a0 : Array Value} {index : Nat} {yn : MethodName} {J : OInfo} {Q' : Option Value → Heap → Prop} {a : Addr} {Cn : String} {zn : MethodName} {ws' : List Addr} {v0 v1 v2 : Value} (M : oCon C.l Z n0 EL ws' zn J #[.ref a, v0, v1, v2] h Q') (hsub : ∀ x ∈ ws', x ∈ ws) (E : Exa Z h a Cn) (w1 : (Jvm.Cond.methodLink I.own index yn).before a0 Z = true) (w2 : (Jvm.Cond.declares yn).before a0 Z = true) (w5 : (Jvm.Cond.selects Cn yn zn).before a0 Z = true) (w6 : (Jvm.Cond.instanceMethod zn).before a0 Z = true) (nf : ∀ s' : State, Z.Warmed39 s'.vm → NotFace s' yn) (w3 : (Jvm.Cond.initialized zn.cls).before a0 Z = true) (w4 : (Jvm.Cond.code zn J.bytes J.ml J.ret).before a0 Z = true) (hy : yn.cls ≠ "java/lang/invoke/MethodHandle" ∧ yn.cls ≠ "java/lang/invoke/VarHandle")
    (hlen : ∀ sig, parseMethodDescriptor yn.desc = some sig → 3 = sig.parameters.length) (hsz : L.size = I.ml) (hd : decode I.bytes pc = .ok (.invokevirtual index, 3)) (hq : pc + 3 = pc') (hf : J.R.frames + 1 ≤ I.R.frames) (hlo : (S.map fun v => v.category).sum + (J.ml + 11) + J.R.locals ≤ I.R.locals) (hc : cs + J.R.cells ≤ I.R.cells) (hs : sl + J.R.slots ≤ I.R.slots)
    (r : ∀ v h', Q' v h' → oRunG C Z n0 I EL ws G h' (cs + J.R.cells) (sl + J.R.slots) (mkF C.m pc' L (oPush v S))) : oRunG C Z n0 I EL ws G h cs sl (mkF C.m pc L (v2 :: v1 :: v0 :: .ref a :: S)) := s_callV (argsL := [v0, v1, v2]) (Q' := fun v h rs => Q' v h ∧ rs = []) M rfl hsub E w1 w2 w5 w6 nf w3 w4 hy hlen hsz hd hq hf hlo hc hs (fun v vm h q => ⟨[], ⟨q, rfl⟩, fun _ hx => nomatch hx⟩) (fun v h' rs q => by obtain ⟨q, rfl⟩ := q; exact r v h' q)
theorem s_callV3R {a0 : Array Value} {index : Nat} {yn : MethodName} {J : OInfo} {Q' : Option Value → Heap → List Addr → Prop} {a : Addr} {Cn : String} {zn : MethodName} {ws' : List Addr} {v0 v1 v2 : Value} (M : oConG C.l Z n0 EL ws' zn J #[.ref a, v0, v1, v2] h (oR Z EL Q')) (hsub : ∀ x ∈ ws', x ∈ ws) (E : Exa Z h a Cn) (w1 : (Jvm.Cond.methodLink I.own index yn).before a0 Z = true) (w2 : (Jvm.Cond.declares yn).before a0 Z = true) (w5 : (Jvm.Cond.selects Cn yn zn).before a0 Z = true) (w6 : (Jvm.Cond.instanceMethod zn).before a0 Z = true) (nf : ∀ s' : State, Z.Warmed39 s'.vm → NotFace s' yn) (w3 : (Jvm.Cond.initialized zn.cls).before a0 Z = true) (w4 : (Jvm.Cond.code zn J.bytes J.ml J.ret).before a0 Z = true) (hy : yn.cls ≠ "java/lang/invoke/MethodHandle" ∧ yn.cls ≠ "java/lang/invoke/VarHandle")
    (hlen : ∀ sig, parseMethodDescriptor yn.desc = some sig → 3 = sig.parameters.length) (hsz : L.size = I.ml) (hd : decode I.bytes pc = .ok (.invokevirtual index, 3)) (hq : pc + 3 = pc') (hf : J.R.frames + 1 ≤ I.R.frames) (hlo : (S.map fun v => v.category).sum + (J.ml + 11) + J.R.locals ≤ I.R.locals) (hc : cs + J.R.cells ≤ I.R.cells) (hs : sl + J.R.slots ≤ I.R.slots)
    (r : ∀ v h' rs, Q' v h' rs → oRunG C Z n0 I EL (rs ++ ws) G h' (cs + J.R.cells) (sl + J.R.slots) (mkF C.m pc' L (oPush v S))) : oRunG C Z n0 I EL ws G h cs sl (mkF C.m pc L (v2 :: v1 :: v0 :: .ref a :: S)) := s_callV (argsL := [v0, v1, v2]) (Q' := Q') M rfl hsub E w1 w2 w5 w6 nf w3 w4 hy hlen hsz hd hq hf hlo hc hs (fun v vm h q => q) r
theorem s_callU3 {a0 : Array Value} {index : Nat} {yn : MethodName} {J : OInfo} {Q' : Option Value → Heap → Prop} {a : Addr} {Kn : String} {ws' : List Addr} {v0 v1 v2 : Value} (M : oCon C.l Z n0 EL ws' yn J #[.ref a, v0, v1, v2] h Q') (hsub : ∀ x ∈ ws', x ∈ ws) (E : Ins Z h a Kn true) (w1 : (Jvm.Cond.methodLink I.own index yn).before a0 Z = true) (w2 : (Jvm.Cond.sameMethod yn.cls yn.cls yn.name yn.desc).before a0 Z = true) (w5 : (Jvm.Cond.superclass I.own yn.cls).before a0 Z = true) (w6 : (Jvm.Cond.instanceMethod yn).before a0 Z = true) (w3 : (Jvm.Cond.initialized yn.cls).before a0 Z = true) (w4 : (Jvm.Cond.code yn J.bytes J.ml J.ret).before a0 Z = true) (hn : yn.name ≠ "<init>")
    (hlen : ∀ sig, parseMethodDescriptor yn.desc = some sig → 3 = sig.parameters.length) (hsz : L.size = I.ml) (hd : decode I.bytes pc = .ok (.invokespecial index, 3)) (hq : pc + 3 = pc') (hf : J.R.frames + 1 ≤ I.R.frames) (hlo : (S.map fun v => v.category).sum + (J.ml + 11) + J.R.locals ≤ I.R.locals) (hc : cs + J.R.cells ≤ I.R.cells) (hs : sl + J.R.slots ≤ I.R.slots)
    (r : ∀ v h', Q' v h' → oRunG C Z n0 I EL ws G h' (cs + J.R.cells) (sl + J.R.slots) (mkF C.m pc' L (oPush v S))) : oRunG C Z n0 I EL ws G h cs sl (mkF C.m pc L (v2 :: v1 :: v0 :: .ref a :: S)) := s_callU (argsL := [v0, v1, v2]) (Q' := fun v h rs => Q' v h ∧ rs = []) M rfl hsub E w1 w2 w5 w6 w3 w4 hn hlen hsz hd hq hf hlo hc hs (fun v vm h q => ⟨[], ⟨q, rfl⟩, fun _ hx => nomatch hx⟩) (fun v h' rs q => by obtain ⟨q, rfl⟩ := q; exact r v h' q)
theorem s_callU3R {a0 : Array Value} {index : Nat} {yn : MethodName} {J : OInfo} {Q' : Option Value → Heap → List Addr → Prop} {a : Addr} {Kn : String} {ws' : List Addr} {v0 v1 v2 : Value} (M : oConG C.l Z n0 EL ws' yn J #[.ref a, v0, v1, v2] h (oR Z EL Q')) (hsub : ∀ x ∈ ws', x ∈ ws) (E : Ins Z h a Kn true) (w1 : (Jvm.Cond.methodLink I.own index yn).before a0 Z = true) (w2 : (Jvm.Cond.sameMethod yn.cls yn.cls yn.name yn.desc).before a0 Z = true) (w5 : (Jvm.Cond.superclass I.own yn.cls).before a0 Z = true) (w6 : (Jvm.Cond.instanceMethod yn).before a0 Z = true) (w3 : (Jvm.Cond.initialized yn.cls).before a0 Z = true) (w4 : (Jvm.Cond.code yn J.bytes J.ml J.ret).before a0 Z = true) (hn : yn.name ≠ "<init>")
    (hlen : ∀ sig, parseMethodDescriptor yn.desc = some sig → 3 = sig.parameters.length) (hsz : L.size = I.ml) (hd : decode I.bytes pc = .ok (.invokespecial index, 3)) (hq : pc + 3 = pc') (hf : J.R.frames + 1 ≤ I.R.frames) (hlo : (S.map fun v => v.category).sum + (J.ml + 11) + J.R.locals ≤ I.R.locals) (hc : cs + J.R.cells ≤ I.R.cells) (hs : sl + J.R.slots ≤ I.R.slots)
    (r : ∀ v h' rs, Q' v h' rs → oRunG C Z n0 I EL (rs ++ ws) G h' (cs + J.R.cells) (sl + J.R.slots) (mkF C.m pc' L (oPush v S))) : oRunG C Z n0 I EL ws G h cs sl (mkF C.m pc L (v2 :: v1 :: v0 :: .ref a :: S)) := s_callU (argsL := [v0, v1, v2]) (Q' := Q') M rfl hsub E w1 w2 w5 w6 w3 w4 hn hlen hsz hd hq hf hlo hc hs (fun v vm h q => q) r
theorem s_callS4 {a0 : Array Value} {index : Nat} {yn : MethodName} {J : OInfo} {Q' : Option Value → Heap → Prop} {ws' : List Addr} {v0 v1 v2 v3 : Value} (M : oCon C.l Z n0 EL ws' yn J #[v0, v1, v2, v3] h Q') (hsub : ∀ x ∈ ws', x ∈ ws) (w1 : (Jvm.Cond.methodLink I.own index yn).before a0 Z = true) (w2 : (Jvm.Cond.static yn).before a0 Z = true) (w3 : (Jvm.Cond.initialized yn.cls).before a0 Z = true) (w4 : (Jvm.Cond.code yn J.bytes J.ml J.ret).before a0 Z = true) (hy : yn.cls ≠ "java/lang/invoke/MethodHandle" ∧ yn.cls ≠ "java/lang/invoke/VarHandle")
    (hlen : ∀ sig, parseMethodDescriptor yn.desc = some sig → 4 = sig.parameters.length) (hsz : L.size = I.ml) (hd : decode I.bytes pc = .ok (.invokestatic index, 3)) (hq : pc + 3 = pc') (hf : J.R.frames + 1 ≤ I.R.frames) (hlo : (S.map fun v => v.category).sum + (J.ml + 11) + J.R.locals ≤ I.R.locals) (hc : cs + J.R.cells ≤ I.R.cells) (hs : sl + J.R.slots ≤ I.R.slots)
    (r : ∀ v h', Q' v h' → oRunG C Z n0 I EL ws G h' (cs + J.R.cells) (sl + J.R.slots) (mkF C.m pc' L (oPush v S))) : oRunG C Z n0 I EL ws G h cs sl (mkF C.m pc L (v3 :: v2 :: v1 :: v0 :: S)) := s_callS (argsL := [v0, v1, v2, v3]) (Q' := fun v h rs => Q' v h ∧ rs = []) M rfl hsub w1 w2 w3 w4 hy hlen hsz hd hq hf hlo hc hs (fun v vm h q => ⟨[], ⟨q, rfl⟩, fun _ hx => nomatch hx⟩) (fun v h' rs q => by obtain ⟨q, rfl⟩ := q; exact r v h' q)
theorem s_callI4 {a0 : Array Value} {index : Nat} {yn : MethodName} {J : OInfo} {Q' : Option Value → Heap → Prop} {a : Addr} {ws' : List Addr} {v0 v1 v2 v3 : Value} (M : oCon C.l Z n0 EL ws' yn J #[.ref a, v0, v1, v2, v3] h Q') (hsub : ∀ x ∈ ws', x ∈ ws) (hr : J.ret = none) (hn : yn.name = "<init>") (w1 : (Jvm.Cond.methodLink I.own index yn).before a0 Z = true) (w2 : (Jvm.Cond.instanceMethod yn).before a0 Z = true) (w3 : (Jvm.Cond.initialized yn.cls).before a0 Z = true) (w4 : (Jvm.Cond.code yn J.bytes J.ml J.ret).before a0 Z = true) (hy : yn.cls ≠ "java/lang/invoke/MethodHandle" ∧ yn.cls ≠ "java/lang/invoke/VarHandle")
    (hlen : ∀ sig, parseMethodDescriptor yn.desc = some sig → 4 = sig.parameters.length) (hsz : L.size = I.ml) (hd : decode I.bytes pc = .ok (.invokespecial index, 3)) (hq : pc + 3 = pc') (hf : J.R.frames + 1 ≤ I.R.frames) (hlo : (S.map fun v => v.category).sum + (J.ml + 11) + J.R.locals ≤ I.R.locals) (hc : cs + J.R.cells ≤ I.R.cells) (hs : sl + J.R.slots ≤ I.R.slots)
    (r : ∀ v h', Q' v h' → oRunG C Z n0 I EL ws G h' (cs + J.R.cells) (sl + J.R.slots) (mkF C.m pc' L (oPush v S))) : oRunG C Z n0 I EL ws G h cs sl (mkF C.m pc L (v3 :: v2 :: v1 :: v0 :: .ref a :: S)) := s_callI (argsL := [v0, v1, v2, v3]) (Q' := fun v h rs => Q' v h ∧ rs = []) M rfl hsub hr hn w1 w2 w3 w4 hy hlen hsz hd hq hf hlo hc hs (fun v vm h q => ⟨[], ⟨q, rfl⟩, fun _ hx => nomatch hx⟩) (fun v h' rs q => by obtain ⟨q, rfl⟩ := q; exact r v h' q)
theorem s_callV4 {a0 : Array Value} {index : Nat} {yn : MethodName} {J : OInfo} {Q' : Option Value → Heap → Prop} {a : Addr} {Cn : String} {zn : MethodName} {ws' : List Addr} {v0 v1 v2 v3 : Value} (M : oCon C.l Z n0 EL ws' zn J #[.ref a, v0, v1, v2, v3] h Q') (hsub : ∀ x ∈ ws', x ∈ ws) (E : Exa Z h a Cn) (w1 : (Jvm.Cond.methodLink I.own index yn).before a0 Z = true) (w2 : (Jvm.Cond.declares yn).before a0 Z = true) (w5 : (Jvm.Cond.selects Cn yn zn).before a0 Z = true) (w6 : (Jvm.Cond.instanceMethod zn).before a0 Z = true) (nf : ∀ s' : State, Z.Warmed39 s'.vm → NotFace s' yn) (w3 : (Jvm.Cond.initialized zn.cls).before a0 Z = true) (w4 : (Jvm.Cond.code zn J.bytes J.ml J.ret).before a0 Z = true) (hy : yn.cls ≠ "java/lang/invoke/MethodHandle" ∧ yn.cls ≠ "java/lang/invoke/VarHandle")
    (hlen : ∀ sig, parseMethodDescriptor yn.desc = some sig → 4 = sig.parameters.length) (hsz : L.size = I.ml) (hd : decode I.bytes pc = .ok (.invokevirtual index, 3)) (hq : pc + 3 = pc') (hf : J.R.frames + 1 ≤ I.R.frames) (hlo : (S.map fun v => v.category).sum + (J.ml + 11) + J.R.locals ≤ I.R.locals) (hc : cs + J.R.cells ≤ I.R.cells) (hs : sl + J.R.slots ≤ I.R.slots)
    (r : ∀ v h', Q' v h' → oRunG C Z n0 I EL ws G h' (cs + J.R.cells) (sl + J.R.slots) (mkF C.m pc' L (oPush v S))) : oRunG C Z n0 I EL ws G h cs sl (mkF C.m pc L (v3 :: v2 :: v1 :: v0 :: .ref a :: S)) := s_callV (argsL := [v0, v1, v2, v3]) (Q' := fun v h rs => Q' v h ∧ rs = []) M rfl hsub E w1 w2 w5 w6 nf w3 w4 hy hlen hsz hd hq hf hlo hc hs (fun v vm h q => ⟨[], ⟨q, rfl⟩, fun _ hx => nomatch hx⟩) (fun v h' rs q => by obtain ⟨q, rfl⟩ := q; exact r v h' q)
theorem s_callU4 {a0 : Array Value} {index : Nat} {yn : MethodName} {J : OInfo} {Q' : Option Value → Heap → Prop} {a : Addr} {Kn : String} {ws' : List Addr} {v0 v1 v2 v3 : Value} (M : oCon C.l Z n0 EL ws' yn J #[.ref a, v0, v1, v2, v3] h Q') (hsub : ∀ x ∈ ws', x ∈ ws) (E : Ins Z h a Kn true) (w1 : (Jvm.Cond.methodLink I.own index yn).before a0 Z = true) (w2 : (Jvm.Cond.sameMethod yn.cls yn.cls yn.name yn.desc).before a0 Z = true) (w5 : (Jvm.Cond.superclass I.own yn.cls).before a0 Z = true) (w6 : (Jvm.Cond.instanceMethod yn).before a0 Z = true) (w3 : (Jvm.Cond.initialized yn.cls).before a0 Z = true) (w4 : (Jvm.Cond.code yn J.bytes J.ml J.ret).before a0 Z = true) (hn : yn.name ≠ "<init>")
    (hlen : ∀ sig, parseMethodDescriptor yn.desc = some sig → 4 = sig.parameters.length) (hsz : L.size = I.ml) (hd : decode I.bytes pc = .ok (.invokespecial index, 3)) (hq : pc + 3 = pc') (hf : J.R.frames + 1 ≤ I.R.frames) (hlo : (S.map fun v => v.category).sum + (J.ml + 11) + J.R.locals ≤ I.R.locals) (hc : cs + J.R.cells ≤ I.R.cells) (hs : sl + J.R.slots ≤ I.R.slots)
    (r : ∀ v h', Q' v h' → oRunG C Z n0 I EL ws G h' (cs + J.R.cells) (sl + J.R.slots) (mkF C.m pc' L (oPush v S))) : oRunG C Z n0 I EL ws G h cs sl (mkF C.m pc L (v3 :: v2 :: v1 :: v0 :: .ref a :: S)) := s_callU (argsL := [v0, v1, v2, v3]) (Q' := fun v h rs => Q' v h ∧ rs = []) M rfl hsub E w1 w2 w5 w6 w3 w4 hn hlen hsz hd hq hf hlo hc hs (fun v vm h q => ⟨[], ⟨q, rfl⟩, fun _ hx => nomatch hx⟩) (fun v h' rs q => by obtain ⟨q, rfl⟩ := q; exact r v h' q)
theorem s_callS5 {a0 : Array Value} {index : Nat} {yn : MethodName} {J : OInfo} {Q' : Option Value → Heap → Prop} {ws' : List Addr} {v0 v1 v2 v3 v4 : Value} (M : oCon C.l Z n0 EL ws' yn J #[v0, v1, v2, v3, v4] h Q') (hsub : ∀ x ∈ ws', x ∈ ws) (w1 : (Jvm.Cond.methodLink I.own index yn).before a0 Z = true) (w2 : (Jvm.Cond.static yn).before a0 Z = true) (w3 : (Jvm.Cond.initialized yn.cls).before a0 Z = true) (w4 : (Jvm.Cond.code yn J.bytes J.ml J.ret).before a0 Z = true) (hy : yn.cls ≠ "java/lang/invoke/MethodHandle" ∧ yn.cls ≠ "java/lang/invoke/VarHandle")
    (hlen : ∀ sig, parseMethodDescriptor yn.desc = some sig → 5 = sig.parameters.length) (hsz : L.size = I.ml) (hd : decode I.bytes pc = .ok (.invokestatic index, 3)) (hq : pc + 3 = pc') (hf : J.R.frames + 1 ≤ I.R.frames) (hlo : (S.map fun v => v.category).sum + (J.ml + 11) + J.R.locals ≤ I.R.locals) (hc : cs + J.R.cells ≤ I.R.cells) (hs : sl + J.R.slots ≤ I.R.slots)
    (r : ∀ v h', Q' v h' → oRunG C Z n0 I EL ws G h' (cs + J.R.cells) (sl + J.R.slots) (mkF C.m pc' L (oPush v S))) : oRunG C Z n0 I EL ws G h cs sl (mkF C.m pc L (v4 :: v3 :: v2 :: v1 :: v0 :: S)) := s_callS (argsL := [v0, v1, v2, v3, v4]) (Q' := fun v h rs => Q' v h ∧ rs = []) M rfl hsub w1 w2 w3 w4 hy hlen hsz hd hq hf hlo hc hs (fun v vm h q => ⟨[], ⟨q, rfl⟩, fun _ hx => nomatch hx⟩) (fun v h' rs q => by obtain ⟨q, rfl⟩ := q; exact r v h' q)
theorem s_callI5 {a0 : Array Value} {index : Nat} {yn : MethodName} {J : OInfo} {Q' : Option Value → Heap → Prop} {a : Addr} {ws' : List Addr} {v0 v1 v2 v3 v4 : Value} (M : oCon C.l Z n0 EL ws' yn J #[.ref a, v0, v1, v2, v3, v4] h Q') (hsub : ∀ x ∈ ws', x ∈ ws) (hr : J.ret = none) (hn : yn.name = "<init>") (w1 : (Jvm.Cond.methodLink I.own index yn).before a0 Z = true) (w2 : (Jvm.Cond.instanceMethod yn).before a0 Z = true) (w3 : (Jvm.Cond.initialized yn.cls).before a0 Z = true) (w4 : (Jvm.Cond.code yn J.bytes J.ml J.ret).before a0 Z = true) (hy : yn.cls ≠ "java/lang/invoke/MethodHandle" ∧ yn.cls ≠ "java/lang/invoke/VarHandle")
    (hlen : ∀ sig, parseMethodDescriptor yn.desc = some sig → 5 = sig.parameters.length) (hsz : L.size = I.ml) (hd : decode I.bytes pc = .ok (.invokespecial index, 3)) (hq : pc + 3 = pc') (hf : J.R.frames + 1 ≤ I.R.frames) (hlo : (S.map fun v => v.category).sum + (J.ml + 11) + J.R.locals ≤ I.R.locals) (hc : cs + J.R.cells ≤ I.R.cells) (hs : sl + J.R.slots ≤ I.R.slots)
    (r : ∀ v h', Q' v h' → oRunG C Z n0 I EL ws G h' (cs + J.R.cells) (sl + J.R.slots) (mkF C.m pc' L (oPush v S))) : oRunG C Z n0 I EL ws G h cs sl (mkF C.m pc L (v4 :: v3 :: v2 :: v1 :: v0 :: .ref a :: S)) := s_callI (argsL := [v0, v1, v2, v3, v4]) (Q' := fun v h rs => Q' v h ∧ rs = []) M rfl hsub hr hn w1 w2 w3 w4 hy hlen hsz hd hq hf hlo hc hs (fun v vm h q => ⟨[], ⟨q, rfl⟩, fun _ hx => nomatch hx⟩) (fun v h' rs q => by obtain ⟨q, rfl⟩ := q; exact r v h' q)
theorem s_callV5 {a0 : Array Value} {index : Nat} {yn : MethodName} {J : OInfo} {Q' : Option Value → Heap → Prop} {a : Addr} {Cn : String} {zn : MethodName} {ws' : List Addr} {v0 v1 v2 v3 v4 : Value} (M : oCon C.l Z n0 EL ws' zn J #[.ref a, v0, v1, v2, v3, v4] h Q') (hsub : ∀ x ∈ ws', x ∈ ws) (E : Exa Z h a Cn) (w1 : (Jvm.Cond.methodLink I.own index yn).before a0 Z = true) (w2 : (Jvm.Cond.declares yn).before a0 Z = true) (w5 : (Jvm.Cond.selects Cn yn zn).before a0 Z = true) (w6 : (Jvm.Cond.instanceMethod zn).before a0 Z = true) (nf : ∀ s' : State, Z.Warmed39 s'.vm → NotFace s' yn) (w3 : (Jvm.Cond.initialized zn.cls).before a0 Z = true) (w4 : (Jvm.Cond.code zn J.bytes J.ml J.ret).before a0 Z = true) (hy : yn.cls ≠ "java/lang/invoke/MethodHandle" ∧ yn.cls ≠ "java/lang/invoke/VarHandle")
    (hlen : ∀ sig, parseMethodDescriptor yn.desc = some sig → 5 = sig.parameters.length) (hsz : L.size = I.ml) (hd : decode I.bytes pc = .ok (.invokevirtual index, 3)) (hq : pc + 3 = pc') (hf : J.R.frames + 1 ≤ I.R.frames) (hlo : (S.map fun v => v.category).sum + (J.ml + 11) + J.R.locals ≤ I.R.locals) (hc : cs + J.R.cells ≤ I.R.cells) (hs : sl + J.R.slots ≤ I.R.slots)
    (r : ∀ v h', Q' v h' → oRunG C Z n0 I EL ws G h' (cs + J.R.cells) (sl + J.R.slots) (mkF C.m pc' L (oPush v S))) : oRunG C Z n0 I EL ws G h cs sl (mkF C.m pc L (v4 :: v3 :: v2 :: v1 :: v0 :: .ref a :: S)) := s_callV (argsL := [v0, v1, v2, v3, v4]) (Q' := fun v h rs => Q' v h ∧ rs = []) M rfl hsub E w1 w2 w5 w6 nf w3 w4 hy hlen hsz hd hq hf hlo hc hs (fun v vm h q => ⟨[], ⟨q, rfl⟩, fun _ hx => nomatch hx⟩) (fun v h' rs q => by obtain ⟨q, rfl⟩ := q; exact r v h' q)
theorem s_callU5 {a0 : Array Value} {index : Nat} {yn : MethodName} {J : OInfo} {Q' : Option Value → Heap → Prop} {a : Addr} {Kn : String} {ws' : List Addr} {v0 v1 v2 v3 v4 : Value} (M : oCon C.l Z n0 EL ws' yn J #[.ref a, v0, v1, v2, v3, v4] h Q') (hsub : ∀ x ∈ ws', x ∈ ws) (E : Ins Z h a Kn true) (w1 : (Jvm.Cond.methodLink I.own index yn).before a0 Z = true) (w2 : (Jvm.Cond.sameMethod yn.cls yn.cls yn.name yn.desc).before a0 Z = true) (w5 : (Jvm.Cond.superclass I.own yn.cls).before a0 Z = true) (w6 : (Jvm.Cond.instanceMethod yn).before a0 Z = true) (w3 : (Jvm.Cond.initialized yn.cls).before a0 Z = true) (w4 : (Jvm.Cond.code yn J.bytes J.ml J.ret).before a0 Z = true) (hn : yn.name ≠ "<init>")
    (hlen : ∀ sig, parseMethodDescriptor yn.desc = some sig → 5 = sig.parameters.length) (hsz : L.size = I.ml) (hd : decode I.bytes pc = .ok (.invokespecial index, 3)) (hq : pc + 3 = pc') (hf : J.R.frames + 1 ≤ I.R.frames) (hlo : (S.map fun v => v.category).sum + (J.ml + 11) + J.R.locals ≤ I.R.locals) (hc : cs + J.R.cells ≤ I.R.cells) (hs : sl + J.R.slots ≤ I.R.slots)
    (r : ∀ v h', Q' v h' → oRunG C Z n0 I EL ws G h' (cs + J.R.cells) (sl + J.R.slots) (mkF C.m pc' L (oPush v S))) : oRunG C Z n0 I EL ws G h cs sl (mkF C.m pc L (v4 :: v3 :: v2 :: v1 :: v0 :: .ref a :: S)) := s_callU (argsL := [v0, v1, v2, v3, v4]) (Q' := fun v h rs => Q' v h ∧ rs = []) M rfl hsub E w1 w2 w5 w6 w3 w4 hn hlen hsz hd hq hf hlo hc hs (fun v vm h q => ⟨[], ⟨q, rfl⟩, fun _ hx => nomatch hx⟩) (fun v h' rs q => by obtain ⟨q, rfl⟩ := q; exact r v h' q)
theorem s_callS6 {a0 : Array Value} {index : Nat} {yn : MethodName} {J : OInfo} {Q' : Option Value → Heap → Prop} {ws' : List Addr} {v0 v1 v2 v3 v4 v5 : Value} (M : oCon C.l Z n0 EL ws' yn J #[v0, v1, v2, v3, v4, v5] h Q') (hsub : ∀ x ∈ ws', x ∈ ws) (w1 : (Jvm.Cond.methodLink I.own index yn).before a0 Z = true) (w2 : (Jvm.Cond.static yn).before a0 Z = true) (w3 : (Jvm.Cond.initialized yn.cls).before a0 Z = true) (w4 : (Jvm.Cond.code yn J.bytes J.ml J.ret).before a0 Z = true) (hy : yn.cls ≠ "java/lang/invoke/MethodHandle" ∧ yn.cls ≠ "java/lang/invoke/VarHandle")
    (hlen : ∀ sig, parseMethodDescriptor yn.desc = some sig → 6 = sig.parameters.length) (hsz : L.size = I.ml) (hd : decode I.bytes pc = .ok (.invokestatic index, 3)) (hq : pc + 3 = pc') (hf : J.R.frames + 1 ≤ I.R.frames) (hlo : (S.map fun v => v.category).sum + (J.ml + 11) + J.R.locals ≤ I.R.locals) (hc : cs + J.R.cells ≤ I.R.cells) (hs : sl + J.R.slots ≤ I.R.slots)
    (r : ∀ v h', Q' v h' → oRunG C Z n0 I EL ws G h' (cs + J.R.cells) (sl + J.R.slots) (mkF C.m pc' L (oPush v S))) : oRunG C Z n0 I EL ws G h cs sl (mkF C.m pc L (v5 :: v4 :: v3 :: v2 :: v1 :: v0 :: S)) := s_callS (argsL := [v0, v1, v2, v3, v4, v5]) (Q' := fun v h rs => Q' v h ∧ rs = []) M rfl hsub w1 w2 w3 w4 hy hlen hsz hd hq hf hlo hc hs (fun v vm h q => ⟨[], ⟨q, rfl⟩, fun _ hx => nomatch hx⟩) (fun v h' rs q => by obtain ⟨q, rfl⟩ := q; exact r v h' q)
theorem s_callI6 {a0 : Array Value} {index : Nat} {yn : MethodName} {J : OInfo} {Q' : Option Value → Heap → Prop} {a : Addr} {ws' : List Addr} {v0 v1 v2 v3 v4 v5 : Value} (M : oCon C.l Z n0 EL ws' yn J #[.ref a, v0, v1, v2, v3, v4, v5] h Q') (hsub : ∀ x ∈ ws', x ∈ ws) (hr : J.ret = none) (hn : yn.name = "<init>") (w1 : (Jvm.Cond.methodLink I.own index yn).before a0 Z = true) (w2 : (Jvm.Cond.instanceMethod yn).before a0 Z = true) (w3 : (Jvm.Cond.initialized yn.cls).before a0 Z = true) (w4 : (Jvm.Cond.code yn J.bytes J.ml J.ret).before a0 Z = true) (hy : yn.cls ≠ "java/lang/invoke/MethodHandle" ∧ yn.cls ≠ "java/lang/invoke/VarHandle")
    (hlen : ∀ sig, parseMethodDescriptor yn.desc = some sig → 6 = sig.parameters.length) (hsz : L.size = I.ml) (hd : decode I.bytes pc = .ok (.invokespecial index, 3)) (hq : pc + 3 = pc') (hf : J.R.frames + 1 ≤ I.R.frames) (hlo : (S.map fun v => v.category).sum + (J.ml + 11) + J.R.locals ≤ I.R.locals) (hc : cs + J.R.cells ≤ I.R.cells) (hs : sl + J.R.slots ≤ I.R.slots)
    (r : ∀ v h', Q' v h' → oRunG C Z n0 I EL ws G h' (cs + J.R.cells) (sl + J.R.slots) (mkF C.m pc' L (oPush v S))) : oRunG C Z n0 I EL ws G h cs sl (mkF C.m pc L (v5 :: v4 :: v3 :: v2 :: v1 :: v0 :: .ref a :: S)) := s_callI (argsL := [v0, v1, v2, v3, v4, v5]) (Q' := fun v h rs => Q' v h ∧ rs = []) M rfl hsub hr hn w1 w2 w3 w4 hy hlen hsz hd hq hf hlo hc hs (fun v vm h q => ⟨[], ⟨q, rfl⟩, fun _ hx => nomatch hx⟩) (fun v h' rs q => by obtain ⟨q, rfl⟩ := q; exact r v h' q)
theorem s_callV6 {a0 : Array Value} {index : Nat} {yn : MethodName} {J : OInfo} {Q' : Option Value → Heap → Prop} {a : Addr} {Cn : String} {zn : MethodName} {ws' : List Addr} {v0 v1 v2 v3 v4 v5 : Value} (M : oCon C.l Z n0 EL ws' zn J #[.ref a, v0, v1, v2, v3, v4, v5] h Q') (hsub : ∀ x ∈ ws', x ∈ ws) (E : Exa Z h a Cn) (w1 : (Jvm.Cond.methodLink I.own index yn).before a0 Z = true) (w2 : (Jvm.Cond.declares yn).before a0 Z = true) (w5 : (Jvm.Cond.selects Cn yn zn).before a0 Z = true) (w6 : (Jvm.Cond.instanceMethod zn).before a0 Z = true) (nf : ∀ s' : State, Z.Warmed39 s'.vm → NotFace s' yn) (w3 : (Jvm.Cond.initialized zn.cls).before a0 Z = true) (w4 : (Jvm.Cond.code zn J.bytes J.ml J.ret).before a0 Z = true) (hy : yn.cls ≠ "java/lang/invoke/MethodHandle" ∧ yn.cls ≠ "java/lang/invoke/VarHandle")
    (hlen : ∀ sig, parseMethodDescriptor yn.desc = some sig → 6 = sig.parameters.length) (hsz : L.size = I.ml) (hd : decode I.bytes pc = .ok (.invokevirtual index, 3)) (hq : pc + 3 = pc') (hf : J.R.frames + 1 ≤ I.R.frames) (hlo : (S.map fun v => v.category).sum + (J.ml + 11) + J.R.locals ≤ I.R.locals) (hc : cs + J.R.cells ≤ I.R.cells) (hs : sl + J.R.slots ≤ I.R.slots)
    (r : ∀ v h', Q' v h' → oRunG C Z n0 I EL ws G h' (cs + J.R.cells) (sl + J.R.slots) (mkF C.m pc' L (oPush v S))) : oRunG C Z n0 I EL ws G h cs sl (mkF C.m pc L (v5 :: v4 :: v3 :: v2 :: v1 :: v0 :: .ref a :: S)) := s_callV (argsL := [v0, v1, v2, v3, v4, v5]) (Q' := fun v h rs => Q' v h ∧ rs = []) M rfl hsub E w1 w2 w5 w6 nf w3 w4 hy hlen hsz hd hq hf hlo hc hs (fun v vm h q => ⟨[], ⟨q, rfl⟩, fun _ hx => nomatch hx⟩) (fun v h' rs q => by obtain ⟨q, rfl⟩ := q; exact r v h' q)
theorem s_callU6 {a0 : Array Value} {index : Nat} {yn : MethodName} {J : OInfo} {Q' : Option Value → Heap → Prop} {a : Addr} {Kn : String} {ws' : List Addr} {v0 v1 v2 v3 v4 v5 : Value} (M : oCon C.l Z n0 EL ws' yn J #[.ref a, v0, v1, v2, v3, v4, v5] h Q') (hsub : ∀ x ∈ ws', x ∈ ws) (E : Ins Z h a Kn true) (w1 : (Jvm.Cond.methodLink I.own index yn).before a0 Z = true) (w2 : (Jvm.Cond.sameMethod yn.cls yn.cls yn.name yn.desc).before a0 Z = true) (w5 : (Jvm.Cond.superclass I.own yn.cls).before a0 Z = true) (w6 : (Jvm.Cond.instanceMethod yn).before a0 Z = true) (w3 : (Jvm.Cond.initialized yn.cls).before a0 Z = true) (w4 : (Jvm.Cond.code yn J.bytes J.ml J.ret).before a0 Z = true) (hn : yn.name ≠ "<init>")
    (hlen : ∀ sig, parseMethodDescriptor yn.desc = some sig → 6 = sig.parameters.length) (hsz : L.size = I.ml) (hd : decode I.bytes pc = .ok (.invokespecial index, 3)) (hq : pc + 3 = pc') (hf : J.R.frames + 1 ≤ I.R.frames) (hlo : (S.map fun v => v.category).sum + (J.ml + 11) + J.R.locals ≤ I.R.locals) (hc : cs + J.R.cells ≤ I.R.cells) (hs : sl + J.R.slots ≤ I.R.slots)
    (r : ∀ v h', Q' v h' → oRunG C Z n0 I EL ws G h' (cs + J.R.cells) (sl + J.R.slots) (mkF C.m pc' L (oPush v S))) : oRunG C Z n0 I EL ws G h cs sl (mkF C.m pc L (v5 :: v4 :: v3 :: v2 :: v1 :: v0 :: .ref a :: S)) := s_callU (argsL := [v0, v1, v2, v3, v4, v5]) (Q' := fun v h rs => Q' v h ∧ rs = []) M rfl hsub E w1 w2 w5 w6 w3 w4 hn hlen hsz hd hq hf hlo hc hs (fun v vm h q => ⟨[], ⟨q, rfl⟩, fun _ hx => nomatch hx⟩) (fun v h' rs q => by obtain ⟨q, rfl⟩ := q; exact r v h' q)
-- the ends
theorem s_end {v : Option Value} {g : JFrame} (hc : cs ≤ I.R.cells) (hs : sl ≤ I.R.slots) (hv : I.ret = none → v = none) (hQ : ∀ vm, (∀ x ∈ ws, Safe Z EL vm h x ∧ x < h.size) → G v vm h)
    (st : ∀ {s0 : State} T locs fs, oK C s0 Z n0 I T locs cs sl h → (∀ (f : JFrame) (acts : List Action), f.method = C.m → f.locked = none → f.entered = [] → (doReturn C.e (T.setTop f) acts v).1 = T.setFrames fs) → Steps C.p.tables C.e C.below (T.setTop g) (T.setFrames fs)) : oRunG C Z n0 I EL ws G h cs sl g := by
  intro vm0 T locs K V
  have K0 := K
  obtain ⟨X, k1, k2, k3, k4, k5, k6, k7, k8, k9, k10, k11⟩ := K
  obtain ⟨kk, hk1, hk2⟩ := V.2.1
  obtain ⟨fs, hr, hrun, hended, hE⟩ := X.leaveW hk1 (by rw [k9]; exact hk2) (v := v) (fun q => hv (k6.symm.trans q)) k8
  refine ⟨_, _, st T locs fs K0 hr, hrun, hended, v, locs, rfl, ⟨k10, ?_, ?_⟩, ?_, hE.1, hE.2.1, hE.2.2.1, hE.2.2.2.mono hc hs⟩
  · show Old Z n0 T.heap; rw [k9]; exact k11
  · show G v T.vm T.heap; rw [k9]; obtain ⟨a1, hEL⟩ := V.1; exact hQ _ fun x hx => ⟨(CHv.at X k2 hEL V.2.2.1.1).safe (V.2.2.2 x hx).2 (V.2.2.2 x hx).1, (V.2.2.2 x hx).2⟩
  · obtain ⟨a1, hEL⟩ := V.1
    show CHr Z EL C.s.vm C.s.heap T.vm T.heap
    rw [k9]
    exact V.2.2.1.trans (CHv.at X k2 hEL V.2.2.1.1)
-- a String constant, loaded and read
theorem s_ldcS {a0 : Array Value} {idx : Nat} {text : String} {vs : List Value} {z : Int32} (n : Nat) (w : (Jvm.Cond.stringLink I.own idx text).before a0 Z = true) (wS : ∀ d ∈ Bundle.stringAtoms, d.before a0 Z = true) (hEL : EW Z a0 EL) (hmem : (I.own, idx) ∈ EL)
    (ht : (∀ c ∈ text.toList, c.toNat < 256) ∧ text.toList.map (fun c => Value.int (Jvm.Lit.byteI c.toNat.toUInt16)) = vs) (hz : ¬ z < 0) (hl : z.toNatClampNeg = vs.length) (hd : decode I.bytes pc = .ok (.ldc idx, 2)) (hq : pc + 2 = pc') (hn : 4 * text.toList.length ≤ n) (hbig : n ≤ 536870912) (hc : cs + 2 ≤ I.R.cells) (hl' : sl + (n + 4) ≤ I.R.slots)
    (r : ∀ h' a b k, Ext h h' → Exa Z h' a "java/lang/String" → Fld Z h' a "java/lang/String" "coder" "B" (.int 0) → Fld Z h' a "java/lang/String" "value" "[B" (.ref b) → Arv Z h' b k .byte z vs (.int 0) → (∀ x ∈ ws, x ≠ a ∧ x ≠ b) → oRunG C Z n0 I EL ws G h' (cs + 2) (sl + (n + 4)) (mkF C.m pc' L (.ref a :: S))) : oRunG C Z n0 I EL ws G h cs sl (mkF C.m pc L S) := by
  subst hq
  intro vm0 T locs K V
  obtain ⟨X, k1, k2, k3, k4, k5, k6, k7, k8, k9, k10, k11⟩ := K
  obtain ⟨kk, hk1, hk2⟩ := V.2.1
  obtain ⟨a, T', h', kn, b, k, X', e', E, hS, hk', hZ', ho', A1, A2, A3, A4, -, -, hC, -, hsafe, st⟩ := ldcCH X k1 k2 k3 w wS k9 hk1 hk2 hEL hmem V.2.2.1.1 ht hz hl (g := mkF C.m pc L S) rfl (hb k4 hd) hn hbig hc hl'
  have V' := V.step hC ⟨kn, hS, hk'⟩
  obtain ⟨t, o, h1, h2⟩ := r h' a b k E A1 A2 A3 A4 (fun x hx => hsafe x (V'.2.2.2 x hx).1) T'.vm T' _ ⟨X', k1, hZ', ho', k4, k5, k6, k7, k8, e', k10, k11.ext E⟩ V'
  exact ⟨t, o, st t h1, h2⟩
theorem s_ldcO {a0 : Array Value} {idx : Nat} {text : String} (n : Nat) (w : (Jvm.Cond.stringLink I.own idx text).before a0 Z = true) (wS : ∀ d ∈ Bundle.stringAtoms, d.before a0 Z = true) (hEL : EW Z a0 EL)
    (hd : decode I.bytes pc = .ok (.ldc idx, 2)) (hq : pc + 2 = pc') (hn : 4 * text.toList.length ≤ n) (hbig : n ≤ 536870912) (hc : cs + 2 ≤ I.R.cells) (hl' : sl + (n + 4) ≤ I.R.slots)
    (r : ∀ h' a, Ext h h' → oRunG C Z n0 I EL ws G h' (cs + 2) (sl + (n + 4)) (mkF C.m pc' L (.ref a :: S))) : oRunG C Z n0 I EL ws G h cs sl (mkF C.m pc L S) := by
  subst hq
  intro vm0 T locs K V
  obtain ⟨X, k1, k2, k3, k4, k5, k6, k7, k8, k9, k10, k11⟩ := K
  obtain ⟨kk, hk1, hk2⟩ := V.2.1
  obtain ⟨a, T', h', kn, X', e', E, hS, hk', hZ', ho', hC, -, st⟩ := ldcOH X k1 k2 k3 w wS k9 hk1 hk2 hEL V.2.2.1.1 (g := mkF C.m pc L S) rfl (hb k4 hd) hn hbig hc hl'
  have V' := V.step hC ⟨kn, hS, hk'⟩
  obtain ⟨t, o, h1, h2⟩ := r h' a E T'.vm T' _ ⟨X', k1, hZ', ho', k4, k5, k6, k7, k8, e', k10, k11.ext E⟩ V'
  exact ⟨t, o, st t h1, h2⟩
theorem s_more {cs' sl' : Nat} {g : JFrame} (hc : cs ≤ cs') (hs : sl ≤ sl') (r : oRunG C Z n0 I EL ws G h cs' sl' g) : oRunG C Z n0 I EL ws G h cs sl g := fun vm0 T locs K V => r vm0 T locs ⟨K.1.more hc hs, K.2⟩ V
theorem s_weak {ws' : List Addr} {g : JFrame} (q : ∀ x ∈ ws', x ∈ ws) (r : oRunG C Z n0 I EL ws' G h cs sl g) : oRunG C Z n0 I EL ws G h cs sl g := fun vm0 T locs K V => r vm0 T locs K (V.sub q)
theorem s_ret (hr : I.ret = none) (hd : decode I.bytes pc = .ok (.return_, 1)) (hc : cs ≤ I.R.cells) (hs : sl ≤ I.R.slots) (hQ : Q none h) : oRun C Z n0 I EL ws Q h cs sl (mkF C.m pc L []) :=
  s_end hc hs (fun _ => rfl) (fun _ _ => hQ) fun T locs fs K hl => K.1.returnOut K.2.1 (K.2.2.2.2.2.2.1.trans hr) (hb K.2.2.2.2.1 hd) hl
theorem s_iret (hr : I.ret = some .int) (hd : decode I.bytes pc = .ok (.ireturn, 1)) (hc : cs ≤ I.R.cells) (hs : sl ≤ I.R.slots) (hQ : Q (some (.int x)) h) : oRun C Z n0 I EL ws Q h cs sl (mkF C.m pc L (.int x :: S)) :=
  s_end hc hs (fun q => by rw [hr] at q; cases q) (fun _ _ => hQ) fun T locs fs K hl => retI K.1 K.2.1 (K.2.2.2.2.2.2.1.trans hr) (hb K.2.2.2.2.1 hd) hl
theorem s_nret {t : FieldType} (hr : I.ret = some t) (ht : t = .boolean ∨ t = .byte ∨ t = .char ∨ t = .short) (hd : decode I.bytes pc = .ok (.ireturn, 1)) (hc : cs ≤ I.R.cells) (hs : sl ≤ I.R.slots) (hQ : Q (some (.int (nar t x))) h) : oRun C Z n0 I EL ws Q h cs sl (mkF C.m pc L (.int x :: S)) :=
  s_end hc hs (fun q => by rw [hr] at q; cases q) (fun _ _ => hQ) fun T locs fs K hl => retN K.1 K.2.1 (K.2.2.2.2.2.2.1.trans hr) ht (hb K.2.2.2.2.1 hd) hl
theorem s_aret {t : FieldType} {v : Value} (hr : I.ret = some t) (ht : t.isReference = true) (hv : v.isRef = true) (hd : decode I.bytes pc = .ok (.areturn, 1)) (hc : cs ≤ I.R.cells) (hs : sl ≤ I.R.slots) (hQ : Q (some v) h) : oRun C Z n0 I EL ws Q h cs sl (mkF C.m pc L (v :: S)) :=
  s_end hc hs (fun q => by rw [hr] at q; cases q) (fun _ _ => hQ) fun T locs fs K hl => by
    have X := K.1
    have hx := K.2.1
    have hd' := hb K.2.2.2.2.1 hd
    have hret := K.2.2.2.2.2.2.1.trans hr
    have hm' : T.vm.method? C.m = some C.meth := X.method'
    show Steps C.p.tables C.e C.below (T.setTop { method := C.m, pc := pc, locals := L, stack := v :: S, locked := none }) _
    jvm_step X.here [X.here.top, hx, hd', hm', hret, hv, ht]
    first | (intro acts; rw [hl _ acts rfl rfl rfl]) | rw [hl _ _ rfl rfl rfl]
    exact Steps.refl _
theorem s_retR {Qr : Option Value → Heap → List Addr → Prop} (hr : I.ret = none) (hd : decode I.bytes pc = .ok (.return_, 1)) (hc : cs ≤ I.R.cells) (hs : sl ≤ I.R.slots) (rs : List Addr) (hrs : ∀ x ∈ rs, x ∈ ws) (hQ : Qr none h rs) : oRunG C Z n0 I EL ws (oR Z EL Qr) h cs sl (mkF C.m pc L []) :=
  s_end hc hs (fun _ => rfl) (fun _ q => ⟨rs, hQ, fun x hx => q x (hrs x hx)⟩) fun T locs fs K hl => K.1.returnOut K.2.1 (K.2.2.2.2.2.2.1.trans hr) (hb K.2.2.2.2.1 hd) hl
theorem s_aretR {Qr : Option Value → Heap → List Addr → Prop} {t : FieldType} {v : Value} (hr : I.ret = some t) (ht : t.isReference = true) (hv : v.isRef = true) (hd : decode I.bytes pc = .ok (.areturn, 1)) (hc : cs ≤ I.R.cells) (hs : sl ≤ I.R.slots) (rs : List Addr) (hrs : ∀ x ∈ rs, x ∈ ws) (hQ : Qr (some v) h rs) : oRunG C Z n0 I EL ws (oR Z EL Qr) h cs sl (mkF C.m pc L (v :: S)) :=
  s_end hc hs (fun q => by rw [hr] at q; cases q) (fun _ q => ⟨rs, hQ, fun x hx => q x (hrs x hx)⟩) fun T locs fs K hl => by
    have X := K.1
    have hx := K.2.1
    have hd' := hb K.2.2.2.2.1 hd
    have hret := K.2.2.2.2.2.2.1.trans hr
    have hm' : T.vm.method? C.m = some C.meth := X.method'
    show Steps C.p.tables C.e C.below (T.setTop { method := C.m, pc := pc, locals := L, stack := v :: S, locked := none }) _
    jvm_step X.here [X.here.top, hx, hd', hm', hret, hv, ht]
    first | (intro acts; rw [hl _ acts rfl rfl rfl]) | rw [hl _ _ rfl rfl rfl]
    exact Steps.refl _
end OwnCore
-- OWN: Strings of Latin-1 chars
abbrev byt (c : Int32) : Int32 := c.toInt8.toInt32
def Ch (cs : List Int32) : Prop := ∀ c ∈ cs, ¬ c < 0 ∧ ¬ (255 : Int32) < c
theorem o_lt {x y : Int32} : x < y ↔ x.toInt < y.toInt := Int32.lt_iff_toInt_lt
theorem o_eq {x y : Int32} : x = y ↔ x.toInt = y.toInt := ⟨fun h => by rw [h], Int32.toInt_inj.mp⟩
theorem byt_byt (c : Int32) : nar .byte (byt c) = byt c := by show (c.toInt8.toInt32).toInt8.toInt32 = _; rw [Int8.toInt8_toInt32]
theorem c_byt {c : Int32} (h : ¬ c < 0 ∧ ¬ (255 : Int32) < c) : (byt c).toInt = if c.toInt < 128 then c.toInt else c.toInt - 256 := by
  have q := c_i2b c
  have h1 : ¬ c.toInt < (0 : Int32).toInt := fun z => h.1 (o_lt.mpr z)
  have h2 : ¬ (255 : Int32).toInt < c.toInt := fun z => h.2 (o_lt.mpr z)
  have e1 : (0 : Int32).toInt = 0 := rfl
  have e2 : (255 : Int32).toInt = 255 := rfl
  rw [e1] at h1; rw [e2] at h2
  show c.toInt8.toInt32.toInt = _
  split <;> omega
theorem byt_inj {c d : Int32} (hc : ¬ c < 0 ∧ ¬ (255 : Int32) < c) (hd : ¬ d < 0 ∧ ¬ (255 : Int32) < d) (h : byt c = byt d) : c = d := by
  have h' : (byt c).toInt = (byt d).toInt := by rw [h]
  rw [c_byt hc, c_byt hd] at h'
  have h1 : ¬ c.toInt < (0 : Int32).toInt := fun z => hc.1 (o_lt.mpr z)
  have h2 : ¬ (255 : Int32).toInt < c.toInt := fun z => hc.2 (o_lt.mpr z)
  have h3 : ¬ d.toInt < (0 : Int32).toInt := fun z => hd.1 (o_lt.mpr z)
  have h4 : ¬ (255 : Int32).toInt < d.toInt := fun z => hd.2 (o_lt.mpr z)
  have e1 : (0 : Int32).toInt = 0 := rfl
  have e2 : (255 : Int32).toInt = 255 := rfl
  rw [e1] at h1 h3; rw [e2] at h2 h4
  rw [o_eq]
  split at h' <;> split at h' <;> omega
theorem byt_and {c : Int32} (h : ¬ c < 0 ∧ ¬ (255 : Int32) < c) : (byt c) &&& (255 : Int32) = c := by
  rw [o_eq]
  have q := c_mask (byt c) 255 8 (by decide) (by decide)
  rw [q, c_byt h]
  have h1 : ¬ c.toInt < (0 : Int32).toInt := fun z => h.1 (o_lt.mpr z)
  have h2 : ¬ (255 : Int32).toInt < c.toInt := fun z => h.2 (o_lt.mpr z)
  have e1 : (0 : Int32).toInt = 0 := rfl
  have e2 : (255 : Int32).toInt = 255 := rfl
  rw [e1] at h1; rw [e2] at h2
  split <;> omega
theorem nn {i : Nat} (hi : i < 2147483648) : ¬ Int32.ofNat i < 0 := Int32.ofNat_not_neg (by omega)
theorem cl {i : Nat} (hi : i < 2147483648) : (Int32.ofNat i).toNatClampNeg = i := Jvm.Free.XT.n32 (by omega)
theorem lt' {a b : Nat} (hb : b < 2147483648) (h : a < b) : Int32.ofNat a < Int32.ofNat b := Jvm.Free.XT.lt32 (by omega) h
theorem nlt' {a b : Nat} (ha : a < 2147483648) (h : b ≤ a) : ¬ Int32.ofNat a < Int32.ofNat b := Jvm.Free.XT.nlt32 (by omega) h
theorem n_succ (i : Nat) : Int32.ofNat i + 1 = Int32.ofNat (i + 1) := Jvm.Free.XT.succ32 i
theorem n_inj {a b : Nat} (ha : a < 2147483648) (hb : b < 2147483648) (h : Int32.ofNat a = Int32.ofNat b) : a = b := by
  have := congrArg Int32.toNatClampNeg h; rwa [cl ha, cl hb] at this
def SV (Z : State) (h : Heap) (N : Nat) (a : Addr) (cs : List Int32) : Prop := ∃ b k, a < N ∧ b < N ∧ Exa Z h a "java/lang/String" ∧ Fld Z h a "java/lang/String" "coder" "B" (.int 0) ∧ Fld Z h a "java/lang/String" "value" "[B" (.ref b) ∧ Arv Z h b k .byte (Int32.ofNat cs.length) (cs.map fun c => Value.int (byt c)) (.int 0)
theorem SV.ext {Z : State} {h h' : Heap} {N : Nat} {a : Addr} {cs : List Int32} (F : SV Z h N a cs) (E : Ext h h') : SV Z h' N a cs := by
  obtain ⟨b, k, h1, h2, h3, h4, h5, h6⟩ := F; exact ⟨b, k, h1, h2, h3.ext E, h4.ext E, h5.ext E, h6.ext E⟩
theorem SV.keep {Z : State} {h h' : Heap} {N : Nat} {a : Addr} {cs : List Int32} {ws : List Addr} (F : SV Z h N a cs) (K : Keep h h' ws) (q : ∀ x ∈ ws, N ≤ x) : SV Z h' N a cs := by
  obtain ⟨b, k, h1, h2, h3, h4, h5, h6⟩ := F
  have na : a ∉ ws := fun z => absurd (q a z) (Nat.not_le.mpr h1)
  have nb : b ∉ ws := fun z => absurd (q b z) (Nat.not_le.mpr h2)
  exact ⟨b, k, h1, h2, h3.keep K, h4.keep K na, h5.keep K na, h6.keep K nb⟩
theorem SV.wr {Z : State} {h h' : Heap} {N : Nat} {a x : Addr} {cs : List Int32} {sl : Nat} {v : Value} (F : SV Z h N a cs) (W : Wr h h' x sl v) (q : N ≤ x) : SV Z h' N a cs := F.keep (Keep.of_wr W) (allS q all0)
theorem SV.mono {Z : State} {h : Heap} {N M : Nat} {a : Addr} {cs : List Int32} (F : SV Z h N a cs) (q : N ≤ M) : SV Z h M a cs := by
  obtain ⟨b, k, h1, h2, r⟩ := F; exact ⟨b, k, Nat.lt_of_lt_of_le h1 q, Nat.lt_of_lt_of_le h2 q, r⟩
theorem SV.exa {Z : State} {h : Heap} {N : Nat} {a : Addr} {cs : List Int32} (F : SV Z h N a cs) : Exa Z h a "java/lang/String" := by obtain ⟨b, k, h1, h2, h3, -⟩ := F; exact h3
theorem SV.lt {Z : State} {h : Heap} {N : Nat} {a : Addr} {cs : List Int32} (F : SV Z h N a cs) : a < N := by obtain ⟨b, k, h1, -⟩ := F; exact h1
theorem o_extKeep {h0 h1 h : Heap} {ws : List Addr} (E : Ext h0 h1) (K : Keep h1 h ws) (q : ∀ x ∈ ws, h0.size ≤ x) : Ext h0 h :=
  ⟨Nat.le_trans E.1 K.1, fun a c hc => K.2.1 a c (E.2 a c hc) fun z => absurd (Array.getElem?_eq_some_iff.mp hc).1 (Nat.not_lt.mpr (q a z))⟩
theorem o_ext {h0 h1 h2 : Heap} (E : Ext h0 h1) (E' : Ext h1 h2) : Ext h0 h2 := ⟨Nat.le_trans E.1 E'.1, fun a c hc => E'.2 a c (E.2 a c hc)⟩
theorem o_kext {h0 h1 h : Heap} {ws : List Addr} (E : Ext h0 h1) (K : Keep h1 h ws) : Keep h0 h ws := (((Keep.refl h0 ws).ext E).trans K fun x hx => Or.inl hx)
def bv (cs : List Int32) (j : Nat) : List Value := (cs.take j).map (fun c => Value.int (byt c)) ++ List.replicate (cs.length - j) (.int 0)
theorem bv_len (cs : List Int32) {j : Nat} (hj : j ≤ cs.length) : (bv cs j).length = cs.length := by simp [bv]; omega
theorem bv_set {cs : List Int32} {j : Nat} {c : Int32} (hc : cs[j]? = some c) : (bv cs j).set j (.int (byt c)) = bv cs (j + 1) := by
  obtain ⟨hj, -⟩ := List.getElem?_eq_some_iff.mp hc
  have e : List.replicate (cs.length - j) (Value.int 0) = .int 0 :: List.replicate (cs.length - (j + 1)) (.int 0) := by
    rw [show cs.length - j = (cs.length - (j + 1)) + 1 by omega, List.replicate_succ]
  have el : ((cs.take j).map fun c => Value.int (byt c)).length = j := by simp; omega
  unfold bv
  rw [e, List.set_append_right _ _ (by omega), el, Nat.sub_self, List.set_cons_zero, List.take_add_one, hc]
  simp
theorem bv_end (cs : List Int32) : bv cs cs.length = cs.map fun c => Value.int (byt c) := by simp [bv]
theorem cs_get {cs : List Int32} {j : Nat} {c : Int32} (hc : cs[j]? = some c) (d : Value) : (cs.map Value.int).getD j d = .int c := by
  rw [List.getD_eq_getElem?_getD, List.getElem?_map, hc]; rfl
theorem bs_get {cs : List Int32} {j : Nat} {c : Int32} (hc : cs[j]? = some c) (d : Value) : (cs.map fun c => Value.int (byt c)).getD j d = .int (byt c) := by
  rw [List.getD_eq_getElem?_getD, List.getElem?_map, hc]; rfl
theorem nar_ch {c : Int32} (h : ¬ c < 0 ∧ ¬ (255 : Int32) < c) : nar .char c = c := by
  rw [o_eq]; have q := c_i2c c
  have h1 : ¬ c.toInt < (0 : Int32).toInt := fun z => h.1 (o_lt.mpr z)
  have h2 : ¬ (255 : Int32).toInt < c.toInt := fun z => h.2 (o_lt.mpr z)
  have e1 : (0 : Int32).toInt = 0 := rfl
  have e2 : (255 : Int32).toInt = 255 := rfl
  rw [e1] at h1; rw [e2] at h2
  show c.toUInt32.toUInt16.toUInt32.toInt32.toInt = _; omega
theorem r_and (x : Int32) : ¬ (x &&& 255) < 0 ∧ ¬ (255 : Int32) < (x &&& 255) := by
  have h1 := c_and x 255 (by decide)
  have e2 : (255 : Int32).toInt = 255 := rfl
  have e1 : (0 : Int32).toInt = 0 := rfl
  rw [o_lt, o_lt, e1, e2]; rw [e2] at h1; omega
theorem r_nat {c : Int32} : (¬ c < 0 ∧ ¬ (255 : Int32) < c) ↔ c.toBitVec.toNat < 256 := by
  have e2 : (255 : Int32).toInt = 255 := rfl
  have e1 : (0 : Int32).toInt = 0 := rfl
  rw [o_lt, o_lt, e1, e2]
  have q : c.toInt = c.toBitVec.toInt := rfl
  rw [q, BitVec.toInt_eq_toNat_cond]
  have := c.toBitVec.isLt
  split <;> omega
theorem r_xor {x y : Int32} (hx : ¬ x < 0 ∧ ¬ (255 : Int32) < x) (hy : ¬ y < 0 ∧ ¬ (255 : Int32) < y) : ¬ (x ^^^ y) < 0 ∧ ¬ (255 : Int32) < (x ^^^ y) := by
  rw [r_nat] at *
  rw [Int32.toBitVec_xor, BitVec.toNat_xor]
  exact Nat.xor_lt_two_pow (n := 8) hx hy
theorem i2c_ch {c : Int32} (h : ¬ c < 0 ∧ ¬ (255 : Int32) < c) : c.toUInt32.toUInt16.toUInt32.toInt32 = c := nar_ch h
def EL1 : List (String × Nat) := [("com/example/typeloom/typeloom/Problem", 20), ("com/example/typeloom/typeloom/Problem", 29), ("com/example/typeloom/typeloom/Problem", 34), ("com/example/typeloom/typeloom/Problem", 40), ("com/example/typeloom/typeloom/ProblemToStringPinLaw", 32), ("java/lang/String", 7)]
def OG (Z : State) (a0 : Array Value) : Prop := (∀ d ∈ tables_1, d.before a0 Z = true) ∧ EW Z a0 EL1 ∧ (∃ cmp : Int32, Sta Z Z.heap "java/lang/String" "COMPACT_STRINGS" "Z" (.int cmp) ∧ ¬ cmp = 0) ∧ (∃ fm : Value, fm.isRef = true ∧ Sta Z Z.heap "jdk/internal/util/Preconditions" "SIOOBE_FORMATTER" "Ljava/util/function/BiFunction;" fm)
theorem o_wS {Z : State} {a0 : Array Value} (hw : ∀ d ∈ tables_1, d.before a0 Z = true) : ∀ d ∈ Bundle.stringAtoms, d.before a0 Z = true := by
  intro d hd
  simp only [Bundle.stringAtoms, List.mem_cons, List.not_mem_nil, or_false] at hd
  rcases hd with rfl | rfl | rfl | rfl | rfl | rfl | rfl
  · exact (hw _ (List.mem_of_getElem? (i := 6) rfl))
  · exact (hw _ (List.mem_of_getElem? (i := 5) rfl))
  · exact (hw _ (List.mem_of_getElem? (i := 19) rfl))
  · exact (hw _ (List.mem_of_getElem? (i := 20) rfl))
  · exact (hw _ (List.mem_of_getElem? (i := 21) rfl))
  · exact (hw _ (List.mem_of_getElem? (i := 22) rfl))
  · exact (hw _ (List.mem_of_getElem? (i := 23) rfl))
def icB : OInfo := ("java/lang/StringUTF16", jdk_52_method_21_code, 7, (some .int), "compress", ({ frames := 0, cells := 0, slots := 0, locals := 0 } : Room))
theorem efcB (x0 : Addr) (x1 : Int32) (x2 : Addr) (x3 : Int32) (x4 : Int32) (m : MethodId) : entryFrame m #[(.ref x0), (.int x1), (.ref x2), (.int x3), (.int x4)] 7 = mkF m 0 #[.val (.ref x0), .val (.int x1), .val (.ref x2), .val (.int x3), .val (.int x4), .unset, .unset] [] := by first | (simp [entryFrame, mkF, argsToLocals, Value.category]; done) | rfl
theorem pdcB : parseMethodDescriptor "([CI[BII)I" = some ⟨[(.array .char), .int, (.array .byte), .int, .int], some .int⟩ := by decide +kernel
theorem pncB : plainFor (⟨"java/lang/StringUTF16", "compress", "([CI[BII)I"⟩ : MethodName) = true := by decide +kernel
theorem dcB_0 : decode jdk_52_method_21_code 0 = .ok (.iconst 0, 1) := by decide +kernel
theorem dcB_1 : decode jdk_52_method_21_code 1 = .ok (.istore 5, 2) := by decide +kernel
theorem dcB_3 : decode jdk_52_method_21_code 3 = .ok (.iload 5, 2) := by decide +kernel
theorem dcB_5 : decode jdk_52_method_21_code 5 = .ok (.iload 4, 2) := by decide +kernel
theorem dcB_7 : decode jdk_52_method_21_code 7 = .ok (.if_icmp .ge 37, 3) := by decide +kernel
theorem dcB_10 : decode jdk_52_method_21_code 10 = .ok (.aload_n 0, 1) := by decide +kernel
theorem dcB_11 : decode jdk_52_method_21_code 11 = .ok (.iload_n 1, 1) := by decide +kernel
theorem dcB_12 : decode jdk_52_method_21_code 12 = .ok (.caload, 1) := by decide +kernel
theorem dcB_13 : decode jdk_52_method_21_code 13 = .ok (.istore 6, 2) := by decide +kernel
theorem dcB_15 : decode jdk_52_method_21_code 15 = .ok (.iload 6, 2) := by decide +kernel
theorem dcB_17 : decode jdk_52_method_21_code 17 = .ok (.sipush 255, 3) := by decide +kernel
theorem dcB_20 : decode jdk_52_method_21_code 20 = .ok (.if_icmp .le 6, 3) := by decide +kernel
theorem dcB_26 : decode jdk_52_method_21_code 26 = .ok (.aload_n 2, 1) := by decide +kernel
theorem dcB_27 : decode jdk_52_method_21_code 27 = .ok (.iload_n 3, 1) := by decide +kernel
theorem dcB_28 : decode jdk_52_method_21_code 28 = .ok (.iload 6, 2) := by decide +kernel
theorem dcB_30 : decode jdk_52_method_21_code 30 = .ok (.i2b, 1) := by decide +kernel
theorem dcB_31 : decode jdk_52_method_21_code 31 = .ok (.bastore, 1) := by decide +kernel
theorem dcB_32 : decode jdk_52_method_21_code 32 = .ok (.iinc 1 1, 3) := by decide +kernel
theorem dcB_35 : decode jdk_52_method_21_code 35 = .ok (.iinc 3 1, 3) := by decide +kernel
theorem dcB_38 : decode jdk_52_method_21_code 38 = .ok (.iinc 5 1, 3) := by decide +kernel
theorem dcB_41 : decode jdk_52_method_21_code 41 = .ok (.goto (-38), 3) := by decide +kernel
theorem dcB_44 : decode jdk_52_method_21_code 44 = .ok (.iload 4, 2) := by decide +kernel
theorem dcB_46 : decode jdk_52_method_21_code 46 = .ok (.ireturn, 1) := by decide +kernel
set_option maxRecDepth 65536 in
set_option maxHeartbeats 4000000 in
theorem cBloop {C : OCtx} {Z : State} {n0 : Nat} {ws : List Addr} {Q : Option Value → Heap → Prop} {h0 : Heap} {c d : Addr} {kc kd : ClassId} {cs : List Int32} {dv : Value} (hb : cs.length < 2147483648) (hch : Ch cs) (gd : n0 ≤ d) (hd : d ∈ ws) (hcd : c ≠ d)
    (fin : ∀ h, Keep h0 h [d] → Arv Z h d kd .byte (Int32.ofNat cs.length) (cs.map fun c => Value.int (byt c)) (.int 0) → Q (some (.int (Int32.ofNat cs.length))) h) (k : Nat) :
    ∀ (h : Heap) (j : Nat) (s6 : Slot), j ≤ cs.length → cs.length - j = k → Keep h0 h [d] → Arv Z h c kc .char (Int32.ofNat cs.length) (cs.map .int) dv → Arv Z h d kd .byte (Int32.ofNat cs.length) (bv cs j) (.int 0) → One s6 →
    oRun C Z n0 icB EL1 ws Q h 0 0 (mkF C.m 3 #[.val (.ref c), .val (.int (Int32.ofNat j)), .val (.ref d), .val (.int (Int32.ofNat j)), .val (.int (Int32.ofNat cs.length)), .val (.int (Int32.ofNat j)), s6] []) := by
  induction k using Nat.strongRecOn with
  | _ k ih =>
  intro h j s6 hj hk K A D hs6
  subst hk
  refine s_iload (pc' := 5) dcB_3 rfl rfl ?_
  refine s_iload (pc' := 7) dcB_5 rfl rfl ?_
  refine s_icmp (pc' := 10) (pc'' := 44) dcB_7 rfl (by decide) rfl (fun hc7 => ?_) (fun hc7 => ?_)
  · replace hc7 := b_ge hc7
    obtain rfl : j = cs.length := by
      by_cases q : j < cs.length
      · exact absurd (lt' hb q) hc7
      · omega
    rw [bv_end] at D
    refine s_iload (pc' := 46) dcB_44 rfl rfl ?_
    exact s_iret rfl dcB_46 (by decide) (by decide) (fin _ K D)
  · replace hc7 := b_geF hc7
    have hj2 : j < cs.length := by
      by_cases q : j < cs.length
      · exact q
      · exact absurd hc7 (nlt' (by omega) (by omega))
    obtain ⟨z, hz⟩ : ∃ z, cs[j]? = some z := ⟨cs[j], List.getElem?_eq_getElem hj2⟩
    have hzr := hch z (List.mem_of_getElem? hz)
    refine s_aloadN (pc' := 11) dcB_10 rfl rfl rfl ?_
    refine s_iloadN (pc' := 12) dcB_11 rfl rfl ?_
    refine s_caload A (nn (by omega)) (lt' hb hj2) (v := .int z) (by rw [cl (by omega)]; exact cs_get hz _) (pc' := 13) dcB_12 rfl ?_
    refine s_istore (pc' := 15) dcB_13 rfl (o_st rfl (by first | exact One.u | exact One.val rfl | assumption) rfl) ?_
    dsimp only [List.set_cons_succ, List.set_cons_zero]
    refine s_iload (pc' := 17) dcB_15 rfl rfl ?_
    refine s_sipush (x := (255 : Int32)) (pc' := 20) dcB_17 rfl rfl ?_
    refine s_icmp (pc' := 23) (pc'' := 26) dcB_20 rfl (by decide) rfl (fun hc20 => ?_) (fun hc20 => ?_)
    · replace hc20 := b_le hc20
      refine s_aloadN (pc' := 27) dcB_26 rfl rfl rfl ?_
      refine s_iloadN (pc' := 28) dcB_27 rfl rfl ?_
      refine s_iload (pc' := 30) dcB_28 rfl rfl ?_
      refine s_i2b (pc' := 31) dcB_30 rfl ?_
      refine s_bastore D gd hd (nn (by omega)) (lt' hb hj2) j (cl (by omega)) (by rw [bv_len _ hj]; omega) (pc' := 32) dcB_31 rfl (fun h31 W31 D31 => ?_)
      rw [byt_byt, bv_set hz] at D31
      refine s_iinc (y := (1 : Int32)) (pc' := 35) dcB_32 rfl rfl rfl (o_st rfl (by first | exact One.u | exact One.val rfl | assumption) rfl) ?_
      dsimp only [List.set_cons_succ, List.set_cons_zero]
      rw [n_succ]
      refine s_iinc (y := (1 : Int32)) (pc' := 38) dcB_35 rfl rfl rfl (o_st rfl (by first | exact One.u | exact One.val rfl | assumption) rfl) ?_
      dsimp only [List.set_cons_succ, List.set_cons_zero]
      rw [n_succ]
      refine s_iinc (y := (1 : Int32)) (pc' := 41) dcB_38 rfl rfl rfl (o_st rfl (by first | exact One.u | exact One.val rfl | assumption) rfl) ?_
      dsimp only [List.set_cons_succ, List.set_cons_zero]
      rw [n_succ]
      refine s_goto (pc' := 3) dcB_41 (by decide) rfl ?_
      exact ih (cs.length - (j + 1)) (by omega) h31 (j + 1) _ (by omega) rfl (K.wr W31 (Or.inl (List.mem_cons_self ..))) (A.other W31 hcd) D31 (One.val rfl)
    · replace hc20 := b_leF hc20
      exact absurd hc20 hzr.2
set_option maxRecDepth 65536 in
set_option maxHeartbeats 4000000 in
theorem rmcB (l : Launch) {Z : State} {a0 : Array Value} (G : OG Z a0) (n0 : Nat) (c d : Addr) (kc kd : ClassId) (cs : List Int32) (dv : Value) (h0 : Heap) (hb : cs.length < 2147483648) (hch : Ch cs) (gd : n0 ≤ d) (hcd : c ≠ d) (A : Arv Z h0 c kc .char (Int32.ofNat cs.length) (cs.map .int) dv) (D : Arv Z h0 d kd .byte (Int32.ofNat cs.length) (List.replicate cs.length (.int 0)) (.int 0)) : oCon l Z n0 EL1 [d] (⟨"java/lang/StringUTF16", "compress", "([CI[BII)I"⟩ : MethodName) icB #[.ref c, .int 0, .ref d, .int 0, .int (Int32.ofNat cs.length)] h0 (fun v h => v = some (.int (Int32.ofNat cs.length)) ∧ Keep h0 h [d] ∧ Arv Z h d kd .byte (Int32.ofNat cs.length) (cs.map fun c => Value.int (byt c)) (.int 0)) := by
  obtain ⟨hw, hEL, ⟨cmp, hC, hc0⟩, ⟨fm, hfm, hF⟩⟩ := id G
  refine oCon.mk hEL pncB rfl rfl (efcB c 0 d 0 _) fun C hCl => ?_
  refine s_iconst (x := (0 : Int32)) (pc' := 1) dcB_0 rfl rfl ?_
  refine s_istore (pc' := 3) dcB_1 rfl (o_st rfl (by first | exact One.u | exact One.val rfl | assumption) rfl) ?_
  dsimp only [List.set_cons_succ, List.set_cons_zero]
  exact cBloop hb hch gd (List.mem_cons_self ..) hcd (fun h K D => ⟨rfl, K, D⟩) cs.length h0 0 _ (Nat.zero_le _) rfl (Keep.refl _ _) A (by simpa [bv] using D) One.u
def icA : OInfo := ("java/lang/StringUTF16", jdk_52_method_16_code, 6, (some (.array .byte)), "compress", ({ frames := 1, cells := 1, slots := 3, locals := 18 } : Room))
theorem efcA (x0 : Addr) (x1 : Int32) (x2 : Int32) (m : MethodId) : entryFrame m #[(.ref x0), (.int x1), (.int x2)] 6 = mkF m 0 #[.val (.ref x0), .val (.int x1), .val (.int x2), .unset, .unset, .unset] [] := by first | (simp [entryFrame, mkF, argsToLocals, Value.category]; done) | rfl
theorem pdcA : parseMethodDescriptor "([CII)[B" = some ⟨[(.array .char), .int, .int], some (.array .byte)⟩ := by decide +kernel
theorem pncA : plainFor (⟨"java/lang/StringUTF16", "compress", "([CII)[B"⟩ : MethodName) = true := by decide +kernel
theorem dcA_0 : decode jdk_52_method_16_code 0 = .ok (.iload_n 2, 1) := by decide +kernel
theorem dcA_1 : decode jdk_52_method_16_code 1 = .ok (.newarray .byte, 2) := by decide +kernel
theorem dcA_3 : decode jdk_52_method_16_code 3 = .ok (.astore_n 3, 1) := by decide +kernel
theorem dcA_4 : decode jdk_52_method_16_code 4 = .ok (.aload_n 0, 1) := by decide +kernel
theorem dcA_5 : decode jdk_52_method_16_code 5 = .ok (.iload_n 1, 1) := by decide +kernel
theorem dcA_6 : decode jdk_52_method_16_code 6 = .ok (.aload_n 3, 1) := by decide +kernel
theorem dcA_7 : decode jdk_52_method_16_code 7 = .ok (.iconst 0, 1) := by decide +kernel
theorem dcA_8 : decode jdk_52_method_16_code 8 = .ok (.iload_n 2, 1) := by decide +kernel
theorem dcA_9 : decode jdk_52_method_16_code 9 = .ok (.invokestatic 115, 3) := by decide +kernel
theorem dcA_12 : decode jdk_52_method_16_code 12 = .ok (.istore 4, 2) := by decide +kernel
theorem dcA_14 : decode jdk_52_method_16_code 14 = .ok (.iload 4, 2) := by decide +kernel
theorem dcA_16 : decode jdk_52_method_16_code 16 = .ok (.iload_n 2, 1) := by decide +kernel
theorem dcA_17 : decode jdk_52_method_16_code 17 = .ok (.if_icmp .eq 40, 3) := by decide +kernel
theorem dcA_57 : decode jdk_52_method_16_code 57 = .ok (.aload_n 3, 1) := by decide +kernel
theorem dcA_58 : decode jdk_52_method_16_code 58 = .ok (.areturn, 1) := by decide +kernel
set_option maxRecDepth 65536 in
set_option maxHeartbeats 4000000 in
theorem rmcA (l : Launch) {Z : State} {a0 : Array Value} (G : OG Z a0) (n0 : Nat) (c : Addr) (kc : ClassId) (cs : List Int32) (dv : Value) (h0 : Heap) (hcap : cs.length ≤ 3) (hch : Ch cs) (A : Arv Z h0 c kc .char (Int32.ofNat cs.length) (cs.map .int) dv) : oCon l Z n0 EL1 [] (⟨"java/lang/StringUTF16", "compress", "([CII)[B"⟩ : MethodName) icA #[.ref c, .int 0, .int (Int32.ofNat cs.length)] h0 (fun v h => ∃ d k, v = some (.ref d) ∧ h0.size ≤ d ∧ Ext h0 h ∧ Arv Z h d k .byte (Int32.ofNat cs.length) (cs.map fun c => Value.int (byt c)) (.int 0)) := by
  obtain ⟨hw, hEL, ⟨cmp, hC, hc0⟩, ⟨fm, hfm, hF⟩⟩ := id G
  refine oCon.mk hEL pncA rfl rfl (efcA c 0 _) fun C hCl => ?_
  refine s_iloadN (pc' := 1) dcA_0 rfl rfl ?_
  refine s_newA 3 (hw _ (List.mem_of_getElem? (i := 19) rfl)) (pc' := 3) dcA_1 rfl (nn (by omega)) (by rw [cl (by omega)]; exact hcap) (by decide) (Nat.le_of_ble_eq_true rfl) (Nat.le_of_ble_eq_true rfl) (fun h1 b1 k1 g1 nb1 E1 A1 => ?_)
  have hcd : c ≠ b1 := o_fresh A.lt g1
  refine s_astoreN (kn := 3) rfl (pc' := 4) dcA_3 rfl rfl (o_st rfl (by first | exact One.u | exact One.val rfl | assumption) rfl) ?_
  dsimp only [List.set_cons_succ, List.set_cons_zero]
  refine s_aloadN (pc' := 5) dcA_4 rfl rfl rfl ?_
  refine s_iloadN (pc' := 6) dcA_5 rfl rfl ?_
  refine s_aloadN (pc' := 7) dcA_6 rfl rfl rfl ?_
  refine s_iconst (x := (0 : Int32)) (pc' := 8) dcA_7 rfl rfl ?_
  refine s_iloadN (pc' := 9) dcA_8 rfl rfl ?_
  refine s_callS5 (rmcB C.l G n0 c b1 kc k1 cs dv h1 (by omega) hch nb1 hcd (A.ext E1) (by have q := o_padTo A1 cs.length; rw [List.nil_append] at q; exact q)) (by simp) (hw _ (List.mem_of_getElem? (i := 229) rfl)) (hw _ (List.mem_of_getElem? (i := 230) rfl)) (hw _ (List.mem_of_getElem? (i := 227) rfl)) (hw _ (List.mem_of_getElem? (i := 231) rfl)) (by decide) (o_len pdcB rfl) rfl (pc' := 12) dcA_9 rfl (Nat.le_of_ble_eq_true rfl) (Nat.le_of_ble_eq_true rfl) (Nat.le_of_ble_eq_true rfl) (Nat.le_of_ble_eq_true rfl) (fun v9 h9 hQ9 => ?_)
  obtain ⟨rfl, K9, D9⟩ := hQ9
  dsimp only [oPush]
  refine s_istore (pc' := 14) dcA_12 rfl (o_st rfl (by first | exact One.u | exact One.val rfl | assumption) rfl) ?_
  dsimp only [List.set_cons_succ, List.set_cons_zero]
  refine s_iload (pc' := 16) dcA_14 rfl rfl ?_
  refine s_iloadN (pc' := 17) dcA_16 rfl rfl ?_
  refine s_icmp (pc' := 20) (pc'' := 57) dcA_17 rfl (by decide) rfl (fun hc17 => ?_) (fun hc17 => ?_)
  · replace hc17 := b_eq hc17
    refine s_aloadN (pc' := 58) dcA_57 rfl rfl rfl ?_
    exact s_aret rfl rfl rfl dcA_58 (by decide) (by decide) ⟨b1, k1, rfl, Nat.le_of_eq g1.symm, o_extKeep E1 K9 (allS (Nat.le_of_eq g1.symm) all0), D9⟩
  · replace hc17 := b_eqF hc17
    exact absurd rfl hc17
def icF : OInfo := ("java/lang/StringUTF16", jdk_52_method_15_code, 2, (some .byte), "coderFromArrayLen", ({ frames := 0, cells := 0, slots := 0, locals := 0 } : Room))
theorem efcF (x0 : Addr) (x1 : Int32) (m : MethodId) : entryFrame m #[(.ref x0), (.int x1)] 2 = mkF m 0 #[.val (.ref x0), .val (.int x1)] [] := by first | (simp [entryFrame, mkF, argsToLocals, Value.category]; done) | rfl
theorem pdcF : parseMethodDescriptor "([BI)B" = some ⟨[(.array .byte), .int], some .byte⟩ := by decide +kernel
theorem pncF : plainFor (⟨"java/lang/StringUTF16", "coderFromArrayLen", "([BI)B"⟩ : MethodName) = true := by decide +kernel
theorem dcF_0 : decode jdk_52_method_15_code 0 = .ok (.iload_n 1, 1) := by decide +kernel
theorem dcF_1 : decode jdk_52_method_15_code 1 = .ok (.aload_n 0, 1) := by decide +kernel
theorem dcF_2 : decode jdk_52_method_15_code 2 = .ok (.arraylength, 1) := by decide +kernel
theorem dcF_3 : decode jdk_52_method_15_code 3 = .ok (.isub, 1) := by decide +kernel
theorem dcF_4 : decode jdk_52_method_15_code 4 = .ok (.bipush 31, 2) := by decide +kernel
theorem dcF_6 : decode jdk_52_method_15_code 6 = .ok (.iushr, 1) := by decide +kernel
theorem dcF_7 : decode jdk_52_method_15_code 7 = .ok (.i2b, 1) := by decide +kernel
theorem dcF_8 : decode jdk_52_method_15_code 8 = .ok (.ireturn, 1) := by decide +kernel
set_option maxRecDepth 65536 in
set_option maxHeartbeats 4000000 in
theorem rmcF (l : Launch) {Z : State} {a0 : Array Value} (G : OG Z a0) (n0 : Nat) (d : Addr) (k : ClassId) (n : Int32) (vs : List Value) (dv : Value) (h0 : Heap) (A : Arv Z h0 d k .byte n vs dv) : oCon l Z n0 EL1 [] (⟨"java/lang/StringUTF16", "coderFromArrayLen", "([BI)B"⟩ : MethodName) icF #[.ref d, .int n] h0 (fun v h => v = some (.int 0) ∧ h = h0) := by
  obtain ⟨hw, hEL, ⟨cmp, hC, hc0⟩, ⟨fm, hfm, hF⟩⟩ := id G
  refine oCon.mk hEL pncF rfl rfl (efcF d n) fun C hCl => ?_
  refine s_iloadN (pc' := 1) dcF_0 rfl rfl ?_
  refine s_aloadN (pc' := 2) dcF_1 rfl rfl rfl ?_
  refine s_alen A (pc' := 3) dcF_2 rfl ?_
  refine s_isub (pc' := 4) dcF_3 rfl ?_
  refine s_bipush (x := (31 : Int32)) (pc' := 6) dcF_4 rfl rfl ?_
  refine s_iushr (pc' := 7) dcF_6 rfl ?_
  refine s_i2b (pc' := 8) dcF_7 rfl ?_
  exact s_nret (t := .byte) rfl (by simp) dcF_8 (by decide) (by decide) ⟨by rw [Int32.sub_self]; rfl, rfl⟩
def isV : OInfo := ("java/lang/String", jdk_42_method_149_code, 6, none, "<init>", ({ frames := 2, cells := 4, slots := 8, locals := 47 } : Room))
theorem pdsV : parseMethodDescriptor "([CIILjava/lang/Void;)V" = some ⟨[(.array .char), .int, .int, (.object "java/lang/Void")], none⟩ := by decide +kernel
theorem pnsV : plainFor (⟨"java/lang/String", "<init>", "([CIILjava/lang/Void;)V"⟩ : MethodName) = true := by decide +kernel
theorem efsV (x0 x1 : Addr) (x2 x3 : Int32) (m : MethodId) : entryFrame m #[(.ref x0), (.ref x1), (.int x2), (.int x3), .null] 6 = mkF m 0 #[.val (.ref x0), .val (.ref x1), .val (.int x2), .val (.int x3), .val .null, .unset] [] := by first | (simp [entryFrame, mkF, argsToLocals, Value.category]; done) | rfl
theorem dsV_0 : decode jdk_42_method_149_code 0 = .ok (.aload_n 0, 1) := by decide +kernel
theorem dsV_1 : decode jdk_42_method_149_code 1 = .ok (.invokespecial 1, 3) := by decide +kernel
theorem dsV_4 : decode jdk_42_method_149_code 4 = .ok (.iload_n 3, 1) := by decide +kernel
theorem dsV_5 : decode jdk_42_method_149_code 5 = .ok (.ifCond .ne 22, 3) := by decide +kernel
theorem dsV_8 : decode jdk_42_method_149_code 8 = .ok (.aload_n 0, 1) := by decide +kernel
theorem dsV_9 : decode jdk_42_method_149_code 9 = .ok (.ldc 7, 2) := by decide +kernel
theorem dsV_11 : decode jdk_42_method_149_code 11 = .ok (.getfield 9, 3) := by decide +kernel
theorem dsV_14 : decode jdk_42_method_149_code 14 = .ok (.putfield 9, 3) := by decide +kernel
theorem dsV_17 : decode jdk_42_method_149_code 17 = .ok (.aload_n 0, 1) := by decide +kernel
theorem dsV_18 : decode jdk_42_method_149_code 18 = .ok (.ldc 7, 2) := by decide +kernel
theorem dsV_20 : decode jdk_42_method_149_code 20 = .ok (.getfield 15, 3) := by decide +kernel
theorem dsV_23 : decode jdk_42_method_149_code 23 = .ok (.putfield 15, 3) := by decide +kernel
theorem dsV_26 : decode jdk_42_method_149_code 26 = .ok (.return_, 1) := by decide +kernel
theorem dsV_27 : decode jdk_42_method_149_code 27 = .ok (.getstatic 38, 3) := by decide +kernel
theorem dsV_30 : decode jdk_42_method_149_code 30 = .ok (.ifCond .eq 28, 3) := by decide +kernel
theorem dsV_33 : decode jdk_42_method_149_code 33 = .ok (.aload_n 1, 1) := by decide +kernel
theorem dsV_34 : decode jdk_42_method_149_code 34 = .ok (.iload_n 2, 1) := by decide +kernel
theorem dsV_35 : decode jdk_42_method_149_code 35 = .ok (.iload_n 3, 1) := by decide +kernel
theorem dsV_36 : decode jdk_42_method_149_code 36 = .ok (.invokestatic 177, 3) := by decide +kernel
theorem dsV_39 : decode jdk_42_method_149_code 39 = .ok (.astore 5, 2) := by decide +kernel
theorem dsV_41 : decode jdk_42_method_149_code 41 = .ok (.aload_n 0, 1) := by decide +kernel
theorem dsV_42 : decode jdk_42_method_149_code 42 = .ok (.aload 5, 2) := by decide +kernel
theorem dsV_44 : decode jdk_42_method_149_code 44 = .ok (.iload_n 3, 1) := by decide +kernel
theorem dsV_45 : decode jdk_42_method_149_code 45 = .ok (.invokestatic 47, 3) := by decide +kernel
theorem dsV_48 : decode jdk_42_method_149_code 48 = .ok (.putfield 15, 3) := by decide +kernel
theorem dsV_51 : decode jdk_42_method_149_code 51 = .ok (.aload_n 0, 1) := by decide +kernel
theorem dsV_52 : decode jdk_42_method_149_code 52 = .ok (.aload 5, 2) := by decide +kernel
theorem dsV_54 : decode jdk_42_method_149_code 54 = .ok (.putfield 9, 3) := by decide +kernel
theorem dsV_57 : decode jdk_42_method_149_code 57 = .ok (.return_, 1) := by decide +kernel
set_option maxRecDepth 65536 in
set_option maxHeartbeats 4000000 in
theorem rmsV (l : Launch) {Z : State} {a0 : Array Value} (G : OG Z a0) (n0 : Nat) (a c : Addr) (kc : ClassId) (cs : List Int32) (dv : Value) (h0 : Heap) (hcap : cs.length ≤ 3) (hch : Ch cs) (A : Arv Z h0 c kc .char (Int32.ofNat cs.length) (cs.map .int) dv) (E : Exa Z h0 a "java/lang/String") (F1 : Fld Z h0 a "java/lang/String" "value" "[B" .null) (F2 : Fld Z h0 a "java/lang/String" "coder" "B" (.int 0)) (ga : n0 ≤ a) : oCon l Z n0 EL1 [a] (⟨"java/lang/String", "<init>", "([CIILjava/lang/Void;)V"⟩ : MethodName) isV #[.ref a, .ref c, .int 0, .int (Int32.ofNat cs.length), .null] h0 (fun v h => v = none ∧ Keep h0 h [a] ∧ SV Z h h.size a cs) := by
  obtain ⟨hw, hEL, ⟨cmp, hC, hc0⟩, ⟨fm, hfm, hF⟩⟩ := id G
  have ha : a ∈ [a] := List.mem_cons_self ..
  refine oCon.mk hEL pnsV rfl rfl (efsV a c 0 _) fun C hCl => ?_
  refine s_aloadN (pc' := 1) dsV_0 rfl rfl rfl ?_
  refine s_initO (hw _ (List.mem_of_getElem? (i := 15) rfl)) (hw _ (List.mem_of_getElem? (i := 16) rfl)) (hw _ (List.mem_of_getElem? (i := 17) rfl)) rfl (pc' := 4) dsV_1 rfl (Nat.le_of_ble_eq_true rfl) (Nat.le_of_ble_eq_true rfl) ?_
  refine s_iloadN (pc' := 5) dsV_4 rfl rfl ?_
  refine s_if (pc' := 8) (pc'' := 27) dsV_5 rfl (by decide) rfl (fun hc5 => ?_) (fun hc5 => ?_)
  · replace hc5 := b_ne hc5
    refine s_getS hC (hw _ (List.mem_of_getElem? (i := 88) rfl)) Via.refl (pc' := 30) dsV_27 rfl ?_
    refine s_if (pc' := 33) (pc'' := 58) dsV_30 rfl (by decide) rfl (fun hc30 => ?_) (fun hc30 => ?_)
    · replace hc30 := b_eq hc30
      exact absurd hc30 hc0
    · replace hc30 := b_eqF hc30
      refine s_aloadN (pc' := 34) dsV_33 rfl rfl rfl ?_
      refine s_iloadN (pc' := 35) dsV_34 rfl rfl ?_
      refine s_iloadN (pc' := 36) dsV_35 rfl rfl ?_
      refine s_callS3 (rmcA C.l G n0 c kc cs dv h0 hcap hch A) (by simp) (hw _ (List.mem_of_getElem? (i := 225) rfl)) (hw _ (List.mem_of_getElem? (i := 226) rfl)) (hw _ (List.mem_of_getElem? (i := 227) rfl)) (hw _ (List.mem_of_getElem? (i := 228) rfl)) (by decide) (o_len pdcA rfl) rfl (pc' := 39) dsV_36 rfl (Nat.le_of_ble_eq_true rfl) (Nat.le_of_ble_eq_true rfl) (Nat.le_of_ble_eq_true rfl) (Nat.le_of_ble_eq_true rfl) (fun v36 h36 hQ36 => ?_)
      obtain ⟨d, kd, rfl, gd, E36, D36⟩ := hQ36
      dsimp only [oPush]
      have had : a ≠ d := o_fresh' E.lt gd
      refine s_astore (pc' := 41) dsV_39 rfl rfl (o_st rfl (by first | exact One.u | exact One.val rfl | assumption) rfl) ?_
      dsimp only [List.set_cons_succ, List.set_cons_zero]
      refine s_aloadN (pc' := 42) dsV_41 rfl rfl rfl ?_
      refine s_aload (pc' := 44) dsV_42 rfl rfl rfl ?_
      refine s_iloadN (pc' := 45) dsV_44 rfl rfl ?_
      refine s_callS2 (rmcF C.l G n0 d kd _ _ _ h36 D36) (by simp) (hw _ (List.mem_of_getElem? (i := 232) rfl)) (hw _ (List.mem_of_getElem? (i := 233) rfl)) (hw _ (List.mem_of_getElem? (i := 227) rfl)) (hw _ (List.mem_of_getElem? (i := 234) rfl)) (by decide) (o_len pdcF rfl) rfl (pc' := 48) dsV_45 rfl (Nat.le_of_ble_eq_true rfl) (Nat.le_of_ble_eq_true rfl) (Nat.le_of_ble_eq_true rfl) (Nat.le_of_ble_eq_true rfl) (fun v45 h45 hQ45 => ?_)
      obtain ⟨rfl, rfl⟩ := hQ45
      dsimp only [oPush]
      refine s_putF (F2.ext E36) (E.ext E36) ga (by simp) (host := "") (Or.inl (hw _ (List.mem_of_getElem? (i := 25) rfl))) Via.refl (Or.inr ⟨(hw _ (List.mem_of_getElem? (i := 21) rfl)), rfl, rfl⟩) (hw _ (List.mem_of_getElem? (i := 5) rfl)) (ty := .byte) (by decide) rfl rfl (pc' := 51) dsV_48 rfl (fun h48 W48 => ?_)
      refine s_aloadN (pc' := 52) dsV_51 rfl rfl rfl ?_
      refine s_aload (pc' := 54) dsV_52 rfl rfl rfl ?_
      refine s_putF ((F1.ext E36).other W48 (Or.inr (slot_ne (Or.inr (hw _ (List.mem_of_getElem? (i := 20) rfl))) (Or.inr (hw _ (List.mem_of_getElem? (i := 21) rfl))) (by decide) (t := .array .byte) (t' := .byte) (by decide) (by decide)))) ((E.ext E36).wr W48) ga (by simp) (host := "") (Or.inl (hw _ (List.mem_of_getElem? (i := 24) rfl))) Via.refl (Or.inr ⟨(hw _ (List.mem_of_getElem? (i := 20) rfl)), rfl, rfl⟩) (hw _ (List.mem_of_getElem? (i := 5) rfl)) (ty := (.array .byte)) (by decide) rfl rfl (pc' := 57) dsV_54 rfl (fun h54 W54 => ?_)
      refine s_ret rfl dsV_57 (by decide) (by decide) ⟨rfl, ?_, d, kd, ?_, ?_, ?_, ?_, ?_, ?_⟩
      · exact o_kext E36 ((Keep.of_wr W48).wr W54 (Or.inl (List.mem_cons_self ..)))
      · exact (((E.ext E36).wr W48).wr W54).lt
      · exact ((D36.other W48 had.symm).other W54 had.symm).lt
      · exact ((E.ext E36).wr W48).wr W54
      · exact ((F2.ext E36).same W48).other W54 (Or.inr (slot_ne (Or.inr (hw _ (List.mem_of_getElem? (i := 21) rfl))) (Or.inr (hw _ (List.mem_of_getElem? (i := 20) rfl))) (by decide) (t := .byte) (t' := .array .byte) (by decide) (by decide)))
      · exact ((F1.ext E36).other W48 (Or.inr (slot_ne (Or.inr (hw _ (List.mem_of_getElem? (i := 20) rfl))) (Or.inr (hw _ (List.mem_of_getElem? (i := 21) rfl))) (by decide) (t := .array .byte) (t' := .byte) (by decide) (by decide)))).same W54
      · exact (D36.other W48 had.symm).other W54 had.symm
  · replace hc5 := b_neF hc5
    obtain rfl : cs = [] := List.eq_nil_of_length_eq_zero (n_inj (by omega) (by omega) hc5)
    refine s_aloadN (pc' := 9) dsV_8 rfl rfl rfl ?_
    refine s_ldcS 0 (text := "") (vs := []) (z := 0) (hw _ (List.mem_of_getElem? (i := 18) rfl)) (o_wS hw) hEL (by decide) ⟨by simp, by simp⟩ (by decide) rfl (pc' := 11) dsV_9 rfl (by decide) (by decide) (Nat.le_of_ble_eq_true rfl) (Nat.le_of_ble_eq_true rfl) (fun h9 a9 b9 k9 E9 X9 C9 V9 A9 N9 => ?_)
    have n9 := N9 a ha
    refine s_getF V9 (host := "") (Or.inl (hw _ (List.mem_of_getElem? (i := 24) rfl))) Via.refl (pc' := 14) dsV_11 rfl ?_
    refine s_putF (F1.ext E9) (E.ext E9) ga (by simp) (host := "") (Or.inl (hw _ (List.mem_of_getElem? (i := 24) rfl))) Via.refl (Or.inr ⟨(hw _ (List.mem_of_getElem? (i := 20) rfl)), rfl, rfl⟩) (hw _ (List.mem_of_getElem? (i := 5) rfl)) (ty := (.array .byte)) (by decide) rfl rfl (pc' := 17) dsV_14 rfl (fun h14 W14 => ?_)
    refine s_aloadN (pc' := 18) dsV_17 rfl rfl rfl ?_
    refine s_ldcS 0 (text := "") (vs := []) (z := 0) (hw _ (List.mem_of_getElem? (i := 18) rfl)) (o_wS hw) hEL (by decide) ⟨by simp, by simp⟩ (by decide) rfl (pc' := 20) dsV_18 rfl (by decide) (by decide) (Nat.le_of_ble_eq_true rfl) (Nat.le_of_ble_eq_true rfl) (fun h18 a18 b18 k18 E18 X18 C18 V18 A18 N18 => ?_)
    have n18 := N18 a ha
    refine s_getF C18 (host := "") (Or.inl (hw _ (List.mem_of_getElem? (i := 25) rfl))) Via.refl (pc' := 23) dsV_20 rfl ?_
    refine s_putF (((F2.ext E9).other W14 (Or.inr (slot_ne (Or.inr (hw _ (List.mem_of_getElem? (i := 21) rfl))) (Or.inr (hw _ (List.mem_of_getElem? (i := 20) rfl))) (by decide) (t := .byte) (t' := .array .byte) (by decide) (by decide)))).ext E18) (((E.ext E9).wr W14).ext E18) ga (by simp) (host := "") (Or.inl (hw _ (List.mem_of_getElem? (i := 25) rfl))) Via.refl (Or.inr ⟨(hw _ (List.mem_of_getElem? (i := 21) rfl)), rfl, rfl⟩) (hw _ (List.mem_of_getElem? (i := 5) rfl)) (ty := .byte) (by decide) rfl rfl (pc' := 26) dsV_23 rfl (fun h23 W23 => ?_)
    refine s_ret rfl dsV_26 (by decide) (by decide) ⟨rfl, ?_, b9, k9, ?_, ?_, ?_, ?_, ?_, ?_⟩
    · exact (o_kext E9 (((Keep.of_wr W14).ext E18).wr W23 (Or.inl (List.mem_cons_self ..))))
    · exact (((((E.ext E9).wr W14).ext E18).wr W23)).lt
    · exact (((A9.other W14 n9.2.symm).ext E18).other W23 n9.2.symm).lt
    · exact ((((E.ext E9).wr W14).ext E18).wr W23)
    · exact (((F2.ext E9).other W14 (Or.inr (slot_ne (Or.inr (hw _ (List.mem_of_getElem? (i := 21) rfl))) (Or.inr (hw _ (List.mem_of_getElem? (i := 20) rfl))) (by decide) (t := .byte) (t' := .array .byte) (by decide) (by decide)))).ext E18).same W23
    · exact ((((F1.ext E9).same W14).ext E18).other W23 (Or.inr (slot_ne (Or.inr (hw _ (List.mem_of_getElem? (i := 20) rfl))) (Or.inr (hw _ (List.mem_of_getElem? (i := 21) rfl))) (by decide) (t := .array .byte) (t' := .byte) (by decide) (by decide))))
    · exact (((A9.other W14 n9.2.symm).ext E18).other W23 n9.2.symm)
def isC : OInfo := ("java/lang/String", jdk_42_method_3_code, 2, none, "<init>", ({ frames := 3, cells := 4, slots := 8, locals := 64 } : Room))
theorem efsC (x0 : Addr) (x1 : Addr) (m : MethodId) : entryFrame m #[(.ref x0), (.ref x1)] 2 = mkF m 0 #[.val (.ref x0), .val (.ref x1)] [] := by first | (simp [entryFrame, mkF, argsToLocals, Value.category]; done) | rfl
theorem pdsC : parseMethodDescriptor "([C)V" = some ⟨[(.array .char)], none⟩ := by decide +kernel
theorem pnsC : plainFor (⟨"java/lang/String", "<init>", "([C)V"⟩ : MethodName) = true := by decide +kernel
theorem dsC_0 : decode jdk_42_method_3_code 0 = .ok (.aload_n 0, 1) := by decide +kernel
theorem dsC_1 : decode jdk_42_method_3_code 1 = .ok (.aload_n 1, 1) := by decide +kernel
theorem dsC_2 : decode jdk_42_method_3_code 2 = .ok (.iconst 0, 1) := by decide +kernel
theorem dsC_3 : decode jdk_42_method_3_code 3 = .ok (.aload_n 1, 1) := by decide +kernel
theorem dsC_4 : decode jdk_42_method_3_code 4 = .ok (.arraylength, 1) := by decide +kernel
theorem dsC_5 : decode jdk_42_method_3_code 5 = .ok (.aconst_null, 1) := by decide +kernel
theorem dsC_6 : decode jdk_42_method_3_code 6 = .ok (.invokespecial 27, 3) := by decide +kernel
theorem dsC_9 : decode jdk_42_method_3_code 9 = .ok (.return_, 1) := by decide +kernel
set_option maxRecDepth 65536 in
set_option maxHeartbeats 4000000 in
theorem rmsC (l : Launch) {Z : State} {a0 : Array Value} (G : OG Z a0) (n0 : Nat) (a c : Addr) (kc : ClassId) (cs : List Int32) (dv : Value) (h0 : Heap) (hcap : cs.length ≤ 3) (hch : Ch cs) (A : Arv Z h0 c kc .char (Int32.ofNat cs.length) (cs.map .int) dv) (E : Exa Z h0 a "java/lang/String") (F1 : Fld Z h0 a "java/lang/String" "value" "[B" .null) (F2 : Fld Z h0 a "java/lang/String" "coder" "B" (.int 0)) (ga : n0 ≤ a) : oCon l Z n0 EL1 [a] (⟨"java/lang/String", "<init>", "([C)V"⟩ : MethodName) isC #[.ref a, .ref c] h0 (fun v h => v = none ∧ Keep h0 h [a] ∧ SV Z h h.size a cs) := by
  obtain ⟨hw, hEL, ⟨cmp, hC, hc0⟩, ⟨fm, hfm, hF⟩⟩ := id G
  refine oCon.mk hEL pnsC rfl rfl (efsC a c) fun C hCl => ?_
  refine s_aloadN (pc' := 1) dsC_0 rfl rfl rfl ?_
  refine s_aloadN (pc' := 2) dsC_1 rfl rfl rfl ?_
  refine s_iconst (x := (0 : Int32)) (pc' := 3) dsC_2 rfl rfl ?_
  refine s_aloadN (pc' := 4) dsC_3 rfl rfl rfl ?_
  refine s_alen A (pc' := 5) dsC_4 rfl ?_
  refine s_null (pc' := 6) dsC_5 rfl ?_
  refine s_callI4 (rmsV C.l G n0 a c kc cs dv h0 hcap hch A E F1 F2 ga) (by simp) rfl rfl (hw _ (List.mem_of_getElem? (i := 11) rfl)) (hw _ (List.mem_of_getElem? (i := 12) rfl)) (hw _ (List.mem_of_getElem? (i := 6) rfl)) (hw _ (List.mem_of_getElem? (i := 14) rfl)) (by decide) (o_len pdsV rfl) rfl (pc' := 9) dsC_6 rfl (Nat.le_of_ble_eq_true rfl) (Nat.le_of_ble_eq_true rfl) (Nat.le_of_ble_eq_true rfl) (Nat.le_of_ble_eq_true rfl) (fun v6 h6 hQ6 => ?_)
  obtain ⟨rfl, q1, q2⟩ := hQ6
  dsimp only [oPush]
  exact s_ret rfl dsC_9 (by decide) (by decide) ⟨rfl, q1, q2⟩
def isK : OInfo := ("java/lang/String", jdk_42_method_152_code, 1, (some .byte), "coder", ({ frames := 0, cells := 0, slots := 0, locals := 0 } : Room))
theorem efsK (x0 : Addr) (m : MethodId) : entryFrame m #[(.ref x0)] 1 = mkF m 0 #[.val (.ref x0)] [] := by first | (simp [entryFrame, mkF, argsToLocals, Value.category]; done) | rfl
theorem pdsK : parseMethodDescriptor "()B" = some ⟨[], some .byte⟩ := by decide +kernel
theorem pnsK : plainFor (⟨"java/lang/String", "coder", "()B"⟩ : MethodName) = true := by decide +kernel
theorem dsK_0 : decode jdk_42_method_152_code 0 = .ok (.getstatic 38, 3) := by decide +kernel
theorem dsK_3 : decode jdk_42_method_152_code 3 = .ok (.ifCond .eq 10, 3) := by decide +kernel
theorem dsK_6 : decode jdk_42_method_152_code 6 = .ok (.aload_n 0, 1) := by decide +kernel
theorem dsK_7 : decode jdk_42_method_152_code 7 = .ok (.getfield 15, 3) := by decide +kernel
theorem dsK_10 : decode jdk_42_method_152_code 10 = .ok (.goto 4, 3) := by decide +kernel
theorem dsK_14 : decode jdk_42_method_152_code 14 = .ok (.ireturn, 1) := by decide +kernel
set_option maxRecDepth 65536 in
set_option maxHeartbeats 4000000 in
theorem rmsK (l : Launch) {Z : State} {a0 : Array Value} (G : OG Z a0) (n0 : Nat) (a : Addr) (h0 : Heap) (C1 : Fld Z h0 a "java/lang/String" "coder" "B" (.int 0)) : oCon l Z n0 EL1 [] (⟨"java/lang/String", "coder", "()B"⟩ : MethodName) isK #[.ref a] h0 (fun v h => v = some (.int 0) ∧ h = h0) := by
  obtain ⟨hw, hEL, ⟨cmp, hC, hc0⟩, ⟨fm, hfm, hF⟩⟩ := id G
  refine oCon.mk hEL pnsK rfl rfl (efsK a) fun C hCl => ?_
  refine s_getS hC (hw _ (List.mem_of_getElem? (i := 88) rfl)) Via.refl (pc' := 3) dsK_0 rfl ?_
  refine s_if (pc' := 6) (pc'' := 13) dsK_3 rfl (by decide) rfl (fun hc3 => ?_) (fun hc3 => ?_)
  · replace hc3 := b_eq hc3
    exact absurd hc3 hc0
  · replace hc3 := b_eqF hc3
    refine s_aloadN (pc' := 7) dsK_6 rfl rfl rfl ?_
    refine s_getF C1 (host := "") (Or.inl (hw _ (List.mem_of_getElem? (i := 25) rfl))) Via.refl (pc' := 10) dsK_7 rfl ?_
    refine s_goto (pc' := 14) dsK_10 (by decide) rfl ?_
    exact s_nret (t := .byte) rfl (by simp) dsK_14 (by decide) (by decide) ⟨rfl, rfl⟩
def isL : OInfo := ("java/lang/String", jdk_42_method_54_code, 1, (some .int), "length", ({ frames := 1, cells := 0, slots := 0, locals := 13 } : Room))
theorem efsL (x0 : Addr) (m : MethodId) : entryFrame m #[(.ref x0)] 1 = mkF m 0 #[.val (.ref x0)] [] := by first | (simp [entryFrame, mkF, argsToLocals, Value.category]; done) | rfl
theorem pdsL : parseMethodDescriptor "()I" = some ⟨[], some .int⟩ := by decide +kernel
theorem pnsL : plainFor (⟨"java/lang/String", "length", "()I"⟩ : MethodName) = true := by decide +kernel
theorem shr_zero (x : Int32) : x >>> ((0 : Int32) &&& 31) = x := by
  rw [o_eq]; have q := c_ishr x 0 0 (by decide); rw [q]; simp
theorem dsL_0 : decode jdk_42_method_54_code 0 = .ok (.aload_n 0, 1) := by decide +kernel
theorem dsL_1 : decode jdk_42_method_54_code 1 = .ok (.getfield 9, 3) := by decide +kernel
theorem dsL_4 : decode jdk_42_method_54_code 4 = .ok (.arraylength, 1) := by decide +kernel
theorem dsL_5 : decode jdk_42_method_54_code 5 = .ok (.aload_n 0, 1) := by decide +kernel
theorem dsL_6 : decode jdk_42_method_54_code 6 = .ok (.invokevirtual 335, 3) := by decide +kernel
theorem dsL_9 : decode jdk_42_method_54_code 9 = .ok (.ishr, 1) := by decide +kernel
theorem dsL_10 : decode jdk_42_method_54_code 10 = .ok (.ireturn, 1) := by decide +kernel
set_option maxRecDepth 65536 in
set_option maxHeartbeats 4000000 in
theorem rmsL (l : Launch) {Z : State} {a0 : Array Value} (G : OG Z a0) (n0 : Nat) (a : Addr) (N : Nat) (cs : List Int32) (h0 : Heap) (H : SV Z h0 N a cs) : oCon l Z n0 EL1 [] (⟨"java/lang/String", "length", "()I"⟩ : MethodName) isL #[.ref a] h0 (fun v h => v = some (.int (Int32.ofNat cs.length)) ∧ h = h0) := by
  obtain ⟨hw, hEL, ⟨cmp, hC, hc0⟩, ⟨fm, hfm, hF⟩⟩ := id G
  obtain ⟨d1, k1, -, -, E1, C1, V1, A1⟩ := H
  refine oCon.mk hEL pnsL rfl rfl (efsL a) fun C hCl => ?_
  refine s_aloadN (pc' := 1) dsL_0 rfl rfl rfl ?_
  refine s_getF V1 (host := "") (Or.inl (hw _ (List.mem_of_getElem? (i := 24) rfl))) Via.refl (pc' := 4) dsL_1 rfl ?_
  refine s_alen A1 (pc' := 5) dsL_4 rfl ?_
  refine s_aloadN (pc' := 6) dsL_5 rfl rfl rfl ?_
  refine s_callV0 (rmsK C.l G n0 a h0 C1) (by simp) E1 (hw _ (List.mem_of_getElem? (i := 83) rfl)) (hw _ (List.mem_of_getElem? (i := 84) rfl)) (hw _ (List.mem_of_getElem? (i := 86) rfl)) (hw _ (List.mem_of_getElem? (i := 85) rfl)) (o_nf (hw _ (List.mem_of_getElem? (i := 86) rfl)) rfl) (hw _ (List.mem_of_getElem? (i := 6) rfl)) (hw _ (List.mem_of_getElem? (i := 87) rfl)) (by decide) (o_len pdsK rfl) rfl (pc' := 9) dsL_6 rfl (Nat.le_of_ble_eq_true rfl) (Nat.le_of_ble_eq_true rfl) (Nat.le_of_ble_eq_true rfl) (Nat.le_of_ble_eq_true rfl) (fun v6 h6 hQ6 => ?_)
  obtain ⟨rfl, rfl⟩ := hQ6
  dsimp only [oPush]
  refine s_ishr (pc' := 10) dsL_9 rfl ?_
  exact s_iret rfl dsL_10 (by decide) (by decide) ⟨by rw [shr_zero], rfl⟩
def isI : OInfo := ("java/lang/String", jdk_42_method_154_code, 1, (some .boolean), "isLatin1", ({ frames := 0, cells := 0, slots := 0, locals := 0 } : Room))
theorem efsI (x0 : Addr) (m : MethodId) : entryFrame m #[(.ref x0)] 1 = mkF m 0 #[.val (.ref x0)] [] := by first | (simp [entryFrame, mkF, argsToLocals, Value.category]; done) | rfl
theorem pdsI : parseMethodDescriptor "()Z" = some ⟨[], some .boolean⟩ := by decide +kernel
theorem pnsI : plainFor (⟨"java/lang/String", "isLatin1", "()Z"⟩ : MethodName) = true := by decide +kernel
theorem dsI_0 : decode jdk_42_method_154_code 0 = .ok (.getstatic 38, 3) := by decide +kernel
theorem dsI_3 : decode jdk_42_method_154_code 3 = .ok (.ifCond .eq 14, 3) := by decide +kernel
theorem dsI_6 : decode jdk_42_method_154_code 6 = .ok (.aload_n 0, 1) := by decide +kernel
theorem dsI_7 : decode jdk_42_method_154_code 7 = .ok (.getfield 15, 3) := by decide +kernel
theorem dsI_10 : decode jdk_42_method_154_code 10 = .ok (.ifCond .ne 7, 3) := by decide +kernel
theorem dsI_13 : decode jdk_42_method_154_code 13 = .ok (.iconst 1, 1) := by decide +kernel
theorem dsI_14 : decode jdk_42_method_154_code 14 = .ok (.goto 4, 3) := by decide +kernel
theorem dsI_18 : decode jdk_42_method_154_code 18 = .ok (.ireturn, 1) := by decide +kernel
set_option maxRecDepth 65536 in
set_option maxHeartbeats 4000000 in
theorem rmsI (l : Launch) {Z : State} {a0 : Array Value} (G : OG Z a0) (n0 : Nat) (a : Addr) (h0 : Heap) (C1 : Fld Z h0 a "java/lang/String" "coder" "B" (.int 0)) : oCon l Z n0 EL1 [] (⟨"java/lang/String", "isLatin1", "()Z"⟩ : MethodName) isI #[.ref a] h0 (fun v h => v = some (.int 1) ∧ h = h0) := by
  obtain ⟨hw, hEL, ⟨cmp, hC, hc0⟩, ⟨fm, hfm, hF⟩⟩ := id G
  refine oCon.mk hEL pnsI rfl rfl (efsI a) fun C hCl => ?_
  refine s_getS hC (hw _ (List.mem_of_getElem? (i := 88) rfl)) Via.refl (pc' := 3) dsI_0 rfl ?_
  refine s_if (pc' := 6) (pc'' := 17) dsI_3 rfl (by decide) rfl (fun hc3 => ?_) (fun hc3 => ?_)
  · replace hc3 := b_eq hc3
    exact absurd hc3 hc0
  · replace hc3 := b_eqF hc3
    refine s_aloadN (pc' := 7) dsI_6 rfl rfl rfl ?_
    refine s_getF C1 (host := "") (Or.inl (hw _ (List.mem_of_getElem? (i := 25) rfl))) Via.refl (pc' := 10) dsI_7 rfl ?_
    refine s_if (pc' := 13) (pc'' := 17) dsI_10 rfl (by decide) rfl (fun hc10 => ?_) (fun hc10 => ?_)
    · replace hc10 := b_ne hc10
      exact absurd rfl hc10
    · replace hc10 := b_neF hc10
      refine s_iconst (x := (1 : Int32)) (pc' := 14) dsI_13 rfl rfl ?_
      refine s_goto (pc' := 18) dsI_14 (by decide) rfl ?_
      exact s_nret (t := .boolean) rfl (by simp) dsI_18 (by decide) (by decide) ⟨rfl, rfl⟩
def ipc : OInfo := ("jdk/internal/util/Preconditions", jdk_41_method_11_code, 3, (some .int), "checkIndex", ({ frames := 0, cells := 0, slots := 0, locals := 0 } : Room))
theorem pdpc : parseMethodDescriptor "(IILjava/util/function/BiFunction;)I" = some ⟨[.int, .int, (.object "java/util/function/BiFunction")], some .int⟩ := by decide +kernel
theorem pnpc : plainName "jdk/internal/util/Preconditions" = true := by first | (simp [plainName, overriddenIn]; done) | decide +kernel
theorem efpc (x0 x1 : Int32) (x2 : Value) (h : x2.isRef = true) (m : MethodId) : entryFrame m #[(.int x0), (.int x1), x2] 3 = mkF m 0 #[.val (.int x0), .val (.int x1), .val x2] [] := by
  rcases ref_cases h with rfl | ⟨a, rfl⟩ <;> first | (simp [entryFrame, mkF, argsToLocals, Value.category]; done) | rfl
theorem dpc_0 : decode jdk_41_method_11_code 0 = .ok (.iload_n 0, 1) := by decide +kernel
theorem dpc_1 : decode jdk_41_method_11_code 1 = .ok (.ifCond .lt 8, 3) := by decide +kernel
theorem dpc_4 : decode jdk_41_method_11_code 4 = .ok (.iload_n 0, 1) := by decide +kernel
theorem dpc_5 : decode jdk_41_method_11_code 5 = .ok (.iload_n 1, 1) := by decide +kernel
theorem dpc_6 : decode jdk_41_method_11_code 6 = .ok (.if_icmp .lt 10, 3) := by decide +kernel
theorem dpc_16 : decode jdk_41_method_11_code 16 = .ok (.iload_n 0, 1) := by decide +kernel
theorem dpc_17 : decode jdk_41_method_11_code 17 = .ok (.ireturn, 1) := by decide +kernel
set_option maxRecDepth 65536 in
set_option maxHeartbeats 4000000 in
theorem rmpc (l : Launch) {Z : State} {a0 : Array Value} (G : OG Z a0) (n0 : Nat) (i n : Int32) (w : Value) (hw2 : w.isRef = true) (h0 : Heap) (h1 : ¬ i < 0) (h2 : i < n) : oCon l Z n0 EL1 [] (⟨"jdk/internal/util/Preconditions", "checkIndex", "(IILjava/util/function/BiFunction;)I"⟩ : MethodName) ipc #[.int i, .int n, w] h0 (fun v h => ∃ r : Int32, v = some (.int r) ∧ h = h0) := by
  obtain ⟨hw, hEL, ⟨cmp, hC, hc0⟩, ⟨fm, hfm, hF⟩⟩ := id G
  refine oCon.mk hEL (plainFor_of_name pnpc) rfl rfl (efpc i n w hw2) fun C hCl => ?_
  refine s_iloadN (pc' := 1) dpc_0 rfl rfl ?_
  refine s_if (pc' := 4) (pc'' := 9) dpc_1 rfl (by decide) rfl (fun hc1 => ?_) (fun hc1 => ?_)
  · replace hc1 := b_lt hc1
    exact absurd hc1 h1
  · replace hc1 := b_ltF hc1
    refine s_iloadN (pc' := 5) dpc_4 rfl rfl ?_
    refine s_iloadN (pc' := 6) dpc_5 rfl rfl ?_
    refine s_icmp (pc' := 9) (pc'' := 16) dpc_6 rfl (by decide) rfl (fun hc6 => ?_) (fun hc6 => ?_)
    · replace hc6 := b_lt hc6
      refine s_iloadN (pc' := 17) dpc_16 rfl rfl ?_
      exact s_iret rfl dpc_17 (by decide) (by decide) ⟨_, rfl, rfl⟩
    · replace hc6 := b_ltF hc6
      exact absurd h2 hc6
def isX : OInfo := ("java/lang/String", jdk_42_method_155_code, 2, none, "checkIndex", ({ frames := 1, cells := 0, slots := 0, locals := 14 } : Room))
theorem efsX (x0 : Int32) (x1 : Int32) (m : MethodId) : entryFrame m #[(.int x0), (.int x1)] 2 = mkF m 0 #[.val (.int x0), .val (.int x1)] [] := by first | (simp [entryFrame, mkF, argsToLocals, Value.category]; done) | rfl
theorem pdsX : parseMethodDescriptor "(II)V" = some ⟨[.int, .int], none⟩ := by decide +kernel
theorem pnsX : plainFor (⟨"java/lang/String", "checkIndex", "(II)V"⟩ : MethodName) = true := by decide +kernel
theorem dsX_0 : decode jdk_42_method_155_code 0 = .ok (.iload_n 0, 1) := by decide +kernel
theorem dsX_1 : decode jdk_42_method_155_code 1 = .ok (.iload_n 1, 1) := by decide +kernel
theorem dsX_2 : decode jdk_42_method_155_code 2 = .ok (.getstatic 1053, 3) := by decide +kernel
theorem dsX_5 : decode jdk_42_method_155_code 5 = .ok (.invokestatic 1059, 3) := by decide +kernel
theorem dsX_8 : decode jdk_42_method_155_code 8 = .ok (.pop, 1) := by decide +kernel
theorem dsX_9 : decode jdk_42_method_155_code 9 = .ok (.return_, 1) := by decide +kernel
set_option maxRecDepth 65536 in
set_option maxHeartbeats 4000000 in
theorem rmsX (l : Launch) {Z : State} {a0 : Array Value} (G : OG Z a0) (n0 : Nat) (i n : Int32) (h0 : Heap) (h1 : ¬ i < 0) (h2 : i < n) : oCon l Z n0 EL1 [] (⟨"java/lang/String", "checkIndex", "(II)V"⟩ : MethodName) isX #[.int i, .int n] h0 (fun v h => v = none ∧ h = h0) := by
  obtain ⟨hw, hEL, ⟨cmp, hC, hc0⟩, ⟨fm, hfm, hF⟩⟩ := id G
  refine oCon.mk hEL pnsX rfl rfl (efsX i n) fun C hCl => ?_
  refine s_iloadN (pc' := 1) dsX_0 rfl rfl ?_
  refine s_iloadN (pc' := 2) dsX_1 rfl rfl ?_
  refine s_getS hF (hw _ (List.mem_of_getElem? (i := 187) rfl)) Via.refl (pc' := 5) dsX_2 rfl ?_
  refine s_callS3 (rmpc C.l G n0 i n fm hfm h0 h1 h2) (by simp) (hw _ (List.mem_of_getElem? (i := 189) rfl)) (hw _ (List.mem_of_getElem? (i := 190) rfl)) (hw _ (List.mem_of_getElem? (i := 188) rfl)) (hw _ (List.mem_of_getElem? (i := 191) rfl)) (by decide) (o_len pdpc rfl) rfl (pc' := 8) dsX_5 rfl (Nat.le_of_ble_eq_true rfl) (Nat.le_of_ble_eq_true rfl) (Nat.le_of_ble_eq_true rfl) (Nat.le_of_ble_eq_true rfl) (fun v5 h5 hQ5 => ?_)
  obtain ⟨r, rfl, rfl⟩ := hQ5
  dsimp only [oPush]
  refine s_pop (pc' := 9) dsX_8 rfl rfl ?_
  exact s_ret rfl dsX_9 (by decide) (by decide) ⟨rfl, rfl⟩
def ilC : OInfo := ("java/lang/StringLatin1", jdk_43_method_2_code, 2, (some .char), "charAt", ({ frames := 2, cells := 0, slots := 0, locals := 27 } : Room))
theorem eflC (x0 : Addr) (x1 : Int32) (m : MethodId) : entryFrame m #[(.ref x0), (.int x1)] 2 = mkF m 0 #[.val (.ref x0), .val (.int x1)] [] := by first | (simp [entryFrame, mkF, argsToLocals, Value.category]; done) | rfl
theorem pdlC : parseMethodDescriptor "([BI)C" = some ⟨[(.array .byte), .int], some .char⟩ := by decide +kernel
theorem pnlC : plainFor (⟨"java/lang/StringLatin1", "charAt", "([BI)C"⟩ : MethodName) = true := by decide +kernel
theorem dlC_0 : decode jdk_43_method_2_code 0 = .ok (.iload_n 1, 1) := by decide +kernel
theorem dlC_1 : decode jdk_43_method_2_code 1 = .ok (.aload_n 0, 1) := by decide +kernel
theorem dlC_2 : decode jdk_43_method_2_code 2 = .ok (.arraylength, 1) := by decide +kernel
theorem dlC_3 : decode jdk_43_method_2_code 3 = .ok (.invokestatic 9, 3) := by decide +kernel
theorem dlC_6 : decode jdk_43_method_2_code 6 = .ok (.aload_n 0, 1) := by decide +kernel
theorem dlC_7 : decode jdk_43_method_2_code 7 = .ok (.iload_n 1, 1) := by decide +kernel
theorem dlC_8 : decode jdk_43_method_2_code 8 = .ok (.baload, 1) := by decide +kernel
theorem dlC_9 : decode jdk_43_method_2_code 9 = .ok (.sipush 255, 3) := by decide +kernel
theorem dlC_12 : decode jdk_43_method_2_code 12 = .ok (.iand, 1) := by decide +kernel
theorem dlC_13 : decode jdk_43_method_2_code 13 = .ok (.i2c, 1) := by decide +kernel
theorem dlC_14 : decode jdk_43_method_2_code 14 = .ok (.ireturn, 1) := by decide +kernel
set_option maxRecDepth 65536 in
set_option maxHeartbeats 4000000 in
theorem rmlC (l : Launch) {Z : State} {a0 : Array Value} (G : OG Z a0) (n0 : Nat) (d : Addr) (k : ClassId) (cs : List Int32) (j : Nat) (z : Int32) (h0 : Heap) (hb : cs.length < 2147483648) (hch : Ch cs) (hz : cs[j]? = some z) (A : Arv Z h0 d k .byte (Int32.ofNat cs.length) (cs.map fun c => Value.int (byt c)) (.int 0)) : oCon l Z n0 EL1 [] (⟨"java/lang/StringLatin1", "charAt", "([BI)C"⟩ : MethodName) ilC #[.ref d, .int (Int32.ofNat j)] h0 (fun v h => v = some (.int z) ∧ h = h0) := by
  obtain ⟨hw, hEL, ⟨cmp, hC, hc0⟩, ⟨fm, hfm, hF⟩⟩ := id G
  have hj := (List.getElem?_eq_some_iff.mp hz).1
  refine oCon.mk hEL pnlC rfl rfl (eflC d _) fun C hCl => ?_
  refine s_iloadN (pc' := 1) dlC_0 rfl rfl ?_
  refine s_aloadN (pc' := 2) dlC_1 rfl rfl rfl ?_
  refine s_alen A (pc' := 3) dlC_2 rfl ?_
  refine s_callS2 (rmsX C.l G n0 (Int32.ofNat j) _ h0 (nn (by omega)) (lt' hb hj)) (by simp) (hw _ (List.mem_of_getElem? (i := 184) rfl)) (hw _ (List.mem_of_getElem? (i := 185) rfl)) (hw _ (List.mem_of_getElem? (i := 6) rfl)) (hw _ (List.mem_of_getElem? (i := 186) rfl)) (by decide) (o_len pdsX rfl) rfl (pc' := 6) dlC_3 rfl (Nat.le_of_ble_eq_true rfl) (Nat.le_of_ble_eq_true rfl) (Nat.le_of_ble_eq_true rfl) (Nat.le_of_ble_eq_true rfl) (fun v3 h3 hQ3 => ?_)
  obtain ⟨rfl, rfl⟩ := hQ3
  dsimp only [oPush]
  refine s_aloadN (pc' := 7) dlC_6 rfl rfl rfl ?_
  refine s_iloadN (pc' := 8) dlC_7 rfl rfl ?_
  refine s_baload A (nn (by omega)) (lt' hb hj) (v := .int (byt z)) (by rw [cl (by omega)]; exact bs_get hz _) (pc' := 9) dlC_8 rfl ?_
  refine s_sipush (x := (255 : Int32)) (pc' := 12) dlC_9 rfl rfl ?_
  refine s_iand (pc' := 13) dlC_12 rfl ?_
  refine s_i2c (pc' := 14) dlC_13 rfl ?_
  exact s_nret (t := .char) rfl (by simp) dlC_14 (by decide) (by decide) ⟨by rw [byt_and (hch z (List.mem_of_getElem? hz)), i2c_ch (hch z (List.mem_of_getElem? hz)), nar_ch (hch z (List.mem_of_getElem? hz))], rfl⟩
def isH : OInfo := ("java/lang/String", jdk_42_method_56_code, 2, (some .char), "charAt", ({ frames := 3, cells := 0, slots := 0, locals := 40 } : Room))
theorem efsH (x0 : Addr) (x1 : Int32) (m : MethodId) : entryFrame m #[(.ref x0), (.int x1)] 2 = mkF m 0 #[.val (.ref x0), .val (.int x1)] [] := by first | (simp [entryFrame, mkF, argsToLocals, Value.category]; done) | rfl
theorem pdsH : parseMethodDescriptor "(I)C" = some ⟨[.int], some .char⟩ := by decide +kernel
theorem pnsH : plainFor (⟨"java/lang/String", "charAt", "(I)C"⟩ : MethodName) = true := by decide +kernel
theorem dsH_0 : decode jdk_42_method_56_code 0 = .ok (.aload_n 0, 1) := by decide +kernel
theorem dsH_1 : decode jdk_42_method_56_code 1 = .ok (.invokevirtual 492, 3) := by decide +kernel
theorem dsH_4 : decode jdk_42_method_56_code 4 = .ok (.ifCond .eq 12, 3) := by decide +kernel
theorem dsH_7 : decode jdk_42_method_56_code 7 = .ok (.aload_n 0, 1) := by decide +kernel
theorem dsH_8 : decode jdk_42_method_56_code 8 = .ok (.getfield 9, 3) := by decide +kernel
theorem dsH_11 : decode jdk_42_method_56_code 11 = .ok (.iload_n 1, 1) := by decide +kernel
theorem dsH_12 : decode jdk_42_method_56_code 12 = .ok (.invokestatic 495, 3) := by decide +kernel
theorem dsH_15 : decode jdk_42_method_56_code 15 = .ok (.ireturn, 1) := by decide +kernel
set_option maxRecDepth 65536 in
set_option maxHeartbeats 4000000 in
theorem rmsH (l : Launch) {Z : State} {a0 : Array Value} (G : OG Z a0) (n0 : Nat) (a : Addr) (N : Nat) (cs : List Int32) (j : Nat) (z : Int32) (h0 : Heap) (hb : cs.length < 2147483648) (hch : Ch cs) (hz : cs[j]? = some z) (H : SV Z h0 N a cs) : oCon l Z n0 EL1 [] (⟨"java/lang/String", "charAt", "(I)C"⟩ : MethodName) isH #[.ref a, .int (Int32.ofNat j)] h0 (fun v h => v = some (.int z) ∧ h = h0) := by
  obtain ⟨hw, hEL, ⟨cmp, hC, hc0⟩, ⟨fm, hfm, hF⟩⟩ := id G
  obtain ⟨d1, k1, -, -, E1, C1, V1, A1⟩ := H
  refine oCon.mk hEL pnsH rfl rfl (efsH a _) fun C hCl => ?_
  refine s_aloadN (pc' := 1) dsH_0 rfl rfl rfl ?_
  refine s_callV0 (rmsI C.l G n0 a h0 C1) (by simp) E1 (hw _ (List.mem_of_getElem? (i := 175) rfl)) (hw _ (List.mem_of_getElem? (i := 176) rfl)) (hw _ (List.mem_of_getElem? (i := 178) rfl)) (hw _ (List.mem_of_getElem? (i := 177) rfl)) (o_nf (hw _ (List.mem_of_getElem? (i := 178) rfl)) rfl) (hw _ (List.mem_of_getElem? (i := 6) rfl)) (hw _ (List.mem_of_getElem? (i := 179) rfl)) (by decide) (o_len pdsI rfl) rfl (pc' := 4) dsH_1 rfl (Nat.le_of_ble_eq_true rfl) (Nat.le_of_ble_eq_true rfl) (Nat.le_of_ble_eq_true rfl) (Nat.le_of_ble_eq_true rfl) (fun v1 h1 hQ1 => ?_)
  obtain ⟨rfl, rfl⟩ := hQ1
  dsimp only [oPush]
  refine s_if (pc' := 7) (pc'' := 16) dsH_4 rfl (by decide) rfl (fun hc4 => ?_) (fun hc4 => ?_)
  · replace hc4 := b_eq hc4
    exact absurd hc4 (by decide)
  · replace hc4 := b_eqF hc4
    refine s_aloadN (pc' := 8) dsH_7 rfl rfl rfl ?_
    refine s_getF V1 (host := "") (Or.inl (hw _ (List.mem_of_getElem? (i := 24) rfl))) Via.refl (pc' := 11) dsH_8 rfl ?_
    refine s_iloadN (pc' := 12) dsH_11 rfl rfl ?_
    refine s_callS2 (rmlC C.l G n0 d1 k1 cs j z _ hb hch hz A1) (by simp) (hw _ (List.mem_of_getElem? (i := 180) rfl)) (hw _ (List.mem_of_getElem? (i := 181) rfl)) (hw _ (List.mem_of_getElem? (i := 182) rfl)) (hw _ (List.mem_of_getElem? (i := 183) rfl)) (by decide) (o_len pdlC rfl) rfl (pc' := 15) dsH_12 rfl (Nat.le_of_ble_eq_true rfl) (Nat.le_of_ble_eq_true rfl) (Nat.le_of_ble_eq_true rfl) (Nat.le_of_ble_eq_true rfl) (fun v12 h12 hQ12 => ?_)
    obtain ⟨rfl, rfl⟩ := hQ12
    dsimp only [oPush]
    exact s_nret (t := .char) rfl (by simp) dsH_15 (by decide) (by decide) ⟨by rw [nar_ch (hch z (List.mem_of_getElem? hz))], rfl⟩
theorem pn0 : plainName "com/example/typeloom/typeloom/ProblemToStringPinLaw" = true := by first | (simp [plainName, overriddenIn]; done) | decide +kernel
-- OWN: a StringBuilder of Latin-1 chars
theorem shl_zero (x : Int32) : x <<< ((0 : Int32) &&& 31) = x := by
  have e : ((0 : Int32) &&& 31) = 0 := by decide
  rw [e, Int32.shiftLeft_zero]
theorem n_add (a b : Nat) : (Int32.ofNat a + Int32.ofNat b : Int32) = Int32.ofNat (a + b) := by rw [Int32.ofNat_add]
theorem n_toInt {a : Nat} (h : a < 2147483648) : (Int32.ofNat a).toInt = a := by
  have q := cl h
  have p := nn h
  rw [o_lt] at p
  have e : (0 : Int32).toInt = 0 := rfl
  rw [e] at p
  have r : (Int32.ofNat a).toNatClampNeg = (Int32.ofNat a).toInt.toNat := rfl
  omega
theorem n_sub {a b : Nat} (ha : a < 2147483648) (hb : b < 2147483648) : (Int32.ofNat a - Int32.ofNat b).toInt = (a : Int) - b := by
  have q := c_isub (Int32.ofNat a) (Int32.ofNat b)
  rw [n_toInt ha, n_toInt hb] at q
  have h1 := (Int32.ofNat a - Int32.ofNat b).toInt_lt
  have h2 := (Int32.ofNat a - Int32.ofNat b).le_toInt
  have e1 : (2 : Int) ^ 31 = 2147483648 := rfl
  omega
theorem n_subp {a b : Nat} (ha : a < 2147483648) (hb : b < 2147483648) : (0 : Int32) < Int32.ofNat a - Int32.ofNat b ↔ b < a := by
  rw [o_lt, n_sub ha hb]
  have e : (0 : Int32).toInt = 0 := rfl
  rw [e]; omega
theorem max18 {g : Int32} (h : ¬ (18 : Int32) < g) : (if g < 18 then (18 : Int32) else g) = 18 := by
  split
  · rfl
  · rename_i q
    rw [o_lt] at h q
    rw [o_eq]; omega
theorem min_nm {n m : Nat} (hm : m < 2147483648) (h : n ≤ m) : (if Int32.ofNat n < Int32.ofNat m then Int32.ofNat n else Int32.ofNat m) = Int32.ofNat n := by
  split
  · rfl
  · rename_i q
    have : n = m := by
      by_cases z : n < m
      · exact absurd (lt' hm z) q
      · omega
    rw [this]
def BB (bs : List Int32) (cap : Nat) : List Value := bs.map (fun c => Value.int (byt c)) ++ List.replicate (cap - bs.length) (.int 0)
theorem BB_len {bs : List Int32} {cap : Nat} (h : bs.length ≤ cap) : (BB bs cap).length = cap := by simp [BB]; omega
theorem BB_nil (cap : Nat) : BB [] cap = List.replicate cap (.int 0) := by simp [BB]
theorem BB_full (bs : List Int32) : BB bs bs.length = bs.map fun c => Value.int (byt c) := by simp [BB]
theorem rng {l : List Value} {d : Value} {n : Nat} (h : n ≤ l.length) : ((List.range n).map fun i => l.getD (0 + i) d) = l.take n := by
  apply List.ext_getElem
  · simp; omega
  · intro i h1 h2
    simp at h1
    have : i < l.length := by omega
    simp [List.getD_eq_getElem?_getD, this]
theorem BB_app {bs cs : List Int32} {cap : Nat} (h : bs.length + cs.length ≤ cap) : (BB bs cap).take bs.length ++ ((List.range cs.length).map fun i => (cs.map fun c => Value.int (byt c)).getD (0 + i) (.int 0)) ++ (BB bs cap).drop (bs.length + cs.length) = BB (bs ++ cs) cap := by
  rw [rng (by simp)]
  have e1 : (BB bs cap).take bs.length = bs.map fun c => Value.int (byt c) := by
    unfold BB; rw [List.take_append_of_le_length (by simp)]; rw [List.take_of_length_le (by simp)]
  have e2 : (BB bs cap).drop (bs.length + cs.length) = List.replicate (cap - (bs.length + cs.length)) (.int 0) := by
    unfold BB
    rw [List.drop_append, List.drop_of_length_le (by simp), List.length_map, Nat.add_sub_cancel_left, List.drop_replicate, List.nil_append]
    congr 1; omega
  have e3 : ((cs.map fun c => Value.int (byt c)).take cs.length) = cs.map fun c => Value.int (byt c) := List.take_of_length_le (by simp)
  rw [e1, e2, e3]
  simp [BB]
theorem BB_grow {bs : List Int32} (h : bs.length ≤ 16) : (List.replicate 34 (Value.int 0)).take 0 ++ ((List.range 16).map fun i => (BB bs 16).getD (0 + i) (.int 0)) ++ (List.replicate 34 (Value.int 0)).drop (0 + 16) = BB bs 34 := by
  rw [List.take_zero, List.nil_append, rng (by rw [BB_len h]; exact Nat.le_refl _), List.take_of_length_le (by rw [BB_len h]; exact Nat.le_refl _)]
  unfold BB
  rw [List.drop_replicate, List.append_assoc, List.replicate_append_replicate]
  congr 2; omega
theorem BB_cut {bs : List Int32} {cap n : Nat} (h : bs.length ≤ cap) (hn : n = bs.length) : (List.replicate n (Value.int 0)).take 0 ++ ((List.range n).map fun i => (BB bs cap).getD (0 + i) (.int 0)) ++ (List.replicate n (Value.int 0)).drop (0 + n) = bs.map fun c => Value.int (byt c) := by
  subst hn
  rw [List.take_zero, List.nil_append, rng (by rw [BB_len h]; exact h)]
  unfold BB
  rw [List.take_append_of_le_length (by simp), List.take_of_length_le (by simp)]
  simp
def BD (Z : State) (h : Heap) (b a : Addr) (k : ClassId) (cap : Nat) (bs : List Int32) : Prop := Exa Z h b "java/lang/StringBuilder" ∧ Fld Z h b "java/lang/AbstractStringBuilder" "value" "[B" (.ref a) ∧ Fld Z h b "java/lang/AbstractStringBuilder" "coder" "B" (.int 0) ∧ Fld Z h b "java/lang/AbstractStringBuilder" "count" "I" (.int (Int32.ofNat bs.length)) ∧ Arv Z h a k .byte (Int32.ofNat cap) (BB bs cap) (.int 0) ∧ Exa Z h a "[B" ∧ bs.length ≤ cap ∧ cap ≤ 64
theorem BD.ext {Z : State} {h h' : Heap} {b a : Addr} {k : ClassId} {cap : Nat} {bs : List Int32} (B : BD Z h b a k cap bs) (E : Ext h h') : BD Z h' b a k cap bs := by
  obtain ⟨h1, h2, h3, h4, h5, h6, h7⟩ := B; exact ⟨h1.ext E, h2.ext E, h3.ext E, h4.ext E, h5.ext E, h6.ext E, h7⟩
theorem BD.ne {Z : State} {h : Heap} {b a : Addr} {k : ClassId} {cap : Nat} {bs : List Int32} (B : BD Z h b a k cap bs) : a ≠ b := Exa.ne B.2.2.2.2.2.1 B.1 (by decide)
theorem SV.ne {Z : State} {h : Heap} {N : Nat} {s b : Addr} {cs : List Int32} {n : Nat} {a0 : Array Value} (w : (Jvm.Cond.instantiable "java/lang/StringBuilder" n).before a0 Z = true) (F : SV Z h N s cs) (E : Exa Z h b "java/lang/StringBuilder") {h' : Heap} (K : Keep h h' [b]) : SV Z h' N s cs := by
  obtain ⟨d, k, h1, h2, h3, h4, h5, h6⟩ := F
  have n1 : s ≠ b := Exa.ne h3 E (by decide)
  have n2 : b ≠ d := Exa.neArv E h6 w
  exact ⟨d, k, h1, h2, h3.keep K, h4.keep K (by simp [n1]), h5.keep K (by simp [n1]), h6.keep K (by simp [n2.symm])⟩
-- OWN: the digits of a number
theorem n_lt {a b : Nat} (ha : a < 2147483648) (hb : b < 2147483648) : Int32.ofNat a < Int32.ofNat b ↔ a < b := by rw [o_lt, n_toInt ha, n_toInt hb]; omega
theorem n_subn {a b : Nat} (ha : a < 2147483648) (h : b ≤ a) : Int32.ofNat a - Int32.ofNat b = Int32.ofNat (a - b) := by
  rw [o_eq, n_sub ha (by omega), n_toInt (by omega)]; omega
theorem n_div {a b : Nat} (ha : a < 2147483648) (hb : b < 2147483648) (h0 : 0 < b) : Int32.ofNat a / Int32.ofNat b = Int32.ofNat (a / b) := by
  have hd : Int32.ofNat b ≠ -1 := fun q => by
    have := congrArg Int32.toInt q
    rw [n_toInt hb] at this
    have e : (-1 : Int32).toInt = -1 := rfl
    omega
  have q := (c_idiv (Int32.ofNat a) (Int32.ofNat b) b (n_toInt hb) hd).1 (by rw [n_toInt ha]; omega)
  have := Nat.div_le_self a b
  rw [o_eq, q, n_toInt ha, n_toInt (by omega)]; rfl
theorem n_mod {a b : Nat} (ha : a < 2147483648) (hb : b < 2147483648) (h0 : 0 < b) : Int32.ofNat a % Int32.ofNat b = Int32.ofNat (a % b) := by
  have q := (c_irem (Int32.ofNat a) (Int32.ofNat b) b (n_toInt hb)).1 (by rw [n_toInt ha]; omega)
  have := Nat.mod_lt a h0
  rw [o_eq, q, n_toInt ha, n_toInt (by omega)]; rfl
def dgV (v : Int32) : Nat := if v < 10 then 1 else if v < 100 then 2 else if v < 1000 then 3 else if v < 10000 then 4 else if v < 100000 then 5 else if v < 1000000 then 6 else if v < 10000000 then 7 else if v < 100000000 then 8 else if v < 1000000000 then 9 else 10
def dg (v : Nat) : Nat := if v < 10 then 1 else if v < 100 then 2 else if v < 1000 then 3 else if v < 10000 then 4 else if v < 100000 then 5 else if v < 1000000 then 6 else if v < 10000000 then 7 else if v < 100000000 then 8 else if v < 1000000000 then 9 else 10
theorem dgV_eq {n : Nat} (h : n < 2147483648) : dgV (Int32.ofNat n) = dg n := by
  have e1 : (Int32.ofNat n < 10) ↔ n < 10 := n_lt h (by decide)
  have e2 : (Int32.ofNat n < 100) ↔ n < 100 := n_lt h (by decide)
  have e3 : (Int32.ofNat n < 1000) ↔ n < 1000 := n_lt h (by decide)
  have e4 : (Int32.ofNat n < 10000) ↔ n < 10000 := n_lt h (by decide)
  have e5 : (Int32.ofNat n < 100000) ↔ n < 100000 := n_lt h (by decide)
  have e6 : (Int32.ofNat n < 1000000) ↔ n < 1000000 := n_lt h (by decide)
  have e7 : (Int32.ofNat n < 10000000) ↔ n < 10000000 := n_lt h (by decide)
  have e8 : (Int32.ofNat n < 100000000) ↔ n < 100000000 := n_lt h (by decide)
  have e9 : (Int32.ofNat n < 1000000000) ↔ n < 1000000000 := n_lt h (by decide)
  simp only [dgV, dg, e1, e2, e3, e4, e5, e6, e7, e8, e9]
set_option maxHeartbeats 4000000 in
theorem dg_r (n : Nat) : 1 ≤ dg n ∧ dg n ≤ 10 := by
  unfold dg; repeat' split
  all_goals omega
theorem dg_lo {m : Nat} (h : m < 10) : dg m = 1 := by unfold dg; rw [if_pos h]
theorem dg_mid {m : Nat} (h : ¬ m < 10) (h2 : m < 100) : dg m = 2 := by unfold dg; rw [if_neg h, if_pos h2]
set_option maxHeartbeats 4000000 in
theorem dg_of {n i : Nat} (h1 : 1 ≤ i) (h9 : i ≤ 9) (hlt : n < 10 ^ i) (hge : i = 1 ∨ 10 ^ (i - 1) ≤ n) : dg n = i := by
  have : i = 1 ∨ i = 2 ∨ i = 3 ∨ i = 4 ∨ i = 5 ∨ i = 6 ∨ i = 7 ∨ i = 8 ∨ i = 9 := by omega
  rcases this with rfl | rfl | rfl | rfl | rfl | rfl | rfl | rfl | rfl <;> simp at hlt hge <;> unfold dg <;> repeat' split
  all_goals omega
set_option maxHeartbeats 4000000 in
theorem dg_10 {n : Nat} (hge : 10 ^ 9 ≤ n) : dg n = 10 := by
  simp at hge; unfold dg; repeat' split
  all_goals omega
theorem dg_100 {m : Nat} (h : 100 ≤ m) (h2 : m < 10000000000) : dg m = dg (m / 100) + 2 := by
  have : m < 1000 ∨ (1000 ≤ m ∧ m < 10000) ∨ (10000 ≤ m ∧ m < 100000) ∨ (100000 ≤ m ∧ m < 1000000) ∨ (1000000 ≤ m ∧ m < 10000000) ∨ (10000000 ≤ m ∧ m < 100000000) ∨ (100000000 ≤ m ∧ m < 1000000000) ∨ 1000000000 ≤ m := by omega
  rcases this with z | z | z | z | z | z | z | z
  · rw [dg_of (i := 3) (by decide) (by decide) (by simp; omega) (Or.inr (by simp; omega)), dg_of (n := m / 100) (i := 1) (by decide) (by decide) (by simp; omega) (Or.inl rfl)]
  · rw [dg_of (i := 4) (by decide) (by decide) (by simp; omega) (Or.inr (by simp; omega)), dg_of (n := m / 100) (i := 2) (by decide) (by decide) (by simp; omega) (Or.inr (by simp; omega))]
  · rw [dg_of (i := 5) (by decide) (by decide) (by simp; omega) (Or.inr (by simp; omega)), dg_of (n := m / 100) (i := 3) (by decide) (by decide) (by simp; omega) (Or.inr (by simp; omega))]
  · rw [dg_of (i := 6) (by decide) (by decide) (by simp; omega) (Or.inr (by simp; omega)), dg_of (n := m / 100) (i := 4) (by decide) (by decide) (by simp; omega) (Or.inr (by simp; omega))]
  · rw [dg_of (i := 7) (by decide) (by decide) (by simp; omega) (Or.inr (by simp; omega)), dg_of (n := m / 100) (i := 5) (by decide) (by decide) (by simp; omega) (Or.inr (by simp; omega))]
  · rw [dg_of (i := 8) (by decide) (by decide) (by simp; omega) (Or.inr (by simp; omega)), dg_of (n := m / 100) (i := 6) (by decide) (by decide) (by simp; omega) (Or.inr (by simp; omega))]
  · rw [dg_of (i := 9) (by decide) (by decide) (by simp; omega) (Or.inr (by simp; omega)), dg_of (n := m / 100) (i := 7) (by decide) (by decide) (by simp; omega) (Or.inr (by simp; omega))]
  · rw [dg_10 (by simp; omega), dg_of (n := m / 100) (i := 8) (by decide) (by decide) (by simp; omega) (Or.inr (by simp; omega))]
def pwV (e : Int32) : Int32 := if e = 0 then 1 else if e = 1 then 10 else if e = 2 then 100 else if e = 3 then 1000 else if e = 4 then 10000 else if e = 5 then 100000 else if e = 6 then 1000000 else if e = 7 then 10000000 else if e = 8 then 100000000 else 1000000000
theorem pwV_eq {j : Nat} (h : j ≤ 9) : pwV (Int32.ofNat j) = Int32.ofNat (10 ^ j) := by
  have : j = 0 ∨ j = 1 ∨ j = 2 ∨ j = 3 ∨ j = 4 ∨ j = 5 ∨ j = 6 ∨ j = 7 ∨ j = 8 ∨ j = 9 := by omega
  rcases this with rfl | rfl | rfl | rfl | rfl | rfl | rfl | rfl | rfl | rfl <;> decide
def pwN (i : Nat) : Int32 := -(Int32.ofNat (10 ^ i))
theorem pwN_s (i : Nat) : 10 * pwN i = pwN (i + 1) := by
  unfold pwN
  rw [Int32.mul_neg, show (10 : Int32) = Int32.ofNat 10 from rfl, ← Int32.ofNat_mul, Nat.pow_succ, Nat.mul_comm]
theorem neg_toInt {a : Nat} (h : a < 2147483648) : (-(Int32.ofNat a)).toInt = -(a : Int) := by
  have q := c_isub 0 (Int32.ofNat a)
  rw [Int32.zero_sub, n_toInt h] at q
  have h1 := (-(Int32.ofNat a)).toInt_lt
  have h2 := (-(Int32.ofNat a)).le_toInt
  have e1 : (2 : Int) ^ 31 = 2147483648 := rfl
  have e0 : (0 : Int32).toInt = 0 := rfl
  omega
theorem neg_lt {a b : Nat} (ha : a < 2147483648) (hb : b < 2147483648) : -(Int32.ofNat a) < -(Int32.ofNat b) ↔ b < a := by
  rw [o_lt, neg_toInt ha, neg_toInt hb]; omega
theorem pow9 {i : Nat} (h : i ≤ 9) : 10 ^ i < 2147483648 := Nat.lt_of_le_of_lt (Nat.pow_le_pow_right (by decide) h) (by decide)
theorem neg_div {m : Nat} (h : m < 2147483648) : -(Int32.ofNat m) / 100 = -(Int32.ofNat (m / 100)) := by
  have q := c_idiv (-(Int32.ofNat m)) 100 100 rfl (by decide)
  have e := neg_toInt h
  have e2 := neg_toInt (a := m / 100) (by omega)
  rw [o_eq, e2]
  by_cases z : m = 0
  · subst z; rfl
  · rw [q.2 (by omega), e]; omega
theorem neg_rem {m : Nat} (h : m < 2147483648) : -(Int32.ofNat (m / 100)) * 100 - -(Int32.ofNat m) = Int32.ofNat (m % 100) := by
  rw [Int32.sub_neg, Int32.neg_mul, Int32.add_comm, ← Int32.sub_eq_add_neg, show (100 : Int32) = Int32.ofNat 100 from rfl, ← Int32.ofNat_mul, n_subn h (by omega)]
  congr 1; omega
theorem n_pred (a : Nat) : Int32.ofNat (a + 1) + -1 = Int32.ofNat a := by
  rw [← n_add, Int32.add_assoc, show Int32.ofNat 1 + -1 = 0 from by decide, Int32.add_zero]
-- the digits written from the right
def dv (n j : Nat) : Int32 := Int32.ofNat (48 + n / 10 ^ (dg n - 1 - j) % 10)
def DL (n : Nat) : List Int32 := (List.range (dg n)).map (dv n)
theorem DL_len (n : Nat) : (DL n).length = dg n := by simp [DL]
theorem DL_at {n j : Nat} (h : j < dg n) : (DL n)[j]? = some (dv n j) := by simp [DL, h]
theorem d48 {k : Nat} (h : k < 10) : ¬ Int32.ofNat (48 + k) < 0 ∧ ¬ (255 : Int32) < Int32.ofNat (48 + k) := by
  have : k = 0 ∨ k = 1 ∨ k = 2 ∨ k = 3 ∨ k = 4 ∨ k = 5 ∨ k = 6 ∨ k = 7 ∨ k = 8 ∨ k = 9 := by omega
  rcases this with rfl | rfl | rfl | rfl | rfl | rfl | rfl | rfl | rfl | rfl <;> decide
theorem b48 {k : Nat} (h : k < 10) : byt (Int32.ofNat (48 + k)) = Int32.ofNat (48 + k) := by
  have : k = 0 ∨ k = 1 ∨ k = 2 ∨ k = 3 ∨ k = 4 ∨ k = 5 ∨ k = 6 ∨ k = 7 ∨ k = 8 ∨ k = 9 := by omega
  rcases this with rfl | rfl | rfl | rfl | rfl | rfl | rfl | rfl | rfl | rfl <;> decide
theorem dv_ch (n j : Nat) : ¬ dv n j < 0 ∧ ¬ (255 : Int32) < dv n j := d48 (Nat.mod_lt _ (by decide))
theorem dv_byt (n j : Nat) : byt (dv n j) = dv n j := b48 (Nat.mod_lt _ (by decide))
theorem DL_ch (n : Nat) : Ch (DL n) := fun z hz => by
  simp only [DL, List.mem_map] at hz
  obtain ⟨j, -, rfl⟩ := hz
  exact dv_ch n j
def ST (bs : List Int32) (n cap p : Nat) : List Value := bs.map (fun c => Value.int (byt c)) ++ (List.range (dg n)).map (fun j => if p ≤ j then Value.int (dv n j) else .int 0) ++ List.replicate (cap - bs.length - dg n) (.int 0)
theorem ST_len {bs : List Int32} {n cap p : Nat} (h : bs.length + dg n ≤ cap) : (ST bs n cap p).length = cap := by simp [ST]; omega
theorem ST_0 (bs : List Int32) (n cap : Nat) : ST bs n cap 0 = BB (bs ++ DL n) cap := by
  unfold ST BB DL
  simp only [Nat.zero_le, if_true, List.map_append, List.map_map, List.length_append, List.length_map, List.length_range, Nat.sub_sub]
  congr 2
  apply List.map_congr_left
  intro j _
  simp only [Function.comp, dv_byt]
theorem ST_n {bs : List Int32} {n cap : Nat} (h : bs.length + dg n ≤ cap) : ST bs n cap (dg n) = BB bs cap := by
  unfold ST BB
  have e : (List.range (dg n)).map (fun j => if dg n ≤ j then Value.int (dv n j) else .int 0) = List.replicate (dg n) (.int 0) := by
    rw [List.eq_replicate_iff]
    refine ⟨by simp, fun b hb => ?_⟩
    simp only [List.mem_map, List.mem_range] at hb
    obtain ⟨j, hj, rfl⟩ := hb
    rw [if_neg (by omega)]
  rw [e, List.append_assoc, List.replicate_append_replicate]
  congr 2; omega
theorem ST_set {bs : List Int32} {n cap p : Nat} (h : p < dg n) : (ST bs n cap (p + 1)).set (bs.length + p) (.int (dv n p)) = ST bs n cap p := by
  unfold ST
  rw [List.append_assoc, List.set_append_right _ _ (by simp), List.length_map, Nat.add_sub_cancel_left, List.set_append_left _ _ (by simpa using h), ← List.append_assoc]
  congr 2
  apply List.ext_getElem
  · simp
  · intro i h1 h2
    simp at h1
    rw [List.getElem_set]
    simp only [List.getElem_map, List.getElem_range]
    by_cases q : p = i
    · subst q; simp
    · rw [if_neg q]
      by_cases z : p ≤ i
      · rw [if_pos (by omega), if_pos z]
      · rw [if_neg (by omega), if_neg z]
theorem dv_1 {n m p : Nat} (hp : p + 1 ≤ dg n) (hm : m = n / 10 ^ (dg n - (p + 1))) : dv n p = Int32.ofNat (48 + m % 10) := by
  unfold dv; rw [hm, show dg n - 1 - p = dg n - (p + 1) by omega]
theorem dv_2 {n m p : Nat} (hp : p + 2 ≤ dg n) (hm : m = n / 10 ^ (dg n - (p + 2))) : dv n p = Int32.ofNat (48 + m / 10 % 10) := by
  unfold dv; rw [hm, show dg n - 1 - p = dg n - (p + 2) + 1 by omega, Nat.pow_succ, Nat.div_div_eq_div_mul]
theorem m_step {n m p : Nat} (hp : p + 2 ≤ dg n) (hm : m = n / 10 ^ (dg n - (p + 2))) : m / 100 = n / 10 ^ (dg n - p) := by
  rw [hm, show dg n - p = dg n - (p + 2) + 2 by omega, Nat.pow_add, Nat.div_div_eq_div_mul]
def iai : OInfo := ("java/lang/AbstractStringBuilder", jdk_68_method_2_code, 2, none, "<init>", ({ frames := 1, cells := 1, slots := 16, locals := 13 } : Room))
theorem efai (x0 : Addr) (x1 : Int32) (m : MethodId) : entryFrame m #[(.ref x0), (.int x1)] 2 = mkF m 0 #[.val (.ref x0), .val (.int x1)] [] := by first | (simp [entryFrame, mkF, argsToLocals, Value.category]; done) | rfl
theorem pdai : parseMethodDescriptor "(I)V" = some ⟨[.int], none⟩ := by decide +kernel
theorem pnai : plainFor (⟨"java/lang/AbstractStringBuilder", "<init>", "(I)V"⟩ : MethodName) = true := by decide +kernel
theorem dai_0 : decode jdk_68_method_2_code 0 = .ok (.aload_n 0, 1) := by decide +kernel
theorem dai_1 : decode jdk_68_method_2_code 1 = .ok (.invokespecial 3, 3) := by decide +kernel
theorem dai_4 : decode jdk_68_method_2_code 4 = .ok (.getstatic 18, 3) := by decide +kernel
theorem dai_7 : decode jdk_68_method_2_code 7 = .ok (.ifCond .eq 18, 3) := by decide +kernel
theorem dai_10 : decode jdk_68_method_2_code 10 = .ok (.aload_n 0, 1) := by decide +kernel
theorem dai_11 : decode jdk_68_method_2_code 11 = .ok (.iload_n 1, 1) := by decide +kernel
theorem dai_12 : decode jdk_68_method_2_code 12 = .ok (.newarray .byte, 2) := by decide +kernel
theorem dai_14 : decode jdk_68_method_2_code 14 = .ok (.putfield 15, 3) := by decide +kernel
theorem dai_17 : decode jdk_68_method_2_code 17 = .ok (.aload_n 0, 1) := by decide +kernel
theorem dai_18 : decode jdk_68_method_2_code 18 = .ok (.iconst 0, 1) := by decide +kernel
theorem dai_19 : decode jdk_68_method_2_code 19 = .ok (.putfield 22, 3) := by decide +kernel
theorem dai_22 : decode jdk_68_method_2_code 22 = .ok (.goto 16, 3) := by decide +kernel
theorem dai_38 : decode jdk_68_method_2_code 38 = .ok (.return_, 1) := by decide +kernel
set_option maxRecDepth 65536 in
set_option maxHeartbeats 4000000 in
theorem rmai (l : Launch) {Z : State} {a0 : Array Value} (G : OG Z a0) (n0 : Nat) (b : Addr) (n : Nat) (hn : n ≤ 16) (h0 : Heap) (XB : Exa Z h0 b "java/lang/StringBuilder") (F1 : Fld Z h0 b "java/lang/AbstractStringBuilder" "value" "[B" .null) (F2 : Fld Z h0 b "java/lang/AbstractStringBuilder" "coder" "B" (.int 0)) (F3 : Fld Z h0 b "java/lang/AbstractStringBuilder" "count" "I" (.int 0)) (gb : n0 ≤ b) : oConG l Z n0 EL1 [b] (⟨"java/lang/AbstractStringBuilder", "<init>", "(I)V"⟩ : MethodName) iai #[.ref b, .int (Int32.ofNat n)] h0 (oR Z EL1 (fun v h rs => ∃ a k, rs = [a] ∧ v = none ∧ h0.size ≤ a ∧ Keep h0 h [b] ∧ BD Z h b a k n [])) := by
  obtain ⟨hw, hEL, ⟨cmp, hC, hc0⟩, ⟨fm, hfm, hF⟩⟩ := id G
  refine oCon.mk hEL pnai rfl rfl (efai b _) fun C hCl => ?_
  refine s_aloadN (pc' := 1) dai_0 rfl rfl rfl ?_
  refine s_initO (hw _ (List.mem_of_getElem? (i := 62) rfl)) (hw _ (List.mem_of_getElem? (i := 16) rfl)) (hw _ (List.mem_of_getElem? (i := 17) rfl)) rfl (pc' := 4) dai_1 rfl (Nat.le_of_ble_eq_true rfl) (Nat.le_of_ble_eq_true rfl) ?_
  refine s_getS hC (hw _ (List.mem_of_getElem? (i := 63) rfl)) Via.refl (pc' := 7) dai_4 rfl ?_
  refine s_if (pc' := 10) (pc'' := 25) dai_7 rfl (by decide) rfl (fun hc7 => ?_) (fun hc7 => ?_)
  · replace hc7 := b_eq hc7
    exact absurd hc7 hc0
  · replace hc7 := b_eqF hc7
    refine s_aloadN (pc' := 11) dai_10 rfl rfl rfl ?_
    refine s_iloadN (pc' := 12) dai_11 rfl rfl ?_
    refine s_newAE 16 (ad := "[B") (by decide) (hw _ (List.mem_of_getElem? (i := 19) rfl)) (pc' := 14) dai_12 rfl (nn (by omega)) (by rw [cl (by omega)]; exact hn) (by decide) (Nat.le_of_ble_eq_true rfl) (Nat.le_of_ble_eq_true rfl) (fun h12 b12 k12 g12 nb12 E12 A12 X12 => ?_)
    have hne : b12 ≠ b := (o_fresh XB.lt g12).symm
    replace A12 := o_padTo A12 n
    refine s_putF (F1.ext E12) (XB.ext E12) gb (by simp) (host := "") (Or.inl (hw _ (List.mem_of_getElem? (i := 64) rfl))) Via.refl (Or.inl (hw _ (List.mem_of_getElem? (i := 65) rfl))) (hw _ (List.mem_of_getElem? (i := 51) rfl)) (ty := .array .byte) (by decide) rfl rfl (pc' := 17) dai_14 rfl (fun h14 W14 => ?_)
    refine s_aloadN (pc' := 18) dai_17 rfl rfl rfl ?_
    refine s_iconst (x := (0 : Int32)) (pc' := 19) dai_18 rfl rfl ?_
    refine s_putF ((F2.ext E12).other W14 (Or.inr (slot_ne (Or.inl (hw _ (List.mem_of_getElem? (i := 67) rfl))) (Or.inl (hw _ (List.mem_of_getElem? (i := 65) rfl))) (by decide) (t := .byte) (t' := (.array .byte)) (by decide) (by decide)))) ((XB.ext E12).wr W14) gb (by simp) (host := "") (Or.inl (hw _ (List.mem_of_getElem? (i := 66) rfl))) Via.refl (Or.inl (hw _ (List.mem_of_getElem? (i := 67) rfl))) (hw _ (List.mem_of_getElem? (i := 51) rfl)) (ty := .byte) (by decide) rfl rfl (pc' := 22) dai_19 rfl (fun h19 W19 => ?_)
    refine s_goto (pc' := 38) dai_22 (by decide) rfl ?_
    exact s_retR rfl dai_38 (Nat.le_of_ble_eq_true rfl) (Nat.le_of_ble_eq_true rfl) [b12] (by simp) ⟨b12, k12, rfl, rfl, Nat.le_of_eq g12.symm, (((Keep.refl h0 [b]).ext E12).wr W14 (Or.inl (List.mem_cons_self ..))).wr W19 (Or.inl (List.mem_cons_self ..)), (((XB.ext E12).wr W14).wr W19), (((F1.ext E12).same W14).other W19 (Or.inr (slot_ne (Or.inl (hw _ (List.mem_of_getElem? (i := 65) rfl))) (Or.inl (hw _ (List.mem_of_getElem? (i := 67) rfl))) (by decide) (t := (.array .byte)) (t' := .byte) (by decide) (by decide)))), (((F2.ext E12).other W14 (Or.inr (slot_ne (Or.inl (hw _ (List.mem_of_getElem? (i := 67) rfl))) (Or.inl (hw _ (List.mem_of_getElem? (i := 65) rfl))) (by decide) (t := .byte) (t' := (.array .byte)) (by decide) (by decide)))).same W19), (((F3.ext E12).other W14 (Or.inr (slot_ne (Or.inl (hw _ (List.mem_of_getElem? (i := 90) rfl))) (Or.inl (hw _ (List.mem_of_getElem? (i := 65) rfl))) (by decide) (t := .int) (t' := (.array .byte)) (by decide) (by decide)))).other W19 (Or.inr (slot_ne (Or.inl (hw _ (List.mem_of_getElem? (i := 90) rfl))) (Or.inl (hw _ (List.mem_of_getElem? (i := 67) rfl))) (by decide) (t := .int) (t' := .byte) (by decide) (by decide)))), by rw [BB_nil]; exact ((A12.other W14 hne).other W19 hne), ((X12.wr W14).wr W19), Nat.zero_le _, by omega⟩
def isi : OInfo := ("java/lang/StringBuilder", jdk_67_method_1_code, 1, none, "<init>", ({ frames := 2, cells := 1, slots := 16, locals := 26 } : Room))
theorem efsi (x0 : Addr) (m : MethodId) : entryFrame m #[(.ref x0)] 1 = mkF m 0 #[.val (.ref x0)] [] := by first | (simp [entryFrame, mkF, argsToLocals, Value.category]; done) | rfl
theorem pdsi : parseMethodDescriptor "()V" = some ⟨[], none⟩ := by decide +kernel
theorem pnsi : plainFor (⟨"java/lang/StringBuilder", "<init>", "()V"⟩ : MethodName) = true := by decide +kernel
theorem dsi_0 : decode jdk_67_method_1_code 0 = .ok (.aload_n 0, 1) := by decide +kernel
theorem dsi_1 : decode jdk_67_method_1_code 1 = .ok (.bipush 16, 2) := by decide +kernel
theorem dsi_3 : decode jdk_67_method_1_code 3 = .ok (.invokespecial 1, 3) := by decide +kernel
theorem dsi_6 : decode jdk_67_method_1_code 6 = .ok (.return_, 1) := by decide +kernel
set_option maxRecDepth 65536 in
set_option maxHeartbeats 4000000 in
theorem rmsi (l : Launch) {Z : State} {a0 : Array Value} (G : OG Z a0) (n0 : Nat) (b : Addr) (h0 : Heap) (XB : Exa Z h0 b "java/lang/StringBuilder") (F1 : Fld Z h0 b "java/lang/AbstractStringBuilder" "value" "[B" .null) (F2 : Fld Z h0 b "java/lang/AbstractStringBuilder" "coder" "B" (.int 0)) (F3 : Fld Z h0 b "java/lang/AbstractStringBuilder" "count" "I" (.int 0)) (gb : n0 ≤ b) : oConG l Z n0 EL1 [b] (⟨"java/lang/StringBuilder", "<init>", "()V"⟩ : MethodName) isi #[.ref b] h0 (oR Z EL1 (fun v h rs => ∃ a k, rs = [a] ∧ v = none ∧ h0.size ≤ a ∧ Keep h0 h [b] ∧ BD Z h b a k 16 [])) := by
  obtain ⟨hw, hEL, ⟨cmp, hC, hc0⟩, ⟨fm, hfm, hF⟩⟩ := id G
  refine oCon.mk hEL pnsi rfl rfl (efsi b) fun C hCl => ?_
  refine s_aloadN (pc' := 1) dsi_0 rfl rfl rfl ?_
  refine s_bipush (x := (16 : Int32)) (pc' := 3) dsi_1 rfl rfl ?_
  refine s_callI1R (rmai C.l G n0 b 16 (by decide) h0 XB F1 F2 F3 gb) (by simp) rfl rfl (hw _ (List.mem_of_getElem? (i := 56) rfl)) (hw _ (List.mem_of_getElem? (i := 57) rfl)) (hw _ (List.mem_of_getElem? (i := 60) rfl)) (hw _ (List.mem_of_getElem? (i := 61) rfl)) (by decide) (o_len pdai rfl) rfl (pc' := 6) dsi_3 rfl (Nat.le_of_ble_eq_true rfl) (Nat.le_of_ble_eq_true rfl) (Nat.le_of_ble_eq_true rfl) (Nat.le_of_ble_eq_true rfl) (fun v3 h3 rs3 hQ3 => ?_)
  obtain ⟨a, k, rfl, rfl, q1, q2, q3⟩ := hQ3
  dsimp only [oPush]
  exact s_retR rfl dsi_6 (Nat.le_of_ble_eq_true rfl) (Nat.le_of_ble_eq_true rfl) [a] (by simp) ⟨a, k, rfl, rfl, q1, q2, q3⟩
def imn : OInfo := ("java/lang/Math", jdk_29_method_69_code, 2, (some .int), "min", ({ frames := 0, cells := 0, slots := 0, locals := 0 } : Room))
theorem efmn (x0 : Int32) (x1 : Int32) (m : MethodId) : entryFrame m #[(.int x0), (.int x1)] 2 = mkF m 0 #[.val (.int x0), .val (.int x1)] [] := by first | (simp [entryFrame, mkF, argsToLocals, Value.category]; done) | rfl
theorem pdmn : parseMethodDescriptor "(II)I" = some ⟨[.int, .int], some .int⟩ := by decide +kernel
theorem pnmn : plainFor (⟨"java/lang/Math", "min", "(II)I"⟩ : MethodName) = true := by decide +kernel
theorem dmn_0 : decode jdk_29_method_69_code 0 = .ok (.iload_n 0, 1) := by decide +kernel
theorem dmn_1 : decode jdk_29_method_69_code 1 = .ok (.iload_n 1, 1) := by decide +kernel
theorem dmn_2 : decode jdk_29_method_69_code 2 = .ok (.if_icmp .gt 7, 3) := by decide +kernel
theorem dmn_5 : decode jdk_29_method_69_code 5 = .ok (.iload_n 0, 1) := by decide +kernel
theorem dmn_6 : decode jdk_29_method_69_code 6 = .ok (.goto 4, 3) := by decide +kernel
theorem dmn_9 : decode jdk_29_method_69_code 9 = .ok (.iload_n 1, 1) := by decide +kernel
theorem dmn_10 : decode jdk_29_method_69_code 10 = .ok (.ireturn, 1) := by decide +kernel
set_option maxRecDepth 65536 in
set_option maxHeartbeats 4000000 in
theorem rmmn (l : Launch) {Z : State} {a0 : Array Value} (G : OG Z a0) (n0 : Nat) (x y : Int32) (h0 : Heap) : oCon l Z n0 EL1 [] (⟨"java/lang/Math", "min", "(II)I"⟩ : MethodName) imn #[.int x, .int y] h0 (fun v h => v = some (.int (if y < x then y else x)) ∧ h = h0) := by
  obtain ⟨hw, hEL, ⟨cmp, hC, hc0⟩, ⟨fm, hfm, hF⟩⟩ := id G
  refine oCon.mk hEL pnmn rfl rfl (efmn x y) fun C hCl => ?_
  refine s_iloadN (pc' := 1) dmn_0 rfl rfl ?_
  refine s_iloadN (pc' := 2) dmn_1 rfl rfl ?_
  refine s_icmp (pc' := 5) (pc'' := 9) dmn_2 rfl (by decide) rfl (fun hc2 => ?_) (fun hc2 => ?_)
  · replace hc2 := b_gt hc2
    refine s_iloadN (pc' := 10) dmn_9 rfl rfl ?_
    exact s_iret rfl dmn_10 (Nat.le_of_ble_eq_true rfl) (Nat.le_of_ble_eq_true rfl) ⟨by first | rw [if_pos hc2] | rw [if_neg hc2], rfl⟩
  · replace hc2 := b_gtF hc2
    refine s_iloadN (pc' := 6) dmn_5 rfl rfl ?_
    refine s_goto (pc' := 10) dmn_6 (by decide) rfl ?_
    exact s_iret rfl dmn_10 (Nat.le_of_ble_eq_true rfl) (Nat.le_of_ble_eq_true rfl) ⟨by first | rw [if_pos hc2] | rw [if_neg hc2], rfl⟩
def imx : OInfo := ("java/lang/Math", jdk_29_method_65_code, 2, (some .int), "max", ({ frames := 0, cells := 0, slots := 0, locals := 0 } : Room))
theorem efmx (x0 : Int32) (x1 : Int32) (m : MethodId) : entryFrame m #[(.int x0), (.int x1)] 2 = mkF m 0 #[.val (.int x0), .val (.int x1)] [] := by first | (simp [entryFrame, mkF, argsToLocals, Value.category]; done) | rfl
theorem pdmx : parseMethodDescriptor "(II)I" = some ⟨[.int, .int], some .int⟩ := by decide +kernel
theorem pnmx : plainFor (⟨"java/lang/Math", "max", "(II)I"⟩ : MethodName) = true := by decide +kernel
theorem dmx_0 : decode jdk_29_method_65_code 0 = .ok (.iload_n 0, 1) := by decide +kernel
theorem dmx_1 : decode jdk_29_method_65_code 1 = .ok (.iload_n 1, 1) := by decide +kernel
theorem dmx_2 : decode jdk_29_method_65_code 2 = .ok (.if_icmp .lt 7, 3) := by decide +kernel
theorem dmx_5 : decode jdk_29_method_65_code 5 = .ok (.iload_n 0, 1) := by decide +kernel
theorem dmx_6 : decode jdk_29_method_65_code 6 = .ok (.goto 4, 3) := by decide +kernel
theorem dmx_9 : decode jdk_29_method_65_code 9 = .ok (.iload_n 1, 1) := by decide +kernel
theorem dmx_10 : decode jdk_29_method_65_code 10 = .ok (.ireturn, 1) := by decide +kernel
set_option maxRecDepth 65536 in
set_option maxHeartbeats 4000000 in
theorem rmmx (l : Launch) {Z : State} {a0 : Array Value} (G : OG Z a0) (n0 : Nat) (x y : Int32) (h0 : Heap) : oCon l Z n0 EL1 [] (⟨"java/lang/Math", "max", "(II)I"⟩ : MethodName) imx #[.int x, .int y] h0 (fun v h => v = some (.int (if x < y then y else x)) ∧ h = h0) := by
  obtain ⟨hw, hEL, ⟨cmp, hC, hc0⟩, ⟨fm, hfm, hF⟩⟩ := id G
  refine oCon.mk hEL pnmx rfl rfl (efmx x y) fun C hCl => ?_
  refine s_iloadN (pc' := 1) dmx_0 rfl rfl ?_
  refine s_iloadN (pc' := 2) dmx_1 rfl rfl ?_
  refine s_icmp (pc' := 5) (pc'' := 9) dmx_2 rfl (by decide) rfl (fun hc2 => ?_) (fun hc2 => ?_)
  · replace hc2 := b_lt hc2
    refine s_iloadN (pc' := 10) dmx_9 rfl rfl ?_
    exact s_iret rfl dmx_10 (Nat.le_of_ble_eq_true rfl) (Nat.le_of_ble_eq_true rfl) ⟨by first | rw [if_pos hc2] | rw [if_neg hc2], rfl⟩
  · replace hc2 := b_ltF hc2
    refine s_iloadN (pc' := 6) dmx_5 rfl rfl ?_
    refine s_goto (pc' := 10) dmx_6 (by decide) rfl ?_
    exact s_iret rfl dmx_10 (Nat.le_of_ble_eq_true rfl) (Nat.le_of_ble_eq_true rfl) ⟨by first | rw [if_pos hc2] | rw [if_neg hc2], rfl⟩
def inl : OInfo := ("jdk/internal/util/ArraysSupport", jdk_48_method_27_code, 4, (some .int), "newLength", ({ frames := 1, cells := 0, slots := 0, locals := 14 } : Room))
theorem efnl (x0 : Int32) (x1 : Int32) (x2 : Int32) (m : MethodId) : entryFrame m #[(.int x0), (.int x1), (.int x2)] 4 = mkF m 0 #[.val (.int x0), .val (.int x1), .val (.int x2), .unset] [] := by first | (simp [entryFrame, mkF, argsToLocals, Value.category]; done) | rfl
theorem pdnl : parseMethodDescriptor "(III)I" = some ⟨[.int, .int, .int], some .int⟩ := by decide +kernel
theorem pnnl : plainFor (⟨"jdk/internal/util/ArraysSupport", "newLength", "(III)I"⟩ : MethodName) = true := by decide +kernel
theorem dnl_0 : decode jdk_48_method_27_code 0 = .ok (.iload_n 0, 1) := by decide +kernel
theorem dnl_1 : decode jdk_48_method_27_code 1 = .ok (.iload_n 1, 1) := by decide +kernel
theorem dnl_2 : decode jdk_48_method_27_code 2 = .ok (.iload_n 2, 1) := by decide +kernel
theorem dnl_3 : decode jdk_48_method_27_code 3 = .ok (.invokestatic 194, 3) := by decide +kernel
theorem dnl_6 : decode jdk_48_method_27_code 6 = .ok (.iadd, 1) := by decide +kernel
theorem dnl_7 : decode jdk_48_method_27_code 7 = .ok (.istore_n 3, 1) := by decide +kernel
theorem dnl_8 : decode jdk_48_method_27_code 8 = .ok (.iconst 0, 1) := by decide +kernel
theorem dnl_9 : decode jdk_48_method_27_code 9 = .ok (.iload_n 3, 1) := by decide +kernel
theorem dnl_10 : decode jdk_48_method_27_code 10 = .ok (.if_icmp .ge 11, 3) := by decide +kernel
theorem dnl_13 : decode jdk_48_method_27_code 13 = .ok (.iload_n 3, 1) := by decide +kernel
theorem dnl_14 : decode jdk_48_method_27_code 14 = .ok (.ldc 200, 2) := by decide +kernel
theorem dnl_16 : decode jdk_48_method_27_code 16 = .ok (.if_icmp .gt 5, 3) := by decide +kernel
theorem dnl_19 : decode jdk_48_method_27_code 19 = .ok (.iload_n 3, 1) := by decide +kernel
theorem dnl_20 : decode jdk_48_method_27_code 20 = .ok (.ireturn, 1) := by decide +kernel
set_option maxRecDepth 65536 in
set_option maxHeartbeats 4000000 in
theorem rmnl (l : Launch) {Z : State} {a0 : Array Value} (G : OG Z a0) (n0 : Nat) (g : Int32) (hg : ¬ (18 : Int32) < g) (h0 : Heap) : oCon l Z n0 EL1 [] (⟨"jdk/internal/util/ArraysSupport", "newLength", "(III)I"⟩ : MethodName) inl #[.int 16, .int g, .int 18] h0 (fun v h => v = some (.int 34) ∧ h = h0) := by
  obtain ⟨hw, hEL, ⟨cmp, hC, hc0⟩, ⟨fm, hfm, hF⟩⟩ := id G
  refine oCon.mk hEL pnnl rfl rfl (efnl 16 g 18) fun C hCl => ?_
  refine s_iloadN (pc' := 1) dnl_0 rfl rfl ?_
  refine s_iloadN (pc' := 2) dnl_1 rfl rfl ?_
  refine s_iloadN (pc' := 3) dnl_2 rfl rfl ?_
  refine s_callS2 (rmmx C.l G n0 g 18 h0) (by simp) (hw _ (List.mem_of_getElem? (i := 244) rfl)) (hw _ (List.mem_of_getElem? (i := 245) rfl)) (hw _ (List.mem_of_getElem? (i := 159) rfl)) (hw _ (List.mem_of_getElem? (i := 246) rfl)) (by decide) (o_len pdmx rfl) rfl (pc' := 6) dnl_3 rfl (Nat.le_of_ble_eq_true rfl) (Nat.le_of_ble_eq_true rfl) (Nat.le_of_ble_eq_true rfl) (Nat.le_of_ble_eq_true rfl) (fun v3 h3 hQ3 => ?_)
  obtain ⟨rfl, rfl⟩ := hQ3
  dsimp only [oPush]
  rw [max18 hg]
  refine s_iadd (pc' := 7) dnl_6 rfl ?_
  refine s_istoreN (kn := 3) rfl (pc' := 8) dnl_7 rfl (o_st rfl (by first | exact One.u | exact One.val rfl | assumption) rfl) ?_
  dsimp only [List.set_cons_succ, List.set_cons_zero]
  refine s_iconst (x := (0 : Int32)) (pc' := 9) dnl_8 rfl rfl ?_
  refine s_iloadN (pc' := 10) dnl_9 rfl rfl ?_
  refine s_icmp (pc' := 13) (pc'' := 21) dnl_10 rfl (by decide) rfl (fun hc10 => ?_) (fun hc10 => ?_)
  · replace hc10 := b_ge hc10
    exact absurd (by decide) hc10
  · replace hc10 := b_geF hc10
    refine s_iloadN (pc' := 14) dnl_13 rfl rfl ?_
    refine s_ldcI (x := (2147483639 : Int32)) (hw _ (List.mem_of_getElem? (i := 247) rfl)) (pc' := 16) dnl_14 rfl ?_
    refine s_icmp (pc' := 19) (pc'' := 21) dnl_16 rfl (by decide) rfl (fun hc16 => ?_) (fun hc16 => ?_)
    · replace hc16 := b_gt hc16
      exact absurd hc16 (by decide)
    · replace hc16 := b_gtF hc16
      refine s_iloadN (pc' := 20) dnl_19 rfl rfl ?_
      exact s_iret rfl dnl_20 (Nat.le_of_ble_eq_true rfl) (Nat.le_of_ble_eq_true rfl) ⟨rfl, rfl⟩
def inc : OInfo := ("java/lang/AbstractStringBuilder", jdk_68_method_10_code, 6, (some .int), "newCapacity", ({ frames := 2, cells := 0, slots := 0, locals := 29 } : Room))
theorem efnc (x0 : Addr) (x1 : Int32) (m : MethodId) : entryFrame m #[(.ref x0), (.int x1)] 6 = mkF m 0 #[.val (.ref x0), .val (.int x1), .unset, .unset, .unset, .unset] [] := by first | (simp [entryFrame, mkF, argsToLocals, Value.category]; done) | rfl
theorem pdnc : parseMethodDescriptor "(I)I" = some ⟨[.int], some .int⟩ := by decide +kernel
theorem pnnc : plainFor (⟨"java/lang/AbstractStringBuilder", "newCapacity", "(I)I"⟩ : MethodName) = true := by decide +kernel
theorem dnc_0 : decode jdk_68_method_10_code 0 = .ok (.aload_n 0, 1) := by decide +kernel
theorem dnc_1 : decode jdk_68_method_10_code 1 = .ok (.getfield 15, 3) := by decide +kernel
theorem dnc_4 : decode jdk_68_method_10_code 4 = .ok (.arraylength, 1) := by decide +kernel
theorem dnc_5 : decode jdk_68_method_10_code 5 = .ok (.istore_n 2, 1) := by decide +kernel
theorem dnc_6 : decode jdk_68_method_10_code 6 = .ok (.iload_n 1, 1) := by decide +kernel
theorem dnc_7 : decode jdk_68_method_10_code 7 = .ok (.aload_n 0, 1) := by decide +kernel
theorem dnc_8 : decode jdk_68_method_10_code 8 = .ok (.getfield 22, 3) := by decide +kernel
theorem dnc_11 : decode jdk_68_method_10_code 11 = .ok (.ishl, 1) := by decide +kernel
theorem dnc_12 : decode jdk_68_method_10_code 12 = .ok (.istore_n 3, 1) := by decide +kernel
theorem dnc_13 : decode jdk_68_method_10_code 13 = .ok (.iload_n 3, 1) := by decide +kernel
theorem dnc_14 : decode jdk_68_method_10_code 14 = .ok (.iload_n 2, 1) := by decide +kernel
theorem dnc_15 : decode jdk_68_method_10_code 15 = .ok (.isub, 1) := by decide +kernel
theorem dnc_16 : decode jdk_68_method_10_code 16 = .ok (.istore 4, 2) := by decide +kernel
theorem dnc_18 : decode jdk_68_method_10_code 18 = .ok (.iload_n 2, 1) := by decide +kernel
theorem dnc_19 : decode jdk_68_method_10_code 19 = .ok (.iload 4, 2) := by decide +kernel
theorem dnc_21 : decode jdk_68_method_10_code 21 = .ok (.iload_n 2, 1) := by decide +kernel
theorem dnc_22 : decode jdk_68_method_10_code 22 = .ok (.iconst 2, 1) := by decide +kernel
theorem dnc_23 : decode jdk_68_method_10_code 23 = .ok (.aload_n 0, 1) := by decide +kernel
theorem dnc_24 : decode jdk_68_method_10_code 24 = .ok (.getfield 22, 3) := by decide +kernel
theorem dnc_27 : decode jdk_68_method_10_code 27 = .ok (.ishl, 1) := by decide +kernel
theorem dnc_28 : decode jdk_68_method_10_code 28 = .ok (.iadd, 1) := by decide +kernel
theorem dnc_29 : decode jdk_68_method_10_code 29 = .ok (.invokestatic 114, 3) := by decide +kernel
theorem dnc_32 : decode jdk_68_method_10_code 32 = .ok (.istore 5, 2) := by decide +kernel
theorem dnc_34 : decode jdk_68_method_10_code 34 = .ok (.iload 5, 2) := by decide +kernel
theorem dnc_36 : decode jdk_68_method_10_code 36 = .ok (.ldc 39, 2) := by decide +kernel
theorem dnc_38 : decode jdk_68_method_10_code 38 = .ok (.if_icmp .ne 13, 3) := by decide +kernel
theorem dnc_51 : decode jdk_68_method_10_code 51 = .ok (.iload 5, 2) := by decide +kernel
theorem dnc_53 : decode jdk_68_method_10_code 53 = .ok (.aload_n 0, 1) := by decide +kernel
theorem dnc_54 : decode jdk_68_method_10_code 54 = .ok (.getfield 22, 3) := by decide +kernel
theorem dnc_57 : decode jdk_68_method_10_code 57 = .ok (.ishr, 1) := by decide +kernel
theorem dnc_58 : decode jdk_68_method_10_code 58 = .ok (.ireturn, 1) := by decide +kernel
set_option maxRecDepth 65536 in
set_option maxHeartbeats 4000000 in
theorem rmnc (l : Launch) {Z : State} {a0 : Array Value} (G : OG Z a0) (n0 : Nat) (b a : Addr) (k : ClassId) (vs : List Value) (dv : Value) (m : Int32) (hg : ¬ (18 : Int32) < m - 16) (h0 : Heap) (FV : Fld Z h0 b "java/lang/AbstractStringBuilder" "value" "[B" (.ref a)) (FC : Fld Z h0 b "java/lang/AbstractStringBuilder" "coder" "B" (.int 0)) (A : Arv Z h0 a k .byte 16 vs dv) : oCon l Z n0 EL1 [] (⟨"java/lang/AbstractStringBuilder", "newCapacity", "(I)I"⟩ : MethodName) inc #[.ref b, .int m] h0 (fun v h => v = some (.int 34) ∧ h = h0) := by
  obtain ⟨hw, hEL, ⟨cmp, hC, hc0⟩, ⟨fm, hfm, hF⟩⟩ := id G
  refine oCon.mk hEL pnnc rfl rfl (efnc b m) fun C hCl => ?_
  refine s_aloadN (pc' := 1) dnc_0 rfl rfl rfl ?_
  refine s_getF FV (host := "") (Or.inl (hw _ (List.mem_of_getElem? (i := 64) rfl))) Via.refl (pc' := 4) dnc_1 rfl ?_
  refine s_alen A (pc' := 5) dnc_4 rfl ?_
  refine s_istoreN (kn := 2) rfl (pc' := 6) dnc_5 rfl (o_st rfl (by first | exact One.u | exact One.val rfl | assumption) rfl) ?_
  dsimp only [List.set_cons_succ, List.set_cons_zero]
  refine s_iloadN (pc' := 7) dnc_6 rfl rfl ?_
  refine s_aloadN (pc' := 8) dnc_7 rfl rfl rfl ?_
  refine s_getF FC (host := "") (Or.inl (hw _ (List.mem_of_getElem? (i := 66) rfl))) Via.refl (pc' := 11) dnc_8 rfl ?_
  refine s_ishl (pc' := 12) dnc_11 rfl ?_
  rw [shl_zero]
  refine s_istoreN (kn := 3) rfl (pc' := 13) dnc_12 rfl (o_st rfl (by first | exact One.u | exact One.val rfl | assumption) rfl) ?_
  dsimp only [List.set_cons_succ, List.set_cons_zero]
  refine s_iloadN (pc' := 14) dnc_13 rfl rfl ?_
  refine s_iloadN (pc' := 15) dnc_14 rfl rfl ?_
  refine s_isub (pc' := 16) dnc_15 rfl ?_
  refine s_istore (pc' := 18) dnc_16 rfl (o_st rfl (by first | exact One.u | exact One.val rfl | assumption) rfl) ?_
  dsimp only [List.set_cons_succ, List.set_cons_zero]
  refine s_iloadN (pc' := 19) dnc_18 rfl rfl ?_
  refine s_iload (pc' := 21) dnc_19 rfl rfl ?_
  refine s_iloadN (pc' := 22) dnc_21 rfl rfl ?_
  refine s_iconst (x := (2 : Int32)) (pc' := 23) dnc_22 rfl rfl ?_
  refine s_aloadN (pc' := 24) dnc_23 rfl rfl rfl ?_
  refine s_getF FC (host := "") (Or.inl (hw _ (List.mem_of_getElem? (i := 66) rfl))) Via.refl (pc' := 27) dnc_24 rfl ?_
  refine s_ishl (pc' := 28) dnc_27 rfl ?_
  rw [shl_zero]
  refine s_iadd (pc' := 29) dnc_28 rfl ?_
  rw [show (16 : Int32) + 2 = 18 from by decide]
  refine s_callS3 (rmnl C.l G n0 _ hg h0) (by simp) (hw _ (List.mem_of_getElem? (i := 240) rfl)) (hw _ (List.mem_of_getElem? (i := 241) rfl)) (hw _ (List.mem_of_getElem? (i := 242) rfl)) (hw _ (List.mem_of_getElem? (i := 243) rfl)) (by decide) (o_len pdnl rfl) rfl (pc' := 32) dnc_29 rfl (Nat.le_of_ble_eq_true rfl) (Nat.le_of_ble_eq_true rfl) (Nat.le_of_ble_eq_true rfl) (Nat.le_of_ble_eq_true rfl) (fun v29 h29 hQ29 => ?_)
  obtain ⟨rfl, rfl⟩ := hQ29
  dsimp only [oPush]
  refine s_istore (pc' := 34) dnc_32 rfl (o_st rfl (by first | exact One.u | exact One.val rfl | assumption) rfl) ?_
  dsimp only [List.set_cons_succ, List.set_cons_zero]
  refine s_iload (pc' := 36) dnc_34 rfl rfl ?_
  refine s_ldcI (x := (2147483647 : Int32)) (hw _ (List.mem_of_getElem? (i := 248) rfl)) (pc' := 38) dnc_36 rfl ?_
  refine s_icmp (pc' := 41) (pc'' := 51) dnc_38 rfl (by decide) rfl (fun hc38 => ?_) (fun hc38 => ?_)
  · replace hc38 := b_ne hc38
    refine s_iload (pc' := 53) dnc_51 rfl rfl ?_
    refine s_aloadN (pc' := 54) dnc_53 rfl rfl rfl ?_
    refine s_getF FC (host := "") (Or.inl (hw _ (List.mem_of_getElem? (i := 66) rfl))) Via.refl (pc' := 57) dnc_54 rfl ?_
    refine s_ishr (pc' := 58) dnc_57 rfl ?_
    exact s_iret rfl dnc_58 (Nat.le_of_ble_eq_true rfl) (Nat.le_of_ble_eq_true rfl) ⟨by rw [shr_zero], rfl⟩
  · replace hc38 := b_neF hc38
    exact absurd hc38 (by decide)
def ico : OInfo := ("java/util/Arrays", jdk_65_method_121_code, 3, (some (.array .byte)), "copyOf", ({ frames := 1, cells := 1, slots := 34, locals := 30 } : Room))
theorem efco (x0 : Addr) (x1 : Int32) (m : MethodId) : entryFrame m #[(.ref x0), (.int x1)] 3 = mkF m 0 #[.val (.ref x0), .val (.int x1), .unset] [] := by first | (simp [entryFrame, mkF, argsToLocals, Value.category]; done) | rfl
theorem pdco : parseMethodDescriptor "([BI)[B" = some ⟨[(.array .byte), .int], some (.array .byte)⟩ := by decide +kernel
theorem pnco : plainFor (⟨"java/util/Arrays", "copyOf", "([BI)[B"⟩ : MethodName) = true := by decide +kernel
theorem dco_0 : decode jdk_65_method_121_code 0 = .ok (.iload_n 1, 1) := by decide +kernel
theorem dco_1 : decode jdk_65_method_121_code 1 = .ok (.aload_n 0, 1) := by decide +kernel
theorem dco_2 : decode jdk_65_method_121_code 2 = .ok (.arraylength, 1) := by decide +kernel
theorem dco_3 : decode jdk_65_method_121_code 3 = .ok (.if_icmp .ne 11, 3) := by decide +kernel
theorem dco_14 : decode jdk_65_method_121_code 14 = .ok (.iload_n 1, 1) := by decide +kernel
theorem dco_15 : decode jdk_65_method_121_code 15 = .ok (.newarray .byte, 2) := by decide +kernel
theorem dco_17 : decode jdk_65_method_121_code 17 = .ok (.astore_n 2, 1) := by decide +kernel
theorem dco_18 : decode jdk_65_method_121_code 18 = .ok (.aload_n 0, 1) := by decide +kernel
theorem dco_19 : decode jdk_65_method_121_code 19 = .ok (.iconst 0, 1) := by decide +kernel
theorem dco_20 : decode jdk_65_method_121_code 20 = .ok (.aload_n 2, 1) := by decide +kernel
theorem dco_21 : decode jdk_65_method_121_code 21 = .ok (.iconst 0, 1) := by decide +kernel
theorem dco_22 : decode jdk_65_method_121_code 22 = .ok (.aload_n 0, 1) := by decide +kernel
theorem dco_23 : decode jdk_65_method_121_code 23 = .ok (.arraylength, 1) := by decide +kernel
theorem dco_24 : decode jdk_65_method_121_code 24 = .ok (.iload_n 1, 1) := by decide +kernel
theorem dco_25 : decode jdk_65_method_121_code 25 = .ok (.invokestatic 304, 3) := by decide +kernel
theorem dco_28 : decode jdk_65_method_121_code 28 = .ok (.invokestatic 150, 3) := by decide +kernel
theorem dco_31 : decode jdk_65_method_121_code 31 = .ok (.aload_n 2, 1) := by decide +kernel
theorem dco_32 : decode jdk_65_method_121_code 32 = .ok (.areturn, 1) := by decide +kernel
set_option maxRecDepth 65536 in
set_option maxHeartbeats 4000000 in
theorem rmco (l : Launch) {Z : State} {a0 : Array Value} (G : OG Z a0) (n0 : Nat) (a : Addr) (k : ClassId) (bs : List Int32) (hl : bs.length ≤ 16) (h0 : Heap) (A : Arv Z h0 a k .byte 16 (BB bs 16) (.int 0)) : oConG l Z n0 EL1 [] (⟨"java/util/Arrays", "copyOf", "([BI)[B"⟩ : MethodName) ico #[.ref a, .int 34] h0 (oR Z EL1 (fun v h rs => ∃ d k', rs = [d] ∧ v = some (.ref d) ∧ h0.size ≤ d ∧ Ext h0 h ∧ Arv Z h d k' .byte 34 (BB bs 34) (.int 0) ∧ Exa Z h d "[B")) := by
  obtain ⟨hw, hEL, ⟨cmp, hC, hc0⟩, ⟨fm, hfm, hF⟩⟩ := id G
  refine oCon.mk hEL pnco rfl rfl (efco a 34) fun C hCl => ?_
  refine s_iloadN (pc' := 1) dco_0 rfl rfl ?_
  refine s_aloadN (pc' := 2) dco_1 rfl rfl rfl ?_
  refine s_alen A (pc' := 3) dco_2 rfl ?_
  refine s_icmp (pc' := 6) (pc'' := 14) dco_3 rfl (by decide) rfl (fun hc3 => ?_) (fun hc3 => ?_)
  · replace hc3 := b_ne hc3
    refine s_iloadN (pc' := 15) dco_14 rfl rfl ?_
    refine s_newAE 34 (ad := "[B") (by decide) (hw _ (List.mem_of_getElem? (i := 19) rfl)) (pc' := 17) dco_15 rfl (by decide) (by decide) (by decide) (Nat.le_of_ble_eq_true rfl) (Nat.le_of_ble_eq_true rfl) (fun h15 b15 k15 g15 nb15 E15 A15 X15 => ?_)
    replace A15 := o_padTo A15 34
    rw [List.nil_append] at A15
    replace A := A.ext E15
    refine s_astoreN (kn := 2) rfl (pc' := 18) dco_17 rfl rfl (o_st rfl (by first | exact One.u | exact One.val rfl | assumption) rfl) ?_
    dsimp only [List.set_cons_succ, List.set_cons_zero]
    refine s_aloadN (pc' := 19) dco_18 rfl rfl rfl ?_
    refine s_iconst (x := (0 : Int32)) (pc' := 20) dco_19 rfl rfl ?_
    refine s_aloadN (pc' := 21) dco_20 rfl rfl rfl ?_
    refine s_iconst (x := (0 : Int32)) (pc' := 22) dco_21 rfl rfl ?_
    refine s_aloadN (pc' := 23) dco_22 rfl rfl rfl ?_
    refine s_alen A (pc' := 24) dco_23 rfl ?_
    refine s_iloadN (pc' := 25) dco_24 rfl rfl ?_
    refine s_callS2 (rmmn C.l G n0 16 34 _) (by simp) (hw _ (List.mem_of_getElem? (i := 157) rfl)) (hw _ (List.mem_of_getElem? (i := 158) rfl)) (hw _ (List.mem_of_getElem? (i := 159) rfl)) (hw _ (List.mem_of_getElem? (i := 160) rfl)) (by decide) (o_len pdmn rfl) rfl (pc' := 28) dco_25 rfl (Nat.le_of_ble_eq_true rfl) (Nat.le_of_ble_eq_true rfl) (Nat.le_of_ble_eq_true rfl) (Nat.le_of_ble_eq_true rfl) (fun v25 h25 hQ25 => ?_)
    obtain ⟨rfl, rfl⟩ := hQ25
    dsimp only [oPush]
    rw [if_neg (by decide)]
    refine s_copy A A15 rfl nb15 (by simp) (hw _ (List.mem_of_getElem? (i := 161) rfl)) (hw _ (List.mem_of_getElem? (i := 115) rfl)) (hw _ (List.mem_of_getElem? (i := 113) rfl)) (hw _ (List.mem_of_getElem? (i := 114) rfl)) (by decide) (by decide) (by decide) (by decide) (by decide) (by simp) rfl (pc' := 31) dco_28 rfl (Nat.le_of_ble_eq_true rfl) (Nat.le_of_ble_eq_true rfl) (fun h28 K28 A28 => ?_)
    replace A28 := Eq.mp (congrArg (fun z => Arv Z h28 b15 k15 .byte 34 z (.int 0)) (BB_grow hl)) A28
    refine s_aloadN (pc' := 32) dco_31 rfl rfl rfl ?_
    exact s_aretR rfl rfl rfl dco_32 (Nat.le_of_ble_eq_true rfl) (Nat.le_of_ble_eq_true rfl) [b15] (by simp) ⟨b15, k15, rfl, rfl, Nat.le_of_eq g15.symm, o_extKeep E15 K28 (allS (Nat.le_of_eq g15.symm) all0), A28, X15.keep K28⟩
  · replace hc3 := b_neF hc3
    exact absurd hc3 (by decide)
def iec : OInfo := ("java/lang/AbstractStringBuilder", jdk_68_method_9_code, 3, none, "ensureCapacityInternal", ({ frames := 3, cells := 1, slots := 34, locals := 48 } : Room))
theorem efec (x0 : Addr) (x1 : Int32) (m : MethodId) : entryFrame m #[(.ref x0), (.int x1)] 3 = mkF m 0 #[.val (.ref x0), .val (.int x1), .unset] [] := by first | (simp [entryFrame, mkF, argsToLocals, Value.category]; done) | rfl
theorem pdec : parseMethodDescriptor "(I)V" = some ⟨[.int], none⟩ := by decide +kernel
theorem pnec : plainFor (⟨"java/lang/AbstractStringBuilder", "ensureCapacityInternal", "(I)V"⟩ : MethodName) = true := by decide +kernel
theorem dec_0 : decode jdk_68_method_9_code 0 = .ok (.aload_n 0, 1) := by decide +kernel
theorem dec_1 : decode jdk_68_method_9_code 1 = .ok (.getfield 15, 3) := by decide +kernel
theorem dec_4 : decode jdk_68_method_9_code 4 = .ok (.arraylength, 1) := by decide +kernel
theorem dec_5 : decode jdk_68_method_9_code 5 = .ok (.aload_n 0, 1) := by decide +kernel
theorem dec_6 : decode jdk_68_method_9_code 6 = .ok (.getfield 22, 3) := by decide +kernel
theorem dec_9 : decode jdk_68_method_9_code 9 = .ok (.ishr, 1) := by decide +kernel
theorem dec_10 : decode jdk_68_method_9_code 10 = .ok (.istore_n 2, 1) := by decide +kernel
theorem dec_11 : decode jdk_68_method_9_code 11 = .ok (.iload_n 1, 1) := by decide +kernel
theorem dec_12 : decode jdk_68_method_9_code 12 = .ok (.iload_n 2, 1) := by decide +kernel
theorem dec_13 : decode jdk_68_method_9_code 13 = .ok (.isub, 1) := by decide +kernel
theorem dec_14 : decode jdk_68_method_9_code 14 = .ok (.ifCond .le 24, 3) := by decide +kernel
theorem dec_17 : decode jdk_68_method_9_code 17 = .ok (.aload_n 0, 1) := by decide +kernel
theorem dec_18 : decode jdk_68_method_9_code 18 = .ok (.aload_n 0, 1) := by decide +kernel
theorem dec_19 : decode jdk_68_method_9_code 19 = .ok (.getfield 15, 3) := by decide +kernel
theorem dec_22 : decode jdk_68_method_9_code 22 = .ok (.aload_n 0, 1) := by decide +kernel
theorem dec_23 : decode jdk_68_method_9_code 23 = .ok (.iload_n 1, 1) := by decide +kernel
theorem dec_24 : decode jdk_68_method_9_code 24 = .ok (.invokevirtual 104, 3) := by decide +kernel
theorem dec_27 : decode jdk_68_method_9_code 27 = .ok (.aload_n 0, 1) := by decide +kernel
theorem dec_28 : decode jdk_68_method_9_code 28 = .ok (.getfield 22, 3) := by decide +kernel
theorem dec_31 : decode jdk_68_method_9_code 31 = .ok (.ishl, 1) := by decide +kernel
theorem dec_32 : decode jdk_68_method_9_code 32 = .ok (.invokestatic 108, 3) := by decide +kernel
theorem dec_35 : decode jdk_68_method_9_code 35 = .ok (.putfield 15, 3) := by decide +kernel
theorem dec_38 : decode jdk_68_method_9_code 38 = .ok (.return_, 1) := by decide +kernel
set_option maxRecDepth 65536 in
set_option maxHeartbeats 4000000 in
theorem rmec (l : Launch) {Z : State} {a0 : Array Value} (G : OG Z a0) (n0 : Nat) (b a : Addr) (k : ClassId) (cap m : Nat) (bs : List Int32) (h0 : Heap) (hm : m ≤ cap ∨ (cap = 16 ∧ m ≤ 34)) (gb : n0 ≤ b) (B : BD Z h0 b a k cap bs) : oConG l Z n0 EL1 [b, a] (⟨"java/lang/AbstractStringBuilder", "ensureCapacityInternal", "(I)V"⟩ : MethodName) iec #[.ref b, .int (Int32.ofNat m)] h0 (oR Z EL1 (fun v h rs => ∃ a' k' cap', rs = [a'] ∧ v = none ∧ BD Z h b a' k' cap' bs ∧ m ≤ cap' ∧ Keep h0 h [b] ∧ (a' = a ∨ h0.size ≤ a') ∧ (cap' = cap ∨ cap' = 34))) := by
  obtain ⟨hw, hEL, ⟨cmp, hC, hc0⟩, ⟨fm, hfm, hF⟩⟩ := id G
  obtain ⟨XB, FV, FC, FN, A, XA, hl, hc⟩ := B
  refine oCon.mk hEL pnec rfl rfl (efec b _) fun C hCl => ?_
  refine s_aloadN (pc' := 1) dec_0 rfl rfl rfl ?_
  refine s_getF FV (host := "") (Or.inl (hw _ (List.mem_of_getElem? (i := 64) rfl))) Via.refl (pc' := 4) dec_1 rfl ?_
  refine s_alen A (pc' := 5) dec_4 rfl ?_
  refine s_aloadN (pc' := 6) dec_5 rfl rfl rfl ?_
  refine s_getF FC (host := "") (Or.inl (hw _ (List.mem_of_getElem? (i := 66) rfl))) Via.refl (pc' := 9) dec_6 rfl ?_
  refine s_ishr (pc' := 10) dec_9 rfl ?_
  rw [shr_zero]
  refine s_istoreN (kn := 2) rfl (pc' := 11) dec_10 rfl (o_st rfl (by first | exact One.u | exact One.val rfl | assumption) rfl) ?_
  dsimp only [List.set_cons_succ, List.set_cons_zero]
  refine s_iloadN (pc' := 12) dec_11 rfl rfl ?_
  refine s_iloadN (pc' := 13) dec_12 rfl rfl ?_
  refine s_isub (pc' := 14) dec_13 rfl ?_
  refine s_if (pc' := 17) (pc'' := 38) dec_14 rfl (by decide) rfl (fun hc14 => ?_) (fun hc14 => ?_)
  · replace hc14 := b_le hc14
    rw [n_subp (by omega) (by omega)] at hc14
    first
    | exact s_retR rfl dec_38 (Nat.le_of_ble_eq_true rfl) (Nat.le_of_ble_eq_true rfl) [d] (by simp) ⟨d, k2, 34, rfl, rfl, ⟨(XB.ext E32).wr W35, ((FV.ext E32).same W35), ((FC.ext E32).other W35 (Or.inr (slot_ne (Or.inl (hw _ (List.mem_of_getElem? (i := 67) rfl))) (Or.inl (hw _ (List.mem_of_getElem? (i := 65) rfl))) (by decide) (t := .byte) (t' := (.array .byte)) (by decide) (by decide)))), ((FN.ext E32).other W35 (Or.inr (slot_ne (Or.inl (hw _ (List.mem_of_getElem? (i := 90) rfl))) (Or.inl (hw _ (List.mem_of_getElem? (i := 65) rfl))) (by decide) (t := .int) (t' := (.array .byte)) (by decide) (by decide)))), A32.other W35 hne, X32.wr W35, by omega, by omega⟩, hm2, ((Keep.refl _ [b]).ext E32).wr W35 (Or.inl (List.mem_cons_self ..)), Or.inr gd, Or.inr rfl⟩
    | exact s_retR rfl dec_38 (Nat.le_of_ble_eq_true rfl) (Nat.le_of_ble_eq_true rfl) [a] (by simp) ⟨a, k, cap, rfl, rfl, ⟨XB, FV, FC, FN, A, XA, hl, hc⟩, by omega, Keep.refl _ _, Or.inl rfl, Or.inl rfl⟩
  · replace hc14 := b_leF hc14
    rw [n_subp (by omega) (by omega)] at hc14
    obtain ⟨rfl, hm2⟩ : cap = 16 ∧ m ≤ 34 := by omega
    have hg : ¬ (18 : Int32) < Int32.ofNat m - 16 := by
      have q := n_sub (a := m) (b := 16) (by omega) (by omega)
      rw [o_lt]; show ¬ ((18 : Int) < (Int32.ofNat m - Int32.ofNat 16).toInt); rw [q]; omega
    refine s_aloadN (pc' := 18) dec_17 rfl rfl rfl ?_
    refine s_aloadN (pc' := 19) dec_18 rfl rfl rfl ?_
    refine s_getF FV (host := "") (Or.inl (hw _ (List.mem_of_getElem? (i := 64) rfl))) Via.refl (pc' := 22) dec_19 rfl ?_
    refine s_aloadN (pc' := 23) dec_22 rfl rfl rfl ?_
    refine s_iloadN (pc' := 24) dec_23 rfl rfl ?_
    refine s_callV1 (rmnc C.l G n0 b a k _ _ (Int32.ofNat m) hg h0 FV FC A) (by simp) XB (hw _ (List.mem_of_getElem? (i := 235) rfl)) (o_declOf (hw _ (List.mem_of_getElem? (i := 236) rfl)) (hw _ (List.mem_of_getElem? (i := 239) rfl))) (hw _ (List.mem_of_getElem? (i := 238) rfl)) (hw _ (List.mem_of_getElem? (i := 236) rfl)) (o_nf (hw _ (List.mem_of_getElem? (i := 238) rfl)) rfl) (hw _ (List.mem_of_getElem? (i := 60) rfl)) (hw _ (List.mem_of_getElem? (i := 239) rfl)) (by decide) (o_len pdnc rfl) rfl (pc' := 27) dec_24 rfl (Nat.le_of_ble_eq_true rfl) (Nat.le_of_ble_eq_true rfl) (Nat.le_of_ble_eq_true rfl) (Nat.le_of_ble_eq_true rfl) (fun v24 h24 hQ24 => ?_)
    obtain ⟨rfl, rfl⟩ := hQ24
    dsimp only [oPush]
    refine s_aloadN (pc' := 28) dec_27 rfl rfl rfl ?_
    refine s_getF FC (host := "") (Or.inl (hw _ (List.mem_of_getElem? (i := 66) rfl))) Via.refl (pc' := 31) dec_28 rfl ?_
    refine s_ishl (pc' := 32) dec_31 rfl ?_
    rw [shl_zero]
    refine s_callS2R (rmco C.l G n0 a k bs hl _ A) (by simp) (hw _ (List.mem_of_getElem? (i := 249) rfl)) (hw _ (List.mem_of_getElem? (i := 250) rfl)) (hw _ (List.mem_of_getElem? (i := 149) rfl)) (hw _ (List.mem_of_getElem? (i := 251) rfl)) (by decide) (o_len pdco rfl) rfl (pc' := 35) dec_32 rfl (Nat.le_of_ble_eq_true rfl) (Nat.le_of_ble_eq_true rfl) (Nat.le_of_ble_eq_true rfl) (Nat.le_of_ble_eq_true rfl) (fun v32 h32 rs32 hQ32 => ?_)
    obtain ⟨d, k2, rfl, rfl, gd, E32, A32, X32⟩ := hQ32
    dsimp only [oPush]
    have hne : d ≠ b := (o_fresh' XB.lt gd).symm
    refine s_putF (FV.ext E32) (XB.ext E32) gb (by simp) (host := "") (Or.inl (hw _ (List.mem_of_getElem? (i := 64) rfl))) Via.refl (Or.inl (hw _ (List.mem_of_getElem? (i := 65) rfl))) (hw _ (List.mem_of_getElem? (i := 51) rfl)) (ty := .array .byte) (by decide) rfl rfl (pc' := 38) dec_35 rfl (fun h35 W35 => ?_)
    first
    | exact s_retR rfl dec_38 (Nat.le_of_ble_eq_true rfl) (Nat.le_of_ble_eq_true rfl) [d] (by simp) ⟨d, k2, 34, rfl, rfl, ⟨(XB.ext E32).wr W35, ((FV.ext E32).same W35), ((FC.ext E32).other W35 (Or.inr (slot_ne (Or.inl (hw _ (List.mem_of_getElem? (i := 67) rfl))) (Or.inl (hw _ (List.mem_of_getElem? (i := 65) rfl))) (by decide) (t := .byte) (t' := (.array .byte)) (by decide) (by decide)))), ((FN.ext E32).other W35 (Or.inr (slot_ne (Or.inl (hw _ (List.mem_of_getElem? (i := 90) rfl))) (Or.inl (hw _ (List.mem_of_getElem? (i := 65) rfl))) (by decide) (t := .int) (t' := (.array .byte)) (by decide) (by decide)))), A32.other W35 hne, X32.wr W35, by omega, by omega⟩, hm2, ((Keep.refl _ [b]).ext E32).wr W35 (Or.inl (List.mem_cons_self ..)), Or.inr gd, Or.inr rfl⟩
    | exact s_retR rfl dec_38 (Nat.le_of_ble_eq_true rfl) (Nat.le_of_ble_eq_true rfl) [a] (by simp) ⟨a, k, cap, rfl, rfl, ⟨XB, FV, FC, FN, A, XA, hl, hc⟩, by omega, Keep.refl _ _, Or.inl rfl, Or.inl rfl⟩
def inf : OInfo := ("java/lang/AbstractStringBuilder", jdk_68_method_71_code, 2, none, "inflateIfNeededFor", ({ frames := 1, cells := 0, slots := 0, locals := 13 } : Room))
theorem efnf (x0 : Addr) (x1 : Addr) (m : MethodId) : entryFrame m #[(.ref x0), (.ref x1)] 2 = mkF m 0 #[.val (.ref x0), .val (.ref x1)] [] := by first | (simp [entryFrame, mkF, argsToLocals, Value.category]; done) | rfl
theorem pdnf : parseMethodDescriptor "(Ljava/lang/String;)V" = some ⟨[(.object "java/lang/String")], none⟩ := by decide +kernel
theorem pnnf : plainFor (⟨"java/lang/AbstractStringBuilder", "inflateIfNeededFor", "(Ljava/lang/String;)V"⟩ : MethodName) = true := by decide +kernel
theorem dnf_0 : decode jdk_68_method_71_code 0 = .ok (.getstatic 18, 3) := by decide +kernel
theorem dnf_3 : decode jdk_68_method_71_code 3 = .ok (.ifCond .eq 18, 3) := by decide +kernel
theorem dnf_6 : decode jdk_68_method_71_code 6 = .ok (.aload_n 0, 1) := by decide +kernel
theorem dnf_7 : decode jdk_68_method_71_code 7 = .ok (.getfield 22, 3) := by decide +kernel
theorem dnf_10 : decode jdk_68_method_71_code 10 = .ok (.aload_n 1, 1) := by decide +kernel
theorem dnf_11 : decode jdk_68_method_71_code 11 = .ok (.invokevirtual 40, 3) := by decide +kernel
theorem dnf_14 : decode jdk_68_method_71_code 14 = .ok (.if_icmp .eq 7, 3) := by decide +kernel
theorem dnf_21 : decode jdk_68_method_71_code 21 = .ok (.return_, 1) := by decide +kernel
set_option maxRecDepth 65536 in
set_option maxHeartbeats 4000000 in
theorem rmnf (l : Launch) {Z : State} {a0 : Array Value} (G : OG Z a0) (n0 : Nat) (b s : Addr) (h0 : Heap) (FC : Fld Z h0 b "java/lang/AbstractStringBuilder" "coder" "B" (.int 0)) (E1 : Exa Z h0 s "java/lang/String") (C1 : Fld Z h0 s "java/lang/String" "coder" "B" (.int 0)) : oCon l Z n0 EL1 [] (⟨"java/lang/AbstractStringBuilder", "inflateIfNeededFor", "(Ljava/lang/String;)V"⟩ : MethodName) inf #[.ref b, .ref s] h0 (fun v h => v = none ∧ h = h0) := by
  obtain ⟨hw, hEL, ⟨cmp, hC, hc0⟩, ⟨fm, hfm, hF⟩⟩ := id G
  refine oCon.mk hEL pnnf rfl rfl (efnf b s) fun C hCl => ?_
  refine s_getS hC (hw _ (List.mem_of_getElem? (i := 63) rfl)) Via.refl (pc' := 3) dnf_0 rfl ?_
  refine s_if (pc' := 6) (pc'' := 21) dnf_3 rfl (by decide) rfl (fun hc3 => ?_) (fun hc3 => ?_)
  · replace hc3 := b_eq hc3
    exact absurd hc3 hc0
  · replace hc3 := b_eqF hc3
    refine s_aloadN (pc' := 7) dnf_6 rfl rfl rfl ?_
    refine s_getF FC (host := "") (Or.inl (hw _ (List.mem_of_getElem? (i := 66) rfl))) Via.refl (pc' := 10) dnf_7 rfl ?_
    refine s_aloadN (pc' := 11) dnf_10 rfl rfl rfl ?_
    refine s_callV0 (rmsK C.l G n0 s h0 C1) (by simp) E1 (hw _ (List.mem_of_getElem? (i := 106) rfl)) (hw _ (List.mem_of_getElem? (i := 84) rfl)) (hw _ (List.mem_of_getElem? (i := 86) rfl)) (hw _ (List.mem_of_getElem? (i := 85) rfl)) (o_nf (hw _ (List.mem_of_getElem? (i := 86) rfl)) rfl) (hw _ (List.mem_of_getElem? (i := 6) rfl)) (hw _ (List.mem_of_getElem? (i := 87) rfl)) (by decide) (o_len pdsK rfl) rfl (pc' := 14) dnf_11 rfl (Nat.le_of_ble_eq_true rfl) (Nat.le_of_ble_eq_true rfl) (Nat.le_of_ble_eq_true rfl) (Nat.le_of_ble_eq_true rfl) (fun v11 h11 hQ11 => ?_)
    obtain ⟨rfl, rfl⟩ := hQ11
    dsimp only [oPush]
    refine s_icmp (pc' := 17) (pc'' := 21) dnf_14 rfl (by decide) rfl (fun hc14 => ?_) (fun hc14 => ?_)
    · replace hc14 := b_eq hc14
      exact s_ret rfl dnf_21 (Nat.le_of_ble_eq_true rfl) (Nat.le_of_ble_eq_true rfl) ⟨rfl, rfl⟩
    · replace hc14 := b_eqF hc14
      exact absurd rfl hc14
def igb : OInfo := ("java/lang/String", jdk_42_method_147_code, 4, none, "getBytes", ({ frames := 1, cells := 0, slots := 0, locals := 30 } : Room))
theorem efgb (x0 : Addr) (x1 : Addr) (x2 : Int32) (x3 : Int32) (m : MethodId) : entryFrame m #[(.ref x0), (.ref x1), (.int x2), (.int x3)] 4 = mkF m 0 #[.val (.ref x0), .val (.ref x1), .val (.int x2), .val (.int x3)] [] := by first | (simp [entryFrame, mkF, argsToLocals, Value.category]; done) | rfl
theorem pdgb : parseMethodDescriptor "([BIB)V" = some ⟨[(.array .byte), .int, .byte], none⟩ := by decide +kernel
theorem pngb : plainFor (⟨"java/lang/String", "getBytes", "([BIB)V"⟩ : MethodName) = true := by decide +kernel
theorem dgb_0 : decode jdk_42_method_147_code 0 = .ok (.aload_n 0, 1) := by decide +kernel
theorem dgb_1 : decode jdk_42_method_147_code 1 = .ok (.invokevirtual 335, 3) := by decide +kernel
theorem dgb_4 : decode jdk_42_method_147_code 4 = .ok (.iload_n 3, 1) := by decide +kernel
theorem dgb_5 : decode jdk_42_method_147_code 5 = .ok (.if_icmp .ne 23, 3) := by decide +kernel
theorem dgb_8 : decode jdk_42_method_147_code 8 = .ok (.aload_n 0, 1) := by decide +kernel
theorem dgb_9 : decode jdk_42_method_147_code 9 = .ok (.getfield 9, 3) := by decide +kernel
theorem dgb_12 : decode jdk_42_method_147_code 12 = .ok (.iconst 0, 1) := by decide +kernel
theorem dgb_13 : decode jdk_42_method_147_code 13 = .ok (.aload_n 1, 1) := by decide +kernel
theorem dgb_14 : decode jdk_42_method_147_code 14 = .ok (.iload_n 2, 1) := by decide +kernel
theorem dgb_15 : decode jdk_42_method_147_code 15 = .ok (.iload_n 3, 1) := by decide +kernel
theorem dgb_16 : decode jdk_42_method_147_code 16 = .ok (.ishl, 1) := by decide +kernel
theorem dgb_17 : decode jdk_42_method_147_code 17 = .ok (.aload_n 0, 1) := by decide +kernel
theorem dgb_18 : decode jdk_42_method_147_code 18 = .ok (.getfield 9, 3) := by decide +kernel
theorem dgb_21 : decode jdk_42_method_147_code 21 = .ok (.arraylength, 1) := by decide +kernel
theorem dgb_22 : decode jdk_42_method_147_code 22 = .ok (.invokestatic 212, 3) := by decide +kernel
theorem dgb_25 : decode jdk_42_method_147_code 25 = .ok (.goto 18, 3) := by decide +kernel
theorem dgb_43 : decode jdk_42_method_147_code 43 = .ok (.return_, 1) := by decide +kernel
set_option maxRecDepth 65536 in
set_option maxHeartbeats 4000000 in
theorem rmgb (l : Launch) {Z : State} {a0 : Array Value} (G : OG Z a0) (n0 : Nat) (s a d : Addr) (k kd : ClassId) (cap : Nat) (bs cs : List Int32) (hl : bs.length + cs.length ≤ cap) (hc : cap ≤ 64) (h0 : Heap) (ga : n0 ≤ a) (A : Arv Z h0 a k .byte (Int32.ofNat cap) (BB bs cap) (.int 0)) (E1 : Exa Z h0 s "java/lang/String") (C1 : Fld Z h0 s "java/lang/String" "coder" "B" (.int 0)) (V1 : Fld Z h0 s "java/lang/String" "value" "[B" (.ref d)) (D1 : Arv Z h0 d kd .byte (Int32.ofNat cs.length) (cs.map fun c => Value.int (byt c)) (.int 0)) : oCon l Z n0 EL1 [a] (⟨"java/lang/String", "getBytes", "([BIB)V"⟩ : MethodName) igb #[.ref s, .ref a, .int (Int32.ofNat bs.length), .int 0] h0 (fun v h => v = none ∧ Keep h0 h [a] ∧ Arv Z h a k .byte (Int32.ofNat cap) (BB (bs ++ cs) cap) (.int 0)) := by
  obtain ⟨hw, hEL, ⟨cmp, hC, hc0⟩, ⟨fm, hfm, hF⟩⟩ := id G
  refine oCon.mk hEL pngb rfl rfl (efgb s a _ 0) fun C hCl => ?_
  refine s_aloadN (pc' := 1) dgb_0 rfl rfl rfl ?_
  refine s_callV0 (rmsK C.l G n0 s h0 C1) (by simp) E1 (hw _ (List.mem_of_getElem? (i := 83) rfl)) (hw _ (List.mem_of_getElem? (i := 84) rfl)) (hw _ (List.mem_of_getElem? (i := 86) rfl)) (hw _ (List.mem_of_getElem? (i := 85) rfl)) (o_nf (hw _ (List.mem_of_getElem? (i := 86) rfl)) rfl) (hw _ (List.mem_of_getElem? (i := 6) rfl)) (hw _ (List.mem_of_getElem? (i := 87) rfl)) (by decide) (o_len pdsK rfl) rfl (pc' := 4) dgb_1 rfl (Nat.le_of_ble_eq_true rfl) (Nat.le_of_ble_eq_true rfl) (Nat.le_of_ble_eq_true rfl) (Nat.le_of_ble_eq_true rfl) (fun v1 h1 hQ1 => ?_)
  obtain ⟨rfl, rfl⟩ := hQ1
  dsimp only [oPush]
  refine s_iloadN (pc' := 5) dgb_4 rfl rfl ?_
  refine s_icmp (pc' := 8) (pc'' := 28) dgb_5 rfl (by decide) rfl (fun hc5 => ?_) (fun hc5 => ?_)
  · replace hc5 := b_ne hc5
    exact absurd rfl hc5
  · replace hc5 := b_neF hc5
    refine s_aloadN (pc' := 9) dgb_8 rfl rfl rfl ?_
    refine s_getF V1 (host := "") (Or.inl (hw _ (List.mem_of_getElem? (i := 24) rfl))) Via.refl (pc' := 12) dgb_9 rfl ?_
    refine s_iconst (x := (0 : Int32)) (pc' := 13) dgb_12 rfl rfl ?_
    refine s_aloadN (pc' := 14) dgb_13 rfl rfl rfl ?_
    refine s_iloadN (pc' := 15) dgb_14 rfl rfl ?_
    refine s_iloadN (pc' := 16) dgb_15 rfl rfl ?_
    refine s_ishl (pc' := 17) dgb_16 rfl ?_
    rw [shl_zero]
    refine s_aloadN (pc' := 18) dgb_17 rfl rfl rfl ?_
    refine s_getF V1 (host := "") (Or.inl (hw _ (List.mem_of_getElem? (i := 24) rfl))) Via.refl (pc' := 21) dgb_18 rfl ?_
    refine s_alen D1 (pc' := 22) dgb_21 rfl ?_
    refine s_copy D1 A rfl ga (by simp) (hw _ (List.mem_of_getElem? (i := 112) rfl)) (hw _ (List.mem_of_getElem? (i := 115) rfl)) (hw _ (List.mem_of_getElem? (i := 113) rfl)) (hw _ (List.mem_of_getElem? (i := 114) rfl)) (by decide) (nn (by omega)) (nn (by omega)) (by rw [cl (by omega)]; show 0 + _ ≤ _; omega) (by rw [cl (by omega), cl (by omega), cl (by omega)]; exact hl) (by rw [cl (by omega), cl (by omega), BB_len (by omega)]; exact hl) rfl (pc' := 25) dgb_22 rfl (Nat.le_of_ble_eq_true rfl) (Nat.le_of_ble_eq_true rfl) (fun h22 K22 A22 => ?_)
    rw [cl (show bs.length < 2147483648 by omega), cl (show cs.length < 2147483648 by omega), show (0 : Int32).toNatClampNeg = 0 from rfl, BB_app hl] at A22
    refine s_goto (pc' := 43) dgb_25 (by decide) rfl ?_
    exact s_ret rfl dgb_43 (Nat.le_of_ble_eq_true rfl) (Nat.le_of_ble_eq_true rfl) ⟨rfl, K22, A22⟩
def ips : OInfo := ("java/lang/AbstractStringBuilder", jdk_68_method_73_code, 3, none, "putStringAt", ({ frames := 2, cells := 0, slots := 0, locals := 45 } : Room))
theorem efps (x0 : Addr) (x1 : Int32) (x2 : Addr) (m : MethodId) : entryFrame m #[(.ref x0), (.int x1), (.ref x2)] 3 = mkF m 0 #[.val (.ref x0), .val (.int x1), .val (.ref x2)] [] := by first | (simp [entryFrame, mkF, argsToLocals, Value.category]; done) | rfl
theorem pdps : parseMethodDescriptor "(ILjava/lang/String;)V" = some ⟨[.int, (.object "java/lang/String")], none⟩ := by decide +kernel
theorem pnps : plainFor (⟨"java/lang/AbstractStringBuilder", "putStringAt", "(ILjava/lang/String;)V"⟩ : MethodName) = true := by decide +kernel
theorem dps_0 : decode jdk_68_method_73_code 0 = .ok (.aload_n 0, 1) := by decide +kernel
theorem dps_1 : decode jdk_68_method_73_code 1 = .ok (.aload_n 2, 1) := by decide +kernel
theorem dps_2 : decode jdk_68_method_73_code 2 = .ok (.invokevirtual 397, 3) := by decide +kernel
theorem dps_5 : decode jdk_68_method_73_code 5 = .ok (.aload_n 2, 1) := by decide +kernel
theorem dps_6 : decode jdk_68_method_73_code 6 = .ok (.aload_n 0, 1) := by decide +kernel
theorem dps_7 : decode jdk_68_method_73_code 7 = .ok (.getfield 15, 3) := by decide +kernel
theorem dps_10 : decode jdk_68_method_73_code 10 = .ok (.iload_n 1, 1) := by decide +kernel
theorem dps_11 : decode jdk_68_method_73_code 11 = .ok (.aload_n 0, 1) := by decide +kernel
theorem dps_12 : decode jdk_68_method_73_code 12 = .ok (.getfield 22, 3) := by decide +kernel
theorem dps_15 : decode jdk_68_method_73_code 15 = .ok (.invokevirtual 399, 3) := by decide +kernel
theorem dps_18 : decode jdk_68_method_73_code 18 = .ok (.return_, 1) := by decide +kernel
set_option maxRecDepth 65536 in
set_option maxHeartbeats 4000000 in
theorem rmps (l : Launch) {Z : State} {a0 : Array Value} (G : OG Z a0) (n0 : Nat) (b s a d : Addr) (k kd : ClassId) (cap : Nat) (bs cs : List Int32) (hlc : bs.length + cs.length ≤ cap) (h0 : Heap) (ga : n0 ≤ a) (B : BD Z h0 b a k cap bs) (E1 : Exa Z h0 s "java/lang/String") (C1 : Fld Z h0 s "java/lang/String" "coder" "B" (.int 0)) (V1 : Fld Z h0 s "java/lang/String" "value" "[B" (.ref d)) (D1 : Arv Z h0 d kd .byte (Int32.ofNat cs.length) (cs.map fun c => Value.int (byt c)) (.int 0)) : oCon l Z n0 EL1 [a] (⟨"java/lang/AbstractStringBuilder", "putStringAt", "(ILjava/lang/String;)V"⟩ : MethodName) ips #[.ref b, .int (Int32.ofNat bs.length), .ref s] h0 (fun v h => v = none ∧ Keep h0 h [a] ∧ Arv Z h a k .byte (Int32.ofNat cap) (BB (bs ++ cs) cap) (.int 0)) := by
  obtain ⟨hw, hEL, ⟨cmp, hC, hc0⟩, ⟨fm, hfm, hF⟩⟩ := id G
  obtain ⟨XB, FV, FC, FN, A, XA, hl, hc⟩ := B
  refine oCon.mk hEL pnps rfl rfl (efps b _ s) fun C hCl => ?_
  refine s_aloadN (pc' := 1) dps_0 rfl rfl rfl ?_
  refine s_aloadN (pc' := 2) dps_1 rfl rfl rfl ?_
  refine s_callV1 (rmnf C.l G n0 b s h0 FC E1 C1) (by simp) XB (hw _ (List.mem_of_getElem? (i := 101) rfl)) (o_declOf (hw _ (List.mem_of_getElem? (i := 102) rfl)) (hw _ (List.mem_of_getElem? (i := 105) rfl))) (hw _ (List.mem_of_getElem? (i := 104) rfl)) (hw _ (List.mem_of_getElem? (i := 102) rfl)) (o_nf (hw _ (List.mem_of_getElem? (i := 104) rfl)) rfl) (hw _ (List.mem_of_getElem? (i := 60) rfl)) (hw _ (List.mem_of_getElem? (i := 105) rfl)) (by decide) (o_len pdnf rfl) rfl (pc' := 5) dps_2 rfl (Nat.le_of_ble_eq_true rfl) (Nat.le_of_ble_eq_true rfl) (Nat.le_of_ble_eq_true rfl) (Nat.le_of_ble_eq_true rfl) (fun v2 h2 hQ2 => ?_)
  obtain ⟨rfl, rfl⟩ := hQ2
  dsimp only [oPush]
  refine s_aloadN (pc' := 6) dps_5 rfl rfl rfl ?_
  refine s_aloadN (pc' := 7) dps_6 rfl rfl rfl ?_
  refine s_getF FV (host := "") (Or.inl (hw _ (List.mem_of_getElem? (i := 64) rfl))) Via.refl (pc' := 10) dps_7 rfl ?_
  refine s_iloadN (pc' := 11) dps_10 rfl rfl ?_
  refine s_aloadN (pc' := 12) dps_11 rfl rfl rfl ?_
  refine s_getF FC (host := "") (Or.inl (hw _ (List.mem_of_getElem? (i := 66) rfl))) Via.refl (pc' := 15) dps_12 rfl ?_
  refine s_callV3 (rmgb C.l G n0 s a d k kd cap bs cs hlc hc _ ga A E1 C1 V1 D1) (by simp) E1 (hw _ (List.mem_of_getElem? (i := 107) rfl)) (hw _ (List.mem_of_getElem? (i := 108) rfl)) (hw _ (List.mem_of_getElem? (i := 110) rfl)) (hw _ (List.mem_of_getElem? (i := 109) rfl)) (o_nf (hw _ (List.mem_of_getElem? (i := 110) rfl)) rfl) (hw _ (List.mem_of_getElem? (i := 6) rfl)) (hw _ (List.mem_of_getElem? (i := 111) rfl)) (by decide) (o_len pdgb rfl) rfl (pc' := 18) dps_15 rfl (Nat.le_of_ble_eq_true rfl) (Nat.le_of_ble_eq_true rfl) (Nat.le_of_ble_eq_true rfl) (Nat.le_of_ble_eq_true rfl) (fun v15 h15 hQ15 => ?_)
  obtain ⟨rfl, K15, A15⟩ := hQ15
  dsimp only [oPush]
  exact s_ret rfl dps_18 (Nat.le_of_ble_eq_true rfl) (Nat.le_of_ble_eq_true rfl) ⟨rfl, K15, A15⟩
def iaa : OInfo := ("java/lang/AbstractStringBuilder", jdk_68_method_22_code, 3, (some (.object "java/lang/AbstractStringBuilder")), "append", ({ frames := 4, cells := 1, slots := 34, locals := 62 } : Room))
theorem efaa (x0 : Addr) (x1 : Addr) (m : MethodId) : entryFrame m #[(.ref x0), (.ref x1)] 3 = mkF m 0 #[.val (.ref x0), .val (.ref x1), .unset] [] := by first | (simp [entryFrame, mkF, argsToLocals, Value.category]; done) | rfl
theorem pdaa : parseMethodDescriptor "(Ljava/lang/String;)Ljava/lang/AbstractStringBuilder;" = some ⟨[(.object "java/lang/String")], some (.object "java/lang/AbstractStringBuilder")⟩ := by decide +kernel
theorem pnaa : plainFor (⟨"java/lang/AbstractStringBuilder", "append", "(Ljava/lang/String;)Ljava/lang/AbstractStringBuilder;"⟩ : MethodName) = true := by decide +kernel
theorem daa_0 : decode jdk_68_method_22_code 0 = .ok (.aload_n 1, 1) := by decide +kernel
theorem daa_1 : decode jdk_68_method_22_code 1 = .ok (.ifnonnull 8, 3) := by decide +kernel
theorem daa_9 : decode jdk_68_method_22_code 9 = .ok (.aload_n 1, 1) := by decide +kernel
theorem daa_10 : decode jdk_68_method_22_code 10 = .ok (.invokevirtual 32, 3) := by decide +kernel
theorem daa_13 : decode jdk_68_method_22_code 13 = .ok (.istore_n 2, 1) := by decide +kernel
theorem daa_14 : decode jdk_68_method_22_code 14 = .ok (.aload_n 0, 1) := by decide +kernel
theorem daa_15 : decode jdk_68_method_22_code 15 = .ok (.aload_n 0, 1) := by decide +kernel
theorem daa_16 : decode jdk_68_method_22_code 16 = .ok (.getfield 79, 3) := by decide +kernel
theorem daa_19 : decode jdk_68_method_22_code 19 = .ok (.iload_n 2, 1) := by decide +kernel
theorem daa_20 : decode jdk_68_method_22_code 20 = .ok (.iadd, 1) := by decide +kernel
theorem daa_21 : decode jdk_68_method_22_code 21 = .ok (.invokevirtual 100, 3) := by decide +kernel
theorem daa_24 : decode jdk_68_method_22_code 24 = .ok (.aload_n 0, 1) := by decide +kernel
theorem daa_25 : decode jdk_68_method_22_code 25 = .ok (.aload_n 0, 1) := by decide +kernel
theorem daa_26 : decode jdk_68_method_22_code 26 = .ok (.getfield 79, 3) := by decide +kernel
theorem daa_29 : decode jdk_68_method_22_code 29 = .ok (.aload_n 1, 1) := by decide +kernel
theorem daa_30 : decode jdk_68_method_22_code 30 = .ok (.invokevirtual 208, 3) := by decide +kernel
theorem daa_33 : decode jdk_68_method_22_code 33 = .ok (.aload_n 0, 1) := by decide +kernel
theorem daa_34 : decode jdk_68_method_22_code 34 = .ok (.dup, 1) := by decide +kernel
theorem daa_35 : decode jdk_68_method_22_code 35 = .ok (.getfield 79, 3) := by decide +kernel
theorem daa_38 : decode jdk_68_method_22_code 38 = .ok (.iload_n 2, 1) := by decide +kernel
theorem daa_39 : decode jdk_68_method_22_code 39 = .ok (.iadd, 1) := by decide +kernel
theorem daa_40 : decode jdk_68_method_22_code 40 = .ok (.putfield 79, 3) := by decide +kernel
theorem daa_43 : decode jdk_68_method_22_code 43 = .ok (.aload_n 0, 1) := by decide +kernel
theorem daa_44 : decode jdk_68_method_22_code 44 = .ok (.areturn, 1) := by decide +kernel
set_option maxRecDepth 65536 in
set_option maxHeartbeats 4000000 in
theorem rmaa (l : Launch) {Z : State} {a0 : Array Value} (G : OG Z a0) (n0 : Nat) (b s a : Addr) (N : Nat) (k : ClassId) (cap : Nat) (bs cs : List Int32) (hm : bs.length + cs.length ≤ cap ∨ (cap = 16 ∧ bs.length + cs.length ≤ 34)) (h0 : Heap) (gb : n0 ≤ b) (ga : n0 ≤ a) (B : BD Z h0 b a k cap bs) (H : SV Z h0 N s cs) : oConG l Z n0 EL1 [b, a] (⟨"java/lang/AbstractStringBuilder", "append", "(Ljava/lang/String;)Ljava/lang/AbstractStringBuilder;"⟩ : MethodName) iaa #[.ref b, .ref s] h0 (oR Z EL1 (fun v h rs => ∃ a' k' cap', rs = [a'] ∧ v = some (.ref b) ∧ BD Z h b a' k' cap' (bs ++ cs) ∧ Keep h0 h [b, a] ∧ (a' = a ∨ h0.size ≤ a') ∧ (cap' = cap ∨ cap' = 34))) := by
  obtain ⟨hw, hEL, ⟨cmp, hC, hc0⟩, ⟨fm, hfm, hF⟩⟩ := id G
  refine oCon.mk hEL pnaa rfl rfl (efaa b s) fun C hCl => ?_
  refine s_aloadN (pc' := 1) daa_0 rfl rfl rfl ?_
  refine s_nnY (pc' := 9) daa_1 (by decide) rfl ?_
  refine s_old fun OL => ?_
  refine s_aloadN (pc' := 10) daa_9 rfl rfl rfl ?_
  refine s_callV0 (rmsL C.l G n0 s N cs h0 H) (by simp) H.exa (hw _ (List.mem_of_getElem? (i := 78) rfl)) (hw _ (List.mem_of_getElem? (i := 79) rfl)) (hw _ (List.mem_of_getElem? (i := 81) rfl)) (hw _ (List.mem_of_getElem? (i := 80) rfl)) (o_nf (hw _ (List.mem_of_getElem? (i := 81) rfl)) rfl) (hw _ (List.mem_of_getElem? (i := 6) rfl)) (hw _ (List.mem_of_getElem? (i := 82) rfl)) (by decide) (o_len pdsL rfl) rfl (pc' := 13) daa_10 rfl (Nat.le_of_ble_eq_true rfl) (Nat.le_of_ble_eq_true rfl) (Nat.le_of_ble_eq_true rfl) (Nat.le_of_ble_eq_true rfl) (fun v10 h10 hQ10 => ?_)
  obtain ⟨rfl, rfl⟩ := hQ10
  dsimp only [oPush]
  have FN := B.2.2.2.1
  refine s_istoreN (kn := 2) rfl (pc' := 14) daa_13 rfl (o_st rfl (by first | exact One.u | exact One.val rfl | assumption) rfl) ?_
  dsimp only [List.set_cons_succ, List.set_cons_zero]
  refine s_aloadN (pc' := 15) daa_14 rfl rfl rfl ?_
  refine s_aloadN (pc' := 16) daa_15 rfl rfl rfl ?_
  refine s_getF FN (host := "") (Or.inl (hw _ (List.mem_of_getElem? (i := 89) rfl))) Via.refl (pc' := 19) daa_16 rfl ?_
  refine s_iloadN (pc' := 20) daa_19 rfl rfl ?_
  refine s_iadd (pc' := 21) daa_20 rfl ?_
  rw [n_add]
  refine s_callV1R (rmec C.l G n0 b a k cap (bs.length + cs.length) bs _ hm gb B) (by simp) B.1 (hw _ (List.mem_of_getElem? (i := 91) rfl)) (o_declOf (hw _ (List.mem_of_getElem? (i := 92) rfl)) (hw _ (List.mem_of_getElem? (i := 95) rfl))) (hw _ (List.mem_of_getElem? (i := 94) rfl)) (hw _ (List.mem_of_getElem? (i := 92) rfl)) (o_nf (hw _ (List.mem_of_getElem? (i := 94) rfl)) rfl) (hw _ (List.mem_of_getElem? (i := 60) rfl)) (hw _ (List.mem_of_getElem? (i := 95) rfl)) (by decide) (o_len pdec rfl) rfl (pc' := 24) daa_21 rfl (Nat.le_of_ble_eq_true rfl) (Nat.le_of_ble_eq_true rfl) (Nat.le_of_ble_eq_true rfl) (Nat.le_of_ble_eq_true rfl) (fun v21 h21 rs21 hQ21 => ?_)
  obtain ⟨a2, k2, cap2, rfl, rfl, B2, hm2, K21, ha2, hc2⟩ := hQ21
  dsimp only [oPush]
  replace H := H.ne (hw _ (List.mem_of_getElem? (i := 51) rfl)) B.1 K21
  replace FN := B2.2.2.2.1
  have ga2 : n0 ≤ a2 := ha2.elim (fun q => q ▸ ga) (fun q => Nat.le_trans (o_le OL) q)
  obtain ⟨d, kd, -, -, E1, C1, V1, D1⟩ := H
  have hne := B2.ne
  refine s_aloadN (pc' := 25) daa_24 rfl rfl rfl ?_
  refine s_aloadN (pc' := 26) daa_25 rfl rfl rfl ?_
  refine s_getF FN (host := "") (Or.inl (hw _ (List.mem_of_getElem? (i := 89) rfl))) Via.refl (pc' := 29) daa_26 rfl ?_
  refine s_aloadN (pc' := 30) daa_29 rfl rfl rfl ?_
  refine s_callV2 (rmps C.l G n0 b s a2 d k2 kd cap2 bs cs hm2 _ ga2 B2 E1 C1 V1 D1) (by simp) B2.1 (hw _ (List.mem_of_getElem? (i := 96) rfl)) (o_declOf (hw _ (List.mem_of_getElem? (i := 97) rfl)) (hw _ (List.mem_of_getElem? (i := 100) rfl))) (hw _ (List.mem_of_getElem? (i := 99) rfl)) (hw _ (List.mem_of_getElem? (i := 97) rfl)) (o_nf (hw _ (List.mem_of_getElem? (i := 99) rfl)) rfl) (hw _ (List.mem_of_getElem? (i := 60) rfl)) (hw _ (List.mem_of_getElem? (i := 100) rfl)) (by decide) (o_len pdps rfl) rfl (pc' := 33) daa_30 rfl (Nat.le_of_ble_eq_true rfl) (Nat.le_of_ble_eq_true rfl) (Nat.le_of_ble_eq_true rfl) (Nat.le_of_ble_eq_true rfl) (fun v30 h30 hQ30 => ?_)
  obtain ⟨rfl, K30, A30⟩ := hQ30
  dsimp only [oPush]
  have nb : b ∉ [a2] := by simp [hne.symm]
  replace FN := FN.keep K30 nb
  refine s_aloadN (pc' := 34) daa_33 rfl rfl rfl ?_
  refine s_dup (pc' := 35) daa_34 rfl rfl ?_
  refine s_getF FN (host := "") (Or.inl (hw _ (List.mem_of_getElem? (i := 89) rfl))) Via.refl (pc' := 38) daa_35 rfl ?_
  refine s_iloadN (pc' := 39) daa_38 rfl rfl ?_
  refine s_iadd (pc' := 40) daa_39 rfl ?_
  rw [n_add]
  refine s_putF FN (B2.1.keep K30) gb (by simp) (host := "") (Or.inl (hw _ (List.mem_of_getElem? (i := 89) rfl))) Via.refl (Or.inl (hw _ (List.mem_of_getElem? (i := 90) rfl))) (hw _ (List.mem_of_getElem? (i := 51) rfl)) (ty := .int) (by decide) rfl rfl (pc' := 43) daa_40 rfl (fun h40 W40 => ?_)
  refine s_aloadN (pc' := 44) daa_43 rfl rfl rfl ?_
  exact s_aretR rfl rfl rfl daa_44 (Nat.le_of_ble_eq_true rfl) (Nat.le_of_ble_eq_true rfl) [a2] (by simp) ⟨a2, k2, cap2, rfl, rfl, ⟨(B2.1.keep K30).wr W40, ((B2.2.1.keep K30 nb).other W40 (Or.inr (slot_ne (Or.inl (hw _ (List.mem_of_getElem? (i := 65) rfl))) (Or.inl (hw _ (List.mem_of_getElem? (i := 90) rfl))) (by decide) (t := (.array .byte)) (t' := .int) (by decide) (by decide)))), ((B2.2.2.1.keep K30 nb).other W40 (Or.inr (slot_ne (Or.inl (hw _ (List.mem_of_getElem? (i := 67) rfl))) (Or.inl (hw _ (List.mem_of_getElem? (i := 90) rfl))) (by decide) (t := .byte) (t' := .int) (by decide) (by decide)))), by rw [List.length_append]; exact (FN.same W40), A30.other W40 hne, (B2.2.2.2.2.2.1.keep K30).wr W40, by rw [List.length_append]; exact hm2, B2.2.2.2.2.2.2.2⟩, ((((Keep.refl _ [b, a]).trans K21 (fun x hx => by cases List.mem_singleton.mp hx; exact Or.inl (by simp))).trans K30 (fun x hx => by cases List.mem_singleton.mp hx; exact ha2.elim (fun q => Or.inl (by simp [q])) Or.inr))).wr W40 (Or.inl (List.mem_cons_self ..)), ha2, hc2⟩
def isb : OInfo := ("java/lang/StringBuilder", jdk_67_method_7_code, 2, (some (.object "java/lang/StringBuilder")), "append", ({ frames := 5, cells := 1, slots := 34, locals := 76 } : Room))
theorem efsb (x0 : Addr) (x1 : Addr) (m : MethodId) : entryFrame m #[(.ref x0), (.ref x1)] 2 = mkF m 0 #[.val (.ref x0), .val (.ref x1)] [] := by first | (simp [entryFrame, mkF, argsToLocals, Value.category]; done) | rfl
theorem pdsb : parseMethodDescriptor "(Ljava/lang/String;)Ljava/lang/StringBuilder;" = some ⟨[(.object "java/lang/String")], some (.object "java/lang/StringBuilder")⟩ := by decide +kernel
theorem pnsb : plainFor (⟨"java/lang/StringBuilder", "append", "(Ljava/lang/String;)Ljava/lang/StringBuilder;"⟩ : MethodName) = true := by decide +kernel
theorem dsb_0 : decode jdk_67_method_7_code 0 = .ok (.aload_n 0, 1) := by decide +kernel
theorem dsb_1 : decode jdk_67_method_7_code 1 = .ok (.aload_n 1, 1) := by decide +kernel
theorem dsb_2 : decode jdk_67_method_7_code 2 = .ok (.invokespecial 29, 3) := by decide +kernel
theorem dsb_5 : decode jdk_67_method_7_code 5 = .ok (.pop, 1) := by decide +kernel
theorem dsb_6 : decode jdk_67_method_7_code 6 = .ok (.aload_n 0, 1) := by decide +kernel
theorem dsb_7 : decode jdk_67_method_7_code 7 = .ok (.areturn, 1) := by decide +kernel
set_option maxRecDepth 65536 in
set_option maxHeartbeats 4000000 in
theorem rmsb (l : Launch) {Z : State} {a0 : Array Value} (G : OG Z a0) (n0 : Nat) (b s a : Addr) (N : Nat) (k : ClassId) (cap : Nat) (bs cs : List Int32) (hm : bs.length + cs.length ≤ cap ∨ (cap = 16 ∧ bs.length + cs.length ≤ 34)) (h0 : Heap) (gb : n0 ≤ b) (ga : n0 ≤ a) (B : BD Z h0 b a k cap bs) (H : SV Z h0 N s cs) : oConG l Z n0 EL1 [b, a] (⟨"java/lang/StringBuilder", "append", "(Ljava/lang/String;)Ljava/lang/StringBuilder;"⟩ : MethodName) isb #[.ref b, .ref s] h0 (oR Z EL1 (fun v h rs => ∃ a' k' cap', rs = [a'] ∧ v = some (.ref b) ∧ BD Z h b a' k' cap' (bs ++ cs) ∧ Keep h0 h [b, a] ∧ (a' = a ∨ h0.size ≤ a') ∧ (cap' = cap ∨ cap' = 34))) := by
  obtain ⟨hw, hEL, ⟨cmp, hC, hc0⟩, ⟨fm, hfm, hF⟩⟩ := id G
  refine oCon.mk hEL pnsb rfl rfl (efsb b s) fun C hCl => ?_
  refine s_aloadN (pc' := 1) dsb_0 rfl rfl rfl ?_
  refine s_aloadN (pc' := 2) dsb_1 rfl rfl rfl ?_
  refine s_callU1R (rmaa C.l G n0 b s a N k cap bs cs hm h0 gb ga B H) (by simp) (Ins.self B.1) (hw _ (List.mem_of_getElem? (i := 73) rfl)) (o_sameOf (hw _ (List.mem_of_getElem? (i := 74) rfl)) (hw _ (List.mem_of_getElem? (i := 94) rfl)) rfl (by decide)) (hw _ (List.mem_of_getElem? (i := 75) rfl)) (hw _ (List.mem_of_getElem? (i := 74) rfl)) (hw _ (List.mem_of_getElem? (i := 60) rfl)) (hw _ (List.mem_of_getElem? (i := 77) rfl)) (by decide) (o_len pdaa rfl) rfl (pc' := 5) dsb_2 rfl (Nat.le_of_ble_eq_true rfl) (Nat.le_of_ble_eq_true rfl) (Nat.le_of_ble_eq_true rfl) (Nat.le_of_ble_eq_true rfl) (fun v2 h2 rs2 hQ2 => ?_)
  obtain ⟨a2, k2, cap2, rfl, rfl, B2, K2, ha2, hc2⟩ := hQ2
  dsimp only [oPush]
  refine s_pop (pc' := 6) dsb_5 rfl rfl ?_
  refine s_aloadN (pc' := 7) dsb_6 rfl rfl rfl ?_
  exact s_aretR rfl rfl rfl dsb_7 (Nat.le_of_ble_eq_true rfl) (Nat.le_of_ble_eq_true rfl) [a2] (by simp) ⟨a2, k2, cap2, rfl, rfl, B2, K2, ha2, hc2⟩
def igv : OInfo := ("java/lang/AbstractStringBuilder", jdk_68_method_64_code, 1, (some (.array .byte)), "getValue", ({ frames := 0, cells := 0, slots := 0, locals := 0 } : Room))
theorem efgv (x0 : Addr) (m : MethodId) : entryFrame m #[(.ref x0)] 1 = mkF m 0 #[.val (.ref x0)] [] := by first | (simp [entryFrame, mkF, argsToLocals, Value.category]; done) | rfl
theorem pdgv : parseMethodDescriptor "()[B" = some ⟨[], some (.array .byte)⟩ := by decide +kernel
theorem pngv : plainFor (⟨"java/lang/AbstractStringBuilder", "getValue", "()[B"⟩ : MethodName) = true := by decide +kernel
theorem dgv_0 : decode jdk_68_method_64_code 0 = .ok (.aload_n 0, 1) := by decide +kernel
theorem dgv_1 : decode jdk_68_method_64_code 1 = .ok (.getfield 15, 3) := by decide +kernel
theorem dgv_4 : decode jdk_68_method_64_code 4 = .ok (.areturn, 1) := by decide +kernel
set_option maxRecDepth 65536 in
set_option maxHeartbeats 4000000 in
theorem rmgv (l : Launch) {Z : State} {a0 : Array Value} (G : OG Z a0) (n0 : Nat) (b : Addr) (x : Addr) (h0 : Heap) (F1 : Fld Z h0 b "java/lang/AbstractStringBuilder" "value" "[B" (.ref x)) : oCon l Z n0 EL1 [] (⟨"java/lang/AbstractStringBuilder", "getValue", "()[B"⟩ : MethodName) igv #[.ref b] h0 (fun v h => v = some (.ref x) ∧ h = h0) := by
  obtain ⟨hw, hEL, ⟨cmp, hC, hc0⟩, ⟨fm, hfm, hF⟩⟩ := id G
  refine oCon.mk hEL pngv rfl rfl (efgv b) fun C hCl => ?_
  refine s_aloadN (pc' := 1) dgv_0 rfl rfl rfl ?_
  refine s_getF F1 (host := "") (Or.inl (hw _ (List.mem_of_getElem? (i := 64) rfl))) Via.refl (pc' := 4) dgv_1 rfl ?_
  exact s_aret rfl rfl rfl dgv_4 (Nat.le_of_ble_eq_true rfl) (Nat.le_of_ble_eq_true rfl) ⟨rfl, rfl⟩
def ilA : OInfo := ("java/lang/AbstractStringBuilder", jdk_68_method_6_code, 1, (some .int), "length", ({ frames := 0, cells := 0, slots := 0, locals := 0 } : Room))
theorem eflA (x0 : Addr) (m : MethodId) : entryFrame m #[(.ref x0)] 1 = mkF m 0 #[.val (.ref x0)] [] := by first | (simp [entryFrame, mkF, argsToLocals, Value.category]; done) | rfl
theorem pdlA : parseMethodDescriptor "()I" = some ⟨[], some .int⟩ := by decide +kernel
theorem pnlA : plainFor (⟨"java/lang/AbstractStringBuilder", "length", "()I"⟩ : MethodName) = true := by decide +kernel
theorem dlA_0 : decode jdk_68_method_6_code 0 = .ok (.aload_n 0, 1) := by decide +kernel
theorem dlA_1 : decode jdk_68_method_6_code 1 = .ok (.getfield 79, 3) := by decide +kernel
theorem dlA_4 : decode jdk_68_method_6_code 4 = .ok (.ireturn, 1) := by decide +kernel
set_option maxRecDepth 65536 in
set_option maxHeartbeats 4000000 in
theorem rmlA (l : Launch) {Z : State} {a0 : Array Value} (G : OG Z a0) (n0 : Nat) (b : Addr) (x : Int32) (h0 : Heap) (F1 : Fld Z h0 b "java/lang/AbstractStringBuilder" "count" "I" (.int x)) : oCon l Z n0 EL1 [] (⟨"java/lang/AbstractStringBuilder", "length", "()I"⟩ : MethodName) ilA #[.ref b] h0 (fun v h => v = some (.int x) ∧ h = h0) := by
  obtain ⟨hw, hEL, ⟨cmp, hC, hc0⟩, ⟨fm, hfm, hF⟩⟩ := id G
  refine oCon.mk hEL pnlA rfl rfl (eflA b) fun C hCl => ?_
  refine s_aloadN (pc' := 1) dlA_0 rfl rfl rfl ?_
  refine s_getF F1 (host := "") (Or.inl (hw _ (List.mem_of_getElem? (i := 89) rfl))) Via.refl (pc' := 4) dlA_1 rfl ?_
  exact s_iret rfl dlA_4 (Nat.le_of_ble_eq_true rfl) (Nat.le_of_ble_eq_true rfl) ⟨rfl, rfl⟩
def ilB : OInfo := ("java/lang/StringBuilder", jdk_67_method_93_code, 1, (some .int), "length", ({ frames := 1, cells := 0, slots := 0, locals := 12 } : Room))
theorem eflB (x0 : Addr) (m : MethodId) : entryFrame m #[(.ref x0)] 1 = mkF m 0 #[.val (.ref x0)] [] := by first | (simp [entryFrame, mkF, argsToLocals, Value.category]; done) | rfl
theorem pdlB : parseMethodDescriptor "()I" = some ⟨[], some .int⟩ := by decide +kernel
theorem pnlB : plainFor (⟨"java/lang/StringBuilder", "length", "()I"⟩ : MethodName) = true := by decide +kernel
theorem dlB_0 : decode jdk_67_method_93_code 0 = .ok (.aload_n 0, 1) := by decide +kernel
theorem dlB_1 : decode jdk_67_method_93_code 1 = .ok (.invokespecial 343, 3) := by decide +kernel
theorem dlB_4 : decode jdk_67_method_93_code 4 = .ok (.ireturn, 1) := by decide +kernel
set_option maxRecDepth 65536 in
set_option maxHeartbeats 4000000 in
theorem rmlB (l : Launch) {Z : State} {a0 : Array Value} (G : OG Z a0) (n0 : Nat) (b : Addr) (x : Int32) (h0 : Heap) (XB : Exa Z h0 b "java/lang/StringBuilder") (F1 : Fld Z h0 b "java/lang/AbstractStringBuilder" "count" "I" (.int x)) : oCon l Z n0 EL1 [] (⟨"java/lang/StringBuilder", "length", "()I"⟩ : MethodName) ilB #[.ref b] h0 (fun v h => v = some (.int x) ∧ h = h0) := by
  obtain ⟨hw, hEL, ⟨cmp, hC, hc0⟩, ⟨fm, hfm, hF⟩⟩ := id G
  refine oCon.mk hEL pnlB rfl rfl (eflB b) fun C hCl => ?_
  refine s_aloadN (pc' := 1) dlB_0 rfl rfl rfl ?_
  refine s_callU0 (rmlA C.l G n0 b x h0 F1) (by simp) (Ins.self XB) (hw _ (List.mem_of_getElem? (i := 140) rfl)) (o_sameOf (hw _ (List.mem_of_getElem? (i := 136) rfl)) (hw _ (List.mem_of_getElem? (i := 94) rfl)) rfl (by decide)) (hw _ (List.mem_of_getElem? (i := 75) rfl)) (hw _ (List.mem_of_getElem? (i := 136) rfl)) (hw _ (List.mem_of_getElem? (i := 60) rfl)) (hw _ (List.mem_of_getElem? (i := 141) rfl)) (by decide) (o_len pdlA rfl) rfl (pc' := 4) dlB_1 rfl (Nat.le_of_ble_eq_true rfl) (Nat.le_of_ble_eq_true rfl) (Nat.le_of_ble_eq_true rfl) (Nat.le_of_ble_eq_true rfl) (fun v1 h1 hQ1 => ?_)
  obtain ⟨rfl, rfl⟩ := hQ1
  dsimp only [oPush]
  exact s_iret rfl dlB_4 (Nat.le_of_ble_eq_true rfl) (Nat.le_of_ble_eq_true rfl) ⟨rfl, rfl⟩
def iiL : OInfo := ("java/lang/AbstractStringBuilder", jdk_68_method_68_code, 1, (some .boolean), "isLatin1", ({ frames := 0, cells := 0, slots := 0, locals := 0 } : Room))
theorem efiL (x0 : Addr) (m : MethodId) : entryFrame m #[(.ref x0)] 1 = mkF m 0 #[.val (.ref x0)] [] := by first | (simp [entryFrame, mkF, argsToLocals, Value.category]; done) | rfl
theorem pdiL : parseMethodDescriptor "()Z" = some ⟨[], some .boolean⟩ := by decide +kernel
theorem pniL : plainFor (⟨"java/lang/AbstractStringBuilder", "isLatin1", "()Z"⟩ : MethodName) = true := by decide +kernel
theorem diL_0 : decode jdk_68_method_68_code 0 = .ok (.getstatic 18, 3) := by decide +kernel
theorem diL_3 : decode jdk_68_method_68_code 3 = .ok (.ifCond .eq 14, 3) := by decide +kernel
theorem diL_6 : decode jdk_68_method_68_code 6 = .ok (.aload_n 0, 1) := by decide +kernel
theorem diL_7 : decode jdk_68_method_68_code 7 = .ok (.getfield 22, 3) := by decide +kernel
theorem diL_10 : decode jdk_68_method_68_code 10 = .ok (.ifCond .ne 7, 3) := by decide +kernel
theorem diL_13 : decode jdk_68_method_68_code 13 = .ok (.iconst 1, 1) := by decide +kernel
theorem diL_14 : decode jdk_68_method_68_code 14 = .ok (.goto 4, 3) := by decide +kernel
theorem diL_18 : decode jdk_68_method_68_code 18 = .ok (.ireturn, 1) := by decide +kernel
set_option maxRecDepth 65536 in
set_option maxHeartbeats 4000000 in
theorem rmiL (l : Launch) {Z : State} {a0 : Array Value} (G : OG Z a0) (n0 : Nat) (b : Addr) (h0 : Heap) (C1 : Fld Z h0 b "java/lang/AbstractStringBuilder" "coder" "B" (.int 0)) : oCon l Z n0 EL1 [] (⟨"java/lang/AbstractStringBuilder", "isLatin1", "()Z"⟩ : MethodName) iiL #[.ref b] h0 (fun v h => v = some (.int 1) ∧ h = h0) := by
  obtain ⟨hw, hEL, ⟨cmp, hC, hc0⟩, ⟨fm, hfm, hF⟩⟩ := id G
  refine oCon.mk hEL pniL rfl rfl (efiL b) fun C hCl => ?_
  refine s_getS hC (hw _ (List.mem_of_getElem? (i := 63) rfl)) Via.refl (pc' := 3) diL_0 rfl ?_
  refine s_if (pc' := 6) (pc'' := 17) diL_3 rfl (by decide) rfl (fun hc3 => ?_) (fun hc3 => ?_)
  · replace hc3 := b_eq hc3
    exact absurd hc3 hc0
  · replace hc3 := b_eqF hc3
    refine s_aloadN (pc' := 7) diL_6 rfl rfl rfl ?_
    refine s_getF C1 (host := "") (Or.inl (hw _ (List.mem_of_getElem? (i := 66) rfl))) Via.refl (pc' := 10) diL_7 rfl ?_
    refine s_if (pc' := 13) (pc'' := 17) diL_10 rfl (by decide) rfl (fun hc10 => ?_) (fun hc10 => ?_)
    · replace hc10 := b_ne hc10
      exact absurd rfl hc10
    · replace hc10 := b_neF hc10
      refine s_iconst (x := (1 : Int32)) (pc' := 14) diL_13 rfl rfl ?_
      refine s_goto (pc' := 18) diL_14 (by decide) rfl ?_
      exact s_nret (t := .boolean) rfl (by simp) diL_18 (by decide) (by decide) ⟨rfl, rfl⟩
def ikL : OInfo := ("java/util/Arrays", jdk_65_method_131_code, 2, none, "checkLength", ({ frames := 0, cells := 0, slots := 0, locals := 0 } : Room))
theorem efkL (x0 : Int32) (x1 : Int32) (m : MethodId) : entryFrame m #[(.int x0), (.int x1)] 2 = mkF m 0 #[.val (.int x0), .val (.int x1)] [] := by first | (simp [entryFrame, mkF, argsToLocals, Value.category]; done) | rfl
theorem pdkL : parseMethodDescriptor "(II)V" = some ⟨[.int, .int], none⟩ := by decide +kernel
theorem pnkL : plainFor (⟨"java/util/Arrays", "checkLength", "(II)V"⟩ : MethodName) = true := by decide +kernel
theorem dkL_0 : decode jdk_65_method_131_code 0 = .ok (.iload_n 1, 1) := by decide +kernel
theorem dkL_1 : decode jdk_65_method_131_code 1 = .ok (.iload_n 0, 1) := by decide +kernel
theorem dkL_2 : decode jdk_65_method_131_code 2 = .ok (.if_icmp .ge 35, 3) := by decide +kernel
theorem dkL_37 : decode jdk_65_method_131_code 37 = .ok (.return_, 1) := by decide +kernel
set_option maxRecDepth 65536 in
set_option maxHeartbeats 4000000 in
theorem rmkL (l : Launch) {Z : State} {a0 : Array Value} (G : OG Z a0) (n0 : Nat) (x : Int32) (hx : ¬ x < 0) (h0 : Heap) : oCon l Z n0 EL1 [] (⟨"java/util/Arrays", "checkLength", "(II)V"⟩ : MethodName) ikL #[.int 0, .int x] h0 (fun v h => v = none ∧ h = h0) := by
  obtain ⟨hw, hEL, ⟨cmp, hC, hc0⟩, ⟨fm, hfm, hF⟩⟩ := id G
  refine oCon.mk hEL pnkL rfl rfl (efkL 0 x) fun C hCl => ?_
  refine s_iloadN (pc' := 1) dkL_0 rfl rfl ?_
  refine s_iloadN (pc' := 2) dkL_1 rfl rfl ?_
  refine s_icmp (pc' := 5) (pc'' := 37) dkL_2 rfl (by decide) rfl (fun hc2 => ?_) (fun hc2 => ?_)
  · replace hc2 := b_ge hc2
    exact s_ret rfl dkL_37 (Nat.le_of_ble_eq_true rfl) (Nat.le_of_ble_eq_true rfl) ⟨rfl, rfl⟩
  · replace hc2 := b_geF hc2
    exact absurd hc2 hx
def icb : OInfo := ("java/util/Arrays", jdk_65_method_133_code, 5, (some (.array .byte)), "copyOfRangeByte", ({ frames := 1, cells := 1, slots := 34, locals := 30 } : Room))
theorem efcb (x0 : Addr) (x1 : Int32) (x2 : Int32) (m : MethodId) : entryFrame m #[(.ref x0), (.int x1), (.int x2)] 5 = mkF m 0 #[.val (.ref x0), .val (.int x1), .val (.int x2), .unset, .unset] [] := by first | (simp [entryFrame, mkF, argsToLocals, Value.category]; done) | rfl
theorem pdcb : parseMethodDescriptor "([BII)[B" = some ⟨[(.array .byte), .int, .int], some (.array .byte)⟩ := by decide +kernel
theorem pncb : plainFor (⟨"java/util/Arrays", "copyOfRangeByte", "([BII)[B"⟩ : MethodName) = true := by decide +kernel
theorem dcb_0 : decode jdk_65_method_133_code 0 = .ok (.iload_n 1, 1) := by decide +kernel
theorem dcb_1 : decode jdk_65_method_133_code 1 = .ok (.iload_n 2, 1) := by decide +kernel
theorem dcb_2 : decode jdk_65_method_133_code 2 = .ok (.invokestatic 343, 3) := by decide +kernel
theorem dcb_5 : decode jdk_65_method_133_code 5 = .ok (.iload_n 2, 1) := by decide +kernel
theorem dcb_6 : decode jdk_65_method_133_code 6 = .ok (.iload_n 1, 1) := by decide +kernel
theorem dcb_7 : decode jdk_65_method_133_code 7 = .ok (.isub, 1) := by decide +kernel
theorem dcb_8 : decode jdk_65_method_133_code 8 = .ok (.istore_n 3, 1) := by decide +kernel
theorem dcb_9 : decode jdk_65_method_133_code 9 = .ok (.iload_n 3, 1) := by decide +kernel
theorem dcb_10 : decode jdk_65_method_133_code 10 = .ok (.newarray .byte, 2) := by decide +kernel
theorem dcb_12 : decode jdk_65_method_133_code 12 = .ok (.astore 4, 2) := by decide +kernel
theorem dcb_14 : decode jdk_65_method_133_code 14 = .ok (.aload_n 0, 1) := by decide +kernel
theorem dcb_15 : decode jdk_65_method_133_code 15 = .ok (.iload_n 1, 1) := by decide +kernel
theorem dcb_16 : decode jdk_65_method_133_code 16 = .ok (.aload 4, 2) := by decide +kernel
theorem dcb_18 : decode jdk_65_method_133_code 18 = .ok (.iconst 0, 1) := by decide +kernel
theorem dcb_19 : decode jdk_65_method_133_code 19 = .ok (.aload_n 0, 1) := by decide +kernel
theorem dcb_20 : decode jdk_65_method_133_code 20 = .ok (.arraylength, 1) := by decide +kernel
theorem dcb_21 : decode jdk_65_method_133_code 21 = .ok (.iload_n 1, 1) := by decide +kernel
theorem dcb_22 : decode jdk_65_method_133_code 22 = .ok (.isub, 1) := by decide +kernel
theorem dcb_23 : decode jdk_65_method_133_code 23 = .ok (.iload_n 3, 1) := by decide +kernel
theorem dcb_24 : decode jdk_65_method_133_code 24 = .ok (.invokestatic 304, 3) := by decide +kernel
theorem dcb_27 : decode jdk_65_method_133_code 27 = .ok (.invokestatic 150, 3) := by decide +kernel
theorem dcb_30 : decode jdk_65_method_133_code 30 = .ok (.aload 4, 2) := by decide +kernel
theorem dcb_32 : decode jdk_65_method_133_code 32 = .ok (.areturn, 1) := by decide +kernel
set_option maxRecDepth 65536 in
set_option maxHeartbeats 4000000 in
theorem rmcb (l : Launch) {Z : State} {a0 : Array Value} (G : OG Z a0) (n0 : Nat) (a : Addr) (k : ClassId) (cap : Nat) (bs : List Int32) (hl : bs.length ≤ cap) (hc : cap ≤ 34) (h0 : Heap) (A : Arv Z h0 a k .byte (Int32.ofNat cap) (BB bs cap) (.int 0)) : oCon l Z n0 EL1 [] (⟨"java/util/Arrays", "copyOfRangeByte", "([BII)[B"⟩ : MethodName) icb #[.ref a, .int 0, .int (Int32.ofNat bs.length)] h0 (fun v h => ∃ d k', v = some (.ref d) ∧ h0.size ≤ d ∧ Ext h0 h ∧ Arv Z h d k' .byte (Int32.ofNat bs.length) (bs.map fun c => Value.int (byt c)) (.int 0)) := by
  obtain ⟨hw, hEL, ⟨cmp, hC, hc0⟩, ⟨fm, hfm, hF⟩⟩ := id G
  refine oCon.mk hEL pncb rfl rfl (efcb a 0 _) fun C hCl => ?_
  refine s_iloadN (pc' := 1) dcb_0 rfl rfl ?_
  refine s_iloadN (pc' := 2) dcb_1 rfl rfl ?_
  refine s_callS2 (rmkL C.l G n0 _ (nn (by omega)) h0) (by simp) (hw _ (List.mem_of_getElem? (i := 154) rfl)) (hw _ (List.mem_of_getElem? (i := 155) rfl)) (hw _ (List.mem_of_getElem? (i := 149) rfl)) (hw _ (List.mem_of_getElem? (i := 156) rfl)) (by decide) (o_len pdkL rfl) rfl (pc' := 5) dcb_2 rfl (Nat.le_of_ble_eq_true rfl) (Nat.le_of_ble_eq_true rfl) (Nat.le_of_ble_eq_true rfl) (Nat.le_of_ble_eq_true rfl) (fun v2 h2 hQ2 => ?_)
  obtain ⟨rfl, rfl⟩ := hQ2
  dsimp only [oPush]
  refine s_iloadN (pc' := 6) dcb_5 rfl rfl ?_
  refine s_iloadN (pc' := 7) dcb_6 rfl rfl ?_
  refine s_isub (pc' := 8) dcb_7 rfl ?_
  rw [Int32.sub_zero]
  refine s_istoreN (kn := 3) rfl (pc' := 9) dcb_8 rfl (o_st rfl (by first | exact One.u | exact One.val rfl | assumption) rfl) ?_
  dsimp only [List.set_cons_succ, List.set_cons_zero]
  refine s_iloadN (pc' := 10) dcb_9 rfl rfl ?_
  refine s_newA 34 (hw _ (List.mem_of_getElem? (i := 19) rfl)) (pc' := 12) dcb_10 rfl (nn (by omega)) (by rw [cl (by omega)]; omega) (by decide) (Nat.le_of_ble_eq_true rfl) (Nat.le_of_ble_eq_true rfl) (fun h10 b10 k10 g10 nb10 E10 A10 => ?_)
  replace A10 := o_padTo A10 bs.length
  rw [List.nil_append] at A10
  replace A := A.ext E10
  refine s_astore (pc' := 14) dcb_12 rfl rfl (o_st rfl (by first | exact One.u | exact One.val rfl | assumption) rfl) ?_
  dsimp only [List.set_cons_succ, List.set_cons_zero]
  refine s_aloadN (pc' := 15) dcb_14 rfl rfl rfl ?_
  refine s_iloadN (pc' := 16) dcb_15 rfl rfl ?_
  refine s_aload (pc' := 18) dcb_16 rfl rfl rfl ?_
  refine s_iconst (x := (0 : Int32)) (pc' := 19) dcb_18 rfl rfl ?_
  refine s_aloadN (pc' := 20) dcb_19 rfl rfl rfl ?_
  refine s_alen A (pc' := 21) dcb_20 rfl ?_
  refine s_iloadN (pc' := 22) dcb_21 rfl rfl ?_
  refine s_isub (pc' := 23) dcb_22 rfl ?_
  rw [Int32.sub_zero]
  refine s_iloadN (pc' := 24) dcb_23 rfl rfl ?_
  refine s_callS2 (rmmn C.l G n0 _ _ _) (by simp) (hw _ (List.mem_of_getElem? (i := 157) rfl)) (hw _ (List.mem_of_getElem? (i := 158) rfl)) (hw _ (List.mem_of_getElem? (i := 159) rfl)) (hw _ (List.mem_of_getElem? (i := 160) rfl)) (by decide) (o_len pdmn rfl) rfl (pc' := 27) dcb_24 rfl (Nat.le_of_ble_eq_true rfl) (Nat.le_of_ble_eq_true rfl) (Nat.le_of_ble_eq_true rfl) (Nat.le_of_ble_eq_true rfl) (fun v24 h24 hQ24 => ?_)
  obtain ⟨rfl, rfl⟩ := hQ24
  dsimp only [oPush]
  rw [min_nm (by omega) hl]
  refine s_copy A A10 rfl nb10 (by simp) (hw _ (List.mem_of_getElem? (i := 161) rfl)) (hw _ (List.mem_of_getElem? (i := 115) rfl)) (hw _ (List.mem_of_getElem? (i := 113) rfl)) (hw _ (List.mem_of_getElem? (i := 114) rfl)) (by decide) (by decide) (nn (by omega)) (by rw [cl (by omega), cl (by omega)]; show 0 + _ ≤ _; omega) (by rw [cl (by omega)]; show 0 + _ ≤ _; omega) (by rw [cl (by omega), List.length_replicate]; show 0 + _ ≤ _; omega) rfl (pc' := 30) dcb_27 rfl (Nat.le_of_ble_eq_true rfl) (Nat.le_of_ble_eq_true rfl) (fun h27 K27 A27 => ?_)
  rw [cl (show bs.length < 2147483648 by omega), show (0 : Int32).toNatClampNeg = 0 from rfl] at A27
  replace A27 := Eq.mp (congrArg (fun z => Arv Z h27 b10 k10 .byte (Int32.ofNat bs.length) z (.int 0)) (BB_cut (cap := cap) hl rfl)) A27
  refine s_aload (pc' := 32) dcb_30 rfl rfl rfl ?_
  exact s_aret rfl rfl rfl dcb_32 (Nat.le_of_ble_eq_true rfl) (Nat.le_of_ble_eq_true rfl) ⟨b10, k10, rfl, Nat.le_of_eq g10.symm, o_extKeep E10 K27 (allS (Nat.le_of_eq g10.symm) all0), A27⟩
def icr : OInfo := ("java/util/Arrays", jdk_65_method_132_code, 3, (some (.array .byte)), "copyOfRange", ({ frames := 2, cells := 1, slots := 34, locals := 46 } : Room))
theorem efcr (x0 : Addr) (x1 : Int32) (x2 : Int32) (m : MethodId) : entryFrame m #[(.ref x0), (.int x1), (.int x2)] 3 = mkF m 0 #[.val (.ref x0), .val (.int x1), .val (.int x2)] [] := by first | (simp [entryFrame, mkF, argsToLocals, Value.category]; done) | rfl
theorem pdcr : parseMethodDescriptor "([BII)[B" = some ⟨[(.array .byte), .int, .int], some (.array .byte)⟩ := by decide +kernel
theorem pncr : plainFor (⟨"java/util/Arrays", "copyOfRange", "([BII)[B"⟩ : MethodName) = true := by decide +kernel
theorem dcr_0 : decode jdk_65_method_132_code 0 = .ok (.iload_n 1, 1) := by decide +kernel
theorem dcr_1 : decode jdk_65_method_132_code 1 = .ok (.ifCond .ne 9, 3) := by decide +kernel
theorem dcr_4 : decode jdk_65_method_132_code 4 = .ok (.iload_n 2, 1) := by decide +kernel
theorem dcr_5 : decode jdk_65_method_132_code 5 = .ok (.aload_n 0, 1) := by decide +kernel
theorem dcr_6 : decode jdk_65_method_132_code 6 = .ok (.arraylength, 1) := by decide +kernel
theorem dcr_7 : decode jdk_65_method_132_code 7 = .ok (.if_icmp .eq 10, 3) := by decide +kernel
theorem dcr_10 : decode jdk_65_method_132_code 10 = .ok (.aload_n 0, 1) := by decide +kernel
theorem dcr_11 : decode jdk_65_method_132_code 11 = .ok (.iload_n 1, 1) := by decide +kernel
theorem dcr_12 : decode jdk_65_method_132_code 12 = .ok (.iload_n 2, 1) := by decide +kernel
theorem dcr_13 : decode jdk_65_method_132_code 13 = .ok (.invokestatic 339, 3) := by decide +kernel
theorem dcr_16 : decode jdk_65_method_132_code 16 = .ok (.areturn, 1) := by decide +kernel
theorem dcr_17 : decode jdk_65_method_132_code 17 = .ok (.aload_n 0, 1) := by decide +kernel
theorem dcr_18 : decode jdk_65_method_132_code 18 = .ok (.invokevirtual 310, 3) := by decide +kernel
theorem dcr_21 : decode jdk_65_method_132_code 21 = .ok (.checkcast 311, 3) := by decide +kernel
theorem dcr_24 : decode jdk_65_method_132_code 24 = .ok (.areturn, 1) := by decide +kernel
set_option maxRecDepth 65536 in
set_option maxHeartbeats 4000000 in
theorem rmcr (l : Launch) {Z : State} {a0 : Array Value} (G : OG Z a0) (n0 : Nat) (a : Addr) (k : ClassId) (cap : Nat) (bs : List Int32) (hl : bs.length ≤ cap) (hc : cap ≤ 34) (h0 : Heap) (A : Arv Z h0 a k .byte (Int32.ofNat cap) (BB bs cap) (.int 0)) (XA : Exa Z h0 a "[B") : oCon l Z n0 EL1 [] (⟨"java/util/Arrays", "copyOfRange", "([BII)[B"⟩ : MethodName) icr #[.ref a, .int 0, .int (Int32.ofNat bs.length)] h0 (fun v h => ∃ d k', v = some (.ref d) ∧ h0.size ≤ d ∧ Ext h0 h ∧ Arv Z h d k' .byte (Int32.ofNat bs.length) (bs.map fun c => Value.int (byt c)) (.int 0)) := by
  obtain ⟨hw, hEL, ⟨cmp, hC, hc0⟩, ⟨fm, hfm, hF⟩⟩ := id G
  refine oCon.mk hEL pncr rfl rfl (efcr a 0 _) fun C hCl => ?_
  refine s_iloadN (pc' := 1) dcr_0 rfl rfl ?_
  refine s_if (pc' := 4) (pc'' := 10) dcr_1 rfl (by decide) rfl (fun hc1 => ?_) (fun hc1 => ?_)
  · replace hc1 := b_ne hc1
    exact absurd rfl hc1
  · replace hc1 := b_neF hc1
    refine s_iloadN (pc' := 5) dcr_4 rfl rfl ?_
    refine s_aloadN (pc' := 6) dcr_5 rfl rfl rfl ?_
    refine s_alen A (pc' := 7) dcr_6 rfl ?_
    refine s_icmp (pc' := 10) (pc'' := 17) dcr_7 rfl (by decide) rfl (fun hc7 => ?_) (fun hc7 => ?_)
    · replace hc7 := b_eq hc7
      obtain rfl : bs.length = cap := n_inj (by omega) (by omega) hc7
      rw [BB_full] at A
      refine s_aloadN (pc' := 18) dcr_17 rfl rfl rfl ?_
      refine s_clone 34 A XA (hw _ (List.mem_of_getElem? (i := 257) rfl)) (hw _ (List.mem_of_getElem? (i := 258) rfl)) (hw _ (List.mem_of_getElem? (i := 262) rfl)) (hw _ (List.mem_of_getElem? (i := 260) rfl)) (hw _ (List.mem_of_getElem? (i := 261) rfl)) (hw _ (List.mem_of_getElem? (i := 263) rfl)) rfl (pc' := 21) dcr_18 rfl (Nat.le_of_ble_eq_true rfl) (Nat.le_of_ble_eq_true rfl) (by rw [cl (by omega)]; exact hc) (Nat.le_of_ble_eq_true rfl) (Nat.le_of_ble_eq_true rfl) (fun h18 d g18 nb18 E18 A18 X18 => ?_)
      refine s_castY (Ins.self X18) (hw _ (List.mem_of_getElem? (i := 264) rfl)) (pc' := 24) dcr_21 rfl ?_
      exact s_aret rfl rfl rfl dcr_24 (Nat.le_of_ble_eq_true rfl) (Nat.le_of_ble_eq_true rfl) ⟨d, k, rfl, Nat.le_of_eq g18.symm, E18, A18⟩
    · replace hc7 := b_eqF hc7
      refine s_aloadN (pc' := 11) dcr_10 rfl rfl rfl ?_
      refine s_iloadN (pc' := 12) dcr_11 rfl rfl ?_
      refine s_iloadN (pc' := 13) dcr_12 rfl rfl ?_
      refine s_callS3 (rmcb C.l G n0 a k cap bs hl hc h0 A) (by simp) (hw _ (List.mem_of_getElem? (i := 151) rfl)) (hw _ (List.mem_of_getElem? (i := 152) rfl)) (hw _ (List.mem_of_getElem? (i := 149) rfl)) (hw _ (List.mem_of_getElem? (i := 153) rfl)) (by decide) (o_len pdcb rfl) rfl (pc' := 16) dcr_13 rfl (Nat.le_of_ble_eq_true rfl) (Nat.le_of_ble_eq_true rfl) (Nat.le_of_ble_eq_true rfl) (Nat.le_of_ble_eq_true rfl) (fun v13 h13 hQ13 => ?_)
      obtain ⟨d, k2, rfl, q1, q2, q3⟩ := hQ13
      dsimp only [oPush]
      exact s_aret rfl rfl rfl dcr_16 (Nat.le_of_ble_eq_true rfl) (Nat.le_of_ble_eq_true rfl) ⟨d, k2, rfl, q1, q2, q3⟩
def isS : OInfo := ("java/lang/String", jdk_42_method_150_code, 5, none, "<init>", ({ frames := 3, cells := 1, slots := 34, locals := 61 } : Room))
theorem pdsS : parseMethodDescriptor "(Ljava/lang/AbstractStringBuilder;Ljava/lang/Void;)V" = some ⟨[(.object "java/lang/AbstractStringBuilder"), (.object "java/lang/Void")], none⟩ := by decide +kernel
theorem pnsS : plainFor (⟨"java/lang/String", "<init>", "(Ljava/lang/AbstractStringBuilder;Ljava/lang/Void;)V"⟩ : MethodName) = true := by decide +kernel
theorem efsS (x0 x1 : Addr) (m : MethodId) : entryFrame m #[(.ref x0), (.ref x1), .null] 5 = mkF m 0 #[.val (.ref x0), .val (.ref x1), .val .null, .unset, .unset] [] := by first | (simp [entryFrame, mkF, argsToLocals, Value.category]; done) | rfl
theorem dsS_0 : decode jdk_42_method_150_code 0 = .ok (.aload_n 0, 1) := by decide +kernel
theorem dsS_1 : decode jdk_42_method_150_code 1 = .ok (.invokespecial 1, 3) := by decide +kernel
theorem dsS_4 : decode jdk_42_method_150_code 4 = .ok (.aload_n 1, 1) := by decide +kernel
theorem dsS_5 : decode jdk_42_method_150_code 5 = .ok (.invokevirtual 552, 3) := by decide +kernel
theorem dsS_8 : decode jdk_42_method_150_code 8 = .ok (.astore_n 3, 1) := by decide +kernel
theorem dsS_9 : decode jdk_42_method_150_code 9 = .ok (.aload_n 1, 1) := by decide +kernel
theorem dsS_10 : decode jdk_42_method_150_code 10 = .ok (.invokevirtual 549, 3) := by decide +kernel
theorem dsS_13 : decode jdk_42_method_150_code 13 = .ok (.istore 4, 2) := by decide +kernel
theorem dsS_15 : decode jdk_42_method_150_code 15 = .ok (.aload_n 1, 1) := by decide +kernel
theorem dsS_16 : decode jdk_42_method_150_code 16 = .ok (.invokevirtual 1047, 3) := by decide +kernel
theorem dsS_19 : decode jdk_42_method_150_code 19 = .ok (.ifCond .eq 22, 3) := by decide +kernel
theorem dsS_22 : decode jdk_42_method_150_code 22 = .ok (.aload_n 0, 1) := by decide +kernel
theorem dsS_23 : decode jdk_42_method_150_code 23 = .ok (.iconst 0, 1) := by decide +kernel
theorem dsS_24 : decode jdk_42_method_150_code 24 = .ok (.putfield 15, 3) := by decide +kernel
theorem dsS_27 : decode jdk_42_method_150_code 27 = .ok (.aload_n 0, 1) := by decide +kernel
theorem dsS_28 : decode jdk_42_method_150_code 28 = .ok (.aload_n 3, 1) := by decide +kernel
theorem dsS_29 : decode jdk_42_method_150_code 29 = .ok (.iconst 0, 1) := by decide +kernel
theorem dsS_30 : decode jdk_42_method_150_code 30 = .ok (.iload 4, 2) := by decide +kernel
theorem dsS_32 : decode jdk_42_method_150_code 32 = .ok (.invokestatic 54, 3) := by decide +kernel
theorem dsS_35 : decode jdk_42_method_150_code 35 = .ok (.putfield 9, 3) := by decide +kernel
theorem dsS_38 : decode jdk_42_method_150_code 38 = .ok (.goto 59, 3) := by decide +kernel
theorem dsS_97 : decode jdk_42_method_150_code 97 = .ok (.return_, 1) := by decide +kernel
set_option maxRecDepth 65536 in
set_option maxHeartbeats 4000000 in
theorem rmsS (l : Launch) {Z : State} {a0 : Array Value} (G : OG Z a0) (n0 : Nat) (s b a : Addr) (k : ClassId) (cap : Nat) (bs : List Int32) (hcp : cap ≤ 34) (h0 : Heap) (B : BD Z h0 b a k cap bs) (X1 : Exa Z h0 s "java/lang/String") (G1 : Fld Z h0 s "java/lang/String" "value" "[B" .null) (G2 : Fld Z h0 s "java/lang/String" "coder" "B" (.int 0)) (gs : n0 ≤ s) : oCon l Z n0 EL1 [s] (⟨"java/lang/String", "<init>", "(Ljava/lang/AbstractStringBuilder;Ljava/lang/Void;)V"⟩ : MethodName) isS #[.ref s, .ref b, .null] h0 (fun v h => v = none ∧ Keep h0 h [s] ∧ SV Z h h.size s bs) := by
  obtain ⟨hw, hEL, ⟨cmp, hC, hc0⟩, ⟨fm, hfm, hF⟩⟩ := id G
  obtain ⟨XB, FV, FC, FN, A, XA, hl, hc⟩ := B
  refine oCon.mk hEL pnsS rfl rfl (efsS s b) fun C hCl => ?_
  refine s_aloadN (pc' := 1) dsS_0 rfl rfl rfl ?_
  refine s_initO (hw _ (List.mem_of_getElem? (i := 15) rfl)) (hw _ (List.mem_of_getElem? (i := 16) rfl)) (hw _ (List.mem_of_getElem? (i := 17) rfl)) rfl (pc' := 4) dsS_1 rfl (Nat.le_of_ble_eq_true rfl) (Nat.le_of_ble_eq_true rfl) ?_
  refine s_aloadN (pc' := 5) dsS_4 rfl rfl rfl ?_
  refine s_callV0 (rmgv C.l G n0 b a h0 FV) (by simp) XB (hw _ (List.mem_of_getElem? (i := 129) rfl)) (hw _ (List.mem_of_getElem? (i := 130) rfl)) (hw _ (List.mem_of_getElem? (i := 132) rfl)) (hw _ (List.mem_of_getElem? (i := 131) rfl)) (o_nf (hw _ (List.mem_of_getElem? (i := 132) rfl)) rfl) (hw _ (List.mem_of_getElem? (i := 60) rfl)) (hw _ (List.mem_of_getElem? (i := 133) rfl)) (by decide) (o_len pdgv rfl) rfl (pc' := 8) dsS_5 rfl (Nat.le_of_ble_eq_true rfl) (Nat.le_of_ble_eq_true rfl) (Nat.le_of_ble_eq_true rfl) (Nat.le_of_ble_eq_true rfl) (fun v5 h5 hQ5 => ?_)
  obtain ⟨rfl, rfl⟩ := hQ5
  dsimp only [oPush]
  refine s_astoreN (kn := 3) rfl (pc' := 9) dsS_8 rfl rfl (o_st rfl (by first | exact One.u | exact One.val rfl | assumption) rfl) ?_
  dsimp only [List.set_cons_succ, List.set_cons_zero]
  refine s_aloadN (pc' := 10) dsS_9 rfl rfl rfl ?_
  refine s_callV0 (rmlB C.l G n0 b _ _ XB FN) (by simp) XB (hw _ (List.mem_of_getElem? (i := 134) rfl)) (hw _ (List.mem_of_getElem? (i := 135) rfl)) (hw _ (List.mem_of_getElem? (i := 137) rfl)) (hw _ (List.mem_of_getElem? (i := 138) rfl)) (o_nf2 (hw _ (List.mem_of_getElem? (i := 94) rfl)) rfl) (hw _ (List.mem_of_getElem? (i := 52) rfl)) (hw _ (List.mem_of_getElem? (i := 139) rfl)) (by decide) (o_len pdlA rfl) rfl (pc' := 13) dsS_10 rfl (Nat.le_of_ble_eq_true rfl) (Nat.le_of_ble_eq_true rfl) (Nat.le_of_ble_eq_true rfl) (Nat.le_of_ble_eq_true rfl) (fun v10 h10 hQ10 => ?_)
  obtain ⟨rfl, rfl⟩ := hQ10
  dsimp only [oPush]
  refine s_istore (pc' := 15) dsS_13 rfl (o_st rfl (by first | exact One.u | exact One.val rfl | assumption) rfl) ?_
  dsimp only [List.set_cons_succ, List.set_cons_zero]
  refine s_aloadN (pc' := 16) dsS_15 rfl rfl rfl ?_
  refine s_callV0 (rmiL C.l G n0 b _ FC) (by simp) XB (hw _ (List.mem_of_getElem? (i := 142) rfl)) (hw _ (List.mem_of_getElem? (i := 143) rfl)) (hw _ (List.mem_of_getElem? (i := 145) rfl)) (hw _ (List.mem_of_getElem? (i := 144) rfl)) (o_nf (hw _ (List.mem_of_getElem? (i := 145) rfl)) rfl) (hw _ (List.mem_of_getElem? (i := 60) rfl)) (hw _ (List.mem_of_getElem? (i := 146) rfl)) (by decide) (o_len pdiL rfl) rfl (pc' := 19) dsS_16 rfl (Nat.le_of_ble_eq_true rfl) (Nat.le_of_ble_eq_true rfl) (Nat.le_of_ble_eq_true rfl) (Nat.le_of_ble_eq_true rfl) (fun v16 h16 hQ16 => ?_)
  obtain ⟨rfl, rfl⟩ := hQ16
  dsimp only [oPush]
  refine s_if (pc' := 22) (pc'' := 41) dsS_19 rfl (by decide) rfl (fun hc19 => ?_) (fun hc19 => ?_)
  · replace hc19 := b_eq hc19
    exact absurd hc19 (by decide)
  · replace hc19 := b_eqF hc19
    refine s_aloadN (pc' := 23) dsS_22 rfl rfl rfl ?_
    refine s_iconst (x := (0 : Int32)) (pc' := 24) dsS_23 rfl rfl ?_
    refine s_putF G2 X1 gs (by simp) (host := "") (Or.inl (hw _ (List.mem_of_getElem? (i := 25) rfl))) Via.refl (Or.inr ⟨(hw _ (List.mem_of_getElem? (i := 21) rfl)), rfl, rfl⟩) (hw _ (List.mem_of_getElem? (i := 5) rfl)) (ty := .byte) (by decide) rfl rfl (pc' := 27) dsS_24 rfl (fun h24 W24 => ?_)
    have nas : a ≠ s := Exa.ne XA X1 (by decide)
    replace A := A.other W24 nas
    replace XA := XA.wr W24
    refine s_aloadN (pc' := 28) dsS_27 rfl rfl rfl ?_
    refine s_aloadN (pc' := 29) dsS_28 rfl rfl rfl ?_
    refine s_iconst (x := (0 : Int32)) (pc' := 30) dsS_29 rfl rfl ?_
    refine s_iload (pc' := 32) dsS_30 rfl rfl ?_
    refine s_callS3 (rmcr C.l G n0 a k cap bs hl hcp _ A XA) (by simp) (hw _ (List.mem_of_getElem? (i := 147) rfl)) (hw _ (List.mem_of_getElem? (i := 148) rfl)) (hw _ (List.mem_of_getElem? (i := 149) rfl)) (hw _ (List.mem_of_getElem? (i := 150) rfl)) (by decide) (o_len pdcr rfl) rfl (pc' := 35) dsS_32 rfl (Nat.le_of_ble_eq_true rfl) (Nat.le_of_ble_eq_true rfl) (Nat.le_of_ble_eq_true rfl) (Nat.le_of_ble_eq_true rfl) (fun v32 h32 hQ32 => ?_)
    obtain ⟨d, k2, rfl, gd, E32, A32⟩ := hQ32
    dsimp only [oPush]
    have sz := (Keep.of_wr W24).1
    have nds : d ≠ s := (o_fresh' (Nat.lt_of_lt_of_le X1.lt sz) gd).symm
    refine s_putF ((G1.other W24 (Or.inr (slot_ne (Or.inr (hw _ (List.mem_of_getElem? (i := 20) rfl))) (Or.inr (hw _ (List.mem_of_getElem? (i := 21) rfl))) (by decide) (t := .array .byte) (t' := .byte) (by decide) (by decide)))).ext E32) ((X1.wr W24).ext E32) gs (by simp) (host := "") (Or.inl (hw _ (List.mem_of_getElem? (i := 24) rfl))) Via.refl (Or.inr ⟨(hw _ (List.mem_of_getElem? (i := 20) rfl)), rfl, rfl⟩) (hw _ (List.mem_of_getElem? (i := 5) rfl)) (ty := .array .byte) (by decide) rfl rfl (pc' := 38) dsS_35 rfl (fun h35 W35 => ?_)
    refine s_goto (pc' := 97) dsS_38 (by decide) rfl ?_
    exact s_ret rfl dsS_97 (Nat.le_of_ble_eq_true rfl) (Nat.le_of_ble_eq_true rfl) ⟨rfl, (((Keep.refl _ [s]).wr W24 (Or.inl (List.mem_cons_self ..))).ext E32).wr W35 (Or.inl (List.mem_cons_self ..)), d, k2, (((X1.wr W24).ext E32).wr W35).lt, ((A32.other W35 nds)).lt, ((X1.wr W24).ext E32).wr W35, (((G2.same W24).ext E32).other W35 (Or.inr (slot_ne (Or.inr (hw _ (List.mem_of_getElem? (i := 21) rfl))) (Or.inr (hw _ (List.mem_of_getElem? (i := 20) rfl))) (by decide) (t := .byte) (t' := .array .byte) (by decide) (by decide)))), (((G1.other W24 (Or.inr (slot_ne (Or.inr (hw _ (List.mem_of_getElem? (i := 20) rfl))) (Or.inr (hw _ (List.mem_of_getElem? (i := 21) rfl))) (by decide) (t := .array .byte) (t' := .byte) (by decide) (by decide)))).ext E32).same W35), A32.other W35 nds⟩
def isT : OInfo := ("java/lang/String", jdk_42_method_53_code, 2, none, "<init>", ({ frames := 4, cells := 1, slots := 34, locals := 77 } : Room))
theorem efsT (x0 : Addr) (x1 : Addr) (m : MethodId) : entryFrame m #[(.ref x0), (.ref x1)] 2 = mkF m 0 #[.val (.ref x0), .val (.ref x1)] [] := by first | (simp [entryFrame, mkF, argsToLocals, Value.category]; done) | rfl
theorem pdsT : parseMethodDescriptor "(Ljava/lang/StringBuilder;)V" = some ⟨[(.object "java/lang/StringBuilder")], none⟩ := by decide +kernel
theorem pnsT : plainFor (⟨"java/lang/String", "<init>", "(Ljava/lang/StringBuilder;)V"⟩ : MethodName) = true := by decide +kernel
theorem dsT_0 : decode jdk_42_method_53_code 0 = .ok (.aload_n 0, 1) := by decide +kernel
theorem dsT_1 : decode jdk_42_method_53_code 1 = .ok (.aload_n 1, 1) := by decide +kernel
theorem dsT_2 : decode jdk_42_method_53_code 2 = .ok (.aconst_null, 1) := by decide +kernel
theorem dsT_3 : decode jdk_42_method_53_code 3 = .ok (.invokespecial 489, 3) := by decide +kernel
theorem dsT_6 : decode jdk_42_method_53_code 6 = .ok (.return_, 1) := by decide +kernel
set_option maxRecDepth 65536 in
set_option maxHeartbeats 4000000 in
theorem rmsT (l : Launch) {Z : State} {a0 : Array Value} (G : OG Z a0) (n0 : Nat) (s b a : Addr) (k : ClassId) (cap : Nat) (bs : List Int32) (hcp : cap ≤ 34) (h0 : Heap) (B : BD Z h0 b a k cap bs) (X1 : Exa Z h0 s "java/lang/String") (G1 : Fld Z h0 s "java/lang/String" "value" "[B" .null) (G2 : Fld Z h0 s "java/lang/String" "coder" "B" (.int 0)) (gs : n0 ≤ s) : oCon l Z n0 EL1 [s] (⟨"java/lang/String", "<init>", "(Ljava/lang/StringBuilder;)V"⟩ : MethodName) isT #[.ref s, .ref b] h0 (fun v h => v = none ∧ Keep h0 h [s] ∧ SV Z h h.size s bs) := by
  obtain ⟨hw, hEL, ⟨cmp, hC, hc0⟩, ⟨fm, hfm, hF⟩⟩ := id G
  refine oCon.mk hEL pnsT rfl rfl (efsT s b) fun C hCl => ?_
  refine s_aloadN (pc' := 1) dsT_0 rfl rfl rfl ?_
  refine s_aloadN (pc' := 2) dsT_1 rfl rfl rfl ?_
  refine s_null (pc' := 3) dsT_2 rfl ?_
  refine s_callI2 (rmsS C.l G n0 s b a k cap bs hcp h0 B X1 G1 G2 gs) (by simp) rfl rfl (hw _ (List.mem_of_getElem? (i := 126) rfl)) (hw _ (List.mem_of_getElem? (i := 127) rfl)) (hw _ (List.mem_of_getElem? (i := 6) rfl)) (hw _ (List.mem_of_getElem? (i := 128) rfl)) (by decide) (o_len pdsS rfl) rfl (pc' := 6) dsT_3 rfl (Nat.le_of_ble_eq_true rfl) (Nat.le_of_ble_eq_true rfl) (Nat.le_of_ble_eq_true rfl) (Nat.le_of_ble_eq_true rfl) (fun v3 h3 hQ3 => ?_)
  obtain ⟨rfl, K3, V3⟩ := hQ3
  dsimp only [oPush]
  exact s_ret rfl dsT_6 (Nat.le_of_ble_eq_true rfl) (Nat.le_of_ble_eq_true rfl) ⟨rfl, K3, V3⟩
def itS : OInfo := ("java/lang/StringBuilder", jdk_67_method_42_code, 1, (some (.object "java/lang/String")), "toString", ({ frames := 5, cells := 2, slots := 38, locals := 91 } : Room))
theorem eftS (x0 : Addr) (m : MethodId) : entryFrame m #[(.ref x0)] 1 = mkF m 0 #[.val (.ref x0)] [] := by first | (simp [entryFrame, mkF, argsToLocals, Value.category]; done) | rfl
theorem pdtS : parseMethodDescriptor "()Ljava/lang/String;" = some ⟨[], some (.object "java/lang/String")⟩ := by decide +kernel
theorem pntS : plainFor (⟨"java/lang/StringBuilder", "toString", "()Ljava/lang/String;"⟩ : MethodName) = true := by decide +kernel
theorem dtS_0 : decode jdk_67_method_42_code 0 = .ok (.new 18, 3) := by decide +kernel
theorem dtS_3 : decode jdk_67_method_42_code 3 = .ok (.dup, 1) := by decide +kernel
theorem dtS_4 : decode jdk_67_method_42_code 4 = .ok (.aload_n 0, 1) := by decide +kernel
theorem dtS_5 : decode jdk_67_method_42_code 5 = .ok (.invokespecial 137, 3) := by decide +kernel
theorem dtS_8 : decode jdk_67_method_42_code 8 = .ok (.areturn, 1) := by decide +kernel
set_option maxRecDepth 65536 in
set_option maxHeartbeats 4000000 in
theorem rmtS (l : Launch) {Z : State} {a0 : Array Value} (G : OG Z a0) (n0 : Nat) (b a : Addr) (k : ClassId) (cap : Nat) (bs : List Int32) (hcp : cap ≤ 34) (h0 : Heap) (B : BD Z h0 b a k cap bs) : oCon l Z n0 EL1 [] (⟨"java/lang/StringBuilder", "toString", "()Ljava/lang/String;"⟩ : MethodName) itS #[.ref b] h0 (fun v h => ∃ r, v = some (.ref r) ∧ h0.size ≤ r ∧ Ext h0 h ∧ SV Z h h.size r bs) := by
  obtain ⟨hw, hEL, ⟨cmp, hC, hc0⟩, ⟨fm, hfm, hF⟩⟩ := id G
  refine oCon.mk hEL pntS rfl rfl (eftS b) fun C hCl => ?_
  refine s_new (hw _ (List.mem_of_getElem? (i := 122) rfl)) (hw _ (List.mem_of_getElem? (i := 5) rfl)) (hw _ (List.mem_of_getElem? (i := 6) rfl)) (pc' := 3) dtS_0 rfl (Nat.le_of_ble_eq_true rfl) (Nat.le_of_ble_eq_true rfl) (fun h0 b0 g0 nb0 E0 A0 D0 => ?_)
  refine s_dup (pc' := 4) dtS_3 rfl rfl ?_
  refine s_aloadN (pc' := 5) dtS_4 rfl rfl rfl ?_
  refine s_callI1 (rmsT C.l G n0 b0 b a k cap bs hcp _ (B.ext E0) A0 (D0 (Or.inr (hw _ (List.mem_of_getElem? (i := 20) rfl))) (ty := .array .byte) (by decide)) (D0 (Or.inr (hw _ (List.mem_of_getElem? (i := 21) rfl))) (ty := .byte) (by decide)) nb0) (by simp) rfl rfl (hw _ (List.mem_of_getElem? (i := 123) rfl)) (hw _ (List.mem_of_getElem? (i := 124) rfl)) (hw _ (List.mem_of_getElem? (i := 6) rfl)) (hw _ (List.mem_of_getElem? (i := 125) rfl)) (by decide) (o_len pdsT rfl) rfl (pc' := 8) dtS_5 rfl (Nat.le_of_ble_eq_true rfl) (Nat.le_of_ble_eq_true rfl) (Nat.le_of_ble_eq_true rfl) (Nat.le_of_ble_eq_true rfl) (fun v5 h5 hQ5 => ?_)
  obtain ⟨rfl, K5, V5⟩ := hQ5
  dsimp only [oPush]
  exact s_aret rfl rfl rfl dtS_8 (Nat.le_of_ble_eq_true rfl) (Nat.le_of_ble_eq_true rfl) ⟨b0, rfl, Nat.le_of_eq g0.symm, o_extKeep E0 K5 (allS (Nat.le_of_eq g0.symm) all0), V5⟩
def idg : OInfo := ("com/example/typeloom/typeloom/ProblemToStringPinLaw", method_6_code, 1, (some .int), "digits", ({ frames := 0, cells := 0, slots := 0, locals := 0 } : Room))
theorem efdg (x0 : Int32) (m : MethodId) : entryFrame m #[(.int x0)] 1 = mkF m 0 #[.val (.int x0)] [] := by first | (simp [entryFrame, mkF, argsToLocals, Value.category]; done) | rfl
theorem pddg : parseMethodDescriptor "(I)I" = some ⟨[.int], some .int⟩ := by decide +kernel
theorem pndg : plainFor (⟨"com/example/typeloom/typeloom/ProblemToStringPinLaw", "digits", "(I)I"⟩ : MethodName) = true := by decide +kernel
theorem ddg_0 : decode method_6_code 0 = .ok (.iload_n 0, 1) := by decide +kernel
theorem ddg_1 : decode method_6_code 1 = .ok (.bipush 10, 2) := by decide +kernel
theorem ddg_3 : decode method_6_code 3 = .ok (.if_icmp .ge 5, 3) := by decide +kernel
theorem ddg_6 : decode method_6_code 6 = .ok (.iconst 1, 1) := by decide +kernel
theorem ddg_7 : decode method_6_code 7 = .ok (.ireturn, 1) := by decide +kernel
theorem ddg_8 : decode method_6_code 8 = .ok (.iload_n 0, 1) := by decide +kernel
theorem ddg_9 : decode method_6_code 9 = .ok (.bipush 100, 2) := by decide +kernel
theorem ddg_11 : decode method_6_code 11 = .ok (.if_icmp .ge 5, 3) := by decide +kernel
theorem ddg_14 : decode method_6_code 14 = .ok (.iconst 2, 1) := by decide +kernel
theorem ddg_15 : decode method_6_code 15 = .ok (.ireturn, 1) := by decide +kernel
theorem ddg_16 : decode method_6_code 16 = .ok (.iload_n 0, 1) := by decide +kernel
theorem ddg_17 : decode method_6_code 17 = .ok (.sipush 1000, 3) := by decide +kernel
theorem ddg_20 : decode method_6_code 20 = .ok (.if_icmp .ge 5, 3) := by decide +kernel
theorem ddg_23 : decode method_6_code 23 = .ok (.iconst 3, 1) := by decide +kernel
theorem ddg_24 : decode method_6_code 24 = .ok (.ireturn, 1) := by decide +kernel
theorem ddg_25 : decode method_6_code 25 = .ok (.iload_n 0, 1) := by decide +kernel
theorem ddg_26 : decode method_6_code 26 = .ok (.sipush 10000, 3) := by decide +kernel
theorem ddg_29 : decode method_6_code 29 = .ok (.if_icmp .ge 5, 3) := by decide +kernel
theorem ddg_32 : decode method_6_code 32 = .ok (.iconst 4, 1) := by decide +kernel
theorem ddg_33 : decode method_6_code 33 = .ok (.ireturn, 1) := by decide +kernel
theorem ddg_34 : decode method_6_code 34 = .ok (.iload_n 0, 1) := by decide +kernel
theorem ddg_35 : decode method_6_code 35 = .ok (.ldc 53, 2) := by decide +kernel
theorem ddg_37 : decode method_6_code 37 = .ok (.if_icmp .ge 5, 3) := by decide +kernel
theorem ddg_40 : decode method_6_code 40 = .ok (.iconst 5, 1) := by decide +kernel
theorem ddg_41 : decode method_6_code 41 = .ok (.ireturn, 1) := by decide +kernel
theorem ddg_42 : decode method_6_code 42 = .ok (.iload_n 0, 1) := by decide +kernel
theorem ddg_43 : decode method_6_code 43 = .ok (.ldc 54, 2) := by decide +kernel
theorem ddg_45 : decode method_6_code 45 = .ok (.if_icmp .ge 6, 3) := by decide +kernel
theorem ddg_48 : decode method_6_code 48 = .ok (.bipush 6, 2) := by decide +kernel
theorem ddg_50 : decode method_6_code 50 = .ok (.ireturn, 1) := by decide +kernel
theorem ddg_51 : decode method_6_code 51 = .ok (.iload_n 0, 1) := by decide +kernel
theorem ddg_52 : decode method_6_code 52 = .ok (.ldc 55, 2) := by decide +kernel
theorem ddg_54 : decode method_6_code 54 = .ok (.if_icmp .ge 6, 3) := by decide +kernel
theorem ddg_57 : decode method_6_code 57 = .ok (.bipush 7, 2) := by decide +kernel
theorem ddg_59 : decode method_6_code 59 = .ok (.ireturn, 1) := by decide +kernel
theorem ddg_60 : decode method_6_code 60 = .ok (.iload_n 0, 1) := by decide +kernel
theorem ddg_61 : decode method_6_code 61 = .ok (.ldc 56, 2) := by decide +kernel
theorem ddg_63 : decode method_6_code 63 = .ok (.if_icmp .ge 6, 3) := by decide +kernel
theorem ddg_66 : decode method_6_code 66 = .ok (.bipush 8, 2) := by decide +kernel
theorem ddg_68 : decode method_6_code 68 = .ok (.ireturn, 1) := by decide +kernel
theorem ddg_69 : decode method_6_code 69 = .ok (.iload_n 0, 1) := by decide +kernel
theorem ddg_70 : decode method_6_code 70 = .ok (.ldc 57, 2) := by decide +kernel
theorem ddg_72 : decode method_6_code 72 = .ok (.if_icmp .ge 6, 3) := by decide +kernel
theorem ddg_75 : decode method_6_code 75 = .ok (.bipush 9, 2) := by decide +kernel
theorem ddg_77 : decode method_6_code 77 = .ok (.ireturn, 1) := by decide +kernel
theorem ddg_78 : decode method_6_code 78 = .ok (.bipush 10, 2) := by decide +kernel
theorem ddg_80 : decode method_6_code 80 = .ok (.ireturn, 1) := by decide +kernel
set_option maxRecDepth 65536 in
set_option maxHeartbeats 4000000 in
theorem rmdg (l : Launch) {Z : State} {a0 : Array Value} (G : OG Z a0) (n0 : Nat) (x : Int32) (h0 : Heap) : oCon l Z n0 EL1 [] (⟨"com/example/typeloom/typeloom/ProblemToStringPinLaw", "digits", "(I)I"⟩ : MethodName) idg #[.int x] h0 (fun v h => v = some (.int (Int32.ofNat (dgV x))) ∧ h = h0) := by
  obtain ⟨hw, hEL, ⟨cmp, hC, hc0⟩, ⟨fm, hfm, hF⟩⟩ := id G
  refine oCon.mk hEL pndg rfl rfl (efdg x) fun C hCl => ?_
  refine s_iloadN (pc' := 1) ddg_0 rfl rfl ?_
  refine s_bipush (x := (10 : Int32)) (pc' := 3) ddg_1 rfl rfl ?_
  refine s_icmp (pc' := 6) (pc'' := 8) ddg_3 rfl (by decide) rfl (fun hc3 => ?_) (fun hc3 => ?_)
  · replace hc3 := b_ge hc3
    refine s_iloadN (pc' := 9) ddg_8 rfl rfl ?_
    refine s_bipush (x := (100 : Int32)) (pc' := 11) ddg_9 rfl rfl ?_
    refine s_icmp (pc' := 14) (pc'' := 16) ddg_11 rfl (by decide) rfl (fun hc11 => ?_) (fun hc11 => ?_)
    · replace hc11 := b_ge hc11
      refine s_iloadN (pc' := 17) ddg_16 rfl rfl ?_
      refine s_sipush (x := (1000 : Int32)) (pc' := 20) ddg_17 rfl rfl ?_
      refine s_icmp (pc' := 23) (pc'' := 25) ddg_20 rfl (by decide) rfl (fun hc20 => ?_) (fun hc20 => ?_)
      · replace hc20 := b_ge hc20
        refine s_iloadN (pc' := 26) ddg_25 rfl rfl ?_
        refine s_sipush (x := (10000 : Int32)) (pc' := 29) ddg_26 rfl rfl ?_
        refine s_icmp (pc' := 32) (pc'' := 34) ddg_29 rfl (by decide) rfl (fun hc29 => ?_) (fun hc29 => ?_)
        · replace hc29 := b_ge hc29
          refine s_iloadN (pc' := 35) ddg_34 rfl rfl ?_
          refine s_ldcI (x := (100000 : Int32)) (hw _ (List.mem_of_getElem? (i := 252) rfl)) (pc' := 37) ddg_35 rfl ?_
          refine s_icmp (pc' := 40) (pc'' := 42) ddg_37 rfl (by decide) rfl (fun hc37 => ?_) (fun hc37 => ?_)
          · replace hc37 := b_ge hc37
            refine s_iloadN (pc' := 43) ddg_42 rfl rfl ?_
            refine s_ldcI (x := (1000000 : Int32)) (hw _ (List.mem_of_getElem? (i := 253) rfl)) (pc' := 45) ddg_43 rfl ?_
            refine s_icmp (pc' := 48) (pc'' := 51) ddg_45 rfl (by decide) rfl (fun hc45 => ?_) (fun hc45 => ?_)
            · replace hc45 := b_ge hc45
              refine s_iloadN (pc' := 52) ddg_51 rfl rfl ?_
              refine s_ldcI (x := (10000000 : Int32)) (hw _ (List.mem_of_getElem? (i := 254) rfl)) (pc' := 54) ddg_52 rfl ?_
              refine s_icmp (pc' := 57) (pc'' := 60) ddg_54 rfl (by decide) rfl (fun hc54 => ?_) (fun hc54 => ?_)
              · replace hc54 := b_ge hc54
                refine s_iloadN (pc' := 61) ddg_60 rfl rfl ?_
                refine s_ldcI (x := (100000000 : Int32)) (hw _ (List.mem_of_getElem? (i := 255) rfl)) (pc' := 63) ddg_61 rfl ?_
                refine s_icmp (pc' := 66) (pc'' := 69) ddg_63 rfl (by decide) rfl (fun hc63 => ?_) (fun hc63 => ?_)
                · replace hc63 := b_ge hc63
                  refine s_iloadN (pc' := 70) ddg_69 rfl rfl ?_
                  refine s_ldcI (x := (1000000000 : Int32)) (hw _ (List.mem_of_getElem? (i := 256) rfl)) (pc' := 72) ddg_70 rfl ?_
                  refine s_icmp (pc' := 75) (pc'' := 78) ddg_72 rfl (by decide) rfl (fun hc72 => ?_) (fun hc72 => ?_)
                  · replace hc72 := b_ge hc72
                    refine s_bipush (x := (10 : Int32)) (pc' := 80) ddg_78 rfl rfl ?_
                    exact s_iret rfl ddg_80 (Nat.le_of_ble_eq_true rfl) (Nat.le_of_ble_eq_true rfl) ⟨by rw [dgV, if_neg hc3, if_neg hc11, if_neg hc20, if_neg hc29, if_neg hc37, if_neg hc45, if_neg hc54, if_neg hc63, if_neg hc72]; rfl, rfl⟩
                  · replace hc72 := b_geF hc72
                    refine s_bipush (x := (9 : Int32)) (pc' := 77) ddg_75 rfl rfl ?_
                    exact s_iret rfl ddg_77 (Nat.le_of_ble_eq_true rfl) (Nat.le_of_ble_eq_true rfl) ⟨by rw [dgV, if_neg hc3, if_neg hc11, if_neg hc20, if_neg hc29, if_neg hc37, if_neg hc45, if_neg hc54, if_neg hc63, if_pos hc72]; rfl, rfl⟩
                · replace hc63 := b_geF hc63
                  refine s_bipush (x := (8 : Int32)) (pc' := 68) ddg_66 rfl rfl ?_
                  exact s_iret rfl ddg_68 (Nat.le_of_ble_eq_true rfl) (Nat.le_of_ble_eq_true rfl) ⟨by rw [dgV, if_neg hc3, if_neg hc11, if_neg hc20, if_neg hc29, if_neg hc37, if_neg hc45, if_neg hc54, if_pos hc63]; rfl, rfl⟩
              · replace hc54 := b_geF hc54
                refine s_bipush (x := (7 : Int32)) (pc' := 59) ddg_57 rfl rfl ?_
                exact s_iret rfl ddg_59 (Nat.le_of_ble_eq_true rfl) (Nat.le_of_ble_eq_true rfl) ⟨by rw [dgV, if_neg hc3, if_neg hc11, if_neg hc20, if_neg hc29, if_neg hc37, if_neg hc45, if_pos hc54]; rfl, rfl⟩
            · replace hc45 := b_geF hc45
              refine s_bipush (x := (6 : Int32)) (pc' := 50) ddg_48 rfl rfl ?_
              exact s_iret rfl ddg_50 (Nat.le_of_ble_eq_true rfl) (Nat.le_of_ble_eq_true rfl) ⟨by rw [dgV, if_neg hc3, if_neg hc11, if_neg hc20, if_neg hc29, if_neg hc37, if_pos hc45]; rfl, rfl⟩
          · replace hc37 := b_geF hc37
            refine s_iconst (x := (5 : Int32)) (pc' := 41) ddg_40 rfl rfl ?_
            exact s_iret rfl ddg_41 (Nat.le_of_ble_eq_true rfl) (Nat.le_of_ble_eq_true rfl) ⟨by rw [dgV, if_neg hc3, if_neg hc11, if_neg hc20, if_neg hc29, if_pos hc37]; rfl, rfl⟩
        · replace hc29 := b_geF hc29
          refine s_iconst (x := (4 : Int32)) (pc' := 33) ddg_32 rfl rfl ?_
          exact s_iret rfl ddg_33 (Nat.le_of_ble_eq_true rfl) (Nat.le_of_ble_eq_true rfl) ⟨by rw [dgV, if_neg hc3, if_neg hc11, if_neg hc20, if_pos hc29]; rfl, rfl⟩
      · replace hc20 := b_geF hc20
        refine s_iconst (x := (3 : Int32)) (pc' := 24) ddg_23 rfl rfl ?_
        exact s_iret rfl ddg_24 (Nat.le_of_ble_eq_true rfl) (Nat.le_of_ble_eq_true rfl) ⟨by rw [dgV, if_neg hc3, if_neg hc11, if_pos hc20]; rfl, rfl⟩
    · replace hc11 := b_geF hc11
      refine s_iconst (x := (2 : Int32)) (pc' := 15) ddg_14 rfl rfl ?_
      exact s_iret rfl ddg_15 (Nat.le_of_ble_eq_true rfl) (Nat.le_of_ble_eq_true rfl) ⟨by rw [dgV, if_neg hc3, if_pos hc11]; rfl, rfl⟩
  · replace hc3 := b_geF hc3
    refine s_iconst (x := (1 : Int32)) (pc' := 7) ddg_6 rfl rfl ?_
    exact s_iret rfl ddg_7 (Nat.le_of_ble_eq_true rfl) (Nat.le_of_ble_eq_true rfl) ⟨by rw [dgV, if_pos hc3]; rfl, rfl⟩
def ipw : OInfo := ("com/example/typeloom/typeloom/ProblemToStringPinLaw", method_7_code, 1, (some .int), "pow10", ({ frames := 0, cells := 0, slots := 0, locals := 0 } : Room))
theorem efpw (x0 : Int32) (m : MethodId) : entryFrame m #[(.int x0)] 1 = mkF m 0 #[.val (.int x0)] [] := by first | (simp [entryFrame, mkF, argsToLocals, Value.category]; done) | rfl
theorem pdpw : parseMethodDescriptor "(I)I" = some ⟨[.int], some .int⟩ := by decide +kernel
theorem pnpw : plainFor (⟨"com/example/typeloom/typeloom/ProblemToStringPinLaw", "pow10", "(I)I"⟩ : MethodName) = true := by decide +kernel
theorem dpw_0 : decode method_7_code 0 = .ok (.iload_n 0, 1) := by decide +kernel
theorem dpw_1 : decode method_7_code 1 = .ok (.ifCond .ne 5, 3) := by decide +kernel
theorem dpw_4 : decode method_7_code 4 = .ok (.iconst 1, 1) := by decide +kernel
theorem dpw_5 : decode method_7_code 5 = .ok (.ireturn, 1) := by decide +kernel
theorem dpw_6 : decode method_7_code 6 = .ok (.iload_n 0, 1) := by decide +kernel
theorem dpw_7 : decode method_7_code 7 = .ok (.iconst 1, 1) := by decide +kernel
theorem dpw_8 : decode method_7_code 8 = .ok (.if_icmp .ne 6, 3) := by decide +kernel
theorem dpw_11 : decode method_7_code 11 = .ok (.bipush 10, 2) := by decide +kernel
theorem dpw_13 : decode method_7_code 13 = .ok (.ireturn, 1) := by decide +kernel
theorem dpw_14 : decode method_7_code 14 = .ok (.iload_n 0, 1) := by decide +kernel
theorem dpw_15 : decode method_7_code 15 = .ok (.iconst 2, 1) := by decide +kernel
theorem dpw_16 : decode method_7_code 16 = .ok (.if_icmp .ne 6, 3) := by decide +kernel
theorem dpw_19 : decode method_7_code 19 = .ok (.bipush 100, 2) := by decide +kernel
theorem dpw_21 : decode method_7_code 21 = .ok (.ireturn, 1) := by decide +kernel
theorem dpw_22 : decode method_7_code 22 = .ok (.iload_n 0, 1) := by decide +kernel
theorem dpw_23 : decode method_7_code 23 = .ok (.iconst 3, 1) := by decide +kernel
theorem dpw_24 : decode method_7_code 24 = .ok (.if_icmp .ne 7, 3) := by decide +kernel
theorem dpw_27 : decode method_7_code 27 = .ok (.sipush 1000, 3) := by decide +kernel
theorem dpw_30 : decode method_7_code 30 = .ok (.ireturn, 1) := by decide +kernel
theorem dpw_31 : decode method_7_code 31 = .ok (.iload_n 0, 1) := by decide +kernel
theorem dpw_32 : decode method_7_code 32 = .ok (.iconst 4, 1) := by decide +kernel
theorem dpw_33 : decode method_7_code 33 = .ok (.if_icmp .ne 7, 3) := by decide +kernel
theorem dpw_36 : decode method_7_code 36 = .ok (.sipush 10000, 3) := by decide +kernel
theorem dpw_39 : decode method_7_code 39 = .ok (.ireturn, 1) := by decide +kernel
theorem dpw_40 : decode method_7_code 40 = .ok (.iload_n 0, 1) := by decide +kernel
theorem dpw_41 : decode method_7_code 41 = .ok (.iconst 5, 1) := by decide +kernel
theorem dpw_42 : decode method_7_code 42 = .ok (.if_icmp .ne 6, 3) := by decide +kernel
theorem dpw_45 : decode method_7_code 45 = .ok (.ldc 53, 2) := by decide +kernel
theorem dpw_47 : decode method_7_code 47 = .ok (.ireturn, 1) := by decide +kernel
theorem dpw_48 : decode method_7_code 48 = .ok (.iload_n 0, 1) := by decide +kernel
theorem dpw_49 : decode method_7_code 49 = .ok (.bipush 6, 2) := by decide +kernel
theorem dpw_51 : decode method_7_code 51 = .ok (.if_icmp .ne 6, 3) := by decide +kernel
theorem dpw_54 : decode method_7_code 54 = .ok (.ldc 54, 2) := by decide +kernel
theorem dpw_56 : decode method_7_code 56 = .ok (.ireturn, 1) := by decide +kernel
theorem dpw_57 : decode method_7_code 57 = .ok (.iload_n 0, 1) := by decide +kernel
theorem dpw_58 : decode method_7_code 58 = .ok (.bipush 7, 2) := by decide +kernel
theorem dpw_60 : decode method_7_code 60 = .ok (.if_icmp .ne 6, 3) := by decide +kernel
theorem dpw_63 : decode method_7_code 63 = .ok (.ldc 55, 2) := by decide +kernel
theorem dpw_65 : decode method_7_code 65 = .ok (.ireturn, 1) := by decide +kernel
theorem dpw_66 : decode method_7_code 66 = .ok (.iload_n 0, 1) := by decide +kernel
theorem dpw_67 : decode method_7_code 67 = .ok (.bipush 8, 2) := by decide +kernel
theorem dpw_69 : decode method_7_code 69 = .ok (.if_icmp .ne 6, 3) := by decide +kernel
theorem dpw_72 : decode method_7_code 72 = .ok (.ldc 56, 2) := by decide +kernel
theorem dpw_74 : decode method_7_code 74 = .ok (.ireturn, 1) := by decide +kernel
theorem dpw_75 : decode method_7_code 75 = .ok (.ldc 57, 2) := by decide +kernel
theorem dpw_77 : decode method_7_code 77 = .ok (.ireturn, 1) := by decide +kernel
set_option maxRecDepth 65536 in
set_option maxHeartbeats 4000000 in
theorem rmpw (l : Launch) {Z : State} {a0 : Array Value} (G : OG Z a0) (n0 : Nat) (x : Int32) (h0 : Heap) : oCon l Z n0 EL1 [] (⟨"com/example/typeloom/typeloom/ProblemToStringPinLaw", "pow10", "(I)I"⟩ : MethodName) ipw #[.int x] h0 (fun v h => v = some (.int (pwV x)) ∧ h = h0) := by
  obtain ⟨hw, hEL, ⟨cmp, hC, hc0⟩, ⟨fm, hfm, hF⟩⟩ := id G
  refine oCon.mk hEL pnpw rfl rfl (efpw x) fun C hCl => ?_
  refine s_iloadN (pc' := 1) dpw_0 rfl rfl ?_
  refine s_if (pc' := 4) (pc'' := 6) dpw_1 rfl (by decide) rfl (fun hc1 => ?_) (fun hc1 => ?_)
  · replace hc1 := b_ne hc1
    refine s_iloadN (pc' := 7) dpw_6 rfl rfl ?_
    refine s_iconst (x := (1 : Int32)) (pc' := 8) dpw_7 rfl rfl ?_
    refine s_icmp (pc' := 11) (pc'' := 14) dpw_8 rfl (by decide) rfl (fun hc8 => ?_) (fun hc8 => ?_)
    · replace hc8 := b_ne hc8
      refine s_iloadN (pc' := 15) dpw_14 rfl rfl ?_
      refine s_iconst (x := (2 : Int32)) (pc' := 16) dpw_15 rfl rfl ?_
      refine s_icmp (pc' := 19) (pc'' := 22) dpw_16 rfl (by decide) rfl (fun hc16 => ?_) (fun hc16 => ?_)
      · replace hc16 := b_ne hc16
        refine s_iloadN (pc' := 23) dpw_22 rfl rfl ?_
        refine s_iconst (x := (3 : Int32)) (pc' := 24) dpw_23 rfl rfl ?_
        refine s_icmp (pc' := 27) (pc'' := 31) dpw_24 rfl (by decide) rfl (fun hc24 => ?_) (fun hc24 => ?_)
        · replace hc24 := b_ne hc24
          refine s_iloadN (pc' := 32) dpw_31 rfl rfl ?_
          refine s_iconst (x := (4 : Int32)) (pc' := 33) dpw_32 rfl rfl ?_
          refine s_icmp (pc' := 36) (pc'' := 40) dpw_33 rfl (by decide) rfl (fun hc33 => ?_) (fun hc33 => ?_)
          · replace hc33 := b_ne hc33
            refine s_iloadN (pc' := 41) dpw_40 rfl rfl ?_
            refine s_iconst (x := (5 : Int32)) (pc' := 42) dpw_41 rfl rfl ?_
            refine s_icmp (pc' := 45) (pc'' := 48) dpw_42 rfl (by decide) rfl (fun hc42 => ?_) (fun hc42 => ?_)
            · replace hc42 := b_ne hc42
              refine s_iloadN (pc' := 49) dpw_48 rfl rfl ?_
              refine s_bipush (x := (6 : Int32)) (pc' := 51) dpw_49 rfl rfl ?_
              refine s_icmp (pc' := 54) (pc'' := 57) dpw_51 rfl (by decide) rfl (fun hc51 => ?_) (fun hc51 => ?_)
              · replace hc51 := b_ne hc51
                refine s_iloadN (pc' := 58) dpw_57 rfl rfl ?_
                refine s_bipush (x := (7 : Int32)) (pc' := 60) dpw_58 rfl rfl ?_
                refine s_icmp (pc' := 63) (pc'' := 66) dpw_60 rfl (by decide) rfl (fun hc60 => ?_) (fun hc60 => ?_)
                · replace hc60 := b_ne hc60
                  refine s_iloadN (pc' := 67) dpw_66 rfl rfl ?_
                  refine s_bipush (x := (8 : Int32)) (pc' := 69) dpw_67 rfl rfl ?_
                  refine s_icmp (pc' := 72) (pc'' := 75) dpw_69 rfl (by decide) rfl (fun hc69 => ?_) (fun hc69 => ?_)
                  · replace hc69 := b_ne hc69
                    refine s_ldcI (x := (1000000000 : Int32)) (hw _ (List.mem_of_getElem? (i := 256) rfl)) (pc' := 77) dpw_75 rfl ?_
                    exact s_iret rfl dpw_77 (Nat.le_of_ble_eq_true rfl) (Nat.le_of_ble_eq_true rfl) ⟨by rw [pwV, if_neg hc1, if_neg hc8, if_neg hc16, if_neg hc24, if_neg hc33, if_neg hc42, if_neg hc51, if_neg hc60, if_neg hc69], rfl⟩
                  · replace hc69 := b_neF hc69
                    refine s_ldcI (x := (100000000 : Int32)) (hw _ (List.mem_of_getElem? (i := 255) rfl)) (pc' := 74) dpw_72 rfl ?_
                    exact s_iret rfl dpw_74 (Nat.le_of_ble_eq_true rfl) (Nat.le_of_ble_eq_true rfl) ⟨by rw [pwV, if_neg hc1, if_neg hc8, if_neg hc16, if_neg hc24, if_neg hc33, if_neg hc42, if_neg hc51, if_neg hc60, if_pos hc69], rfl⟩
                · replace hc60 := b_neF hc60
                  refine s_ldcI (x := (10000000 : Int32)) (hw _ (List.mem_of_getElem? (i := 254) rfl)) (pc' := 65) dpw_63 rfl ?_
                  exact s_iret rfl dpw_65 (Nat.le_of_ble_eq_true rfl) (Nat.le_of_ble_eq_true rfl) ⟨by rw [pwV, if_neg hc1, if_neg hc8, if_neg hc16, if_neg hc24, if_neg hc33, if_neg hc42, if_neg hc51, if_pos hc60], rfl⟩
              · replace hc51 := b_neF hc51
                refine s_ldcI (x := (1000000 : Int32)) (hw _ (List.mem_of_getElem? (i := 253) rfl)) (pc' := 56) dpw_54 rfl ?_
                exact s_iret rfl dpw_56 (Nat.le_of_ble_eq_true rfl) (Nat.le_of_ble_eq_true rfl) ⟨by rw [pwV, if_neg hc1, if_neg hc8, if_neg hc16, if_neg hc24, if_neg hc33, if_neg hc42, if_pos hc51], rfl⟩
            · replace hc42 := b_neF hc42
              refine s_ldcI (x := (100000 : Int32)) (hw _ (List.mem_of_getElem? (i := 252) rfl)) (pc' := 47) dpw_45 rfl ?_
              exact s_iret rfl dpw_47 (Nat.le_of_ble_eq_true rfl) (Nat.le_of_ble_eq_true rfl) ⟨by rw [pwV, if_neg hc1, if_neg hc8, if_neg hc16, if_neg hc24, if_neg hc33, if_pos hc42], rfl⟩
          · replace hc33 := b_neF hc33
            refine s_sipush (x := (10000 : Int32)) (pc' := 39) dpw_36 rfl rfl ?_
            exact s_iret rfl dpw_39 (Nat.le_of_ble_eq_true rfl) (Nat.le_of_ble_eq_true rfl) ⟨by rw [pwV, if_neg hc1, if_neg hc8, if_neg hc16, if_neg hc24, if_pos hc33], rfl⟩
        · replace hc24 := b_neF hc24
          refine s_sipush (x := (1000 : Int32)) (pc' := 30) dpw_27 rfl rfl ?_
          exact s_iret rfl dpw_30 (Nat.le_of_ble_eq_true rfl) (Nat.le_of_ble_eq_true rfl) ⟨by rw [pwV, if_neg hc1, if_neg hc8, if_neg hc16, if_pos hc24], rfl⟩
      · replace hc16 := b_neF hc16
        refine s_bipush (x := (100 : Int32)) (pc' := 21) dpw_19 rfl rfl ?_
        exact s_iret rfl dpw_21 (Nat.le_of_ble_eq_true rfl) (Nat.le_of_ble_eq_true rfl) ⟨by rw [pwV, if_neg hc1, if_neg hc8, if_pos hc16], rfl⟩
    · replace hc8 := b_neF hc8
      refine s_bipush (x := (10 : Int32)) (pc' := 13) dpw_11 rfl rfl ?_
      exact s_iret rfl dpw_13 (Nat.le_of_ble_eq_true rfl) (Nat.le_of_ble_eq_true rfl) ⟨by rw [pwV, if_neg hc1, if_pos hc8], rfl⟩
  · replace hc1 := b_neF hc1
    refine s_iconst (x := (1 : Int32)) (pc' := 5) dpw_4 rfl rfl ?_
    exact s_iret rfl dpw_5 (Nat.le_of_ble_eq_true rfl) (Nat.le_of_ble_eq_true rfl) ⟨by rw [pwV, if_pos hc1], rfl⟩
def icc : OInfo := ("com/example/typeloom/typeloom/ProblemToStringPinLaw", method_4_code, 4, (some .boolean), "c", ({ frames := 4, cells := 0, slots := 0, locals := 60 } : Room))
theorem efcc (x0 : Addr) (x1 : Int32) (x2 : Addr) (x3 : Int32) (m : MethodId) : entryFrame m #[(.ref x0), (.int x1), (.ref x2), (.int x3)] 4 = mkF m 0 #[.val (.ref x0), .val (.int x1), .val (.ref x2), .val (.int x3)] [] := by first | (simp [entryFrame, mkF, argsToLocals, Value.category]; done) | rfl
theorem pdcc : parseMethodDescriptor "(Ljava/lang/String;ILjava/lang/String;I)Z" = some ⟨[(.object "java/lang/String"), .int, (.object "java/lang/String"), .int], some .boolean⟩ := by decide +kernel
theorem pncc : plainFor (⟨"com/example/typeloom/typeloom/ProblemToStringPinLaw", "c", "(Ljava/lang/String;ILjava/lang/String;I)Z"⟩ : MethodName) = true := by decide +kernel
theorem dcc_0 : decode method_4_code 0 = .ok (.iload_n 3, 1) := by decide +kernel
theorem dcc_1 : decode method_4_code 1 = .ok (.aload_n 2, 1) := by decide +kernel
theorem dcc_2 : decode method_4_code 2 = .ok (.invokevirtual 22, 3) := by decide +kernel
theorem dcc_5 : decode method_4_code 5 = .ok (.if_icmp .ge 18, 3) := by decide +kernel
theorem dcc_8 : decode method_4_code 8 = .ok (.aload_n 0, 1) := by decide +kernel
theorem dcc_9 : decode method_4_code 9 = .ok (.iload_n 1, 1) := by decide +kernel
theorem dcc_10 : decode method_4_code 10 = .ok (.iload_n 3, 1) := by decide +kernel
theorem dcc_11 : decode method_4_code 11 = .ok (.iadd, 1) := by decide +kernel
theorem dcc_12 : decode method_4_code 12 = .ok (.invokevirtual 38, 3) := by decide +kernel
theorem dcc_15 : decode method_4_code 15 = .ok (.aload_n 2, 1) := by decide +kernel
theorem dcc_16 : decode method_4_code 16 = .ok (.iload_n 3, 1) := by decide +kernel
theorem dcc_17 : decode method_4_code 17 = .ok (.invokevirtual 38, 3) := by decide +kernel
theorem dcc_20 : decode method_4_code 20 = .ok (.if_icmp .ne 7, 3) := by decide +kernel
theorem dcc_23 : decode method_4_code 23 = .ok (.iconst 1, 1) := by decide +kernel
theorem dcc_24 : decode method_4_code 24 = .ok (.goto 4, 3) := by decide +kernel
theorem dcc_28 : decode method_4_code 28 = .ok (.ireturn, 1) := by decide +kernel
set_option maxRecDepth 65536 in
set_option maxHeartbeats 4000000 in
theorem rmcc (l : Launch) {Z : State} {a0 : Array Value} (G : OG Z a0) (n0 : Nat) (r s : Addr) (N M off k : Nat) (rs cs : List Int32) (h0 : Heap) (hk : k ≤ 64) (hb1 : rs.length < 2147483648) (hl : cs.length ≤ 64) (hch1 : Ch rs) (hch2 : Ch cs) (hof : ∀ j z, cs[j]? = some z → rs[off + j]? = some z) (H1 : SV Z h0 N r rs) (H2 : SV Z h0 M s cs) : oCon l Z n0 EL1 [] (⟨"com/example/typeloom/typeloom/ProblemToStringPinLaw", "c", "(Ljava/lang/String;ILjava/lang/String;I)Z"⟩ : MethodName) icc #[.ref r, .int (Int32.ofNat off), .ref s, .int (Int32.ofNat k)] h0 (fun v h => v = some (.int 1) ∧ h = h0) := by
  obtain ⟨hw, hEL, ⟨cmp, hC, hc0⟩, ⟨fm, hfm, hF⟩⟩ := id G
  refine oCon.mk hEL pncc rfl rfl (efcc r _ s _) fun C hCl => ?_
  refine s_iloadN (pc' := 1) dcc_0 rfl rfl ?_
  refine s_aloadN (pc' := 2) dcc_1 rfl rfl rfl ?_
  refine s_callV0 (rmsL C.l G n0 s M cs _ H2) (by simp) H2.exa (hw _ (List.mem_of_getElem? (i := 162) rfl)) (hw _ (List.mem_of_getElem? (i := 79) rfl)) (hw _ (List.mem_of_getElem? (i := 81) rfl)) (hw _ (List.mem_of_getElem? (i := 80) rfl)) (o_nf (hw _ (List.mem_of_getElem? (i := 81) rfl)) rfl) (hw _ (List.mem_of_getElem? (i := 6) rfl)) (hw _ (List.mem_of_getElem? (i := 82) rfl)) (by decide) (o_len pdsL rfl) rfl (pc' := 5) dcc_2 rfl (Nat.le_of_ble_eq_true rfl) (Nat.le_of_ble_eq_true rfl) (Nat.le_of_ble_eq_true rfl) (Nat.le_of_ble_eq_true rfl) (fun v2 h2 hQ2 => ?_)
  obtain ⟨rfl, rfl⟩ := hQ2
  dsimp only [oPush]
  refine s_icmp (pc' := 8) (pc'' := 23) dcc_5 rfl (by decide) rfl (fun hc5 => ?_) (fun hc5 => ?_)
  · replace hc5 := b_ge hc5
    refine s_iconst (x := (1 : Int32)) (pc' := 24) dcc_23 rfl rfl ?_
    refine s_goto (pc' := 28) dcc_24 (by decide) rfl ?_
    exact s_nret (t := .boolean) rfl (by simp) dcc_28 (Nat.le_of_ble_eq_true rfl) (Nat.le_of_ble_eq_true rfl) ⟨rfl, rfl⟩
  · replace hc5 := b_geF hc5
    rw [n_lt (by omega) (by omega)] at hc5
    obtain ⟨z0, hz0⟩ : ∃ z, cs[k]? = some z := ⟨cs[k], List.getElem?_eq_getElem hc5⟩
    refine s_aloadN (pc' := 9) dcc_8 rfl rfl rfl ?_
    refine s_iloadN (pc' := 10) dcc_9 rfl rfl ?_
    refine s_iloadN (pc' := 11) dcc_10 rfl rfl ?_
    refine s_iadd (pc' := 12) dcc_11 rfl ?_
    rw [n_add]
    refine s_callV1 (rmsH C.l G n0 r N rs (off + k) z0 _ hb1 hch1 (hof k z0 hz0) H1) (by simp) H1.exa (hw _ (List.mem_of_getElem? (i := 170) rfl)) (hw _ (List.mem_of_getElem? (i := 171) rfl)) (hw _ (List.mem_of_getElem? (i := 173) rfl)) (hw _ (List.mem_of_getElem? (i := 172) rfl)) (o_nf (hw _ (List.mem_of_getElem? (i := 173) rfl)) rfl) (hw _ (List.mem_of_getElem? (i := 6) rfl)) (hw _ (List.mem_of_getElem? (i := 174) rfl)) (by decide) (o_len pdsH rfl) rfl (pc' := 15) dcc_12 rfl (Nat.le_of_ble_eq_true rfl) (Nat.le_of_ble_eq_true rfl) (Nat.le_of_ble_eq_true rfl) (Nat.le_of_ble_eq_true rfl) (fun v12 h12 hQ12 => ?_)
    obtain ⟨rfl, rfl⟩ := hQ12
    dsimp only [oPush]
    refine s_aloadN (pc' := 16) dcc_15 rfl rfl rfl ?_
    refine s_iloadN (pc' := 17) dcc_16 rfl rfl ?_
    refine s_callV1 (rmsH C.l G n0 s M cs k z0 _ (by omega) hch2 hz0 H2) (by simp) H2.exa (hw _ (List.mem_of_getElem? (i := 170) rfl)) (hw _ (List.mem_of_getElem? (i := 171) rfl)) (hw _ (List.mem_of_getElem? (i := 173) rfl)) (hw _ (List.mem_of_getElem? (i := 172) rfl)) (o_nf (hw _ (List.mem_of_getElem? (i := 173) rfl)) rfl) (hw _ (List.mem_of_getElem? (i := 6) rfl)) (hw _ (List.mem_of_getElem? (i := 174) rfl)) (by decide) (o_len pdsH rfl) rfl (pc' := 20) dcc_17 rfl (Nat.le_of_ble_eq_true rfl) (Nat.le_of_ble_eq_true rfl) (Nat.le_of_ble_eq_true rfl) (Nat.le_of_ble_eq_true rfl) (fun v17 h17 hQ17 => ?_)
    obtain ⟨rfl, rfl⟩ := hQ17
    dsimp only [oPush]
    refine s_icmp (pc' := 23) (pc'' := 27) dcc_20 rfl (by decide) rfl (fun hc20 => ?_) (fun hc20 => ?_)
    · replace hc20 := b_ne hc20
      exact absurd rfl hc20
    · replace hc20 := b_neF hc20
      refine s_iconst (x := (1 : Int32)) (pc' := 24) dcc_23 rfl rfl ?_
      refine s_goto (pc' := 28) dcc_24 (by decide) rfl ?_
      exact s_nret (t := .boolean) rfl (by simp) dcc_28 (Nat.le_of_ble_eq_true rfl) (Nat.le_of_ble_eq_true rfl) ⟨rfl, rfl⟩
def iea : OInfo := ("com/example/typeloom/typeloom/ProblemToStringPinLaw", method_5_code, 3, (some .boolean), "eqAt", ({ frames := 5, cells := 0, slots := 0, locals := 80 } : Room))
theorem efea (x0 : Addr) (x1 : Int32) (x2 : Addr) (m : MethodId) : entryFrame m #[(.ref x0), (.int x1), (.ref x2)] 3 = mkF m 0 #[.val (.ref x0), .val (.int x1), .val (.ref x2)] [] := by first | (simp [entryFrame, mkF, argsToLocals, Value.category]; done) | rfl
theorem pdea : parseMethodDescriptor "(Ljava/lang/String;ILjava/lang/String;)Z" = some ⟨[(.object "java/lang/String"), .int, (.object "java/lang/String")], some .boolean⟩ := by decide +kernel
theorem pnea : plainFor (⟨"com/example/typeloom/typeloom/ProblemToStringPinLaw", "eqAt", "(Ljava/lang/String;ILjava/lang/String;)Z"⟩ : MethodName) = true := by decide +kernel
theorem dea_0 : decode method_5_code 0 = .ok (.aload_n 0, 1) := by decide +kernel
theorem dea_1 : decode method_5_code 1 = .ok (.iload_n 1, 1) := by decide +kernel
theorem dea_2 : decode method_5_code 2 = .ok (.aload_n 2, 1) := by decide +kernel
theorem dea_3 : decode method_5_code 3 = .ok (.iconst 0, 1) := by decide +kernel
theorem dea_4 : decode method_5_code 4 = .ok (.invokestatic 49, 3) := by decide +kernel
theorem dea_7 : decode method_5_code 7 = .ok (.ifCond .eq 68, 3) := by decide +kernel
theorem dea_10 : decode method_5_code 10 = .ok (.aload_n 0, 1) := by decide +kernel
theorem dea_11 : decode method_5_code 11 = .ok (.iload_n 1, 1) := by decide +kernel
theorem dea_12 : decode method_5_code 12 = .ok (.aload_n 2, 1) := by decide +kernel
theorem dea_13 : decode method_5_code 13 = .ok (.iconst 1, 1) := by decide +kernel
theorem dea_14 : decode method_5_code 14 = .ok (.invokestatic 49, 3) := by decide +kernel
theorem dea_17 : decode method_5_code 17 = .ok (.ifCond .eq 58, 3) := by decide +kernel
theorem dea_20 : decode method_5_code 20 = .ok (.aload_n 0, 1) := by decide +kernel
theorem dea_21 : decode method_5_code 21 = .ok (.iload_n 1, 1) := by decide +kernel
theorem dea_22 : decode method_5_code 22 = .ok (.aload_n 2, 1) := by decide +kernel
theorem dea_23 : decode method_5_code 23 = .ok (.iconst 2, 1) := by decide +kernel
theorem dea_24 : decode method_5_code 24 = .ok (.invokestatic 49, 3) := by decide +kernel
theorem dea_27 : decode method_5_code 27 = .ok (.ifCond .eq 48, 3) := by decide +kernel
theorem dea_30 : decode method_5_code 30 = .ok (.aload_n 0, 1) := by decide +kernel
theorem dea_31 : decode method_5_code 31 = .ok (.iload_n 1, 1) := by decide +kernel
theorem dea_32 : decode method_5_code 32 = .ok (.aload_n 2, 1) := by decide +kernel
theorem dea_33 : decode method_5_code 33 = .ok (.iconst 3, 1) := by decide +kernel
theorem dea_34 : decode method_5_code 34 = .ok (.invokestatic 49, 3) := by decide +kernel
theorem dea_37 : decode method_5_code 37 = .ok (.ifCond .eq 38, 3) := by decide +kernel
theorem dea_40 : decode method_5_code 40 = .ok (.aload_n 0, 1) := by decide +kernel
theorem dea_41 : decode method_5_code 41 = .ok (.iload_n 1, 1) := by decide +kernel
theorem dea_42 : decode method_5_code 42 = .ok (.aload_n 2, 1) := by decide +kernel
theorem dea_43 : decode method_5_code 43 = .ok (.iconst 4, 1) := by decide +kernel
theorem dea_44 : decode method_5_code 44 = .ok (.invokestatic 49, 3) := by decide +kernel
theorem dea_47 : decode method_5_code 47 = .ok (.ifCond .eq 28, 3) := by decide +kernel
theorem dea_50 : decode method_5_code 50 = .ok (.aload_n 0, 1) := by decide +kernel
theorem dea_51 : decode method_5_code 51 = .ok (.iload_n 1, 1) := by decide +kernel
theorem dea_52 : decode method_5_code 52 = .ok (.aload_n 2, 1) := by decide +kernel
theorem dea_53 : decode method_5_code 53 = .ok (.iconst 5, 1) := by decide +kernel
theorem dea_54 : decode method_5_code 54 = .ok (.invokestatic 49, 3) := by decide +kernel
theorem dea_57 : decode method_5_code 57 = .ok (.ifCond .eq 18, 3) := by decide +kernel
theorem dea_60 : decode method_5_code 60 = .ok (.aload_n 0, 1) := by decide +kernel
theorem dea_61 : decode method_5_code 61 = .ok (.iload_n 1, 1) := by decide +kernel
theorem dea_62 : decode method_5_code 62 = .ok (.aload_n 2, 1) := by decide +kernel
theorem dea_63 : decode method_5_code 63 = .ok (.bipush 6, 2) := by decide +kernel
theorem dea_65 : decode method_5_code 65 = .ok (.invokestatic 49, 3) := by decide +kernel
theorem dea_68 : decode method_5_code 68 = .ok (.ifCond .eq 7, 3) := by decide +kernel
theorem dea_71 : decode method_5_code 71 = .ok (.iconst 1, 1) := by decide +kernel
theorem dea_72 : decode method_5_code 72 = .ok (.goto 4, 3) := by decide +kernel
theorem dea_76 : decode method_5_code 76 = .ok (.ireturn, 1) := by decide +kernel
set_option maxRecDepth 65536 in
set_option maxHeartbeats 4000000 in
theorem rmea (l : Launch) {Z : State} {a0 : Array Value} (G : OG Z a0) (n0 : Nat) (r s : Addr) (N M off : Nat) (rs cs : List Int32) (h0 : Heap) (hb1 : rs.length < 2147483648) (hl : cs.length ≤ 64) (hch1 : Ch rs) (hch2 : Ch cs) (hof : ∀ j z, cs[j]? = some z → rs[off + j]? = some z) (H1 : SV Z h0 N r rs) (H2 : SV Z h0 M s cs) : oCon l Z n0 EL1 [] (⟨"com/example/typeloom/typeloom/ProblemToStringPinLaw", "eqAt", "(Ljava/lang/String;ILjava/lang/String;)Z"⟩ : MethodName) iea #[.ref r, .int (Int32.ofNat off), .ref s] h0 (fun v h => v = some (.int 1) ∧ h = h0) := by
  obtain ⟨hw, hEL, ⟨cmp, hC, hc0⟩, ⟨fm, hfm, hF⟩⟩ := id G
  refine oCon.mk hEL pnea rfl rfl (efea r _ s) fun C hCl => ?_
  refine s_aloadN (pc' := 1) dea_0 rfl rfl rfl ?_
  refine s_iloadN (pc' := 2) dea_1 rfl rfl ?_
  refine s_aloadN (pc' := 3) dea_2 rfl rfl rfl ?_
  refine s_iconst (x := (0 : Int32)) (pc' := 4) dea_3 rfl rfl ?_
  refine s_callS4 (rmcc C.l G n0 r s N M off 0 rs cs _ (by decide) hb1 (by omega) hch1 hch2 hof H1 H2) (by simp) (hw _ (List.mem_of_getElem? (i := 167) rfl)) (hw _ (List.mem_of_getElem? (i := 168) rfl)) (hw _ (List.mem_of_getElem? (i := 2) rfl)) (hw _ (List.mem_of_getElem? (i := 169) rfl)) (by decide) (o_len pdcc rfl) rfl (pc' := 7) dea_4 rfl (Nat.le_of_ble_eq_true rfl) (Nat.le_of_ble_eq_true rfl) (Nat.le_of_ble_eq_true rfl) (Nat.le_of_ble_eq_true rfl) (fun v4 h4 hQ4 => ?_)
  obtain ⟨rfl, rfl⟩ := hQ4
  dsimp only [oPush]
  refine s_if (pc' := 10) (pc'' := 75) dea_7 rfl (by decide) rfl (fun hc7 => ?_) (fun hc7 => ?_)
  · replace hc7 := b_eq hc7
    exact absurd hc7 (by decide)
  · replace hc7 := b_eqF hc7
    refine s_aloadN (pc' := 11) dea_10 rfl rfl rfl ?_
    refine s_iloadN (pc' := 12) dea_11 rfl rfl ?_
    refine s_aloadN (pc' := 13) dea_12 rfl rfl rfl ?_
    refine s_iconst (x := (1 : Int32)) (pc' := 14) dea_13 rfl rfl ?_
    refine s_callS4 (rmcc C.l G n0 r s N M off 1 rs cs _ (by decide) hb1 (by omega) hch1 hch2 hof H1 H2) (by simp) (hw _ (List.mem_of_getElem? (i := 167) rfl)) (hw _ (List.mem_of_getElem? (i := 168) rfl)) (hw _ (List.mem_of_getElem? (i := 2) rfl)) (hw _ (List.mem_of_getElem? (i := 169) rfl)) (by decide) (o_len pdcc rfl) rfl (pc' := 17) dea_14 rfl (Nat.le_of_ble_eq_true rfl) (Nat.le_of_ble_eq_true rfl) (Nat.le_of_ble_eq_true rfl) (Nat.le_of_ble_eq_true rfl) (fun v14 h14 hQ14 => ?_)
    obtain ⟨rfl, rfl⟩ := hQ14
    dsimp only [oPush]
    refine s_if (pc' := 20) (pc'' := 75) dea_17 rfl (by decide) rfl (fun hc17 => ?_) (fun hc17 => ?_)
    · replace hc17 := b_eq hc17
      exact absurd hc17 (by decide)
    · replace hc17 := b_eqF hc17
      refine s_aloadN (pc' := 21) dea_20 rfl rfl rfl ?_
      refine s_iloadN (pc' := 22) dea_21 rfl rfl ?_
      refine s_aloadN (pc' := 23) dea_22 rfl rfl rfl ?_
      refine s_iconst (x := (2 : Int32)) (pc' := 24) dea_23 rfl rfl ?_
      refine s_callS4 (rmcc C.l G n0 r s N M off 2 rs cs _ (by decide) hb1 (by omega) hch1 hch2 hof H1 H2) (by simp) (hw _ (List.mem_of_getElem? (i := 167) rfl)) (hw _ (List.mem_of_getElem? (i := 168) rfl)) (hw _ (List.mem_of_getElem? (i := 2) rfl)) (hw _ (List.mem_of_getElem? (i := 169) rfl)) (by decide) (o_len pdcc rfl) rfl (pc' := 27) dea_24 rfl (Nat.le_of_ble_eq_true rfl) (Nat.le_of_ble_eq_true rfl) (Nat.le_of_ble_eq_true rfl) (Nat.le_of_ble_eq_true rfl) (fun v24 h24 hQ24 => ?_)
      obtain ⟨rfl, rfl⟩ := hQ24
      dsimp only [oPush]
      refine s_if (pc' := 30) (pc'' := 75) dea_27 rfl (by decide) rfl (fun hc27 => ?_) (fun hc27 => ?_)
      · replace hc27 := b_eq hc27
        exact absurd hc27 (by decide)
      · replace hc27 := b_eqF hc27
        refine s_aloadN (pc' := 31) dea_30 rfl rfl rfl ?_
        refine s_iloadN (pc' := 32) dea_31 rfl rfl ?_
        refine s_aloadN (pc' := 33) dea_32 rfl rfl rfl ?_
        refine s_iconst (x := (3 : Int32)) (pc' := 34) dea_33 rfl rfl ?_
        refine s_callS4 (rmcc C.l G n0 r s N M off 3 rs cs _ (by decide) hb1 (by omega) hch1 hch2 hof H1 H2) (by simp) (hw _ (List.mem_of_getElem? (i := 167) rfl)) (hw _ (List.mem_of_getElem? (i := 168) rfl)) (hw _ (List.mem_of_getElem? (i := 2) rfl)) (hw _ (List.mem_of_getElem? (i := 169) rfl)) (by decide) (o_len pdcc rfl) rfl (pc' := 37) dea_34 rfl (Nat.le_of_ble_eq_true rfl) (Nat.le_of_ble_eq_true rfl) (Nat.le_of_ble_eq_true rfl) (Nat.le_of_ble_eq_true rfl) (fun v34 h34 hQ34 => ?_)
        obtain ⟨rfl, rfl⟩ := hQ34
        dsimp only [oPush]
        refine s_if (pc' := 40) (pc'' := 75) dea_37 rfl (by decide) rfl (fun hc37 => ?_) (fun hc37 => ?_)
        · replace hc37 := b_eq hc37
          exact absurd hc37 (by decide)
        · replace hc37 := b_eqF hc37
          refine s_aloadN (pc' := 41) dea_40 rfl rfl rfl ?_
          refine s_iloadN (pc' := 42) dea_41 rfl rfl ?_
          refine s_aloadN (pc' := 43) dea_42 rfl rfl rfl ?_
          refine s_iconst (x := (4 : Int32)) (pc' := 44) dea_43 rfl rfl ?_
          refine s_callS4 (rmcc C.l G n0 r s N M off 4 rs cs _ (by decide) hb1 (by omega) hch1 hch2 hof H1 H2) (by simp) (hw _ (List.mem_of_getElem? (i := 167) rfl)) (hw _ (List.mem_of_getElem? (i := 168) rfl)) (hw _ (List.mem_of_getElem? (i := 2) rfl)) (hw _ (List.mem_of_getElem? (i := 169) rfl)) (by decide) (o_len pdcc rfl) rfl (pc' := 47) dea_44 rfl (Nat.le_of_ble_eq_true rfl) (Nat.le_of_ble_eq_true rfl) (Nat.le_of_ble_eq_true rfl) (Nat.le_of_ble_eq_true rfl) (fun v44 h44 hQ44 => ?_)
          obtain ⟨rfl, rfl⟩ := hQ44
          dsimp only [oPush]
          refine s_if (pc' := 50) (pc'' := 75) dea_47 rfl (by decide) rfl (fun hc47 => ?_) (fun hc47 => ?_)
          · replace hc47 := b_eq hc47
            exact absurd hc47 (by decide)
          · replace hc47 := b_eqF hc47
            refine s_aloadN (pc' := 51) dea_50 rfl rfl rfl ?_
            refine s_iloadN (pc' := 52) dea_51 rfl rfl ?_
            refine s_aloadN (pc' := 53) dea_52 rfl rfl rfl ?_
            refine s_iconst (x := (5 : Int32)) (pc' := 54) dea_53 rfl rfl ?_
            refine s_callS4 (rmcc C.l G n0 r s N M off 5 rs cs _ (by decide) hb1 (by omega) hch1 hch2 hof H1 H2) (by simp) (hw _ (List.mem_of_getElem? (i := 167) rfl)) (hw _ (List.mem_of_getElem? (i := 168) rfl)) (hw _ (List.mem_of_getElem? (i := 2) rfl)) (hw _ (List.mem_of_getElem? (i := 169) rfl)) (by decide) (o_len pdcc rfl) rfl (pc' := 57) dea_54 rfl (Nat.le_of_ble_eq_true rfl) (Nat.le_of_ble_eq_true rfl) (Nat.le_of_ble_eq_true rfl) (Nat.le_of_ble_eq_true rfl) (fun v54 h54 hQ54 => ?_)
            obtain ⟨rfl, rfl⟩ := hQ54
            dsimp only [oPush]
            refine s_if (pc' := 60) (pc'' := 75) dea_57 rfl (by decide) rfl (fun hc57 => ?_) (fun hc57 => ?_)
            · replace hc57 := b_eq hc57
              exact absurd hc57 (by decide)
            · replace hc57 := b_eqF hc57
              refine s_aloadN (pc' := 61) dea_60 rfl rfl rfl ?_
              refine s_iloadN (pc' := 62) dea_61 rfl rfl ?_
              refine s_aloadN (pc' := 63) dea_62 rfl rfl rfl ?_
              refine s_bipush (x := (6 : Int32)) (pc' := 65) dea_63 rfl rfl ?_
              refine s_callS4 (rmcc C.l G n0 r s N M off 6 rs cs _ (by decide) hb1 (by omega) hch1 hch2 hof H1 H2) (by simp) (hw _ (List.mem_of_getElem? (i := 167) rfl)) (hw _ (List.mem_of_getElem? (i := 168) rfl)) (hw _ (List.mem_of_getElem? (i := 2) rfl)) (hw _ (List.mem_of_getElem? (i := 169) rfl)) (by decide) (o_len pdcc rfl) rfl (pc' := 68) dea_65 rfl (Nat.le_of_ble_eq_true rfl) (Nat.le_of_ble_eq_true rfl) (Nat.le_of_ble_eq_true rfl) (Nat.le_of_ble_eq_true rfl) (fun v65 h65 hQ65 => ?_)
              obtain ⟨rfl, rfl⟩ := hQ65
              dsimp only [oPush]
              refine s_if (pc' := 71) (pc'' := 75) dea_68 rfl (by decide) rfl (fun hc68 => ?_) (fun hc68 => ?_)
              · replace hc68 := b_eq hc68
                exact absurd hc68 (by decide)
              · replace hc68 := b_eqF hc68
                refine s_iconst (x := (1 : Int32)) (pc' := 72) dea_71 rfl rfl ?_
                refine s_goto (pc' := 76) dea_72 (by decide) rfl ?_
                exact s_nret (t := .boolean) rfl (by simp) dea_76 (Nat.le_of_ble_eq_true rfl) (Nat.le_of_ble_eq_true rfl) ⟨rfl, rfl⟩
def idi : OInfo := ("com/example/typeloom/typeloom/ProblemToStringPinLaw", method_8_code, 5, (some .boolean), "dig", ({ frames := 4, cells := 0, slots := 0, locals := 60 } : Room))
theorem efdi (x0 : Addr) (x1 : Int32) (x2 : Int32) (x3 : Int32) (x4 : Int32) (m : MethodId) : entryFrame m #[(.ref x0), (.int x1), (.int x2), (.int x3), (.int x4)] 5 = mkF m 0 #[.val (.ref x0), .val (.int x1), .val (.int x2), .val (.int x3), .val (.int x4)] [] := by first | (simp [entryFrame, mkF, argsToLocals, Value.category]; done) | rfl
theorem pddi : parseMethodDescriptor "(Ljava/lang/String;IIII)Z" = some ⟨[(.object "java/lang/String"), .int, .int, .int, .int], some .boolean⟩ := by decide +kernel
theorem pndi : plainFor (⟨"com/example/typeloom/typeloom/ProblemToStringPinLaw", "dig", "(Ljava/lang/String;IIII)Z"⟩ : MethodName) = true := by decide +kernel
theorem ddi_0 : decode method_8_code 0 = .ok (.iload 4, 2) := by decide +kernel
theorem ddi_2 : decode method_8_code 2 = .ok (.iload_n 3, 1) := by decide +kernel
theorem ddi_3 : decode method_8_code 3 = .ok (.if_icmp .ge 32, 3) := by decide +kernel
theorem ddi_6 : decode method_8_code 6 = .ok (.aload_n 0, 1) := by decide +kernel
theorem ddi_7 : decode method_8_code 7 = .ok (.iload_n 1, 1) := by decide +kernel
theorem ddi_8 : decode method_8_code 8 = .ok (.iload 4, 2) := by decide +kernel
theorem ddi_10 : decode method_8_code 10 = .ok (.iadd, 1) := by decide +kernel
theorem ddi_11 : decode method_8_code 11 = .ok (.invokevirtual 38, 3) := by decide +kernel
theorem ddi_14 : decode method_8_code 14 = .ok (.bipush 48, 2) := by decide +kernel
theorem ddi_16 : decode method_8_code 16 = .ok (.iload_n 2, 1) := by decide +kernel
theorem ddi_17 : decode method_8_code 17 = .ok (.iload_n 3, 1) := by decide +kernel
theorem ddi_18 : decode method_8_code 18 = .ok (.iconst 1, 1) := by decide +kernel
theorem ddi_19 : decode method_8_code 19 = .ok (.isub, 1) := by decide +kernel
theorem ddi_20 : decode method_8_code 20 = .ok (.iload 4, 2) := by decide +kernel
theorem ddi_22 : decode method_8_code 22 = .ok (.isub, 1) := by decide +kernel
theorem ddi_23 : decode method_8_code 23 = .ok (.invokestatic 58, 3) := by decide +kernel
theorem ddi_26 : decode method_8_code 26 = .ok (.idiv, 1) := by decide +kernel
theorem ddi_27 : decode method_8_code 27 = .ok (.bipush 10, 2) := by decide +kernel
theorem ddi_29 : decode method_8_code 29 = .ok (.irem, 1) := by decide +kernel
theorem ddi_30 : decode method_8_code 30 = .ok (.iadd, 1) := by decide +kernel
theorem ddi_31 : decode method_8_code 31 = .ok (.i2c, 1) := by decide +kernel
theorem ddi_32 : decode method_8_code 32 = .ok (.if_icmp .ne 7, 3) := by decide +kernel
theorem ddi_35 : decode method_8_code 35 = .ok (.iconst 1, 1) := by decide +kernel
theorem ddi_36 : decode method_8_code 36 = .ok (.goto 4, 3) := by decide +kernel
theorem ddi_40 : decode method_8_code 40 = .ok (.ireturn, 1) := by decide +kernel
set_option maxRecDepth 65536 in
set_option maxHeartbeats 4000000 in
theorem rmdi (l : Launch) {Z : State} {a0 : Array Value} (G : OG Z a0) (n0 : Nat) (r : Addr) (N off k n : Nat) (rs : List Int32) (h0 : Heap) (hk : k ≤ 64) (hn : n < 2147483648) (hb1 : rs.length < 2147483648) (hch1 : Ch rs) (hof : ∀ j z, (DL n)[j]? = some z → rs[off + j]? = some z) (H1 : SV Z h0 N r rs) : oCon l Z n0 EL1 [] (⟨"com/example/typeloom/typeloom/ProblemToStringPinLaw", "dig", "(Ljava/lang/String;IIII)Z"⟩ : MethodName) idi #[.ref r, .int (Int32.ofNat off), .int (Int32.ofNat n), .int (Int32.ofNat (dg n)), .int (Int32.ofNat k)] h0 (fun v h => v = some (.int 1) ∧ h = h0) := by
  obtain ⟨hw, hEL, ⟨cmp, hC, hc0⟩, ⟨fm, hfm, hF⟩⟩ := id G
  have hdg := dg_r n
  refine oCon.mk hEL pndi rfl rfl (efdi r _ _ _ _) fun C hCl => ?_
  refine s_iload (pc' := 2) ddi_0 rfl rfl ?_
  refine s_iloadN (pc' := 3) ddi_2 rfl rfl ?_
  refine s_icmp (pc' := 6) (pc'' := 35) ddi_3 rfl (by decide) rfl (fun hc3 => ?_) (fun hc3 => ?_)
  · replace hc3 := b_ge hc3
    refine s_iconst (x := (1 : Int32)) (pc' := 36) ddi_35 rfl rfl ?_
    refine s_goto (pc' := 40) ddi_36 (by decide) rfl ?_
    exact s_nret (t := .boolean) rfl (by simp) ddi_40 (Nat.le_of_ble_eq_true rfl) (Nat.le_of_ble_eq_true rfl) ⟨rfl, rfl⟩
  · replace hc3 := b_geF hc3
    rw [n_lt (by omega) (by omega)] at hc3
    refine s_aloadN (pc' := 7) ddi_6 rfl rfl rfl ?_
    refine s_iloadN (pc' := 8) ddi_7 rfl rfl ?_
    refine s_iload (pc' := 10) ddi_8 rfl rfl ?_
    refine s_iadd (pc' := 11) ddi_10 rfl ?_
    rw [n_add]
    refine s_callV1 (rmsH C.l G n0 r N rs (off + k) (dv n k) _ hb1 hch1 (hof k (dv n k) (DL_at hc3)) H1) (by simp) H1.exa (hw _ (List.mem_of_getElem? (i := 170) rfl)) (hw _ (List.mem_of_getElem? (i := 171) rfl)) (hw _ (List.mem_of_getElem? (i := 173) rfl)) (hw _ (List.mem_of_getElem? (i := 172) rfl)) (o_nf (hw _ (List.mem_of_getElem? (i := 173) rfl)) rfl) (hw _ (List.mem_of_getElem? (i := 6) rfl)) (hw _ (List.mem_of_getElem? (i := 174) rfl)) (by decide) (o_len pdsH rfl) rfl (pc' := 14) ddi_11 rfl (Nat.le_of_ble_eq_true rfl) (Nat.le_of_ble_eq_true rfl) (Nat.le_of_ble_eq_true rfl) (Nat.le_of_ble_eq_true rfl) (fun v11 h11 hQ11 => ?_)
    obtain ⟨rfl, rfl⟩ := hQ11
    dsimp only [oPush]
    refine s_bipush (x := (48 : Int32)) (pc' := 16) ddi_14 rfl rfl ?_
    refine s_iloadN (pc' := 17) ddi_16 rfl rfl ?_
    refine s_iloadN (pc' := 18) ddi_17 rfl rfl ?_
    refine s_iconst (x := (1 : Int32)) (pc' := 19) ddi_18 rfl rfl ?_
    refine s_isub (pc' := 20) ddi_19 rfl ?_
    rw [show (1 : Int32) = Int32.ofNat 1 from rfl, n_subn (by omega) (dg_r n).1]
    refine s_iload (pc' := 22) ddi_20 rfl rfl ?_
    refine s_isub (pc' := 23) ddi_22 rfl ?_
    rw [n_subn (by omega) (by omega)]
    refine s_callS1 (rmpw C.l G n0 _ _) (by simp) (hw _ (List.mem_of_getElem? (i := 221) rfl)) (hw _ (List.mem_of_getElem? (i := 222) rfl)) (hw _ (List.mem_of_getElem? (i := 2) rfl)) (hw _ (List.mem_of_getElem? (i := 223) rfl)) (by decide) (o_len pdpw rfl) rfl (pc' := 26) ddi_23 rfl (Nat.le_of_ble_eq_true rfl) (Nat.le_of_ble_eq_true rfl) (Nat.le_of_ble_eq_true rfl) (Nat.le_of_ble_eq_true rfl) (fun v23 h23 hQ23 => ?_)
    obtain ⟨rfl, rfl⟩ := hQ23
    dsimp only [oPush]
    rw [pwV_eq (by omega)]
    refine s_idiv (pc' := 27) ddi_26 rfl (fun q => absurd (n_inj (b := 0) (pow9 (by omega)) (by decide) q) (Nat.ne_of_gt (Nat.pow_pos (by decide)))) ?_
    rw [n_div hn (pow9 (by omega)) (Nat.pow_pos (by decide))]
    refine s_bipush (x := (10 : Int32)) (pc' := 29) ddi_27 rfl rfl ?_
    refine s_irem (pc' := 30) ddi_29 rfl (by decide) ?_
    rw [show (10 : Int32) = Int32.ofNat 10 from rfl, n_mod (Nat.lt_of_le_of_lt (Nat.div_le_self _ _) hn) (by decide) (by decide)]
    refine s_iadd (pc' := 31) ddi_30 rfl ?_
    rw [show (48 : Int32) = Int32.ofNat 48 from rfl, n_add]
    refine s_i2c (pc' := 32) ddi_31 rfl ?_
    rw [i2c_ch (d48 (Nat.mod_lt _ (by decide)))]
    refine s_icmp (pc' := 35) (pc'' := 39) ddi_32 rfl (by decide) rfl (fun hc32 => ?_) (fun hc32 => ?_)
    · replace hc32 := b_ne hc32
      exact absurd (by unfold dv; rfl) hc32
    · replace hc32 := b_neF hc32
      refine s_iconst (x := (1 : Int32)) (pc' := 36) ddi_35 rfl rfl ?_
      refine s_goto (pc' := 40) ddi_36 (by decide) rfl ?_
      exact s_nret (t := .boolean) rfl (by simp) ddi_40 (Nat.le_of_ble_eq_true rfl) (Nat.le_of_ble_eq_true rfl) ⟨rfl, rfl⟩
def ida : OInfo := ("com/example/typeloom/typeloom/ProblemToStringPinLaw", method_9_code, 4, (some .boolean), "digitsAt", ({ frames := 5, cells := 0, slots := 0, locals := 80 } : Room))
theorem efda (x0 : Addr) (x1 : Int32) (x2 : Int32) (x3 : Int32) (m : MethodId) : entryFrame m #[(.ref x0), (.int x1), (.int x2), (.int x3)] 4 = mkF m 0 #[.val (.ref x0), .val (.int x1), .val (.int x2), .val (.int x3)] [] := by first | (simp [entryFrame, mkF, argsToLocals, Value.category]; done) | rfl
theorem pdda : parseMethodDescriptor "(Ljava/lang/String;III)Z" = some ⟨[(.object "java/lang/String"), .int, .int, .int], some .boolean⟩ := by decide +kernel
theorem pnda : plainFor (⟨"com/example/typeloom/typeloom/ProblemToStringPinLaw", "digitsAt", "(Ljava/lang/String;III)Z"⟩ : MethodName) = true := by decide +kernel
theorem dda_0 : decode method_9_code 0 = .ok (.aload_n 0, 1) := by decide +kernel
theorem dda_1 : decode method_9_code 1 = .ok (.iload_n 1, 1) := by decide +kernel
theorem dda_2 : decode method_9_code 2 = .ok (.iload_n 2, 1) := by decide +kernel
theorem dda_3 : decode method_9_code 3 = .ok (.iload_n 3, 1) := by decide +kernel
theorem dda_4 : decode method_9_code 4 = .ok (.iconst 0, 1) := by decide +kernel
theorem dda_5 : decode method_9_code 5 = .ok (.invokestatic 61, 3) := by decide +kernel
theorem dda_8 : decode method_9_code 8 = .ok (.ifCond .eq 110, 3) := by decide +kernel
theorem dda_11 : decode method_9_code 11 = .ok (.aload_n 0, 1) := by decide +kernel
theorem dda_12 : decode method_9_code 12 = .ok (.iload_n 1, 1) := by decide +kernel
theorem dda_13 : decode method_9_code 13 = .ok (.iload_n 2, 1) := by decide +kernel
theorem dda_14 : decode method_9_code 14 = .ok (.iload_n 3, 1) := by decide +kernel
theorem dda_15 : decode method_9_code 15 = .ok (.iconst 1, 1) := by decide +kernel
theorem dda_16 : decode method_9_code 16 = .ok (.invokestatic 61, 3) := by decide +kernel
theorem dda_19 : decode method_9_code 19 = .ok (.ifCond .eq 99, 3) := by decide +kernel
theorem dda_22 : decode method_9_code 22 = .ok (.aload_n 0, 1) := by decide +kernel
theorem dda_23 : decode method_9_code 23 = .ok (.iload_n 1, 1) := by decide +kernel
theorem dda_24 : decode method_9_code 24 = .ok (.iload_n 2, 1) := by decide +kernel
theorem dda_25 : decode method_9_code 25 = .ok (.iload_n 3, 1) := by decide +kernel
theorem dda_26 : decode method_9_code 26 = .ok (.iconst 2, 1) := by decide +kernel
theorem dda_27 : decode method_9_code 27 = .ok (.invokestatic 61, 3) := by decide +kernel
theorem dda_30 : decode method_9_code 30 = .ok (.ifCond .eq 88, 3) := by decide +kernel
theorem dda_33 : decode method_9_code 33 = .ok (.aload_n 0, 1) := by decide +kernel
theorem dda_34 : decode method_9_code 34 = .ok (.iload_n 1, 1) := by decide +kernel
theorem dda_35 : decode method_9_code 35 = .ok (.iload_n 2, 1) := by decide +kernel
theorem dda_36 : decode method_9_code 36 = .ok (.iload_n 3, 1) := by decide +kernel
theorem dda_37 : decode method_9_code 37 = .ok (.iconst 3, 1) := by decide +kernel
theorem dda_38 : decode method_9_code 38 = .ok (.invokestatic 61, 3) := by decide +kernel
theorem dda_41 : decode method_9_code 41 = .ok (.ifCond .eq 77, 3) := by decide +kernel
theorem dda_44 : decode method_9_code 44 = .ok (.aload_n 0, 1) := by decide +kernel
theorem dda_45 : decode method_9_code 45 = .ok (.iload_n 1, 1) := by decide +kernel
theorem dda_46 : decode method_9_code 46 = .ok (.iload_n 2, 1) := by decide +kernel
theorem dda_47 : decode method_9_code 47 = .ok (.iload_n 3, 1) := by decide +kernel
theorem dda_48 : decode method_9_code 48 = .ok (.iconst 4, 1) := by decide +kernel
theorem dda_49 : decode method_9_code 49 = .ok (.invokestatic 61, 3) := by decide +kernel
theorem dda_52 : decode method_9_code 52 = .ok (.ifCond .eq 66, 3) := by decide +kernel
theorem dda_55 : decode method_9_code 55 = .ok (.aload_n 0, 1) := by decide +kernel
theorem dda_56 : decode method_9_code 56 = .ok (.iload_n 1, 1) := by decide +kernel
theorem dda_57 : decode method_9_code 57 = .ok (.iload_n 2, 1) := by decide +kernel
theorem dda_58 : decode method_9_code 58 = .ok (.iload_n 3, 1) := by decide +kernel
theorem dda_59 : decode method_9_code 59 = .ok (.iconst 5, 1) := by decide +kernel
theorem dda_60 : decode method_9_code 60 = .ok (.invokestatic 61, 3) := by decide +kernel
theorem dda_63 : decode method_9_code 63 = .ok (.ifCond .eq 55, 3) := by decide +kernel
theorem dda_66 : decode method_9_code 66 = .ok (.aload_n 0, 1) := by decide +kernel
theorem dda_67 : decode method_9_code 67 = .ok (.iload_n 1, 1) := by decide +kernel
theorem dda_68 : decode method_9_code 68 = .ok (.iload_n 2, 1) := by decide +kernel
theorem dda_69 : decode method_9_code 69 = .ok (.iload_n 3, 1) := by decide +kernel
theorem dda_70 : decode method_9_code 70 = .ok (.bipush 6, 2) := by decide +kernel
theorem dda_72 : decode method_9_code 72 = .ok (.invokestatic 61, 3) := by decide +kernel
theorem dda_75 : decode method_9_code 75 = .ok (.ifCond .eq 43, 3) := by decide +kernel
theorem dda_78 : decode method_9_code 78 = .ok (.aload_n 0, 1) := by decide +kernel
theorem dda_79 : decode method_9_code 79 = .ok (.iload_n 1, 1) := by decide +kernel
theorem dda_80 : decode method_9_code 80 = .ok (.iload_n 2, 1) := by decide +kernel
theorem dda_81 : decode method_9_code 81 = .ok (.iload_n 3, 1) := by decide +kernel
theorem dda_82 : decode method_9_code 82 = .ok (.bipush 7, 2) := by decide +kernel
theorem dda_84 : decode method_9_code 84 = .ok (.invokestatic 61, 3) := by decide +kernel
theorem dda_87 : decode method_9_code 87 = .ok (.ifCond .eq 31, 3) := by decide +kernel
theorem dda_90 : decode method_9_code 90 = .ok (.aload_n 0, 1) := by decide +kernel
theorem dda_91 : decode method_9_code 91 = .ok (.iload_n 1, 1) := by decide +kernel
theorem dda_92 : decode method_9_code 92 = .ok (.iload_n 2, 1) := by decide +kernel
theorem dda_93 : decode method_9_code 93 = .ok (.iload_n 3, 1) := by decide +kernel
theorem dda_94 : decode method_9_code 94 = .ok (.bipush 8, 2) := by decide +kernel
theorem dda_96 : decode method_9_code 96 = .ok (.invokestatic 61, 3) := by decide +kernel
theorem dda_99 : decode method_9_code 99 = .ok (.ifCond .eq 19, 3) := by decide +kernel
theorem dda_102 : decode method_9_code 102 = .ok (.aload_n 0, 1) := by decide +kernel
theorem dda_103 : decode method_9_code 103 = .ok (.iload_n 1, 1) := by decide +kernel
theorem dda_104 : decode method_9_code 104 = .ok (.iload_n 2, 1) := by decide +kernel
theorem dda_105 : decode method_9_code 105 = .ok (.iload_n 3, 1) := by decide +kernel
theorem dda_106 : decode method_9_code 106 = .ok (.bipush 9, 2) := by decide +kernel
theorem dda_108 : decode method_9_code 108 = .ok (.invokestatic 61, 3) := by decide +kernel
theorem dda_111 : decode method_9_code 111 = .ok (.ifCond .eq 7, 3) := by decide +kernel
theorem dda_114 : decode method_9_code 114 = .ok (.iconst 1, 1) := by decide +kernel
theorem dda_115 : decode method_9_code 115 = .ok (.goto 4, 3) := by decide +kernel
theorem dda_119 : decode method_9_code 119 = .ok (.ireturn, 1) := by decide +kernel
set_option maxRecDepth 65536 in
set_option maxHeartbeats 4000000 in
theorem rmda (l : Launch) {Z : State} {a0 : Array Value} (G : OG Z a0) (n0 : Nat) (r : Addr) (N off n : Nat) (rs : List Int32) (h0 : Heap) (hn : n < 2147483648) (hb1 : rs.length < 2147483648) (hch1 : Ch rs) (hof : ∀ j z, (DL n)[j]? = some z → rs[off + j]? = some z) (H1 : SV Z h0 N r rs) : oCon l Z n0 EL1 [] (⟨"com/example/typeloom/typeloom/ProblemToStringPinLaw", "digitsAt", "(Ljava/lang/String;III)Z"⟩ : MethodName) ida #[.ref r, .int (Int32.ofNat off), .int (Int32.ofNat n), .int (Int32.ofNat (dg n))] h0 (fun v h => v = some (.int 1) ∧ h = h0) := by
  obtain ⟨hw, hEL, ⟨cmp, hC, hc0⟩, ⟨fm, hfm, hF⟩⟩ := id G
  refine oCon.mk hEL pnda rfl rfl (efda r _ _ _) fun C hCl => ?_
  refine s_aloadN (pc' := 1) dda_0 rfl rfl rfl ?_
  refine s_iloadN (pc' := 2) dda_1 rfl rfl ?_
  refine s_iloadN (pc' := 3) dda_2 rfl rfl ?_
  refine s_iloadN (pc' := 4) dda_3 rfl rfl ?_
  refine s_iconst (x := (0 : Int32)) (pc' := 5) dda_4 rfl rfl ?_
  refine s_callS5 (rmdi C.l G n0 r N off 0 n rs _ (by decide) hn hb1 hch1 hof H1) (by simp) (hw _ (List.mem_of_getElem? (i := 218) rfl)) (hw _ (List.mem_of_getElem? (i := 219) rfl)) (hw _ (List.mem_of_getElem? (i := 2) rfl)) (hw _ (List.mem_of_getElem? (i := 220) rfl)) (by decide) (o_len pddi rfl) rfl (pc' := 8) dda_5 rfl (Nat.le_of_ble_eq_true rfl) (Nat.le_of_ble_eq_true rfl) (Nat.le_of_ble_eq_true rfl) (Nat.le_of_ble_eq_true rfl) (fun v5 h5 hQ5 => ?_)
  obtain ⟨rfl, rfl⟩ := hQ5
  dsimp only [oPush]
  refine s_if (pc' := 11) (pc'' := 118) dda_8 rfl (by decide) rfl (fun hc8 => ?_) (fun hc8 => ?_)
  · replace hc8 := b_eq hc8
    exact absurd hc8 (by decide)
  · replace hc8 := b_eqF hc8
    refine s_aloadN (pc' := 12) dda_11 rfl rfl rfl ?_
    refine s_iloadN (pc' := 13) dda_12 rfl rfl ?_
    refine s_iloadN (pc' := 14) dda_13 rfl rfl ?_
    refine s_iloadN (pc' := 15) dda_14 rfl rfl ?_
    refine s_iconst (x := (1 : Int32)) (pc' := 16) dda_15 rfl rfl ?_
    refine s_callS5 (rmdi C.l G n0 r N off 1 n rs _ (by decide) hn hb1 hch1 hof H1) (by simp) (hw _ (List.mem_of_getElem? (i := 218) rfl)) (hw _ (List.mem_of_getElem? (i := 219) rfl)) (hw _ (List.mem_of_getElem? (i := 2) rfl)) (hw _ (List.mem_of_getElem? (i := 220) rfl)) (by decide) (o_len pddi rfl) rfl (pc' := 19) dda_16 rfl (Nat.le_of_ble_eq_true rfl) (Nat.le_of_ble_eq_true rfl) (Nat.le_of_ble_eq_true rfl) (Nat.le_of_ble_eq_true rfl) (fun v16 h16 hQ16 => ?_)
    obtain ⟨rfl, rfl⟩ := hQ16
    dsimp only [oPush]
    refine s_if (pc' := 22) (pc'' := 118) dda_19 rfl (by decide) rfl (fun hc19 => ?_) (fun hc19 => ?_)
    · replace hc19 := b_eq hc19
      exact absurd hc19 (by decide)
    · replace hc19 := b_eqF hc19
      refine s_aloadN (pc' := 23) dda_22 rfl rfl rfl ?_
      refine s_iloadN (pc' := 24) dda_23 rfl rfl ?_
      refine s_iloadN (pc' := 25) dda_24 rfl rfl ?_
      refine s_iloadN (pc' := 26) dda_25 rfl rfl ?_
      refine s_iconst (x := (2 : Int32)) (pc' := 27) dda_26 rfl rfl ?_
      refine s_callS5 (rmdi C.l G n0 r N off 2 n rs _ (by decide) hn hb1 hch1 hof H1) (by simp) (hw _ (List.mem_of_getElem? (i := 218) rfl)) (hw _ (List.mem_of_getElem? (i := 219) rfl)) (hw _ (List.mem_of_getElem? (i := 2) rfl)) (hw _ (List.mem_of_getElem? (i := 220) rfl)) (by decide) (o_len pddi rfl) rfl (pc' := 30) dda_27 rfl (Nat.le_of_ble_eq_true rfl) (Nat.le_of_ble_eq_true rfl) (Nat.le_of_ble_eq_true rfl) (Nat.le_of_ble_eq_true rfl) (fun v27 h27 hQ27 => ?_)
      obtain ⟨rfl, rfl⟩ := hQ27
      dsimp only [oPush]
      refine s_if (pc' := 33) (pc'' := 118) dda_30 rfl (by decide) rfl (fun hc30 => ?_) (fun hc30 => ?_)
      · replace hc30 := b_eq hc30
        exact absurd hc30 (by decide)
      · replace hc30 := b_eqF hc30
        refine s_aloadN (pc' := 34) dda_33 rfl rfl rfl ?_
        refine s_iloadN (pc' := 35) dda_34 rfl rfl ?_
        refine s_iloadN (pc' := 36) dda_35 rfl rfl ?_
        refine s_iloadN (pc' := 37) dda_36 rfl rfl ?_
        refine s_iconst (x := (3 : Int32)) (pc' := 38) dda_37 rfl rfl ?_
        refine s_callS5 (rmdi C.l G n0 r N off 3 n rs _ (by decide) hn hb1 hch1 hof H1) (by simp) (hw _ (List.mem_of_getElem? (i := 218) rfl)) (hw _ (List.mem_of_getElem? (i := 219) rfl)) (hw _ (List.mem_of_getElem? (i := 2) rfl)) (hw _ (List.mem_of_getElem? (i := 220) rfl)) (by decide) (o_len pddi rfl) rfl (pc' := 41) dda_38 rfl (Nat.le_of_ble_eq_true rfl) (Nat.le_of_ble_eq_true rfl) (Nat.le_of_ble_eq_true rfl) (Nat.le_of_ble_eq_true rfl) (fun v38 h38 hQ38 => ?_)
        obtain ⟨rfl, rfl⟩ := hQ38
        dsimp only [oPush]
        refine s_if (pc' := 44) (pc'' := 118) dda_41 rfl (by decide) rfl (fun hc41 => ?_) (fun hc41 => ?_)
        · replace hc41 := b_eq hc41
          exact absurd hc41 (by decide)
        · replace hc41 := b_eqF hc41
          refine s_aloadN (pc' := 45) dda_44 rfl rfl rfl ?_
          refine s_iloadN (pc' := 46) dda_45 rfl rfl ?_
          refine s_iloadN (pc' := 47) dda_46 rfl rfl ?_
          refine s_iloadN (pc' := 48) dda_47 rfl rfl ?_
          refine s_iconst (x := (4 : Int32)) (pc' := 49) dda_48 rfl rfl ?_
          refine s_callS5 (rmdi C.l G n0 r N off 4 n rs _ (by decide) hn hb1 hch1 hof H1) (by simp) (hw _ (List.mem_of_getElem? (i := 218) rfl)) (hw _ (List.mem_of_getElem? (i := 219) rfl)) (hw _ (List.mem_of_getElem? (i := 2) rfl)) (hw _ (List.mem_of_getElem? (i := 220) rfl)) (by decide) (o_len pddi rfl) rfl (pc' := 52) dda_49 rfl (Nat.le_of_ble_eq_true rfl) (Nat.le_of_ble_eq_true rfl) (Nat.le_of_ble_eq_true rfl) (Nat.le_of_ble_eq_true rfl) (fun v49 h49 hQ49 => ?_)
          obtain ⟨rfl, rfl⟩ := hQ49
          dsimp only [oPush]
          refine s_if (pc' := 55) (pc'' := 118) dda_52 rfl (by decide) rfl (fun hc52 => ?_) (fun hc52 => ?_)
          · replace hc52 := b_eq hc52
            exact absurd hc52 (by decide)
          · replace hc52 := b_eqF hc52
            refine s_aloadN (pc' := 56) dda_55 rfl rfl rfl ?_
            refine s_iloadN (pc' := 57) dda_56 rfl rfl ?_
            refine s_iloadN (pc' := 58) dda_57 rfl rfl ?_
            refine s_iloadN (pc' := 59) dda_58 rfl rfl ?_
            refine s_iconst (x := (5 : Int32)) (pc' := 60) dda_59 rfl rfl ?_
            refine s_callS5 (rmdi C.l G n0 r N off 5 n rs _ (by decide) hn hb1 hch1 hof H1) (by simp) (hw _ (List.mem_of_getElem? (i := 218) rfl)) (hw _ (List.mem_of_getElem? (i := 219) rfl)) (hw _ (List.mem_of_getElem? (i := 2) rfl)) (hw _ (List.mem_of_getElem? (i := 220) rfl)) (by decide) (o_len pddi rfl) rfl (pc' := 63) dda_60 rfl (Nat.le_of_ble_eq_true rfl) (Nat.le_of_ble_eq_true rfl) (Nat.le_of_ble_eq_true rfl) (Nat.le_of_ble_eq_true rfl) (fun v60 h60 hQ60 => ?_)
            obtain ⟨rfl, rfl⟩ := hQ60
            dsimp only [oPush]
            refine s_if (pc' := 66) (pc'' := 118) dda_63 rfl (by decide) rfl (fun hc63 => ?_) (fun hc63 => ?_)
            · replace hc63 := b_eq hc63
              exact absurd hc63 (by decide)
            · replace hc63 := b_eqF hc63
              refine s_aloadN (pc' := 67) dda_66 rfl rfl rfl ?_
              refine s_iloadN (pc' := 68) dda_67 rfl rfl ?_
              refine s_iloadN (pc' := 69) dda_68 rfl rfl ?_
              refine s_iloadN (pc' := 70) dda_69 rfl rfl ?_
              refine s_bipush (x := (6 : Int32)) (pc' := 72) dda_70 rfl rfl ?_
              refine s_callS5 (rmdi C.l G n0 r N off 6 n rs _ (by decide) hn hb1 hch1 hof H1) (by simp) (hw _ (List.mem_of_getElem? (i := 218) rfl)) (hw _ (List.mem_of_getElem? (i := 219) rfl)) (hw _ (List.mem_of_getElem? (i := 2) rfl)) (hw _ (List.mem_of_getElem? (i := 220) rfl)) (by decide) (o_len pddi rfl) rfl (pc' := 75) dda_72 rfl (Nat.le_of_ble_eq_true rfl) (Nat.le_of_ble_eq_true rfl) (Nat.le_of_ble_eq_true rfl) (Nat.le_of_ble_eq_true rfl) (fun v72 h72 hQ72 => ?_)
              obtain ⟨rfl, rfl⟩ := hQ72
              dsimp only [oPush]
              refine s_if (pc' := 78) (pc'' := 118) dda_75 rfl (by decide) rfl (fun hc75 => ?_) (fun hc75 => ?_)
              · replace hc75 := b_eq hc75
                exact absurd hc75 (by decide)
              · replace hc75 := b_eqF hc75
                refine s_aloadN (pc' := 79) dda_78 rfl rfl rfl ?_
                refine s_iloadN (pc' := 80) dda_79 rfl rfl ?_
                refine s_iloadN (pc' := 81) dda_80 rfl rfl ?_
                refine s_iloadN (pc' := 82) dda_81 rfl rfl ?_
                refine s_bipush (x := (7 : Int32)) (pc' := 84) dda_82 rfl rfl ?_
                refine s_callS5 (rmdi C.l G n0 r N off 7 n rs _ (by decide) hn hb1 hch1 hof H1) (by simp) (hw _ (List.mem_of_getElem? (i := 218) rfl)) (hw _ (List.mem_of_getElem? (i := 219) rfl)) (hw _ (List.mem_of_getElem? (i := 2) rfl)) (hw _ (List.mem_of_getElem? (i := 220) rfl)) (by decide) (o_len pddi rfl) rfl (pc' := 87) dda_84 rfl (Nat.le_of_ble_eq_true rfl) (Nat.le_of_ble_eq_true rfl) (Nat.le_of_ble_eq_true rfl) (Nat.le_of_ble_eq_true rfl) (fun v84 h84 hQ84 => ?_)
                obtain ⟨rfl, rfl⟩ := hQ84
                dsimp only [oPush]
                refine s_if (pc' := 90) (pc'' := 118) dda_87 rfl (by decide) rfl (fun hc87 => ?_) (fun hc87 => ?_)
                · replace hc87 := b_eq hc87
                  exact absurd hc87 (by decide)
                · replace hc87 := b_eqF hc87
                  refine s_aloadN (pc' := 91) dda_90 rfl rfl rfl ?_
                  refine s_iloadN (pc' := 92) dda_91 rfl rfl ?_
                  refine s_iloadN (pc' := 93) dda_92 rfl rfl ?_
                  refine s_iloadN (pc' := 94) dda_93 rfl rfl ?_
                  refine s_bipush (x := (8 : Int32)) (pc' := 96) dda_94 rfl rfl ?_
                  refine s_callS5 (rmdi C.l G n0 r N off 8 n rs _ (by decide) hn hb1 hch1 hof H1) (by simp) (hw _ (List.mem_of_getElem? (i := 218) rfl)) (hw _ (List.mem_of_getElem? (i := 219) rfl)) (hw _ (List.mem_of_getElem? (i := 2) rfl)) (hw _ (List.mem_of_getElem? (i := 220) rfl)) (by decide) (o_len pddi rfl) rfl (pc' := 99) dda_96 rfl (Nat.le_of_ble_eq_true rfl) (Nat.le_of_ble_eq_true rfl) (Nat.le_of_ble_eq_true rfl) (Nat.le_of_ble_eq_true rfl) (fun v96 h96 hQ96 => ?_)
                  obtain ⟨rfl, rfl⟩ := hQ96
                  dsimp only [oPush]
                  refine s_if (pc' := 102) (pc'' := 118) dda_99 rfl (by decide) rfl (fun hc99 => ?_) (fun hc99 => ?_)
                  · replace hc99 := b_eq hc99
                    exact absurd hc99 (by decide)
                  · replace hc99 := b_eqF hc99
                    refine s_aloadN (pc' := 103) dda_102 rfl rfl rfl ?_
                    refine s_iloadN (pc' := 104) dda_103 rfl rfl ?_
                    refine s_iloadN (pc' := 105) dda_104 rfl rfl ?_
                    refine s_iloadN (pc' := 106) dda_105 rfl rfl ?_
                    refine s_bipush (x := (9 : Int32)) (pc' := 108) dda_106 rfl rfl ?_
                    refine s_callS5 (rmdi C.l G n0 r N off 9 n rs _ (by decide) hn hb1 hch1 hof H1) (by simp) (hw _ (List.mem_of_getElem? (i := 218) rfl)) (hw _ (List.mem_of_getElem? (i := 219) rfl)) (hw _ (List.mem_of_getElem? (i := 2) rfl)) (hw _ (List.mem_of_getElem? (i := 220) rfl)) (by decide) (o_len pddi rfl) rfl (pc' := 111) dda_108 rfl (Nat.le_of_ble_eq_true rfl) (Nat.le_of_ble_eq_true rfl) (Nat.le_of_ble_eq_true rfl) (Nat.le_of_ble_eq_true rfl) (fun v108 h108 hQ108 => ?_)
                    obtain ⟨rfl, rfl⟩ := hQ108
                    dsimp only [oPush]
                    refine s_if (pc' := 114) (pc'' := 118) dda_111 rfl (by decide) rfl (fun hc111 => ?_) (fun hc111 => ?_)
                    · replace hc111 := b_eq hc111
                      exact absurd hc111 (by decide)
                    · replace hc111 := b_eqF hc111
                      refine s_iconst (x := (1 : Int32)) (pc' := 115) dda_114 rfl rfl ?_
                      refine s_goto (pc' := 119) dda_115 (by decide) rfl ?_
                      exact s_nret (t := .boolean) rfl (by simp) dda_119 (Nat.le_of_ble_eq_true rfl) (Nat.le_of_ble_eq_true rfl) ⟨rfl, rfl⟩
def iss : OInfo := ("java/lang/Integer", jdk_33_method_13_code, 4, (some .int), "stringSize", ({ frames := 0, cells := 0, slots := 0, locals := 0 } : Room))
theorem efss (x0 : Int32) (m : MethodId) : entryFrame m #[(.int x0)] 4 = mkF m 0 #[.val (.int x0), .unset, .unset, .unset] [] := by first | (simp [entryFrame, mkF, argsToLocals, Value.category]; done) | rfl
theorem pdss : parseMethodDescriptor "(I)I" = some ⟨[.int], some .int⟩ := by decide +kernel
theorem pnss : plainFor (⟨"java/lang/Integer", "stringSize", "(I)I"⟩ : MethodName) = true := by decide +kernel
theorem dss_0 : decode jdk_33_method_13_code 0 = .ok (.iconst 1, 1) := by decide +kernel
theorem dss_1 : decode jdk_33_method_13_code 1 = .ok (.istore_n 1, 1) := by decide +kernel
theorem dss_2 : decode jdk_33_method_13_code 2 = .ok (.iload_n 0, 1) := by decide +kernel
theorem dss_3 : decode jdk_33_method_13_code 3 = .ok (.ifCond .lt 8, 3) := by decide +kernel
theorem dss_6 : decode jdk_33_method_13_code 6 = .ok (.iconst 0, 1) := by decide +kernel
theorem dss_7 : decode jdk_33_method_13_code 7 = .ok (.istore_n 1, 1) := by decide +kernel
theorem dss_8 : decode jdk_33_method_13_code 8 = .ok (.iload_n 0, 1) := by decide +kernel
theorem dss_9 : decode jdk_33_method_13_code 9 = .ok (.ineg, 1) := by decide +kernel
theorem dss_10 : decode jdk_33_method_13_code 10 = .ok (.istore_n 0, 1) := by decide +kernel
theorem dss_11 : decode jdk_33_method_13_code 11 = .ok (.bipush (-10), 2) := by decide +kernel
theorem dss_13 : decode jdk_33_method_13_code 13 = .ok (.istore_n 2, 1) := by decide +kernel
theorem dss_14 : decode jdk_33_method_13_code 14 = .ok (.iconst 1, 1) := by decide +kernel
theorem dss_15 : decode jdk_33_method_13_code 15 = .ok (.istore_n 3, 1) := by decide +kernel
theorem dss_16 : decode jdk_33_method_13_code 16 = .ok (.iload_n 3, 1) := by decide +kernel
theorem dss_17 : decode jdk_33_method_13_code 17 = .ok (.bipush 10, 2) := by decide +kernel
theorem dss_19 : decode jdk_33_method_13_code 19 = .ok (.if_icmp .ge 23, 3) := by decide +kernel
theorem dss_22 : decode jdk_33_method_13_code 22 = .ok (.iload_n 0, 1) := by decide +kernel
theorem dss_23 : decode jdk_33_method_13_code 23 = .ok (.iload_n 2, 1) := by decide +kernel
theorem dss_24 : decode jdk_33_method_13_code 24 = .ok (.if_icmp .le 7, 3) := by decide +kernel
theorem dss_27 : decode jdk_33_method_13_code 27 = .ok (.iload_n 3, 1) := by decide +kernel
theorem dss_28 : decode jdk_33_method_13_code 28 = .ok (.iload_n 1, 1) := by decide +kernel
theorem dss_29 : decode jdk_33_method_13_code 29 = .ok (.iadd, 1) := by decide +kernel
theorem dss_30 : decode jdk_33_method_13_code 30 = .ok (.ireturn, 1) := by decide +kernel
theorem dss_31 : decode jdk_33_method_13_code 31 = .ok (.bipush 10, 2) := by decide +kernel
theorem dss_33 : decode jdk_33_method_13_code 33 = .ok (.iload_n 2, 1) := by decide +kernel
theorem dss_34 : decode jdk_33_method_13_code 34 = .ok (.imul, 1) := by decide +kernel
theorem dss_35 : decode jdk_33_method_13_code 35 = .ok (.istore_n 2, 1) := by decide +kernel
theorem dss_36 : decode jdk_33_method_13_code 36 = .ok (.iinc 3 1, 3) := by decide +kernel
theorem dss_39 : decode jdk_33_method_13_code 39 = .ok (.goto (-23), 3) := by decide +kernel
theorem dss_42 : decode jdk_33_method_13_code 42 = .ok (.bipush 10, 2) := by decide +kernel
theorem dss_44 : decode jdk_33_method_13_code 44 = .ok (.iload_n 1, 1) := by decide +kernel
theorem dss_45 : decode jdk_33_method_13_code 45 = .ok (.iadd, 1) := by decide +kernel
theorem dss_46 : decode jdk_33_method_13_code 46 = .ok (.ireturn, 1) := by decide +kernel
set_option maxRecDepth 65536 in
set_option maxHeartbeats 4000000 in
theorem ssl {C : OCtx} {Z : State} {n0 : Nat} {ws : List Addr} {Q : Option Value → Heap → Prop} {h0 : Heap} {n : Nat} (hn : n < 2147483648) (fin : ∀ {x : Int32}, x = Int32.ofNat (dg n) → Q (some (.int x)) h0) : ∀ (f i : Nat), 1 ≤ i → i ≤ 10 → (i = 1 ∨ 10 ^ (i - 1) ≤ n) → f = 10 - i → oRun C Z n0 iss EL1 ws Q h0 0 0 (mkF C.m 16 #[.val (.int (-(Int32.ofNat n))), .val (.int 0), .val (.int (pwN i)), .val (.int (Int32.ofNat i))] []) := by
  intro f
  induction f using Nat.strongRecOn with
  | _ f ih =>
  intro i hi1 hi10 hge hf
  subst hf
  refine s_iloadN (pc' := 17) dss_16 rfl rfl ?_
  refine s_bipush (x := (10 : Int32)) (pc' := 19) dss_17 rfl rfl ?_
  refine s_icmp (pc' := 22) (pc'' := 42) dss_19 rfl (by decide) rfl (fun hc19 => ?_) (fun hc19 => ?_)
  · replace hc19 := b_ge hc19
    obtain rfl : i = 10 := by
      by_cases q : i < 10
      · exact absurd ((n_lt (by omega) (by decide)).mpr q) hc19
      · omega
    refine s_bipush (x := (10 : Int32)) (pc' := 44) dss_42 rfl rfl ?_
    refine s_iloadN (pc' := 45) dss_44 rfl rfl ?_
    refine s_iadd (pc' := 46) dss_45 rfl ?_
    exact s_iret rfl dss_46 (Nat.le_of_ble_eq_true rfl) (Nat.le_of_ble_eq_true rfl) (fin (by rw [Int32.add_zero, dg_10 (hge.elim (fun q => absurd q (by decide)) id)]; rfl))
  · replace hc19 := b_geF hc19
    have hi9 : i < 10 := (n_lt (b := 10) (by omega) (by decide)).mp hc19
    refine s_iloadN (pc' := 23) dss_22 rfl rfl ?_
    refine s_iloadN (pc' := 24) dss_23 rfl rfl ?_
    refine s_icmp (pc' := 27) (pc'' := 31) dss_24 rfl (by decide) rfl (fun hc24 => ?_) (fun hc24 => ?_)
    · replace hc24 := b_le hc24
      have hge2 : 10 ^ i ≤ n := Nat.le_of_not_lt fun q => hc24 ((neg_lt (pow9 (by omega)) hn).mpr q)
      refine s_bipush (x := (10 : Int32)) (pc' := 33) dss_31 rfl rfl ?_
      refine s_iloadN (pc' := 34) dss_33 rfl rfl ?_
      refine s_imul (pc' := 35) dss_34 rfl ?_
      rw [pwN_s]
      refine s_istoreN (kn := 2) rfl (pc' := 36) dss_35 rfl (o_st rfl (by first | exact One.u | exact One.val rfl | assumption) rfl) ?_
      dsimp only [List.set_cons_succ, List.set_cons_zero]
      refine s_iinc (y := (1 : Int32)) (pc' := 39) dss_36 rfl rfl rfl (o_st rfl (by first | exact One.u | exact One.val rfl | assumption) rfl) ?_
      dsimp only [List.set_cons_succ, List.set_cons_zero]
      rw [n_succ]
      refine s_goto (pc' := 16) dss_39 (by decide) rfl ?_
      exact ih (10 - (i + 1)) (by omega) (i + 1) (by omega) (by omega) (Or.inr hge2) rfl
    · replace hc24 := b_leF hc24
      have hlt : n < 10 ^ i := (neg_lt (pow9 (by omega)) hn).mp hc24
      refine s_iloadN (pc' := 28) dss_27 rfl rfl ?_
      refine s_iloadN (pc' := 29) dss_28 rfl rfl ?_
      refine s_iadd (pc' := 30) dss_29 rfl ?_
      exact s_iret rfl dss_30 (Nat.le_of_ble_eq_true rfl) (Nat.le_of_ble_eq_true rfl) (fin (by rw [Int32.add_zero, dg_of hi1 (by omega) hlt hge]))
set_option maxRecDepth 65536 in
set_option maxHeartbeats 4000000 in
theorem rmss (l : Launch) {Z : State} {a0 : Array Value} (G : OG Z a0) (n0 : Nat) (n : Nat) (hn : n < 2147483648) (h0 : Heap) : oCon l Z n0 EL1 [] (⟨"java/lang/Integer", "stringSize", "(I)I"⟩ : MethodName) iss #[.int (Int32.ofNat n)] h0 (fun v h => v = some (.int (Int32.ofNat (dg n))) ∧ h = h0) := by
  obtain ⟨hw, hEL, ⟨cmp, hC, hc0⟩, ⟨fm, hfm, hF⟩⟩ := id G
  refine oCon.mk hEL pnss rfl rfl (efss _) fun C hCl => ?_
  refine s_iconst (x := (1 : Int32)) (pc' := 1) dss_0 rfl rfl ?_
  refine s_istoreN (kn := 1) rfl (pc' := 2) dss_1 rfl (o_st rfl (by first | exact One.u | exact One.val rfl | assumption) rfl) ?_
  dsimp only [List.set_cons_succ, List.set_cons_zero]
  refine s_iloadN (pc' := 3) dss_2 rfl rfl ?_
  refine s_if (pc' := 6) (pc'' := 11) dss_3 rfl (by decide) rfl (fun hc3 => ?_) (fun hc3 => ?_)
  · replace hc3 := b_lt hc3
    exact absurd hc3 (nn hn)
  · replace hc3 := b_ltF hc3
    refine s_iconst (x := (0 : Int32)) (pc' := 7) dss_6 rfl rfl ?_
    refine s_istoreN (kn := 1) rfl (pc' := 8) dss_7 rfl (o_st rfl (by first | exact One.u | exact One.val rfl | assumption) rfl) ?_
    dsimp only [List.set_cons_succ, List.set_cons_zero]
    refine s_iloadN (pc' := 9) dss_8 rfl rfl ?_
    refine s_ineg (pc' := 10) dss_9 rfl ?_
    refine s_istoreN (kn := 0) rfl (pc' := 11) dss_10 rfl (o_st rfl (by first | exact One.u | exact One.val rfl | assumption) rfl) ?_
    dsimp only [List.set_cons_succ, List.set_cons_zero]
    refine s_bipush (x := (-10 : Int32)) (pc' := 13) dss_11 rfl rfl ?_
    refine s_istoreN (kn := 2) rfl (pc' := 14) dss_13 rfl (o_st rfl (by first | exact One.u | exact One.val rfl | assumption) rfl) ?_
    dsimp only [List.set_cons_succ, List.set_cons_zero]
    refine s_iconst (x := (1 : Int32)) (pc' := 15) dss_14 rfl rfl ?_
    refine s_istoreN (kn := 3) rfl (pc' := 16) dss_15 rfl (o_st rfl (by first | exact One.u | exact One.val rfl | assumption) rfl) ?_
    dsimp only [List.set_cons_succ, List.set_cons_zero]
    exact ssl hn (fun q => ⟨by rw [q], rfl⟩) 9 1 (Nat.le_refl _) (by decide) (Or.inl rfl) rfl
def tabl (F : Nat → Nat) : List Value := (List.range 100).map fun r => Value.int (Int32.ofNat (F r))
theorem tab_at {F : Nat → Nat} {r : Nat} (h : r < 100) (d : Value) : (tabl F).getD r d = .int (Int32.ofNat (F r)) := by
  simp [tabl, List.getD_eq_getElem?_getD, h]
def TB (Z : State) (nm : String) (F : Nat → Nat) : Prop := ∃ d k, Sta Z Z.heap "java/lang/Integer" nm "[B" (.ref d) ∧ Arv Z Z.heap d k .byte 100 (tabl F) (.int 0)
def TBS (Z : State) : Prop := TB Z "DigitOnes" (fun r => 48 + r % 10) ∧ TB Z "DigitTens" (fun r => 48 + r / 10)
def igc : OInfo := ("java/lang/Integer", jdk_33_method_12_code, 7, (some .int), "getChars", ({ frames := 0, cells := 0, slots := 0, locals := 0 } : Room))
theorem efgc (x0 : Int32) (x1 : Int32) (x2 : Addr) (m : MethodId) : entryFrame m #[(.int x0), (.int x1), (.ref x2)] 7 = mkF m 0 #[.val (.int x0), .val (.int x1), .val (.ref x2), .unset, .unset, .unset, .unset] [] := by first | (simp [entryFrame, mkF, argsToLocals, Value.category]; done) | rfl
theorem pdgc : parseMethodDescriptor "(II[B)I" = some ⟨[.int, .int, (.array .byte)], some .int⟩ := by decide +kernel
theorem pngc : plainFor (⟨"java/lang/Integer", "getChars", "(II[B)I"⟩ : MethodName) = true := by decide +kernel
theorem dgc_0 : decode jdk_33_method_12_code 0 = .ok (.iload_n 1, 1) := by decide +kernel
theorem dgc_1 : decode jdk_33_method_12_code 1 = .ok (.istore 5, 2) := by decide +kernel
theorem dgc_3 : decode jdk_33_method_12_code 3 = .ok (.iload_n 0, 1) := by decide +kernel
theorem dgc_4 : decode jdk_33_method_12_code 4 = .ok (.ifCond .ge 7, 3) := by decide +kernel
theorem dgc_11 : decode jdk_33_method_12_code 11 = .ok (.iconst 0, 1) := by decide +kernel
theorem dgc_12 : decode jdk_33_method_12_code 12 = .ok (.istore 6, 2) := by decide +kernel
theorem dgc_14 : decode jdk_33_method_12_code 14 = .ok (.iload 6, 2) := by decide +kernel
theorem dgc_16 : decode jdk_33_method_12_code 16 = .ok (.ifCond .ne 6, 3) := by decide +kernel
theorem dgc_19 : decode jdk_33_method_12_code 19 = .ok (.iload_n 0, 1) := by decide +kernel
theorem dgc_20 : decode jdk_33_method_12_code 20 = .ok (.ineg, 1) := by decide +kernel
theorem dgc_21 : decode jdk_33_method_12_code 21 = .ok (.istore_n 0, 1) := by decide +kernel
theorem dgc_22 : decode jdk_33_method_12_code 22 = .ok (.iload_n 0, 1) := by decide +kernel
theorem dgc_23 : decode jdk_33_method_12_code 23 = .ok (.bipush (-100), 2) := by decide +kernel
theorem dgc_25 : decode jdk_33_method_12_code 25 = .ok (.if_icmp .gt 47, 3) := by decide +kernel
theorem dgc_28 : decode jdk_33_method_12_code 28 = .ok (.iload_n 0, 1) := by decide +kernel
theorem dgc_29 : decode jdk_33_method_12_code 29 = .ok (.bipush 100, 2) := by decide +kernel
theorem dgc_31 : decode jdk_33_method_12_code 31 = .ok (.idiv, 1) := by decide +kernel
theorem dgc_32 : decode jdk_33_method_12_code 32 = .ok (.istore_n 3, 1) := by decide +kernel
theorem dgc_33 : decode jdk_33_method_12_code 33 = .ok (.iload_n 3, 1) := by decide +kernel
theorem dgc_34 : decode jdk_33_method_12_code 34 = .ok (.bipush 100, 2) := by decide +kernel
theorem dgc_36 : decode jdk_33_method_12_code 36 = .ok (.imul, 1) := by decide +kernel
theorem dgc_37 : decode jdk_33_method_12_code 37 = .ok (.iload_n 0, 1) := by decide +kernel
theorem dgc_38 : decode jdk_33_method_12_code 38 = .ok (.isub, 1) := by decide +kernel
theorem dgc_39 : decode jdk_33_method_12_code 39 = .ok (.istore 4, 2) := by decide +kernel
theorem dgc_41 : decode jdk_33_method_12_code 41 = .ok (.iload_n 3, 1) := by decide +kernel
theorem dgc_42 : decode jdk_33_method_12_code 42 = .ok (.istore_n 0, 1) := by decide +kernel
theorem dgc_43 : decode jdk_33_method_12_code 43 = .ok (.aload_n 2, 1) := by decide +kernel
theorem dgc_44 : decode jdk_33_method_12_code 44 = .ok (.iinc 5 (-1), 3) := by decide +kernel
theorem dgc_47 : decode jdk_33_method_12_code 47 = .ok (.iload 5, 2) := by decide +kernel
theorem dgc_49 : decode jdk_33_method_12_code 49 = .ok (.getstatic 83, 3) := by decide +kernel
theorem dgc_52 : decode jdk_33_method_12_code 52 = .ok (.iload 4, 2) := by decide +kernel
theorem dgc_54 : decode jdk_33_method_12_code 54 = .ok (.baload, 1) := by decide +kernel
theorem dgc_55 : decode jdk_33_method_12_code 55 = .ok (.bastore, 1) := by decide +kernel
theorem dgc_56 : decode jdk_33_method_12_code 56 = .ok (.aload_n 2, 1) := by decide +kernel
theorem dgc_57 : decode jdk_33_method_12_code 57 = .ok (.iinc 5 (-1), 3) := by decide +kernel
theorem dgc_60 : decode jdk_33_method_12_code 60 = .ok (.iload 5, 2) := by decide +kernel
theorem dgc_62 : decode jdk_33_method_12_code 62 = .ok (.getstatic 87, 3) := by decide +kernel
theorem dgc_65 : decode jdk_33_method_12_code 65 = .ok (.iload 4, 2) := by decide +kernel
theorem dgc_67 : decode jdk_33_method_12_code 67 = .ok (.baload, 1) := by decide +kernel
theorem dgc_68 : decode jdk_33_method_12_code 68 = .ok (.bastore, 1) := by decide +kernel
theorem dgc_69 : decode jdk_33_method_12_code 69 = .ok (.goto (-47), 3) := by decide +kernel
theorem dgc_72 : decode jdk_33_method_12_code 72 = .ok (.aload_n 2, 1) := by decide +kernel
theorem dgc_73 : decode jdk_33_method_12_code 73 = .ok (.iinc 5 (-1), 3) := by decide +kernel
theorem dgc_76 : decode jdk_33_method_12_code 76 = .ok (.iload 5, 2) := by decide +kernel
theorem dgc_78 : decode jdk_33_method_12_code 78 = .ok (.getstatic 83, 3) := by decide +kernel
theorem dgc_81 : decode jdk_33_method_12_code 81 = .ok (.iload_n 0, 1) := by decide +kernel
theorem dgc_82 : decode jdk_33_method_12_code 82 = .ok (.ineg, 1) := by decide +kernel
theorem dgc_83 : decode jdk_33_method_12_code 83 = .ok (.baload, 1) := by decide +kernel
theorem dgc_84 : decode jdk_33_method_12_code 84 = .ok (.bastore, 1) := by decide +kernel
theorem dgc_85 : decode jdk_33_method_12_code 85 = .ok (.iload_n 0, 1) := by decide +kernel
theorem dgc_86 : decode jdk_33_method_12_code 86 = .ok (.bipush (-9), 2) := by decide +kernel
theorem dgc_88 : decode jdk_33_method_12_code 88 = .ok (.if_icmp .ge 16, 3) := by decide +kernel
theorem dgc_91 : decode jdk_33_method_12_code 91 = .ok (.aload_n 2, 1) := by decide +kernel
theorem dgc_92 : decode jdk_33_method_12_code 92 = .ok (.iinc 5 (-1), 3) := by decide +kernel
theorem dgc_95 : decode jdk_33_method_12_code 95 = .ok (.iload 5, 2) := by decide +kernel
theorem dgc_97 : decode jdk_33_method_12_code 97 = .ok (.getstatic 87, 3) := by decide +kernel
theorem dgc_100 : decode jdk_33_method_12_code 100 = .ok (.iload_n 0, 1) := by decide +kernel
theorem dgc_101 : decode jdk_33_method_12_code 101 = .ok (.ineg, 1) := by decide +kernel
theorem dgc_102 : decode jdk_33_method_12_code 102 = .ok (.baload, 1) := by decide +kernel
theorem dgc_103 : decode jdk_33_method_12_code 103 = .ok (.bastore, 1) := by decide +kernel
theorem dgc_104 : decode jdk_33_method_12_code 104 = .ok (.iload 6, 2) := by decide +kernel
theorem dgc_106 : decode jdk_33_method_12_code 106 = .ok (.ifCond .eq 12, 3) := by decide +kernel
theorem dgc_118 : decode jdk_33_method_12_code 118 = .ok (.iload 5, 2) := by decide +kernel
theorem dgc_120 : decode jdk_33_method_12_code 120 = .ok (.ireturn, 1) := by decide +kernel
set_option maxRecDepth 65536 in
set_option maxHeartbeats 4000000 in
theorem gcl {C : OCtx} {Z : State} {a0 : Array Value} (G : OG Z a0) {n0 : Nat} {ws : List Addr} {Q : Option Value → Heap → Prop} {h0 : Heap} {n cap : Nat} {bs : List Int32} {a d1 d2 : Addr} {k k1 k2 : ClassId} (hn : n < 2147483648) (hl : bs.length + dg n ≤ cap) (hc : cap ≤ 64) (ga : n0 ≤ a) (hd : a ∈ ws) (SD1 : Sta Z Z.heap "java/lang/Integer" "DigitOnes" "[B" (.ref d1)) (D1 : Arv Z Z.heap d1 k1 .byte 100 (tabl fun r => 48 + r % 10) (.int 0)) (SD2 : Sta Z Z.heap "java/lang/Integer" "DigitTens" "[B" (.ref d2)) (D2 : Arv Z Z.heap d2 k2 .byte 100 (tabl fun r => 48 + r / 10) (.int 0)) (fin : ∀ {x : Int32} {h : Heap}, Keep h0 h [a] → Arv Z h a k .byte (Int32.ofNat cap) (ST bs n cap 0) (.int 0) → Q (some (.int x)) h) : ∀ (m : Nat) (h : Heap) (s3 s4 : Slot) (p : Nat), m < 2147483648 → dg m = p → p ≤ dg n → m = n / 10 ^ (dg n - p) → Keep h0 h [a] → Arv Z h a k .byte (Int32.ofNat cap) (ST bs n cap p) (.int 0) → One s3 → One s4 → oRun C Z n0 igc EL1 ws Q h 0 0 (mkF C.m 22 #[.val (.int (-(Int32.ofNat m))), .val (.int (Int32.ofNat (bs.length + dg n))), .val (.ref a), s3, s4, .val (.int (Int32.ofNat (bs.length + p))), .val (.int 0)] []) := by
  have hw := G.1
  intro m
  induction m using Nat.strongRecOn with
  | _ m ih =>
  intro h s3 s4 p hm hdm hpn hmn KK A hs3 hs4
  have hdr := dg_r m
  refine s_iloadN (pc' := 23) dgc_22 rfl rfl ?_
  refine s_bipush (x := (-100 : Int32)) (pc' := 25) dgc_23 rfl rfl ?_
  refine s_icmp (pc' := 28) (pc'' := 72) dgc_25 rfl (by decide) rfl (fun hc25 => ?_) (fun hc25 => ?_)
  · replace hc25 := b_gt hc25
    have hm1 : m < 100 := (neg_lt (a := 100) (by decide) hm).mp hc25
    obtain ⟨q, rfl⟩ : ∃ q, p = q + 1 := ⟨p - 1, by omega⟩
    refine s_aloadN (pc' := 73) dgc_72 rfl rfl rfl ?_
    refine s_iinc (y := (-1 : Int32)) (pc' := 76) dgc_73 rfl rfl rfl (o_st rfl (by first | exact One.u | exact One.val rfl | assumption) rfl) ?_
    dsimp only [List.set_cons_succ, List.set_cons_zero]
    rw [show Int32.ofNat (bs.length + (q + 1)) + -1 = Int32.ofNat (bs.length + q) from n_pred (bs.length + q)]
    refine s_iload (pc' := 78) dgc_76 rfl rfl ?_
    refine s_getS SD1 (hw _ (List.mem_of_getElem? (i := 210) rfl)) Via.refl (pc' := 81) dgc_78 rfl ?_
    refine s_iloadN (pc' := 82) dgc_81 rfl rfl ?_
    refine s_ineg (pc' := 83) dgc_82 rfl ?_
    rw [Int32.neg_neg]
    refine s_old fun O83 => ?_
    refine s_baload (D1.ext O83.2) (nn (by omega)) (lt' (by decide) (by omega : m < 100)) (v := .int (dv n q)) (by rw [cl (by omega), tab_at (by omega)]; exact congrArg Value.int (by rw [dv_1 (m := m) (by omega) hmn])) (pc' := 84) dgc_83 rfl ?_
    refine s_bastore A ga hd (nn (by omega)) (lt' (by omega) (by omega)) (bs.length + q) (cl (by omega)) (by rw [ST_len hl]; omega) (pc' := 85) dgc_84 rfl (fun h84 W84 A84 => ?_)
    rw [show nar .byte (dv n q) = dv n q from dv_byt n q, ST_set (by omega)] at A84
    replace KK := KK.wr W84 (Or.inl (List.mem_cons_self ..))
    replace A := A84
    refine s_iloadN (pc' := 86) dgc_85 rfl rfl ?_
    refine s_bipush (x := (-9 : Int32)) (pc' := 88) dgc_86 rfl rfl ?_
    refine s_icmp (pc' := 91) (pc'' := 104) dgc_88 rfl (by decide) rfl (fun hc88 => ?_) (fun hc88 => ?_)
    · replace hc88 := b_ge hc88
      have hm9 : m < 10 := Nat.lt_of_not_le fun z => hc88 ((neg_lt (b := 9) hm (by decide)).mpr z)
      have hq := dg_lo hm9
      obtain rfl : q = 0 := by omega
      refine s_iload (pc' := 106) dgc_104 rfl rfl ?_
      refine s_if (pc' := 109) (pc'' := 118) dgc_106 rfl (by decide) rfl (fun hc106 => ?_) (fun hc106 => ?_)
      · replace hc106 := b_eq hc106
        refine s_iload (pc' := 120) dgc_118 rfl rfl ?_
        exact s_iret rfl dgc_120 (Nat.le_of_ble_eq_true rfl) (Nat.le_of_ble_eq_true rfl) (fin KK A)
      · replace hc106 := b_eqF hc106
        exact absurd rfl hc106
    · replace hc88 := b_geF hc88
      have hm9 : 9 < m := (neg_lt (b := 9) hm (by decide)).mp hc88
      have hq := dg_mid (by omega) hm1
      obtain rfl : q = 1 := by omega
      refine s_aloadN (pc' := 92) dgc_91 rfl rfl rfl ?_
      refine s_iinc (y := (-1 : Int32)) (pc' := 95) dgc_92 rfl rfl rfl (o_st rfl (by first | exact One.u | exact One.val rfl | assumption) rfl) ?_
      dsimp only [List.set_cons_succ, List.set_cons_zero]
      rw [show Int32.ofNat (bs.length + 1) + -1 = Int32.ofNat (bs.length + 0) from n_pred bs.length]
      refine s_iload (pc' := 97) dgc_95 rfl rfl ?_
      refine s_getS SD2 (hw _ (List.mem_of_getElem? (i := 224) rfl)) Via.refl (pc' := 100) dgc_97 rfl ?_
      refine s_iloadN (pc' := 101) dgc_100 rfl rfl ?_
      refine s_ineg (pc' := 102) dgc_101 rfl ?_
      rw [Int32.neg_neg]
      refine s_old fun O102 => ?_
      refine s_baload (D2.ext O102.2) (nn (by omega)) (lt' (by decide) (by omega : m < 100)) (v := .int (dv n 0)) (by rw [cl (by omega), tab_at (by omega)]; exact congrArg Value.int (by rw [dv_2 (m := m) (p := 0) (by omega) hmn, show m / 10 % 10 = m / 10 by omega])) (pc' := 103) dgc_102 rfl ?_
      refine s_bastore A ga hd (nn (by omega)) (lt' (by omega) (by omega)) (bs.length + 0) (cl (by omega)) (by rw [ST_len hl]; omega) (pc' := 104) dgc_103 rfl (fun h103 W103 A103 => ?_)
      rw [show nar .byte (dv n 0) = dv n 0 from dv_byt n 0, ST_set (by omega)] at A103
      replace KK := KK.wr W103 (Or.inl (List.mem_cons_self ..))
      replace A := A103
      refine s_iload (pc' := 106) dgc_104 rfl rfl ?_
      refine s_if (pc' := 109) (pc'' := 118) dgc_106 rfl (by decide) rfl (fun hc106 => ?_) (fun hc106 => ?_)
      · replace hc106 := b_eq hc106
        refine s_iload (pc' := 120) dgc_118 rfl rfl ?_
        exact s_iret rfl dgc_120 (Nat.le_of_ble_eq_true rfl) (Nat.le_of_ble_eq_true rfl) (fin KK A)
      · replace hc106 := b_eqF hc106
        exact absurd rfl hc106
  · replace hc25 := b_gtF hc25
    have hm1 : 100 ≤ m := Nat.le_of_not_lt fun z => hc25 ((neg_lt (a := 100) (by decide) hm).mpr z)
    have hd2 := dg_100 hm1 (by omega)
    obtain ⟨q, rfl⟩ : ∃ q, p = q + 2 := ⟨p - 2, by omega⟩
    refine s_iloadN (pc' := 29) dgc_28 rfl rfl ?_
    refine s_bipush (x := (100 : Int32)) (pc' := 31) dgc_29 rfl rfl ?_
    refine s_idiv (pc' := 32) dgc_31 rfl (by decide) ?_
    rw [neg_div hm]
    refine s_istoreN (kn := 3) rfl (pc' := 33) dgc_32 rfl (o_st rfl (by first | exact One.u | exact One.val rfl | assumption) rfl) ?_
    dsimp only [List.set_cons_succ, List.set_cons_zero]
    refine s_iloadN (pc' := 34) dgc_33 rfl rfl ?_
    refine s_bipush (x := (100 : Int32)) (pc' := 36) dgc_34 rfl rfl ?_
    refine s_imul (pc' := 37) dgc_36 rfl ?_
    refine s_iloadN (pc' := 38) dgc_37 rfl rfl ?_
    refine s_isub (pc' := 39) dgc_38 rfl ?_
    rw [neg_rem hm]
    refine s_istore (pc' := 41) dgc_39 rfl (o_st rfl (by first | exact One.u | exact One.val rfl | assumption) rfl) ?_
    dsimp only [List.set_cons_succ, List.set_cons_zero]
    refine s_iloadN (pc' := 42) dgc_41 rfl rfl ?_
    refine s_istoreN (kn := 0) rfl (pc' := 43) dgc_42 rfl (o_st rfl (by first | exact One.u | exact One.val rfl | assumption) rfl) ?_
    dsimp only [List.set_cons_succ, List.set_cons_zero]
    refine s_aloadN (pc' := 44) dgc_43 rfl rfl rfl ?_
    refine s_iinc (y := (-1 : Int32)) (pc' := 47) dgc_44 rfl rfl rfl (o_st rfl (by first | exact One.u | exact One.val rfl | assumption) rfl) ?_
    dsimp only [List.set_cons_succ, List.set_cons_zero]
    rw [show Int32.ofNat (bs.length + (q + 2)) + -1 = Int32.ofNat (bs.length + (q + 1)) from n_pred (bs.length + (q + 1))]
    refine s_iload (pc' := 49) dgc_47 rfl rfl ?_
    refine s_getS SD1 (hw _ (List.mem_of_getElem? (i := 210) rfl)) Via.refl (pc' := 52) dgc_49 rfl ?_
    refine s_iload (pc' := 54) dgc_52 rfl rfl ?_
    refine s_old fun O54 => ?_
    refine s_baload (D1.ext O54.2) (nn (by omega)) (lt' (by decide) (by omega : m % 100 < 100)) (v := .int (dv n (q + 1))) (by rw [cl (by omega), tab_at (by omega)]; exact congrArg Value.int (by rw [dv_1 (m := m) (by omega) hmn, show m % 100 % 10 = m % 10 by omega])) (pc' := 55) dgc_54 rfl ?_
    refine s_bastore A ga hd (nn (by omega)) (lt' (by omega) (by omega)) (bs.length + (q + 1)) (cl (by omega)) (by rw [ST_len hl]; omega) (pc' := 56) dgc_55 rfl (fun h55 W55 A55 => ?_)
    rw [show nar .byte (dv n (q + 1)) = dv n (q + 1) from dv_byt n (q + 1), ST_set (by omega)] at A55
    replace KK := KK.wr W55 (Or.inl (List.mem_cons_self ..))
    replace A := A55
    refine s_aloadN (pc' := 57) dgc_56 rfl rfl rfl ?_
    refine s_iinc (y := (-1 : Int32)) (pc' := 60) dgc_57 rfl rfl rfl (o_st rfl (by first | exact One.u | exact One.val rfl | assumption) rfl) ?_
    dsimp only [List.set_cons_succ, List.set_cons_zero]
    rw [show Int32.ofNat (bs.length + (q + 1)) + -1 = Int32.ofNat (bs.length + q) from n_pred (bs.length + q)]
    refine s_iload (pc' := 62) dgc_60 rfl rfl ?_
    refine s_getS SD2 (hw _ (List.mem_of_getElem? (i := 224) rfl)) Via.refl (pc' := 65) dgc_62 rfl ?_
    refine s_iload (pc' := 67) dgc_65 rfl rfl ?_
    refine s_old fun O67 => ?_
    refine s_baload (D2.ext O67.2) (nn (by omega)) (lt' (by decide) (by omega : m % 100 < 100)) (v := .int (dv n q)) (by rw [cl (by omega), tab_at (by omega)]; exact congrArg Value.int (by rw [dv_2 (m := m) (by omega) hmn, show m % 100 / 10 = m / 10 % 10 by omega])) (pc' := 68) dgc_67 rfl ?_
    refine s_bastore A ga hd (nn (by omega)) (lt' (by omega) (by omega)) (bs.length + q) (cl (by omega)) (by rw [ST_len hl]; omega) (pc' := 69) dgc_68 rfl (fun h68 W68 A68 => ?_)
    rw [show nar .byte (dv n q) = dv n q from dv_byt n q, ST_set (by omega)] at A68
    replace KK := KK.wr W68 (Or.inl (List.mem_cons_self ..))
    replace A := A68
    refine s_goto (pc' := 22) dgc_69 (by decide) rfl ?_
    exact ih (m / 100) (by omega) _ _ _ q (by omega) (by omega) (by omega) (m_step (by omega) hmn) KK A (One.val rfl) (One.val rfl)
set_option maxRecDepth 65536 in
set_option maxHeartbeats 4000000 in
theorem rmgc (l : Launch) {Z : State} {a0 : Array Value} (G : OG Z a0) (n0 : Nat) (n cap : Nat) (bs : List Int32) (a : Addr) (k : ClassId) (hn : n < 2147483648) (hl : bs.length + dg n ≤ cap) (hc : cap ≤ 64) (h0 : Heap) (ga : n0 ≤ a) (TT : TBS Z) (A : Arv Z h0 a k .byte (Int32.ofNat cap) (BB bs cap) (.int 0)) : oCon l Z n0 EL1 [a] (⟨"java/lang/Integer", "getChars", "(II[B)I"⟩ : MethodName) igc #[.int (Int32.ofNat n), .int (Int32.ofNat (bs.length + dg n)), .ref a] h0 (fun v h => ∃ x : Int32, v = some (.int x) ∧ Keep h0 h [a] ∧ Arv Z h a k .byte (Int32.ofNat cap) (BB (bs ++ DL n) cap) (.int 0)) := by
  obtain ⟨hw, hEL, ⟨cmp, hC, hc0⟩, ⟨fm, hfm, hF⟩⟩ := id G
  obtain ⟨⟨d1, k1, SD1, D1⟩, ⟨d2, k2, SD2, D2⟩⟩ := TT
  refine oCon.mk hEL pngc rfl rfl (efgc _ _ a) fun C hCl => ?_
  refine s_iloadN (pc' := 1) dgc_0 rfl rfl ?_
  refine s_istore (pc' := 3) dgc_1 rfl (o_st rfl (by first | exact One.u | exact One.val rfl | assumption) rfl) ?_
  dsimp only [List.set_cons_succ, List.set_cons_zero]
  refine s_iloadN (pc' := 4) dgc_3 rfl rfl ?_
  refine s_if (pc' := 7) (pc'' := 11) dgc_4 rfl (by decide) rfl (fun hc4 => ?_) (fun hc4 => ?_)
  · replace hc4 := b_ge hc4
    refine s_iconst (x := (0 : Int32)) (pc' := 12) dgc_11 rfl rfl ?_
    refine s_istore (pc' := 14) dgc_12 rfl (o_st rfl (by first | exact One.u | exact One.val rfl | assumption) rfl) ?_
    dsimp only [List.set_cons_succ, List.set_cons_zero]
    refine s_iload (pc' := 16) dgc_14 rfl rfl ?_
    refine s_if (pc' := 19) (pc'' := 22) dgc_16 rfl (by decide) rfl (fun hc16 => ?_) (fun hc16 => ?_)
    · replace hc16 := b_ne hc16
      exact absurd rfl hc16
    · replace hc16 := b_neF hc16
      refine s_iloadN (pc' := 20) dgc_19 rfl rfl ?_
      refine s_ineg (pc' := 21) dgc_20 rfl ?_
      refine s_istoreN (kn := 0) rfl (pc' := 22) dgc_21 rfl (o_st rfl (by first | exact One.u | exact One.val rfl | assumption) rfl) ?_
      dsimp only [List.set_cons_succ, List.set_cons_zero]
      exact gcl G hn hl hc ga (by simp) SD1 D1 SD2 D2 (fun K A => ⟨_, rfl, K, by rw [← ST_0]; exact A⟩) n h0 _ _ (dg n) hn rfl (Nat.le_refl _) (by rw [Nat.sub_self]; simp) (Keep.refl _ _) (by rw [ST_n hl]; exact A) One.u One.u
  · replace hc4 := b_geF hc4
    exact absurd hc4 (nn hn)
def iaI : OInfo := ("java/lang/AbstractStringBuilder", jdk_68_method_32_code, 4, (some (.object "java/lang/AbstractStringBuilder")), "append", ({ frames := 4, cells := 1, slots := 34, locals := 62 } : Room))
theorem efaI (x0 : Addr) (x1 : Int32) (m : MethodId) : entryFrame m #[(.ref x0), (.int x1)] 4 = mkF m 0 #[.val (.ref x0), .val (.int x1), .unset, .unset] [] := by first | (simp [entryFrame, mkF, argsToLocals, Value.category]; done) | rfl
theorem pdaI : parseMethodDescriptor "(I)Ljava/lang/AbstractStringBuilder;" = some ⟨[.int], some (.object "java/lang/AbstractStringBuilder")⟩ := by decide +kernel
theorem pnaI : plainFor (⟨"java/lang/AbstractStringBuilder", "append", "(I)Ljava/lang/AbstractStringBuilder;"⟩ : MethodName) = true := by decide +kernel
theorem daI_0 : decode jdk_68_method_32_code 0 = .ok (.aload_n 0, 1) := by decide +kernel
theorem daI_1 : decode jdk_68_method_32_code 1 = .ok (.getfield 79, 3) := by decide +kernel
theorem daI_4 : decode jdk_68_method_32_code 4 = .ok (.istore_n 2, 1) := by decide +kernel
theorem daI_5 : decode jdk_68_method_32_code 5 = .ok (.iload_n 2, 1) := by decide +kernel
theorem daI_6 : decode jdk_68_method_32_code 6 = .ok (.iload_n 1, 1) := by decide +kernel
theorem daI_7 : decode jdk_68_method_32_code 7 = .ok (.invokestatic 245, 3) := by decide +kernel
theorem daI_10 : decode jdk_68_method_32_code 10 = .ok (.iadd, 1) := by decide +kernel
theorem daI_11 : decode jdk_68_method_32_code 11 = .ok (.istore_n 3, 1) := by decide +kernel
theorem daI_12 : decode jdk_68_method_32_code 12 = .ok (.aload_n 0, 1) := by decide +kernel
theorem daI_13 : decode jdk_68_method_32_code 13 = .ok (.iload_n 3, 1) := by decide +kernel
theorem daI_14 : decode jdk_68_method_32_code 14 = .ok (.invokevirtual 100, 3) := by decide +kernel
theorem daI_17 : decode jdk_68_method_32_code 17 = .ok (.aload_n 0, 1) := by decide +kernel
theorem daI_18 : decode jdk_68_method_32_code 18 = .ok (.invokevirtual 83, 3) := by decide +kernel
theorem daI_21 : decode jdk_68_method_32_code 21 = .ok (.ifCond .eq 16, 3) := by decide +kernel
theorem daI_24 : decode jdk_68_method_32_code 24 = .ok (.iload_n 1, 1) := by decide +kernel
theorem daI_25 : decode jdk_68_method_32_code 25 = .ok (.iload_n 3, 1) := by decide +kernel
theorem daI_26 : decode jdk_68_method_32_code 26 = .ok (.aload_n 0, 1) := by decide +kernel
theorem daI_27 : decode jdk_68_method_32_code 27 = .ok (.getfield 15, 3) := by decide +kernel
theorem daI_30 : decode jdk_68_method_32_code 30 = .ok (.invokestatic 248, 3) := by decide +kernel
theorem daI_33 : decode jdk_68_method_32_code 33 = .ok (.pop, 1) := by decide +kernel
theorem daI_34 : decode jdk_68_method_32_code 34 = .ok (.goto 14, 3) := by decide +kernel
theorem daI_48 : decode jdk_68_method_32_code 48 = .ok (.aload_n 0, 1) := by decide +kernel
theorem daI_49 : decode jdk_68_method_32_code 49 = .ok (.iload_n 3, 1) := by decide +kernel
theorem daI_50 : decode jdk_68_method_32_code 50 = .ok (.putfield 79, 3) := by decide +kernel
theorem daI_53 : decode jdk_68_method_32_code 53 = .ok (.aload_n 0, 1) := by decide +kernel
theorem daI_54 : decode jdk_68_method_32_code 54 = .ok (.areturn, 1) := by decide +kernel
set_option maxRecDepth 65536 in
set_option maxHeartbeats 4000000 in
theorem rmaI (l : Launch) {Z : State} {a0 : Array Value} (G : OG Z a0) (n0 : Nat) (b a : Addr) (k : ClassId) (cap n : Nat) (bs : List Int32) (hn : n < 2147483648) (hm : bs.length + dg n ≤ cap) (h0 : Heap) (gb : n0 ≤ b) (ga : n0 ≤ a) (TT : TBS Z) (B : BD Z h0 b a k cap bs) : oConG l Z n0 EL1 [b, a] (⟨"java/lang/AbstractStringBuilder", "append", "(I)Ljava/lang/AbstractStringBuilder;"⟩ : MethodName) iaI #[.ref b, .int (Int32.ofNat n)] h0 (oR Z EL1 (fun v h rs => ∃ a' k' cap', rs = [a'] ∧ v = some (.ref b) ∧ BD Z h b a' k' cap' (bs ++ DL n) ∧ Keep h0 h [b, a] ∧ (a' = a ∨ h0.size ≤ a') ∧ (cap' = cap ∨ cap' = 34))) := by
  obtain ⟨hw, hEL, ⟨cmp, hC, hc0⟩, ⟨fm, hfm, hF⟩⟩ := id G
  refine oCon.mk hEL pnaI rfl rfl (efaI b _) fun C hCl => ?_
  have FN := B.2.2.2.1
  refine s_old fun OL => ?_
  refine s_aloadN (pc' := 1) daI_0 rfl rfl rfl ?_
  refine s_getF FN (host := "") (Or.inl (hw _ (List.mem_of_getElem? (i := 89) rfl))) Via.refl (pc' := 4) daI_1 rfl ?_
  refine s_istoreN (kn := 2) rfl (pc' := 5) daI_4 rfl (o_st rfl (by first | exact One.u | exact One.val rfl | assumption) rfl) ?_
  dsimp only [List.set_cons_succ, List.set_cons_zero]
  refine s_iloadN (pc' := 6) daI_5 rfl rfl ?_
  refine s_iloadN (pc' := 7) daI_6 rfl rfl ?_
  refine s_callS1 (rmss C.l G n0 n hn h0) (by simp) (hw _ (List.mem_of_getElem? (i := 202) rfl)) (hw _ (List.mem_of_getElem? (i := 203) rfl)) (hw _ (List.mem_of_getElem? (i := 204) rfl)) (hw _ (List.mem_of_getElem? (i := 205) rfl)) (by decide) (o_len pdss rfl) rfl (pc' := 10) daI_7 rfl (Nat.le_of_ble_eq_true rfl) (Nat.le_of_ble_eq_true rfl) (Nat.le_of_ble_eq_true rfl) (Nat.le_of_ble_eq_true rfl) (fun v7 h7 hQ7 => ?_)
  obtain ⟨rfl, rfl⟩ := hQ7
  dsimp only [oPush]
  refine s_iadd (pc' := 11) daI_10 rfl ?_
  rw [n_add]
  refine s_istoreN (kn := 3) rfl (pc' := 12) daI_11 rfl (o_st rfl (by first | exact One.u | exact One.val rfl | assumption) rfl) ?_
  dsimp only [List.set_cons_succ, List.set_cons_zero]
  refine s_aloadN (pc' := 13) daI_12 rfl rfl rfl ?_
  refine s_iloadN (pc' := 14) daI_13 rfl rfl ?_
  refine s_callV1R (rmec C.l G n0 b a k cap (bs.length + dg n) bs _ (Or.inl hm) gb B) (by simp) B.1 (hw _ (List.mem_of_getElem? (i := 91) rfl)) (o_declOf (hw _ (List.mem_of_getElem? (i := 92) rfl)) (hw _ (List.mem_of_getElem? (i := 95) rfl))) (hw _ (List.mem_of_getElem? (i := 94) rfl)) (hw _ (List.mem_of_getElem? (i := 92) rfl)) (o_nf (hw _ (List.mem_of_getElem? (i := 94) rfl)) rfl) (hw _ (List.mem_of_getElem? (i := 60) rfl)) (hw _ (List.mem_of_getElem? (i := 95) rfl)) (by decide) (o_len pdec rfl) rfl (pc' := 17) daI_14 rfl (Nat.le_of_ble_eq_true rfl) (Nat.le_of_ble_eq_true rfl) (Nat.le_of_ble_eq_true rfl) (Nat.le_of_ble_eq_true rfl) (fun v14 h14 rs14 hQ14 => ?_)
  obtain ⟨a2, k2, cap2, rfl, rfl, B2, hm2, K14, ha2, hc2⟩ := hQ14
  dsimp only [oPush]
  have FV := B2.2.1
  have ga2 : n0 ≤ a2 := ha2.elim (fun q => q ▸ ga) (fun q => Nat.le_trans (o_le OL) q)
  have hne := B2.ne
  refine s_aloadN (pc' := 18) daI_17 rfl rfl rfl ?_
  refine s_callV0 (rmiL C.l G n0 b _ B2.2.2.1) (by simp) B2.1 (hw _ (List.mem_of_getElem? (i := 206) rfl)) (hw _ (List.mem_of_getElem? (i := 143) rfl)) (hw _ (List.mem_of_getElem? (i := 145) rfl)) (hw _ (List.mem_of_getElem? (i := 144) rfl)) (o_nf (hw _ (List.mem_of_getElem? (i := 145) rfl)) rfl) (hw _ (List.mem_of_getElem? (i := 60) rfl)) (hw _ (List.mem_of_getElem? (i := 146) rfl)) (by decide) (o_len pdiL rfl) rfl (pc' := 21) daI_18 rfl (Nat.le_of_ble_eq_true rfl) (Nat.le_of_ble_eq_true rfl) (Nat.le_of_ble_eq_true rfl) (Nat.le_of_ble_eq_true rfl) (fun v18 h18 hQ18 => ?_)
  obtain ⟨rfl, rfl⟩ := hQ18
  dsimp only [oPush]
  refine s_if (pc' := 24) (pc'' := 37) daI_21 rfl (by decide) rfl (fun hc21 => ?_) (fun hc21 => ?_)
  · replace hc21 := b_eq hc21
    exact absurd hc21 (by decide)
  · replace hc21 := b_eqF hc21
    refine s_iloadN (pc' := 25) daI_24 rfl rfl ?_
    refine s_iloadN (pc' := 26) daI_25 rfl rfl ?_
    refine s_aloadN (pc' := 27) daI_26 rfl rfl rfl ?_
    refine s_getF FV (host := "") (Or.inl (hw _ (List.mem_of_getElem? (i := 64) rfl))) Via.refl (pc' := 30) daI_27 rfl ?_
    refine s_callS3 (rmgc C.l G n0 n cap2 bs a2 k2 hn hm2 B2.2.2.2.2.2.2.2 _ ga2 TT B2.2.2.2.2.1) (by simp) (hw _ (List.mem_of_getElem? (i := 207) rfl)) (hw _ (List.mem_of_getElem? (i := 208) rfl)) (hw _ (List.mem_of_getElem? (i := 204) rfl)) (hw _ (List.mem_of_getElem? (i := 209) rfl)) (by decide) (o_len pdgc rfl) rfl (pc' := 33) daI_30 rfl (Nat.le_of_ble_eq_true rfl) (Nat.le_of_ble_eq_true rfl) (Nat.le_of_ble_eq_true rfl) (Nat.le_of_ble_eq_true rfl) (fun v30 h30 hQ30 => ?_)
    obtain ⟨x, rfl, K30, A30⟩ := hQ30
    dsimp only [oPush]
    have nb : b ∉ [a2] := by simp [hne.symm]
    refine s_pop (pc' := 34) daI_33 rfl rfl ?_
    refine s_goto (pc' := 48) daI_34 (by decide) rfl ?_
    refine s_aloadN (pc' := 49) daI_48 rfl rfl rfl ?_
    refine s_iloadN (pc' := 50) daI_49 rfl rfl ?_
    refine s_putF (B2.2.2.2.1.keep K30 nb) (B2.1.keep K30) gb (by simp) (host := "") (Or.inl (hw _ (List.mem_of_getElem? (i := 89) rfl))) Via.refl (Or.inl (hw _ (List.mem_of_getElem? (i := 90) rfl))) (hw _ (List.mem_of_getElem? (i := 51) rfl)) (ty := .int) (by decide) rfl rfl (pc' := 53) daI_50 rfl (fun h50 W50 => ?_)
    refine s_aloadN (pc' := 54) daI_53 rfl rfl rfl ?_
    exact s_aretR rfl rfl rfl daI_54 (Nat.le_of_ble_eq_true rfl) (Nat.le_of_ble_eq_true rfl) [a2] (by simp) ⟨a2, k2, cap2, rfl, rfl, ⟨(B2.1.keep K30).wr W50, ((B2.2.1.keep K30 nb).other W50 (Or.inr (slot_ne (Or.inl (hw _ (List.mem_of_getElem? (i := 65) rfl))) (Or.inl (hw _ (List.mem_of_getElem? (i := 90) rfl))) (by decide) (t := (.array .byte)) (t' := .int) (by decide) (by decide)))), ((B2.2.2.1.keep K30 nb).other W50 (Or.inr (slot_ne (Or.inl (hw _ (List.mem_of_getElem? (i := 67) rfl))) (Or.inl (hw _ (List.mem_of_getElem? (i := 90) rfl))) (by decide) (t := .byte) (t' := .int) (by decide) (by decide)))), by rw [List.length_append, DL_len]; exact ((B2.2.2.2.1.keep K30 nb).same W50), A30.other W50 hne, (B2.2.2.2.2.2.1.keep K30).wr W50, by rw [List.length_append, DL_len]; exact hm2, B2.2.2.2.2.2.2.2⟩, ((((Keep.refl _ [b, a]).trans K14 (fun x hx => by cases List.mem_singleton.mp hx; exact Or.inl (by simp))).trans K30 (fun x hx => by cases List.mem_singleton.mp hx; exact ha2.elim (fun q => Or.inl (by simp [q])) Or.inr))).wr W50 (Or.inl (List.mem_cons_self ..)), ha2, hc2⟩
def ibI : OInfo := ("java/lang/StringBuilder", jdk_67_method_15_code, 2, (some (.object "java/lang/StringBuilder")), "append", ({ frames := 5, cells := 1, slots := 34, locals := 77 } : Room))
theorem efbI (x0 : Addr) (x1 : Int32) (m : MethodId) : entryFrame m #[(.ref x0), (.int x1)] 2 = mkF m 0 #[.val (.ref x0), .val (.int x1)] [] := by first | (simp [entryFrame, mkF, argsToLocals, Value.category]; done) | rfl
theorem pdbI : parseMethodDescriptor "(I)Ljava/lang/StringBuilder;" = some ⟨[.int], some (.object "java/lang/StringBuilder")⟩ := by decide +kernel
theorem pnbI : plainFor (⟨"java/lang/StringBuilder", "append", "(I)Ljava/lang/StringBuilder;"⟩ : MethodName) = true := by decide +kernel
theorem dbI_0 : decode jdk_67_method_15_code 0 = .ok (.aload_n 0, 1) := by decide +kernel
theorem dbI_1 : decode jdk_67_method_15_code 1 = .ok (.iload_n 1, 1) := by decide +kernel
theorem dbI_2 : decode jdk_67_method_15_code 2 = .ok (.invokespecial 53, 3) := by decide +kernel
theorem dbI_5 : decode jdk_67_method_15_code 5 = .ok (.pop, 1) := by decide +kernel
theorem dbI_6 : decode jdk_67_method_15_code 6 = .ok (.aload_n 0, 1) := by decide +kernel
theorem dbI_7 : decode jdk_67_method_15_code 7 = .ok (.areturn, 1) := by decide +kernel
set_option maxRecDepth 65536 in
set_option maxHeartbeats 4000000 in
theorem rmbI (l : Launch) {Z : State} {a0 : Array Value} (G : OG Z a0) (n0 : Nat) (b a : Addr) (k : ClassId) (cap n : Nat) (bs : List Int32) (hn : n < 2147483648) (hm : bs.length + dg n ≤ cap) (h0 : Heap) (gb : n0 ≤ b) (ga : n0 ≤ a) (TT : TBS Z) (B : BD Z h0 b a k cap bs) : oConG l Z n0 EL1 [b, a] (⟨"java/lang/StringBuilder", "append", "(I)Ljava/lang/StringBuilder;"⟩ : MethodName) ibI #[.ref b, .int (Int32.ofNat n)] h0 (oR Z EL1 (fun v h rs => ∃ a' k' cap', rs = [a'] ∧ v = some (.ref b) ∧ BD Z h b a' k' cap' (bs ++ DL n) ∧ Keep h0 h [b, a] ∧ (a' = a ∨ h0.size ≤ a') ∧ (cap' = cap ∨ cap' = 34))) := by
  obtain ⟨hw, hEL, ⟨cmp, hC, hc0⟩, ⟨fm, hfm, hF⟩⟩ := id G
  refine oCon.mk hEL pnbI rfl rfl (efbI b _) fun C hCl => ?_
  refine s_aloadN (pc' := 1) dbI_0 rfl rfl rfl ?_
  refine s_iloadN (pc' := 2) dbI_1 rfl rfl ?_
  refine s_callU1R (rmaI C.l G n0 b a k cap n bs hn hm h0 gb ga TT B) (by simp) (Ins.self B.1) (hw _ (List.mem_of_getElem? (i := 198) rfl)) (o_sameOf (hw _ (List.mem_of_getElem? (i := 199) rfl)) (hw _ (List.mem_of_getElem? (i := 94) rfl)) rfl (by decide)) (hw _ (List.mem_of_getElem? (i := 75) rfl)) (hw _ (List.mem_of_getElem? (i := 199) rfl)) (hw _ (List.mem_of_getElem? (i := 60) rfl)) (hw _ (List.mem_of_getElem? (i := 201) rfl)) (by decide) (o_len pdaI rfl) rfl (pc' := 5) dbI_2 rfl (Nat.le_of_ble_eq_true rfl) (Nat.le_of_ble_eq_true rfl) (Nat.le_of_ble_eq_true rfl) (Nat.le_of_ble_eq_true rfl) (fun v2 h2 rs2 hQ2 => ?_)
  obtain ⟨a2, k2, cap2, rfl, rfl, B2, K2, ha2, hc2⟩ := hQ2
  dsimp only [oPush]
  refine s_pop (pc' := 6) dbI_5 rfl rfl ?_
  refine s_aloadN (pc' := 7) dbI_6 rfl rfl rfl ?_
  exact s_aretR rfl rfl rfl dbI_7 (Nat.le_of_ble_eq_true rfl) (Nat.le_of_ble_eq_true rfl) [a2] (by simp) ⟨a2, k2, cap2, rfl, rfl, B2, K2, ha2, hc2⟩
def ire : OInfo := ("java/lang/Record", jdk_30_method_1_code, 1, none, "<init>", ({ frames := 1, cells := 0, slots := 0, locals := 12 } : Room))
theorem efre (x0 : Addr) (m : MethodId) : entryFrame m #[(.ref x0)] 1 = mkF m 0 #[.val (.ref x0)] [] := by first | (simp [entryFrame, mkF, argsToLocals, Value.category]; done) | rfl
theorem pdre : parseMethodDescriptor "()V" = some ⟨[], none⟩ := by decide +kernel
theorem pnre : plainFor (⟨"java/lang/Record", "<init>", "()V"⟩ : MethodName) = true := by decide +kernel
theorem dre_0 : decode jdk_30_method_1_code 0 = .ok (.aload_n 0, 1) := by decide +kernel
theorem dre_1 : decode jdk_30_method_1_code 1 = .ok (.invokespecial 1, 3) := by decide +kernel
theorem dre_4 : decode jdk_30_method_1_code 4 = .ok (.return_, 1) := by decide +kernel
set_option maxRecDepth 65536 in
set_option maxHeartbeats 4000000 in
theorem rmre (l : Launch) {Z : State} {a0 : Array Value} (G : OG Z a0) (n0 : Nat) (a : Addr) (h0 : Heap) : oCon l Z n0 EL1 [] (⟨"java/lang/Record", "<init>", "()V"⟩ : MethodName) ire #[.ref a] h0 (fun v h => v = none ∧ h = h0) := by
  obtain ⟨hw, hEL, ⟨cmp, hC, hc0⟩, ⟨fm, hfm, hF⟩⟩ := id G
  refine oCon.mk hEL pnre rfl rfl (efre a) fun C hCl => ?_
  refine s_aloadN (pc' := 1) dre_0 rfl rfl rfl ?_
  refine s_initO (hw _ (List.mem_of_getElem? (i := 37) rfl)) (hw _ (List.mem_of_getElem? (i := 16) rfl)) (hw _ (List.mem_of_getElem? (i := 17) rfl)) rfl (pc' := 4) dre_1 rfl (Nat.le_of_ble_eq_true rfl) (Nat.le_of_ble_eq_true rfl) ?_
  exact s_ret rfl dre_4 (Nat.le_of_ble_eq_true rfl) (Nat.le_of_ble_eq_true rfl) ⟨rfl, rfl⟩
def ipi : OInfo := ("com/example/typeloom/typeloom/Problem", prog_6_method_1_code, 4, none, "<init>", ({ frames := 2, cells := 0, slots := 0, locals := 24 } : Room))
theorem efpi (x0 : Addr) (x1 : Addr) (x2 : Int32) (x3 : Addr) (m : MethodId) : entryFrame m #[(.ref x0), (.ref x1), (.int x2), (.ref x3)] 4 = mkF m 0 #[.val (.ref x0), .val (.ref x1), .val (.int x2), .val (.ref x3)] [] := by first | (simp [entryFrame, mkF, argsToLocals, Value.category]; done) | rfl
theorem pdpi : parseMethodDescriptor "(Ljava/lang/String;ILjava/lang/String;)V" = some ⟨[(.object "java/lang/String"), .int, (.object "java/lang/String")], none⟩ := by decide +kernel
theorem pnpi : plainFor (⟨"com/example/typeloom/typeloom/Problem", "<init>", "(Ljava/lang/String;ILjava/lang/String;)V"⟩ : MethodName) = true := by decide +kernel
theorem efpN (x0 : Addr) (x2 : Int32) (x3 : Addr) (m : MethodId) : entryFrame m #[(.ref x0), .null, (.int x2), (.ref x3)] 4 = mkF m 0 #[.val (.ref x0), .val .null, .val (.int x2), .val (.ref x3)] [] := by first | (simp [entryFrame, mkF, argsToLocals, Value.category]; done) | rfl
theorem dpi_0 : decode prog_6_method_1_code 0 = .ok (.aload_n 0, 1) := by decide +kernel
theorem dpi_1 : decode prog_6_method_1_code 1 = .ok (.invokespecial 1, 3) := by decide +kernel
theorem dpi_4 : decode prog_6_method_1_code 4 = .ok (.aload_n 0, 1) := by decide +kernel
theorem dpi_5 : decode prog_6_method_1_code 5 = .ok (.aload_n 1, 1) := by decide +kernel
theorem dpi_6 : decode prog_6_method_1_code 6 = .ok (.putfield 7, 3) := by decide +kernel
theorem dpi_9 : decode prog_6_method_1_code 9 = .ok (.aload_n 0, 1) := by decide +kernel
theorem dpi_10 : decode prog_6_method_1_code 10 = .ok (.iload_n 2, 1) := by decide +kernel
theorem dpi_11 : decode prog_6_method_1_code 11 = .ok (.putfield 13, 3) := by decide +kernel
theorem dpi_14 : decode prog_6_method_1_code 14 = .ok (.aload_n 0, 1) := by decide +kernel
theorem dpi_15 : decode prog_6_method_1_code 15 = .ok (.aload_n 3, 1) := by decide +kernel
theorem dpi_16 : decode prog_6_method_1_code 16 = .ok (.putfield 17, 3) := by decide +kernel
theorem dpi_19 : decode prog_6_method_1_code 19 = .ok (.return_, 1) := by decide +kernel
set_option maxRecDepth 65536 in
set_option maxHeartbeats 4000000 in
theorem rmpi (l : Launch) {Z : State} {a0 : Array Value} (G : OG Z a0) (n0 : Nat) (a t : Addr) (w : Addr) (ln : Int32) (h0 : Heap) (E : Exa Z h0 a "com/example/typeloom/typeloom/Problem") (F0 : Fld Z h0 a "com/example/typeloom/typeloom/Problem" "file" "Ljava/lang/String;" .null) (F1 : Fld Z h0 a "com/example/typeloom/typeloom/Problem" "line" "I" (.int 0)) (F2 : Fld Z h0 a "com/example/typeloom/typeloom/Problem" "message" "Ljava/lang/String;" .null) (ga : n0 ≤ a) : oCon l Z n0 EL1 [a] (⟨"com/example/typeloom/typeloom/Problem", "<init>", "(Ljava/lang/String;ILjava/lang/String;)V"⟩ : MethodName) ipi #[.ref a, .ref t, .int ln, .ref w] h0 (fun v h => v = none ∧ Keep h0 h [a] ∧ Exa Z h a "com/example/typeloom/typeloom/Problem" ∧ Fld Z h a "com/example/typeloom/typeloom/Problem" "file" "Ljava/lang/String;" (.ref t) ∧ Fld Z h a "com/example/typeloom/typeloom/Problem" "line" "I" (.int ln) ∧ Fld Z h a "com/example/typeloom/typeloom/Problem" "message" "Ljava/lang/String;" (.ref w)) := by
  obtain ⟨hw, hEL, ⟨cmp, hC, hc0⟩, ⟨fm, hfm, hF⟩⟩ := id G
  refine oCon.mk hEL pnpi rfl rfl (efpi a t ln w) fun C hCl => ?_
  refine s_aloadN (pc' := 1) dpi_0 rfl rfl rfl ?_
  refine s_callI0 (rmre C.l G n0 a h0) (by simp) rfl rfl (hw _ (List.mem_of_getElem? (i := 32) rfl)) (hw _ (List.mem_of_getElem? (i := 33) rfl)) (hw _ (List.mem_of_getElem? (i := 35) rfl)) (hw _ (List.mem_of_getElem? (i := 36) rfl)) (by decide) (o_len pdre rfl) rfl (pc' := 4) dpi_1 rfl (Nat.le_of_ble_eq_true rfl) (Nat.le_of_ble_eq_true rfl) (Nat.le_of_ble_eq_true rfl) (Nat.le_of_ble_eq_true rfl) (fun v1 h1 hQ1 => ?_)
  obtain ⟨rfl, rfl⟩ := hQ1
  dsimp only [oPush]
  refine s_aloadN (pc' := 5) dpi_4 rfl rfl rfl ?_
  refine s_aloadN (pc' := 6) dpi_5 rfl rfl rfl ?_
  refine s_putF F0 E ga (by simp) (host := "") (Or.inl (hw _ (List.mem_of_getElem? (i := 38) rfl))) Via.refl (Or.inr ⟨(hw _ (List.mem_of_getElem? (i := 39) rfl)), rfl, rfl⟩) (hw _ (List.mem_of_getElem? (i := 27) rfl)) (ty := (.object "java/lang/String")) (by decide) rfl rfl (pc' := 9) dpi_6 rfl (fun h6 W6 => ?_)
  refine s_aloadN (pc' := 10) dpi_9 rfl rfl rfl ?_
  refine s_iloadN (pc' := 11) dpi_10 rfl rfl ?_
  refine s_putF (F1.other W6 (Or.inr (slot_ne (Or.inr (hw _ (List.mem_of_getElem? (i := 41) rfl))) (Or.inr (hw _ (List.mem_of_getElem? (i := 39) rfl))) (by decide) (t := .int) (t' := (.object "java/lang/String")) (by decide) (by decide)))) (E.wr W6) ga (by simp) (host := "") (Or.inl (hw _ (List.mem_of_getElem? (i := 40) rfl))) Via.refl (Or.inr ⟨(hw _ (List.mem_of_getElem? (i := 41) rfl)), rfl, rfl⟩) (hw _ (List.mem_of_getElem? (i := 27) rfl)) (ty := .int) (by decide) rfl rfl (pc' := 14) dpi_11 rfl (fun h11 W11 => ?_)
  refine s_aloadN (pc' := 15) dpi_14 rfl rfl rfl ?_
  refine s_aloadN (pc' := 16) dpi_15 rfl rfl rfl ?_
  refine s_putF ((F2.other W6 (Or.inr (slot_ne (Or.inr (hw _ (List.mem_of_getElem? (i := 43) rfl))) (Or.inr (hw _ (List.mem_of_getElem? (i := 39) rfl))) (by decide) (t := (.object "java/lang/String")) (t' := (.object "java/lang/String")) (by decide) (by decide)))).other W11 (Or.inr (slot_ne (Or.inr (hw _ (List.mem_of_getElem? (i := 43) rfl))) (Or.inr (hw _ (List.mem_of_getElem? (i := 41) rfl))) (by decide) (t := (.object "java/lang/String")) (t' := .int) (by decide) (by decide)))) ((E.wr W6).wr W11) ga (by simp) (host := "") (Or.inl (hw _ (List.mem_of_getElem? (i := 42) rfl))) Via.refl (Or.inr ⟨(hw _ (List.mem_of_getElem? (i := 43) rfl)), rfl, rfl⟩) (hw _ (List.mem_of_getElem? (i := 27) rfl)) (ty := (.object "java/lang/String")) (by decide) rfl rfl (pc' := 19) dpi_16 rfl (fun h16 W16 => ?_)
  exact s_ret rfl dpi_19 (Nat.le_of_ble_eq_true rfl) (Nat.le_of_ble_eq_true rfl) ⟨rfl, ((Keep.of_wr W6).wr W11 (Or.inl (List.mem_cons_self ..))).wr W16 (Or.inl (List.mem_cons_self ..)), ((E.wr W6).wr W11).wr W16, (((F0.same W6).other W11 (Or.inr (slot_ne (Or.inr (hw _ (List.mem_of_getElem? (i := 39) rfl))) (Or.inr (hw _ (List.mem_of_getElem? (i := 41) rfl))) (by decide) (t := (.object "java/lang/String")) (t' := .int) (by decide) (by decide)))).other W16 (Or.inr (slot_ne (Or.inr (hw _ (List.mem_of_getElem? (i := 39) rfl))) (Or.inr (hw _ (List.mem_of_getElem? (i := 43) rfl))) (by decide) (t := (.object "java/lang/String")) (t' := (.object "java/lang/String")) (by decide) (by decide)))), (((F1.other W6 (Or.inr (slot_ne (Or.inr (hw _ (List.mem_of_getElem? (i := 41) rfl))) (Or.inr (hw _ (List.mem_of_getElem? (i := 39) rfl))) (by decide) (t := .int) (t' := (.object "java/lang/String")) (by decide) (by decide)))).same W11).other W16 (Or.inr (slot_ne (Or.inr (hw _ (List.mem_of_getElem? (i := 41) rfl))) (Or.inr (hw _ (List.mem_of_getElem? (i := 43) rfl))) (by decide) (t := .int) (t' := (.object "java/lang/String")) (by decide) (by decide)))), (((F2.other W6 (Or.inr (slot_ne (Or.inr (hw _ (List.mem_of_getElem? (i := 43) rfl))) (Or.inr (hw _ (List.mem_of_getElem? (i := 39) rfl))) (by decide) (t := (.object "java/lang/String")) (t' := (.object "java/lang/String")) (by decide) (by decide)))).other W11 (Or.inr (slot_ne (Or.inr (hw _ (List.mem_of_getElem? (i := 43) rfl))) (Or.inr (hw _ (List.mem_of_getElem? (i := 41) rfl))) (by decide) (t := (.object "java/lang/String")) (t' := .int) (by decide) (by decide)))).same W16)⟩
set_option maxRecDepth 65536 in
set_option maxHeartbeats 4000000 in
theorem rmpN (l : Launch) {Z : State} {a0 : Array Value} (G : OG Z a0) (n0 : Nat) (a : Addr) (w : Addr) (ln : Int32) (h0 : Heap) (E : Exa Z h0 a "com/example/typeloom/typeloom/Problem") (F0 : Fld Z h0 a "com/example/typeloom/typeloom/Problem" "file" "Ljava/lang/String;" .null) (F1 : Fld Z h0 a "com/example/typeloom/typeloom/Problem" "line" "I" (.int 0)) (F2 : Fld Z h0 a "com/example/typeloom/typeloom/Problem" "message" "Ljava/lang/String;" .null) (ga : n0 ≤ a) : oCon l Z n0 EL1 [a] (⟨"com/example/typeloom/typeloom/Problem", "<init>", "(Ljava/lang/String;ILjava/lang/String;)V"⟩ : MethodName) ipi #[.ref a, .null, .int ln, .ref w] h0 (fun v h => v = none ∧ Keep h0 h [a] ∧ Exa Z h a "com/example/typeloom/typeloom/Problem" ∧ Fld Z h a "com/example/typeloom/typeloom/Problem" "file" "Ljava/lang/String;" .null ∧ Fld Z h a "com/example/typeloom/typeloom/Problem" "line" "I" (.int ln) ∧ Fld Z h a "com/example/typeloom/typeloom/Problem" "message" "Ljava/lang/String;" (.ref w)) := by
  obtain ⟨hw, hEL, ⟨cmp, hC, hc0⟩, ⟨fm, hfm, hF⟩⟩ := id G
  refine oCon.mk hEL pnpi rfl rfl (efpN a ln w) fun C hCl => ?_
  refine s_aloadN (pc' := 1) dpi_0 rfl rfl rfl ?_
  refine s_callI0 (rmre C.l G n0 a h0) (by simp) rfl rfl (hw _ (List.mem_of_getElem? (i := 32) rfl)) (hw _ (List.mem_of_getElem? (i := 33) rfl)) (hw _ (List.mem_of_getElem? (i := 35) rfl)) (hw _ (List.mem_of_getElem? (i := 36) rfl)) (by decide) (o_len pdre rfl) rfl (pc' := 4) dpi_1 rfl (Nat.le_of_ble_eq_true rfl) (Nat.le_of_ble_eq_true rfl) (Nat.le_of_ble_eq_true rfl) (Nat.le_of_ble_eq_true rfl) (fun v1 h1 hQ1 => ?_)
  obtain ⟨rfl, rfl⟩ := hQ1
  dsimp only [oPush]
  refine s_aloadN (pc' := 5) dpi_4 rfl rfl rfl ?_
  refine s_aloadN (pc' := 6) dpi_5 rfl rfl rfl ?_
  refine s_putF F0 E ga (by simp) (host := "") (Or.inl (hw _ (List.mem_of_getElem? (i := 38) rfl))) Via.refl (Or.inr ⟨(hw _ (List.mem_of_getElem? (i := 39) rfl)), rfl, rfl⟩) (hw _ (List.mem_of_getElem? (i := 27) rfl)) (ty := (.object "java/lang/String")) (by decide) rfl rfl (pc' := 9) dpi_6 rfl (fun h6 W6 => ?_)
  refine s_aloadN (pc' := 10) dpi_9 rfl rfl rfl ?_
  refine s_iloadN (pc' := 11) dpi_10 rfl rfl ?_
  refine s_putF (F1.other W6 (Or.inr (slot_ne (Or.inr (hw _ (List.mem_of_getElem? (i := 41) rfl))) (Or.inr (hw _ (List.mem_of_getElem? (i := 39) rfl))) (by decide) (t := .int) (t' := (.object "java/lang/String")) (by decide) (by decide)))) (E.wr W6) ga (by simp) (host := "") (Or.inl (hw _ (List.mem_of_getElem? (i := 40) rfl))) Via.refl (Or.inr ⟨(hw _ (List.mem_of_getElem? (i := 41) rfl)), rfl, rfl⟩) (hw _ (List.mem_of_getElem? (i := 27) rfl)) (ty := .int) (by decide) rfl rfl (pc' := 14) dpi_11 rfl (fun h11 W11 => ?_)
  refine s_aloadN (pc' := 15) dpi_14 rfl rfl rfl ?_
  refine s_aloadN (pc' := 16) dpi_15 rfl rfl rfl ?_
  refine s_putF ((F2.other W6 (Or.inr (slot_ne (Or.inr (hw _ (List.mem_of_getElem? (i := 43) rfl))) (Or.inr (hw _ (List.mem_of_getElem? (i := 39) rfl))) (by decide) (t := (.object "java/lang/String")) (t' := (.object "java/lang/String")) (by decide) (by decide)))).other W11 (Or.inr (slot_ne (Or.inr (hw _ (List.mem_of_getElem? (i := 43) rfl))) (Or.inr (hw _ (List.mem_of_getElem? (i := 41) rfl))) (by decide) (t := (.object "java/lang/String")) (t' := .int) (by decide) (by decide)))) ((E.wr W6).wr W11) ga (by simp) (host := "") (Or.inl (hw _ (List.mem_of_getElem? (i := 42) rfl))) Via.refl (Or.inr ⟨(hw _ (List.mem_of_getElem? (i := 43) rfl)), rfl, rfl⟩) (hw _ (List.mem_of_getElem? (i := 27) rfl)) (ty := (.object "java/lang/String")) (by decide) rfl rfl (pc' := 19) dpi_16 rfl (fun h16 W16 => ?_)
  exact s_ret rfl dpi_19 (Nat.le_of_ble_eq_true rfl) (Nat.le_of_ble_eq_true rfl) ⟨rfl, ((Keep.of_wr W6).wr W11 (Or.inl (List.mem_cons_self ..))).wr W16 (Or.inl (List.mem_cons_self ..)), ((E.wr W6).wr W11).wr W16, (((F0.same W6).other W11 (Or.inr (slot_ne (Or.inr (hw _ (List.mem_of_getElem? (i := 39) rfl))) (Or.inr (hw _ (List.mem_of_getElem? (i := 41) rfl))) (by decide) (t := (.object "java/lang/String")) (t' := .int) (by decide) (by decide)))).other W16 (Or.inr (slot_ne (Or.inr (hw _ (List.mem_of_getElem? (i := 39) rfl))) (Or.inr (hw _ (List.mem_of_getElem? (i := 43) rfl))) (by decide) (t := (.object "java/lang/String")) (t' := (.object "java/lang/String")) (by decide) (by decide)))), (((F1.other W6 (Or.inr (slot_ne (Or.inr (hw _ (List.mem_of_getElem? (i := 41) rfl))) (Or.inr (hw _ (List.mem_of_getElem? (i := 39) rfl))) (by decide) (t := .int) (t' := (.object "java/lang/String")) (by decide) (by decide)))).same W11).other W16 (Or.inr (slot_ne (Or.inr (hw _ (List.mem_of_getElem? (i := 41) rfl))) (Or.inr (hw _ (List.mem_of_getElem? (i := 43) rfl))) (by decide) (t := .int) (t' := (.object "java/lang/String")) (by decide) (by decide)))), (((F2.other W6 (Or.inr (slot_ne (Or.inr (hw _ (List.mem_of_getElem? (i := 43) rfl))) (Or.inr (hw _ (List.mem_of_getElem? (i := 39) rfl))) (by decide) (t := (.object "java/lang/String")) (t' := (.object "java/lang/String")) (by decide) (by decide)))).other W11 (Or.inr (slot_ne (Or.inr (hw _ (List.mem_of_getElem? (i := 43) rfl))) (Or.inr (hw _ (List.mem_of_getElem? (i := 41) rfl))) (by decide) (t := (.object "java/lang/String")) (t' := .int) (by decide) (by decide)))).same W16)⟩
abbrev c7 : List Int32 := [101, 114, 114, 111, 114, 58, 32]
abbrev c2 : List Int32 := [58, 32]
def ipt : OInfo := ("com/example/typeloom/typeloom/Problem", prog_6_method_2_code, 2, (some (.object "java/lang/String")), "toString", ({ frames := 6, cells := 24, slots := 520, locals := 110 } : Room))
theorem efpt (x0 : Addr) (m : MethodId) : entryFrame m #[(.ref x0)] 2 = mkF m 0 #[.val (.ref x0), .unset] [] := by first | (simp [entryFrame, mkF, argsToLocals, Value.category]; done) | rfl
theorem pdpt : parseMethodDescriptor "()Ljava/lang/String;" = some ⟨[], some (.object "java/lang/String")⟩ := by decide +kernel
theorem pnpt : plainFor (⟨"com/example/typeloom/typeloom/Problem", "toString", "()Ljava/lang/String;"⟩ : MethodName) = true := by decide +kernel
theorem dpt_0 : decode prog_6_method_2_code 0 = .ok (.aload_n 0, 1) := by decide +kernel
theorem dpt_1 : decode prog_6_method_2_code 1 = .ok (.getfield 7, 3) := by decide +kernel
theorem dpt_4 : decode prog_6_method_2_code 4 = .ok (.ifnonnull 9, 3) := by decide +kernel
theorem dpt_7 : decode prog_6_method_2_code 7 = .ok (.ldc 20, 2) := by decide +kernel
theorem dpt_9 : decode prog_6_method_2_code 9 = .ok (.astore_n 1, 1) := by decide +kernel
theorem dpt_10 : decode prog_6_method_2_code 10 = .ok (.goto 71, 3) := by decide +kernel
theorem dpt_13 : decode prog_6_method_2_code 13 = .ok (.aload_n 0, 1) := by decide +kernel
theorem dpt_14 : decode prog_6_method_2_code 14 = .ok (.getfield 13, 3) := by decide +kernel
theorem dpt_17 : decode prog_6_method_2_code 17 = .ok (.ifCond .le 41, 3) := by decide +kernel
theorem dpt_20 : decode prog_6_method_2_code 20 = .ok (.new 22, 3) := by decide +kernel
theorem dpt_23 : decode prog_6_method_2_code 23 = .ok (.dup, 1) := by decide +kernel
theorem dpt_24 : decode prog_6_method_2_code 24 = .ok (.invokespecial 24, 3) := by decide +kernel
theorem dpt_27 : decode prog_6_method_2_code 27 = .ok (.aload_n 0, 1) := by decide +kernel
theorem dpt_28 : decode prog_6_method_2_code 28 = .ok (.getfield 7, 3) := by decide +kernel
theorem dpt_31 : decode prog_6_method_2_code 31 = .ok (.invokevirtual 25, 3) := by decide +kernel
theorem dpt_34 : decode prog_6_method_2_code 34 = .ok (.ldc 29, 2) := by decide +kernel
theorem dpt_36 : decode prog_6_method_2_code 36 = .ok (.invokevirtual 25, 3) := by decide +kernel
theorem dpt_39 : decode prog_6_method_2_code 39 = .ok (.aload_n 0, 1) := by decide +kernel
theorem dpt_40 : decode prog_6_method_2_code 40 = .ok (.getfield 13, 3) := by decide +kernel
theorem dpt_43 : decode prog_6_method_2_code 43 = .ok (.invokevirtual 31, 3) := by decide +kernel
theorem dpt_46 : decode prog_6_method_2_code 46 = .ok (.ldc 34, 2) := by decide +kernel
theorem dpt_48 : decode prog_6_method_2_code 48 = .ok (.invokevirtual 25, 3) := by decide +kernel
theorem dpt_51 : decode prog_6_method_2_code 51 = .ok (.invokevirtual 36, 3) := by decide +kernel
theorem dpt_54 : decode prog_6_method_2_code 54 = .ok (.astore_n 1, 1) := by decide +kernel
theorem dpt_55 : decode prog_6_method_2_code 55 = .ok (.goto 26, 3) := by decide +kernel
theorem dpt_58 : decode prog_6_method_2_code 58 = .ok (.new 22, 3) := by decide +kernel
theorem dpt_61 : decode prog_6_method_2_code 61 = .ok (.dup, 1) := by decide +kernel
theorem dpt_62 : decode prog_6_method_2_code 62 = .ok (.invokespecial 24, 3) := by decide +kernel
theorem dpt_65 : decode prog_6_method_2_code 65 = .ok (.aload_n 0, 1) := by decide +kernel
theorem dpt_66 : decode prog_6_method_2_code 66 = .ok (.getfield 7, 3) := by decide +kernel
theorem dpt_69 : decode prog_6_method_2_code 69 = .ok (.invokevirtual 25, 3) := by decide +kernel
theorem dpt_72 : decode prog_6_method_2_code 72 = .ok (.ldc 34, 2) := by decide +kernel
theorem dpt_74 : decode prog_6_method_2_code 74 = .ok (.invokevirtual 25, 3) := by decide +kernel
theorem dpt_77 : decode prog_6_method_2_code 77 = .ok (.invokevirtual 36, 3) := by decide +kernel
theorem dpt_80 : decode prog_6_method_2_code 80 = .ok (.astore_n 1, 1) := by decide +kernel
theorem dpt_81 : decode prog_6_method_2_code 81 = .ok (.new 22, 3) := by decide +kernel
theorem dpt_84 : decode prog_6_method_2_code 84 = .ok (.dup, 1) := by decide +kernel
theorem dpt_85 : decode prog_6_method_2_code 85 = .ok (.invokespecial 24, 3) := by decide +kernel
theorem dpt_88 : decode prog_6_method_2_code 88 = .ok (.aload_n 1, 1) := by decide +kernel
theorem dpt_89 : decode prog_6_method_2_code 89 = .ok (.invokevirtual 25, 3) := by decide +kernel
theorem dpt_92 : decode prog_6_method_2_code 92 = .ok (.ldc 40, 2) := by decide +kernel
theorem dpt_94 : decode prog_6_method_2_code 94 = .ok (.invokevirtual 25, 3) := by decide +kernel
theorem dpt_97 : decode prog_6_method_2_code 97 = .ok (.aload_n 0, 1) := by decide +kernel
theorem dpt_98 : decode prog_6_method_2_code 98 = .ok (.getfield 17, 3) := by decide +kernel
theorem dpt_101 : decode prog_6_method_2_code 101 = .ok (.invokevirtual 25, 3) := by decide +kernel
theorem dpt_104 : decode prog_6_method_2_code 104 = .ok (.invokevirtual 36, 3) := by decide +kernel
theorem dpt_107 : decode prog_6_method_2_code 107 = .ok (.areturn, 1) := by decide +kernel
set_option maxRecDepth 65536 in
set_option maxHeartbeats 4000000 in
theorem t81 {C : OCtx} {Z : State} {a0 : Array Value} (G : OG Z a0) {n0 : Nat} {Q : Option Value → Heap → Prop} {h : Heap} {a pl w : Addr} {ps ms : List Int32} (hn0 : n0 ≤ h.size) (PL : SV Z h h.size pl ps) (lp : ps.length ≤ 16) (lm : ms.length ≤ 3) (F2 : Fld Z h a "com/example/typeloom/typeloom/Problem" "message" "Ljava/lang/String;" (.ref w)) (T2 : SV Z h h.size w ms) (fin : ∀ r h2, Ext h h2 → SV Z h2 h2.size r ([] ++ ps ++ c7 ++ ms) → Q (some (.ref r)) h2) : oRun C Z n0 ipt EL1 [] Q h 12 230 (mkF C.m 81 #[.val (.ref a), .val (.ref pl)] []) := by
  obtain ⟨hw, hEL, ⟨cmp, hC, hc0⟩, ⟨fm, hfm, hF⟩⟩ := id G
  have EE : Ext h h := ⟨Nat.le_refl _, fun _ _ q => q⟩
  refine s_new (hw _ (List.mem_of_getElem? (i := 50) rfl)) (hw _ (List.mem_of_getElem? (i := 51) rfl)) (hw _ (List.mem_of_getElem? (i := 52) rfl)) (pc' := 84) dpt_81 rfl (Nat.le_of_ble_eq_true rfl) (Nat.le_of_ble_eq_true rfl) (fun h81 b81 g81 nb81 E81 A81 D81 => ?_)
  have gb81 : h.size ≤ b81 := Nat.le_trans EE.1 (Nat.le_of_eq g81.symm)
  replace EE := o_ext EE E81
  refine s_dup (pc' := 85) dpt_84 rfl rfl ?_
  refine s_callI0R (rmsi C.l G n0 b81 _ A81 (D81 (Or.inl (hw _ (List.mem_of_getElem? (i := 65) rfl))) (ty := (.array .byte)) (by decide)) (D81 (Or.inl (hw _ (List.mem_of_getElem? (i := 67) rfl))) (ty := .byte) (by decide)) (D81 (Or.inl (hw _ (List.mem_of_getElem? (i := 90) rfl))) (ty := .int) (by decide)) nb81) (by simp) rfl rfl (hw _ (List.mem_of_getElem? (i := 53) rfl)) (hw _ (List.mem_of_getElem? (i := 54) rfl)) (hw _ (List.mem_of_getElem? (i := 52) rfl)) (hw _ (List.mem_of_getElem? (i := 55) rfl)) (by decide) (o_len pdsi rfl) rfl (pc' := 88) dpt_85 rfl (Nat.le_of_ble_eq_true rfl) (Nat.le_of_ble_eq_true rfl) (Nat.le_of_ble_eq_true rfl) (Nat.le_of_ble_eq_true rfl) (fun v85 h85 rs85 hQ85 => ?_)
  obtain ⟨a85, k85, rfl, rfl, ga85, K85, B⟩ := hQ85
  dsimp only [oPush]
  replace ga85 : h.size ≤ a85 := Nat.le_trans EE.1 ga85
  replace EE := o_extKeep EE K85 (allS gb81 all0)
  have hcp : (16 : Nat) = 16 ∨ (16 : Nat) = 34 := Or.inl rfl
  refine s_aloadN (pc' := 89) dpt_88 rfl rfl rfl ?_
  refine s_callV1R (rmsb C.l G n0 b81 pl a85 _ _ _ _ _ (by simp only [List.length_append, List.length_cons, List.length_nil, DL_len]; omega) _ nb81 (Nat.le_trans hn0 ga85) B (PL.ext EE)) (by simp) B.1 (hw _ (List.mem_of_getElem? (i := 68) rfl)) (hw _ (List.mem_of_getElem? (i := 69) rfl)) (hw _ (List.mem_of_getElem? (i := 71) rfl)) (hw _ (List.mem_of_getElem? (i := 70) rfl)) (o_nf (hw _ (List.mem_of_getElem? (i := 71) rfl)) rfl) (hw _ (List.mem_of_getElem? (i := 52) rfl)) (hw _ (List.mem_of_getElem? (i := 72) rfl)) (by decide) (o_len pdsb rfl) rfl (pc' := 92) dpt_89 rfl (Nat.le_of_ble_eq_true rfl) (Nat.le_of_ble_eq_true rfl) (Nat.le_of_ble_eq_true rfl) (Nat.le_of_ble_eq_true rfl) (fun v89 h89 rs89 hQ89 => ?_)
  obtain ⟨a89, k89, c89, rfl, rfl, B, K89, ha89, hc89⟩ := hQ89
  dsimp only [oPush]
  have ga89 : h.size ≤ a89 := ha89.elim (fun q => q ▸ ga85) (fun q => Nat.le_trans EE.1 q)
  replace hcp : c89 = 16 ∨ c89 = 34 := by omega
  replace EE := o_extKeep EE K89 (allS gb81 (allS ga85 all0))
  refine s_ldcS 28 (text := "error: ") (vs := (c7).map fun c => Value.int (byt c)) (z := Int32.ofNat (c7).length) (hw _ (List.mem_of_getElem? (i := 116) rfl)) (o_wS hw) hEL (by decide) ⟨by decide, by first | rfl | decide⟩ (by decide) rfl (pc' := 94) dpt_92 rfl (by decide) (by decide) (Nat.le_of_ble_eq_true rfl) (Nat.le_of_ble_eq_true rfl) (fun h92 a92 b92 k92 E92 X92 C92 V92 A92 N92 => ?_)
  have H92 : SV Z h92 h92.size a92 c7 := ⟨b92, k92, X92.lt, A92.lt, X92, C92, V92, A92⟩
  replace B := B.ext E92
  replace EE := o_ext EE E92
  refine s_callV1R (rmsb C.l G n0 b81 a92 a89 _ _ _ _ _ (by simp only [List.length_append, List.length_cons, List.length_nil, DL_len]; omega) _ nb81 (Nat.le_trans hn0 ga89) B H92) (by simp) B.1 (hw _ (List.mem_of_getElem? (i := 68) rfl)) (hw _ (List.mem_of_getElem? (i := 69) rfl)) (hw _ (List.mem_of_getElem? (i := 71) rfl)) (hw _ (List.mem_of_getElem? (i := 70) rfl)) (o_nf (hw _ (List.mem_of_getElem? (i := 71) rfl)) rfl) (hw _ (List.mem_of_getElem? (i := 52) rfl)) (hw _ (List.mem_of_getElem? (i := 72) rfl)) (by decide) (o_len pdsb rfl) rfl (pc' := 97) dpt_94 rfl (Nat.le_of_ble_eq_true rfl) (Nat.le_of_ble_eq_true rfl) (Nat.le_of_ble_eq_true rfl) (Nat.le_of_ble_eq_true rfl) (fun v94 h94 rs94 hQ94 => ?_)
  obtain ⟨a94, k94, c94, rfl, rfl, B, K94, ha94, hc94⟩ := hQ94
  dsimp only [oPush]
  have ga94 : h.size ≤ a94 := ha94.elim (fun q => q ▸ ga89) (fun q => Nat.le_trans EE.1 q)
  replace hcp : c94 = 16 ∨ c94 = 34 := by omega
  replace EE := o_extKeep EE K94 (allS gb81 (allS ga89 all0))
  refine s_aloadN (pc' := 98) dpt_97 rfl rfl rfl ?_
  refine s_getF (F2.ext EE) (host := "") (Or.inl (hw _ (List.mem_of_getElem? (i := 42) rfl))) Via.refl (pc' := 101) dpt_98 rfl ?_
  refine s_callV1R (rmsb C.l G n0 b81 w a94 _ _ _ _ _ (by simp only [List.length_append, List.length_cons, List.length_nil, DL_len]; omega) _ nb81 (Nat.le_trans hn0 ga94) B (T2.ext EE)) (by simp) B.1 (hw _ (List.mem_of_getElem? (i := 68) rfl)) (hw _ (List.mem_of_getElem? (i := 69) rfl)) (hw _ (List.mem_of_getElem? (i := 71) rfl)) (hw _ (List.mem_of_getElem? (i := 70) rfl)) (o_nf (hw _ (List.mem_of_getElem? (i := 71) rfl)) rfl) (hw _ (List.mem_of_getElem? (i := 52) rfl)) (hw _ (List.mem_of_getElem? (i := 72) rfl)) (by decide) (o_len pdsb rfl) rfl (pc' := 104) dpt_101 rfl (Nat.le_of_ble_eq_true rfl) (Nat.le_of_ble_eq_true rfl) (Nat.le_of_ble_eq_true rfl) (Nat.le_of_ble_eq_true rfl) (fun v101 h101 rs101 hQ101 => ?_)
  obtain ⟨a101, k101, c101, rfl, rfl, B, K101, ha101, hc101⟩ := hQ101
  dsimp only [oPush]
  have ga101 : h.size ≤ a101 := ha101.elim (fun q => q ▸ ga94) (fun q => Nat.le_trans EE.1 q)
  replace hcp : c101 = 16 ∨ c101 = 34 := by omega
  replace EE := o_extKeep EE K101 (allS gb81 (allS ga94 all0))
  refine s_callV0 (rmtS C.l G n0 b81 _ _ _ _ (by omega) _ B) (by simp) B.1 (hw _ (List.mem_of_getElem? (i := 117) rfl)) (hw _ (List.mem_of_getElem? (i := 118) rfl)) (hw _ (List.mem_of_getElem? (i := 120) rfl)) (hw _ (List.mem_of_getElem? (i := 119) rfl)) (o_nf (hw _ (List.mem_of_getElem? (i := 120) rfl)) rfl) (hw _ (List.mem_of_getElem? (i := 52) rfl)) (hw _ (List.mem_of_getElem? (i := 121) rfl)) (by decide) (o_len pdtS rfl) rfl (pc' := 107) dpt_104 rfl (Nat.le_of_ble_eq_true rfl) (Nat.le_of_ble_eq_true rfl) (Nat.le_of_ble_eq_true rfl) (Nat.le_of_ble_eq_true rfl) (fun v104 h104 hQ104 => ?_)
  obtain ⟨r104, rfl, gr104, E104, V104⟩ := hQ104
  dsimp only [oPush]
  replace EE := o_ext EE E104
  exact s_aret rfl rfl rfl dpt_107 (Nat.le_of_ble_eq_true rfl) (Nat.le_of_ble_eq_true rfl) (fin _ _ EE V104)
set_option maxRecDepth 65536 in
set_option maxHeartbeats 4000000 in
theorem rmtN (l : Launch) {Z : State} {a0 : Array Value} (G : OG Z a0) (n0 : Nat) (a w : Addr) (ms : List Int32) (lm : ms.length ≤ 3) (ln : Int32) (h0 : Heap) (hn0 : n0 ≤ h0.size) (F0 : Fld Z h0 a "com/example/typeloom/typeloom/Problem" "file" "Ljava/lang/String;" .null) (F1 : Fld Z h0 a "com/example/typeloom/typeloom/Problem" "line" "I" (.int ln)) (F2 : Fld Z h0 a "com/example/typeloom/typeloom/Problem" "message" "Ljava/lang/String;" (.ref w)) (T2 : SV Z h0 h0.size w ms) : oCon l Z n0 EL1 [] (⟨"com/example/typeloom/typeloom/Problem", "toString", "()Ljava/lang/String;"⟩ : MethodName) ipt #[.ref a] h0 (fun v h => ∃ r, v = some (.ref r) ∧ Ext h0 h ∧ SV Z h h.size r ([] ++ ([] : List Int32) ++ c7 ++ ms)) := by
  obtain ⟨hw, hEL, ⟨cmp, hC, hc0⟩, ⟨fm, hfm, hF⟩⟩ := id G
  have EE : Ext h0 h0 := ⟨Nat.le_refl _, fun _ _ q => q⟩
  refine oCon.mk hEL pnpt rfl rfl (efpt a) fun C hCl => ?_
  refine s_aloadN (pc' := 1) dpt_0 rfl rfl rfl ?_
  refine s_getF (F0.ext EE) (host := "") (Or.inl (hw _ (List.mem_of_getElem? (i := 38) rfl))) Via.refl (pc' := 4) dpt_1 rfl ?_
  refine s_nnN (pc' := 7) dpt_4 rfl ?_
  refine s_ldcS 0 (text := "") (vs := (([] : List Int32)).map fun c => Value.int (byt c)) (z := Int32.ofNat (([] : List Int32)).length) (hw _ (List.mem_of_getElem? (i := 49) rfl)) (o_wS hw) hEL (by decide) ⟨by decide, by first | rfl | decide⟩ (by decide) rfl (pc' := 9) dpt_7 rfl (by decide) (by decide) (Nat.le_of_ble_eq_true rfl) (Nat.le_of_ble_eq_true rfl) (fun h7 a7 b7 k7 E7 X7 C7 V7 A7 N7 => ?_)
  have H7 : SV Z h7 h7.size a7 ([] : List Int32) := ⟨b7, k7, X7.lt, A7.lt, X7, C7, V7, A7⟩
  replace EE := o_ext EE E7
  refine s_astoreN (kn := 1) rfl (pc' := 10) dpt_9 rfl rfl (o_st rfl (by first | exact One.u | exact One.val rfl | assumption) rfl) ?_
  dsimp only [List.set_cons_succ, List.set_cons_zero]
  refine s_goto (pc' := 81) dpt_10 (by decide) rfl ?_
  refine s_more (cs' := 12) (sl' := 230) (Nat.le_of_ble_eq_true rfl) (Nat.le_of_ble_eq_true rfl) ?_
  refine s_weak (ws' := []) (by simp) ?_
  exact t81 G (Nat.le_trans hn0 EE.1) (by first | exact H7 | exact V51 | exact V77) (by first | (simp [DL_len]; done) | (simp [DL_len]; omega)) lm (F2.ext EE) ((T2.ext EE).mono EE.1) (fun r h2 E2 V => ⟨r, rfl, o_ext EE E2, V⟩)
set_option maxRecDepth 65536 in
set_option maxHeartbeats 4000000 in
theorem rmtP (l : Launch) {Z : State} {a0 : Array Value} (G : OG Z a0) (n0 : Nat) (a w : Addr) (ms : List Int32) (lm : ms.length ≤ 3) (t : Addr) (n : Nat) (hn : n < 2147483648) (hpos : 0 < n) (fs : List Int32) (lf : fs.length ≤ 3) (TT : TBS Z) (h0 : Heap) (hn0 : n0 ≤ h0.size) (F0 : Fld Z h0 a "com/example/typeloom/typeloom/Problem" "file" "Ljava/lang/String;" (.ref t)) (F1 : Fld Z h0 a "com/example/typeloom/typeloom/Problem" "line" "I" (.int (Int32.ofNat n))) (F2 : Fld Z h0 a "com/example/typeloom/typeloom/Problem" "message" "Ljava/lang/String;" (.ref w)) (T2 : SV Z h0 h0.size w ms) (T0 : SV Z h0 h0.size t fs) : oCon l Z n0 EL1 [] (⟨"com/example/typeloom/typeloom/Problem", "toString", "()Ljava/lang/String;"⟩ : MethodName) ipt #[.ref a] h0 (fun v h => ∃ r, v = some (.ref r) ∧ Ext h0 h ∧ SV Z h h.size r ([] ++ ([] ++ fs ++ [58] ++ DL n ++ c2) ++ c7 ++ ms)) := by
  obtain ⟨hw, hEL, ⟨cmp, hC, hc0⟩, ⟨fm, hfm, hF⟩⟩ := id G
  have EE : Ext h0 h0 := ⟨Nat.le_refl _, fun _ _ q => q⟩
  have hdg := dg_r n
  refine oCon.mk hEL pnpt rfl rfl (efpt a) fun C hCl => ?_
  refine s_aloadN (pc' := 1) dpt_0 rfl rfl rfl ?_
  refine s_getF (F0.ext EE) (host := "") (Or.inl (hw _ (List.mem_of_getElem? (i := 38) rfl))) Via.refl (pc' := 4) dpt_1 rfl ?_
  refine s_nnY (pc' := 13) dpt_4 (by decide) rfl ?_
  refine s_aloadN (pc' := 14) dpt_13 rfl rfl rfl ?_
  refine s_getF (F1.ext EE) (host := "") (Or.inl (hw _ (List.mem_of_getElem? (i := 40) rfl))) Via.refl (pc' := 17) dpt_14 rfl ?_
  refine s_if (pc' := 20) (pc'' := 58) dpt_17 rfl (by decide) rfl (fun hc17 => ?_) (fun hc17 => ?_)
  · replace hc17 := b_le hc17
    exact absurd ((n_lt (a := 0) (by decide) hn).mpr hpos) hc17
  · replace hc17 := b_leF hc17
    refine s_new (hw _ (List.mem_of_getElem? (i := 50) rfl)) (hw _ (List.mem_of_getElem? (i := 51) rfl)) (hw _ (List.mem_of_getElem? (i := 52) rfl)) (pc' := 23) dpt_20 rfl (Nat.le_of_ble_eq_true rfl) (Nat.le_of_ble_eq_true rfl) (fun h20 b20 g20 nb20 E20 A20 D20 => ?_)
    have gb20 : h0.size ≤ b20 := Nat.le_trans EE.1 (Nat.le_of_eq g20.symm)
    replace EE := o_ext EE E20
    refine s_dup (pc' := 24) dpt_23 rfl rfl ?_
    refine s_callI0R (rmsi C.l G n0 b20 _ A20 (D20 (Or.inl (hw _ (List.mem_of_getElem? (i := 65) rfl))) (ty := (.array .byte)) (by decide)) (D20 (Or.inl (hw _ (List.mem_of_getElem? (i := 67) rfl))) (ty := .byte) (by decide)) (D20 (Or.inl (hw _ (List.mem_of_getElem? (i := 90) rfl))) (ty := .int) (by decide)) nb20) (by simp) rfl rfl (hw _ (List.mem_of_getElem? (i := 53) rfl)) (hw _ (List.mem_of_getElem? (i := 54) rfl)) (hw _ (List.mem_of_getElem? (i := 52) rfl)) (hw _ (List.mem_of_getElem? (i := 55) rfl)) (by decide) (o_len pdsi rfl) rfl (pc' := 27) dpt_24 rfl (Nat.le_of_ble_eq_true rfl) (Nat.le_of_ble_eq_true rfl) (Nat.le_of_ble_eq_true rfl) (Nat.le_of_ble_eq_true rfl) (fun v24 h24 rs24 hQ24 => ?_)
    obtain ⟨a24, k24, rfl, rfl, ga24, K24, B⟩ := hQ24
    dsimp only [oPush]
    replace ga24 : h0.size ≤ a24 := Nat.le_trans EE.1 ga24
    replace EE := o_extKeep EE K24 (allS gb20 all0)
    have hcp : (16 : Nat) = 16 ∨ (16 : Nat) = 34 := Or.inl rfl
    refine s_aloadN (pc' := 28) dpt_27 rfl rfl rfl ?_
    refine s_getF (F0.ext EE) (host := "") (Or.inl (hw _ (List.mem_of_getElem? (i := 38) rfl))) Via.refl (pc' := 31) dpt_28 rfl ?_
    refine s_callV1R (rmsb C.l G n0 b20 t a24 _ _ _ _ _ (by simp only [List.length_append, List.length_cons, List.length_nil, DL_len]; omega) _ nb20 (Nat.le_trans hn0 ga24) B (T0.ext EE)) (by simp) B.1 (hw _ (List.mem_of_getElem? (i := 68) rfl)) (hw _ (List.mem_of_getElem? (i := 69) rfl)) (hw _ (List.mem_of_getElem? (i := 71) rfl)) (hw _ (List.mem_of_getElem? (i := 70) rfl)) (o_nf (hw _ (List.mem_of_getElem? (i := 71) rfl)) rfl) (hw _ (List.mem_of_getElem? (i := 52) rfl)) (hw _ (List.mem_of_getElem? (i := 72) rfl)) (by decide) (o_len pdsb rfl) rfl (pc' := 34) dpt_31 rfl (Nat.le_of_ble_eq_true rfl) (Nat.le_of_ble_eq_true rfl) (Nat.le_of_ble_eq_true rfl) (Nat.le_of_ble_eq_true rfl) (fun v31 h31 rs31 hQ31 => ?_)
    obtain ⟨a31, k31, c31, rfl, rfl, B, K31, ha31, hc31⟩ := hQ31
    dsimp only [oPush]
    have ga31 : h0.size ≤ a31 := ha31.elim (fun q => q ▸ ga24) (fun q => Nat.le_trans EE.1 q)
    replace hcp : c31 = 16 ∨ c31 = 34 := by omega
    replace EE := o_extKeep EE K31 (allS gb20 (allS ga24 all0))
    refine s_ldcS 4 (text := ":") (vs := (([58] : List Int32)).map fun c => Value.int (byt c)) (z := Int32.ofNat (([58] : List Int32)).length) (hw _ (List.mem_of_getElem? (i := 192) rfl)) (o_wS hw) hEL (by decide) ⟨by decide, by first | rfl | decide⟩ (by decide) rfl (pc' := 36) dpt_34 rfl (by decide) (by decide) (Nat.le_of_ble_eq_true rfl) (Nat.le_of_ble_eq_true rfl) (fun h34 a34 b34 k34 E34 X34 C34 V34 A34 N34 => ?_)
    have H34 : SV Z h34 h34.size a34 ([58] : List Int32) := ⟨b34, k34, X34.lt, A34.lt, X34, C34, V34, A34⟩
    replace B := B.ext E34
    replace EE := o_ext EE E34
    refine s_callV1R (rmsb C.l G n0 b20 a34 a31 _ _ _ _ _ (by simp only [List.length_append, List.length_cons, List.length_nil, DL_len]; omega) _ nb20 (Nat.le_trans hn0 ga31) B H34) (by simp) B.1 (hw _ (List.mem_of_getElem? (i := 68) rfl)) (hw _ (List.mem_of_getElem? (i := 69) rfl)) (hw _ (List.mem_of_getElem? (i := 71) rfl)) (hw _ (List.mem_of_getElem? (i := 70) rfl)) (o_nf (hw _ (List.mem_of_getElem? (i := 71) rfl)) rfl) (hw _ (List.mem_of_getElem? (i := 52) rfl)) (hw _ (List.mem_of_getElem? (i := 72) rfl)) (by decide) (o_len pdsb rfl) rfl (pc' := 39) dpt_36 rfl (Nat.le_of_ble_eq_true rfl) (Nat.le_of_ble_eq_true rfl) (Nat.le_of_ble_eq_true rfl) (Nat.le_of_ble_eq_true rfl) (fun v36 h36 rs36 hQ36 => ?_)
    obtain ⟨a36, k36, c36, rfl, rfl, B, K36, ha36, hc36⟩ := hQ36
    dsimp only [oPush]
    have ga36 : h0.size ≤ a36 := ha36.elim (fun q => q ▸ ga31) (fun q => Nat.le_trans EE.1 q)
    replace hcp : c36 = 16 ∨ c36 = 34 := by omega
    replace EE := o_extKeep EE K36 (allS gb20 (allS ga31 all0))
    refine s_aloadN (pc' := 40) dpt_39 rfl rfl rfl ?_
    refine s_getF (F1.ext EE) (host := "") (Or.inl (hw _ (List.mem_of_getElem? (i := 40) rfl))) Via.refl (pc' := 43) dpt_40 rfl ?_
    refine s_callV1R (rmbI C.l G n0 b20 a36 _ _ n _ hn (by simp only [List.length_append, List.length_cons, List.length_nil]; omega) _ nb20 (Nat.le_trans hn0 ga36) TT B) (by simp) B.1 (hw _ (List.mem_of_getElem? (i := 193) rfl)) (hw _ (List.mem_of_getElem? (i := 194) rfl)) (hw _ (List.mem_of_getElem? (i := 196) rfl)) (hw _ (List.mem_of_getElem? (i := 195) rfl)) (o_nf (hw _ (List.mem_of_getElem? (i := 196) rfl)) rfl) (hw _ (List.mem_of_getElem? (i := 52) rfl)) (hw _ (List.mem_of_getElem? (i := 197) rfl)) (by decide) (o_len pdbI rfl) rfl (pc' := 46) dpt_43 rfl (Nat.le_of_ble_eq_true rfl) (Nat.le_of_ble_eq_true rfl) (Nat.le_of_ble_eq_true rfl) (Nat.le_of_ble_eq_true rfl) (fun v43 h43 rs43 hQ43 => ?_)
    obtain ⟨a43, k43, c43, rfl, rfl, B, K43, ha43, hc43⟩ := hQ43
    dsimp only [oPush]
    have ga43 : h0.size ≤ a43 := ha43.elim (fun q => q ▸ ga36) (fun q => Nat.le_trans EE.1 q)
    replace hcp : c43 = 16 ∨ c43 = 34 := by omega
    replace EE := o_extKeep EE K43 (allS gb20 (allS ga36 all0))
    refine s_ldcS 8 (text := ": ") (vs := (c2).map fun c => Value.int (byt c)) (z := Int32.ofNat (c2).length) (hw _ (List.mem_of_getElem? (i := 211) rfl)) (o_wS hw) hEL (by decide) ⟨by decide, by first | rfl | decide⟩ (by decide) rfl (pc' := 48) dpt_46 rfl (by decide) (by decide) (Nat.le_of_ble_eq_true rfl) (Nat.le_of_ble_eq_true rfl) (fun h46 a46 b46 k46 E46 X46 C46 V46 A46 N46 => ?_)
    have H46 : SV Z h46 h46.size a46 c2 := ⟨b46, k46, X46.lt, A46.lt, X46, C46, V46, A46⟩
    replace B := B.ext E46
    replace EE := o_ext EE E46
    refine s_callV1R (rmsb C.l G n0 b20 a46 a43 _ _ _ _ _ (by simp only [List.length_append, List.length_cons, List.length_nil, DL_len]; omega) _ nb20 (Nat.le_trans hn0 ga43) B H46) (by simp) B.1 (hw _ (List.mem_of_getElem? (i := 68) rfl)) (hw _ (List.mem_of_getElem? (i := 69) rfl)) (hw _ (List.mem_of_getElem? (i := 71) rfl)) (hw _ (List.mem_of_getElem? (i := 70) rfl)) (o_nf (hw _ (List.mem_of_getElem? (i := 71) rfl)) rfl) (hw _ (List.mem_of_getElem? (i := 52) rfl)) (hw _ (List.mem_of_getElem? (i := 72) rfl)) (by decide) (o_len pdsb rfl) rfl (pc' := 51) dpt_48 rfl (Nat.le_of_ble_eq_true rfl) (Nat.le_of_ble_eq_true rfl) (Nat.le_of_ble_eq_true rfl) (Nat.le_of_ble_eq_true rfl) (fun v48 h48 rs48 hQ48 => ?_)
    obtain ⟨a48, k48, c48, rfl, rfl, B, K48, ha48, hc48⟩ := hQ48
    dsimp only [oPush]
    have ga48 : h0.size ≤ a48 := ha48.elim (fun q => q ▸ ga43) (fun q => Nat.le_trans EE.1 q)
    replace hcp : c48 = 16 ∨ c48 = 34 := by omega
    replace EE := o_extKeep EE K48 (allS gb20 (allS ga43 all0))
    refine s_callV0 (rmtS C.l G n0 b20 _ _ _ _ (by omega) _ B) (by simp) B.1 (hw _ (List.mem_of_getElem? (i := 117) rfl)) (hw _ (List.mem_of_getElem? (i := 118) rfl)) (hw _ (List.mem_of_getElem? (i := 120) rfl)) (hw _ (List.mem_of_getElem? (i := 119) rfl)) (o_nf (hw _ (List.mem_of_getElem? (i := 120) rfl)) rfl) (hw _ (List.mem_of_getElem? (i := 52) rfl)) (hw _ (List.mem_of_getElem? (i := 121) rfl)) (by decide) (o_len pdtS rfl) rfl (pc' := 54) dpt_51 rfl (Nat.le_of_ble_eq_true rfl) (Nat.le_of_ble_eq_true rfl) (Nat.le_of_ble_eq_true rfl) (Nat.le_of_ble_eq_true rfl) (fun v51 h51 hQ51 => ?_)
    obtain ⟨r51, rfl, gr51, E51, V51⟩ := hQ51
    dsimp only [oPush]
    replace EE := o_ext EE E51
    refine s_astoreN (kn := 1) rfl (pc' := 55) dpt_54 rfl rfl (o_st rfl (by first | exact One.u | exact One.val rfl | assumption) rfl) ?_
    dsimp only [List.set_cons_succ, List.set_cons_zero]
    refine s_goto (pc' := 81) dpt_55 (by decide) rfl ?_
    refine s_more (cs' := 12) (sl' := 230) (Nat.le_of_ble_eq_true rfl) (Nat.le_of_ble_eq_true rfl) ?_
    refine s_weak (ws' := []) (by simp) ?_
    exact t81 G (Nat.le_trans hn0 EE.1) (by first | exact H7 | exact V51 | exact V77) (by first | (simp [DL_len]; done) | (simp [DL_len]; omega)) lm (F2.ext EE) ((T2.ext EE).mono EE.1) (fun r h2 E2 V => ⟨r, rfl, o_ext EE E2, V⟩)
set_option maxRecDepth 65536 in
set_option maxHeartbeats 4000000 in
theorem rmtZ (l : Launch) {Z : State} {a0 : Array Value} (G : OG Z a0) (n0 : Nat) (a w : Addr) (ms : List Int32) (lm : ms.length ≤ 3) (t : Addr) (ln : Int32) (hz : ¬ 0 < ln) (fs : List Int32) (lf : fs.length ≤ 3) (h0 : Heap) (hn0 : n0 ≤ h0.size) (F0 : Fld Z h0 a "com/example/typeloom/typeloom/Problem" "file" "Ljava/lang/String;" (.ref t)) (F1 : Fld Z h0 a "com/example/typeloom/typeloom/Problem" "line" "I" (.int ln)) (F2 : Fld Z h0 a "com/example/typeloom/typeloom/Problem" "message" "Ljava/lang/String;" (.ref w)) (T2 : SV Z h0 h0.size w ms) (T0 : SV Z h0 h0.size t fs) : oCon l Z n0 EL1 [] (⟨"com/example/typeloom/typeloom/Problem", "toString", "()Ljava/lang/String;"⟩ : MethodName) ipt #[.ref a] h0 (fun v h => ∃ r, v = some (.ref r) ∧ Ext h0 h ∧ SV Z h h.size r ([] ++ ([] ++ fs ++ c2) ++ c7 ++ ms)) := by
  obtain ⟨hw, hEL, ⟨cmp, hC, hc0⟩, ⟨fm, hfm, hF⟩⟩ := id G
  have EE : Ext h0 h0 := ⟨Nat.le_refl _, fun _ _ q => q⟩
  refine oCon.mk hEL pnpt rfl rfl (efpt a) fun C hCl => ?_
  refine s_aloadN (pc' := 1) dpt_0 rfl rfl rfl ?_
  refine s_getF (F0.ext EE) (host := "") (Or.inl (hw _ (List.mem_of_getElem? (i := 38) rfl))) Via.refl (pc' := 4) dpt_1 rfl ?_
  refine s_nnY (pc' := 13) dpt_4 (by decide) rfl ?_
  refine s_aloadN (pc' := 14) dpt_13 rfl rfl rfl ?_
  refine s_getF (F1.ext EE) (host := "") (Or.inl (hw _ (List.mem_of_getElem? (i := 40) rfl))) Via.refl (pc' := 17) dpt_14 rfl ?_
  refine s_if (pc' := 20) (pc'' := 58) dpt_17 rfl (by decide) rfl (fun hc17 => ?_) (fun hc17 => ?_)
  · replace hc17 := b_le hc17
    refine s_new (hw _ (List.mem_of_getElem? (i := 50) rfl)) (hw _ (List.mem_of_getElem? (i := 51) rfl)) (hw _ (List.mem_of_getElem? (i := 52) rfl)) (pc' := 61) dpt_58 rfl (Nat.le_of_ble_eq_true rfl) (Nat.le_of_ble_eq_true rfl) (fun h58 b58 g58 nb58 E58 A58 D58 => ?_)
    have gb58 : h0.size ≤ b58 := Nat.le_trans EE.1 (Nat.le_of_eq g58.symm)
    replace EE := o_ext EE E58
    refine s_dup (pc' := 62) dpt_61 rfl rfl ?_
    refine s_callI0R (rmsi C.l G n0 b58 _ A58 (D58 (Or.inl (hw _ (List.mem_of_getElem? (i := 65) rfl))) (ty := (.array .byte)) (by decide)) (D58 (Or.inl (hw _ (List.mem_of_getElem? (i := 67) rfl))) (ty := .byte) (by decide)) (D58 (Or.inl (hw _ (List.mem_of_getElem? (i := 90) rfl))) (ty := .int) (by decide)) nb58) (by simp) rfl rfl (hw _ (List.mem_of_getElem? (i := 53) rfl)) (hw _ (List.mem_of_getElem? (i := 54) rfl)) (hw _ (List.mem_of_getElem? (i := 52) rfl)) (hw _ (List.mem_of_getElem? (i := 55) rfl)) (by decide) (o_len pdsi rfl) rfl (pc' := 65) dpt_62 rfl (Nat.le_of_ble_eq_true rfl) (Nat.le_of_ble_eq_true rfl) (Nat.le_of_ble_eq_true rfl) (Nat.le_of_ble_eq_true rfl) (fun v62 h62 rs62 hQ62 => ?_)
    obtain ⟨a62, k62, rfl, rfl, ga62, K62, B⟩ := hQ62
    dsimp only [oPush]
    replace ga62 : h0.size ≤ a62 := Nat.le_trans EE.1 ga62
    replace EE := o_extKeep EE K62 (allS gb58 all0)
    have hcp : (16 : Nat) = 16 ∨ (16 : Nat) = 34 := Or.inl rfl
    refine s_aloadN (pc' := 66) dpt_65 rfl rfl rfl ?_
    refine s_getF (F0.ext EE) (host := "") (Or.inl (hw _ (List.mem_of_getElem? (i := 38) rfl))) Via.refl (pc' := 69) dpt_66 rfl ?_
    refine s_callV1R (rmsb C.l G n0 b58 t a62 _ _ _ _ _ (by simp only [List.length_append, List.length_cons, List.length_nil, DL_len]; omega) _ nb58 (Nat.le_trans hn0 ga62) B (T0.ext EE)) (by simp) B.1 (hw _ (List.mem_of_getElem? (i := 68) rfl)) (hw _ (List.mem_of_getElem? (i := 69) rfl)) (hw _ (List.mem_of_getElem? (i := 71) rfl)) (hw _ (List.mem_of_getElem? (i := 70) rfl)) (o_nf (hw _ (List.mem_of_getElem? (i := 71) rfl)) rfl) (hw _ (List.mem_of_getElem? (i := 52) rfl)) (hw _ (List.mem_of_getElem? (i := 72) rfl)) (by decide) (o_len pdsb rfl) rfl (pc' := 72) dpt_69 rfl (Nat.le_of_ble_eq_true rfl) (Nat.le_of_ble_eq_true rfl) (Nat.le_of_ble_eq_true rfl) (Nat.le_of_ble_eq_true rfl) (fun v69 h69 rs69 hQ69 => ?_)
    obtain ⟨a69, k69, c69, rfl, rfl, B, K69, ha69, hc69⟩ := hQ69
    dsimp only [oPush]
    have ga69 : h0.size ≤ a69 := ha69.elim (fun q => q ▸ ga62) (fun q => Nat.le_trans EE.1 q)
    replace hcp : c69 = 16 ∨ c69 = 34 := by omega
    replace EE := o_extKeep EE K69 (allS gb58 (allS ga62 all0))
    refine s_ldcS 8 (text := ": ") (vs := (c2).map fun c => Value.int (byt c)) (z := Int32.ofNat (c2).length) (hw _ (List.mem_of_getElem? (i := 211) rfl)) (o_wS hw) hEL (by decide) ⟨by decide, by first | rfl | decide⟩ (by decide) rfl (pc' := 74) dpt_72 rfl (by decide) (by decide) (Nat.le_of_ble_eq_true rfl) (Nat.le_of_ble_eq_true rfl) (fun h72 a72 b72 k72 E72 X72 C72 V72 A72 N72 => ?_)
    have H72 : SV Z h72 h72.size a72 c2 := ⟨b72, k72, X72.lt, A72.lt, X72, C72, V72, A72⟩
    replace B := B.ext E72
    replace EE := o_ext EE E72
    refine s_callV1R (rmsb C.l G n0 b58 a72 a69 _ _ _ _ _ (by simp only [List.length_append, List.length_cons, List.length_nil, DL_len]; omega) _ nb58 (Nat.le_trans hn0 ga69) B H72) (by simp) B.1 (hw _ (List.mem_of_getElem? (i := 68) rfl)) (hw _ (List.mem_of_getElem? (i := 69) rfl)) (hw _ (List.mem_of_getElem? (i := 71) rfl)) (hw _ (List.mem_of_getElem? (i := 70) rfl)) (o_nf (hw _ (List.mem_of_getElem? (i := 71) rfl)) rfl) (hw _ (List.mem_of_getElem? (i := 52) rfl)) (hw _ (List.mem_of_getElem? (i := 72) rfl)) (by decide) (o_len pdsb rfl) rfl (pc' := 77) dpt_74 rfl (Nat.le_of_ble_eq_true rfl) (Nat.le_of_ble_eq_true rfl) (Nat.le_of_ble_eq_true rfl) (Nat.le_of_ble_eq_true rfl) (fun v74 h74 rs74 hQ74 => ?_)
    obtain ⟨a74, k74, c74, rfl, rfl, B, K74, ha74, hc74⟩ := hQ74
    dsimp only [oPush]
    have ga74 : h0.size ≤ a74 := ha74.elim (fun q => q ▸ ga69) (fun q => Nat.le_trans EE.1 q)
    replace hcp : c74 = 16 ∨ c74 = 34 := by omega
    replace EE := o_extKeep EE K74 (allS gb58 (allS ga69 all0))
    refine s_callV0 (rmtS C.l G n0 b58 _ _ _ _ (by omega) _ B) (by simp) B.1 (hw _ (List.mem_of_getElem? (i := 117) rfl)) (hw _ (List.mem_of_getElem? (i := 118) rfl)) (hw _ (List.mem_of_getElem? (i := 120) rfl)) (hw _ (List.mem_of_getElem? (i := 119) rfl)) (o_nf (hw _ (List.mem_of_getElem? (i := 120) rfl)) rfl) (hw _ (List.mem_of_getElem? (i := 52) rfl)) (hw _ (List.mem_of_getElem? (i := 121) rfl)) (by decide) (o_len pdtS rfl) rfl (pc' := 80) dpt_77 rfl (Nat.le_of_ble_eq_true rfl) (Nat.le_of_ble_eq_true rfl) (Nat.le_of_ble_eq_true rfl) (Nat.le_of_ble_eq_true rfl) (fun v77 h77 hQ77 => ?_)
    obtain ⟨r77, rfl, gr77, E77, V77⟩ := hQ77
    dsimp only [oPush]
    replace EE := o_ext EE E77
    refine s_astoreN (kn := 1) rfl (pc' := 81) dpt_80 rfl rfl (o_st rfl (by first | exact One.u | exact One.val rfl | assumption) rfl) ?_
    dsimp only [List.set_cons_succ, List.set_cons_zero]
    refine s_more (cs' := 12) (sl' := 230) (Nat.le_of_ble_eq_true rfl) (Nat.le_of_ble_eq_true rfl) ?_
    refine s_weak (ws' := []) (by simp) ?_
    exact t81 G (Nat.le_trans hn0 EE.1) (by first | exact H7 | exact V51 | exact V77) (by first | (simp [DL_len]; done) | (simp [DL_len]; omega)) lm (F2.ext EE) ((T2.ext EE).mono EE.1) (fun r h2 E2 V => ⟨r, rfl, o_ext EE E2, V⟩)
  · replace hc17 := b_leF hc17
    exact absurd hc17 hz
def imk : OInfo := ("com/example/typeloom/typeloom/ProblemToStringPinLaw", method_3_code, 5, (some (.object "java/lang/String")), "mk", ({ frames := 5, cells := 6, slots := 16, locals := 90 } : Room))
theorem efmk (x0 : Int32) (m : MethodId) : entryFrame m #[(.int x0)] 5 = mkF m 0 #[.val (.int x0), .unset, .unset, .unset, .unset] [] := by first | (simp [entryFrame, mkF, argsToLocals, Value.category]; done) | rfl
theorem pdmk : parseMethodDescriptor "(I)Ljava/lang/String;" = some ⟨[.int], some (.object "java/lang/String")⟩ := by decide +kernel
theorem pnmk : plainFor (⟨"com/example/typeloom/typeloom/ProblemToStringPinLaw", "mk", "(I)Ljava/lang/String;"⟩ : MethodName) = true := by decide +kernel
theorem dmk_0 : decode method_3_code 0 = .ok (.iload_n 0, 1) := by decide +kernel
theorem dmk_1 : decode method_3_code 1 = .ok (.bipush 24, 2) := by decide +kernel
theorem dmk_3 : decode method_3_code 3 = .ok (.iushr, 1) := by decide +kernel
theorem dmk_4 : decode method_3_code 4 = .ok (.iconst 3, 1) := by decide +kernel
theorem dmk_5 : decode method_3_code 5 = .ok (.iand, 1) := by decide +kernel
theorem dmk_6 : decode method_3_code 6 = .ok (.istore_n 1, 1) := by decide +kernel
theorem dmk_7 : decode method_3_code 7 = .ok (.iload_n 0, 1) := by decide +kernel
theorem dmk_8 : decode method_3_code 8 = .ok (.sipush 255, 3) := by decide +kernel
theorem dmk_11 : decode method_3_code 11 = .ok (.iand, 1) := by decide +kernel
theorem dmk_12 : decode method_3_code 12 = .ok (.i2c, 1) := by decide +kernel
theorem dmk_13 : decode method_3_code 13 = .ok (.istore_n 2, 1) := by decide +kernel
theorem dmk_14 : decode method_3_code 14 = .ok (.iload_n 0, 1) := by decide +kernel
theorem dmk_15 : decode method_3_code 15 = .ok (.bipush 8, 2) := by decide +kernel
theorem dmk_17 : decode method_3_code 17 = .ok (.iushr, 1) := by decide +kernel
theorem dmk_18 : decode method_3_code 18 = .ok (.sipush 255, 3) := by decide +kernel
theorem dmk_21 : decode method_3_code 21 = .ok (.iand, 1) := by decide +kernel
theorem dmk_22 : decode method_3_code 22 = .ok (.i2c, 1) := by decide +kernel
theorem dmk_23 : decode method_3_code 23 = .ok (.istore_n 3, 1) := by decide +kernel
theorem dmk_24 : decode method_3_code 24 = .ok (.iload_n 0, 1) := by decide +kernel
theorem dmk_25 : decode method_3_code 25 = .ok (.bipush 16, 2) := by decide +kernel
theorem dmk_27 : decode method_3_code 27 = .ok (.iushr, 1) := by decide +kernel
theorem dmk_28 : decode method_3_code 28 = .ok (.sipush 255, 3) := by decide +kernel
theorem dmk_31 : decode method_3_code 31 = .ok (.iand, 1) := by decide +kernel
theorem dmk_32 : decode method_3_code 32 = .ok (.i2c, 1) := by decide +kernel
theorem dmk_33 : decode method_3_code 33 = .ok (.istore 4, 2) := by decide +kernel
theorem dmk_35 : decode method_3_code 35 = .ok (.iload_n 1, 1) := by decide +kernel
theorem dmk_36 : decode method_3_code 36 = .ok (.ifCond .ne 14, 3) := by decide +kernel
theorem dmk_39 : decode method_3_code 39 = .ok (.new 23, 3) := by decide +kernel
theorem dmk_42 : decode method_3_code 42 = .ok (.dup, 1) := by decide +kernel
theorem dmk_43 : decode method_3_code 43 = .ok (.iconst 0, 1) := by decide +kernel
theorem dmk_44 : decode method_3_code 44 = .ok (.newarray .char, 2) := by decide +kernel
theorem dmk_46 : decode method_3_code 46 = .ok (.invokespecial 46, 3) := by decide +kernel
theorem dmk_49 : decode method_3_code 49 = .ok (.areturn, 1) := by decide +kernel
theorem dmk_50 : decode method_3_code 50 = .ok (.iload_n 1, 1) := by decide +kernel
theorem dmk_51 : decode method_3_code 51 = .ok (.iconst 1, 1) := by decide +kernel
theorem dmk_52 : decode method_3_code 52 = .ok (.if_icmp .ne 18, 3) := by decide +kernel
theorem dmk_55 : decode method_3_code 55 = .ok (.new 23, 3) := by decide +kernel
theorem dmk_58 : decode method_3_code 58 = .ok (.dup, 1) := by decide +kernel
theorem dmk_59 : decode method_3_code 59 = .ok (.iconst 1, 1) := by decide +kernel
theorem dmk_60 : decode method_3_code 60 = .ok (.newarray .char, 2) := by decide +kernel
theorem dmk_62 : decode method_3_code 62 = .ok (.dup, 1) := by decide +kernel
theorem dmk_63 : decode method_3_code 63 = .ok (.iconst 0, 1) := by decide +kernel
theorem dmk_64 : decode method_3_code 64 = .ok (.iload_n 2, 1) := by decide +kernel
theorem dmk_65 : decode method_3_code 65 = .ok (.castore, 1) := by decide +kernel
theorem dmk_66 : decode method_3_code 66 = .ok (.invokespecial 46, 3) := by decide +kernel
theorem dmk_69 : decode method_3_code 69 = .ok (.areturn, 1) := by decide +kernel
theorem dmk_70 : decode method_3_code 70 = .ok (.iload_n 1, 1) := by decide +kernel
theorem dmk_71 : decode method_3_code 71 = .ok (.iconst 2, 1) := by decide +kernel
theorem dmk_72 : decode method_3_code 72 = .ok (.if_icmp .ne 22, 3) := by decide +kernel
theorem dmk_75 : decode method_3_code 75 = .ok (.new 23, 3) := by decide +kernel
theorem dmk_78 : decode method_3_code 78 = .ok (.dup, 1) := by decide +kernel
theorem dmk_79 : decode method_3_code 79 = .ok (.iconst 2, 1) := by decide +kernel
theorem dmk_80 : decode method_3_code 80 = .ok (.newarray .char, 2) := by decide +kernel
theorem dmk_82 : decode method_3_code 82 = .ok (.dup, 1) := by decide +kernel
theorem dmk_83 : decode method_3_code 83 = .ok (.iconst 0, 1) := by decide +kernel
theorem dmk_84 : decode method_3_code 84 = .ok (.iload_n 2, 1) := by decide +kernel
theorem dmk_85 : decode method_3_code 85 = .ok (.castore, 1) := by decide +kernel
theorem dmk_86 : decode method_3_code 86 = .ok (.dup, 1) := by decide +kernel
theorem dmk_87 : decode method_3_code 87 = .ok (.iconst 1, 1) := by decide +kernel
theorem dmk_88 : decode method_3_code 88 = .ok (.iload_n 3, 1) := by decide +kernel
theorem dmk_89 : decode method_3_code 89 = .ok (.castore, 1) := by decide +kernel
theorem dmk_90 : decode method_3_code 90 = .ok (.invokespecial 46, 3) := by decide +kernel
theorem dmk_93 : decode method_3_code 93 = .ok (.areturn, 1) := by decide +kernel
theorem dmk_94 : decode method_3_code 94 = .ok (.new 23, 3) := by decide +kernel
theorem dmk_97 : decode method_3_code 97 = .ok (.dup, 1) := by decide +kernel
theorem dmk_98 : decode method_3_code 98 = .ok (.iconst 3, 1) := by decide +kernel
theorem dmk_99 : decode method_3_code 99 = .ok (.newarray .char, 2) := by decide +kernel
theorem dmk_101 : decode method_3_code 101 = .ok (.dup, 1) := by decide +kernel
theorem dmk_102 : decode method_3_code 102 = .ok (.iconst 0, 1) := by decide +kernel
theorem dmk_103 : decode method_3_code 103 = .ok (.iload_n 2, 1) := by decide +kernel
theorem dmk_104 : decode method_3_code 104 = .ok (.castore, 1) := by decide +kernel
theorem dmk_105 : decode method_3_code 105 = .ok (.dup, 1) := by decide +kernel
theorem dmk_106 : decode method_3_code 106 = .ok (.iconst 1, 1) := by decide +kernel
theorem dmk_107 : decode method_3_code 107 = .ok (.iload_n 3, 1) := by decide +kernel
theorem dmk_108 : decode method_3_code 108 = .ok (.castore, 1) := by decide +kernel
theorem dmk_109 : decode method_3_code 109 = .ok (.dup, 1) := by decide +kernel
theorem dmk_110 : decode method_3_code 110 = .ok (.iconst 2, 1) := by decide +kernel
theorem dmk_111 : decode method_3_code 111 = .ok (.iload 4, 2) := by decide +kernel
theorem dmk_113 : decode method_3_code 113 = .ok (.castore, 1) := by decide +kernel
theorem dmk_114 : decode method_3_code 114 = .ok (.invokespecial 46, 3) := by decide +kernel
theorem dmk_117 : decode method_3_code 117 = .ok (.areturn, 1) := by decide +kernel
set_option maxRecDepth 65536 in
set_option maxHeartbeats 4000000 in
theorem rmmk (l : Launch) {Z : State} {a0 : Array Value} (G : OG Z a0) (n0 : Nat) (x : Int32) (h0 : Heap) : oCon l Z n0 EL1 [] (⟨"com/example/typeloom/typeloom/ProblemToStringPinLaw", "mk", "(I)Ljava/lang/String;"⟩ : MethodName) imk #[.int x] h0 (fun v h => ∃ r cs, v = some (.ref r) ∧ Ext h0 h ∧ SV Z h h.size r cs ∧ cs.length ≤ 3 ∧ Ch cs) := by
  obtain ⟨hw, hEL, ⟨cmp, hC, hc0⟩, ⟨fm, hfm, hF⟩⟩ := id G
  refine oCon.mk hEL pnmk rfl rfl (efmk x) fun C hCl => ?_
  refine s_iloadN (pc' := 1) dmk_0 rfl rfl ?_
  refine s_bipush (x := (24 : Int32)) (pc' := 3) dmk_1 rfl rfl ?_
  refine s_iushr (pc' := 4) dmk_3 rfl ?_
  refine s_iconst (x := (3 : Int32)) (pc' := 5) dmk_4 rfl rfl ?_
  refine s_iand (pc' := 6) dmk_5 rfl ?_
  refine s_istoreN (kn := 1) rfl (pc' := 7) dmk_6 rfl (o_st rfl (by first | exact One.u | exact One.val rfl | assumption) rfl) ?_
  dsimp only [List.set_cons_succ, List.set_cons_zero]
  refine s_iloadN (pc' := 8) dmk_7 rfl rfl ?_
  refine s_sipush (x := (255 : Int32)) (pc' := 11) dmk_8 rfl rfl ?_
  refine s_iand (pc' := 12) dmk_11 rfl ?_
  refine s_i2c (pc' := 13) dmk_12 rfl ?_
  rw [i2c_ch (r_and _)]
  refine s_istoreN (kn := 2) rfl (pc' := 14) dmk_13 rfl (o_st rfl (by first | exact One.u | exact One.val rfl | assumption) rfl) ?_
  dsimp only [List.set_cons_succ, List.set_cons_zero]
  refine s_iloadN (pc' := 15) dmk_14 rfl rfl ?_
  refine s_bipush (x := (8 : Int32)) (pc' := 17) dmk_15 rfl rfl ?_
  refine s_iushr (pc' := 18) dmk_17 rfl ?_
  refine s_sipush (x := (255 : Int32)) (pc' := 21) dmk_18 rfl rfl ?_
  refine s_iand (pc' := 22) dmk_21 rfl ?_
  refine s_i2c (pc' := 23) dmk_22 rfl ?_
  rw [i2c_ch (r_and _)]
  refine s_istoreN (kn := 3) rfl (pc' := 24) dmk_23 rfl (o_st rfl (by first | exact One.u | exact One.val rfl | assumption) rfl) ?_
  dsimp only [List.set_cons_succ, List.set_cons_zero]
  refine s_iloadN (pc' := 25) dmk_24 rfl rfl ?_
  refine s_bipush (x := (16 : Int32)) (pc' := 27) dmk_25 rfl rfl ?_
  refine s_iushr (pc' := 28) dmk_27 rfl ?_
  refine s_sipush (x := (255 : Int32)) (pc' := 31) dmk_28 rfl rfl ?_
  refine s_iand (pc' := 32) dmk_31 rfl ?_
  refine s_i2c (pc' := 33) dmk_32 rfl ?_
  rw [i2c_ch (r_and _)]
  refine s_istore (pc' := 35) dmk_33 rfl (o_st rfl (by first | exact One.u | exact One.val rfl | assumption) rfl) ?_
  dsimp only [List.set_cons_succ, List.set_cons_zero]
  refine s_iloadN (pc' := 36) dmk_35 rfl rfl ?_
  refine s_if (pc' := 39) (pc'' := 50) dmk_36 rfl (by decide) rfl (fun hc36 => ?_) (fun hc36 => ?_)
  · replace hc36 := b_ne hc36
    refine s_iloadN (pc' := 51) dmk_50 rfl rfl ?_
    refine s_iconst (x := (1 : Int32)) (pc' := 52) dmk_51 rfl rfl ?_
    refine s_icmp (pc' := 55) (pc'' := 70) dmk_52 rfl (by decide) rfl (fun hc52 => ?_) (fun hc52 => ?_)
    · replace hc52 := b_ne hc52
      refine s_iloadN (pc' := 71) dmk_70 rfl rfl ?_
      refine s_iconst (x := (2 : Int32)) (pc' := 72) dmk_71 rfl rfl ?_
      refine s_icmp (pc' := 75) (pc'' := 94) dmk_72 rfl (by decide) rfl (fun hc72 => ?_) (fun hc72 => ?_)
      · replace hc72 := b_ne hc72
        refine s_new (hw _ (List.mem_of_getElem? (i := 4) rfl)) (hw _ (List.mem_of_getElem? (i := 5) rfl)) (hw _ (List.mem_of_getElem? (i := 6) rfl)) (pc' := 97) dmk_94 rfl (Nat.le_of_ble_eq_true rfl) (Nat.le_of_ble_eq_true rfl) (fun h94 b94 g94 nb94 E94 A94 D94 => ?_)
        refine s_dup (pc' := 98) dmk_97 rfl rfl ?_
        refine s_iconst (x := (3 : Int32)) (pc' := 99) dmk_98 rfl rfl ?_
        refine s_newA 3 (hw _ (List.mem_of_getElem? (i := 7) rfl)) (pc' := 101) dmk_99 rfl (by decide) (by decide) (by decide) (Nat.le_of_ble_eq_true rfl) (Nat.le_of_ble_eq_true rfl) (fun h99 b99 k99 g99 nb99 E99 A99 => ?_)
        have hne94 : b94 ≠ b99 := o_fresh A94.lt g99
        have AA99 := o_padTo A99 3
        refine s_dup (pc' := 102) dmk_101 rfl rfl ?_
        refine s_iconst (x := (0 : Int32)) (pc' := 103) dmk_102 rfl rfl ?_
        refine s_iloadN (pc' := 104) dmk_103 rfl rfl ?_
        refine s_castore AA99 nb99 (by simp) (by decide) (by decide) 0 rfl (by simp) (pc' := 105) dmk_104 rfl (fun h104 W104 A104 => ?_)
        rw [nar_ch (r_and _)] at A104
        refine s_dup (pc' := 106) dmk_105 rfl rfl ?_
        refine s_iconst (x := (1 : Int32)) (pc' := 107) dmk_106 rfl rfl ?_
        refine s_iloadN (pc' := 108) dmk_107 rfl rfl ?_
        refine s_castore A104 nb99 (by simp) (by decide) (by decide) 1 rfl (by simp) (pc' := 109) dmk_108 rfl (fun h108 W108 A108 => ?_)
        rw [nar_ch (r_and _)] at A108
        refine s_dup (pc' := 110) dmk_109 rfl rfl ?_
        refine s_iconst (x := (2 : Int32)) (pc' := 111) dmk_110 rfl rfl ?_
        refine s_iload (pc' := 113) dmk_111 rfl rfl ?_
        refine s_castore A108 nb99 (by simp) (by decide) (by decide) 2 rfl (by simp) (pc' := 114) dmk_113 rfl (fun h113 W113 A113 => ?_)
        rw [nar_ch (r_and _)] at A113
        refine s_callI1 (rmsC C.l G n0 b94 b99 k99 [(x &&& 255), (XT.ushr x 8 &&& 255), (XT.ushr x 16 &&& 255)] _ h113 (by simp) (by intro z hz; simp at hz; rcases hz with rfl | rfl | rfl; exact (r_and _); exact (r_and _); exact (r_and _)) A113 ((((A94.ext E99).wr W104).wr W108).wr W113) (((((D94 (Or.inr (hw _ (List.mem_of_getElem? (i := 20) rfl))) (ty := .array .byte) (by decide)).ext E99).other W104 (Or.inl hne94)).other W108 (Or.inl hne94)).other W113 (Or.inl hne94)) (((((D94 (Or.inr (hw _ (List.mem_of_getElem? (i := 21) rfl))) (ty := .byte) (by decide)).ext E99).other W104 (Or.inl hne94)).other W108 (Or.inl hne94)).other W113 (Or.inl hne94)) nb94) (by simp) rfl rfl (hw _ (List.mem_of_getElem? (i := 8) rfl)) (hw _ (List.mem_of_getElem? (i := 9) rfl)) (hw _ (List.mem_of_getElem? (i := 6) rfl)) (hw _ (List.mem_of_getElem? (i := 10) rfl)) (by decide) (o_len pdsC rfl) rfl (pc' := 117) dmk_114 rfl (Nat.le_of_ble_eq_true rfl) (Nat.le_of_ble_eq_true rfl) (Nat.le_of_ble_eq_true rfl) (Nat.le_of_ble_eq_true rfl) (fun v114 h114 hQ114 => ?_)
        obtain ⟨rfl, K114, V114⟩ := hQ114
        dsimp only [oPush]
        have X114 := o_extKeep (o_extKeep (o_extKeep (o_extKeep (o_ext E94 E99) (Keep.of_wr W104) (allS (by have := E94.1; omega) all0)) (Keep.of_wr W108) (allS (by have := E94.1; omega) all0)) (Keep.of_wr W113) (allS (by have := E94.1; omega) all0)) K114 (allS (Nat.le_of_eq g94.symm) all0)
        exact s_aret rfl rfl rfl dmk_117 (Nat.le_of_ble_eq_true rfl) (Nat.le_of_ble_eq_true rfl) ⟨b94, [(x &&& 255), (XT.ushr x 8 &&& 255), (XT.ushr x 16 &&& 255)], rfl, X114, V114, by simp, by intro z hz; simp at hz; rcases hz with rfl | rfl | rfl <;> exact r_and _⟩
      · replace hc72 := b_neF hc72
        refine s_new (hw _ (List.mem_of_getElem? (i := 4) rfl)) (hw _ (List.mem_of_getElem? (i := 5) rfl)) (hw _ (List.mem_of_getElem? (i := 6) rfl)) (pc' := 78) dmk_75 rfl (Nat.le_of_ble_eq_true rfl) (Nat.le_of_ble_eq_true rfl) (fun h75 b75 g75 nb75 E75 A75 D75 => ?_)
        refine s_dup (pc' := 79) dmk_78 rfl rfl ?_
        refine s_iconst (x := (2 : Int32)) (pc' := 80) dmk_79 rfl rfl ?_
        refine s_newA 3 (hw _ (List.mem_of_getElem? (i := 7) rfl)) (pc' := 82) dmk_80 rfl (by decide) (by decide) (by decide) (Nat.le_of_ble_eq_true rfl) (Nat.le_of_ble_eq_true rfl) (fun h80 b80 k80 g80 nb80 E80 A80 => ?_)
        have hne75 : b75 ≠ b80 := o_fresh A75.lt g80
        have AA80 := o_padTo A80 2
        refine s_dup (pc' := 83) dmk_82 rfl rfl ?_
        refine s_iconst (x := (0 : Int32)) (pc' := 84) dmk_83 rfl rfl ?_
        refine s_iloadN (pc' := 85) dmk_84 rfl rfl ?_
        refine s_castore AA80 nb80 (by simp) (by decide) (by decide) 0 rfl (by simp) (pc' := 86) dmk_85 rfl (fun h85 W85 A85 => ?_)
        rw [nar_ch (r_and _)] at A85
        refine s_dup (pc' := 87) dmk_86 rfl rfl ?_
        refine s_iconst (x := (1 : Int32)) (pc' := 88) dmk_87 rfl rfl ?_
        refine s_iloadN (pc' := 89) dmk_88 rfl rfl ?_
        refine s_castore A85 nb80 (by simp) (by decide) (by decide) 1 rfl (by simp) (pc' := 90) dmk_89 rfl (fun h89 W89 A89 => ?_)
        rw [nar_ch (r_and _)] at A89
        refine s_callI1 (rmsC C.l G n0 b75 b80 k80 [(x &&& 255), (XT.ushr x 8 &&& 255)] _ h89 (by simp) (by intro z hz; simp at hz; rcases hz with rfl | rfl; exact (r_and _); exact (r_and _)) A89 (((A75.ext E80).wr W85).wr W89) ((((D75 (Or.inr (hw _ (List.mem_of_getElem? (i := 20) rfl))) (ty := .array .byte) (by decide)).ext E80).other W85 (Or.inl hne75)).other W89 (Or.inl hne75)) ((((D75 (Or.inr (hw _ (List.mem_of_getElem? (i := 21) rfl))) (ty := .byte) (by decide)).ext E80).other W85 (Or.inl hne75)).other W89 (Or.inl hne75)) nb75) (by simp) rfl rfl (hw _ (List.mem_of_getElem? (i := 8) rfl)) (hw _ (List.mem_of_getElem? (i := 9) rfl)) (hw _ (List.mem_of_getElem? (i := 6) rfl)) (hw _ (List.mem_of_getElem? (i := 10) rfl)) (by decide) (o_len pdsC rfl) rfl (pc' := 93) dmk_90 rfl (Nat.le_of_ble_eq_true rfl) (Nat.le_of_ble_eq_true rfl) (Nat.le_of_ble_eq_true rfl) (Nat.le_of_ble_eq_true rfl) (fun v90 h90 hQ90 => ?_)
        obtain ⟨rfl, K90, V90⟩ := hQ90
        dsimp only [oPush]
        have X90 := o_extKeep (o_extKeep (o_extKeep (o_ext E75 E80) (Keep.of_wr W85) (allS (by have := E75.1; omega) all0)) (Keep.of_wr W89) (allS (by have := E75.1; omega) all0)) K90 (allS (Nat.le_of_eq g75.symm) all0)
        exact s_aret rfl rfl rfl dmk_93 (Nat.le_of_ble_eq_true rfl) (Nat.le_of_ble_eq_true rfl) ⟨b75, [(x &&& 255), (XT.ushr x 8 &&& 255)], rfl, X90, V90, by simp, by intro z hz; simp at hz; rcases hz with rfl | rfl <;> exact r_and _⟩
    · replace hc52 := b_neF hc52
      refine s_new (hw _ (List.mem_of_getElem? (i := 4) rfl)) (hw _ (List.mem_of_getElem? (i := 5) rfl)) (hw _ (List.mem_of_getElem? (i := 6) rfl)) (pc' := 58) dmk_55 rfl (Nat.le_of_ble_eq_true rfl) (Nat.le_of_ble_eq_true rfl) (fun h55 b55 g55 nb55 E55 A55 D55 => ?_)
      refine s_dup (pc' := 59) dmk_58 rfl rfl ?_
      refine s_iconst (x := (1 : Int32)) (pc' := 60) dmk_59 rfl rfl ?_
      refine s_newA 3 (hw _ (List.mem_of_getElem? (i := 7) rfl)) (pc' := 62) dmk_60 rfl (by decide) (by decide) (by decide) (Nat.le_of_ble_eq_true rfl) (Nat.le_of_ble_eq_true rfl) (fun h60 b60 k60 g60 nb60 E60 A60 => ?_)
      have hne55 : b55 ≠ b60 := o_fresh A55.lt g60
      have AA60 := o_padTo A60 1
      refine s_dup (pc' := 63) dmk_62 rfl rfl ?_
      refine s_iconst (x := (0 : Int32)) (pc' := 64) dmk_63 rfl rfl ?_
      refine s_iloadN (pc' := 65) dmk_64 rfl rfl ?_
      refine s_castore AA60 nb60 (by simp) (by decide) (by decide) 0 rfl (by simp) (pc' := 66) dmk_65 rfl (fun h65 W65 A65 => ?_)
      rw [nar_ch (r_and _)] at A65
      refine s_callI1 (rmsC C.l G n0 b55 b60 k60 [(x &&& 255)] _ h65 (by simp) (by intro z hz; simp at hz; subst hz; exact (r_and _)) A65 ((A55.ext E60).wr W65) (((D55 (Or.inr (hw _ (List.mem_of_getElem? (i := 20) rfl))) (ty := .array .byte) (by decide)).ext E60).other W65 (Or.inl hne55)) (((D55 (Or.inr (hw _ (List.mem_of_getElem? (i := 21) rfl))) (ty := .byte) (by decide)).ext E60).other W65 (Or.inl hne55)) nb55) (by simp) rfl rfl (hw _ (List.mem_of_getElem? (i := 8) rfl)) (hw _ (List.mem_of_getElem? (i := 9) rfl)) (hw _ (List.mem_of_getElem? (i := 6) rfl)) (hw _ (List.mem_of_getElem? (i := 10) rfl)) (by decide) (o_len pdsC rfl) rfl (pc' := 69) dmk_66 rfl (Nat.le_of_ble_eq_true rfl) (Nat.le_of_ble_eq_true rfl) (Nat.le_of_ble_eq_true rfl) (Nat.le_of_ble_eq_true rfl) (fun v66 h66 hQ66 => ?_)
      obtain ⟨rfl, K66, V66⟩ := hQ66
      dsimp only [oPush]
      have X66 := o_extKeep (o_extKeep (o_ext E55 E60) (Keep.of_wr W65) (allS (by have := E55.1; omega) all0)) K66 (allS (Nat.le_of_eq g55.symm) all0)
      exact s_aret rfl rfl rfl dmk_69 (Nat.le_of_ble_eq_true rfl) (Nat.le_of_ble_eq_true rfl) ⟨b55, [(x &&& 255)], rfl, X66, V66, by simp, by intro z hz; simp at hz; subst hz; exact r_and _⟩
  · replace hc36 := b_neF hc36
    refine s_new (hw _ (List.mem_of_getElem? (i := 4) rfl)) (hw _ (List.mem_of_getElem? (i := 5) rfl)) (hw _ (List.mem_of_getElem? (i := 6) rfl)) (pc' := 42) dmk_39 rfl (Nat.le_of_ble_eq_true rfl) (Nat.le_of_ble_eq_true rfl) (fun h39 b39 g39 nb39 E39 A39 D39 => ?_)
    refine s_dup (pc' := 43) dmk_42 rfl rfl ?_
    refine s_iconst (x := (0 : Int32)) (pc' := 44) dmk_43 rfl rfl ?_
    refine s_newA 3 (hw _ (List.mem_of_getElem? (i := 7) rfl)) (pc' := 46) dmk_44 rfl (by decide) (by decide) (by decide) (Nat.le_of_ble_eq_true rfl) (Nat.le_of_ble_eq_true rfl) (fun h44 b44 k44 g44 nb44 E44 A44 => ?_)
    have hne39 : b39 ≠ b44 := o_fresh A39.lt g44
    refine s_callI1 (rmsC C.l G n0 b39 b44 k44 [] _ h44 (by simp) (by intro z hz; simp at hz) A44 (A39.ext E44) ((D39 (Or.inr (hw _ (List.mem_of_getElem? (i := 20) rfl))) (ty := .array .byte) (by decide)).ext E44) ((D39 (Or.inr (hw _ (List.mem_of_getElem? (i := 21) rfl))) (ty := .byte) (by decide)).ext E44) nb39) (by simp) rfl rfl (hw _ (List.mem_of_getElem? (i := 8) rfl)) (hw _ (List.mem_of_getElem? (i := 9) rfl)) (hw _ (List.mem_of_getElem? (i := 6) rfl)) (hw _ (List.mem_of_getElem? (i := 10) rfl)) (by decide) (o_len pdsC rfl) rfl (pc' := 49) dmk_46 rfl (Nat.le_of_ble_eq_true rfl) (Nat.le_of_ble_eq_true rfl) (Nat.le_of_ble_eq_true rfl) (Nat.le_of_ble_eq_true rfl) (fun v46 h46 hQ46 => ?_)
    obtain ⟨rfl, K46, V46⟩ := hQ46
    dsimp only [oPush]
    have X46 := o_extKeep (o_ext E39 E44) K46 (allS (Nat.le_of_eq g39.symm) all0)
    exact s_aret rfl rfl rfl dmk_49 (Nat.le_of_ble_eq_true rfl) (Nat.le_of_ble_eq_true rfl) ⟨b39, [], rfl, X46, V46, by simp, by intro z hz; simp at hz⟩
theorem ga {P R : List Int32} {o j : Nat} (h : o = P.length) : (P ++ R)[o + j]? = R[j]? := by subst h; rw [List.getElem?_append_right (Nat.le_add_right _ _), Nat.add_sub_cancel_left]
theorem gl {l r : List Int32} {j : Nat} {z : Int32} (h : l[j]? = some z) : (l ++ r)[j]? = some z := by rw [List.getElem?_append_left (List.getElem?_eq_some_iff.mp h).1]; exact h
theorem Ch.app {a b : List Int32} (ha : Ch a) (hb : Ch b) : Ch (a ++ b) := fun z hz => (List.mem_append.mp hz).elim (ha z) (hb z)
theorem ch_c7 : Ch c7 := by unfold Ch; decide
theorem ch_c2 : Ch c2 := by unfold Ch; decide
theorem ch_58 : Ch [58] := by unfold Ch; decide
theorem ch_nil : Ch [] := by unfold Ch; decide
def RR (ps ms : List Int32) : List Int32 := [] ++ ps ++ c7 ++ ms
theorem rr_len (ps ms : List Int32) : (RR ps ms).length = ps.length + 7 + ms.length := by simp [RR]; omega
theorem rr_ch {ps ms : List Int32} (h1 : Ch ps) (h2 : Ch ms) : Ch (RR ps ms) := ((ch_nil.app h1).app ch_c7).app h2
theorem rr_p {ps ms : List Int32} {j : Nat} {z : Int32} (h : ps[j]? = some z) : (RR ps ms)[j]? = some z := by
  rw [show RR ps ms = ps ++ (c7 ++ ms) by simp [RR]]; exact gl h
theorem rr_e {ps ms : List Int32} {j : Nat} {z : Int32} (h : c7[j]? = some z) : (RR ps ms)[ps.length + j]? = some z := by
  rw [show RR ps ms = ps ++ (c7 ++ ms) by simp [RR], ga rfl]; exact gl h
theorem rr_m {ps ms : List Int32} {j : Nat} {z : Int32} (h : ms[j]? = some z) : (RR ps ms)[ps.length + 7 + j]? = some z := by
  rw [show RR ps ms = (ps ++ c7) ++ ms by simp [RR], ga (by simp)]; exact h
def PP (fs : List Int32) (n : Nat) : List Int32 := [] ++ fs ++ [58] ++ DL n ++ c2
theorem pp_len (fs : List Int32) (n : Nat) : (PP fs n).length = fs.length + 3 + dg n := by simp [PP, DL_len]; omega
theorem pp_ch {fs : List Int32} (h : Ch fs) (n : Nat) : Ch (PP fs n) := (((ch_nil.app h).app ch_58).app (DL_ch n)).app ch_c2
theorem pp_f {fs : List Int32} {n j : Nat} {z : Int32} (h : fs[j]? = some z) : (PP fs n)[0 + j]? = some z := by
  rw [show PP fs n = fs ++ ([58] ++ DL n ++ c2) by simp [PP], Nat.zero_add]; exact gl h
theorem pp_c (fs : List Int32) (n : Nat) : (PP fs n)[fs.length]? = some 58 := by
  rw [show PP fs n = fs ++ ([58] ++ (DL n ++ c2)) by simp [PP], show fs.length = fs.length + 0 from rfl, ga rfl]; rfl
theorem pp_d {fs : List Int32} {n j : Nat} {z : Int32} (h : (DL n)[j]? = some z) : (PP fs n)[fs.length + 1 + j]? = some z := by
  rw [show PP fs n = (fs ++ [58]) ++ (DL n ++ c2) by simp [PP], ga (by simp)]; exact gl h
theorem pp_2 (fs : List Int32) (n : Nat) {j : Nat} {z : Int32} (h : c2[j]? = some z) : (PP fs n)[fs.length + 1 + dg n + j]? = some z := by
  rw [show PP fs n = (fs ++ [58] ++ DL n) ++ (c2 ++ []) by simp [PP], ga (by simp [DL_len]; omega)]; exact gl h
def ZZ (fs : List Int32) : List Int32 := [] ++ fs ++ c2
theorem zz_len (fs : List Int32) : (ZZ fs).length = fs.length + 2 := by simp [ZZ]
theorem zz_ch {fs : List Int32} (h : Ch fs) : Ch (ZZ fs) := (ch_nil.app h).app ch_c2
theorem zz_f {fs : List Int32} {j : Nat} {z : Int32} (h : fs[j]? = some z) : (ZZ fs)[0 + j]? = some z := by
  rw [show ZZ fs = fs ++ c2 by simp [ZZ], Nat.zero_add]; exact gl h
theorem zz_2 (fs : List Int32) {j : Nat} {z : Int32} (h : c2[j]? = some z) : (ZZ fs)[fs.length + j]? = some z := by
  rw [show ZZ fs = fs ++ c2 by simp [ZZ], ga rfl]; exact h
theorem n_k {a k : Nat} : Int32.ofNat a + Int32.ofNat k = Int32.ofNat (a + k) := n_add a k
theorem n_add2 (a : Nat) : Int32.ofNat a + 2 = Int32.ofNat (a + 2) := n_add a 2
theorem n_add3 (a : Nat) : Int32.ofNat a + 3 = Int32.ofNat (a + 3) := n_add a 3
theorem n_add7 (a : Nat) : Int32.ofNat a + 7 = Int32.ofNat (a + 7) := n_add a 7
theorem nat_of (x : Int32) (h : 0 < x) : ∃ n : Nat, 0 < n ∧ n < 2147483648 ∧ x = Int32.ofNat n := by
  have e0 : (0 : Int32).toInt = 0 := rfl
  rw [o_lt, e0] at h
  have h1 := x.toInt_lt
  have e1 : (2 : Int) ^ 31 = 2147483648 := rfl
  refine ⟨x.toInt.toNat, by omega, by omega, ?_⟩
  rw [o_eq, n_toInt (by omega)]; omega
def i0 : OInfo := ("com/example/typeloom/typeloom/ProblemToStringPinLaw", code, maxLocals, (some .boolean), "law", room_1)
theorem ef0 (x0 : Int32) (x1 : Int32) (x2 : Int32) (x3 : Int32) (m : MethodId) : entryFrame m #[(.int x0), (.int x1), (.int x2), (.int x3)] maxLocals = mkF m 0 #[.val (.int x0), .val (.int x1), .val (.int x2), .val (.int x3), .unset, .unset, .unset, .unset, .unset, .unset, .unset, .unset, .unset] [] := by first | (simp [entryFrame, mkF, argsToLocals, Value.category, maxLocals]; done) | rfl
set_option maxRecDepth 65536 in
set_option maxHeartbeats 4000000 in
theorem sg108 {C : OCtx} {n0 : Nat} {ws : List Addr} {Q : Option Value → Heap → Prop} {h : Heap} {fb mb ln fg : Int32} {s4 s6 s9 s10 s12 : Slot} {m r : Addr} {ps ms : List Int32} {Z : State} {aa : Array Value} (G : OG Z aa) {N1 N2 : Nat} (hs4 : One s4) (hs6 : One s6) (hs9 : One s9) (hs10 : One s10) (hs12 : One s12) (lp : ps.length ≤ 64) (lm : ms.length ≤ 3) (cp : Ch ps) (cm : Ch ms) (V : SV Z h N1 r (RR ps ms)) (M : SV Z h N2 m ms) (K1 : ∀ h', SV Z h' N1 r (RR ps ms) → SV Z h' N2 m ms → Ext h h' → oRun C Z n0 i0 EL1 ws Q h' 42 672 (mkF C.m 165 #[.val (.int fb), .val (.int mb), .val (.int ln), .val (.int fg), s4, .val (.ref m), s6, .val (.ref r), .val (.int (Int32.ofNat ms.length)), s9, s10, .val (.int (Int32.ofNat ps.length)), .val (.int 1)] [])) : oRun C Z n0 i0 EL1 ws Q h 40 640 (mkF C.m 108 #[.val (.int fb), .val (.int mb), .val (.int ln), .val (.int fg), s4, .val (.ref m), s6, .val (.ref r), .val (.int (Int32.ofNat ms.length)), s9, s10, .val (.int (Int32.ofNat ps.length)), s12] []) := by
  obtain ⟨hw, hEL, ⟨cmp, hC, hc0⟩, ⟨fm, hfm, hF⟩⟩ := id G
  have hln := rr_len ps ms
  have hb : (RR ps ms).length < 2147483648 := by omega
  have hch := rr_ch cp cm
  refine s_aload (pc' := 110) at_108 rfl rfl rfl ?_
  refine s_nuN (pc' := 113) at_110 rfl ?_
  refine s_aload (pc' := 115) at_113 rfl rfl rfl ?_
  refine s_callV0 (rmsL C.l G n0 r _ (RR ps ms) _ V) (by simp) V.exa (hw _ (List.mem_of_getElem? (i := 162) rfl)) (hw _ (List.mem_of_getElem? (i := 79) rfl)) (hw _ (List.mem_of_getElem? (i := 81) rfl)) (hw _ (List.mem_of_getElem? (i := 80) rfl)) (o_nf (hw _ (List.mem_of_getElem? (i := 81) rfl)) rfl) (hw _ (List.mem_of_getElem? (i := 6) rfl)) (hw _ (List.mem_of_getElem? (i := 82) rfl)) (by decide) (o_len pdsL rfl) rfl (pc' := 118) at_115 rfl (Nat.le_of_ble_eq_true rfl) (Nat.le_of_ble_eq_true rfl) (Nat.le_of_ble_eq_true rfl) (Nat.le_of_ble_eq_true rfl) (fun v115 h115 hQ115 => ?_)
  obtain ⟨rfl, rfl⟩ := hQ115
  dsimp only [oPush]
  rw [rr_len]
  refine s_iload (pc' := 120) at_118 rfl rfl ?_
  refine s_bipush (x := (7 : Int32)) (pc' := 122) at_120 rfl rfl ?_
  refine s_iadd (pc' := 123) at_122 rfl ?_
  rw [n_add7]
  refine s_iload (pc' := 125) at_123 rfl rfl ?_
  refine s_iadd (pc' := 126) at_125 rfl ?_
  rw [n_add]
  refine s_icmp (pc' := 129) (pc'' := 131) at_126 rfl (by decide) rfl (fun hc126 => ?_) (fun hc126 => ?_)
  · replace hc126 := b_eq hc126
    refine s_aload (pc' := 133) at_131 rfl rfl rfl ?_
    refine s_iload (pc' := 135) at_133 rfl rfl ?_
    refine s_ldcS 28 (text := "error: ") (vs := (c7).map fun c => Value.int (byt c)) (z := Int32.ofNat (c7).length) (hw _ (List.mem_of_getElem? (i := 163) rfl)) (o_wS hw) hEL (by decide) ⟨by decide, by first | rfl | decide⟩ (by decide) rfl (pc' := 137) at_135 rfl (by decide) (by decide) (Nat.le_of_ble_eq_true rfl) (Nat.le_of_ble_eq_true rfl) (fun h135 a135 b135 k135 E135 X135 C135 V135 A135 N135 => ?_)
    have H135 : SV Z h135 h135.size a135 c7 := ⟨b135, k135, X135.lt, A135.lt, X135, C135, V135, A135⟩
    replace V := V.ext E135
    replace M := M.ext E135
    refine s_callS3 (rmea C.l G n0 r a135 _ _ ps.length (RR ps ms) c7 _ hb (by decide) hch ch_c7 (fun j z h => rr_e h) V H135) (by simp) (hw _ (List.mem_of_getElem? (i := 164) rfl)) (hw _ (List.mem_of_getElem? (i := 165) rfl)) (hw _ (List.mem_of_getElem? (i := 2) rfl)) (hw _ (List.mem_of_getElem? (i := 166) rfl)) (by decide) (o_len pdea rfl) rfl (pc' := 140) at_137 rfl (Nat.le_of_ble_eq_true rfl) (Nat.le_of_ble_eq_true rfl) (Nat.le_of_ble_eq_true rfl) (Nat.le_of_ble_eq_true rfl) (fun v137 h137 hQ137 => ?_)
    obtain ⟨rfl, rfl⟩ := hQ137
    dsimp only [oPush]
    refine s_if (pc' := 143) (pc'' := 162) at_140 rfl (by decide) rfl (fun hc140 => ?_) (fun hc140 => ?_)
    · replace hc140 := b_eq hc140
      exact absurd hc140 (by decide)
    · replace hc140 := b_eqF hc140
      refine s_aload (pc' := 145) at_143 rfl rfl rfl ?_
      refine s_iload (pc' := 147) at_145 rfl rfl ?_
      refine s_bipush (x := (7 : Int32)) (pc' := 149) at_147 rfl rfl ?_
      refine s_iadd (pc' := 150) at_149 rfl ?_
      rw [n_add7]
      refine s_aload (pc' := 152) at_150 rfl rfl rfl ?_
      refine s_callS3 (rmea C.l G n0 r m _ _ (ps.length + 7) (RR ps ms) ms _ hb (by omega) hch cm (fun j z h => rr_m h) V M) (by simp) (hw _ (List.mem_of_getElem? (i := 164) rfl)) (hw _ (List.mem_of_getElem? (i := 165) rfl)) (hw _ (List.mem_of_getElem? (i := 2) rfl)) (hw _ (List.mem_of_getElem? (i := 166) rfl)) (by decide) (o_len pdea rfl) rfl (pc' := 155) at_152 rfl (Nat.le_of_ble_eq_true rfl) (Nat.le_of_ble_eq_true rfl) (Nat.le_of_ble_eq_true rfl) (Nat.le_of_ble_eq_true rfl) (fun v152 h152 hQ152 => ?_)
      obtain ⟨rfl, rfl⟩ := hQ152
      dsimp only [oPush]
      refine s_if (pc' := 158) (pc'' := 162) at_155 rfl (by decide) rfl (fun hc155 => ?_) (fun hc155 => ?_)
      · replace hc155 := b_eq hc155
        exact absurd hc155 (by decide)
      · replace hc155 := b_eqF hc155
        refine s_iconst (x := (1 : Int32)) (pc' := 159) at_158 rfl rfl ?_
        refine s_goto (pc' := 163) at_159 (by decide) rfl ?_
        refine s_istore (pc' := 165) at_163 rfl (o_st rfl (by first | exact One.u | exact One.val rfl | assumption) rfl) ?_
        dsimp only [List.set_cons_succ, List.set_cons_zero]
        exact K1 _ V M (o_ext ⟨Nat.le_refl _, fun _ _ q => q⟩ E135)
  · replace hc126 := b_eqF hc126
    exact absurd rfl hc126
set_option maxRecDepth 65536 in
set_option maxHeartbeats 4000000 in
theorem rm0N (l : Launch) {Z : State} {a0 : Array Value} (G : OG Z a0) (n0 : Nat) (fb mb fg : Int32) (ln : Int32) (hf : ¬ (fg &&& 1) = 0) (h0 : Heap) : oCon l Z n0 EL1 [] x i0 #[.int fb, .int mb, .int ln, .int fg] h0 (fun v h => v = some (.int 1)) := by
  obtain ⟨hw, hEL, ⟨cmp, hC, hc0⟩, ⟨fm, hfm, hF⟩⟩ := id G
  refine oCon.mk hEL (plainFor_of_name pn0) rfl rfl (ef0 fb mb ln fg) fun C hCl => ?_
  refine s_iloadN (pc' := 1) at_0 rfl rfl ?_
  refine s_iconst (x := (1 : Int32)) (pc' := 2) at_1 rfl rfl ?_
  refine s_iand (pc' := 3) at_2 rfl ?_
  refine s_if (pc' := 6) (pc'' := 10) at_3 rfl (by decide) rfl (fun hc3 => ?_) (fun hc3 => ?_)
  · replace hc3 := b_eq hc3
    exact absurd hc3 hf
  · replace hc3 := b_eqF hc3
    refine s_null (pc' := 7) at_6 rfl ?_
    refine s_goto (pc' := 14) at_7 (by decide) rfl ?_
    refine s_astore (pc' := 16) at_14 rfl rfl (o_st rfl (by first | exact One.u | exact One.val rfl | assumption) rfl) ?_
    dsimp only [List.set_cons_succ, List.set_cons_zero]
    refine s_iloadN (pc' := 17) at_16 rfl rfl ?_
    refine s_callS1 (rmmk C.l G n0 mb _) (by simp) (hw _ (List.mem_of_getElem? (i := 0) rfl)) (hw _ (List.mem_of_getElem? (i := 1) rfl)) (hw _ (List.mem_of_getElem? (i := 2) rfl)) (hw _ (List.mem_of_getElem? (i := 3) rfl)) (by decide) (o_len pdmk rfl) rfl (pc' := 20) at_17 rfl (Nat.le_of_ble_eq_true rfl) (Nat.le_of_ble_eq_true rfl) (Nat.le_of_ble_eq_true rfl) (Nat.le_of_ble_eq_true rfl) (fun v17 h17 hQ17 => ?_)
    obtain ⟨m17, ms, rfl, E17, M17, lm, cm⟩ := hQ17
    dsimp only [oPush]
    refine s_astore (pc' := 22) at_20 rfl rfl (o_st rfl (by first | exact One.u | exact One.val rfl | assumption) rfl) ?_
    dsimp only [List.set_cons_succ, List.set_cons_zero]
    refine s_new (hw _ (List.mem_of_getElem? (i := 26) rfl)) (hw _ (List.mem_of_getElem? (i := 27) rfl)) (hw _ (List.mem_of_getElem? (i := 28) rfl)) (pc' := 25) at_22 rfl (Nat.le_of_ble_eq_true rfl) (Nat.le_of_ble_eq_true rfl) (fun h22 b22 g22 nb22 E22 A22 D22 => ?_)
    replace M17 := M17
    have M17b := M17
    refine s_dup (pc' := 26) at_25 rfl rfl ?_
    refine s_aload (pc' := 28) at_26 rfl rfl rfl ?_
    refine s_iloadN (pc' := 29) at_28 rfl rfl ?_
    refine s_aload (pc' := 31) at_29 rfl rfl rfl ?_
    refine s_callI3 (rmpN C.l G n0 b22 m17 ln _ A22 (D22 (Or.inr (hw _ (List.mem_of_getElem? (i := 39) rfl))) (ty := (.object "java/lang/String")) (by decide)) (D22 (Or.inr (hw _ (List.mem_of_getElem? (i := 41) rfl))) (ty := .int) (by decide)) (D22 (Or.inr (hw _ (List.mem_of_getElem? (i := 43) rfl))) (ty := (.object "java/lang/String")) (by decide)) nb22) (by simp) rfl rfl (hw _ (List.mem_of_getElem? (i := 29) rfl)) (hw _ (List.mem_of_getElem? (i := 30) rfl)) (hw _ (List.mem_of_getElem? (i := 28) rfl)) (hw _ (List.mem_of_getElem? (i := 31) rfl)) (by decide) (o_len pdpi rfl) rfl (pc' := 34) at_31 rfl (Nat.le_of_ble_eq_true rfl) (Nat.le_of_ble_eq_true rfl) (Nat.le_of_ble_eq_true rfl) (Nat.le_of_ble_eq_true rfl) (fun v31 h31 hQ31 => ?_)
    obtain ⟨rfl, K31, X31, F0, F1, F2⟩ := hQ31
    dsimp only [oPush]
    have EE := o_extKeep E22 K31 (allS (Nat.le_of_eq g22.symm) all0)
    replace M17 := (M17.ext EE).mono EE.1
    refine s_old fun OL => ?_
    refine s_astore (pc' := 36) at_34 rfl rfl (o_st rfl (by first | exact One.u | exact One.val rfl | assumption) rfl) ?_
    dsimp only [List.set_cons_succ, List.set_cons_zero]
    refine s_aload (pc' := 38) at_36 rfl rfl rfl ?_
    refine s_callV0 (rmtN C.l G n0 b22 m17 ms lm ln _ (o_le OL) F0 F1 F2 M17) (by simp) X31 (hw _ (List.mem_of_getElem? (i := 44) rfl)) (hw _ (List.mem_of_getElem? (i := 45) rfl)) (hw _ (List.mem_of_getElem? (i := 47) rfl)) (hw _ (List.mem_of_getElem? (i := 46) rfl)) (o_nf (hw _ (List.mem_of_getElem? (i := 47) rfl)) rfl) (hw _ (List.mem_of_getElem? (i := 28) rfl)) (hw _ (List.mem_of_getElem? (i := 48) rfl)) (by decide) (o_len pdpt rfl) rfl (pc' := 41) at_38 rfl (Nat.le_of_ble_eq_true rfl) (Nat.le_of_ble_eq_true rfl) (Nat.le_of_ble_eq_true rfl) (Nat.le_of_ble_eq_true rfl) (fun v38 h38 hQ38 => ?_)
    obtain ⟨r, rfl, E38, V⟩ := hQ38
    dsimp only [oPush]
    replace M17 := M17.ext E38
    refine s_astore (pc' := 43) at_41 rfl rfl (o_st rfl (by first | exact One.u | exact One.val rfl | assumption) rfl) ?_
    dsimp only [List.set_cons_succ, List.set_cons_zero]
    refine s_aload (pc' := 45) at_43 rfl rfl rfl ?_
    refine s_callV0 (rmsL C.l G n0 m17 _ ms _ M17) (by simp) M17.exa (hw _ (List.mem_of_getElem? (i := 162) rfl)) (hw _ (List.mem_of_getElem? (i := 79) rfl)) (hw _ (List.mem_of_getElem? (i := 81) rfl)) (hw _ (List.mem_of_getElem? (i := 80) rfl)) (o_nf (hw _ (List.mem_of_getElem? (i := 81) rfl)) rfl) (hw _ (List.mem_of_getElem? (i := 6) rfl)) (hw _ (List.mem_of_getElem? (i := 82) rfl)) (by decide) (o_len pdsL rfl) rfl (pc' := 48) at_45 rfl (Nat.le_of_ble_eq_true rfl) (Nat.le_of_ble_eq_true rfl) (Nat.le_of_ble_eq_true rfl) (Nat.le_of_ble_eq_true rfl) (fun v45 h45 hQ45 => ?_)
    obtain ⟨rfl, rfl⟩ := hQ45
    dsimp only [oPush]
    refine s_istore (pc' := 50) at_48 rfl (o_st rfl (by first | exact One.u | exact One.val rfl | assumption) rfl) ?_
    dsimp only [List.set_cons_succ, List.set_cons_zero]
    refine s_aload (pc' := 52) at_50 rfl rfl rfl ?_
    refine s_nnN (pc' := 55) at_52 rfl ?_
    refine s_iconst (x := (0 : Int32)) (pc' := 56) at_55 rfl rfl ?_
    refine s_goto (pc' := 64) at_56 (by decide) rfl ?_
    refine s_istore (pc' := 66) at_64 rfl (o_st rfl (by first | exact One.u | exact One.val rfl | assumption) rfl) ?_
    dsimp only [List.set_cons_succ, List.set_cons_zero]
    refine s_iconst (x := (0 : Int32)) (pc' := 67) at_66 rfl rfl ?_
    refine s_istore (pc' := 69) at_67 rfl (o_st rfl (by first | exact One.u | exact One.val rfl | assumption) rfl) ?_
    dsimp only [List.set_cons_succ, List.set_cons_zero]
    refine s_aload (pc' := 71) at_69 rfl rfl rfl ?_
    refine s_nnN (pc' := 74) at_71 rfl ?_
    refine s_iconst (x := (0 : Int32)) (pc' := 75) at_74 rfl rfl ?_
    refine s_istore (pc' := 77) at_75 rfl (o_st rfl (by first | exact One.u | exact One.val rfl | assumption) rfl) ?_
    dsimp only [List.set_cons_succ, List.set_cons_zero]
    refine s_goto (pc' := 108) at_77 (by decide) rfl ?_
    refine s_more (cs' := 40) (sl' := 640) (Nat.le_of_ble_eq_true rfl) (Nat.le_of_ble_eq_true rfl) ?_
    refine sg108 G (ps := ([] : List Int32)) (ms := ms) (One.val rfl) (One.val rfl) (One.val rfl) (One.val rfl) One.u (by decide) lm ch_nil cm V M17 fun h6 V6 M6 E6 => ?_
    refine s_aload (pc' := 167) at_165 rfl rfl rfl ?_
    refine s_nuY (pc' := 299) at_167 (by decide) rfl ?_
    refine s_iload (pc' := 301) at_299 rfl rfl ?_
    exact s_nret (t := .boolean) rfl (by simp) at_301 (Nat.le_of_ble_eq_true rfl) (Nat.le_of_ble_eq_true rfl) rfl
set_option maxRecDepth 65536 in
set_option maxHeartbeats 4000000 in
theorem rm0P (l : Launch) {Z : State} {a0 : Array Value} (G : OG Z a0) (n0 : Nat) (fb mb fg : Int32) (n : Nat) (hn : n < 2147483648) (hpos : 0 < n) (hf : (fg &&& 1) = 0) (TT : TBS Z) (h0 : Heap) : oCon l Z n0 EL1 [] x i0 #[.int fb, .int mb, .int (Int32.ofNat n), .int fg] h0 (fun v h => v = some (.int 1)) := by
  obtain ⟨hw, hEL, ⟨cmp, hC, hc0⟩, ⟨fm, hfm, hF⟩⟩ := id G
  have hdg := dg_r n
  refine oCon.mk hEL (plainFor_of_name pn0) rfl rfl (ef0 fb mb (Int32.ofNat n) fg) fun C hCl => ?_
  refine s_iloadN (pc' := 1) at_0 rfl rfl ?_
  refine s_iconst (x := (1 : Int32)) (pc' := 2) at_1 rfl rfl ?_
  refine s_iand (pc' := 3) at_2 rfl ?_
  refine s_if (pc' := 6) (pc'' := 10) at_3 rfl (by decide) rfl (fun hc3 => ?_) (fun hc3 => ?_)
  · replace hc3 := b_eq hc3
    refine s_iloadN (pc' := 11) at_10 rfl rfl ?_
    refine s_callS1 (rmmk C.l G n0 fb _) (by simp) (hw _ (List.mem_of_getElem? (i := 0) rfl)) (hw _ (List.mem_of_getElem? (i := 1) rfl)) (hw _ (List.mem_of_getElem? (i := 2) rfl)) (hw _ (List.mem_of_getElem? (i := 3) rfl)) (by decide) (o_len pdmk rfl) rfl (pc' := 14) at_11 rfl (Nat.le_of_ble_eq_true rfl) (Nat.le_of_ble_eq_true rfl) (Nat.le_of_ble_eq_true rfl) (Nat.le_of_ble_eq_true rfl) (fun v11 h11 hQ11 => ?_)
    obtain ⟨m11, fs, rfl, E11, M11, lf, cf⟩ := hQ11
    dsimp only [oPush]
    refine s_astore (pc' := 16) at_14 rfl rfl (o_st rfl (by first | exact One.u | exact One.val rfl | assumption) rfl) ?_
    dsimp only [List.set_cons_succ, List.set_cons_zero]
    refine s_iloadN (pc' := 17) at_16 rfl rfl ?_
    refine s_callS1 (rmmk C.l G n0 mb _) (by simp) (hw _ (List.mem_of_getElem? (i := 0) rfl)) (hw _ (List.mem_of_getElem? (i := 1) rfl)) (hw _ (List.mem_of_getElem? (i := 2) rfl)) (hw _ (List.mem_of_getElem? (i := 3) rfl)) (by decide) (o_len pdmk rfl) rfl (pc' := 20) at_17 rfl (Nat.le_of_ble_eq_true rfl) (Nat.le_of_ble_eq_true rfl) (Nat.le_of_ble_eq_true rfl) (Nat.le_of_ble_eq_true rfl) (fun v17 h17 hQ17 => ?_)
    obtain ⟨m17, ms, rfl, E17, M17, lm, cm⟩ := hQ17
    dsimp only [oPush]
    replace M11 := (M11.ext E17).mono E17.1
    refine s_astore (pc' := 22) at_20 rfl rfl (o_st rfl (by first | exact One.u | exact One.val rfl | assumption) rfl) ?_
    dsimp only [List.set_cons_succ, List.set_cons_zero]
    refine s_new (hw _ (List.mem_of_getElem? (i := 26) rfl)) (hw _ (List.mem_of_getElem? (i := 27) rfl)) (hw _ (List.mem_of_getElem? (i := 28) rfl)) (pc' := 25) at_22 rfl (Nat.le_of_ble_eq_true rfl) (Nat.le_of_ble_eq_true rfl) (fun h22 b22 g22 nb22 E22 A22 D22 => ?_)
    replace M17 := M17
    have M17b := M17
    refine s_dup (pc' := 26) at_25 rfl rfl ?_
    refine s_aload (pc' := 28) at_26 rfl rfl rfl ?_
    refine s_iloadN (pc' := 29) at_28 rfl rfl ?_
    refine s_aload (pc' := 31) at_29 rfl rfl rfl ?_
    refine s_callI3 (rmpi C.l G n0 b22 m11 m17 (Int32.ofNat n) _ A22 (D22 (Or.inr (hw _ (List.mem_of_getElem? (i := 39) rfl))) (ty := (.object "java/lang/String")) (by decide)) (D22 (Or.inr (hw _ (List.mem_of_getElem? (i := 41) rfl))) (ty := .int) (by decide)) (D22 (Or.inr (hw _ (List.mem_of_getElem? (i := 43) rfl))) (ty := (.object "java/lang/String")) (by decide)) nb22) (by simp) rfl rfl (hw _ (List.mem_of_getElem? (i := 29) rfl)) (hw _ (List.mem_of_getElem? (i := 30) rfl)) (hw _ (List.mem_of_getElem? (i := 28) rfl)) (hw _ (List.mem_of_getElem? (i := 31) rfl)) (by decide) (o_len pdpi rfl) rfl (pc' := 34) at_31 rfl (Nat.le_of_ble_eq_true rfl) (Nat.le_of_ble_eq_true rfl) (Nat.le_of_ble_eq_true rfl) (Nat.le_of_ble_eq_true rfl) (fun v31 h31 hQ31 => ?_)
    obtain ⟨rfl, K31, X31, F0, F1, F2⟩ := hQ31
    dsimp only [oPush]
    have EE := o_extKeep E22 K31 (allS (Nat.le_of_eq g22.symm) all0)
    replace M17 := (M17.ext EE).mono EE.1
    refine s_old fun OL => ?_
    replace M11 := (M11.ext EE).mono EE.1
    refine s_astore (pc' := 36) at_34 rfl rfl (o_st rfl (by first | exact One.u | exact One.val rfl | assumption) rfl) ?_
    dsimp only [List.set_cons_succ, List.set_cons_zero]
    refine s_aload (pc' := 38) at_36 rfl rfl rfl ?_
    refine s_callV0 (rmtP C.l G n0 b22 m17 ms lm m11 n hn hpos fs lf TT _ (o_le OL) F0 F1 F2 M17 M11) (by simp) X31 (hw _ (List.mem_of_getElem? (i := 44) rfl)) (hw _ (List.mem_of_getElem? (i := 45) rfl)) (hw _ (List.mem_of_getElem? (i := 47) rfl)) (hw _ (List.mem_of_getElem? (i := 46) rfl)) (o_nf (hw _ (List.mem_of_getElem? (i := 47) rfl)) rfl) (hw _ (List.mem_of_getElem? (i := 28) rfl)) (hw _ (List.mem_of_getElem? (i := 48) rfl)) (by decide) (o_len pdpt rfl) rfl (pc' := 41) at_38 rfl (Nat.le_of_ble_eq_true rfl) (Nat.le_of_ble_eq_true rfl) (Nat.le_of_ble_eq_true rfl) (Nat.le_of_ble_eq_true rfl) (fun v38 h38 hQ38 => ?_)
    obtain ⟨r, rfl, E38, V⟩ := hQ38
    dsimp only [oPush]
    replace M17 := M17.ext E38
    replace M11 := M11.ext E38
    refine s_astore (pc' := 43) at_41 rfl rfl (o_st rfl (by first | exact One.u | exact One.val rfl | assumption) rfl) ?_
    dsimp only [List.set_cons_succ, List.set_cons_zero]
    refine s_aload (pc' := 45) at_43 rfl rfl rfl ?_
    refine s_callV0 (rmsL C.l G n0 m17 _ ms _ M17) (by simp) M17.exa (hw _ (List.mem_of_getElem? (i := 162) rfl)) (hw _ (List.mem_of_getElem? (i := 79) rfl)) (hw _ (List.mem_of_getElem? (i := 81) rfl)) (hw _ (List.mem_of_getElem? (i := 80) rfl)) (o_nf (hw _ (List.mem_of_getElem? (i := 81) rfl)) rfl) (hw _ (List.mem_of_getElem? (i := 6) rfl)) (hw _ (List.mem_of_getElem? (i := 82) rfl)) (by decide) (o_len pdsL rfl) rfl (pc' := 48) at_45 rfl (Nat.le_of_ble_eq_true rfl) (Nat.le_of_ble_eq_true rfl) (Nat.le_of_ble_eq_true rfl) (Nat.le_of_ble_eq_true rfl) (fun v45 h45 hQ45 => ?_)
    obtain ⟨rfl, rfl⟩ := hQ45
    dsimp only [oPush]
    refine s_istore (pc' := 50) at_48 rfl (o_st rfl (by first | exact One.u | exact One.val rfl | assumption) rfl) ?_
    dsimp only [List.set_cons_succ, List.set_cons_zero]
    refine s_aload (pc' := 52) at_50 rfl rfl rfl ?_
    refine s_nnY (pc' := 59) at_52 (by decide) rfl ?_
    refine s_aload (pc' := 61) at_59 rfl rfl rfl ?_
    refine s_callV0 (rmsL C.l G n0 m11 _ fs _ M11) (by simp) M11.exa (hw _ (List.mem_of_getElem? (i := 162) rfl)) (hw _ (List.mem_of_getElem? (i := 79) rfl)) (hw _ (List.mem_of_getElem? (i := 81) rfl)) (hw _ (List.mem_of_getElem? (i := 80) rfl)) (o_nf (hw _ (List.mem_of_getElem? (i := 81) rfl)) rfl) (hw _ (List.mem_of_getElem? (i := 6) rfl)) (hw _ (List.mem_of_getElem? (i := 82) rfl)) (by decide) (o_len pdsL rfl) rfl (pc' := 64) at_61 rfl (Nat.le_of_ble_eq_true rfl) (Nat.le_of_ble_eq_true rfl) (Nat.le_of_ble_eq_true rfl) (Nat.le_of_ble_eq_true rfl) (fun v61 h61 hQ61 => ?_)
    obtain ⟨rfl, rfl⟩ := hQ61
    dsimp only [oPush]
    refine s_istore (pc' := 66) at_64 rfl (o_st rfl (by first | exact One.u | exact One.val rfl | assumption) rfl) ?_
    dsimp only [List.set_cons_succ, List.set_cons_zero]
    refine s_iconst (x := (0 : Int32)) (pc' := 67) at_66 rfl rfl ?_
    refine s_istore (pc' := 69) at_67 rfl (o_st rfl (by first | exact One.u | exact One.val rfl | assumption) rfl) ?_
    dsimp only [List.set_cons_succ, List.set_cons_zero]
    refine s_aload (pc' := 71) at_69 rfl rfl rfl ?_
    refine s_nnY (pc' := 80) at_71 (by decide) rfl ?_
    refine s_iloadN (pc' := 81) at_80 rfl rfl ?_
    refine s_if (pc' := 84) (pc'' := 102) at_81 rfl (by decide) rfl (fun hc81 => ?_) (fun hc81 => ?_)
    · replace hc81 := b_le hc81
      exact absurd ((n_lt (a := 0) (by decide) hn).mpr hpos) hc81
    · replace hc81 := b_leF hc81
      refine s_iloadN (pc' := 85) at_84 rfl rfl ?_
      refine s_callS1 (rmdg C.l G n0 _ _) (by simp) (hw _ (List.mem_of_getElem? (i := 212) rfl)) (hw _ (List.mem_of_getElem? (i := 213) rfl)) (hw _ (List.mem_of_getElem? (i := 2) rfl)) (hw _ (List.mem_of_getElem? (i := 214) rfl)) (by decide) (o_len pddg rfl) rfl (pc' := 88) at_85 rfl (Nat.le_of_ble_eq_true rfl) (Nat.le_of_ble_eq_true rfl) (Nat.le_of_ble_eq_true rfl) (Nat.le_of_ble_eq_true rfl) (fun v85 h85 hQ85 => ?_)
      obtain ⟨rfl, rfl⟩ := hQ85
      dsimp only [oPush]
      rw [dgV_eq hn]
      refine s_istore (pc' := 90) at_88 rfl (o_st rfl (by first | exact One.u | exact One.val rfl | assumption) rfl) ?_
      dsimp only [List.set_cons_succ, List.set_cons_zero]
      refine s_iload (pc' := 92) at_90 rfl rfl ?_
      refine s_iconst (x := (3 : Int32)) (pc' := 93) at_92 rfl rfl ?_
      refine s_iadd (pc' := 94) at_93 rfl ?_
      refine s_iload (pc' := 96) at_94 rfl rfl ?_
      refine s_iadd (pc' := 97) at_96 rfl ?_
      rw [n_add3, n_add, ← pp_len]
      refine s_istore (pc' := 99) at_97 rfl (o_st rfl (by first | exact One.u | exact One.val rfl | assumption) rfl) ?_
      dsimp only [List.set_cons_succ, List.set_cons_zero]
      refine s_goto (pc' := 108) at_99 (by decide) rfl ?_
      refine s_more (cs' := 40) (sl' := 640) (Nat.le_of_ble_eq_true rfl) (Nat.le_of_ble_eq_true rfl) ?_
      refine sg108 G (ps := (PP fs n)) (ms := ms) (One.val rfl) (One.val rfl) (One.val rfl) (One.val rfl) One.u (by rw [pp_len]; omega) lm (pp_ch cf n) cm V M17 fun h6 V6 M6 E6 => ?_
      have hb : (RR (PP fs n) ms).length < 2147483648 := by rw [rr_len, pp_len]; omega
      have hch := rr_ch (pp_ch cf n) cm
      refine s_aload (pc' := 167) at_165 rfl rfl rfl ?_
      refine s_nuN (pc' := 170) at_167 rfl ?_
      refine s_iload (pc' := 172) at_170 rfl rfl ?_
      refine s_if (pc' := 175) (pc'' := 202) at_172 rfl (by decide) rfl (fun hc172 => ?_) (fun hc172 => ?_)
      · replace hc172 := b_eq hc172
        exact absurd hc172 (by decide)
      · replace hc172 := b_eqF hc172
        refine s_aload (pc' := 177) at_175 rfl rfl rfl ?_
        refine s_iconst (x := (0 : Int32)) (pc' := 178) at_177 rfl rfl ?_
        refine s_aload (pc' := 180) at_178 rfl rfl rfl ?_
        refine s_callS3 (rmea C.l G n0 r m11 _ _ 0 (RR (PP fs n) ms) fs _ hb (by omega) hch cf (fun j z h => rr_p (pp_f h)) V6 (M11.ext E6)) (by simp) (hw _ (List.mem_of_getElem? (i := 164) rfl)) (hw _ (List.mem_of_getElem? (i := 165) rfl)) (hw _ (List.mem_of_getElem? (i := 2) rfl)) (hw _ (List.mem_of_getElem? (i := 166) rfl)) (by decide) (o_len pdea rfl) rfl (pc' := 183) at_180 rfl (Nat.le_of_ble_eq_true rfl) (Nat.le_of_ble_eq_true rfl) (Nat.le_of_ble_eq_true rfl) (Nat.le_of_ble_eq_true rfl) (fun v180 h180 hQ180 => ?_)
        obtain ⟨rfl, rfl⟩ := hQ180
        dsimp only [oPush]
        refine s_if (pc' := 186) (pc'' := 202) at_183 rfl (by decide) rfl (fun hc183 => ?_) (fun hc183 => ?_)
        · replace hc183 := b_eq hc183
          exact absurd hc183 (by decide)
        · replace hc183 := b_eqF hc183
          refine s_aload (pc' := 188) at_186 rfl rfl rfl ?_
          refine s_iload (pc' := 190) at_188 rfl rfl ?_
          refine s_callV1 (rmsH C.l G n0 r _ (RR (PP fs n) ms) fs.length 58 _ hb hch (rr_p (pp_c fs n)) V6) (by simp) V6.exa (hw _ (List.mem_of_getElem? (i := 170) rfl)) (hw _ (List.mem_of_getElem? (i := 171) rfl)) (hw _ (List.mem_of_getElem? (i := 173) rfl)) (hw _ (List.mem_of_getElem? (i := 172) rfl)) (o_nf (hw _ (List.mem_of_getElem? (i := 173) rfl)) rfl) (hw _ (List.mem_of_getElem? (i := 6) rfl)) (hw _ (List.mem_of_getElem? (i := 174) rfl)) (by decide) (o_len pdsH rfl) rfl (pc' := 193) at_190 rfl (Nat.le_of_ble_eq_true rfl) (Nat.le_of_ble_eq_true rfl) (Nat.le_of_ble_eq_true rfl) (Nat.le_of_ble_eq_true rfl) (fun v190 h190 hQ190 => ?_)
          obtain ⟨rfl, rfl⟩ := hQ190
          dsimp only [oPush]
          refine s_bipush (x := (58 : Int32)) (pc' := 195) at_193 rfl rfl ?_
          refine s_icmp (pc' := 198) (pc'' := 202) at_195 rfl (by decide) rfl (fun hc195 => ?_) (fun hc195 => ?_)
          · replace hc195 := b_ne hc195
            exact absurd rfl hc195
          · replace hc195 := b_neF hc195
            refine s_iconst (x := (1 : Int32)) (pc' := 199) at_198 rfl rfl ?_
            refine s_goto (pc' := 203) at_199 (by decide) rfl ?_
            refine s_istore (pc' := 205) at_203 rfl (o_st rfl (by first | exact One.u | exact One.val rfl | assumption) rfl) ?_
            dsimp only [List.set_cons_succ, List.set_cons_zero]
            refine s_iloadN (pc' := 206) at_205 rfl rfl ?_
            refine s_if (pc' := 209) (pc'' := 273) at_206 rfl (by decide) rfl (fun hc206 => ?_) (fun hc206 => ?_)
            · replace hc206 := b_le hc206
              exact absurd ((n_lt (a := 0) (by decide) hn).mpr hpos) hc206
            · replace hc206 := b_leF hc206
              refine s_iload (pc' := 211) at_209 rfl rfl ?_
              refine s_if (pc' := 214) (pc'' := 267) at_211 rfl (by decide) rfl (fun hc211 => ?_) (fun hc211 => ?_)
              · replace hc211 := b_eq hc211
                exact absurd hc211 (by decide)
              · replace hc211 := b_eqF hc211
                refine s_aload (pc' := 216) at_214 rfl rfl rfl ?_
                refine s_iload (pc' := 218) at_216 rfl rfl ?_
                refine s_iconst (x := (1 : Int32)) (pc' := 219) at_218 rfl rfl ?_
                refine s_iadd (pc' := 220) at_219 rfl ?_
                rw [n_succ]
                refine s_iloadN (pc' := 221) at_220 rfl rfl ?_
                refine s_iload (pc' := 223) at_221 rfl rfl ?_
                refine s_callS4 (rmda C.l G n0 r _ (fs.length + 1) n (RR (PP fs n) ms) _ hn hb hch (fun j z h => rr_p (pp_d h)) V6) (by simp) (hw _ (List.mem_of_getElem? (i := 215) rfl)) (hw _ (List.mem_of_getElem? (i := 216) rfl)) (hw _ (List.mem_of_getElem? (i := 2) rfl)) (hw _ (List.mem_of_getElem? (i := 217) rfl)) (by decide) (o_len pdda rfl) rfl (pc' := 226) at_223 rfl (Nat.le_of_ble_eq_true rfl) (Nat.le_of_ble_eq_true rfl) (Nat.le_of_ble_eq_true rfl) (Nat.le_of_ble_eq_true rfl) (fun v223 h223 hQ223 => ?_)
                obtain ⟨rfl, rfl⟩ := hQ223
                dsimp only [oPush]
                refine s_if (pc' := 229) (pc'' := 267) at_226 rfl (by decide) rfl (fun hc226 => ?_) (fun hc226 => ?_)
                · replace hc226 := b_eq hc226
                  exact absurd hc226 (by decide)
                · replace hc226 := b_eqF hc226
                  refine s_aload (pc' := 231) at_229 rfl rfl rfl ?_
                  refine s_iload (pc' := 233) at_231 rfl rfl ?_
                  refine s_iconst (x := (1 : Int32)) (pc' := 234) at_233 rfl rfl ?_
                  refine s_iadd (pc' := 235) at_234 rfl ?_
                  rw [n_succ]
                  refine s_iload (pc' := 237) at_235 rfl rfl ?_
                  refine s_iadd (pc' := 238) at_237 rfl ?_
                  rw [n_add]
                  refine s_callV1 (rmsH C.l G n0 r _ (RR (PP fs n) ms) (fs.length + 1 + dg n) 58 _ hb hch (rr_p (pp_2 fs n (j := 0) rfl)) V6) (by simp) V6.exa (hw _ (List.mem_of_getElem? (i := 170) rfl)) (hw _ (List.mem_of_getElem? (i := 171) rfl)) (hw _ (List.mem_of_getElem? (i := 173) rfl)) (hw _ (List.mem_of_getElem? (i := 172) rfl)) (o_nf (hw _ (List.mem_of_getElem? (i := 173) rfl)) rfl) (hw _ (List.mem_of_getElem? (i := 6) rfl)) (hw _ (List.mem_of_getElem? (i := 174) rfl)) (by decide) (o_len pdsH rfl) rfl (pc' := 241) at_238 rfl (Nat.le_of_ble_eq_true rfl) (Nat.le_of_ble_eq_true rfl) (Nat.le_of_ble_eq_true rfl) (Nat.le_of_ble_eq_true rfl) (fun v238 h238 hQ238 => ?_)
                  obtain ⟨rfl, rfl⟩ := hQ238
                  dsimp only [oPush]
                  refine s_bipush (x := (58 : Int32)) (pc' := 243) at_241 rfl rfl ?_
                  refine s_icmp (pc' := 246) (pc'' := 267) at_243 rfl (by decide) rfl (fun hc243 => ?_) (fun hc243 => ?_)
                  · replace hc243 := b_ne hc243
                    exact absurd rfl hc243
                  · replace hc243 := b_neF hc243
                    refine s_aload (pc' := 248) at_246 rfl rfl rfl ?_
                    refine s_iload (pc' := 250) at_248 rfl rfl ?_
                    refine s_iconst (x := (2 : Int32)) (pc' := 251) at_250 rfl rfl ?_
                    refine s_iadd (pc' := 252) at_251 rfl ?_
                    rw [n_add2]
                    refine s_iload (pc' := 254) at_252 rfl rfl ?_
                    refine s_iadd (pc' := 255) at_254 rfl ?_
                    rw [n_add, show fs.length + 2 + dg n = fs.length + 1 + dg n + 1 by omega]
                    refine s_callV1 (rmsH C.l G n0 r _ (RR (PP fs n) ms) (fs.length + 1 + dg n + 1) 32 _ hb hch (rr_p (pp_2 fs n (j := 1) rfl)) V6) (by simp) V6.exa (hw _ (List.mem_of_getElem? (i := 170) rfl)) (hw _ (List.mem_of_getElem? (i := 171) rfl)) (hw _ (List.mem_of_getElem? (i := 173) rfl)) (hw _ (List.mem_of_getElem? (i := 172) rfl)) (o_nf (hw _ (List.mem_of_getElem? (i := 173) rfl)) rfl) (hw _ (List.mem_of_getElem? (i := 6) rfl)) (hw _ (List.mem_of_getElem? (i := 174) rfl)) (by decide) (o_len pdsH rfl) rfl (pc' := 258) at_255 rfl (Nat.le_of_ble_eq_true rfl) (Nat.le_of_ble_eq_true rfl) (Nat.le_of_ble_eq_true rfl) (Nat.le_of_ble_eq_true rfl) (fun v255 h255 hQ255 => ?_)
                    obtain ⟨rfl, rfl⟩ := hQ255
                    dsimp only [oPush]
                    refine s_bipush (x := (32 : Int32)) (pc' := 260) at_258 rfl rfl ?_
                    refine s_icmp (pc' := 263) (pc'' := 267) at_260 rfl (by decide) rfl (fun hc260 => ?_) (fun hc260 => ?_)
                    · replace hc260 := b_ne hc260
                      exact absurd rfl hc260
                    · replace hc260 := b_neF hc260
                      refine s_iconst (x := (1 : Int32)) (pc' := 264) at_263 rfl rfl ?_
                      refine s_goto (pc' := 268) at_264 (by decide) rfl ?_
                      refine s_istore (pc' := 270) at_268 rfl (o_st rfl (by first | exact One.u | exact One.val rfl | assumption) rfl) ?_
                      dsimp only [List.set_cons_succ, List.set_cons_zero]
                      refine s_goto (pc' := 299) at_270 (by decide) rfl ?_
                      refine s_iload (pc' := 301) at_299 rfl rfl ?_
                      exact s_nret (t := .boolean) rfl (by simp) at_301 (Nat.le_of_ble_eq_true rfl) (Nat.le_of_ble_eq_true rfl) rfl
  · replace hc3 := b_eqF hc3
    exact absurd hf hc3
set_option maxRecDepth 65536 in
set_option maxHeartbeats 4000000 in
theorem rm0Z (l : Launch) {Z : State} {a0 : Array Value} (G : OG Z a0) (n0 : Nat) (fb mb fg : Int32) (ln : Int32) (hz : ¬ 0 < ln) (hf : (fg &&& 1) = 0) (h0 : Heap) : oCon l Z n0 EL1 [] x i0 #[.int fb, .int mb, .int ln, .int fg] h0 (fun v h => v = some (.int 1)) := by
  obtain ⟨hw, hEL, ⟨cmp, hC, hc0⟩, ⟨fm, hfm, hF⟩⟩ := id G
  refine oCon.mk hEL (plainFor_of_name pn0) rfl rfl (ef0 fb mb ln fg) fun C hCl => ?_
  refine s_iloadN (pc' := 1) at_0 rfl rfl ?_
  refine s_iconst (x := (1 : Int32)) (pc' := 2) at_1 rfl rfl ?_
  refine s_iand (pc' := 3) at_2 rfl ?_
  refine s_if (pc' := 6) (pc'' := 10) at_3 rfl (by decide) rfl (fun hc3 => ?_) (fun hc3 => ?_)
  · replace hc3 := b_eq hc3
    refine s_iloadN (pc' := 11) at_10 rfl rfl ?_
    refine s_callS1 (rmmk C.l G n0 fb _) (by simp) (hw _ (List.mem_of_getElem? (i := 0) rfl)) (hw _ (List.mem_of_getElem? (i := 1) rfl)) (hw _ (List.mem_of_getElem? (i := 2) rfl)) (hw _ (List.mem_of_getElem? (i := 3) rfl)) (by decide) (o_len pdmk rfl) rfl (pc' := 14) at_11 rfl (Nat.le_of_ble_eq_true rfl) (Nat.le_of_ble_eq_true rfl) (Nat.le_of_ble_eq_true rfl) (Nat.le_of_ble_eq_true rfl) (fun v11 h11 hQ11 => ?_)
    obtain ⟨m11, fs, rfl, E11, M11, lf, cf⟩ := hQ11
    dsimp only [oPush]
    refine s_astore (pc' := 16) at_14 rfl rfl (o_st rfl (by first | exact One.u | exact One.val rfl | assumption) rfl) ?_
    dsimp only [List.set_cons_succ, List.set_cons_zero]
    refine s_iloadN (pc' := 17) at_16 rfl rfl ?_
    refine s_callS1 (rmmk C.l G n0 mb _) (by simp) (hw _ (List.mem_of_getElem? (i := 0) rfl)) (hw _ (List.mem_of_getElem? (i := 1) rfl)) (hw _ (List.mem_of_getElem? (i := 2) rfl)) (hw _ (List.mem_of_getElem? (i := 3) rfl)) (by decide) (o_len pdmk rfl) rfl (pc' := 20) at_17 rfl (Nat.le_of_ble_eq_true rfl) (Nat.le_of_ble_eq_true rfl) (Nat.le_of_ble_eq_true rfl) (Nat.le_of_ble_eq_true rfl) (fun v17 h17 hQ17 => ?_)
    obtain ⟨m17, ms, rfl, E17, M17, lm, cm⟩ := hQ17
    dsimp only [oPush]
    replace M11 := (M11.ext E17).mono E17.1
    refine s_astore (pc' := 22) at_20 rfl rfl (o_st rfl (by first | exact One.u | exact One.val rfl | assumption) rfl) ?_
    dsimp only [List.set_cons_succ, List.set_cons_zero]
    refine s_new (hw _ (List.mem_of_getElem? (i := 26) rfl)) (hw _ (List.mem_of_getElem? (i := 27) rfl)) (hw _ (List.mem_of_getElem? (i := 28) rfl)) (pc' := 25) at_22 rfl (Nat.le_of_ble_eq_true rfl) (Nat.le_of_ble_eq_true rfl) (fun h22 b22 g22 nb22 E22 A22 D22 => ?_)
    replace M17 := M17
    have M17b := M17
    refine s_dup (pc' := 26) at_25 rfl rfl ?_
    refine s_aload (pc' := 28) at_26 rfl rfl rfl ?_
    refine s_iloadN (pc' := 29) at_28 rfl rfl ?_
    refine s_aload (pc' := 31) at_29 rfl rfl rfl ?_
    refine s_callI3 (rmpi C.l G n0 b22 m11 m17 ln _ A22 (D22 (Or.inr (hw _ (List.mem_of_getElem? (i := 39) rfl))) (ty := (.object "java/lang/String")) (by decide)) (D22 (Or.inr (hw _ (List.mem_of_getElem? (i := 41) rfl))) (ty := .int) (by decide)) (D22 (Or.inr (hw _ (List.mem_of_getElem? (i := 43) rfl))) (ty := (.object "java/lang/String")) (by decide)) nb22) (by simp) rfl rfl (hw _ (List.mem_of_getElem? (i := 29) rfl)) (hw _ (List.mem_of_getElem? (i := 30) rfl)) (hw _ (List.mem_of_getElem? (i := 28) rfl)) (hw _ (List.mem_of_getElem? (i := 31) rfl)) (by decide) (o_len pdpi rfl) rfl (pc' := 34) at_31 rfl (Nat.le_of_ble_eq_true rfl) (Nat.le_of_ble_eq_true rfl) (Nat.le_of_ble_eq_true rfl) (Nat.le_of_ble_eq_true rfl) (fun v31 h31 hQ31 => ?_)
    obtain ⟨rfl, K31, X31, F0, F1, F2⟩ := hQ31
    dsimp only [oPush]
    have EE := o_extKeep E22 K31 (allS (Nat.le_of_eq g22.symm) all0)
    replace M17 := (M17.ext EE).mono EE.1
    refine s_old fun OL => ?_
    replace M11 := (M11.ext EE).mono EE.1
    refine s_astore (pc' := 36) at_34 rfl rfl (o_st rfl (by first | exact One.u | exact One.val rfl | assumption) rfl) ?_
    dsimp only [List.set_cons_succ, List.set_cons_zero]
    refine s_aload (pc' := 38) at_36 rfl rfl rfl ?_
    refine s_callV0 (rmtZ C.l G n0 b22 m17 ms lm m11 ln hz fs lf _ (o_le OL) F0 F1 F2 M17 M11) (by simp) X31 (hw _ (List.mem_of_getElem? (i := 44) rfl)) (hw _ (List.mem_of_getElem? (i := 45) rfl)) (hw _ (List.mem_of_getElem? (i := 47) rfl)) (hw _ (List.mem_of_getElem? (i := 46) rfl)) (o_nf (hw _ (List.mem_of_getElem? (i := 47) rfl)) rfl) (hw _ (List.mem_of_getElem? (i := 28) rfl)) (hw _ (List.mem_of_getElem? (i := 48) rfl)) (by decide) (o_len pdpt rfl) rfl (pc' := 41) at_38 rfl (Nat.le_of_ble_eq_true rfl) (Nat.le_of_ble_eq_true rfl) (Nat.le_of_ble_eq_true rfl) (Nat.le_of_ble_eq_true rfl) (fun v38 h38 hQ38 => ?_)
    obtain ⟨r, rfl, E38, V⟩ := hQ38
    dsimp only [oPush]
    replace M17 := M17.ext E38
    replace M11 := M11.ext E38
    refine s_astore (pc' := 43) at_41 rfl rfl (o_st rfl (by first | exact One.u | exact One.val rfl | assumption) rfl) ?_
    dsimp only [List.set_cons_succ, List.set_cons_zero]
    refine s_aload (pc' := 45) at_43 rfl rfl rfl ?_
    refine s_callV0 (rmsL C.l G n0 m17 _ ms _ M17) (by simp) M17.exa (hw _ (List.mem_of_getElem? (i := 162) rfl)) (hw _ (List.mem_of_getElem? (i := 79) rfl)) (hw _ (List.mem_of_getElem? (i := 81) rfl)) (hw _ (List.mem_of_getElem? (i := 80) rfl)) (o_nf (hw _ (List.mem_of_getElem? (i := 81) rfl)) rfl) (hw _ (List.mem_of_getElem? (i := 6) rfl)) (hw _ (List.mem_of_getElem? (i := 82) rfl)) (by decide) (o_len pdsL rfl) rfl (pc' := 48) at_45 rfl (Nat.le_of_ble_eq_true rfl) (Nat.le_of_ble_eq_true rfl) (Nat.le_of_ble_eq_true rfl) (Nat.le_of_ble_eq_true rfl) (fun v45 h45 hQ45 => ?_)
    obtain ⟨rfl, rfl⟩ := hQ45
    dsimp only [oPush]
    refine s_istore (pc' := 50) at_48 rfl (o_st rfl (by first | exact One.u | exact One.val rfl | assumption) rfl) ?_
    dsimp only [List.set_cons_succ, List.set_cons_zero]
    refine s_aload (pc' := 52) at_50 rfl rfl rfl ?_
    refine s_nnY (pc' := 59) at_52 (by decide) rfl ?_
    refine s_aload (pc' := 61) at_59 rfl rfl rfl ?_
    refine s_callV0 (rmsL C.l G n0 m11 _ fs _ M11) (by simp) M11.exa (hw _ (List.mem_of_getElem? (i := 162) rfl)) (hw _ (List.mem_of_getElem? (i := 79) rfl)) (hw _ (List.mem_of_getElem? (i := 81) rfl)) (hw _ (List.mem_of_getElem? (i := 80) rfl)) (o_nf (hw _ (List.mem_of_getElem? (i := 81) rfl)) rfl) (hw _ (List.mem_of_getElem? (i := 6) rfl)) (hw _ (List.mem_of_getElem? (i := 82) rfl)) (by decide) (o_len pdsL rfl) rfl (pc' := 64) at_61 rfl (Nat.le_of_ble_eq_true rfl) (Nat.le_of_ble_eq_true rfl) (Nat.le_of_ble_eq_true rfl) (Nat.le_of_ble_eq_true rfl) (fun v61 h61 hQ61 => ?_)
    obtain ⟨rfl, rfl⟩ := hQ61
    dsimp only [oPush]
    refine s_istore (pc' := 66) at_64 rfl (o_st rfl (by first | exact One.u | exact One.val rfl | assumption) rfl) ?_
    dsimp only [List.set_cons_succ, List.set_cons_zero]
    refine s_iconst (x := (0 : Int32)) (pc' := 67) at_66 rfl rfl ?_
    refine s_istore (pc' := 69) at_67 rfl (o_st rfl (by first | exact One.u | exact One.val rfl | assumption) rfl) ?_
    dsimp only [List.set_cons_succ, List.set_cons_zero]
    refine s_aload (pc' := 71) at_69 rfl rfl rfl ?_
    refine s_nnY (pc' := 80) at_71 (by decide) rfl ?_
    refine s_iloadN (pc' := 81) at_80 rfl rfl ?_
    refine s_if (pc' := 84) (pc'' := 102) at_81 rfl (by decide) rfl (fun hc81 => ?_) (fun hc81 => ?_)
    · replace hc81 := b_le hc81
      refine s_iload (pc' := 104) at_102 rfl rfl ?_
      refine s_iconst (x := (2 : Int32)) (pc' := 105) at_104 rfl rfl ?_
      refine s_iadd (pc' := 106) at_105 rfl ?_
      rw [n_add2, ← zz_len]
      refine s_istore (pc' := 108) at_106 rfl (o_st rfl (by first | exact One.u | exact One.val rfl | assumption) rfl) ?_
      dsimp only [List.set_cons_succ, List.set_cons_zero]
      refine s_more (cs' := 40) (sl' := 640) (Nat.le_of_ble_eq_true rfl) (Nat.le_of_ble_eq_true rfl) ?_
      refine sg108 G (ps := (ZZ fs)) (ms := ms) (One.val rfl) (One.val rfl) (One.val rfl) (One.val rfl) One.u (by rw [zz_len]; omega) lm (zz_ch cf) cm V M17 fun h6 V6 M6 E6 => ?_
      have hb : (RR (ZZ fs) ms).length < 2147483648 := by rw [rr_len, zz_len]; omega
      have hch := rr_ch (zz_ch cf) cm
      refine s_aload (pc' := 167) at_165 rfl rfl rfl ?_
      refine s_nuN (pc' := 170) at_167 rfl ?_
      refine s_iload (pc' := 172) at_170 rfl rfl ?_
      refine s_if (pc' := 175) (pc'' := 202) at_172 rfl (by decide) rfl (fun hc172 => ?_) (fun hc172 => ?_)
      · replace hc172 := b_eq hc172
        exact absurd hc172 (by decide)
      · replace hc172 := b_eqF hc172
        refine s_aload (pc' := 177) at_175 rfl rfl rfl ?_
        refine s_iconst (x := (0 : Int32)) (pc' := 178) at_177 rfl rfl ?_
        refine s_aload (pc' := 180) at_178 rfl rfl rfl ?_
        refine s_callS3 (rmea C.l G n0 r m11 _ _ 0 (RR (ZZ fs) ms) fs _ hb (by omega) hch cf (fun j z h => rr_p (zz_f h)) V6 (M11.ext E6)) (by simp) (hw _ (List.mem_of_getElem? (i := 164) rfl)) (hw _ (List.mem_of_getElem? (i := 165) rfl)) (hw _ (List.mem_of_getElem? (i := 2) rfl)) (hw _ (List.mem_of_getElem? (i := 166) rfl)) (by decide) (o_len pdea rfl) rfl (pc' := 183) at_180 rfl (Nat.le_of_ble_eq_true rfl) (Nat.le_of_ble_eq_true rfl) (Nat.le_of_ble_eq_true rfl) (Nat.le_of_ble_eq_true rfl) (fun v180 h180 hQ180 => ?_)
        obtain ⟨rfl, rfl⟩ := hQ180
        dsimp only [oPush]
        refine s_if (pc' := 186) (pc'' := 202) at_183 rfl (by decide) rfl (fun hc183 => ?_) (fun hc183 => ?_)
        · replace hc183 := b_eq hc183
          exact absurd hc183 (by decide)
        · replace hc183 := b_eqF hc183
          refine s_aload (pc' := 188) at_186 rfl rfl rfl ?_
          refine s_iload (pc' := 190) at_188 rfl rfl ?_
          refine s_callV1 (rmsH C.l G n0 r _ (RR (ZZ fs) ms) fs.length 58 _ hb hch (rr_p (zz_2 fs (j := 0) rfl)) V6) (by simp) V6.exa (hw _ (List.mem_of_getElem? (i := 170) rfl)) (hw _ (List.mem_of_getElem? (i := 171) rfl)) (hw _ (List.mem_of_getElem? (i := 173) rfl)) (hw _ (List.mem_of_getElem? (i := 172) rfl)) (o_nf (hw _ (List.mem_of_getElem? (i := 173) rfl)) rfl) (hw _ (List.mem_of_getElem? (i := 6) rfl)) (hw _ (List.mem_of_getElem? (i := 174) rfl)) (by decide) (o_len pdsH rfl) rfl (pc' := 193) at_190 rfl (Nat.le_of_ble_eq_true rfl) (Nat.le_of_ble_eq_true rfl) (Nat.le_of_ble_eq_true rfl) (Nat.le_of_ble_eq_true rfl) (fun v190 h190 hQ190 => ?_)
          obtain ⟨rfl, rfl⟩ := hQ190
          dsimp only [oPush]
          refine s_bipush (x := (58 : Int32)) (pc' := 195) at_193 rfl rfl ?_
          refine s_icmp (pc' := 198) (pc'' := 202) at_195 rfl (by decide) rfl (fun hc195 => ?_) (fun hc195 => ?_)
          · replace hc195 := b_ne hc195
            exact absurd rfl hc195
          · replace hc195 := b_neF hc195
            refine s_iconst (x := (1 : Int32)) (pc' := 199) at_198 rfl rfl ?_
            refine s_goto (pc' := 203) at_199 (by decide) rfl ?_
            refine s_istore (pc' := 205) at_203 rfl (o_st rfl (by first | exact One.u | exact One.val rfl | assumption) rfl) ?_
            dsimp only [List.set_cons_succ, List.set_cons_zero]
            refine s_iloadN (pc' := 206) at_205 rfl rfl ?_
            refine s_if (pc' := 209) (pc'' := 273) at_206 rfl (by decide) rfl (fun hc206 => ?_) (fun hc206 => ?_)
            · replace hc206 := b_le hc206
              refine s_iload (pc' := 275) at_273 rfl rfl ?_
              refine s_if (pc' := 278) (pc'' := 296) at_275 rfl (by decide) rfl (fun hc275 => ?_) (fun hc275 => ?_)
              · replace hc275 := b_eq hc275
                exact absurd hc275 (by decide)
              · replace hc275 := b_eqF hc275
                refine s_aload (pc' := 280) at_278 rfl rfl rfl ?_
                refine s_iload (pc' := 282) at_280 rfl rfl ?_
                refine s_iconst (x := (1 : Int32)) (pc' := 283) at_282 rfl rfl ?_
                refine s_iadd (pc' := 284) at_283 rfl ?_
                rw [n_succ]
                refine s_callV1 (rmsH C.l G n0 r _ (RR (ZZ fs) ms) (fs.length + 1) 32 _ hb hch (rr_p (zz_2 fs (j := 1) rfl)) V6) (by simp) V6.exa (hw _ (List.mem_of_getElem? (i := 170) rfl)) (hw _ (List.mem_of_getElem? (i := 171) rfl)) (hw _ (List.mem_of_getElem? (i := 173) rfl)) (hw _ (List.mem_of_getElem? (i := 172) rfl)) (o_nf (hw _ (List.mem_of_getElem? (i := 173) rfl)) rfl) (hw _ (List.mem_of_getElem? (i := 6) rfl)) (hw _ (List.mem_of_getElem? (i := 174) rfl)) (by decide) (o_len pdsH rfl) rfl (pc' := 287) at_284 rfl (Nat.le_of_ble_eq_true rfl) (Nat.le_of_ble_eq_true rfl) (Nat.le_of_ble_eq_true rfl) (Nat.le_of_ble_eq_true rfl) (fun v284 h284 hQ284 => ?_)
                obtain ⟨rfl, rfl⟩ := hQ284
                dsimp only [oPush]
                refine s_bipush (x := (32 : Int32)) (pc' := 289) at_287 rfl rfl ?_
                refine s_icmp (pc' := 292) (pc'' := 296) at_289 rfl (by decide) rfl (fun hc289 => ?_) (fun hc289 => ?_)
                · replace hc289 := b_ne hc289
                  exact absurd rfl hc289
                · replace hc289 := b_neF hc289
                  refine s_iconst (x := (1 : Int32)) (pc' := 293) at_292 rfl rfl ?_
                  refine s_goto (pc' := 297) at_293 (by decide) rfl ?_
                  refine s_istore (pc' := 299) at_297 rfl (o_st rfl (by first | exact One.u | exact One.val rfl | assumption) rfl) ?_
                  dsimp only [List.set_cons_succ, List.set_cons_zero]
                  refine s_iload (pc' := 301) at_299 rfl rfl ?_
                  exact s_nret (t := .boolean) rfl (by simp) at_301 (Nat.le_of_ble_eq_true rfl) (Nat.le_of_ble_eq_true rfl) rfl
            · replace hc206 := b_leF hc206
              exact absurd hc206 hz
    · replace hc81 := b_leF hc81
      exact absurd hc81 hz
  · replace hc3 := b_eqF hc3
    exact absurd hf hc3
theorem rm0 (l : Launch) {Z : State} {a0 : Array Value} (G : OG Z a0) (n0 : Nat) (fb mb ln fg : Int32) (TT : TBS Z) (h0 : Heap) : oCon l Z n0 EL1 [] x i0 #[.int fb, .int mb, .int ln, .int fg] h0 (fun v h => v = some (.int 1)) := by
  by_cases hf : (fg &&& 1) = 0
  · by_cases hz : 0 < ln
    · obtain ⟨n, hpos, hn, rfl⟩ := nat_of ln hz
      exact rm0P l G n0 fb mb fg n hn hpos hf TT h0
    · exact rm0Z l G n0 fb mb fg ln hz hf h0
  · exact rm0N l G n0 fb mb fg ln hf h0
theorem hasL_map {c : Cell} {f : Nat → Value} : ∀ (n i : Nat), (∀ r, r < n → c.slots[i + r]? = some (f (i + r))) → HasL c i ((List.range' i n).map f)
  | 0, _, _ => trivial
  | n + 1, i, h => ⟨h 0 (by omega), hasL_map n (i + 1) fun r hr => by have := h (r + 1) (by omega); rw [show i + (r + 1) = i + 1 + r by omega] at this; exact this⟩
theorem tb_start {Z : State} {args : Array Value} {nm : String} {F : Nat → Nat} {rhs : Term} (hf : Fit Z) (hi : (Jvm.Cond.initializedFor "java/lang/Integer" nm "[B").before args Z = true) (hx : (Jvm.Cond.exactly (Term.static "java/lang/Integer" nm "[B") "[B").before args Z = true) (hlen : (Jvm.Cond.eq (Term.length (Term.static "java/lang/Integer" nm "[B")) (Term.int 100)).before args Z = true)
    (ha : (Jvm.Cond.all (Term.static "java/lang/Integer" nm "[B") (.eq (.elem (Term.static "java/lang/Integer" nm "[B") (.index 0)) rhs)).before args Z = true) (harr : (Jvm.Cond.arrayClass .byte).before args Z = true) (hr : ∀ r, r < 100 → rhs.eval args Z none [r] Z = some (.int (Int32.ofNat (F r)))) : TB Z nm F := by
  obtain ⟨d, cB, D, kB, hev, hfcB, hcellD, hkB, hstatD, hclsD, -⟩ := Cond.exactly_spec hx
  have hevA : ∀ idx, (Term.static "java/lang/Integer" nm "[B").eval args Z none idx Z = some (.ref d) := fun idx => by
    have : (Term.static "java/lang/Integer" nm "[B").eval args Z none idx Z = (Term.static "java/lang/Integer" nm "[B").eval args Z none [] Z := by simp only [Term.eval]
    rw [this]; exact hev
  have hl := Cond.eq_int hlen rfl
  obtain ⟨d', D', hev', hAt, -⟩ := Term.length_spec hl
  cases hev.symm.trans hev'
  obtain ⟨hcellD', hknD, -, -⟩ := State.arrayAt?_spec hAt
  cases hcellD.symm.trans hcellD'
  have q31 : D.slots.size < 2 ^ 31 := Jvm.Free.SBG.length_lt hev hAt hl
  have ez : D.slots.size.toInt32 = 100 := by have q := (len_f hev hAt q31).symm.trans hl; injection q with q; injection q
  have hsz : D.slots.size = 100 := by
    have q := congrArg Int32.toInt ez
    rw [len_toInt q31] at q
    have e : (100 : Int32).toInt = 100 := rfl
    omega
  obtain ⟨cB', kB', comp, hnameB, hkB', hkindB⟩ := Cond.arrayClass_spec harr
  have eBA : ("[" ++ FieldType.toString .byte) = "[B" := by decide
  rw [eBA] at hnameB
  cases hfcB.symm.trans hnameB
  cases hkB.symm.trans hkB'
  have A : Arr Z Z.heap d D .byte := ⟨hcellD, ⟨(fun q h => by rw [h] at hstatD; cases hstatD), kB, (by rw [hclsD]; exact hkB), comp, hkindB⟩, hknD⟩
  refine ⟨d, D.cls, Sta.start hev (Or.inl hi), Arv.start hf A q31 ez (by decide) (by simp [tabl]) ?_⟩
  unfold tabl
  rw [List.range_eq_range']
  refine hasL_map 100 0 fun r hr2 => ?_
  have h := Cond.all_elim hev hAt (Cond.before_iff.mp ha) r (by omega)
  have e := eqv_i (hr r hr2) h
  have eL : (Term.elem (Term.static "java/lang/Integer" nm "[B") (.index 0)).eval args Z none [r] Z = D.slots[r]? := by
    have nnr : ¬ Int32.ofNat r < 0 := nn (by omega)
    have q := elem_f (a := .index 0) (idx := [r]) (args := args) (first := Z) (o := none) (s := Z) (j := Int32.ofNat r) (hevA [r]) (by have := idx_at (args := args) (s := Z) (first := Z) (o := none) nnr; rwa [cl (by omega)] at this) hAt nnr
    rwa [cl (by omega)] at q
  rw [Nat.zero_add, ← eL]; exact e
theorem ones_n : ∀ r, r < 100 → (48 : Int32) + Int32.ofNat r % 10 = Int32.ofNat (48 + r % 10) := by decide +kernel
theorem tens_n : ∀ r, r < 100 → (48 : Int32) + Int32.ofNat r / 10 = Int32.ofNat (48 + r / 10) := by decide +kernel
set_option maxRecDepth 65536 in
set_option maxHeartbeats 4000000 in
theorem comes_1 {Post : Tables → Env → Array Value → State → Outcome → State → Prop} (hpost : ∀ tb e args s v u, (limb_1_1.after args s (.returned v) u = true ∧ limb_1_2.after args s (.returned v) u = true ∧ True) → ReturnedEndW s (.returned v) u (Jvm.fieldLocs frame_1_writes args s ++ Jvm.arrayLocs frame_1_arrays args s ++ Jvm.staticLocs frame_1_statics s) 56 6528 → Post tb e args s (.returned v) u) :
    ArmFor flags0 classFile x code maxLocals ret World_1 tables_1 room_1 Calls_1 rest_1 Pre_1 Post := by
  intro l hfl _ _ p e ha hc hk s m args below hf hA hF happ hP
  obtain ⟨hcalls, hrest, hpre⟩ := hP
  obtain ⟨-, -, -, hnamed, -, -, -, hat⟩ := (Spec.applies_iff hf).mp happ
  obtain ⟨hg, hn⟩ := and_e (Cond.before_iff.mp (show (Jvm.Cond.and given_1 narrow_1).before args s = true from hpre))
  obtain ⟨hcount, hr0⟩ := and_e hg
  obtain ⟨ha0, hr1⟩ := and_e hr0
  obtain ⟨ha1, hr2⟩ := and_e hr1
  obtain ⟨ha2, hr3⟩ := and_e hr2
  have ha3 := hr3
  obtain ⟨w0, w1, w2, w3, rfl⟩ : ∃ w0 w1 w2 w3 : Value, args = #[w0, w1, w2, w3] := by
    have hs : args.size = 4 := by simpa [Cond.value, given_1] using hcount
    obtain ⟨L⟩ := args
    match L, hs with
    | [w0, w1, w2, w3], _ => exact ⟨w0, w1, w2, w3, rfl⟩
  have hw := fun d (hd : d ∈ tables_1) => atoms_spec (ws := Jvm.Cond.code x code maxLocals ret :: tables_1) hat d (List.mem_cons_of_mem _ hd)
  obtain ⟨hsets, hown0⟩ := atoms_of _ (rest_1_c_eq ▸ (show rest_1_c.before _ s = true from hrest))
  have hfit : Fit s := fun {y c} hc i hi => by
    obtain ⟨ha, rfl⟩ := Array.getElem?_eq_some_iff.mp hc
    have q := List.all_eq_true.mp ((Array.all_eq_true_iff_forall_mem.mp hF) _ (Array.getElem_mem ha)) i (List.mem_range.mpr hi)
    simpa [Array.getElem?_eq_getElem hi] using q
  obtain ⟨i0, e0⟩ := is_v ha0
  obtain rfl : w0 = (.int i0) := Option.some.inj e0
  obtain ⟨i1, e1⟩ := is_v ha1
  obtain rfl : w1 = (.int i1) := Option.some.inj e1
  obtain ⟨i2, e2⟩ := is_v ha2
  obtain rfl : w2 = (.int i2) := Option.some.inj e2
  obtain ⟨i3, e3⟩ := is_v ha3
  obtain rfl : w3 = (.int i3) := Option.some.inj e3
  have n2 := not_v (Cond.before_iff.mp (hsets _ (List.mem_of_getElem? (i := 2) rfl)))
  obtain ⟨cmp, ec⟩ := is_v (Cond.before_iff.mp (hsets _ (List.mem_of_getElem? (i := 1) rfl)))
  have hC : Sta s s.heap "java/lang/String" "COMPACT_STRINGS" "Z" (.int cmp) := Sta.start ec (Or.inl (hsets _ (List.mem_of_getElem? (i := 0) rfl)))
  have hc0 : ¬ cmp = 0 := gotF (Cond.eq_ints ec (Term.int_eval 0)) n2
  obtain ⟨fm, ef, hfm⟩ := isR_v (Cond.before_iff.mp (hsets _ (List.mem_of_getElem? (i := 8) rfl)))
  have hF : Sta s s.heap "jdk/internal/util/Preconditions" "SIOOBE_FORMATTER" "Ljava/util/function/BiFunction;" fm := Sta.start ef (Or.inl (hsets _ (List.mem_of_getElem? (i := 7) rfl)))
  have hEL : EW s #[.int i0, .int i1, .int i2, .int i3] EL1 := (EW.cons (hw _ (List.mem_of_getElem? (i := 49) rfl)) (by decide) (EW.cons (hw _ (List.mem_of_getElem? (i := 192) rfl)) (by decide) (EW.cons (hw _ (List.mem_of_getElem? (i := 211) rfl)) (by decide) (EW.cons (hw _ (List.mem_of_getElem? (i := 116) rfl)) (by decide) (EW.cons (hw _ (List.mem_of_getElem? (i := 163) rfl)) (by decide) (EW.cons (hw _ (List.mem_of_getElem? (i := 18) rfl)) (by decide) EW.nil))))))
  have G : OG s _ := ⟨hw, hEL, ⟨cmp, hC, hc0⟩, ⟨fm, hfm, hF⟩⟩
  have hCH : CHv s EL1 s.vm s.heap := CHv.start hEL (fun p hp => hcalls.1 p hp) (hsets _ (List.mem_of_getElem? (i := 2) rfl)) (hw _ (List.mem_of_getElem? (i := 19) rfl)) (hw _ (List.mem_of_getElem? (i := 5) rfl))
  have T1 : TB s "DigitOnes" (fun r => 48 + r % 10) := tb_start hfit (hsets _ (List.mem_of_getElem? (i := 11) rfl)) (hsets _ (List.mem_of_getElem? (i := 12) rfl)) (hsets _ (List.mem_of_getElem? (i := 13) rfl)) (hsets _ (List.mem_of_getElem? (i := 14) rfl)) (hw _ (List.mem_of_getElem? (i := 19) rfl)) (fun r hr => by rw [← ones_n r hr]; rfl)
  have T2 : TB s "DigitTens" (fun r => 48 + r / 10) := tb_start hfit (hsets _ (List.mem_of_getElem? (i := 16) rfl)) (hsets _ (List.mem_of_getElem? (i := 17) rfl)) (hsets _ (List.mem_of_getElem? (i := 18) rfl)) (hsets _ (List.mem_of_getElem? (i := 19) rfl)) (hw _ (List.mem_of_getElem? (i := 19) rfl)) (fun r hr => by rw [← tens_n r hr]; rfl)
  obtain ⟨n, o, q1, q2, q3, _, L, rfl, ⟨N, -, rfl⟩, -, hq⟩ := (rm0 l G s.heap.size i0 i1 i2 i3 ⟨T1, T2⟩ s.heap) (Old.start s) tables_1 p e ha hc hk s m _ below hf ((Spec.applies_iff_loose hf).mp happ).1 ⟨rfl, State.Warmed39.refl s, rfl, hCH, by simp⟩ trivial
  refine ⟨n, _, q1, q2, q3, hpost _ _ _ _ _ _ ⟨Cond.after_iff.mpr rfl, Cond.after_iff.mpr (eq_i res_at (Term.int_eval (1)) rfl), trivial⟩ ⟨hq.1, hq.2.1, hq.2.2.1, (hq.2.2.2.sift fun y hy => Or.inr (N y hy)).mono (by decide) (by decide)⟩⟩
theorem main_1_1 : Claimed_1_1 := comes_1 fun _ _ _ _ _ _ h hF => ⟨h.1, hF⟩
theorem main_1_2 : Claimed_1_2 := comes_1 fun _ _ _ _ _ _ h hF => ⟨h.2.1, hF⟩
end Jvm.Pilot.@@N@@
namespace Jvm.Pilot.@@N@@
open Jvm Jvm.ClassFile Sem Op Lib Jvm.Free Jvm.Stand Jvm.Pilot.@@N@@.Jvm.D
/-! MADE BY PROGRAM (witnessworld.py) out of the Statement's table words and the real class files: 29 classes; the members and pool entries that the words name. The judged class is class 1, her method 1. -/
namespace start1
open Jvm.ClassFile
def u (s : String) : CpInfo := .utf8 (stringToUtf16 s)
/-- a pool by its gaps: so many unusable entries, then the entry; so many at the end -/
def gap : Nat → List CpInfo → List CpInfo
  | 0, r => r
  | n + 1, r => .unusable :: gap n r
def poolList (es : List (Nat × CpInfo)) (last : Nat) : List CpInfo := es.foldr (fun e r => gap e.1 (e.2 :: r)) (gap last [])
def pool (es : List (Nat × CpInfo)) (last : Nat) : Array CpInfo := ⟨poolList es last⟩
def fileOf (pool : Array CpInfo) (this : Nat) (attrs : Array Attribute := #[]) (ms : Array MethodInfo := #[]) (fl : Nat := 33) (sup : Nat := 0) (ifs : Array Nat := #[]) (fds : Array FieldInfo := #[]) : ClassFile where
  minorVersion := 0
  majorVersion := 65
  constantPool := pool
  accessFlags := fl
  thisClass := this
  superClass := sup
  interfaces := ifs
  fields := fds
  methods := ms
  attributes := attrs
def plain (name : String) (sup : Option ClassId) : Class where
  name := name
  kind := .ordinary
  loader := none
  accessFlags := 33
  super := sup
  interfaces := #[]
  cf := none
  fields := #[]
  methods := #[]
  instanceTypes := #[]
  staticTypes := #[]
  resolved := #[]
  callSites := []
  init := .initialized
  statics := none
  mirror := none

def pool0 : Array CpInfo := pool [(5, u "<init>"), (0, u "()V"), (1, .class_ 10), (1, u "java/lang/Object"), (85, u "clone"), (0, u "()Ljava/lang/Object;")] 26

def k0c0 : Code := { maxStack := 0, maxLocals := 1, code := object_method_1_code, exceptionTable := #[], attributes := #[] }
def k0m0 : Method := { name := "<init>", desc := "()V", sig := { parameters := [], returnType := none }, accessFlags := 1, code := some k0c0 }
def k0m1 : Method := { name := "clone", desc := "()Ljava/lang/Object;", sig := { parameters := [], returnType := some (.object "java/lang/Object") }, accessFlags := 260, code := none }
/-- java/lang/Object -/
def k0 : Class := { plain "java/lang/Object" none with
  accessFlags := 33
  interfaces := #[]
  cf := some (fileOf pool0 8 #[] #[{ accessFlags := 1, nameIndex := 5, descriptorIndex := 6, attributes := #[] }, { accessFlags := 260, nameIndex := 96, descriptorIndex := 97, attributes := #[] }] 33 0 #[] #[])
  fields := #[]
  methods := #[k0m0, k0m1]
  instanceTypes := #[]
  staticTypes := #[]
  resolved := Array.replicate 124 none
  statics := none }

def pool1 : Array CpInfo := pool [(2, .class_ 4), (1, u "java/lang/Object"), (0, u "<init>"), (0, u "()V"), (0, .methodref 8 9), (0, .class_ 10), (0, .nameAndType 11 12), (0, u "com/example/typeloom/typeloom/ProblemToStringPinLaw"), (0, u "mk"), (0, u "(I)Ljava/lang/String;"), (0, .class_ 14), (0, u "com/example/typeloom/typeloom/Problem"), (0, .methodref 13 16), (0, .nameAndType 5 17), (0, u "(Ljava/lang/String;ILjava/lang/String;)V"), (0, .methodref 13 19), (0, .nameAndType 20 21), (0, u "toString"), (0, u "()Ljava/lang/String;"), (0, .methodref 23 24), (0, .class_ 25), (0, .nameAndType 26 27), (0, u "java/lang/String"), (0, u "length"), (0, u "()I"), (0, .methodref 8 29), (0, .nameAndType 30 31), (0, u "digits"), (0, u "(I)I"), (0, .string 33), (0, u "error: "), (0, .methodref 8 35), (0, .nameAndType 36 37), (0, u "eqAt"), (0, u "(Ljava/lang/String;ILjava/lang/String;)Z"), (0, .methodref 23 39), (0, .nameAndType 40 41), (0, u "charAt"), (0, u "(I)C"), (0, .methodref 8 43), (0, .nameAndType 44 45), (0, u "digitsAt"), (0, u "(Ljava/lang/String;III)Z"), (0, .methodref 23 47), (0, .nameAndType 5 48), (0, u "([C)V"), (0, .methodref 8 50), (0, .nameAndType 51 52), (0, u "c"), (0, u "(Ljava/lang/String;ILjava/lang/String;I)Z"), (0, .integer 100000), (0, .integer 1000000), (0, .integer 10000000), (0, .integer 100000000), (0, .integer 1000000000), (0, .methodref 8 59), (0, .nameAndType 60 31), (0, u "pow10"), (0, .methodref 8 62), (0, .nameAndType 63 64), (0, u "dig"), (0, u "(Ljava/lang/String;IIII)Z"), (2, u "law"), (0, u "(IIII)Z")] 3

def k1m0 : Method := { name := "<init>", desc := "()V", sig := { parameters := [], returnType := none }, accessFlags := 1, code := none }
def k1c1 : Code := { maxStack := 5, maxLocals := 13, code := code, exceptionTable := #[], attributes := #[] }
def k1m1 : Method := { name := "law", desc := "(IIII)Z", sig := { parameters := [.int, .int, .int, .int], returnType := some .boolean }, accessFlags := 9, code := some k1c1 }
def k1c2 : Code := { maxStack := 6, maxLocals := 5, code := method_3_code, exceptionTable := #[], attributes := #[] }
def k1m2 : Method := { name := "mk", desc := "(I)Ljava/lang/String;", sig := { parameters := [.int], returnType := some (.object "java/lang/String") }, accessFlags := 10, code := some k1c2 }
def k1c3 : Code := { maxStack := 3, maxLocals := 4, code := method_4_code, exceptionTable := #[], attributes := #[] }
def k1m3 : Method := { name := "c", desc := "(Ljava/lang/String;ILjava/lang/String;I)Z", sig := { parameters := [(.object "java/lang/String"), .int, (.object "java/lang/String"), .int], returnType := some .boolean }, accessFlags := 10, code := some k1c3 }
def k1c4 : Code := { maxStack := 4, maxLocals := 3, code := method_5_code, exceptionTable := #[], attributes := #[] }
def k1m4 : Method := { name := "eqAt", desc := "(Ljava/lang/String;ILjava/lang/String;)Z", sig := { parameters := [(.object "java/lang/String"), .int, (.object "java/lang/String")], returnType := some .boolean }, accessFlags := 10, code := some k1c4 }
def k1c5 : Code := { maxStack := 2, maxLocals := 1, code := method_6_code, exceptionTable := #[], attributes := #[] }
def k1m5 : Method := { name := "digits", desc := "(I)I", sig := { parameters := [.int], returnType := some .int }, accessFlags := 10, code := some k1c5 }
def k1c6 : Code := { maxStack := 2, maxLocals := 1, code := method_7_code, exceptionTable := #[], attributes := #[] }
def k1m6 : Method := { name := "pow10", desc := "(I)I", sig := { parameters := [.int], returnType := some .int }, accessFlags := 10, code := some k1c6 }
def k1c7 : Code := { maxStack := 5, maxLocals := 5, code := method_8_code, exceptionTable := #[], attributes := #[] }
def k1m7 : Method := { name := "dig", desc := "(Ljava/lang/String;IIII)Z", sig := { parameters := [(.object "java/lang/String"), .int, .int, .int, .int], returnType := some .boolean }, accessFlags := 10, code := some k1c7 }
def k1c8 : Code := { maxStack := 5, maxLocals := 4, code := method_9_code, exceptionTable := #[], attributes := #[] }
def k1m8 : Method := { name := "digitsAt", desc := "(Ljava/lang/String;III)Z", sig := { parameters := [(.object "java/lang/String"), .int, .int, .int], returnType := some .boolean }, accessFlags := 10, code := some k1c8 }
/-- com/example/typeloom/typeloom/ProblemToStringPinLaw -/
def k1 : Class := { plain "com/example/typeloom/typeloom/ProblemToStringPinLaw" (some 0) with
  accessFlags := 49
  interfaces := #[]
  cf := some (fileOf pool1 8 #[] #[{ accessFlags := 1, nameIndex := 5, descriptorIndex := 6, attributes := #[] }, { accessFlags := 9, nameIndex := 67, descriptorIndex := 68, attributes := #[] }, { accessFlags := 10, nameIndex := 11, descriptorIndex := 12, attributes := #[] }, { accessFlags := 10, nameIndex := 51, descriptorIndex := 52, attributes := #[] }, { accessFlags := 10, nameIndex := 36, descriptorIndex := 37, attributes := #[] }, { accessFlags := 10, nameIndex := 30, descriptorIndex := 31, attributes := #[] }, { accessFlags := 10, nameIndex := 60, descriptorIndex := 31, attributes := #[] }, { accessFlags := 10, nameIndex := 63, descriptorIndex := 64, attributes := #[] }, { accessFlags := 10, nameIndex := 44, descriptorIndex := 45, attributes := #[] }] 49 2 #[] #[])
  fields := #[]
  methods := #[k1m0, k1m1, k1m2, k1m3, k1m4, k1m5, k1m6, k1m7, k1m8]
  instanceTypes := #[]
  staticTypes := #[]
  resolved := Array.replicate 72 none
  statics := none }

def pool2 : Array CpInfo := pool [(1, .class_ 2), (0, u "java/io/Serializable"), (0, .class_ 4), (0, u "java/lang/Object")] 2

/-- java/io/Serializable -/
def k2 : Class := { plain "java/io/Serializable" (some 0) with
  accessFlags := 1537
  interfaces := #[]
  cf := some (fileOf pool2 1 #[] #[] 1537 3 #[] #[])
  fields := #[]
  methods := #[]
  instanceTypes := #[]
  staticTypes := #[]
  resolved := Array.replicate 7 none
  statics := none }

def pool3 : Array CpInfo := pool [(1, .class_ 2), (0, u "java/lang/Comparable"), (0, .class_ 4), (0, u "java/lang/Object")] 7

/-- java/lang/Comparable -/
def k3 : Class := { plain "java/lang/Comparable" (some 0) with
  accessFlags := 1537
  interfaces := #[]
  cf := some (fileOf pool3 1 #[] #[] 1537 3 #[] #[])
  fields := #[]
  methods := #[]
  instanceTypes := #[]
  staticTypes := #[]
  resolved := Array.replicate 12 none
  statics := none }

def pool4 : Array CpInfo := pool [(2, .class_ 4), (1, u "java/lang/CharSequence"), (42, .class_ 48), (0, u "java/lang/CharSequence$1CodePointIterator"), (10, .class_ 60), (0, u "java/lang/CharSequence$1CharIterator"), (5, .class_ 67), (0, u "java/lang/Object")] 63

/-- java/lang/CharSequence -/
def k4 : Class := { plain "java/lang/CharSequence" (some 0) with
  accessFlags := 1537
  interfaces := #[]
  cf := some (fileOf pool4 2 #[.nestMembers #[47, 59]] #[] 1537 66 #[] #[])
  fields := #[]
  methods := #[]
  instanceTypes := #[]
  staticTypes := #[]
  resolved := Array.replicate 131 none
  statics := none }

def pool5 : Array CpInfo := pool [(1, .class_ 2), (0, u "java/lang/constant/Constable"), (0, .class_ 4), (0, u "java/lang/Object")] 6

/-- java/lang/constant/Constable -/
def k5 : Class := { plain "java/lang/constant/Constable" (some 0) with
  accessFlags := 1537
  interfaces := #[]
  cf := some (fileOf pool5 1 #[] #[] 1537 3 #[] #[])
  fields := #[]
  methods := #[]
  instanceTypes := #[]
  staticTypes := #[]
  resolved := Array.replicate 11 none
  statics := none }

def pool6 : Array CpInfo := pool [(1, .class_ 2), (0, u "java/lang/constant/ConstantDesc"), (0, .class_ 4), (0, u "java/lang/Object")] 32

/-- java/lang/constant/ConstantDesc -/
def k6 : Class := { plain "java/lang/constant/ConstantDesc" (some 0) with
  accessFlags := 1537
  interfaces := #[]
  cf := some (fileOf pool6 1 #[] #[] 1537 3 #[] #[])
  fields := #[]
  methods := #[]
  instanceTypes := #[]
  staticTypes := #[]
  resolved := Array.replicate 37 none
  statics := none }

def pool7 : Array CpInfo := pool [(1, .methodref 2 3), (0, .class_ 4), (0, .nameAndType 5 6), (0, u "java/lang/Object"), (0, u "<init>"), (0, u "()V"), (0, .string 8), (0, u ""), (0, .fieldref 10 11), (0, .class_ 12), (0, .nameAndType 13 14), (0, u "java/lang/String"), (0, u "value"), (0, u "[B"), (0, .fieldref 10 16), (0, .nameAndType 17 18), (0, u "coder"), (0, u "B"), (2, u "hash"), (0, u "I"), (2, u "hashIsZero"), (0, u "Z"), (0, .methodref 10 28), (0, .nameAndType 5 29), (0, u "([CIILjava/lang/Void;)V"), (8, .fieldref 10 39), (0, .nameAndType 40 26), (0, u "COMPACT_STRINGS"), (1, .class_ 44), (1, u "java/lang/StringUTF16"), (0, u "compress"), (1, .methodref 42 48), (0, .nameAndType 49 50), (0, u "coderFromArrayLen"), (0, u "([BI)B"), (3, .methodref 55 56), (0, .class_ 57), (0, .nameAndType 58 59), (0, u "java/util/Arrays"), (0, u "copyOfRange"), (0, u "([BII)[B"), (47, .class_ 109), (1, u "java/lang/StringLatin1"), (32, u "()Z"), (34, .methodref 42 178), (0, .nameAndType 45 179), (0, u "([CII)[B"), (13, .class_ 195), (1, u "java/lang/System"), (16, .methodref 193 213), (0, .nameAndType 214 215), (0, u "arraycopy"), (0, u "(Ljava/lang/Object;ILjava/lang/Object;II)V"), (118, u "()I"), (0, .methodref 10 336), (0, .nameAndType 17 337), (0, u "()B"), (2, u "()[B"), (22, u "([BI)C"), (27, u "(II)V"), (35, u "(I)C"), (61, .methodref 10 490), (0, .nameAndType 5 491), (0, u "(Ljava/lang/AbstractStringBuilder;Ljava/lang/Void;)V"), (0, .methodref 10 493), (0, .nameAndType 494 142), (0, u "isLatin1"), (0, .methodref 107 496), (0, .nameAndType 497 363), (0, u "charAt"), (3, u "checkIndex"), (4, .nameAndType 507 334), (0, u "length"), (24, u "getBytes"), (16, .methodref 550 506), (0, .class_ 551), (0, u "java/lang/AbstractStringBuilder"), (0, .methodref 550 553), (0, .nameAndType 554 340), (0, u "getValue"), (20, .class_ 576), (0, u "java/lang/CharSequence"), (22, u "CASE_INSENSITIVE_ORDER"), (0, u "Ljava/util/Comparator;"), (220, u "([BIB)V"), (188, u "([C)V"), (36, .methodref 550 493), (5, .fieldref 1054 1055), (0, .class_ 1056), (0, .nameAndType 1057 1058), (0, u "jdk/internal/util/Preconditions"), (0, u "SIOOBE_FORMATTER"), (0, u "Ljava/util/function/BiFunction;"), (0, .methodref 1054 1060), (0, .nameAndType 501 1061), (0, u "(IILjava/util/function/BiFunction;)I"), (39, u "serialPersistentFields"), (0, u "[Ljava/io/ObjectStreamField;"), (0, .class_ 1104), (0, u "java/lang/String$CaseInsensitiveComparator"), (1, .class_ 1107), (0, u "java/io/Serializable"), (0, .class_ 1109), (0, u "java/lang/Comparable"), (0, .class_ 1111), (0, u "java/lang/constant/Constable"), (0, .class_ 1113), (0, u "java/lang/constant/ConstantDesc"), (2, u "serialVersionUID"), (0, u "J"), (3, u "REPL"), (0, u "C"), (2, u "LATIN1"), (1, u "UTF16"), (105, u "(Ljava/lang/StringBuilder;)V")] 217

def k7m0 : Method := { name := "<init>", desc := "()V", sig := { parameters := [], returnType := none }, accessFlags := 1, code := none }
def k7c1 : Code := { maxStack := 5, maxLocals := 2, code := jdk_42_method_3_code, exceptionTable := #[], attributes := #[] }
def k7m1 : Method := { name := "<init>", desc := "([C)V", sig := { parameters := [(.array .char)], returnType := none }, accessFlags := 1, code := some k7c1 }
def k7c2 : Code := { maxStack := 3, maxLocals := 2, code := jdk_42_method_53_code, exceptionTable := #[], attributes := #[] }
def k7m2 : Method := { name := "<init>", desc := "(Ljava/lang/StringBuilder;)V", sig := { parameters := [(.object "java/lang/StringBuilder")], returnType := none }, accessFlags := 1, code := some k7c2 }
def k7c3 : Code := { maxStack := 2, maxLocals := 1, code := jdk_42_method_54_code, exceptionTable := #[], attributes := #[] }
def k7m3 : Method := { name := "length", desc := "()I", sig := { parameters := [], returnType := some .int }, accessFlags := 1, code := some k7c3 }
def k7c4 : Code := { maxStack := 2, maxLocals := 2, code := jdk_42_method_56_code, exceptionTable := #[], attributes := #[] }
def k7m4 : Method := { name := "charAt", desc := "(I)C", sig := { parameters := [.int], returnType := some .char }, accessFlags := 1, code := some k7c4 }
def k7c5 : Code := { maxStack := 5, maxLocals := 4, code := jdk_42_method_147_code, exceptionTable := #[], attributes := #[] }
def k7m5 : Method := { name := "getBytes", desc := "([BIB)V", sig := { parameters := [(.array .byte), .int, .byte], returnType := none }, accessFlags := 0, code := some k7c5 }
def k7c6 : Code := { maxStack := 4, maxLocals := 6, code := jdk_42_method_149_code, exceptionTable := #[], attributes := #[] }
def k7m6 : Method := { name := "<init>", desc := "([CIILjava/lang/Void;)V", sig := { parameters := [(.array .char), .int, .int, (.object "java/lang/Void")], returnType := none }, accessFlags := 2, code := some k7c6 }
def k7c7 : Code := { maxStack := 5, maxLocals := 5, code := jdk_42_method_150_code, exceptionTable := #[], attributes := #[] }
def k7m7 : Method := { name := "<init>", desc := "(Ljava/lang/AbstractStringBuilder;Ljava/lang/Void;)V", sig := { parameters := [(.object "java/lang/AbstractStringBuilder"), (.object "java/lang/Void")], returnType := none }, accessFlags := 0, code := some k7c7 }
def k7c8 : Code := { maxStack := 1, maxLocals := 1, code := jdk_42_method_152_code, exceptionTable := #[], attributes := #[] }
def k7m8 : Method := { name := "coder", desc := "()B", sig := { parameters := [], returnType := some .byte }, accessFlags := 0, code := some k7c8 }
def k7c9 : Code := { maxStack := 1, maxLocals := 1, code := jdk_42_method_154_code, exceptionTable := #[], attributes := #[] }
def k7m9 : Method := { name := "isLatin1", desc := "()Z", sig := { parameters := [], returnType := some .boolean }, accessFlags := 0, code := some k7c9 }
def k7c10 : Code := { maxStack := 3, maxLocals := 2, code := jdk_42_method_155_code, exceptionTable := #[], attributes := #[] }
def k7m10 : Method := { name := "checkIndex", desc := "(II)V", sig := { parameters := [.int, .int], returnType := none }, accessFlags := 8, code := some k7c10 }
/-- java/lang/String -/
def k7 : Class := { plain "java/lang/String" (some 0) with
  accessFlags := 49
  interfaces := #[2, 3, 4, 5, 6]
  cf := some (fileOf pool7 10 #[.nestMembers #[1103]] #[{ accessFlags := 1, nameIndex := 5, descriptorIndex := 6, attributes := #[] }, { accessFlags := 1, nameIndex := 5, descriptorIndex := 1010, attributes := #[] }, { accessFlags := 1, nameIndex := 5, descriptorIndex := 1233, attributes := #[] }, { accessFlags := 1, nameIndex := 507, descriptorIndex := 334, attributes := #[] }, { accessFlags := 1, nameIndex := 497, descriptorIndex := 427, attributes := #[] }, { accessFlags := 0, nameIndex := 532, descriptorIndex := 821, attributes := #[] }, { accessFlags := 2, nameIndex := 5, descriptorIndex := 29, attributes := #[] }, { accessFlags := 0, nameIndex := 5, descriptorIndex := 491, attributes := #[] }, { accessFlags := 0, nameIndex := 17, descriptorIndex := 337, attributes := #[] }, { accessFlags := 0, nameIndex := 494, descriptorIndex := 142, attributes := #[] }, { accessFlags := 8, nameIndex := 501, descriptorIndex := 391, attributes := #[] }] 49 2 #[1106, 1108, 575, 1110, 1112] #[{ accessFlags := 18, nameIndex := 13, descriptorIndex := 14, attributes := #[] }, { accessFlags := 18, nameIndex := 17, descriptorIndex := 18, attributes := #[] }, { accessFlags := 2, nameIndex := 21, descriptorIndex := 22, attributes := #[] }, { accessFlags := 2, nameIndex := 25, descriptorIndex := 26, attributes := #[] }, { accessFlags := 26, nameIndex := 1116, descriptorIndex := 1117, attributes := #[] }, { accessFlags := 24, nameIndex := 40, descriptorIndex := 26, attributes := #[] }, { accessFlags := 26, nameIndex := 1101, descriptorIndex := 1102, attributes := #[] }, { accessFlags := 26, nameIndex := 1121, descriptorIndex := 1122, attributes := #[] }, { accessFlags := 25, nameIndex := 599, descriptorIndex := 600, attributes := #[] }, { accessFlags := 24, nameIndex := 1125, descriptorIndex := 18, attributes := #[] }, { accessFlags := 24, nameIndex := 1127, descriptorIndex := 18, attributes := #[] }])
  fields := #[{ name := "value", type := (.array .byte), accessFlags := 18, slot := 0, constantValue := 0 }, { name := "coder", type := .byte, accessFlags := 18, slot := 1, constantValue := 0 }, { name := "hash", type := .int, accessFlags := 2, slot := 2, constantValue := 0 }, { name := "hashIsZero", type := .boolean, accessFlags := 2, slot := 3, constantValue := 0 }, { name := "serialVersionUID", type := .long, accessFlags := 26, slot := 0, constantValue := 0 }, { name := "COMPACT_STRINGS", type := .boolean, accessFlags := 24, slot := 1, constantValue := 0 }, { name := "serialPersistentFields", type := (.array (.object "java/io/ObjectStreamField")), accessFlags := 26, slot := 2, constantValue := 0 }, { name := "REPL", type := .char, accessFlags := 26, slot := 3, constantValue := 0 }, { name := "CASE_INSENSITIVE_ORDER", type := (.object "java/util/Comparator"), accessFlags := 25, slot := 4, constantValue := 0 }, { name := "LATIN1", type := .byte, accessFlags := 24, slot := 5, constantValue := 0 }, { name := "UTF16", type := .byte, accessFlags := 24, slot := 6, constantValue := 0 }]
  methods := #[k7m0, k7m1, k7m2, k7m3, k7m4, k7m5, k7m6, k7m7, k7m8, k7m9, k7m10]
  instanceTypes := #[(.array .byte), .byte, .int, .boolean]
  staticTypes := #[.long, .boolean, (.array (.object "java/io/ObjectStreamField")), .char, (.object "java/util/Comparator"), .byte, .byte]
  resolved := Array.replicate 1451 none
  statics := some 0 }

def pool8 : Array CpInfo := pool [(1, .methodref 2 3), (0, .class_ 4), (0, .nameAndType 5 6), (0, u "java/lang/Object"), (0, u "<init>"), (0, u "()V"), (0, .class_ 8), (0, u "java/lang/Record")] 13

def k8c0 : Code := { maxStack := 1, maxLocals := 1, code := jdk_30_method_1_code, exceptionTable := #[], attributes := #[] }
def k8m0 : Method := { name := "<init>", desc := "()V", sig := { parameters := [], returnType := none }, accessFlags := 4, code := some k8c0 }
/-- java/lang/Record -/
def k8 : Class := { plain "java/lang/Record" (some 0) with
  accessFlags := 1057
  interfaces := #[]
  cf := some (fileOf pool8 7 #[] #[{ accessFlags := 4, nameIndex := 5, descriptorIndex := 6, attributes := #[] }] 1057 2 #[] #[])
  fields := #[]
  methods := #[k8m0]
  instanceTypes := #[]
  staticTypes := #[]
  resolved := Array.replicate 22 none
  statics := none }

def pool9 : Array CpInfo := pool [(1, .methodref 2 3), (0, .class_ 4), (0, .nameAndType 5 6), (0, u "java/lang/Record"), (0, u "<init>"), (0, u "()V"), (0, .fieldref 8 9), (0, .class_ 10), (0, .nameAndType 11 12), (0, u "com/example/typeloom/typeloom/Problem"), (0, u "file"), (0, u "Ljava/lang/String;"), (0, .fieldref 8 14), (0, .nameAndType 15 16), (0, u "line"), (0, u "I"), (0, .fieldref 8 18), (0, .nameAndType 19 12), (0, u "message"), (0, .string 21), (0, u ""), (0, .class_ 23), (0, u "java/lang/StringBuilder"), (0, .methodref 22 3), (0, .methodref 22 26), (0, .nameAndType 27 28), (0, u "append"), (0, u "(Ljava/lang/String;)Ljava/lang/StringBuilder;"), (0, .string 30), (0, u ":"), (0, .methodref 22 32), (0, .nameAndType 27 33), (0, u "(I)Ljava/lang/StringBuilder;"), (0, .string 35), (0, u ": "), (0, .methodref 22 37), (0, .nameAndType 38 39), (0, u "toString"), (0, u "()Ljava/lang/String;"), (0, .string 41), (0, u "error: "), (83, .class_ 126), (0, u "java/io/Serializable"), (0, u "serialVersionUID"), (0, u "J"), (3, u "(Ljava/lang/String;ILjava/lang/String;)V")] 29

def k9c0 : Code := { maxStack := 2, maxLocals := 4, code := prog_6_method_1_code, exceptionTable := #[], attributes := #[] }
def k9m0 : Method := { name := "<init>", desc := "(Ljava/lang/String;ILjava/lang/String;)V", sig := { parameters := [(.object "java/lang/String"), .int, (.object "java/lang/String")], returnType := none }, accessFlags := 1, code := some k9c0 }
def k9c1 : Code := { maxStack := 2, maxLocals := 2, code := prog_6_method_2_code, exceptionTable := #[], attributes := #[] }
def k9m1 : Method := { name := "toString", desc := "()Ljava/lang/String;", sig := { parameters := [], returnType := some (.object "java/lang/String") }, accessFlags := 1, code := some k9c1 }
/-- com/example/typeloom/typeloom/Problem -/
def k9 : Class := { plain "com/example/typeloom/typeloom/Problem" (some 8) with
  accessFlags := 49
  interfaces := #[2]
  cf := some (fileOf pool9 8 #[] #[{ accessFlags := 1, nameIndex := 5, descriptorIndex := 132, attributes := #[] }, { accessFlags := 1, nameIndex := 38, descriptorIndex := 39, attributes := #[] }] 49 2 #[125] #[{ accessFlags := 18, nameIndex := 11, descriptorIndex := 12, attributes := #[] }, { accessFlags := 18, nameIndex := 15, descriptorIndex := 16, attributes := #[] }, { accessFlags := 18, nameIndex := 19, descriptorIndex := 12, attributes := #[] }, { accessFlags := 26, nameIndex := 127, descriptorIndex := 128, attributes := #[] }])
  fields := #[{ name := "file", type := (.object "java/lang/String"), accessFlags := 18, slot := 0, constantValue := 0 }, { name := "line", type := .int, accessFlags := 18, slot := 1, constantValue := 0 }, { name := "message", type := (.object "java/lang/String"), accessFlags := 18, slot := 2, constantValue := 0 }, { name := "serialVersionUID", type := .long, accessFlags := 26, slot := 0, constantValue := 0 }]
  methods := #[k9m0, k9m1]
  instanceTypes := #[(.object "java/lang/String"), .int, (.object "java/lang/String")]
  staticTypes := #[.long]
  resolved := Array.replicate 162 none
  statics := none }

def pool10 : Array CpInfo := pool [(1, .class_ 2), (0, u "java/lang/Appendable"), (0, .class_ 4), (0, u "java/lang/Object")] 9

/-- java/lang/Appendable -/
def k10 : Class := { plain "java/lang/Appendable" (some 0) with
  accessFlags := 1537
  interfaces := #[]
  cf := some (fileOf pool10 1 #[] #[] 1537 3 #[] #[])
  fields := #[]
  methods := #[]
  instanceTypes := #[]
  staticTypes := #[]
  resolved := Array.replicate 14 none
  statics := none }

def pool11 : Array CpInfo := pool [(1, .class_ 2), (0, u "java/lang/String"), (0, .methodref 4 5), (0, .class_ 6), (0, .nameAndType 7 8), (0, u "java/lang/Object"), (0, u "<init>"), (0, u "()V"), (1, .class_ 12), (1, u "java/lang/AbstractStringBuilder"), (0, u "EMPTYVALUE"), (0, u "[B"), (0, .fieldref 10 16), (0, .nameAndType 17 14), (0, u "value"), (0, .fieldref 1 19), (0, .nameAndType 20 21), (0, u "COMPACT_STRINGS"), (0, u "Z"), (0, .fieldref 10 23), (0, .nameAndType 24 25), (0, u "coder"), (0, u "B"), (6, .methodref 1 33), (0, .nameAndType 34 35), (0, u "length"), (0, u "()I"), (0, .class_ 37), (0, u "java/lang/Integer"), (1, .integer 2147483647), (0, .methodref 1 41), (0, .nameAndType 24 42), (0, u "()B"), (2, u "append"), (0, u "(Ljava/lang/String;)Ljava/lang/AbstractStringBuilder;"), (1, .class_ 49), (0, u "java/lang/CharSequence"), (19, u "(Ljava/lang/String;)V"), (5, u "maybeLatin1"), (3, .fieldref 10 80), (0, .nameAndType 81 82), (0, u "count"), (0, u "I"), (0, .methodref 10 84), (0, .nameAndType 85 86), (0, u "isLatin1"), (0, u "()Z"), (13, .methodref 10 101), (0, .nameAndType 102 103), (0, u "ensureCapacityInternal"), (0, u "(I)V"), (0, .methodref 10 105), (0, .nameAndType 106 107), (0, u "newCapacity"), (0, u "(I)I"), (0, .methodref 109 110), (0, .class_ 111), (0, .nameAndType 112 113), (0, u "java/util/Arrays"), (0, u "copyOf"), (0, u "([BI)[B"), (0, .methodref 115 116), (0, .class_ 117), (0, .nameAndType 118 119), (0, u "jdk/internal/util/ArraysSupport"), (0, u "newLength"), (0, u "(III)I"), (68, u "getChars"), (19, .methodref 10 209), (0, .nameAndType 210 211), (0, u "putStringAt"), (0, u "(ILjava/lang/String;)V"), (5, u "inflateIfNeededFor"), (2, .nameAndType 221 222), (0, u "getBytes"), (0, u "([BIB)V"), (22, .methodref 36 246), (0, .nameAndType 247 107), (0, u "stringSize"), (0, .methodref 36 249), (0, .nameAndType 188 250), (0, u "(II[B)I"), (146, .methodref 10 398), (0, .nameAndType 217 69), (0, .methodref 1 220), (3, u "()[B"), (40, .class_ 445), (0, u "java/lang/Appendable"), (65, u "(I)Ljava/lang/AbstractStringBuilder;"), (40, u "getValue")] 56

def k11m0 : Method := { name := "<init>", desc := "()V", sig := { parameters := [], returnType := none }, accessFlags := 0, code := none }
def k11c1 : Code := { maxStack := 2, maxLocals := 2, code := jdk_68_method_2_code, exceptionTable := #[], attributes := #[] }
def k11m1 : Method := { name := "<init>", desc := "(I)V", sig := { parameters := [.int], returnType := none }, accessFlags := 0, code := some k11c1 }
def k11c2 : Code := { maxStack := 1, maxLocals := 1, code := jdk_68_method_6_code, exceptionTable := #[], attributes := #[] }
def k11m2 : Method := { name := "length", desc := "()I", sig := { parameters := [], returnType := some .int }, accessFlags := 1, code := some k11c2 }
def k11c3 : Code := { maxStack := 4, maxLocals := 3, code := jdk_68_method_9_code, exceptionTable := #[], attributes := #[] }
def k11m3 : Method := { name := "ensureCapacityInternal", desc := "(I)V", sig := { parameters := [.int], returnType := none }, accessFlags := 2, code := some k11c3 }
def k11c4 : Code := { maxStack := 5, maxLocals := 6, code := jdk_68_method_10_code, exceptionTable := #[], attributes := #[] }
def k11m4 : Method := { name := "newCapacity", desc := "(I)I", sig := { parameters := [.int], returnType := some .int }, accessFlags := 2, code := some k11c4 }
def k11c5 : Code := { maxStack := 3, maxLocals := 3, code := jdk_68_method_22_code, exceptionTable := #[], attributes := #[] }
def k11m5 : Method := { name := "append", desc := "(Ljava/lang/String;)Ljava/lang/AbstractStringBuilder;", sig := { parameters := [(.object "java/lang/String")], returnType := some (.object "java/lang/AbstractStringBuilder") }, accessFlags := 1, code := some k11c5 }
def k11c6 : Code := { maxStack := 4, maxLocals := 4, code := jdk_68_method_32_code, exceptionTable := #[], attributes := #[] }
def k11m6 : Method := { name := "append", desc := "(I)Ljava/lang/AbstractStringBuilder;", sig := { parameters := [.int], returnType := some (.object "java/lang/AbstractStringBuilder") }, accessFlags := 1, code := some k11c6 }
def k11c7 : Code := { maxStack := 1, maxLocals := 1, code := jdk_68_method_64_code, exceptionTable := #[], attributes := #[] }
def k11m7 : Method := { name := "getValue", desc := "()[B", sig := { parameters := [], returnType := some (.array .byte) }, accessFlags := 16, code := some k11c7 }
def k11c8 : Code := { maxStack := 1, maxLocals := 1, code := jdk_68_method_68_code, exceptionTable := #[], attributes := #[] }
def k11m8 : Method := { name := "isLatin1", desc := "()Z", sig := { parameters := [], returnType := some .boolean }, accessFlags := 16, code := some k11c8 }
def k11c9 : Code := { maxStack := 2, maxLocals := 2, code := jdk_68_method_71_code, exceptionTable := #[], attributes := #[] }
def k11m9 : Method := { name := "inflateIfNeededFor", desc := "(Ljava/lang/String;)V", sig := { parameters := [(.object "java/lang/String")], returnType := none }, accessFlags := 2, code := some k11c9 }
def k11c10 : Code := { maxStack := 4, maxLocals := 3, code := jdk_68_method_73_code, exceptionTable := #[], attributes := #[] }
def k11m10 : Method := { name := "putStringAt", desc := "(ILjava/lang/String;)V", sig := { parameters := [.int, (.object "java/lang/String")], returnType := none }, accessFlags := 2, code := some k11c10 }
/-- java/lang/AbstractStringBuilder -/
def k11 : Class := { plain "java/lang/AbstractStringBuilder" (some 0) with
  accessFlags := 1056
  interfaces := #[10, 4]
  cf := some (fileOf pool11 10 #[] #[{ accessFlags := 0, nameIndex := 7, descriptorIndex := 8, attributes := #[] }, { accessFlags := 0, nameIndex := 7, descriptorIndex := 103, attributes := #[] }, { accessFlags := 1, nameIndex := 34, descriptorIndex := 35, attributes := #[] }, { accessFlags := 2, nameIndex := 102, descriptorIndex := 103, attributes := #[] }, { accessFlags := 2, nameIndex := 106, descriptorIndex := 107, attributes := #[] }, { accessFlags := 1, nameIndex := 45, descriptorIndex := 46, attributes := #[] }, { accessFlags := 1, nameIndex := 45, descriptorIndex := 511, attributes := #[] }, { accessFlags := 16, nameIndex := 552, descriptorIndex := 403, attributes := #[] }, { accessFlags := 16, nameIndex := 85, descriptorIndex := 86, attributes := #[] }, { accessFlags := 2, nameIndex := 217, descriptorIndex := 69, attributes := #[] }, { accessFlags := 2, nameIndex := 210, descriptorIndex := 211, attributes := #[] }] 1056 4 #[444, 48] #[{ accessFlags := 0, nameIndex := 17, descriptorIndex := 14, attributes := #[] }, { accessFlags := 0, nameIndex := 24, descriptorIndex := 25, attributes := #[] }, { accessFlags := 0, nameIndex := 75, descriptorIndex := 21, attributes := #[] }, { accessFlags := 0, nameIndex := 81, descriptorIndex := 82, attributes := #[] }, { accessFlags := 26, nameIndex := 13, descriptorIndex := 14, attributes := #[] }])
  fields := #[{ name := "value", type := (.array .byte), accessFlags := 0, slot := 0, constantValue := 0 }, { name := "coder", type := .byte, accessFlags := 0, slot := 1, constantValue := 0 }, { name := "maybeLatin1", type := .boolean, accessFlags := 0, slot := 2, constantValue := 0 }, { name := "count", type := .int, accessFlags := 0, slot := 3, constantValue := 0 }, { name := "EMPTYVALUE", type := (.array .byte), accessFlags := 26, slot := 0, constantValue := 0 }]
  methods := #[k11m0, k11m1, k11m2, k11m3, k11m4, k11m5, k11m6, k11m7, k11m8, k11m9, k11m10]
  instanceTypes := #[(.array .byte), .byte, .boolean, .int]
  staticTypes := #[(.array .byte)]
  resolved := Array.replicate 609 none
  statics := none }

def pool12 : Array CpInfo := pool [(1, .methodref 2 3), (0, .class_ 4), (0, .nameAndType 5 6), (0, u "java/lang/AbstractStringBuilder"), (0, u "<init>"), (0, u "(I)V"), (11, .class_ 20), (1, u "java/lang/String"), (3, .class_ 26), (1, u "java/lang/StringBuilder"), (0, u "append"), (0, u "(Ljava/lang/String;)Ljava/lang/StringBuilder;"), (0, .methodref 2 30), (0, .nameAndType 27 31), (0, u "(Ljava/lang/String;)Ljava/lang/AbstractStringBuilder;"), (21, .methodref 2 54), (0, .nameAndType 27 55), (0, u "(I)Ljava/lang/AbstractStringBuilder;"), (81, .methodref 18 138), (0, .nameAndType 5 139), (0, u "(Ljava/lang/StringBuilder;)V"), (5, u "()V"), (10, u "()I"), (111, u "(I)Ljava/lang/StringBuilder;"), (74, .methodref 2 344), (0, .nameAndType 345 156), (0, u "length"), (3, .class_ 350), (0, u "java/lang/Appendable"), (0, .class_ 352), (0, u "java/io/Serializable"), (0, .class_ 354), (0, u "java/lang/Comparable"), (0, .class_ 356), (0, u "java/lang/CharSequence"), (0, u "serialVersionUID"), (0, u "J"), (40, u "toString"), (0, u "()Ljava/lang/String;")] 21

def k12c0 : Code := { maxStack := 2, maxLocals := 1, code := jdk_67_method_1_code, exceptionTable := #[], attributes := #[] }
def k12m0 : Method := { name := "<init>", desc := "()V", sig := { parameters := [], returnType := none }, accessFlags := 1, code := some k12c0 }
def k12c1 : Code := { maxStack := 2, maxLocals := 2, code := jdk_67_method_7_code, exceptionTable := #[], attributes := #[] }
def k12m1 : Method := { name := "append", desc := "(Ljava/lang/String;)Ljava/lang/StringBuilder;", sig := { parameters := [(.object "java/lang/String")], returnType := some (.object "java/lang/StringBuilder") }, accessFlags := 1, code := some k12c1 }
def k12c2 : Code := { maxStack := 2, maxLocals := 2, code := jdk_67_method_15_code, exceptionTable := #[], attributes := #[] }
def k12m2 : Method := { name := "append", desc := "(I)Ljava/lang/StringBuilder;", sig := { parameters := [.int], returnType := some (.object "java/lang/StringBuilder") }, accessFlags := 1, code := some k12c2 }
def k12c3 : Code := { maxStack := 3, maxLocals := 1, code := jdk_67_method_42_code, exceptionTable := #[], attributes := #[] }
def k12m3 : Method := { name := "toString", desc := "()Ljava/lang/String;", sig := { parameters := [], returnType := some (.object "java/lang/String") }, accessFlags := 1, code := some k12c3 }
def k12c4 : Code := { maxStack := 1, maxLocals := 1, code := jdk_67_method_93_code, exceptionTable := #[], attributes := #[] }
def k12m4 : Method := { name := "length", desc := "()I", sig := { parameters := [], returnType := some .int }, accessFlags := 4161, code := some k12c4 }
/-- java/lang/StringBuilder -/
def k12 : Class := { plain "java/lang/StringBuilder" (some 11) with
  accessFlags := 49
  interfaces := #[10, 2, 3, 4]
  cf := some (fileOf pool12 24 #[] #[{ accessFlags := 1, nameIndex := 5, descriptorIndex := 145, attributes := #[] }, { accessFlags := 1, nameIndex := 27, descriptorIndex := 28, attributes := #[] }, { accessFlags := 1, nameIndex := 27, descriptorIndex := 268, attributes := #[] }, { accessFlags := 1, nameIndex := 399, descriptorIndex := 400, attributes := #[] }, { accessFlags := 4161, nameIndex := 345, descriptorIndex := 156, attributes := #[] }] 49 2 #[349, 351, 353, 355] #[{ accessFlags := 24, nameIndex := 357, descriptorIndex := 358, attributes := #[] }])
  fields := #[{ name := "serialVersionUID", type := .long, accessFlags := 24, slot := 0, constantValue := 0 }]
  methods := #[k12m0, k12m1, k12m2, k12m3, k12m4]
  instanceTypes := #[(.array .byte), .byte, .boolean, .int]
  staticTypes := #[.long]
  resolved := Array.replicate 422 none
  statics := none }

def pool13 : Array CpInfo := pool [(2, .class_ 4), (1, u "java/lang/Object"), (0, u "<init>"), (0, u "()V"), (1, .class_ 10), (1, u "java/lang/System"), (0, u "allowSecurityManager"), (0, u "I"), (16, u "cons"), (0, u "Ljava/io/Console;"), (77, .class_ 110), (1, u "java/lang/System$CallersHolder"), (43, u "initialErrStream"), (0, u "Ljava/io/PrintStream;"), (19, u "security"), (0, u "Ljava/lang/SecurityManager;"), (31, .class_ 209), (0, u "java/lang/System$1"), (7, u "props"), (0, u "Ljava/util/Properties;"), (2, u "lineSeparator"), (0, u "Ljava/lang/String;"), (96, .class_ 321), (1, u "java/lang/System$LoggerFinder"), (5, .class_ 328), (0, u "java/lang/System$Logger"), (67, u "err"), (2, u "out"), (91, u "notSupportedJnuEncoding"), (15, u "in"), (17, u "initialIn"), (0, u "Ljava/io/InputStream;"), (35, u "bootLayer"), (0, u "Ljava/lang/ModuleLayer;"), (99, .class_ 664), (0, u "java/lang/System$2"), (9, u "NEVER"), (2, u "MAYBE"), (49, u "arraycopy"), (0, u "(Ljava/lang/Object;ILjava/lang/Object;II)V"), (72, .class_ 802), (0, u "java/lang/System$Logger$Level")] 31

def k13m0 : Method := { name := "<init>", desc := "()V", sig := { parameters := [], returnType := none }, accessFlags := 2, code := none }
def k13m1 : Method := { name := "arraycopy", desc := "(Ljava/lang/Object;ILjava/lang/Object;II)V", sig := { parameters := [(.object "java/lang/Object"), .int, (.object "java/lang/Object"), .int, .int], returnType := none }, accessFlags := 265, code := none }
/-- java/lang/System -/
def k13 : Class := { plain "java/lang/System" (some 0) with
  accessFlags := 49
  interfaces := #[]
  cf := some (fileOf pool13 8 #[.nestMembers #[319, 327, 801, 108, 663, 208]] #[{ accessFlags := 2, nameIndex := 5, descriptorIndex := 6, attributes := #[] }, { accessFlags := 265, nameIndex := 727, descriptorIndex := 728, attributes := #[] }] 49 2 #[] #[{ accessFlags := 25, nameIndex := 507, descriptorIndex := 526, attributes := #[] }, { accessFlags := 25, nameIndex := 399, descriptorIndex := 155, attributes := #[] }, { accessFlags := 25, nameIndex := 396, descriptorIndex := 155, attributes := #[] }, { accessFlags := 10, nameIndex := 525, descriptorIndex := 526, attributes := #[] }, { accessFlags := 26, nameIndex := 674, descriptorIndex := 12, attributes := #[] }, { accessFlags := 26, nameIndex := 677, descriptorIndex := 12, attributes := #[] }, { accessFlags := 10, nameIndex := 11, descriptorIndex := 12, attributes := #[] }, { accessFlags := 74, nameIndex := 175, descriptorIndex := 176, attributes := #[] }, { accessFlags := 10, nameIndex := 491, descriptorIndex := 222, attributes := #[] }, { accessFlags := 74, nameIndex := 29, descriptorIndex := 30, attributes := #[] }, { accessFlags := 74, nameIndex := 154, descriptorIndex := 155, attributes := #[] }, { accessFlags := 10, nameIndex := 217, descriptorIndex := 218, attributes := #[] }, { accessFlags := 10, nameIndex := 221, descriptorIndex := 222, attributes := #[] }, { accessFlags := 8, nameIndex := 562, descriptorIndex := 563, attributes := #[] }])
  fields := #[{ name := "in", type := (.object "java/io/InputStream"), accessFlags := 25, slot := 0, constantValue := 0 }, { name := "out", type := (.object "java/io/PrintStream"), accessFlags := 25, slot := 1, constantValue := 0 }, { name := "err", type := (.object "java/io/PrintStream"), accessFlags := 25, slot := 2, constantValue := 0 }, { name := "initialIn", type := (.object "java/io/InputStream"), accessFlags := 10, slot := 3, constantValue := 0 }, { name := "NEVER", type := .int, accessFlags := 26, slot := 4, constantValue := 0 }, { name := "MAYBE", type := .int, accessFlags := 26, slot := 5, constantValue := 0 }, { name := "allowSecurityManager", type := .int, accessFlags := 10, slot := 6, constantValue := 0 }, { name := "security", type := (.object "java/lang/SecurityManager"), accessFlags := 74, slot := 7, constantValue := 0 }, { name := "notSupportedJnuEncoding", type := (.object "java/lang/String"), accessFlags := 10, slot := 8, constantValue := 0 }, { name := "cons", type := (.object "java/io/Console"), accessFlags := 74, slot := 9, constantValue := 0 }, { name := "initialErrStream", type := (.object "java/io/PrintStream"), accessFlags := 74, slot := 10, constantValue := 0 }, { name := "props", type := (.object "java/util/Properties"), accessFlags := 10, slot := 11, constantValue := 0 }, { name := "lineSeparator", type := (.object "java/lang/String"), accessFlags := 10, slot := 12, constantValue := 0 }, { name := "bootLayer", type := (.object "java/lang/ModuleLayer"), accessFlags := 8, slot := 13, constantValue := 0 }]
  methods := #[k13m0, k13m1]
  instanceTypes := #[]
  staticTypes := #[(.object "java/io/InputStream"), (.object "java/io/PrintStream"), (.object "java/io/PrintStream"), (.object "java/io/InputStream"), .int, .int, .int, (.object "java/lang/SecurityManager"), (.object "java/lang/String"), (.object "java/io/Console"), (.object "java/io/PrintStream"), (.object "java/util/Properties"), (.object "java/lang/String"), (.object "java/lang/ModuleLayer")]
  resolved := Array.replicate 834 none
  statics := none }

def pool14 : Array CpInfo := pool [(2, .class_ 4), (1, u "java/lang/Object"), (0, u "<init>"), (0, u "()V"), (7, .class_ 16), (1, u "java/util/Arrays"), (57, .class_ 76), (1, u "java/util/Arrays$NaturalOrder"), (32, u "()Ljava/lang/Object;"), (3, .class_ 115), (1, u "java/util/Arrays$LegacyMergeSort"), (1, u "Z"), (10, .nameAndType 129 109), (0, u "clone"), (9, u "copyOfRange"), (10, .methodref 151 152), (0, .class_ 153), (0, .nameAndType 154 155), (0, u "java/lang/System"), (0, u "arraycopy"), (0, u "(Ljava/lang/Object;ILjava/lang/Object;II)V"), (146, u "copyOf"), (1, .methodref 305 306), (0, .class_ 307), (0, .nameAndType 308 309), (0, u "java/lang/Math"), (0, u "min"), (0, u "(II)I"), (0, .methodref 311 128), (0, .class_ 312), (0, u "[B"), (26, .methodref 14 340), (0, .nameAndType 341 342), (0, u "copyOfRangeByte"), (0, u "([BII)[B"), (0, .methodref 14 344), (0, .nameAndType 345 346), (0, u "checkLength"), (0, u "(II)V"), (28, .class_ 376), (0, u "java/util/Arrays$ArrayList"), (68, u "$assertionsDisabled"), (269, u "MIN_ARRAY_SORT_GRAN"), (0, u "I"), (2, u "INSERTIONSORT_THRESHOLD"), (149, u "([BI)[B"), (105, .class_ 976), (0, u "java/util/Arrays$ArrayItr")] 52

def k14m0 : Method := { name := "<init>", desc := "()V", sig := { parameters := [], returnType := none }, accessFlags := 2, code := none }
def k14c1 : Code := { maxStack := 6, maxLocals := 3, code := jdk_65_method_121_code, exceptionTable := #[], attributes := #[] }
def k14m1 : Method := { name := "copyOf", desc := "([BI)[B", sig := { parameters := [(.array .byte), .int], returnType := some (.array .byte) }, accessFlags := 9, code := some k14c1 }
def k14c2 : Code := { maxStack := 4, maxLocals := 2, code := jdk_65_method_131_code, exceptionTable := #[], attributes := #[] }
def k14m2 : Method := { name := "checkLength", desc := "(II)V", sig := { parameters := [.int, .int], returnType := none }, accessFlags := 10, code := some k14c2 }
def k14c3 : Code := { maxStack := 3, maxLocals := 3, code := jdk_65_method_132_code, exceptionTable := #[], attributes := #[] }
def k14m3 : Method := { name := "copyOfRange", desc := "([BII)[B", sig := { parameters := [(.array .byte), .int, .int], returnType := some (.array .byte) }, accessFlags := 9, code := some k14c3 }
def k14c4 : Code := { maxStack := 6, maxLocals := 5, code := jdk_65_method_133_code, exceptionTable := #[], attributes := #[] }
def k14m4 : Method := { name := "copyOfRangeByte", desc := "([BII)[B", sig := { parameters := [(.array .byte), .int, .int], returnType := some (.array .byte) }, accessFlags := 10, code := some k14c4 }
/-- java/util/Arrays -/
def k14 : Class := { plain "java/util/Arrays" (some 0) with
  accessFlags := 49
  interfaces := #[]
  cf := some (fileOf pool14 14 #[.nestMembers #[975, 375, 113, 74]] #[{ accessFlags := 2, nameIndex := 5, descriptorIndex := 6, attributes := #[] }, { accessFlags := 9, nameIndex := 302, descriptorIndex := 869, attributes := #[] }, { accessFlags := 10, nameIndex := 345, descriptorIndex := 346, attributes := #[] }, { accessFlags := 9, nameIndex := 139, descriptorIndex := 342, attributes := #[] }, { accessFlags := 10, nameIndex := 341, descriptorIndex := 342, attributes := #[] }] 49 2 #[] #[{ accessFlags := 26, nameIndex := 715, descriptorIndex := 716, attributes := #[] }, { accessFlags := 26, nameIndex := 719, descriptorIndex := 716, attributes := #[] }, { accessFlags := 4120, nameIndex := 445, descriptorIndex := 117, attributes := #[] }])
  fields := #[{ name := "MIN_ARRAY_SORT_GRAN", type := .int, accessFlags := 26, slot := 0, constantValue := 0 }, { name := "INSERTIONSORT_THRESHOLD", type := .int, accessFlags := 26, slot := 1, constantValue := 0 }, { name := "$assertionsDisabled", type := .boolean, accessFlags := 4120, slot := 2, constantValue := 0 }]
  methods := #[k14m0, k14m1, k14m2, k14m3, k14m4]
  instanceTypes := #[]
  staticTypes := #[.int, .int, .boolean]
  resolved := Array.replicate 1029 none
  statics := none }

def pool15 : Array CpInfo := pool [(1, .class_ 2), (0, u "java/lang/Math"), (1, .class_ 6), (1, u "java/lang/Object"), (0, u "<init>"), (0, u "()V"), (89, .class_ 100), (1, u "java/lang/Math$RandomNumberGeneratorHolder"), (71, u "negativeZeroFloatBits"), (0, u "J"), (2, u "negativeZeroDoubleBits"), (21, u "max"), (2, u "min"), (43, u "$assertionsDisabled"), (0, u "Z"), (88, u "(II)I"), (2, u "twoToTheDoubleScaleDown"), (0, u "D"), (4, u "twoToTheDoubleScaleUp"), (9, u "E"), (3, u "PI"), (2, u "TAU"), (2, u "DEGREES_TO_RADIANS"), (0, u "RADIANS_TO_DEGREES")] 94

def k15m0 : Method := { name := "<init>", desc := "()V", sig := { parameters := [], returnType := none }, accessFlags := 2, code := none }
def k15c1 : Code := { maxStack := 2, maxLocals := 2, code := jdk_29_method_65_code, exceptionTable := #[], attributes := #[] }
def k15m1 : Method := { name := "max", desc := "(II)I", sig := { parameters := [.int, .int], returnType := some .int }, accessFlags := 9, code := some k15c1 }
def k15c2 : Code := { maxStack := 2, maxLocals := 2, code := jdk_29_method_69_code, exceptionTable := #[], attributes := #[] }
def k15m2 : Method := { name := "min", desc := "(II)I", sig := { parameters := [.int, .int], returnType := some .int }, accessFlags := 9, code := some k15c2 }
/-- java/lang/Math -/
def k15 : Class := { plain "java/lang/Math" (some 0) with
  accessFlags := 49
  interfaces := #[]
  cf := some (fileOf pool15 1 #[.nestMembers #[98]] #[{ accessFlags := 2, nameIndex := 7, descriptorIndex := 8, attributes := #[] }, { accessFlags := 9, nameIndex := 198, descriptorIndex := 335, attributes := #[] }, { accessFlags := 9, nameIndex := 201, descriptorIndex := 335, attributes := #[] }] 49 4 #[] #[{ accessFlags := 25, nameIndex := 354, descriptorIndex := 339, attributes := #[] }, { accessFlags := 25, nameIndex := 358, descriptorIndex := 339, attributes := #[] }, { accessFlags := 25, nameIndex := 361, descriptorIndex := 339, attributes := #[] }, { accessFlags := 26, nameIndex := 364, descriptorIndex := 339, attributes := #[] }, { accessFlags := 26, nameIndex := 365, descriptorIndex := 339, attributes := #[] }, { accessFlags := 26, nameIndex := 172, descriptorIndex := 173, attributes := #[] }, { accessFlags := 26, nameIndex := 176, descriptorIndex := 173, attributes := #[] }, { accessFlags := 8, nameIndex := 344, descriptorIndex := 339, attributes := #[] }, { accessFlags := 8, nameIndex := 338, descriptorIndex := 339, attributes := #[] }, { accessFlags := 4120, nameIndex := 245, descriptorIndex := 246, attributes := #[] }])
  fields := #[{ name := "E", type := .double, accessFlags := 25, slot := 0, constantValue := 0 }, { name := "PI", type := .double, accessFlags := 25, slot := 1, constantValue := 0 }, { name := "TAU", type := .double, accessFlags := 25, slot := 2, constantValue := 0 }, { name := "DEGREES_TO_RADIANS", type := .double, accessFlags := 26, slot := 3, constantValue := 0 }, { name := "RADIANS_TO_DEGREES", type := .double, accessFlags := 26, slot := 4, constantValue := 0 }, { name := "negativeZeroFloatBits", type := .long, accessFlags := 26, slot := 5, constantValue := 0 }, { name := "negativeZeroDoubleBits", type := .long, accessFlags := 26, slot := 6, constantValue := 0 }, { name := "twoToTheDoubleScaleUp", type := .double, accessFlags := 8, slot := 7, constantValue := 0 }, { name := "twoToTheDoubleScaleDown", type := .double, accessFlags := 8, slot := 8, constantValue := 0 }, { name := "$assertionsDisabled", type := .boolean, accessFlags := 4120, slot := 9, constantValue := 0 }]
  methods := #[k15m0, k15m1, k15m2]
  instanceTypes := #[]
  staticTypes := #[.double, .double, .double, .double, .double, .long, .long, .double, .double, .boolean]
  resolved := Array.replicate 460 none
  statics := none }

def pool16 : Array CpInfo := pool [(1, .class_ 2), (0, u "java/lang/String"), (1, .class_ 6), (1, u "java/lang/Object"), (0, u "<init>"), (0, u "()V"), (0, .methodref 1 10), (0, .nameAndType 11 12), (0, u "checkIndex"), (0, u "(II)V"), (1, .class_ 16), (1, u "java/lang/StringLatin1"), (36, u "([BI)C"), (67, u "$assertionsDisabled"), (0, u "Z"), (98, .class_ 223), (1, u "java/lang/StringLatin1$LinesSpliterator"), (28, u "charAt"), (137, .class_ 391), (0, u "java/lang/StringLatin1$CharsSpliterator")] 3

def k16m0 : Method := { name := "<init>", desc := "()V", sig := { parameters := [], returnType := none }, accessFlags := 0, code := none }
def k16c1 : Code := { maxStack := 2, maxLocals := 2, code := jdk_43_method_2_code, exceptionTable := #[], attributes := #[] }
def k16m1 : Method := { name := "charAt", desc := "([BI)C", sig := { parameters := [(.array .byte), .int], returnType := some .char }, accessFlags := 9, code := some k16c1 }
/-- java/lang/StringLatin1 -/
def k16 : Class := { plain "java/lang/StringLatin1" (some 0) with
  accessFlags := 48
  interfaces := #[]
  cf := some (fileOf pool16 14 #[.nestMembers #[390, 221]] #[{ accessFlags := 0, nameIndex := 7, descriptorIndex := 8, attributes := #[] }, { accessFlags := 9, nameIndex := 252, descriptorIndex := 53, attributes := #[] }] 48 4 #[] #[{ accessFlags := 4120, nameIndex := 121, descriptorIndex := 122, attributes := #[] }])
  fields := #[{ name := "$assertionsDisabled", type := .boolean, accessFlags := 4120, slot := 0, constantValue := 0 }]
  methods := #[k16m0, k16m1]
  instanceTypes := #[]
  staticTypes := #[.boolean]
  resolved := Array.replicate 395 none
  statics := none }

def pool17 : Array CpInfo := pool [(2, .class_ 4), (1, u "java/lang/Object"), (0, u "<init>"), (0, u "()V"), (17, .class_ 26), (1, u "jdk/internal/util/Preconditions"), (6, u "checkIndex"), (21, .class_ 56), (0, u "jdk/internal/util/Preconditions$4"), (57, .class_ 115), (0, u "jdk/internal/util/Preconditions$1"), (7, u "SIOOBE_FORMATTER"), (0, u "Ljava/util/function/BiFunction;"), (0, .class_ 126), (0, u "jdk/internal/util/Preconditions$2"), (3, u "AIOOBE_FORMATTER"), (0, .class_ 132), (0, u "jdk/internal/util/Preconditions$3"), (3, u "IOOBE_FORMATTER"), (41, u "(IILjava/util/function/BiFunction;)I")] 15

def k17m0 : Method := { name := "<init>", desc := "()V", sig := { parameters := [], returnType := none }, accessFlags := 1, code := none }
def k17c1 : Code := { maxStack := 3, maxLocals := 3, code := jdk_41_method_11_code, exceptionTable := #[], attributes := #[] }
def k17m1 : Method := { name := "checkIndex", desc := "(IILjava/util/function/BiFunction;)I", sig := { parameters := [.int, .int, (.object "java/util/function/BiFunction")], returnType := some .int }, accessFlags := 9, code := some k17c1 }
/-- jdk/internal/util/Preconditions -/
def k17 : Class := { plain "jdk/internal/util/Preconditions" (some 0) with
  accessFlags := 33
  interfaces := #[]
  cf := some (fileOf pool17 24 #[.nestMembers #[55, 131, 125, 114]] #[{ accessFlags := 1, nameIndex := 5, descriptorIndex := 6, attributes := #[] }, { accessFlags := 9, nameIndex := 33, descriptorIndex := 178, attributes := #[] }] 33 2 #[] #[{ accessFlags := 25, nameIndex := 123, descriptorIndex := 124, attributes := #[] }, { accessFlags := 25, nameIndex := 130, descriptorIndex := 124, attributes := #[] }, { accessFlags := 25, nameIndex := 136, descriptorIndex := 124, attributes := #[] }])
  fields := #[{ name := "SIOOBE_FORMATTER", type := (.object "java/util/function/BiFunction"), accessFlags := 25, slot := 0, constantValue := 0 }, { name := "AIOOBE_FORMATTER", type := (.object "java/util/function/BiFunction"), accessFlags := 25, slot := 1, constantValue := 0 }, { name := "IOOBE_FORMATTER", type := (.object "java/util/function/BiFunction"), accessFlags := 25, slot := 2, constantValue := 0 }]
  methods := #[k17m0, k17m1]
  instanceTypes := #[]
  staticTypes := #[(.object "java/util/function/BiFunction"), (.object "java/util/function/BiFunction"), (.object "java/util/function/BiFunction")]
  resolved := Array.replicate 194 none
  statics := some 1 }

def pool18 : Array CpInfo := pool [(2, .class_ 4), (1, u "java/lang/Object"), (0, u "<init>"), (0, u "()V"), (1, .class_ 10), (1, u "java/lang/Number"), (2, .class_ 14), (0, u "java/io/Serializable"), (0, u "serialVersionUID"), (0, u "J")] 20

def k18m0 : Method := { name := "<init>", desc := "()V", sig := { parameters := [], returnType := none }, accessFlags := 1, code := none }
/-- java/lang/Number -/
def k18 : Class := { plain "java/lang/Number" (some 0) with
  accessFlags := 1057
  interfaces := #[2]
  cf := some (fileOf pool18 8 #[] #[{ accessFlags := 1, nameIndex := 5, descriptorIndex := 6, attributes := #[] }] 1057 2 #[13] #[{ accessFlags := 26, nameIndex := 15, descriptorIndex := 16, attributes := #[] }])
  fields := #[{ name := "serialVersionUID", type := .long, accessFlags := 26, slot := 0, constantValue := 0 }]
  methods := #[k18m0]
  instanceTypes := #[]
  staticTypes := #[.long]
  resolved := Array.replicate 37 none
  statics := none }

def pool19 : Array CpInfo := pool [(1, .class_ 2), (0, u "java/lang/Integer"), (16, u "digits"), (0, u "[C"), (33, u "(I)I"), (19, u "stringSize"), (2, u "getChars"), (0, u "(II[B)I"), (4, .fieldref 1 84), (0, .nameAndType 85 86), (0, u "DigitOnes"), (0, u "[B"), (0, .fieldref 1 88), (0, .nameAndType 89 86), (0, u "DigitTens"), (99, .class_ 190), (0, u "java/lang/Integer$IntegerCache"), (3, u "I"), (8, .class_ 204), (0, u "java/lang/Number"), (2, u "value"), (94, u "TYPE"), (0, u "Ljava/lang/Class;"), (0, .class_ 305), (0, u "java/lang/Comparable"), (0, .class_ 307), (0, u "java/lang/constant/Constable"), (0, .class_ 309), (0, u "java/lang/constant/ConstantDesc"), (0, u "MIN_VALUE"), (1, u "MAX_VALUE"), (3, u "SIZE"), (1, u "BYTES"), (1, u "serialVersionUID"), (0, u "J")] 131

def k19c0 : Code := { maxStack := 4, maxLocals := 7, code := jdk_33_method_12_code, exceptionTable := #[], attributes := #[] }
def k19m0 : Method := { name := "getChars", desc := "(II[B)I", sig := { parameters := [.int, .int, (.array .byte)], returnType := some .int }, accessFlags := 8, code := some k19c0 }
def k19c1 : Code := { maxStack := 2, maxLocals := 4, code := jdk_33_method_13_code, exceptionTable := #[], attributes := #[] }
def k19m1 : Method := { name := "stringSize", desc := "(I)I", sig := { parameters := [.int], returnType := some .int }, accessFlags := 8, code := some k19c1 }
/-- java/lang/Integer -/
def k19 : Class := { plain "java/lang/Integer" (some 18) with
  accessFlags := 49
  interfaces := #[3, 5, 6]
  cf := some (fileOf pool19 1 #[.nestMembers #[189]] #[{ accessFlags := 8, nameIndex := 77, descriptorIndex := 78, attributes := #[] }, { accessFlags := 8, nameIndex := 74, descriptorIndex := 54, attributes := #[] }] 49 203 #[304, 306, 308] #[{ accessFlags := 25, nameIndex := 310, descriptorIndex := 194, attributes := #[] }, { accessFlags := 25, nameIndex := 312, descriptorIndex := 194, attributes := #[] }, { accessFlags := 25, nameIndex := 302, descriptorIndex := 303, attributes := #[] }, { accessFlags := 24, nameIndex := 19, descriptorIndex := 20, attributes := #[] }, { accessFlags := 24, nameIndex := 89, descriptorIndex := 86, attributes := #[] }, { accessFlags := 24, nameIndex := 85, descriptorIndex := 86, attributes := #[] }, { accessFlags := 18, nameIndex := 207, descriptorIndex := 194, attributes := #[] }, { accessFlags := 25, nameIndex := 316, descriptorIndex := 194, attributes := #[] }, { accessFlags := 25, nameIndex := 318, descriptorIndex := 194, attributes := #[] }, { accessFlags := 26, nameIndex := 320, descriptorIndex := 321, attributes := #[] }])
  fields := #[{ name := "MIN_VALUE", type := .int, accessFlags := 25, slot := 0, constantValue := 0 }, { name := "MAX_VALUE", type := .int, accessFlags := 25, slot := 1, constantValue := 0 }, { name := "TYPE", type := (.object "java/lang/Class"), accessFlags := 25, slot := 2, constantValue := 0 }, { name := "digits", type := (.array .char), accessFlags := 24, slot := 3, constantValue := 0 }, { name := "DigitTens", type := (.array .byte), accessFlags := 24, slot := 4, constantValue := 0 }, { name := "DigitOnes", type := (.array .byte), accessFlags := 24, slot := 5, constantValue := 0 }, { name := "value", type := .int, accessFlags := 18, slot := 0, constantValue := 0 }, { name := "SIZE", type := .int, accessFlags := 25, slot := 6, constantValue := 0 }, { name := "BYTES", type := .int, accessFlags := 25, slot := 7, constantValue := 0 }, { name := "serialVersionUID", type := .long, accessFlags := 26, slot := 8, constantValue := 0 }]
  methods := #[k19m0, k19m1]
  instanceTypes := #[.int]
  staticTypes := #[.int, .int, (.object "java/lang/Class"), (.array .char), (.array .byte), (.array .byte), .int, .int, .long]
  resolved := Array.replicate 453 none
  statics := some 2 }

def pool20 : Array CpInfo := pool [(6, .class_ 8), (1, u "java/lang/Object"), (0, u "<init>"), (0, u "()V"), (1, .class_ 14), (1, u "java/lang/StringUTF16"), (31, u "$assertionsDisabled"), (0, u "Z"), (13, u "HI_BYTE_SHIFT"), (0, u "I"), (2, u "LO_BYTE_SHIFT"), (49, .methodref 12 116), (0, .nameAndType 117 118), (0, u "compress"), (0, u "([CI[BII)I"), (3, u "([CII)[B"), (138, u "coderFromArrayLen"), (0, u "([BI)B"), (106, .class_ 371), (1, u "java/lang/StringUTF16$LinesSpliterator"), (58, u "MAX_LENGTH"), (196, .class_ 628), (0, u "java/lang/StringUTF16$CodePointsSpliterator"), (0, .class_ 630), (0, u "java/lang/StringUTF16$CharsSpliterator")] 4

def k20m0 : Method := { name := "<init>", desc := "()V", sig := { parameters := [], returnType := none }, accessFlags := 0, code := none }
def k20c1 : Code := { maxStack := 2, maxLocals := 2, code := jdk_52_method_15_code, exceptionTable := #[], attributes := #[] }
def k20m1 : Method := { name := "coderFromArrayLen", desc := "([BI)B", sig := { parameters := [(.array .byte), .int], returnType := some .byte }, accessFlags := 8, code := some k20c1 }
def k20c2 : Code := { maxStack := 5, maxLocals := 6, code := jdk_52_method_16_code, exceptionTable := #[], attributes := #[] }
def k20m2 : Method := { name := "compress", desc := "([CII)[B", sig := { parameters := [(.array .char), .int, .int], returnType := some (.array .byte) }, accessFlags := 9, code := some k20c2 }
def k20c3 : Code := { maxStack := 3, maxLocals := 7, code := jdk_52_method_21_code, exceptionTable := #[], attributes := #[] }
def k20m3 : Method := { name := "compress", desc := "([CI[BII)I", sig := { parameters := [(.array .char), .int, (.array .byte), .int, .int], returnType := some .int }, accessFlags := 9, code := some k20c3 }
/-- java/lang/StringUTF16 -/
def k20 : Class := { plain "java/lang/StringUTF16" (some 0) with
  accessFlags := 48
  interfaces := #[]
  cf := some (fileOf pool20 12 #[.nestMembers #[627, 629, 369]] #[{ accessFlags := 0, nameIndex := 9, descriptorIndex := 10, attributes := #[] }, { accessFlags := 8, nameIndex := 261, descriptorIndex := 262, attributes := #[] }, { accessFlags := 9, nameIndex := 117, descriptorIndex := 122, attributes := #[] }, { accessFlags := 9, nameIndex := 117, descriptorIndex := 118, attributes := #[] }] 48 6 #[] #[{ accessFlags := 26, nameIndex := 61, descriptorIndex := 62, attributes := #[] }, { accessFlags := 26, nameIndex := 65, descriptorIndex := 62, attributes := #[] }, { accessFlags := 24, nameIndex := 430, descriptorIndex := 62, attributes := #[] }, { accessFlags := 4120, nameIndex := 46, descriptorIndex := 47, attributes := #[] }])
  fields := #[{ name := "HI_BYTE_SHIFT", type := .int, accessFlags := 26, slot := 0, constantValue := 0 }, { name := "LO_BYTE_SHIFT", type := .int, accessFlags := 26, slot := 1, constantValue := 0 }, { name := "MAX_LENGTH", type := .int, accessFlags := 24, slot := 2, constantValue := 0 }, { name := "$assertionsDisabled", type := .boolean, accessFlags := 4120, slot := 3, constantValue := 0 }]
  methods := #[k20m0, k20m1, k20m2, k20m3]
  instanceTypes := #[]
  staticTypes := #[.int, .int, .int, .boolean]
  resolved := Array.replicate 635 none
  statics := none }

def pool21 : Array CpInfo := pool [(9, u "<init>"), (6, .class_ 18), (1, u "java/lang/Object"), (0, u "()V"), (1, .class_ 23), (1, u "jdk/internal/util/ArraysSupport"), (0, u "LOG2_ARRAY_LONG_INDEX_SCALE"), (0, u "I"), (2, u "U"), (0, u "Ljdk/internal/misc/Unsafe;"), (8, u "BIG_ENDIAN"), (0, u "Z"), (8, u "LOG2_BYTE_BIT_SIZE"), (4, u "LOG2_ARRAY_INT_INDEX_SCALE"), (54, u "JLA"), (0, u "Ljdk/internal/access/JavaLangAccess;"), (11, u "LOG2_ARRAY_BOOLEAN_INDEX_SCALE"), (9, u "LOG2_ARRAY_BYTE_INDEX_SCALE"), (5, u "LOG2_ARRAY_CHAR_INDEX_SCALE"), (5, u "LOG2_ARRAY_SHORT_INDEX_SCALE"), (18, u "LOG2_ARRAY_FLOAT_INDEX_SCALE"), (24, u "LOG2_ARRAY_DOUBLE_INDEX_SCALE"), (6, .methodref 195 196), (0, .class_ 197), (0, .nameAndType 198 199), (0, u "java/lang/Math"), (0, u "max"), (0, u "(II)I"), (0, .integer 2147483639), (76, u "T_BOOLEAN"), (2, u "T_CHAR"), (1, u "T_FLOAT"), (1, u "T_DOUBLE"), (1, u "T_BYTE"), (1, u "T_SHORT"), (1, u "T_INT"), (1, u "T_LONG"), (1, u "SOFT_MAX_ARRAY_LENGTH"), (56, u "newLength"), (0, u "(III)I")] 25

def k21m0 : Method := { name := "<init>", desc := "()V", sig := { parameters := [], returnType := none }, accessFlags := 2, code := none }
def k21c1 : Code := { maxStack := 3, maxLocals := 4, code := jdk_48_method_27_code, exceptionTable := #[], attributes := #[] }
def k21m1 : Method := { name := "newLength", desc := "(III)I", sig := { parameters := [.int, .int, .int], returnType := some .int }, accessFlags := 9, code := some k21c1 }
/-- jdk/internal/util/ArraysSupport -/
def k21 : Class := { plain "jdk/internal/util/ArraysSupport" (some 0) with
  accessFlags := 33
  interfaces := #[]
  cf := some (fileOf pool21 21 #[] #[{ accessFlags := 2, nameIndex := 9, descriptorIndex := 19, attributes := #[] }, { accessFlags := 9, nameIndex := 351, descriptorIndex := 352, attributes := #[] }] 33 16 #[] #[{ accessFlags := 24, nameIndex := 28, descriptorIndex := 29, attributes := #[] }, { accessFlags := 26, nameIndex := 38, descriptorIndex := 39, attributes := #[] }, { accessFlags := 25, nameIndex := 121, descriptorIndex := 25, attributes := #[] }, { accessFlags := 25, nameIndex := 131, descriptorIndex := 25, attributes := #[] }, { accessFlags := 25, nameIndex := 137, descriptorIndex := 25, attributes := #[] }, { accessFlags := 25, nameIndex := 143, descriptorIndex := 25, attributes := #[] }, { accessFlags := 25, nameIndex := 53, descriptorIndex := 25, attributes := #[] }, { accessFlags := 25, nameIndex := 24, descriptorIndex := 25, attributes := #[] }, { accessFlags := 25, nameIndex := 162, descriptorIndex := 25, attributes := #[] }, { accessFlags := 25, nameIndex := 187, descriptorIndex := 25, attributes := #[] }, { accessFlags := 26, nameIndex := 48, descriptorIndex := 25, attributes := #[] }, { accessFlags := 25, nameIndex := 277, descriptorIndex := 25, attributes := #[] }, { accessFlags := 25, nameIndex := 280, descriptorIndex := 25, attributes := #[] }, { accessFlags := 25, nameIndex := 282, descriptorIndex := 25, attributes := #[] }, { accessFlags := 25, nameIndex := 284, descriptorIndex := 25, attributes := #[] }, { accessFlags := 25, nameIndex := 286, descriptorIndex := 25, attributes := #[] }, { accessFlags := 25, nameIndex := 288, descriptorIndex := 25, attributes := #[] }, { accessFlags := 25, nameIndex := 290, descriptorIndex := 25, attributes := #[] }, { accessFlags := 25, nameIndex := 292, descriptorIndex := 25, attributes := #[] }, { accessFlags := 26, nameIndex := 108, descriptorIndex := 109, attributes := #[] }, { accessFlags := 25, nameIndex := 294, descriptorIndex := 25, attributes := #[] }])
  fields := #[{ name := "U", type := (.object "jdk/internal/misc/Unsafe"), accessFlags := 24, slot := 0, constantValue := 0 }, { name := "BIG_ENDIAN", type := .boolean, accessFlags := 26, slot := 1, constantValue := 0 }, { name := "LOG2_ARRAY_BOOLEAN_INDEX_SCALE", type := .int, accessFlags := 25, slot := 2, constantValue := 0 }, { name := "LOG2_ARRAY_BYTE_INDEX_SCALE", type := .int, accessFlags := 25, slot := 3, constantValue := 0 }, { name := "LOG2_ARRAY_CHAR_INDEX_SCALE", type := .int, accessFlags := 25, slot := 4, constantValue := 0 }, { name := "LOG2_ARRAY_SHORT_INDEX_SCALE", type := .int, accessFlags := 25, slot := 5, constantValue := 0 }, { name := "LOG2_ARRAY_INT_INDEX_SCALE", type := .int, accessFlags := 25, slot := 6, constantValue := 0 }, { name := "LOG2_ARRAY_LONG_INDEX_SCALE", type := .int, accessFlags := 25, slot := 7, constantValue := 0 }, { name := "LOG2_ARRAY_FLOAT_INDEX_SCALE", type := .int, accessFlags := 25, slot := 8, constantValue := 0 }, { name := "LOG2_ARRAY_DOUBLE_INDEX_SCALE", type := .int, accessFlags := 25, slot := 9, constantValue := 0 }, { name := "LOG2_BYTE_BIT_SIZE", type := .int, accessFlags := 26, slot := 10, constantValue := 0 }, { name := "T_BOOLEAN", type := .int, accessFlags := 25, slot := 11, constantValue := 0 }, { name := "T_CHAR", type := .int, accessFlags := 25, slot := 12, constantValue := 0 }, { name := "T_FLOAT", type := .int, accessFlags := 25, slot := 13, constantValue := 0 }, { name := "T_DOUBLE", type := .int, accessFlags := 25, slot := 14, constantValue := 0 }, { name := "T_BYTE", type := .int, accessFlags := 25, slot := 15, constantValue := 0 }, { name := "T_SHORT", type := .int, accessFlags := 25, slot := 16, constantValue := 0 }, { name := "T_INT", type := .int, accessFlags := 25, slot := 17, constantValue := 0 }, { name := "T_LONG", type := .int, accessFlags := 25, slot := 18, constantValue := 0 }, { name := "JLA", type := (.object "jdk/internal/access/JavaLangAccess"), accessFlags := 26, slot := 19, constantValue := 0 }, { name := "SOFT_MAX_ARRAY_LENGTH", type := .int, accessFlags := 25, slot := 20, constantValue := 0 }]
  methods := #[k21m0, k21m1]
  instanceTypes := #[]
  staticTypes := #[(.object "jdk/internal/misc/Unsafe"), .boolean, .int, .int, .int, .int, .int, .int, .int, .int, .int, .int, .int, .int, .int, .int, .int, .int, .int, (.object "jdk/internal/access/JavaLangAccess"), .int]
  resolved := Array.replicate 378 none
  statics := none }

def pool22 : Array CpInfo := pool [(1, .class_ 2), (0, u "java/lang/Cloneable"), (0, .class_ 4), (0, u "java/lang/Object")] 2

/-- java/lang/Cloneable -/
def k22 : Class := { plain "java/lang/Cloneable" (some 0) with
  accessFlags := 1537
  interfaces := #[]
  cf := some (fileOf pool22 1 #[] #[] 1537 3 #[] #[])
  fields := #[]
  methods := #[]
  instanceTypes := #[]
  staticTypes := #[]
  resolved := Array.replicate 7 none
  statics := none }

/-- the primitive byte -/
def k23 : Class := { plain "byte" none with kind := .primitive 'B', accessFlags := 0x411 }
/-- [B -/
def k24 : Class := { plain "[B" (some 0) with kind := .array 23 .byte, interfaces := #[22, 2], accessFlags := 1041 }

/-- the primitive char -/
def k25 : Class := { plain "char" none with kind := .primitive 'C', accessFlags := 0x411 }
/-- [C -/
def k26 : Class := { plain "[C" (some 0) with kind := .array 25 .char, interfaces := #[22, 2], accessFlags := 1041 }

/-- the primitive int -/
def k27 : Class := { plain "int" none with kind := .primitive 'I', accessFlags := 0x411 }
/-- [I -/
def k28 : Class := { plain "[I" (some 0) with kind := .array 27 .int, interfaces := #[22, 2], accessFlags := 1041 }

def heap : Heap := #[{ cls := 7, slots := #[.long 0, .int 1, .null, .int 0, .null, .int 0, .int 0], vm := .statics 7 },
  { cls := 17, slots := #[.null, .null, .null], vm := .statics 17 },
  { cls := 19, slots := #[.int 0, .int 0, .null, .null, .ref 4, .ref 3, .int 0, .int 0, .long 0], vm := .statics 19 },
  { cls := 24, slots := #[.int 48, .int 49, .int 50, .int 51, .int 52, .int 53, .int 54, .int 55, .int 56, .int 57, .int 48, .int 49, .int 50, .int 51, .int 52, .int 53, .int 54, .int 55, .int 56, .int 57, .int 48, .int 49, .int 50, .int 51, .int 52, .int 53, .int 54, .int 55, .int 56, .int 57, .int 48, .int 49, .int 50, .int 51, .int 52, .int 53, .int 54, .int 55, .int 56, .int 57, .int 48, .int 49, .int 50, .int 51, .int 52, .int 53, .int 54, .int 55, .int 56, .int 57, .int 48, .int 49, .int 50, .int 51, .int 52, .int 53, .int 54, .int 55, .int 56, .int 57, .int 48, .int 49, .int 50, .int 51, .int 52, .int 53, .int 54, .int 55, .int 56, .int 57, .int 48, .int 49, .int 50, .int 51, .int 52, .int 53, .int 54, .int 55, .int 56, .int 57, .int 48, .int 49, .int 50, .int 51, .int 52, .int 53, .int 54, .int 55, .int 56, .int 57, .int 48, .int 49, .int 50, .int 51, .int 52, .int 53, .int 54, .int 55, .int 56, .int 57], vm := .none },
  { cls := 24, slots := #[.int 48, .int 48, .int 48, .int 48, .int 48, .int 48, .int 48, .int 48, .int 48, .int 48, .int 49, .int 49, .int 49, .int 49, .int 49, .int 49, .int 49, .int 49, .int 49, .int 49, .int 50, .int 50, .int 50, .int 50, .int 50, .int 50, .int 50, .int 50, .int 50, .int 50, .int 51, .int 51, .int 51, .int 51, .int 51, .int 51, .int 51, .int 51, .int 51, .int 51, .int 52, .int 52, .int 52, .int 52, .int 52, .int 52, .int 52, .int 52, .int 52, .int 52, .int 53, .int 53, .int 53, .int 53, .int 53, .int 53, .int 53, .int 53, .int 53, .int 53, .int 54, .int 54, .int 54, .int 54, .int 54, .int 54, .int 54, .int 54, .int 54, .int 54, .int 55, .int 55, .int 55, .int 55, .int 55, .int 55, .int 55, .int 55, .int 55, .int 55, .int 56, .int 56, .int 56, .int 56, .int 56, .int 56, .int 56, .int 56, .int 56, .int 56, .int 57, .int 57, .int 57, .int 57, .int 57, .int 57, .int 57, .int 57, .int 57, .int 57], vm := .none }]
def classes : Array Class := #[k0, k1, k2, k3, k4, k5, k6, k7, k8, k9, k10, k11, k12, k13, k14, k15, k16, k17, k18, k19, k20, k21, k22, k23, k24, k25, k26, k27, k28]
def interned : List (Array UInt16 × Addr) := []
def slotsUsed : Nat := 219
def theMethod : MethodId := ⟨1, 1⟩
def args0 : Array Value := #[.int 5, .int 3, .int 5, .int 1]
def aboutOver (below : List Frame) : State where
  vm := { classes := classes, interned := interned.toArray }
  heap := heap
  slotsUsed := slotsUsed
  threads := #[{ frames := .invoking theMethod args0 :: below }]
def below0 : List Frame := [.native { method := ⟨0, 0⟩, args := #[] }]
def about1 : State := aboutOver below0
def p0 : Program := .bare "" "" ""
def e0 : Env := launch0.env 0 0 0
theorem w_frames : about1.frames = Frame.invoking theMethod args0 :: below0 := rfl
set_option maxRecDepth 65536 in
theorem w_args : argsFit about1.vm theMethod args0 = true := by decide +kernel
set_option maxRecDepth 65536 in
theorem w_heap : heapFits about1 = true := by decide +kernel
set_option maxRecDepth 65536 in
theorem w_runnable : about1.curStatus? = some .runnable := by decide +kernel
set_option maxRecDepth 65536 in
theorem w_alone : about1.alone = true := by decide +kernel
set_option maxRecDepth 65536 in
theorem w_named : about1.methodNamed? x = some theMethod := by decide +kernel
set_option maxRecDepth 65536 in
theorem w_hears : about1.hears theMethod below0 = true := by decide +kernel
set_option maxRecDepth 65536 in
theorem w_ripe : about1.ripe theMethod args0 below0 = true := by decide +kernel
theorem w_running : about1.status = .running := rfl
set_option maxRecDepth 65536 in
theorem w_room : about1.hasRoom e0.platform room_1 = true :=
  launch0.hasRoom_least _ room_1 (by decide +kernel) (by decide +kernel) (by decide +kernel) (by decide +kernel) (by decide +kernel) (by decide +kernel)
theorem allAtoms_all (ts : List Jvm.Cond) (a : Array Jvm.Value) (st : Jvm.State) : (allAtoms ts).before a st = ts.all (fun c => c.before a st) := by
  induction ts with
  | nil => rfl
  | cons c t ih =>
    show (Jvm.Cond.and c (allAtoms t)).before a st = _
    rw [Jvm.Cond.before_and, ih, List.all_cons]
def words1 : List Jvm.Cond := Jvm.Cond.code x code maxLocals ret :: tables_1
/-- a 'code' word, met by the world's own term for the bytes: nothing is compared byte by byte -/
theorem code_word {y : MethodName} {bytes : ByteArray} {mx : Nat} {rt : Option FieldType} {a : Array Value} {s : State} {m : MethodId} {meth : Method} {c : Code} (h1 : s.methodNamed? y = some m) (h2 : s.vm.method? m = some meth) (h3 : meth.code = some c) (h4 : c.code = bytes)
    (h5 : (c.maxLocals == mx && c.exceptionTable.isEmpty && decide (c.maxStack ≤ mostOperands) && decide (meth.sig.returnType = rt) && !meth.locks && decide (parseMethodDescriptor y.desc = some meth.sig)) = true) : (Jvm.Cond.code y bytes mx rt).before a s = true := by
  simp only [Bool.and_eq_true, beq_iff_eq, Bool.not_eq_true', decide_eq_true_eq] at h5
  obtain ⟨⟨⟨⟨⟨g1, g2⟩, g3⟩, g4⟩, g5⟩, g6⟩ := h5
  simp [Cond.before, Cond.holds, Cond.value, h1, h2, h3, h4, g1, g2, g3, g4, g5, g6]
def isCode : Jvm.Cond → Bool
  | .code _ _ _ _ => true
  | _ => false
theorem all_split {L : List Jvm.Cond} {P : Jvm.Cond → Bool} (h1 : L.all (fun c => isCode c || P c) = true) (h2 : ∀ c ∈ L.filter isCode, P c = true) : L.all P = true := by
  refine List.all_eq_true.mpr fun c hc => ?_
  have h := List.all_eq_true.mp h1 c hc
  rcases Bool.eq_false_or_eq_true (isCode c) with hi | hi
  · exact h2 c (List.mem_filter.mpr ⟨hc, hi⟩)
  · simpa [hi] using h
set_option maxRecDepth 65536 in
theorem w_c0 : (Jvm.Cond.code x code maxLocals ret).before args0 about1 = true := code_word (m := ⟨1, 1⟩) (meth := k1m1) (c := k1c1) (by decide +kernel) rfl rfl rfl (by decide +kernel)
set_option maxRecDepth 65536 in
theorem w_c1 : (Jvm.Cond.code ({ cls := "com/example/typeloom/typeloom/ProblemToStringPinLaw", name := "mk", desc := "(I)Ljava/lang/String;" } : Jvm.MethodName) method_3_code (5 : Nat) (Option.some (Jvm.ClassFile.FieldType.object "java/lang/String"))).before args0 about1 = true := code_word (m := ⟨1, 2⟩) (meth := k1m2) (c := k1c2) (by decide +kernel) rfl rfl rfl (by decide +kernel)
set_option maxRecDepth 65536 in
theorem w_c2 : (Jvm.Cond.code ({ cls := "java/lang/String", name := "<init>", desc := "([C)V" } : Jvm.MethodName) jdk_42_method_3_code (2 : Nat) (Option.none : Option Jvm.ClassFile.FieldType)).before args0 about1 = true := code_word (m := ⟨7, 1⟩) (meth := k7m1) (c := k7c1) (by decide +kernel) rfl rfl rfl (by decide +kernel)
set_option maxRecDepth 65536 in
theorem w_c3 : (Jvm.Cond.code ({ cls := "java/lang/String", name := "<init>", desc := "([CIILjava/lang/Void;)V" } : Jvm.MethodName) jdk_42_method_149_code (6 : Nat) (Option.none : Option Jvm.ClassFile.FieldType)).before args0 about1 = true := code_word (m := ⟨7, 6⟩) (meth := k7m6) (c := k7c6) (by decide +kernel) rfl rfl rfl (by decide +kernel)
set_option maxRecDepth 65536 in
theorem w_c4 : (Jvm.Cond.code ({ cls := "java/lang/Object", name := "<init>", desc := "()V" } : Jvm.MethodName) object_method_1_code (1 : Nat) (Option.none : Option Jvm.ClassFile.FieldType)).before args0 about1 = true := code_word (m := ⟨0, 0⟩) (meth := k0m0) (c := k0c0) (by decide +kernel) rfl rfl rfl (by decide +kernel)
set_option maxRecDepth 65536 in
theorem w_c5 : (Jvm.Cond.code ({ cls := "com/example/typeloom/typeloom/Problem", name := "<init>", desc := "(Ljava/lang/String;ILjava/lang/String;)V" } : Jvm.MethodName) prog_6_method_1_code (4 : Nat) (Option.none : Option Jvm.ClassFile.FieldType)).before args0 about1 = true := code_word (m := ⟨9, 0⟩) (meth := k9m0) (c := k9c0) (by decide +kernel) rfl rfl rfl (by decide +kernel)
set_option maxRecDepth 65536 in
theorem w_c6 : (Jvm.Cond.code ({ cls := "java/lang/Record", name := "<init>", desc := "()V" } : Jvm.MethodName) jdk_30_method_1_code (1 : Nat) (Option.none : Option Jvm.ClassFile.FieldType)).before args0 about1 = true := code_word (m := ⟨8, 0⟩) (meth := k8m0) (c := k8c0) (by decide +kernel) rfl rfl rfl (by decide +kernel)
set_option maxRecDepth 65536 in
theorem w_c7 : (Jvm.Cond.code ({ cls := "com/example/typeloom/typeloom/Problem", name := "toString", desc := "()Ljava/lang/String;" } : Jvm.MethodName) prog_6_method_2_code (2 : Nat) (Option.some (Jvm.ClassFile.FieldType.object "java/lang/String"))).before args0 about1 = true := code_word (m := ⟨9, 1⟩) (meth := k9m1) (c := k9c1) (by decide +kernel) rfl rfl rfl (by decide +kernel)
set_option maxRecDepth 65536 in
theorem w_c8 : (Jvm.Cond.code ({ cls := "java/lang/StringBuilder", name := "<init>", desc := "()V" } : Jvm.MethodName) jdk_67_method_1_code (1 : Nat) (Option.none : Option Jvm.ClassFile.FieldType)).before args0 about1 = true := code_word (m := ⟨12, 0⟩) (meth := k12m0) (c := k12c0) (by decide +kernel) rfl rfl rfl (by decide +kernel)
set_option maxRecDepth 65536 in
theorem w_c9 : (Jvm.Cond.code ({ cls := "java/lang/AbstractStringBuilder", name := "<init>", desc := "(I)V" } : Jvm.MethodName) jdk_68_method_2_code (2 : Nat) (Option.none : Option Jvm.ClassFile.FieldType)).before args0 about1 = true := code_word (m := ⟨11, 1⟩) (meth := k11m1) (c := k11c1) (by decide +kernel) rfl rfl rfl (by decide +kernel)
set_option maxRecDepth 65536 in
theorem w_c10 : (Jvm.Cond.code ({ cls := "java/lang/StringBuilder", name := "append", desc := "(Ljava/lang/String;)Ljava/lang/StringBuilder;" } : Jvm.MethodName) jdk_67_method_7_code (2 : Nat) (Option.some (Jvm.ClassFile.FieldType.object "java/lang/StringBuilder"))).before args0 about1 = true := code_word (m := ⟨12, 1⟩) (meth := k12m1) (c := k12c1) (by decide +kernel) rfl rfl rfl (by decide +kernel)
set_option maxRecDepth 65536 in
theorem w_c11 : (Jvm.Cond.code ({ cls := "java/lang/AbstractStringBuilder", name := "append", desc := "(Ljava/lang/String;)Ljava/lang/AbstractStringBuilder;" } : Jvm.MethodName) jdk_68_method_22_code (3 : Nat) (Option.some (Jvm.ClassFile.FieldType.object "java/lang/AbstractStringBuilder"))).before args0 about1 = true := code_word (m := ⟨11, 5⟩) (meth := k11m5) (c := k11c5) (by decide +kernel) rfl rfl rfl (by decide +kernel)
set_option maxRecDepth 65536 in
theorem w_c12 : (Jvm.Cond.code ({ cls := "java/lang/String", name := "length", desc := "()I" } : Jvm.MethodName) jdk_42_method_54_code (1 : Nat) (Option.some Jvm.ClassFile.FieldType.int)).before args0 about1 = true := code_word (m := ⟨7, 3⟩) (meth := k7m3) (c := k7c3) (by decide +kernel) rfl rfl rfl (by decide +kernel)
set_option maxRecDepth 65536 in
theorem w_c13 : (Jvm.Cond.code ({ cls := "java/lang/String", name := "coder", desc := "()B" } : Jvm.MethodName) jdk_42_method_152_code (1 : Nat) (Option.some Jvm.ClassFile.FieldType.byte)).before args0 about1 = true := code_word (m := ⟨7, 8⟩) (meth := k7m8) (c := k7c8) (by decide +kernel) rfl rfl rfl (by decide +kernel)
set_option maxRecDepth 65536 in
theorem w_c14 : (Jvm.Cond.code ({ cls := "java/lang/AbstractStringBuilder", name := "ensureCapacityInternal", desc := "(I)V" } : Jvm.MethodName) jdk_68_method_9_code (3 : Nat) (Option.none : Option Jvm.ClassFile.FieldType)).before args0 about1 = true := code_word (m := ⟨11, 3⟩) (meth := k11m3) (c := k11c3) (by decide +kernel) rfl rfl rfl (by decide +kernel)
set_option maxRecDepth 65536 in
theorem w_c15 : (Jvm.Cond.code ({ cls := "java/lang/AbstractStringBuilder", name := "putStringAt", desc := "(ILjava/lang/String;)V" } : Jvm.MethodName) jdk_68_method_73_code (3 : Nat) (Option.none : Option Jvm.ClassFile.FieldType)).before args0 about1 = true := code_word (m := ⟨11, 10⟩) (meth := k11m10) (c := k11c10) (by decide +kernel) rfl rfl rfl (by decide +kernel)
set_option maxRecDepth 65536 in
theorem w_c16 : (Jvm.Cond.code ({ cls := "java/lang/AbstractStringBuilder", name := "inflateIfNeededFor", desc := "(Ljava/lang/String;)V" } : Jvm.MethodName) jdk_68_method_71_code (2 : Nat) (Option.none : Option Jvm.ClassFile.FieldType)).before args0 about1 = true := code_word (m := ⟨11, 9⟩) (meth := k11m9) (c := k11c9) (by decide +kernel) rfl rfl rfl (by decide +kernel)
set_option maxRecDepth 65536 in
theorem w_c17 : (Jvm.Cond.code ({ cls := "java/lang/String", name := "getBytes", desc := "([BIB)V" } : Jvm.MethodName) jdk_42_method_147_code (4 : Nat) (Option.none : Option Jvm.ClassFile.FieldType)).before args0 about1 = true := code_word (m := ⟨7, 5⟩) (meth := k7m5) (c := k7c5) (by decide +kernel) rfl rfl rfl (by decide +kernel)
set_option maxRecDepth 65536 in
theorem w_c18 : (Jvm.Cond.code ({ cls := "java/lang/StringBuilder", name := "toString", desc := "()Ljava/lang/String;" } : Jvm.MethodName) jdk_67_method_42_code (1 : Nat) (Option.some (Jvm.ClassFile.FieldType.object "java/lang/String"))).before args0 about1 = true := code_word (m := ⟨12, 3⟩) (meth := k12m3) (c := k12c3) (by decide +kernel) rfl rfl rfl (by decide +kernel)
set_option maxRecDepth 65536 in
theorem w_c19 : (Jvm.Cond.code ({ cls := "java/lang/String", name := "<init>", desc := "(Ljava/lang/StringBuilder;)V" } : Jvm.MethodName) jdk_42_method_53_code (2 : Nat) (Option.none : Option Jvm.ClassFile.FieldType)).before args0 about1 = true := code_word (m := ⟨7, 2⟩) (meth := k7m2) (c := k7c2) (by decide +kernel) rfl rfl rfl (by decide +kernel)
set_option maxRecDepth 65536 in
theorem w_c20 : (Jvm.Cond.code ({ cls := "java/lang/String", name := "<init>", desc := "(Ljava/lang/AbstractStringBuilder;Ljava/lang/Void;)V" } : Jvm.MethodName) jdk_42_method_150_code (5 : Nat) (Option.none : Option Jvm.ClassFile.FieldType)).before args0 about1 = true := code_word (m := ⟨7, 7⟩) (meth := k7m7) (c := k7c7) (by decide +kernel) rfl rfl rfl (by decide +kernel)
set_option maxRecDepth 65536 in
theorem w_c21 : (Jvm.Cond.code ({ cls := "java/lang/AbstractStringBuilder", name := "getValue", desc := "()[B" } : Jvm.MethodName) jdk_68_method_64_code (1 : Nat) (Option.some (Jvm.ClassFile.FieldType.array Jvm.ClassFile.FieldType.byte))).before args0 about1 = true := code_word (m := ⟨11, 7⟩) (meth := k11m7) (c := k11c7) (by decide +kernel) rfl rfl rfl (by decide +kernel)
set_option maxRecDepth 65536 in
theorem w_c22 : (Jvm.Cond.code ({ cls := "java/lang/StringBuilder", name := "length", desc := "()I" } : Jvm.MethodName) jdk_67_method_93_code (1 : Nat) (Option.some Jvm.ClassFile.FieldType.int)).before args0 about1 = true := code_word (m := ⟨12, 4⟩) (meth := k12m4) (c := k12c4) (by decide +kernel) rfl rfl rfl (by decide +kernel)
set_option maxRecDepth 65536 in
theorem w_c23 : (Jvm.Cond.code ({ cls := "java/lang/AbstractStringBuilder", name := "length", desc := "()I" } : Jvm.MethodName) jdk_68_method_6_code (1 : Nat) (Option.some Jvm.ClassFile.FieldType.int)).before args0 about1 = true := code_word (m := ⟨11, 2⟩) (meth := k11m2) (c := k11c2) (by decide +kernel) rfl rfl rfl (by decide +kernel)
set_option maxRecDepth 65536 in
theorem w_c24 : (Jvm.Cond.code ({ cls := "java/lang/AbstractStringBuilder", name := "isLatin1", desc := "()Z" } : Jvm.MethodName) jdk_68_method_68_code (1 : Nat) (Option.some Jvm.ClassFile.FieldType.boolean)).before args0 about1 = true := code_word (m := ⟨11, 8⟩) (meth := k11m8) (c := k11c8) (by decide +kernel) rfl rfl rfl (by decide +kernel)
set_option maxRecDepth 65536 in
theorem w_c25 : (Jvm.Cond.code ({ cls := "java/util/Arrays", name := "copyOfRange", desc := "([BII)[B" } : Jvm.MethodName) jdk_65_method_132_code (3 : Nat) (Option.some (Jvm.ClassFile.FieldType.array Jvm.ClassFile.FieldType.byte))).before args0 about1 = true := code_word (m := ⟨14, 3⟩) (meth := k14m3) (c := k14c3) (by decide +kernel) rfl rfl rfl (by decide +kernel)
set_option maxRecDepth 65536 in
theorem w_c26 : (Jvm.Cond.code ({ cls := "java/util/Arrays", name := "copyOfRangeByte", desc := "([BII)[B" } : Jvm.MethodName) jdk_65_method_133_code (5 : Nat) (Option.some (Jvm.ClassFile.FieldType.array Jvm.ClassFile.FieldType.byte))).before args0 about1 = true := code_word (m := ⟨14, 4⟩) (meth := k14m4) (c := k14c4) (by decide +kernel) rfl rfl rfl (by decide +kernel)
set_option maxRecDepth 65536 in
theorem w_c27 : (Jvm.Cond.code ({ cls := "java/util/Arrays", name := "checkLength", desc := "(II)V" } : Jvm.MethodName) jdk_65_method_131_code (2 : Nat) (Option.none : Option Jvm.ClassFile.FieldType)).before args0 about1 = true := code_word (m := ⟨14, 2⟩) (meth := k14m2) (c := k14c2) (by decide +kernel) rfl rfl rfl (by decide +kernel)
set_option maxRecDepth 65536 in
theorem w_c28 : (Jvm.Cond.code ({ cls := "java/lang/Math", name := "min", desc := "(II)I" } : Jvm.MethodName) jdk_29_method_69_code (2 : Nat) (Option.some Jvm.ClassFile.FieldType.int)).before args0 about1 = true := code_word (m := ⟨15, 2⟩) (meth := k15m2) (c := k15c2) (by decide +kernel) rfl rfl rfl (by decide +kernel)
set_option maxRecDepth 65536 in
theorem w_c29 : (Jvm.Cond.code ({ cls := "com/example/typeloom/typeloom/ProblemToStringPinLaw", name := "eqAt", desc := "(Ljava/lang/String;ILjava/lang/String;)Z" } : Jvm.MethodName) method_5_code (3 : Nat) (Option.some Jvm.ClassFile.FieldType.boolean)).before args0 about1 = true := code_word (m := ⟨1, 4⟩) (meth := k1m4) (c := k1c4) (by decide +kernel) rfl rfl rfl (by decide +kernel)
set_option maxRecDepth 65536 in
theorem w_c30 : (Jvm.Cond.code ({ cls := "com/example/typeloom/typeloom/ProblemToStringPinLaw", name := "c", desc := "(Ljava/lang/String;ILjava/lang/String;I)Z" } : Jvm.MethodName) method_4_code (4 : Nat) (Option.some Jvm.ClassFile.FieldType.boolean)).before args0 about1 = true := code_word (m := ⟨1, 3⟩) (meth := k1m3) (c := k1c3) (by decide +kernel) rfl rfl rfl (by decide +kernel)
set_option maxRecDepth 65536 in
theorem w_c31 : (Jvm.Cond.code ({ cls := "java/lang/String", name := "charAt", desc := "(I)C" } : Jvm.MethodName) jdk_42_method_56_code (2 : Nat) (Option.some Jvm.ClassFile.FieldType.char)).before args0 about1 = true := code_word (m := ⟨7, 4⟩) (meth := k7m4) (c := k7c4) (by decide +kernel) rfl rfl rfl (by decide +kernel)
set_option maxRecDepth 65536 in
theorem w_c32 : (Jvm.Cond.code ({ cls := "java/lang/String", name := "isLatin1", desc := "()Z" } : Jvm.MethodName) jdk_42_method_154_code (1 : Nat) (Option.some Jvm.ClassFile.FieldType.boolean)).before args0 about1 = true := code_word (m := ⟨7, 9⟩) (meth := k7m9) (c := k7c9) (by decide +kernel) rfl rfl rfl (by decide +kernel)
set_option maxRecDepth 65536 in
theorem w_c33 : (Jvm.Cond.code ({ cls := "java/lang/StringLatin1", name := "charAt", desc := "([BI)C" } : Jvm.MethodName) jdk_43_method_2_code (2 : Nat) (Option.some Jvm.ClassFile.FieldType.char)).before args0 about1 = true := code_word (m := ⟨16, 1⟩) (meth := k16m1) (c := k16c1) (by decide +kernel) rfl rfl rfl (by decide +kernel)
set_option maxRecDepth 65536 in
theorem w_c34 : (Jvm.Cond.code ({ cls := "java/lang/String", name := "checkIndex", desc := "(II)V" } : Jvm.MethodName) jdk_42_method_155_code (2 : Nat) (Option.none : Option Jvm.ClassFile.FieldType)).before args0 about1 = true := code_word (m := ⟨7, 10⟩) (meth := k7m10) (c := k7c10) (by decide +kernel) rfl rfl rfl (by decide +kernel)
set_option maxRecDepth 65536 in
theorem w_c35 : (Jvm.Cond.code ({ cls := "jdk/internal/util/Preconditions", name := "checkIndex", desc := "(IILjava/util/function/BiFunction;)I" } : Jvm.MethodName) jdk_41_method_11_code (3 : Nat) (Option.some Jvm.ClassFile.FieldType.int)).before args0 about1 = true := code_word (m := ⟨17, 1⟩) (meth := k17m1) (c := k17c1) (by decide +kernel) rfl rfl rfl (by decide +kernel)
set_option maxRecDepth 65536 in
theorem w_c36 : (Jvm.Cond.code ({ cls := "java/lang/StringBuilder", name := "append", desc := "(I)Ljava/lang/StringBuilder;" } : Jvm.MethodName) jdk_67_method_15_code (2 : Nat) (Option.some (Jvm.ClassFile.FieldType.object "java/lang/StringBuilder"))).before args0 about1 = true := code_word (m := ⟨12, 2⟩) (meth := k12m2) (c := k12c2) (by decide +kernel) rfl rfl rfl (by decide +kernel)
set_option maxRecDepth 65536 in
theorem w_c37 : (Jvm.Cond.code ({ cls := "java/lang/AbstractStringBuilder", name := "append", desc := "(I)Ljava/lang/AbstractStringBuilder;" } : Jvm.MethodName) jdk_68_method_32_code (4 : Nat) (Option.some (Jvm.ClassFile.FieldType.object "java/lang/AbstractStringBuilder"))).before args0 about1 = true := code_word (m := ⟨11, 6⟩) (meth := k11m6) (c := k11c6) (by decide +kernel) rfl rfl rfl (by decide +kernel)
set_option maxRecDepth 65536 in
theorem w_c38 : (Jvm.Cond.code ({ cls := "java/lang/Integer", name := "stringSize", desc := "(I)I" } : Jvm.MethodName) jdk_33_method_13_code (4 : Nat) (Option.some Jvm.ClassFile.FieldType.int)).before args0 about1 = true := code_word (m := ⟨19, 1⟩) (meth := k19m1) (c := k19c1) (by decide +kernel) rfl rfl rfl (by decide +kernel)
set_option maxRecDepth 65536 in
theorem w_c39 : (Jvm.Cond.code ({ cls := "java/lang/Integer", name := "getChars", desc := "(II[B)I" } : Jvm.MethodName) jdk_33_method_12_code (7 : Nat) (Option.some Jvm.ClassFile.FieldType.int)).before args0 about1 = true := code_word (m := ⟨19, 0⟩) (meth := k19m0) (c := k19c0) (by decide +kernel) rfl rfl rfl (by decide +kernel)
set_option maxRecDepth 65536 in
theorem w_c40 : (Jvm.Cond.code ({ cls := "com/example/typeloom/typeloom/ProblemToStringPinLaw", name := "digits", desc := "(I)I" } : Jvm.MethodName) method_6_code (1 : Nat) (Option.some Jvm.ClassFile.FieldType.int)).before args0 about1 = true := code_word (m := ⟨1, 5⟩) (meth := k1m5) (c := k1c5) (by decide +kernel) rfl rfl rfl (by decide +kernel)
set_option maxRecDepth 65536 in
theorem w_c41 : (Jvm.Cond.code ({ cls := "com/example/typeloom/typeloom/ProblemToStringPinLaw", name := "digitsAt", desc := "(Ljava/lang/String;III)Z" } : Jvm.MethodName) method_9_code (4 : Nat) (Option.some Jvm.ClassFile.FieldType.boolean)).before args0 about1 = true := code_word (m := ⟨1, 8⟩) (meth := k1m8) (c := k1c8) (by decide +kernel) rfl rfl rfl (by decide +kernel)
set_option maxRecDepth 65536 in
theorem w_c42 : (Jvm.Cond.code ({ cls := "com/example/typeloom/typeloom/ProblemToStringPinLaw", name := "dig", desc := "(Ljava/lang/String;IIII)Z" } : Jvm.MethodName) method_8_code (5 : Nat) (Option.some Jvm.ClassFile.FieldType.boolean)).before args0 about1 = true := code_word (m := ⟨1, 7⟩) (meth := k1m7) (c := k1c7) (by decide +kernel) rfl rfl rfl (by decide +kernel)
set_option maxRecDepth 65536 in
theorem w_c43 : (Jvm.Cond.code ({ cls := "com/example/typeloom/typeloom/ProblemToStringPinLaw", name := "pow10", desc := "(I)I" } : Jvm.MethodName) method_7_code (1 : Nat) (Option.some Jvm.ClassFile.FieldType.int)).before args0 about1 = true := code_word (m := ⟨1, 6⟩) (meth := k1m6) (c := k1c6) (by decide +kernel) rfl rfl rfl (by decide +kernel)
set_option maxRecDepth 65536 in
theorem w_c44 : (Jvm.Cond.code ({ cls := "java/lang/StringUTF16", name := "compress", desc := "([CII)[B" } : Jvm.MethodName) jdk_52_method_16_code (6 : Nat) (Option.some (Jvm.ClassFile.FieldType.array Jvm.ClassFile.FieldType.byte))).before args0 about1 = true := code_word (m := ⟨20, 2⟩) (meth := k20m2) (c := k20c2) (by decide +kernel) rfl rfl rfl (by decide +kernel)
set_option maxRecDepth 65536 in
theorem w_c45 : (Jvm.Cond.code ({ cls := "java/lang/StringUTF16", name := "compress", desc := "([CI[BII)I" } : Jvm.MethodName) jdk_52_method_21_code (7 : Nat) (Option.some Jvm.ClassFile.FieldType.int)).before args0 about1 = true := code_word (m := ⟨20, 3⟩) (meth := k20m3) (c := k20c3) (by decide +kernel) rfl rfl rfl (by decide +kernel)
set_option maxRecDepth 65536 in
theorem w_c46 : (Jvm.Cond.code ({ cls := "java/lang/StringUTF16", name := "coderFromArrayLen", desc := "([BI)B" } : Jvm.MethodName) jdk_52_method_15_code (2 : Nat) (Option.some Jvm.ClassFile.FieldType.byte)).before args0 about1 = true := code_word (m := ⟨20, 1⟩) (meth := k20m1) (c := k20c1) (by decide +kernel) rfl rfl rfl (by decide +kernel)
set_option maxRecDepth 65536 in
theorem w_c47 : (Jvm.Cond.code ({ cls := "java/lang/AbstractStringBuilder", name := "newCapacity", desc := "(I)I" } : Jvm.MethodName) jdk_68_method_10_code (6 : Nat) (Option.some Jvm.ClassFile.FieldType.int)).before args0 about1 = true := code_word (m := ⟨11, 4⟩) (meth := k11m4) (c := k11c4) (by decide +kernel) rfl rfl rfl (by decide +kernel)
set_option maxRecDepth 65536 in
theorem w_c48 : (Jvm.Cond.code ({ cls := "jdk/internal/util/ArraysSupport", name := "newLength", desc := "(III)I" } : Jvm.MethodName) jdk_48_method_27_code (4 : Nat) (Option.some Jvm.ClassFile.FieldType.int)).before args0 about1 = true := code_word (m := ⟨21, 1⟩) (meth := k21m1) (c := k21c1) (by decide +kernel) rfl rfl rfl (by decide +kernel)
set_option maxRecDepth 65536 in
theorem w_c49 : (Jvm.Cond.code ({ cls := "java/lang/Math", name := "max", desc := "(II)I" } : Jvm.MethodName) jdk_29_method_65_code (2 : Nat) (Option.some Jvm.ClassFile.FieldType.int)).before args0 about1 = true := code_word (m := ⟨15, 1⟩) (meth := k15m1) (c := k15c1) (by decide +kernel) rfl rfl rfl (by decide +kernel)
set_option maxRecDepth 65536 in
theorem w_c50 : (Jvm.Cond.code ({ cls := "java/util/Arrays", name := "copyOf", desc := "([BI)[B" } : Jvm.MethodName) jdk_65_method_121_code (3 : Nat) (Option.some (Jvm.ClassFile.FieldType.array Jvm.ClassFile.FieldType.byte))).before args0 about1 = true := code_word (m := ⟨14, 1⟩) (meth := k14m1) (c := k14c1) (by decide +kernel) rfl rfl rfl (by decide +kernel)
def codes1 : List Jvm.Cond := [Jvm.Cond.code x code maxLocals ret, Jvm.Cond.code ({ cls := "com/example/typeloom/typeloom/ProblemToStringPinLaw", name := "mk", desc := "(I)Ljava/lang/String;" } : Jvm.MethodName) method_3_code (5 : Nat) (Option.some (Jvm.ClassFile.FieldType.object "java/lang/String")), Jvm.Cond.code ({ cls := "java/lang/String", name := "<init>", desc := "([C)V" } : Jvm.MethodName) jdk_42_method_3_code (2 : Nat) (Option.none : Option Jvm.ClassFile.FieldType), Jvm.Cond.code ({ cls := "java/lang/String", name := "<init>", desc := "([CIILjava/lang/Void;)V" } : Jvm.MethodName) jdk_42_method_149_code (6 : Nat) (Option.none : Option Jvm.ClassFile.FieldType), Jvm.Cond.code ({ cls := "java/lang/Object", name := "<init>", desc := "()V" } : Jvm.MethodName) object_method_1_code (1 : Nat) (Option.none : Option Jvm.ClassFile.FieldType), Jvm.Cond.code ({ cls := "com/example/typeloom/typeloom/Problem", name := "<init>", desc := "(Ljava/lang/String;ILjava/lang/String;)V" } : Jvm.MethodName) prog_6_method_1_code (4 : Nat) (Option.none : Option Jvm.ClassFile.FieldType), Jvm.Cond.code ({ cls := "java/lang/Record", name := "<init>", desc := "()V" } : Jvm.MethodName) jdk_30_method_1_code (1 : Nat) (Option.none : Option Jvm.ClassFile.FieldType), Jvm.Cond.code ({ cls := "com/example/typeloom/typeloom/Problem", name := "toString", desc := "()Ljava/lang/String;" } : Jvm.MethodName) prog_6_method_2_code (2 : Nat) (Option.some (Jvm.ClassFile.FieldType.object "java/lang/String")), Jvm.Cond.code ({ cls := "java/lang/StringBuilder", name := "<init>", desc := "()V" } : Jvm.MethodName) jdk_67_method_1_code (1 : Nat) (Option.none : Option Jvm.ClassFile.FieldType), Jvm.Cond.code ({ cls := "java/lang/AbstractStringBuilder", name := "<init>", desc := "(I)V" } : Jvm.MethodName) jdk_68_method_2_code (2 : Nat) (Option.none : Option Jvm.ClassFile.FieldType), Jvm.Cond.code ({ cls := "java/lang/StringBuilder", name := "append", desc := "(Ljava/lang/String;)Ljava/lang/StringBuilder;" } : Jvm.MethodName) jdk_67_method_7_code (2 : Nat) (Option.some (Jvm.ClassFile.FieldType.object "java/lang/StringBuilder")), Jvm.Cond.code ({ cls := "java/lang/AbstractStringBuilder", name := "append", desc := "(Ljava/lang/String;)Ljava/lang/AbstractStringBuilder;" } : Jvm.MethodName) jdk_68_method_22_code (3 : Nat) (Option.some (Jvm.ClassFile.FieldType.object "java/lang/AbstractStringBuilder")), Jvm.Cond.code ({ cls := "java/lang/String", name := "length", desc := "()I" } : Jvm.MethodName) jdk_42_method_54_code (1 : Nat) (Option.some Jvm.ClassFile.FieldType.int), Jvm.Cond.code ({ cls := "java/lang/String", name := "coder", desc := "()B" } : Jvm.MethodName) jdk_42_method_152_code (1 : Nat) (Option.some Jvm.ClassFile.FieldType.byte), Jvm.Cond.code ({ cls := "java/lang/AbstractStringBuilder", name := "ensureCapacityInternal", desc := "(I)V" } : Jvm.MethodName) jdk_68_method_9_code (3 : Nat) (Option.none : Option Jvm.ClassFile.FieldType), Jvm.Cond.code ({ cls := "java/lang/AbstractStringBuilder", name := "putStringAt", desc := "(ILjava/lang/String;)V" } : Jvm.MethodName) jdk_68_method_73_code (3 : Nat) (Option.none : Option Jvm.ClassFile.FieldType), Jvm.Cond.code ({ cls := "java/lang/AbstractStringBuilder", name := "inflateIfNeededFor", desc := "(Ljava/lang/String;)V" } : Jvm.MethodName) jdk_68_method_71_code (2 : Nat) (Option.none : Option Jvm.ClassFile.FieldType), Jvm.Cond.code ({ cls := "java/lang/String", name := "getBytes", desc := "([BIB)V" } : Jvm.MethodName) jdk_42_method_147_code (4 : Nat) (Option.none : Option Jvm.ClassFile.FieldType), Jvm.Cond.code ({ cls := "java/lang/StringBuilder", name := "toString", desc := "()Ljava/lang/String;" } : Jvm.MethodName) jdk_67_method_42_code (1 : Nat) (Option.some (Jvm.ClassFile.FieldType.object "java/lang/String")), Jvm.Cond.code ({ cls := "java/lang/String", name := "<init>", desc := "(Ljava/lang/StringBuilder;)V" } : Jvm.MethodName) jdk_42_method_53_code (2 : Nat) (Option.none : Option Jvm.ClassFile.FieldType), Jvm.Cond.code ({ cls := "java/lang/String", name := "<init>", desc := "(Ljava/lang/AbstractStringBuilder;Ljava/lang/Void;)V" } : Jvm.MethodName) jdk_42_method_150_code (5 : Nat) (Option.none : Option Jvm.ClassFile.FieldType), Jvm.Cond.code ({ cls := "java/lang/AbstractStringBuilder", name := "getValue", desc := "()[B" } : Jvm.MethodName) jdk_68_method_64_code (1 : Nat) (Option.some (Jvm.ClassFile.FieldType.array Jvm.ClassFile.FieldType.byte)), Jvm.Cond.code ({ cls := "java/lang/StringBuilder", name := "length", desc := "()I" } : Jvm.MethodName) jdk_67_method_93_code (1 : Nat) (Option.some Jvm.ClassFile.FieldType.int), Jvm.Cond.code ({ cls := "java/lang/AbstractStringBuilder", name := "length", desc := "()I" } : Jvm.MethodName) jdk_68_method_6_code (1 : Nat) (Option.some Jvm.ClassFile.FieldType.int), Jvm.Cond.code ({ cls := "java/lang/AbstractStringBuilder", name := "isLatin1", desc := "()Z" } : Jvm.MethodName) jdk_68_method_68_code (1 : Nat) (Option.some Jvm.ClassFile.FieldType.boolean), Jvm.Cond.code ({ cls := "java/util/Arrays", name := "copyOfRange", desc := "([BII)[B" } : Jvm.MethodName) jdk_65_method_132_code (3 : Nat) (Option.some (Jvm.ClassFile.FieldType.array Jvm.ClassFile.FieldType.byte)), Jvm.Cond.code ({ cls := "java/util/Arrays", name := "copyOfRangeByte", desc := "([BII)[B" } : Jvm.MethodName) jdk_65_method_133_code (5 : Nat) (Option.some (Jvm.ClassFile.FieldType.array Jvm.ClassFile.FieldType.byte)), Jvm.Cond.code ({ cls := "java/util/Arrays", name := "checkLength", desc := "(II)V" } : Jvm.MethodName) jdk_65_method_131_code (2 : Nat) (Option.none : Option Jvm.ClassFile.FieldType), Jvm.Cond.code ({ cls := "java/lang/Math", name := "min", desc := "(II)I" } : Jvm.MethodName) jdk_29_method_69_code (2 : Nat) (Option.some Jvm.ClassFile.FieldType.int), Jvm.Cond.code ({ cls := "com/example/typeloom/typeloom/ProblemToStringPinLaw", name := "eqAt", desc := "(Ljava/lang/String;ILjava/lang/String;)Z" } : Jvm.MethodName) method_5_code (3 : Nat) (Option.some Jvm.ClassFile.FieldType.boolean), Jvm.Cond.code ({ cls := "com/example/typeloom/typeloom/ProblemToStringPinLaw", name := "c", desc := "(Ljava/lang/String;ILjava/lang/String;I)Z" } : Jvm.MethodName) method_4_code (4 : Nat) (Option.some Jvm.ClassFile.FieldType.boolean), Jvm.Cond.code ({ cls := "java/lang/String", name := "charAt", desc := "(I)C" } : Jvm.MethodName) jdk_42_method_56_code (2 : Nat) (Option.some Jvm.ClassFile.FieldType.char), Jvm.Cond.code ({ cls := "java/lang/String", name := "isLatin1", desc := "()Z" } : Jvm.MethodName) jdk_42_method_154_code (1 : Nat) (Option.some Jvm.ClassFile.FieldType.boolean), Jvm.Cond.code ({ cls := "java/lang/StringLatin1", name := "charAt", desc := "([BI)C" } : Jvm.MethodName) jdk_43_method_2_code (2 : Nat) (Option.some Jvm.ClassFile.FieldType.char), Jvm.Cond.code ({ cls := "java/lang/String", name := "checkIndex", desc := "(II)V" } : Jvm.MethodName) jdk_42_method_155_code (2 : Nat) (Option.none : Option Jvm.ClassFile.FieldType), Jvm.Cond.code ({ cls := "jdk/internal/util/Preconditions", name := "checkIndex", desc := "(IILjava/util/function/BiFunction;)I" } : Jvm.MethodName) jdk_41_method_11_code (3 : Nat) (Option.some Jvm.ClassFile.FieldType.int), Jvm.Cond.code ({ cls := "java/lang/StringBuilder", name := "append", desc := "(I)Ljava/lang/StringBuilder;" } : Jvm.MethodName) jdk_67_method_15_code (2 : Nat) (Option.some (Jvm.ClassFile.FieldType.object "java/lang/StringBuilder")), Jvm.Cond.code ({ cls := "java/lang/AbstractStringBuilder", name := "append", desc := "(I)Ljava/lang/AbstractStringBuilder;" } : Jvm.MethodName) jdk_68_method_32_code (4 : Nat) (Option.some (Jvm.ClassFile.FieldType.object "java/lang/AbstractStringBuilder")), Jvm.Cond.code ({ cls := "java/lang/Integer", name := "stringSize", desc := "(I)I" } : Jvm.MethodName) jdk_33_method_13_code (4 : Nat) (Option.some Jvm.ClassFile.FieldType.int), Jvm.Cond.code ({ cls := "java/lang/Integer", name := "getChars", desc := "(II[B)I" } : Jvm.MethodName) jdk_33_method_12_code (7 : Nat) (Option.some Jvm.ClassFile.FieldType.int), Jvm.Cond.code ({ cls := "com/example/typeloom/typeloom/ProblemToStringPinLaw", name := "digits", desc := "(I)I" } : Jvm.MethodName) method_6_code (1 : Nat) (Option.some Jvm.ClassFile.FieldType.int), Jvm.Cond.code ({ cls := "com/example/typeloom/typeloom/ProblemToStringPinLaw", name := "digitsAt", desc := "(Ljava/lang/String;III)Z" } : Jvm.MethodName) method_9_code (4 : Nat) (Option.some Jvm.ClassFile.FieldType.boolean), Jvm.Cond.code ({ cls := "com/example/typeloom/typeloom/ProblemToStringPinLaw", name := "dig", desc := "(Ljava/lang/String;IIII)Z" } : Jvm.MethodName) method_8_code (5 : Nat) (Option.some Jvm.ClassFile.FieldType.boolean), Jvm.Cond.code ({ cls := "com/example/typeloom/typeloom/ProblemToStringPinLaw", name := "pow10", desc := "(I)I" } : Jvm.MethodName) method_7_code (1 : Nat) (Option.some Jvm.ClassFile.FieldType.int), Jvm.Cond.code ({ cls := "java/lang/StringUTF16", name := "compress", desc := "([CII)[B" } : Jvm.MethodName) jdk_52_method_16_code (6 : Nat) (Option.some (Jvm.ClassFile.FieldType.array Jvm.ClassFile.FieldType.byte)), Jvm.Cond.code ({ cls := "java/lang/StringUTF16", name := "compress", desc := "([CI[BII)I" } : Jvm.MethodName) jdk_52_method_21_code (7 : Nat) (Option.some Jvm.ClassFile.FieldType.int), Jvm.Cond.code ({ cls := "java/lang/StringUTF16", name := "coderFromArrayLen", desc := "([BI)B" } : Jvm.MethodName) jdk_52_method_15_code (2 : Nat) (Option.some Jvm.ClassFile.FieldType.byte), Jvm.Cond.code ({ cls := "java/lang/AbstractStringBuilder", name := "newCapacity", desc := "(I)I" } : Jvm.MethodName) jdk_68_method_10_code (6 : Nat) (Option.some Jvm.ClassFile.FieldType.int), Jvm.Cond.code ({ cls := "jdk/internal/util/ArraysSupport", name := "newLength", desc := "(III)I" } : Jvm.MethodName) jdk_48_method_27_code (4 : Nat) (Option.some Jvm.ClassFile.FieldType.int), Jvm.Cond.code ({ cls := "java/lang/Math", name := "max", desc := "(II)I" } : Jvm.MethodName) jdk_29_method_65_code (2 : Nat) (Option.some Jvm.ClassFile.FieldType.int), Jvm.Cond.code ({ cls := "java/util/Arrays", name := "copyOf", desc := "([BI)[B" } : Jvm.MethodName) jdk_65_method_121_code (3 : Nat) (Option.some (Jvm.ClassFile.FieldType.array Jvm.ClassFile.FieldType.byte))]
set_option maxRecDepth 65536 in
theorem codes_eq : words1.filter isCode = codes1 := rfl
theorem w_codes : ∀ c ∈ words1.filter isCode, c.before args0 about1 = true := by
  rw [codes_eq]
  intro c hc
  simp only [codes1, List.mem_cons, List.not_mem_nil, or_false] at hc
  rcases hc with rfl | rfl | rfl | rfl | rfl | rfl | rfl | rfl | rfl | rfl | rfl | rfl | rfl | rfl | rfl | rfl | rfl | rfl | rfl | rfl | rfl | rfl | rfl | rfl | rfl | rfl | rfl | rfl | rfl | rfl | rfl | rfl | rfl | rfl | rfl | rfl | rfl | rfl | rfl | rfl | rfl | rfl | rfl | rfl | rfl | rfl | rfl | rfl | rfl | rfl | rfl
  · exact w_c0
  · exact w_c1
  · exact w_c2
  · exact w_c3
  · exact w_c4
  · exact w_c5
  · exact w_c6
  · exact w_c7
  · exact w_c8
  · exact w_c9
  · exact w_c10
  · exact w_c11
  · exact w_c12
  · exact w_c13
  · exact w_c14
  · exact w_c15
  · exact w_c16
  · exact w_c17
  · exact w_c18
  · exact w_c19
  · exact w_c20
  · exact w_c21
  · exact w_c22
  · exact w_c23
  · exact w_c24
  · exact w_c25
  · exact w_c26
  · exact w_c27
  · exact w_c28
  · exact w_c29
  · exact w_c30
  · exact w_c31
  · exact w_c32
  · exact w_c33
  · exact w_c34
  · exact w_c35
  · exact w_c36
  · exact w_c37
  · exact w_c38
  · exact w_c39
  · exact w_c40
  · exact w_c41
  · exact w_c42
  · exact w_c43
  · exact w_c44
  · exact w_c45
  · exact w_c46
  · exact w_c47
  · exact w_c48
  · exact w_c49
  · exact w_c50
set_option maxRecDepth 65536 in
theorem w_t1 : (words1.take 24).all (fun c => isCode c || c.before args0 about1) = true := by decide +kernel
set_option maxRecDepth 65536 in
theorem w_t2 : ((words1.drop 24).take 24).all (fun c => isCode c || c.before args0 about1) = true := by decide +kernel
set_option maxRecDepth 65536 in
theorem w_t3 : (((words1.drop 24).drop 24).take 24).all (fun c => isCode c || c.before args0 about1) = true := by decide +kernel
set_option maxRecDepth 65536 in
theorem w_t4 : ((((words1.drop 24).drop 24).drop 24).take 24).all (fun c => isCode c || c.before args0 about1) = true := by decide +kernel
set_option maxRecDepth 65536 in
theorem w_t5 : (((((words1.drop 24).drop 24).drop 24).drop 24).take 24).all (fun c => isCode c || c.before args0 about1) = true := by decide +kernel
set_option maxRecDepth 65536 in
theorem w_t6 : ((((((words1.drop 24).drop 24).drop 24).drop 24).drop 24).take 24).all (fun c => isCode c || c.before args0 about1) = true := by decide +kernel
set_option maxRecDepth 65536 in
theorem w_t7 : (((((((words1.drop 24).drop 24).drop 24).drop 24).drop 24).drop 24).take 24).all (fun c => isCode c || c.before args0 about1) = true := by decide +kernel
set_option maxRecDepth 65536 in
theorem w_t8 : ((((((((words1.drop 24).drop 24).drop 24).drop 24).drop 24).drop 24).drop 24).take 24).all (fun c => isCode c || c.before args0 about1) = true := by decide +kernel
set_option maxRecDepth 65536 in
theorem w_t9 : (((((((((words1.drop 24).drop 24).drop 24).drop 24).drop 24).drop 24).drop 24).drop 24).take 24).all (fun c => isCode c || c.before args0 about1) = true := by decide +kernel
set_option maxRecDepth 65536 in
theorem w_t10 : ((((((((((words1.drop 24).drop 24).drop 24).drop 24).drop 24).drop 24).drop 24).drop 24).drop 24).take 24).all (fun c => isCode c || c.before args0 about1) = true := by decide +kernel
set_option maxRecDepth 65536 in
theorem w_t11 : (((((((((((words1.drop 24).drop 24).drop 24).drop 24).drop 24).drop 24).drop 24).drop 24).drop 24).drop 24).take 24).all (fun c => isCode c || c.before args0 about1) = true := by decide +kernel
set_option maxRecDepth 65536 in
theorem w_t12 : (((((((((((words1.drop 24).drop 24).drop 24).drop 24).drop 24).drop 24).drop 24).drop 24).drop 24).drop 24).drop 24).all (fun c => isCode c || c.before args0 about1) = true := by decide +kernel
theorem w_tables : (allAtoms (Jvm.Cond.code x code maxLocals ret :: tables_1)).before args0 about1 = true := by
  rw [allAtoms_all]
  show words1.all (fun c => c.before args0 about1) = true
  refine all_split ?_ w_codes
  rw [← List.take_append_drop 24 words1, List.all_append, w_t1, ← List.take_append_drop 24 (words1.drop 24), List.all_append, w_t2, ← List.take_append_drop 24 ((words1.drop 24).drop 24), List.all_append, w_t3, ← List.take_append_drop 24 (((words1.drop 24).drop 24).drop 24), List.all_append, w_t4, ← List.take_append_drop 24 ((((words1.drop 24).drop 24).drop 24).drop 24), List.all_append, w_t5, ← List.take_append_drop 24 (((((words1.drop 24).drop 24).drop 24).drop 24).drop 24), List.all_append, w_t6, ← List.take_append_drop 24 ((((((words1.drop 24).drop 24).drop 24).drop 24).drop 24).drop 24), List.all_append, w_t7, ← List.take_append_drop 24 (((((((words1.drop 24).drop 24).drop 24).drop 24).drop 24).drop 24).drop 24), List.all_append, w_t8, ← List.take_append_drop 24 ((((((((words1.drop 24).drop 24).drop 24).drop 24).drop 24).drop 24).drop 24).drop 24), List.all_append, w_t9, ← List.take_append_drop 24 (((((((((words1.drop 24).drop 24).drop 24).drop 24).drop 24).drop 24).drop 24).drop 24).drop 24), List.all_append, w_t10, ← List.take_append_drop 24 ((((((((((words1.drop 24).drop 24).drop 24).drop 24).drop 24).drop 24).drop 24).drop 24).drop 24).drop 24), List.all_append, w_t11, w_t12]
  rfl
set_option maxRecDepth 65536 in
theorem w_rest : rest_1_c.before args0 about1 = true := by decide +kernel
set_option maxRecDepth 65536 in
theorem w_case : (Jvm.Cond.and given_1 narrow_1).before args0 about1 = true := by decide +kernel
set_option maxRecDepth 65536 in
theorem w_consts : constsHeld consts_1 about1 := Jvm.Lit.constsHeldB_iff.mp (by decide +kernel)
theorem w_applies : (headSpec (Jvm.Cond.code x code maxLocals ret :: tables_1) room_1).applies x e0.platform about1 = true :=
  (Spec.applies_iff w_frames).mpr ⟨w_running, w_runnable, w_alone, w_named, w_hears, w_ripe, w_room, w_tables⟩
theorem atStart : AtStart classFile x code maxLocals ret World_1 tables_1 room_1 Calls_1 rest_1 Pre_1 launch0 p0 e0 about1 theMethod args0 below0 :=
  ⟨lists_1, trivial, launch0.admits_env _ _ _, launch0.least_env, fairChoices_fair.cas, fairChoices_fair.clock, w_frames, w_args, w_heap, w_applies, ⟨w_consts, trivial⟩, w_rest, w_case⟩
end start1
theorem witness_1 : WitnessClaimed_1 := ⟨start1.p0, start1.e0, start1.about1, start1.theMethod, start1.args0, start1.below0, start1.atStart⟩
end Jvm.Pilot.@@N@@
