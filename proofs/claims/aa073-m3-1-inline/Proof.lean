import JvmDerived
import JvmDerived.Pilot.@@N@@Statement
import JvmDerived.Pilot.@@N@@Code
set_option linter.unusedVariables false
set_option linter.unusedSimpArgs false
namespace Jvm.RoadKit
open Sem ClassFile Op Lib Jvm.Stand Jvm.Free Jvm.LawKit
section New
variable {p : Program} {l : Launch} {e : Env} {R : Room} {s : State} {m : MethodId} {args : Array Value} {below : List Frame} {meth : Method} {c : Code} {T : State} {locs : List Loc} {cells slots : Nat}
theorem retI (X : Stand p l e R s m args below meth c T locs cells slots) (hx : p.tables.exec = Jvm.exec) {pc : Nat} {Ls : Array Slot} {z : Int32} {rest : List Value} (hret : meth.sig.returnType = some .int) (hd : decode c.code pc = .ok (.ireturn, 1)) {fs : List Frame}
    (hl : ∀ (f : JFrame) (acts : List Action), f.method = m → f.locked = none → f.entered = [] → (doReturn e (T.setTop f) acts (some (.int z))).1 = T.setFrames fs) : Steps p.tables e below (T.setTop (mkF m pc Ls (.int z :: rest))) (T.setFrames fs) := by
  have hm' : T.vm.method? m = some meth := X.method'
  have hn : narrow .int (.int z) = .int z := rfl
  show Steps p.tables e below (T.setTop { method := m, pc := pc, locals := Ls, stack := _ :: rest, locked := none }) _
  jvm_step X.here [X.here.top, hx, hd, hm', hret, hn]
  first | (intro acts; rw [hl _ acts rfl rfl rfl]) | rw [hl _ _ rfl rfl rfl]
  exact Steps.refl _
end New
end Jvm.RoadKit
namespace Jvm.Pilot.@@N@@
open Jvm Jvm.ClassFile Sem Op Lib Jvm.Free Jvm.Stand Jvm.LawKit Jvm.RoadKit Bundle Jvm.Pilot.@@N@@.Jvm.D
-- OWN CORE: a calculus of runs over the library's Stand (lawnew's family)
abbrev OCtx := Program × Launch × Env × State × MethodId × Array Value × List Frame × Method × Code
def OCtx.p (C : OCtx) : Program := C.1
def OCtx.l (C : OCtx) : Launch := C.2.1
def OCtx.e (C : OCtx) : Env := C.2.2.1
def OCtx.s (C : OCtx) : State := C.2.2.2.1
def OCtx.m (C : OCtx) : MethodId := C.2.2.2.2.1
def OCtx.args (C : OCtx) : Array Value := C.2.2.2.2.2.1
def OCtx.below (C : OCtx) : List Frame := C.2.2.2.2.2.2.1
def OCtx.meth (C : OCtx) : Method := C.2.2.2.2.2.2.2.1
def OCtx.c (C : OCtx) : Code := C.2.2.2.2.2.2.2.2
-- a body: its class, bytes, locals, return type, name, room
abbrev OInfo := String × ByteArray × Nat × Option FieldType × String × Room
abbrev OInfo.own (I : OInfo) : String := I.1
abbrev OInfo.bytes (I : OInfo) : ByteArray := I.2.1
abbrev OInfo.ml (I : OInfo) : Nat := I.2.2.1
abbrev OInfo.ret (I : OInfo) : Option FieldType := I.2.2.2.1
abbrev OInfo.mn (I : OInfo) : String := I.2.2.2.2.1
abbrev OInfo.R (I : OInfo) : Room := I.2.2.2.2.2
-- where a run stands
def oK (C : OCtx) (s0 : State) (Z : State) (n0 : Nat) (I : OInfo) (T : State) (locs : List Loc) (cs sl : Nat) (h : Heap) : Prop :=
  Stand C.p C.l C.e I.R s0 C.m C.args C.below C.meth C.c T locs cs sl ∧ C.p.tables.exec = Jvm.exec ∧ Z.Warmed39 s0.vm ∧ s0.vm.findClass I.own = some C.m.cls ∧ C.c.code = I.bytes ∧ C.c.maxLocals = I.ml ∧
  C.meth.sig.returnType = I.ret ∧ C.meth.name = I.mn ∧ C.meth.locks = false ∧ T.heap = h ∧ Fr n0 locs ∧ Old Z n0 h
theorem o_fresh {a b : Addr} {h : Heap} (q : a < h.size) (g : b = h.size) : a ≠ b := fun e => by subst e; rw [g] at q; exact Nat.lt_irrefl _ q
theorem o_fresh' {a b : Addr} {n : Nat} (q : a < n) (g : n ≤ b) : a ≠ b := fun e => by subst e; exact Nat.lt_irrefl _ (Nat.lt_of_lt_of_le q g)
theorem o_le {Z : State} {n0 : Nat} {h : Heap} (O : Old Z n0 h) : n0 ≤ h.size := O.1 ▸ O.2.1
-- what goes along: the tables' literals say their texts; ws: cells that no literal holds
def wX (C : OCtx) (Z : State) (EL : List (String × Nat)) (ws : List Addr) (vm0 : Vm) (h : Heap) : Prop := (∃ a0, EW Z a0 EL) ∧ (∃ k0, C.s.Since vm0 k0 ∧ k0 ≤ h.size) ∧ CHr Z EL C.s.vm C.s.heap vm0 h ∧ ∀ x ∈ ws, Safe Z EL vm0 h x ∧ x < h.size
def oH (Q : Option Value → Heap → Prop) : Option Value → Vm → Heap → Prop := fun v _ h => Q v h
def oR (Z : State) (EL : List (String × Nat)) (Q : Option Value → Heap → List Addr → Prop) : Option Value → Vm → Heap → Prop := fun v vm h => ∃ rs, Q v h rs ∧ ∀ x ∈ rs, Safe Z EL vm h x ∧ x < h.size
def oRunG (C : OCtx) (Z : State) (n0 : Nat) (I : OInfo) (EL : List (String × Nat)) (ws : List Addr) (G : Option Value → Vm → Heap → Prop) (h : Heap) (cs sl : Nat) (g : JFrame) : Prop :=
  ∀ vm0 T locs, oK C (C.s.setVm vm0) Z n0 I T locs cs sl h → wX C Z EL ws vm0 h → ∃ t o, Steps C.p.tables C.e C.below (T.setTop g) t ∧ t.status = .running ∧ Ended t C.below o ∧ (∃ v L, o = .returned v ∧ (Fr n0 L ∧ Old Z n0 t.heap ∧ G v t.vm t.heap) ∧ CHr Z EL C.s.vm C.s.heap t.vm t.heap ∧ ReturnedEndW C.s o t L I.R.cells I.R.slots)
abbrev oRun (C : OCtx) (Z : State) (n0 : Nat) (I : OInfo) (EL : List (String × Nat)) (ws : List Addr) (Q : Option Value → Heap → Prop) (h : Heap) (cs sl : Nat) (g : JFrame) : Prop := oRunG C Z n0 I EL ws (oH Q) h cs sl g
def oConG (l : Launch) (Z : State) (n0 : Nat) (EL : List (String × Nat)) (ws : List Addr) (y : MethodName) (I : OInfo) (as' : Array Value) (h0 : Heap) (G : Option Value → Vm → Heap → Prop) : Prop :=
  Old Z n0 h0 → ∀ wc, MetFree l y (head1 (Jvm.Cond.code y I.bytes I.ml I.ret :: wc) I.R) (fun a U => a = as' ∧ Z.Warmed39 U.vm ∧ U.heap = h0 ∧ CHv Z EL U.vm h0 ∧ ∀ x ∈ ws, Safe Z EL U.vm h0 x ∧ x < h0.size) (fun _ _ _ _ _ => True)
    (fun _ U o U' => ∃ v L, o = .returned v ∧ (Fr n0 L ∧ Old Z n0 U'.heap ∧ G v U'.vm U'.heap) ∧ CHr Z EL U.vm U.heap U'.vm U'.heap ∧ ReturnedEndW U o U' L I.R.cells I.R.slots)
abbrev oCon (l : Launch) (Z : State) (n0 : Nat) (EL : List (String × Nat)) (ws : List Addr) (y : MethodName) (I : OInfo) (as' : Array Value) (h0 : Heap) (Q : Option Value → Heap → Prop) : Prop := oConG l Z n0 EL ws y I as' h0 (oH Q)
theorem oCon.mk {l : Launch} {Z : State} {n0 : Nat} {EL : List (String × Nat)} {ws : List Addr} {y : MethodName} {I : OInfo} {as' : Array Value} {h0 : Heap} {G : Option Value → Vm → Heap → Prop} {a0 : Array Value} (hEL : EW Z a0 EL) (hp : plainFor y = true) (hy1 : y.cls = I.own) (hy2 : y.name = I.mn) {Ls : Array Slot} (ef : ∀ m, entryFrame m as' I.ml = mkF m 0 Ls [])
    (body : ∀ C : OCtx, C.l = l → oRunG C Z n0 I EL ws G h0 0 0 (mkF C.m 0 Ls [])) : oConG l Z n0 EL ws y I as' h0 G := by
  intro hn wc
  refine MetFree.of_bodySF hp hisR ?_
  intro p e s m args below meth c s₁ Bd hml0 hP hK
  obtain ⟨rfl, hZ, hh, hC, hS⟩ := hP
  have hown : s.vm.findClass I.own = some m.cls := by rw [← hy1]; exact findClass_of_methodNamed Bd.named
  have hnm : meth.name = I.mn := by rw [← hy2]; exact (name_of_methodNamed Bd.named Bd.method).1
  have e0 : s₁.heap = h0 := by rw [← hh, Bd.state]; rfl
  have X0 : Stand p l e I.R s m args below meth c s₁ [] 0 0 := Stand.of_body Bd
  subst hh
  have r := body (p, l, e, s, m, args, below, meth, c) rfl s.vm s₁ [] ⟨X0, Bd.exec, hZ, hown, Bd.bytes, hml0, Bd.returns, hnm, Bd.notSynchronized, e0, Fr.nil n0, hn⟩ ⟨⟨a0, hEL⟩, ⟨0, (State.WarmedH.refl s).since 0, Nat.zero_le _⟩, CHr.refl hC, hS⟩
  obtain ⟨t, o, h1, h2, h3, h4⟩ := r
  refine ⟨t, o, castTop (ef m) h1, h2, h3, h4⟩
theorem wX.step {C : OCtx} {Z : State} {EL : List (String × Nat)} {ws : List Addr} {vm0 vm1 : Vm} {h h' : Heap} (V : wX C Z EL ws vm0 h) (R : CHr Z EL vm0 h vm1 h') (S : ∃ k0, C.s.Since vm1 k0 ∧ k0 ≤ h'.size) : wX C Z EL ws vm1 h' :=
  ⟨V.1, S, V.2.2.1.trans R, fun x hx => ⟨R.safe (V.2.2.2 x hx).2 (V.2.2.2 x hx).1, Nat.lt_of_lt_of_le (V.2.2.2 x hx).2 R.2.1⟩⟩
theorem wX.move {C : OCtx} {Z : State} {EL : List (String × Nat)} {ws : List Addr} {vm0 : Vm} {h h' : Heap} (V : wX C Z EL ws vm0 h) (R : CHr Z EL vm0 h vm0 h') : wX C Z EL ws vm0 h' := by
  obtain ⟨k0, q1, q2⟩ := V.2.1
  exact V.step R ⟨k0, q1, Nat.le_trans q2 R.2.1⟩
theorem wX.wr {C : OCtx} {Z : State} {EL : List (String × Nat)} {ws : List Addr} {vm0 : Vm} {h h' : Heap} {a : Addr} {sl : Nat} {v : Value} (V : wX C Z EL ws vm0 h) (W : Wr h h' a sl v) (hs : a ∈ ws) : wX C Z EL ws vm0 h' := V.move (CHr.wr W (V.2.2.2 a hs).1 V.2.2.1.1)
theorem wX.ext {C : OCtx} {Z : State} {EL : List (String × Nat)} {ws : List Addr} {vm0 : Vm} {h h' : Heap} (V : wX C Z EL ws vm0 h) (E : Ext h h') : wX C Z EL ws vm0 h' := V.move (CHr.ext E V.2.2.1.1)
theorem wX.new {C : OCtx} {Z : State} {EL : List (String × Nat)} {ws : List Addr} {vm0 : Vm} {h h' : Heap} {a : Addr} (V : wX C Z EL ws vm0 h) (E : Ext h h') (ha : a = h.size) (hlt : a < h'.size) : wX C Z EL (a :: ws) vm0 h' := by
  have V' := V.ext E
  refine ⟨V'.1, V'.2.1, V'.2.2.1, fun x hx => ?_⟩
  rcases List.mem_cons.mp hx with rfl | hx
  · exact ⟨Safe.ext E V.2.2.1.1 (Safe.new (Nat.le_of_eq ha.symm)), hlt⟩
  · exact V'.2.2.2 x hx
theorem wX.sub {C : OCtx} {Z : State} {EL : List (String × Nat)} {ws ws' : List Addr} {vm0 : Vm} {h : Heap} (V : wX C Z EL ws vm0 h) (q : ∀ x ∈ ws', x ∈ ws) : wX C Z EL ws' vm0 h := ⟨V.1, V.2.1, V.2.2.1, fun x hx => V.2.2.2 x (q x hx)⟩
-- a callee's contract pays a call (over the library's BackS.of_freeW)
theorem o_back {p : Program} {l : Launch} {e : Env} {R : Room} {s : State} {args : Array Value} {below : List Frame} {Z : State} {a0 : Array Value} {EL : List (String × Nat)} {ws : List Addr} {h : Heap} {vm0 : Vm} {n0 : Nat} {y : MethodName} {J : OInfo} {W : Nat} {as' : Array Value} {G : Option Value → Vm → Heap → Prop}
    (hM : oConG l Z n0 EL ws y J as' h G) (hn : Old Z n0 h) (hZ : Z.Warmed39 vm0) (wc : (Jvm.Cond.code y J.bytes J.ml J.ret).before a0 Z = true) (wz : (Jvm.Cond.initialized y.cls).before a0 Z = true) (hf : J.R.frames + 1 ≤ R.frames) (hl : W + (J.ml + 11) + J.R.locals ≤ R.locals) {a1 : Array Value} (hEL : EW Z a1 EL) (H : CHv Z EL vm0 h) (hS : ∀ x ∈ ws, Safe Z EL vm0 h x ∧ x < h.size) {len : Nat} :
    BackS l R p e below (s.setVm vm0) args y len W (fun A a => a = as' ∧ A.U.heap = h ∧ A.cells + J.R.cells ≤ R.cells ∧ A.slots + J.R.slots ≤ R.slots)
      (fun A _ v B => ∃ L, (Fr n0 L ∧ Old Z n0 B.U.heap ∧ G v B.U.vm B.U.heap) ∧ B.locs = A.locs ++ L ∧ B.cells = A.cells + J.R.cells ∧ B.slots = A.slots + J.R.slots ∧ CHr Z EL vm0 h B.U.vm B.U.heap) :=
  BackS.of_freeW (bytes := J.bytes) (maxL := J.ml) (ret := J.ret) (E := fun _ first o t L k n => k = J.R.cells ∧ n = J.R.slots ∧ (∃ v, o = .returned v ∧ (Fr n0 L ∧ Old Z n0 t.heap ∧ G v t.vm t.heap)) ∧ CHr Z EL first.vm first.heap t.vm t.heap) (hM hn []) hf hl
    (fun m meth c A a Y hp => by
      have hU : Z.Warmed39 A.U.vm := wtrans (s := s.setVm vm0) hZ Y.warmed
      refine ⟨?_, mv hU wc, mv hU wz, hp.2.2.1, hp.2.2.2⟩
      show (Jvm.Cond.and _ .tt).before a A.U = true
      rw [Cond.before_and, mv hU wc]; rfl)
    (fun m meth c A a g mk Y hp => ⟨hp.1, wtrans (s := s.setVm vm0) hZ Y.warmed, hp.2.1, (CHv.at Y hZ hEL H).1, fun x hx => ⟨(CHv.at Y hZ hEL H).safe (hS x hx).2 (hS x hx).1, (hS x hx).2⟩⟩) (fun _ _ _ _ _ _ _ _ _ => trivial)
    (fun _ _ _ _ q => by obtain ⟨v, L, h1, h2, h3, h4⟩ := q; exact ⟨L, _, _, h4, rfl, rfl, ⟨v, h1, h2⟩, h3⟩)
    (fun m meth c A a g mk v t L k n Y hp _ _ q => by
      obtain ⟨e1, e2, ⟨v', e3, e4⟩, e5⟩ := q
      cases e3; subst e1 e2
      refine ⟨L, e4, rfl, rfl, rfl, (CHv.at Y hZ hEL H).trans ?_⟩
      rw [← hp.2.1]; exact e5)
theorem wX.add {C : OCtx} {Z : State} {EL : List (String × Nat)} {ws rs : List Addr} {vm0 : Vm} {h : Heap} (V : wX C Z EL ws vm0 h) (q : ∀ x ∈ rs, Safe Z EL vm0 h x ∧ x < h.size) : wX C Z EL (rs ++ ws) vm0 h := ⟨V.1, V.2.1, V.2.2.1, fun x hx => (List.mem_append.mp hx).elim (q x) (V.2.2.2 x)⟩
section OwnCore
variable {C : OCtx} {Z : State} {n0 : Nat} {I : OInfo} {EL : List (String × Nat)} {ws : List Addr} {G : Option Value → Vm → Heap → Prop} {Q : Option Value → Heap → Prop} {h : Heap} {cs sl pc pc' : Nat} {L : Array Slot} {S : List Value} {x y : Int32}
theorem oStep {g g' : JFrame} (st : ∀ {s0 : State} T locs, oK C s0 Z n0 I T locs cs sl h → ∀ t, Steps C.p.tables C.e C.below (T.setTop g') t → Steps C.p.tables C.e C.below (T.setTop g) t) (r : oRunG C Z n0 I EL ws G h cs sl g') : oRunG C Z n0 I EL ws G h cs sl g := by
  intro vm0 T locs K V
  obtain ⟨t, o, h1, h2⟩ := r vm0 T locs K V
  exact ⟨t, o, st T locs K t h1, h2⟩
theorem oMove {g g' : JFrame} (st : ∀ {s0 : State} T locs, oK C s0 Z n0 I T locs cs sl h → ∃ T' locs', oK C s0 Z n0 I T' locs' cs sl h ∧ ∀ t, Steps C.p.tables C.e C.below (T'.setTop g') t → Steps C.p.tables C.e C.below (T.setTop g) t) (r : oRunG C Z n0 I EL ws G h cs sl g') : oRunG C Z n0 I EL ws G h cs sl g := by
  intro vm0 T locs K V
  obtain ⟨T', locs', K', st'⟩ := st T locs K
  obtain ⟨t, o, h1, h2⟩ := r vm0 T' locs' K' V
  exact ⟨t, o, st' t h1, h2⟩
theorem s_aloadN {k : Fin 4} {v : Value} (hd : decode I.bytes pc = .ok (.aload_n k, 1)) (hq : pc + 1 = pc') (hl : L[k.val]? = some (.val v)) (hv : v.isRef = true) (r : oRunG C Z n0 I EL ws G h cs sl (mkF C.m pc' L (v :: S))) : oRunG C Z n0 I EL ws G h cs sl (mkF C.m pc L S) := by
  subst hq; exact oStep (fun T locs K t kt => XS.aloadN K.1.here K.2.1 rfl (hb K.2.2.2.2.1 hd) hl hv kt) r
theorem s_aload {k : Nat} {v : Value} (hd : decode I.bytes pc = .ok (.aload k, 2)) (hq : pc + 2 = pc') (hl : L[k]? = some (.val v)) (hv : v.isRef = true) (r : oRunG C Z n0 I EL ws G h cs sl (mkF C.m pc' L (v :: S))) : oRunG C Z n0 I EL ws G h cs sl (mkF C.m pc L S) := by
  subst hq; exact oStep (fun T locs K t kt => XS.aload K.1.here K.2.1 rfl (hb K.2.2.2.2.1 hd) hl hv kt) r
theorem s_iloadN {k : Fin 4} (hd : decode I.bytes pc = .ok (.iload_n k, 1)) (hq : pc + 1 = pc') (hl : L[k.val]? = some (.val (.int x))) (r : oRunG C Z n0 I EL ws G h cs sl (mkF C.m pc' L (.int x :: S))) : oRunG C Z n0 I EL ws G h cs sl (mkF C.m pc L S) := by
  subst hq; exact oStep (fun T locs K t kt => XS.iloadN K.1.here K.2.1 rfl (hb K.2.2.2.2.1 hd) hl kt) r
theorem s_iload {k : Nat} (hd : decode I.bytes pc = .ok (.iload k, 2)) (hq : pc + 2 = pc') (hl : L[k]? = some (.val (.int x))) (r : oRunG C Z n0 I EL ws G h cs sl (mkF C.m pc' L (.int x :: S))) : oRunG C Z n0 I EL ws G h cs sl (mkF C.m pc L S) := by
  subst hq; exact oStep (fun T locs K t kt => XS.iload K.1.here K.2.1 rfl (hb K.2.2.2.2.1 hd) hl kt) r
theorem s_iconst {i : Int} (hd : decode I.bytes pc = .ok (.iconst i, 1)) (hq : pc + 1 = pc') (hx : Int32.ofInt i = x) (r : oRunG C Z n0 I EL ws G h cs sl (mkF C.m pc' L (.int x :: S))) : oRunG C Z n0 I EL ws G h cs sl (mkF C.m pc L S) := by
  subst hq hx; exact oStep (fun T locs K t kt => XS.iconst K.1.here K.2.1 rfl (hb K.2.2.2.2.1 hd) kt) r
theorem s_bipush {i : Int} (hd : decode I.bytes pc = .ok (.bipush i, 2)) (hq : pc + 2 = pc') (hx : (Int8.ofInt i).toInt32 = x) (r : oRunG C Z n0 I EL ws G h cs sl (mkF C.m pc' L (.int x :: S))) : oRunG C Z n0 I EL ws G h cs sl (mkF C.m pc L S) := by
  subst hq hx; exact oStep (fun T locs K t kt => XS.bipush K.1.here K.2.1 rfl (hb K.2.2.2.2.1 hd) kt) r
theorem s_sipush {i : Int} (hd : decode I.bytes pc = .ok (.sipush i, 3)) (hq : pc + 3 = pc') (hx : (Int16.ofInt i).toInt32 = x) (r : oRunG C Z n0 I EL ws G h cs sl (mkF C.m pc' L (.int x :: S))) : oRunG C Z n0 I EL ws G h cs sl (mkF C.m pc L S) := by
  subst hq hx; exact oStep (fun T locs K t kt => XS.sipush K.1.here K.2.1 rfl (hb K.2.2.2.2.1 hd) kt) r
theorem s_null (hd : decode I.bytes pc = .ok (.aconst_null, 1)) (hq : pc + 1 = pc') (r : oRunG C Z n0 I EL ws G h cs sl (mkF C.m pc' L (.null :: S))) : oRunG C Z n0 I EL ws G h cs sl (mkF C.m pc L S) := by
  subst hq; exact oStep (fun T locs K t kt => XS.aconstNull K.1.here K.2.1 rfl (hb K.2.2.2.2.1 hd) kt) r
theorem s_iadd (hd : decode I.bytes pc = .ok (.iadd, 1)) (hq : pc + 1 = pc') (r : oRunG C Z n0 I EL ws G h cs sl (mkF C.m pc' L (.int (x + y) :: S))) : oRunG C Z n0 I EL ws G h cs sl (mkF C.m pc L (.int y :: .int x :: S)) := by
  subst hq; exact oStep (fun T locs K t kt => XS.iadd K.1.here K.2.1 rfl (hb K.2.2.2.2.1 hd) rfl kt) r
theorem s_isub (hd : decode I.bytes pc = .ok (.isub, 1)) (hq : pc + 1 = pc') (r : oRunG C Z n0 I EL ws G h cs sl (mkF C.m pc' L (.int (x - y) :: S))) : oRunG C Z n0 I EL ws G h cs sl (mkF C.m pc L (.int y :: .int x :: S)) := by
  subst hq; exact oStep (fun T locs K t kt => XS.isub K.1.here K.2.1 rfl (hb K.2.2.2.2.1 hd) rfl kt) r
theorem s_imul (hd : decode I.bytes pc = .ok (.imul, 1)) (hq : pc + 1 = pc') (r : oRunG C Z n0 I EL ws G h cs sl (mkF C.m pc' L (.int (x * y) :: S))) : oRunG C Z n0 I EL ws G h cs sl (mkF C.m pc L (.int y :: .int x :: S)) := by
  subst hq; exact oStep (fun T locs K t kt => XS.imul K.1.here K.2.1 rfl (hb K.2.2.2.2.1 hd) rfl kt) r
theorem s_idiv (hd : decode I.bytes pc = .ok (.idiv, 1)) (hq : pc + 1 = pc') (hy : y ≠ 0) (r : oRunG C Z n0 I EL ws G h cs sl (mkF C.m pc' L (.int (x / y) :: S))) : oRunG C Z n0 I EL ws G h cs sl (mkF C.m pc L (.int y :: .int x :: S)) := by
  subst hq; exact oStep (fun T locs K t kt => XS.idiv K.1.here K.2.1 rfl (hb K.2.2.2.2.1 hd) rfl hy kt) r
theorem o_rem (x y : Int32) : x - (x / y) * y = x % y := irem_eq_mod x y
theorem s_irem (hd : decode I.bytes pc = .ok (.irem, 1)) (hq : pc + 1 = pc') (hy : y ≠ 0) (r : oRunG C Z n0 I EL ws G h cs sl (mkF C.m pc' L (.int (x % y) :: S))) : oRunG C Z n0 I EL ws G h cs sl (mkF C.m pc L (.int y :: .int x :: S)) := by
  subst hq; rw [← o_rem] at r; exact oStep (fun T locs K t kt => XS.irem K.1.here K.2.1 rfl (hb K.2.2.2.2.1 hd) rfl hy kt) r
theorem s_ineg (hd : decode I.bytes pc = .ok (.ineg, 1)) (hq : pc + 1 = pc') (r : oRunG C Z n0 I EL ws G h cs sl (mkF C.m pc' L (.int (-x) :: S))) : oRunG C Z n0 I EL ws G h cs sl (mkF C.m pc L (.int x :: S)) := by
  subst hq; exact oStep (fun T locs K t kt => XS.ineg K.1.here K.2.1 rfl (hb K.2.2.2.2.1 hd) rfl kt) r
theorem s_iand (hd : decode I.bytes pc = .ok (.iand, 1)) (hq : pc + 1 = pc') (r : oRunG C Z n0 I EL ws G h cs sl (mkF C.m pc' L (.int (x &&& y) :: S))) : oRunG C Z n0 I EL ws G h cs sl (mkF C.m pc L (.int y :: .int x :: S)) := by
  subst hq; exact oStep (fun T locs K t kt => XS.iand K.1.here K.2.1 rfl (hb K.2.2.2.2.1 hd) rfl kt) r
theorem s_ior (hd : decode I.bytes pc = .ok (.ior, 1)) (hq : pc + 1 = pc') (r : oRunG C Z n0 I EL ws G h cs sl (mkF C.m pc' L (.int (x ||| y) :: S))) : oRunG C Z n0 I EL ws G h cs sl (mkF C.m pc L (.int y :: .int x :: S)) := by
  subst hq; exact oStep (fun T locs K t kt => XT.ior K.1.here K.2.1 rfl (hb K.2.2.2.2.1 hd) rfl kt) r
theorem s_ixor (hd : decode I.bytes pc = .ok (.ixor, 1)) (hq : pc + 1 = pc') (r : oRunG C Z n0 I EL ws G h cs sl (mkF C.m pc' L (.int (x ^^^ y) :: S))) : oRunG C Z n0 I EL ws G h cs sl (mkF C.m pc L (.int y :: .int x :: S)) := by
  subst hq; exact oStep (fun T locs K t kt => XT.ixor K.1.here K.2.1 rfl (hb K.2.2.2.2.1 hd) rfl kt) r
theorem s_ishl (hd : decode I.bytes pc = .ok (.ishl, 1)) (hq : pc + 1 = pc') (r : oRunG C Z n0 I EL ws G h cs sl (mkF C.m pc' L (.int (x <<< (y &&& 31)) :: S))) : oRunG C Z n0 I EL ws G h cs sl (mkF C.m pc L (.int y :: .int x :: S)) := by
  subst hq; exact oStep (fun T locs K t kt => XT.ishl K.1.here K.2.1 rfl (hb K.2.2.2.2.1 hd) rfl kt) r
theorem s_ishr (hd : decode I.bytes pc = .ok (.ishr, 1)) (hq : pc + 1 = pc') (r : oRunG C Z n0 I EL ws G h cs sl (mkF C.m pc' L (.int (x >>> (y &&& 31)) :: S))) : oRunG C Z n0 I EL ws G h cs sl (mkF C.m pc L (.int y :: .int x :: S)) := by
  subst hq; exact oStep (fun T locs K t kt => XT.ishr K.1.here K.2.1 rfl (hb K.2.2.2.2.1 hd) rfl kt) r
theorem s_iushr (hd : decode I.bytes pc = .ok (.iushr, 1)) (hq : pc + 1 = pc') (r : oRunG C Z n0 I EL ws G h cs sl (mkF C.m pc' L (.int (XT.ushr x y) :: S))) : oRunG C Z n0 I EL ws G h cs sl (mkF C.m pc L (.int y :: .int x :: S)) := by
  subst hq; exact oStep (fun T locs K t kt => XT.iushr K.1.here K.2.1 rfl (hb K.2.2.2.2.1 hd) rfl kt) r
theorem s_i2c (hd : decode I.bytes pc = .ok (.i2c, 1)) (hq : pc + 1 = pc') (r : oRunG C Z n0 I EL ws G h cs sl (mkF C.m pc' L (.int (x.toUInt32.toUInt16.toUInt32.toInt32) :: S))) : oRunG C Z n0 I EL ws G h cs sl (mkF C.m pc L (.int x :: S)) := by
  subst hq; exact oStep (fun T locs K t kt => XT.i2c K.1.here K.2.1 rfl (hb K.2.2.2.2.1 hd) rfl kt) r
theorem s_i2b (hd : decode I.bytes pc = .ok (.i2b, 1)) (hq : pc + 1 = pc') (r : oRunG C Z n0 I EL ws G h cs sl (mkF C.m pc' L (.int (x.toInt8.toInt32) :: S))) : oRunG C Z n0 I EL ws G h cs sl (mkF C.m pc L (.int x :: S)) := by
  subst hq; exact oStep (fun T locs K t kt => XT.i2b K.1.here K.2.1 rfl (hb K.2.2.2.2.1 hd) rfl kt) r
theorem s_dup {v : Value} (hd : decode I.bytes pc = .ok (.dup, 1)) (hq : pc + 1 = pc') (hc : v.category = 1) (r : oRunG C Z n0 I EL ws G h cs sl (mkF C.m pc' L (v :: v :: S))) : oRunG C Z n0 I EL ws G h cs sl (mkF C.m pc L (v :: S)) := by
  subst hq; exact oStep (fun T locs K t kt => XS.dup K.1.here K.2.1 rfl (hb K.2.2.2.2.1 hd) rfl hc kt) r
theorem s_pop {v : Value} (hd : decode I.bytes pc = .ok (.pop, 1)) (hq : pc + 1 = pc') (hc : v.category = 1) (r : oRunG C Z n0 I EL ws G h cs sl (mkF C.m pc' L S)) : oRunG C Z n0 I EL ws G h cs sl (mkF C.m pc L (v :: S)) := by
  subst hq; exact oStep (fun T locs K t kt => XT.pop K.1.here K.2.1 rfl (hb K.2.2.2.2.1 hd) rfl hc kt) r
theorem s_istoreN {k : Fin 4} {kn : Nat} {L : List Slot} (hk : k.val = kn) (hd : decode I.bytes pc = .ok (.istore_n k, 1)) (hq : pc + 1 = pc') (hl : storeLocals L.toArray kn (.int x) = some (L.set kn (.val (.int x))).toArray) (r : oRunG C Z n0 I EL ws G h cs sl (mkF C.m pc' (L.set kn (.val (.int x))).toArray S)) : oRunG C Z n0 I EL ws G h cs sl (mkF C.m pc L.toArray (.int x :: S)) := by
  subst hq hk; exact oStep (fun T locs K t kt => XS.istoreN K.1.here K.2.1 rfl (hb K.2.2.2.2.1 hd) rfl hl kt) r
theorem s_istore {k : Nat} {L : List Slot} (hd : decode I.bytes pc = .ok (.istore k, 2)) (hq : pc + 2 = pc') (hl : storeLocals L.toArray k (.int x) = some (L.set k (.val (.int x))).toArray) (r : oRunG C Z n0 I EL ws G h cs sl (mkF C.m pc' (L.set k (.val (.int x))).toArray S)) : oRunG C Z n0 I EL ws G h cs sl (mkF C.m pc L.toArray (.int x :: S)) := by
  subst hq; exact oStep (fun T locs K t kt => XS.istore K.1.here K.2.1 rfl (hb K.2.2.2.2.1 hd) rfl hl kt) r
theorem s_astoreN {k : Fin 4} {kn : Nat} {v : Value} {L : List Slot} (hk : k.val = kn) (hd : decode I.bytes pc = .ok (.astore_n k, 1)) (hq : pc + 1 = pc') (hv : v.isRef = true) (hl : storeLocals L.toArray kn v = some (L.set kn (.val v)).toArray) (r : oRunG C Z n0 I EL ws G h cs sl (mkF C.m pc' (L.set kn (.val v)).toArray S)) : oRunG C Z n0 I EL ws G h cs sl (mkF C.m pc L.toArray (v :: S)) := by
  subst hq hk; exact oStep (fun T locs K t kt => XS.astoreN K.1.here K.2.1 rfl (hb K.2.2.2.2.1 hd) rfl hv hl kt) r
theorem s_astore {k : Nat} {v : Value} {L : List Slot} (hd : decode I.bytes pc = .ok (.astore k, 2)) (hq : pc + 2 = pc') (hv : v.isRef = true) (hl : storeLocals L.toArray k v = some (L.set k (.val v)).toArray) (r : oRunG C Z n0 I EL ws G h cs sl (mkF C.m pc' (L.set k (.val v)).toArray S)) : oRunG C Z n0 I EL ws G h cs sl (mkF C.m pc L.toArray (v :: S)) := by
  subst hq; exact oStep (fun T locs K t kt => XS.astore K.1.here K.2.1 rfl (hb K.2.2.2.2.1 hd) rfl hv hl kt) r
theorem s_iinc {k : Nat} {i : Int} {L : List Slot} (hd : decode I.bytes pc = .ok (.iinc k i, 3)) (hq : pc + 3 = pc') (hi : Int32.ofInt i = y) (hl0 : L.toArray[k]? = some (.val (.int x))) (hl : storeLocals L.toArray k (.int (x + y)) = some (L.set k (.val (.int (x + y)))).toArray) (r : oRunG C Z n0 I EL ws G h cs sl (mkF C.m pc' (L.set k (.val (.int (x + y)))).toArray S)) : oRunG C Z n0 I EL ws G h cs sl (mkF C.m pc L.toArray S) := by
  subst hq hi; exact oStep (fun T locs K t kt => XS.iinc K.1.here K.2.1 rfl (hb K.2.2.2.2.1 hd) hl0 hl kt) r
theorem o_st {L : List Slot} {k : Nat} {s : Slot} {v : Value} (hk : L[k]? = some s) (hs : One s) (hv : v.category = 1) : storeLocals L.toArray k v = some (L.set k (.val v)).toArray := by
  have hlt : k < L.length := (List.getElem?_eq_some_iff.mp hk).1
  have hka : L.toArray[k]? = some s := by simpa using hk
  have e : storeSelf L.toArray k v = some (L.set k (.val v)).toArray := by simp [storeSelf, setAt, hv, hlt]
  rcases hs with rfl | ⟨w, rfl, hw⟩
  · simp only [storeLocals, hka, Option.bind_eq_bind, Option.bind_some]; exact e
  · simp only [storeLocals, hka, Option.bind_eq_bind, Option.bind_some, hw]; exact e
theorem s_goto {o : Int} (hd : decode I.bytes pc = .ok (.goto o, 3)) (ho : 0 ≤ (pc : Int) + o) (hq : ((pc : Int) + o).toNat = pc') (r : oRunG C Z n0 I EL ws G h cs sl (mkF C.m pc' L S)) : oRunG C Z n0 I EL ws G h cs sl (mkF C.m pc L S) :=
  oStep (fun T locs K t kt => XS.goto K.1.here K.2.1 rfl (pc0 := pc) rfl (hb K.2.2.2.2.1 hd) ho hq kt) r
theorem s_if {cd : ClassFile.Cond} {o : Int} {pc'' : Nat} (hd : decode I.bytes pc = .ok (.ifCond cd o, 3)) (hq : pc + 3 = pc') (ho : 0 ≤ (pc : Int) + o) (hq' : ((pc : Int) + o).toNat = pc'')
    (rt : if_icmp.holds cd x 0 = true → oRunG C Z n0 I EL ws G h cs sl (mkF C.m pc'' L S)) (rf : if_icmp.holds cd x 0 = false → oRunG C Z n0 I EL ws G h cs sl (mkF C.m pc' L S)) : oRunG C Z n0 I EL ws G h cs sl (mkF C.m pc L (.int x :: S)) := by
  subst hq
  cases hh : if_icmp.holds cd x 0
  · exact oStep (fun T locs K t kt => XS.ifNo K.1.here K.2.1 rfl (hb K.2.2.2.2.1 hd) rfl ((if0 _ _).trans hh) kt) (rf hh)
  · exact oStep (fun T locs K t kt => XS.ifYes K.1.here K.2.1 rfl (pc0 := pc) rfl (hb K.2.2.2.2.1 hd) rfl ((if0 _ _).trans hh) ho hq' kt) (rt hh)
theorem s_icmp {cd : ClassFile.Cond} {o : Int} {pc'' : Nat} (hd : decode I.bytes pc = .ok (.if_icmp cd o, 3)) (hq : pc + 3 = pc') (ho : 0 ≤ (pc : Int) + o) (hq' : ((pc : Int) + o).toNat = pc'')
    (rt : if_icmp.holds cd x y = true → oRunG C Z n0 I EL ws G h cs sl (mkF C.m pc'' L S)) (rf : if_icmp.holds cd x y = false → oRunG C Z n0 I EL ws G h cs sl (mkF C.m pc' L S)) : oRunG C Z n0 I EL ws G h cs sl (mkF C.m pc L (.int y :: .int x :: S)) := by
  subst hq
  cases hh : if_icmp.holds cd x y
  · exact oStep (fun T locs K t kt => XS.icmpNo K.1.here K.2.1 rfl (hb K.2.2.2.2.1 hd) rfl hh kt) (rf hh)
  · exact oStep (fun T locs K t kt => XS.icmpYes K.1.here K.2.1 rfl (pc0 := pc) rfl (hb K.2.2.2.2.1 hd) rfl hh ho hq' kt) (rt hh)
theorem b_eq (h : if_icmp.holds .eq x y = true) : x = y := by simpa [if_icmp.holds] using h
theorem b_eqF (h : if_icmp.holds .eq x y = false) : ¬ x = y := by simpa [if_icmp.holds] using h
theorem b_ne (h : if_icmp.holds .ne x y = true) : ¬ x = y := by simpa [if_icmp.holds] using h
theorem b_neF (h : if_icmp.holds .ne x y = false) : x = y := by simpa [if_icmp.holds] using h
theorem b_lt (h : if_icmp.holds .lt x y = true) : x < y := by simpa [if_icmp.holds] using h
theorem b_ltF (h : if_icmp.holds .lt x y = false) : ¬ x < y := by simpa [if_icmp.holds] using h
theorem b_ge (h : if_icmp.holds .ge x y = true) : ¬ x < y := by simpa [if_icmp.holds, Int32.not_lt] using h
theorem b_geF (h : if_icmp.holds .ge x y = false) : x < y := by simpa [if_icmp.holds, Int32.not_le] using h
theorem b_gt (h : if_icmp.holds .gt x y = true) : y < x := by simpa [if_icmp.holds] using h
theorem b_gtF (h : if_icmp.holds .gt x y = false) : ¬ y < x := by simpa [if_icmp.holds] using h
theorem b_le (h : if_icmp.holds .le x y = true) : ¬ y < x := by simpa [if_icmp.holds, Int32.not_lt] using h
theorem b_leF (h : if_icmp.holds .le x y = false) : y < x := by simpa [if_icmp.holds, Int32.not_le] using h
-- the heap's steps
theorem s_old {g : JFrame} (r : Old Z n0 h → oRunG C Z n0 I EL ws G h cs sl g) : oRunG C Z n0 I EL ws G h cs sl g := fun vm0 T locs K V => r K.2.2.2.2.2.2.2.2.2.2.2 vm0 T locs K V
theorem s_getF {a0 : Array Value} {R0 O n d host : String} {index : Nat} {a : Addr} {v : Value} (F : Fld Z h a O n d v) (w : (Jvm.Cond.fieldLink I.own index R0 n d).before a0 Z = true ∨ (Jvm.Cond.fieldLinkNest I.own index R0 n d host).before a0 Z = true) (via : Via Z R0 O n d) (hd : decode I.bytes pc = .ok (.getfield index, 3)) (hq : pc + 3 = pc')
    (r : oRunG C Z n0 I EL ws G h cs sl (mkF C.m pc' L (v :: S))) : oRunG C Z n0 I EL ws G h cs sl (mkF C.m pc L (.ref a :: S)) := by
  subst hq
  refine oMove (fun T locs K => ?_) r
  obtain ⟨X, k1, k2, k3, k4, k5, k6, k7, k8, k9, k10, k11⟩ := K
  obtain ⟨T', X', e', st⟩ := getF X k1 k2 k3 w via k9 F (g := mkF C.m pc L (.ref a :: S)) rfl rfl (hb k4 hd)
  exact ⟨T', locs, ⟨X', k1, k2, k3, k4, k5, k6, k7, k8, e', k10, k11⟩, st⟩
theorem s_putF {a0 : Array Value} {R0 O n d host C' : String} {index kk : Nat} {ty : FieldType} {a : Addr} {v old : Value} (F : Fld Z h a O n d old) (E : Exa Z h a C') (ha : n0 ≤ a) (hs : a ∈ ws) (w : (Jvm.Cond.fieldLink I.own index R0 n d).before a0 Z = true ∨ (Jvm.Cond.fieldLinkNest I.own index R0 n d host).before a0 Z = true) (via : Via Z R0 O n d)
    (Lw : (Jvm.Cond.lays C' O n d).before a0 Z = true ∨ ((Jvm.Cond.laysFinal C' O n d).before a0 Z = true ∧ I.own = O ∧ I.mn = "<init>")) (wi : (Jvm.Cond.instantiable C' kk).before a0 Z = true)
    (hty : parseFieldDescriptor d = some ty) (hn : narrow ty v = v) (hf : fits ty v = true) (hd : decode I.bytes pc = .ok (.putfield index, 3)) (hq : pc + 3 = pc')
    (r : ∀ h', Wr h h' a (Jvm.RoadKit.slotOf Z O n d) v → oRunG C Z n0 I EL ws G h' cs sl (mkF C.m pc' L S)) : oRunG C Z n0 I EL ws G h cs sl (mkF C.m pc L (v :: .ref a :: S)) := by
  subst hq
  intro vm0 T locs K V
  obtain ⟨X, k1, k2, k3, k4, k5, k6, k7, k8, k9, k10, k11⟩ := K
  obtain ⟨T', h', X', e', W, st⟩ := putF X k1 k2 k3 w via k9 F E (Lw.imp id fun q => ⟨q.1, q.2.1, k7.trans q.2.2⟩) wi hty hn hf (g := mkF C.m pc L (v :: .ref a :: S)) rfl rfl (hb k4 hd)
  obtain ⟨t, o, h1, h2⟩ := r h' W vm0 T' _ ⟨X', k1, k2, k3, k4, k5, k6, k7, k8, e', Fr.snoc X' k10 ha, k11.wr W ha⟩ (V.wr W hs)
  exact ⟨t, o, st t h1, h2⟩
theorem s_getS {a0 : Array Value} {R0 O n d : String} {index : Nat} {v : Value} (F : Sta Z Z.heap O n d v) (w : (Jvm.Cond.fieldLink I.own index R0 n d).before a0 Z = true) (via : Via Z R0 O n d) (hd : decode I.bytes pc = .ok (.getstatic index, 3)) (hq : pc + 3 = pc')
    (r : oRunG C Z n0 I EL ws G h cs sl (mkF C.m pc' L (v :: S))) : oRunG C Z n0 I EL ws G h cs sl (mkF C.m pc L S) := by
  subst hq
  refine oMove (fun T locs K => ?_) r
  obtain ⟨X, k1, k2, k3, k4, k5, k6, k7, k8, k9, k10, k11⟩ := K
  obtain ⟨T', X', e', st⟩ := getS (host := "") X k1 k2 k3 w via k9 (F.ext k11.2) (g := mkF C.m pc L S) rfl (hb k4 hd)
  exact ⟨T', locs, ⟨X', k1, k2, k3, k4, k5, k6, k7, k8, e', k10, k11⟩, st⟩
theorem s_new {a0 : Array Value} {C' : String} {index n : Nat} (w : (Jvm.Cond.classLink I.own index C').before a0 Z = true) (wi : (Jvm.Cond.instantiable C' n).before a0 Z = true) (wz : (Jvm.Cond.initialized C').before a0 Z = true) (hd : decode I.bytes pc = .ok (.new index, 3)) (hq : pc + 3 = pc') (hc : cs + 1 ≤ I.R.cells) (hl : sl + n ≤ I.R.slots)
    (r : ∀ h' a, a = h.size → n0 ≤ a → Ext h h' → Exa Z h' a C' → (∀ {O nm d : String} {ty : FieldType}, Laid Z a0 C' O nm d → parseFieldDescriptor d = some ty → Fld Z h' a O nm d (defaultValue ty)) → oRunG C Z n0 I EL (a :: ws) G h' (cs + 1) (sl + n) (mkF C.m pc' L (.ref a :: S))) : oRunG C Z n0 I EL ws G h cs sl (mkF C.m pc L S) := by
  subst hq
  intro vm0 T locs K V
  obtain ⟨X, k1, k2, k3, k4, k5, k6, k7, k8, k9, k10, k11⟩ := K
  obtain ⟨T', h', X', e', E, A, D, -, st⟩ := newO X k1 k2 k3 w wi wz k9 (g := mkF C.m pc L S) rfl (hb k4 hd) hc hl
  obtain ⟨t, o, h1, h2⟩ := r h' _ rfl (o_le k11) E A D vm0 T' _ ⟨X', k1, k2, k3, k4, k5, k6, k7, k8, e', k10, k11.ext E⟩ (V.new E rfl A.lt)
  exact ⟨t, o, st t h1, h2⟩
theorem s_newA {a0 : Array Value} {aty : ArrayType} {n : Int32} (cap : Nat) (w : (Jvm.Cond.arrayClass (newarray.typeOf aty)).before a0 Z = true) (hd : decode I.bytes pc = .ok (.newarray aty, 2)) (hq : pc + 2 = pc') (hn : ¬ n < 0) (hcap : n.toNatClampNeg ≤ cap) (hb' : cap * 8 ≤ 536870912) (hc : cs + 1 ≤ I.R.cells) (hl : sl + cap ≤ I.R.slots)
    (r : ∀ h' a k, a = h.size → n0 ≤ a → Ext h h' → Arv Z h' a k (newarray.typeOf aty) n [] (defaultValue (newarray.typeOf aty)) → oRunG C Z n0 I EL (a :: ws) G h' (cs + 1) (sl + cap) (mkF C.m pc' L (.ref a :: S))) : oRunG C Z n0 I EL ws G h cs sl (mkF C.m pc L (.int n :: S)) := by
  subst hq
  intro vm0 T locs K V
  obtain ⟨X, k1, k2, k3, k4, k5, k6, k7, k8, k9, k10, k11⟩ := K
  obtain ⟨T', h', kA, X', e', E, A, st⟩ := newP X k1 k2 w k9 (g := mkF C.m pc L (.int n :: S)) rfl (hb k4 hd) rfl hn hcap hb' hc hl
  obtain ⟨t, o, h1, h2⟩ := r h' _ kA rfl (o_le k11) E (Arv.new A hn) vm0 T' _ ⟨X', k1, k2, k3, k4, k5, k6, k7, k8, e', k10, k11.ext E⟩ (V.new E rfl A.lt)
  exact ⟨t, o, st t h1, h2⟩
theorem s_newAE {a0 : Array Value} {aty : ArrayType} {n : Int32} {ad : String} (cap : Nat) (had : "[" ++ (newarray.typeOf aty).toString = ad) (w : (Jvm.Cond.arrayClass (newarray.typeOf aty)).before a0 Z = true) (hd : decode I.bytes pc = .ok (.newarray aty, 2)) (hq : pc + 2 = pc') (hn : ¬ n < 0) (hcap : n.toNatClampNeg ≤ cap) (hb' : cap * 8 ≤ 536870912) (hc : cs + 1 ≤ I.R.cells) (hl : sl + cap ≤ I.R.slots)
    (r : ∀ h' a k, a = h.size → n0 ≤ a → Ext h h' → Arv Z h' a k (newarray.typeOf aty) n [] (defaultValue (newarray.typeOf aty)) → Exa Z h' a ad → oRunG C Z n0 I EL (a :: ws) G h' (cs + 1) (sl + cap) (mkF C.m pc' L (.ref a :: S))) : oRunG C Z n0 I EL ws G h cs sl (mkF C.m pc L (.int n :: S)) := by
  subst hq
  intro vm0 T locs K V
  obtain ⟨X, k1, k2, k3, k4, k5, k6, k7, k8, k9, k10, k11⟩ := K
  obtain ⟨T', h', kA, X', e', E, A, EA, st⟩ := newPE X k1 k2 w k9 (g := mkF C.m pc L (.int n :: S)) rfl (hb k4 hd) rfl hn hcap hb' hc hl had
  obtain ⟨t, o, h1, h2⟩ := r h' _ kA rfl (o_le k11) E (Arv.new A hn) EA vm0 T' _ ⟨X', k1, k2, k3, k4, k5, k6, k7, k8, e', k10, k11.ext E⟩ (V.new E rfl A.lt)
  exact ⟨t, o, st t h1, h2⟩
theorem s_clone {a0 : Array Value} {index : Nat} {a : Addr} {k : ClassId} {ty : FieldType} {z : Int32} {vs : List Value} {dv : Value} {ad : String} (cap : Nat) (A : Arv Z h a k ty z vs dv) (E : Exa Z h a ad)
    (w1 : (Jvm.Cond.methodLink I.own index ⟨ad, "clone", "()Ljava/lang/Object;"⟩).before a0 Z = true) (w2 : (Jvm.Cond.sameMethod ad "java/lang/Object" "clone" "()Ljava/lang/Object;").before a0 Z = true) (w3 : (Jvm.Cond.native ⟨"java/lang/Object", "clone", "()Ljava/lang/Object;"⟩).before a0 Z = true) (w4 : (Jvm.Cond.instanceMethod ⟨"java/lang/Object", "clone", "()Ljava/lang/Object;"⟩).before a0 Z = true)
    (w5 : (Jvm.Cond.selects ad ⟨ad, "clone", "()Ljava/lang/Object;"⟩ ⟨"java/lang/Object", "clone", "()Ljava/lang/Object;"⟩).before a0 Z = true) (w6 : (Jvm.Cond.castable ad "java/lang/Cloneable").before a0 Z = true)
    (hsz : L.size = I.ml) (hd : decode I.bytes pc = .ok (.invokevirtual index, 3)) (hq : pc + 3 = pc') (hf : 1 ≤ I.R.frames) (hlo : (S.map fun v => v.category).sum + 14 ≤ I.R.locals) (hcap : z.toNatClampNeg ≤ cap) (hc : cs + 1 ≤ I.R.cells) (hl : sl + cap ≤ I.R.slots)
    (r : ∀ h' b, b = h.size → n0 ≤ b → Ext h h' → Arv Z h' b k ty z vs dv → Exa Z h' b ad → oRunG C Z n0 I EL (b :: ws) G h' (cs + 1) (sl + cap) (mkF C.m pc' L (.ref b :: S))) : oRunG C Z n0 I EL ws G h cs sl (mkF C.m pc L (.ref a :: S)) := by
  subst hq
  intro vm0 T locs K V
  obtain ⟨X, k1, k2, k3, k4, k5, k6, k7, k8, k9, k10, k11⟩ := K
  have F := Ins.of_exa E w6
  obtain ⟨c, A1, A2, A3, A4, A5, A6⟩ := A
  obtain ⟨c2, kE, e1, e2, e3, e4, e5⟩ := E
  cases A1.1.symm.trans e1
  obtain ⟨c3, cT, f1, f2, f3⟩ := F
  cases A1.1.symm.trans f1
  simp only [Bool.and_eq_true, Bool.not_eq_true'] at f3
  obtain ⟨hob, kA, hkA, comp, hkind⟩ := A1.2.1
  have hal : Z.vm.Alike vm0 := k2.alike
  obtain ⟨kB, hkB, ekB⟩ := hal.2.2 _ _ hkA
  have hkindB : kB.kind = .array comp ty := by rw [ekB]; exact hkind
  obtain ⟨kC, hkC, ekC⟩ := X.warmed.alike.2.2 _ _ hkB
  have hkindC : kC.kind = .array comp ty := by rw [ekC]; exact hkindB
  have hfit : ∀ i v, c.slots[i]? = some v → T.fitsSlot c.cls .none i v = true := fun i v hv => by
    have hi : i < c.slots.size := (Array.getElem?_eq_some_iff.mp hv).1
    have q := A5 i hi
    rw [hv] at q
    cases Option.some.inj q
    simp [State.fitsSlot, State.slotType?, hkC, hkindC]
    exact A6 i hi
  obtain ⟨vm', X', st⟩ := X.cloneArray k1 k3 (mvT k2 w1) (mvT k2 w2) (mvT k2 w3) (mvT k2 w4) (mvT k2 w5) (a := a) (cell := c) (by rw [k9]; exact A1.1) hob A1.2.2 ((hal.findClass _ _).trans e2) ((hal.findClass _ _).trans f2) ((hal.assignable _ _).trans f3.2) hfit (g := mkF C.m pc L (.ref a :: S)) rfl (hsz.trans k5.symm) rfl (hb k4 hd) hf (by show 2 * 0 + _ + 14 ≤ _; omega) hc (by omega) (Vm.clonesLoader_of_array hkB hkindB)
  have e' : ((T.setVm vm').pushCell { cls := c.cls, slots := c.slots }).heap = h.push { cls := c.cls, slots := c.slots } := by rw [← k9]; rfl
  have EE : Ext h (h.push { cls := c.cls, slots := c.slots }) := ⟨by simp, fun x cx hx => by rw [Array.getElem?_push_lt (Array.getElem?_eq_some_iff.mp hx).1]; exact (Array.getElem?_eq_getElem _).symm.trans hx⟩
  have hN : (h.push ({ cls := c.cls, slots := c.slots } : Cell))[h.size]? = some { cls := c.cls, slots := c.slots } := by simp
  rw [show T.heap.size = h.size from by rw [k9]] at st
  obtain ⟨t, o, h1, h2⟩ := r _ h.size rfl (o_le k11) EE ⟨_, ⟨hN, ⟨by simp, kA, hkA, comp, hkind⟩, by simp⟩, A2, A3, A4, A5, A6⟩ ⟨_, kE, hN, e2, e3, rfl, e5⟩ vm0 _ _ ⟨X'.more (Nat.le_refl _) (by omega), k1, k2, k3, k4, k5, k6, k7, k8, e', k10, k11.ext EE⟩ (V.new EE rfl (by simp))
  exact ⟨t, o, st t h1, h2⟩
theorem s_alen {a : Addr} {k : ClassId} {ty : FieldType} {n : Int32} {vs : List Value} {dv : Value} (A : Arv Z h a k ty n vs dv) (hd : decode I.bytes pc = .ok (.arraylength, 1)) (hq : pc + 1 = pc') (r : oRunG C Z n0 I EL ws G h cs sl (mkF C.m pc' L (.int n :: S))) : oRunG C Z n0 I EL ws G h cs sl (mkF C.m pc L (.ref a :: S)) := by
  subst hq
  refine oStep (fun T locs K t kt => ?_) r
  obtain ⟨X, k1, k2, k3, k4, k5, k6, k7, k8, k9, k10, k11⟩ := K
  obtain ⟨c, A1, A2, A3, A4, -⟩ := A
  refine X.arraylength k1 (by rw [k9]; exact A1.1) (State.isArrayOf_alike k2.alike A1.2.1) (g := mkF C.m pc L (.ref a :: S)) rfl rfl (hb k4 hd) _ ?_
  rw [len_of A3 A4]; exact kt
theorem o_at {a : Addr} {k : ClassId} {ty : FieldType} {n j : Int32} {vs : List Value} {dv v : Value} (A : Arv Z h a k ty n vs dv) (j0 : ¬ j < 0) (j1 : j < n) (hv : vs.getD j.toNatClampNeg dv = v) : ∃ c, Arr Z h a c ty ∧ ¬ (j < 0 ∨ c.slots.size ≤ j.toNatClampNeg) ∧ c.slots[j.toNatClampNeg]? = some v := by
  obtain ⟨c, A1, A2, A3, A4, A5, A6⟩ := A
  have q := inb_of A3 ⟨j0, j1⟩
  exact ⟨c, A1, q, A5.at q hv⟩
theorem s_iaload {a : Addr} {k : ClassId} {n j : Int32} {vs : List Value} {dv v : Value} (A : Arv Z h a k .int n vs dv) (j0 : ¬ j < 0) (j1 : j < n) (hv : vs.getD j.toNatClampNeg dv = v) (hd : decode I.bytes pc = .ok (.iaload, 1)) (hq : pc + 1 = pc') (r : oRunG C Z n0 I EL ws G h cs sl (mkF C.m pc' L (v :: S))) : oRunG C Z n0 I EL ws G h cs sl (mkF C.m pc L (.int j :: .ref a :: S)) := by
  subst hq
  refine oStep (fun T locs K t kt => ?_) r
  obtain ⟨X, k1, k2, k3, k4, k5, k6, k7, k8, k9, k10, k11⟩ := K
  obtain ⟨c, A1, q, A2⟩ := o_at A j0 j1 hv
  exact X.iaload k1 (by rw [k9]; exact A1.1) (State.isArrayOf_alike k2.alike A1.2.1) A1.2.2 q A2 (g := mkF C.m pc L (.int j :: .ref a :: S)) rfl rfl (hb k4 hd) _ kt
theorem s_caload {a : Addr} {k : ClassId} {n j : Int32} {vs : List Value} {dv v : Value} (A : Arv Z h a k .char n vs dv) (j0 : ¬ j < 0) (j1 : j < n) (hv : vs.getD j.toNatClampNeg dv = v) (hd : decode I.bytes pc = .ok (.caload, 1)) (hq : pc + 1 = pc') (r : oRunG C Z n0 I EL ws G h cs sl (mkF C.m pc' L (v :: S))) : oRunG C Z n0 I EL ws G h cs sl (mkF C.m pc L (.int j :: .ref a :: S)) := by
  subst hq
  refine oStep (fun T locs K t kt => ?_) r
  obtain ⟨X, k1, k2, k3, k4, k5, k6, k7, k8, k9, k10, k11⟩ := K
  obtain ⟨c, A1, q, A2⟩ := o_at A j0 j1 hv
  exact X.caload k1 (by rw [k9]; exact A1.1) (State.isArrayOf_alike k2.alike A1.2.1) A1.2.2 q A2 (g := mkF C.m pc L (.int j :: .ref a :: S)) rfl rfl (hb k4 hd) _ kt
theorem s_baload {a : Addr} {k : ClassId} {n j : Int32} {vs : List Value} {dv v : Value} (A : Arv Z h a k .byte n vs dv) (j0 : ¬ j < 0) (j1 : j < n) (hv : vs.getD j.toNatClampNeg dv = v) (hd : decode I.bytes pc = .ok (.baload, 1)) (hq : pc + 1 = pc') (r : oRunG C Z n0 I EL ws G h cs sl (mkF C.m pc' L (v :: S))) : oRunG C Z n0 I EL ws G h cs sl (mkF C.m pc L (.int j :: .ref a :: S)) := by
  subst hq
  refine oStep (fun T locs K t kt => ?_) r
  obtain ⟨X, k1, k2, k3, k4, k5, k6, k7, k8, k9, k10, k11⟩ := K
  obtain ⟨c, A1, q, A2⟩ := o_at A j0 j1 hv
  exact X.baloadBytes k1 (by rw [k9]; exact A1.1) (State.isArrayOf_alike k2.alike A1.2.1) A1.2.2 q A2 (g := mkF C.m pc L (.int j :: .ref a :: S)) rfl rfl (hb k4 hd) _ kt
theorem s_aaload {a : Addr} {cl : Cell} {ty : FieldType} {j : Int32} {v : Value} (A : Arr Z h a cl ty) (ht : ty.isReference = true) (q : ¬ (j < 0 ∨ cl.slots.size ≤ j.toNatClampNeg)) (hv : cl.slots[j.toNatClampNeg]? = some v) (hd : decode I.bytes pc = .ok (.aaload, 1)) (hq : pc + 1 = pc') (r : oRunG C Z n0 I EL ws G h cs sl (mkF C.m pc' L (v :: S))) : oRunG C Z n0 I EL ws G h cs sl (mkF C.m pc L (.int j :: .ref a :: S)) := by
  subst hq
  refine oStep (fun T locs K t kt => ?_) r
  obtain ⟨X, k1, k2, k3, k4, k5, k6, k7, k8, k9, k10, k11⟩ := K
  exact X.aaload k1 (by rw [k9]; exact A.1) (State.isArrayOf_alike k2.alike A.2.1) ht A.2.2 q hv (g := mkF C.m pc L (.int j :: .ref a :: S)) rfl rfl (hb k4 hd) _ kt
theorem o_padTo {a : Addr} {k : ClassId} {ty : FieldType} {n : Int32} {vs : List Value} {dv : Value} (A : Arv Z h a k ty n vs dv) (N : Nat) : Arv Z h a k ty n (vs ++ List.replicate N dv) dv := A.pad (pad_rep vs dv N)
theorem s_iastore {a : Addr} {k : ClassId} {n j : Int32} {vs : List Value} {dv : Value} (A : Arv Z h a k .int n vs dv) (ha : n0 ≤ a) (hs : a ∈ ws) (j0 : ¬ j < 0) (j1 : j < n) (i : Nat) (hi : j.toNatClampNeg = i) (hl : i < vs.length) (hd : decode I.bytes pc = .ok (.iastore, 1)) (hq : pc + 1 = pc')
    (r : ∀ h', Wr h h' a i (.int x) → Arv Z h' a k .int n (vs.set i (.int x)) dv → oRunG C Z n0 I EL ws G h' cs sl (mkF C.m pc' L S)) : oRunG C Z n0 I EL ws G h cs sl (mkF C.m pc L (.int x :: .int j :: .ref a :: S)) := by
  subst hq
  intro vm0 T locs K V
  obtain ⟨X, k1, k2, k3, k4, k5, k6, k7, k8, k9, k10, k11⟩ := K
  obtain ⟨c, A1, A2, A3, A4, A5, A6⟩ := A
  obtain ⟨T', h', X', e', W, st⟩ := stI X k1 k2 k9 A1 (inb_of A3 ⟨j0, j1⟩) (g := mkF C.m pc L (.int x :: .int j :: .ref a :: S)) rfl rfl (hb k4 hd)
  obtain ⟨t, o, h1, h2⟩ := r h' (hi ▸ W) (Arv.set A1 A2 A3 A4 A5 A6 rfl W i hi hl) vm0 T' _ ⟨X', k1, k2, k3, k4, k5, k6, k7, k8, e', Fr.snoc X' k10 ha, k11.wr W ha⟩ (V.wr W hs)
  exact ⟨t, o, st t h1, h2⟩
theorem s_castore {a : Addr} {k : ClassId} {n j : Int32} {vs : List Value} {dv : Value} (A : Arv Z h a k .char n vs dv) (ha : n0 ≤ a) (hs : a ∈ ws) (j0 : ¬ j < 0) (j1 : j < n) (i : Nat) (hi : j.toNatClampNeg = i) (hl : i < vs.length) (hd : decode I.bytes pc = .ok (.castore, 1)) (hq : pc + 1 = pc')
    (r : ∀ h', Wr h h' a i (.int (nar .char x)) → Arv Z h' a k .char n (vs.set i (.int (nar .char x))) dv → oRunG C Z n0 I EL ws G h' cs sl (mkF C.m pc' L S)) : oRunG C Z n0 I EL ws G h cs sl (mkF C.m pc L (.int x :: .int j :: .ref a :: S)) := by
  subst hq
  intro vm0 T locs K V
  obtain ⟨X, k1, k2, k3, k4, k5, k6, k7, k8, k9, k10, k11⟩ := K
  obtain ⟨c, A1, A2, A3, A4, A5, A6⟩ := A
  obtain ⟨T', h', X', e', W, st⟩ := stC X k1 k2 k9 A1 (inb_of A3 ⟨j0, j1⟩) (g := mkF C.m pc L (.int x :: .int j :: .ref a :: S)) rfl rfl (hb k4 hd)
  obtain ⟨t, o, h1, h2⟩ := r h' (hi ▸ W) (Arv.set A1 A2 A3 A4 A5 A6 (fits_nar_char _) W i hi hl) vm0 T' _ ⟨X', k1, k2, k3, k4, k5, k6, k7, k8, e', Fr.snoc X' k10 ha, k11.wr W ha⟩ (V.wr W hs)
  exact ⟨t, o, st t h1, h2⟩
theorem s_bastore {a : Addr} {k : ClassId} {n j : Int32} {vs : List Value} {dv : Value} (A : Arv Z h a k .byte n vs dv) (ha : n0 ≤ a) (hs : a ∈ ws) (j0 : ¬ j < 0) (j1 : j < n) (i : Nat) (hi : j.toNatClampNeg = i) (hl : i < vs.length) (hd : decode I.bytes pc = .ok (.bastore, 1)) (hq : pc + 1 = pc')
    (r : ∀ h', Wr h h' a i (.int (nar .byte x)) → Arv Z h' a k .byte n (vs.set i (.int (nar .byte x))) dv → oRunG C Z n0 I EL ws G h' cs sl (mkF C.m pc' L S)) : oRunG C Z n0 I EL ws G h cs sl (mkF C.m pc L (.int x :: .int j :: .ref a :: S)) := by
  subst hq
  intro vm0 T locs K V
  obtain ⟨X, k1, k2, k3, k4, k5, k6, k7, k8, k9, k10, k11⟩ := K
  obtain ⟨c, A1, A2, A3, A4, A5, A6⟩ := A
  obtain ⟨T', h', X', e', W, st⟩ := stB X k1 k2 k9 A1 (inb_of A3 ⟨j0, j1⟩) (g := mkF C.m pc L (.int x :: .int j :: .ref a :: S)) rfl rfl (hb k4 hd)
  obtain ⟨t, o, h1, h2⟩ := r h' (hi ▸ W) (Arv.set A1 A2 A3 A4 A5 A6 (fits_nar_byte _) W i hi hl) vm0 T' _ ⟨X', k1, k2, k3, k4, k5, k6, k7, k8, e', Fr.snoc X' k10 ha, k11.wr W ha⟩ (V.wr W hs)
  exact ⟨t, o, st t h1, h2⟩
theorem s_copy {a0 : Array Value} {index : Nat} {a b : Addr} {k k' : ClassId} {ty : FieldType} {z z' sp dp nn : Int32} {vs vd : List Value} {dv dd : Value} (A : Arv Z h a k ty z vs dv) (B : Arv Z h b k' ty z' vd dd) (hty : refKind ty = false) (hgb : n0 ≤ b) (hs : b ∈ ws)
    (w1 : (Jvm.Cond.methodLink I.own index Jvm.Stand.acN).before a0 Z = true) (w2 : (Jvm.Cond.native Jvm.Stand.acN).before a0 Z = true) (w3 : (Jvm.Cond.static Jvm.Stand.acN).before a0 Z = true) (w4 : (Jvm.Cond.initialized "java/lang/System").before a0 Z = true)
    (h1 : ¬ sp < 0) (h2 : ¬ dp < 0) (h3 : ¬ nn < 0) (h4 : sp.toNatClampNeg + nn.toNatClampNeg ≤ z.toNatClampNeg) (h5 : dp.toNatClampNeg + nn.toNatClampNeg ≤ z'.toNatClampNeg) (hl : dp.toNatClampNeg + nn.toNatClampNeg ≤ vd.length)
    (hsz : L.size = I.ml) (hd : decode I.bytes pc = .ok (.invokestatic index, 3)) (hq : pc + 3 = pc') (hf : 1 ≤ I.R.frames) (hlo : (S.map fun v => v.category).sum + (nativeFrameWords "java/lang/System" "arraycopy" 5 + 11) ≤ I.R.locals)
    (r : ∀ h', Keep h h' [b] → Arv Z h' b k' ty z' (vd.take dp.toNatClampNeg ++ ((List.range nn.toNatClampNeg).map fun i => vs.getD (sp.toNatClampNeg + i) dv) ++ vd.drop (dp.toNatClampNeg + nn.toNatClampNeg)) dd → oRunG C Z n0 I EL ws G h' cs sl (mkF C.m pc' L S)) :
    oRunG C Z n0 I EL ws G h cs sl (mkF C.m pc L (.int nn :: .int dp :: .ref b :: .int sp :: .ref a :: S)) := by
  subst hq
  intro vm0 T locs K V
  obtain ⟨X, k1, k2, k3, k4, k5, k6, k7, k8, k9, k10, k11⟩ := K
  obtain ⟨T', h', L', X', e', N', K', A', st⟩ := cpA X k1 k2 k3 w1 w2 w3 w4 k9 A B (Or.inl ⟨rfl, hty⟩) h1 h2 h3 h4 h5 rfl hl k10 hgb (g := mkF C.m pc L (.int nn :: .int dp :: .ref b :: .int sp :: .ref a :: S)) rfl (hsz.trans k5.symm) rfl (hb k4 hd) hf (W := (S.map fun v => v.category).sum) (by show 2 * 0 + _ ≤ _; simp) hlo
  obtain ⟨t, o, q1, q2⟩ := r h' K' A' vm0 T' _ ⟨X', k1, k2, k3, k4, k5, k6, k7, k8, e', N', k11.keep K' (allS hgb all0)⟩ (V.move (CHr.keep K' (fun x hx => by cases List.mem_singleton.mp hx; exact (V.2.2.2 b hs).1) V.2.2.1.1))
  exact ⟨t, o, st t q1, q2⟩
theorem s_initO {a0 : Array Value} {idx : Nat} {a : Addr} (w1 : (Jvm.Cond.methodLink I.own idx Lib.objectInit).before a0 Z = true) (w2 : (Jvm.Cond.instanceMethod Lib.objectInit).before a0 Z = true) (w3 : (Jvm.Cond.code Lib.objectInit ⟨#[0xb1]⟩ 1 none).before a0 Z = true) (hsz : L.size = I.ml) (hd : decode I.bytes pc = .ok (.invokespecial idx, 3)) (hq : pc + 3 = pc') (hf : 1 ≤ I.R.frames) (hlo : (S.map fun v => v.category).sum + 12 ≤ I.R.locals)
    (r : oRunG C Z n0 I EL ws G h cs sl (mkF C.m pc' L S)) : oRunG C Z n0 I EL ws G h cs sl (mkF C.m pc L (.ref a :: S)) := by
  subst hq
  refine oMove (fun T locs K => ?_) r
  obtain ⟨X, k1, k2, k3, k4, k5, k6, k7, k8, k9, k10, k11⟩ := K
  obtain ⟨T', X', e', st⟩ := initO X k1 k2 k3 w1 w2 w3 k9 (g := mkF C.m pc L (.ref a :: S)) rfl (hsz.trans k5.symm) rfl (hb k4 hd) hf (W := (S.map fun v => v.category).sum) (by show 2 * 0 + _ ≤ _; simp) hlo
  exact ⟨T', locs, ⟨X', k1, k2, k3, k4, k5, k6, k7, k8, e', k10, k11⟩, st⟩
theorem s_ldcI {a0 : Array Value} {idx : Nat} (w : (Jvm.Cond.constant I.own idx x).before a0 Z = true) (hd : decode I.bytes pc = .ok (.ldc idx, 2)) (hq : pc + 2 = pc') (r : oRunG C Z n0 I EL ws G h cs sl (mkF C.m pc' L (.int x :: S))) : oRunG C Z n0 I EL ws G h cs sl (mkF C.m pc L S) := by
  subst hq
  refine oStep (fun T locs K t kt => ?_) r
  obtain ⟨X, k1, k2, k3, k4, k5, k6, k7, k8, k9, k10, k11⟩ := K
  exact X.ldcInt k1 k3 (mvT k2 w) (g := mkF C.m pc L S) rfl (hb k4 hd) _ kt
theorem s_acmpNe {o : Int} {pc'' : Nat} {v w : Value} (hv : v.isRef = true) (hw : w.isRef = true) (hd : decode I.bytes pc = .ok (.if_acmp .ne o, 3)) (hq : pc + 3 = pc') (ho : 0 ≤ (pc : Int) + o) (hq' : ((pc : Int) + o).toNat = pc'')
    (rt : ¬ v = w → oRunG C Z n0 I EL ws G h cs sl (mkF C.m pc'' L S)) (rf : v = w → oRunG C Z n0 I EL ws G h cs sl (mkF C.m pc' L S)) : oRunG C Z n0 I EL ws G h cs sl (mkF C.m pc L (w :: v :: S)) := by
  subst hq
  by_cases hh : v = w
  · exact oStep (fun T locs K t kt => XT.acmpNo K.1.here K.2.1 rfl (hb K.2.2.2.2.1 hd) rfl hv hw (by simp [XT.acmp, hh]) kt) (rf hh)
  · exact oStep (fun T locs K t kt => XT.acmpYes K.1.here K.2.1 rfl (pc0 := pc) rfl (hb K.2.2.2.2.1 hd) rfl hv hw (by simp [XT.acmp, hh]) ho hq' kt) (rt hh)
theorem s_acmpEq {o : Int} {pc'' : Nat} {v w : Value} (hv : v.isRef = true) (hw : w.isRef = true) (hd : decode I.bytes pc = .ok (.if_acmp .eq o, 3)) (hq : pc + 3 = pc') (ho : 0 ≤ (pc : Int) + o) (hq' : ((pc : Int) + o).toNat = pc'')
    (rt : v = w → oRunG C Z n0 I EL ws G h cs sl (mkF C.m pc'' L S)) (rf : ¬ v = w → oRunG C Z n0 I EL ws G h cs sl (mkF C.m pc' L S)) : oRunG C Z n0 I EL ws G h cs sl (mkF C.m pc L (w :: v :: S)) := by
  subst hq
  by_cases hh : v = w
  · exact oStep (fun T locs K t kt => XT.acmpYes K.1.here K.2.1 rfl (pc0 := pc) rfl (hb K.2.2.2.2.1 hd) rfl hv hw (by simp [XT.acmp, hh]) ho hq' kt) (rt hh)
  · exact oStep (fun T locs K t kt => XT.acmpNo K.1.here K.2.1 rfl (hb K.2.2.2.2.1 hd) rfl hv hw (by simp [XT.acmp, hh]) kt) (rf hh)
theorem s_nnY {o : Int} {b : Addr} (hd : decode I.bytes pc = .ok (.ifnonnull o, 3)) (ho : 0 ≤ (pc : Int) + o) (hq' : ((pc : Int) + o).toNat = pc') (r : oRunG C Z n0 I EL ws G h cs sl (mkF C.m pc' L S)) : oRunG C Z n0 I EL ws G h cs sl (mkF C.m pc L (.ref b :: S)) :=
  oStep (fun T locs K t kt => XT.ifnonnullYes K.1.here K.2.1 rfl (pc0 := pc) rfl (hb K.2.2.2.2.1 hd) rfl ho hq' kt) r
theorem s_nnN {o : Int} (hd : decode I.bytes pc = .ok (.ifnonnull o, 3)) (hq : pc + 3 = pc') (r : oRunG C Z n0 I EL ws G h cs sl (mkF C.m pc' L S)) : oRunG C Z n0 I EL ws G h cs sl (mkF C.m pc L (.null :: S)) := by
  subst hq; exact oStep (fun T locs K t kt => XT.ifnonnullNo K.1.here K.2.1 rfl (hb K.2.2.2.2.1 hd) rfl kt) r
theorem s_nuY {o : Int} (hd : decode I.bytes pc = .ok (.ifnull o, 3)) (ho : 0 ≤ (pc : Int) + o) (hq' : ((pc : Int) + o).toNat = pc') (r : oRunG C Z n0 I EL ws G h cs sl (mkF C.m pc' L S)) : oRunG C Z n0 I EL ws G h cs sl (mkF C.m pc L (.null :: S)) :=
  oStep (fun T locs K t kt => XS.ifnullYes K.1.here K.2.1 rfl (pc0 := pc) rfl (hb K.2.2.2.2.1 hd) rfl ho hq' kt) r
theorem s_nuN {o : Int} {b : Addr} (hd : decode I.bytes pc = .ok (.ifnull o, 3)) (hq : pc + 3 = pc') (r : oRunG C Z n0 I EL ws G h cs sl (mkF C.m pc' L S)) : oRunG C Z n0 I EL ws G h cs sl (mkF C.m pc L (.ref b :: S)) := by
  subst hq; exact oStep (fun T locs K t kt => XS.ifnullNo K.1.here K.2.1 rfl (hb K.2.2.2.2.1 hd) rfl kt) r
theorem s_castY {a0 : Array Value} {Kn : String} {index : Nat} {a : Addr} (F : Ins Z h a Kn true) (w : (Jvm.Cond.classLink I.own index Kn).before a0 Z = true) (hd : decode I.bytes pc = .ok (.checkcast index, 3)) (hq : pc + 3 = pc')
    (r : oRunG C Z n0 I EL ws G h cs sl (mkF C.m pc' L (.ref a :: S))) : oRunG C Z n0 I EL ws G h cs sl (mkF C.m pc L (.ref a :: S)) := by
  subst hq
  refine oMove (fun T locs K => ?_) r
  obtain ⟨X, k1, k2, k3, k4, k5, k6, k7, k8, k9, k10, k11⟩ := K
  obtain ⟨T', X', e', st⟩ := castY X k1 k2 k3 w k9 F (g := mkF C.m pc L (.ref a :: S)) rfl rfl (hb k4 hd)
  exact ⟨T', locs, ⟨X', k1, k2, k3, k4, k5, k6, k7, k8, e', k10, k11⟩, st⟩
theorem s_instY {a0 : Array Value} {Kn : String} {index : Nat} {a : Addr} (F : Ins Z h a Kn true) (w : (Jvm.Cond.classLink I.own index Kn).before a0 Z = true) (hd : decode I.bytes pc = .ok (.instanceof index, 3)) (hq : pc + 3 = pc')
    (r : oRunG C Z n0 I EL ws G h cs sl (mkF C.m pc' L (.int 1 :: S))) : oRunG C Z n0 I EL ws G h cs sl (mkF C.m pc L (.ref a :: S)) := by
  subst hq
  refine oMove (fun T locs K => ?_) r
  obtain ⟨X, k1, k2, k3, k4, k5, k6, k7, k8, k9, k10, k11⟩ := K
  obtain ⟨T', X', e', st⟩ := instY X k1 k2 k3 w k9 F (g := mkF C.m pc L (.ref a :: S)) rfl rfl (hb k4 hd)
  exact ⟨T', locs, ⟨X', k1, k2, k3, k4, k5, k6, k7, k8, e', k10, k11⟩, st⟩
theorem s_instNo {a0 : Array Value} {Kn Cn : String} {index : Nat} {a : Addr} (E : Exa Z h a Cn) (F : ∃ c t, Z.vm.findClass Cn = some c ∧ Z.vm.findClass Kn = some t ∧ Z.vm.assignable c t = false) (w : (Jvm.Cond.classLink I.own index Kn).before a0 Z = true) (hd : decode I.bytes pc = .ok (.instanceof index, 3)) (hq : pc + 3 = pc')
    (r : oRunG C Z n0 I EL ws G h cs sl (mkF C.m pc' L (.int 0 :: S))) : oRunG C Z n0 I EL ws G h cs sl (mkF C.m pc L (.ref a :: S)) := by
  subst hq
  refine oMove (fun T locs K => ?_) r
  obtain ⟨X, k1, k2, k3, k4, k5, k6, k7, k8, k9, k10, k11⟩ := K
  obtain ⟨T', X', e', st⟩ := instNo X k1 k2 k3 w k9 E F (g := mkF C.m pc L (.ref a :: S)) rfl rfl (hb k4 hd)
  exact ⟨T', locs, ⟨X', k1, k2, k3, k4, k5, k6, k7, k8, e', k10, k11⟩, st⟩
theorem s_instNull {index : Nat} (hd : decode I.bytes pc = .ok (.instanceof index, 3)) (hq : pc + 3 = pc')
    (r : oRunG C Z n0 I EL ws G h cs sl (mkF C.m pc' L (.int 0 :: S))) : oRunG C Z n0 I EL ws G h cs sl (mkF C.m pc L (.null :: S)) := by
  subst hq
  refine oStep (fun T locs K t kt => ?_) r
  exact K.1.instanceofNull K.2.1 (g := mkF C.m pc L (.null :: S)) rfl rfl (hb K.2.2.2.2.1 hd) _ kt
-- a value left by a callee
def oPush : Option Value → List Value → List Value
  | none, S => S
  | some v, S => v :: S
theorem o_push (v : Option Value) (S : List Value) : v.toList ++ S = oPush v S := by cases v <;> rfl
theorem o_zero (S : List Value) (W : Nat) (q : (S.map fun v => v.category).sum ≤ W) (m : MethodId) (pc : Nat) (L : Array Slot) (S' : List Value) : 2 * (mkF m pc L S').monitorRoom + (S.map fun v => v.category).sum ≤ W := by show 2 * 0 + _ ≤ _; simpa using q
theorem s_callS {a0 : Array Value} {index : Nat} {yn : MethodName} {J : OInfo} {as' : Array Value} {G' : Option Value → Vm → Heap → Prop} {Q' : Option Value → Heap → List Addr → Prop} {argsL : List Value} {ws' : List Addr} (M : oConG C.l Z n0 EL ws' yn J as' h G') (ha : argsL.toArray = as') (hsub : ∀ x ∈ ws', x ∈ ws)
    (w1 : (Jvm.Cond.methodLink I.own index yn).before a0 Z = true) (w2 : (Jvm.Cond.static yn).before a0 Z = true) (w3 : (Jvm.Cond.initialized yn.cls).before a0 Z = true) (w4 : (Jvm.Cond.code yn J.bytes J.ml J.ret).before a0 Z = true) (hy : yn.cls ≠ "java/lang/invoke/MethodHandle" ∧ yn.cls ≠ "java/lang/invoke/VarHandle")
    (hlen : ∀ sig, parseMethodDescriptor yn.desc = some sig → argsL.length = sig.parameters.length) (hsz : L.size = I.ml) (hd : decode I.bytes pc = .ok (.invokestatic index, 3)) (hq : pc + 3 = pc') (hf : J.R.frames + 1 ≤ I.R.frames) (hlo : (S.map fun v => v.category).sum + (J.ml + 11) + J.R.locals ≤ I.R.locals) (hc : cs + J.R.cells ≤ I.R.cells) (hs : sl + J.R.slots ≤ I.R.slots)
    (F : ∀ v vm h, G' v vm h → ∃ rs, Q' v h rs ∧ ∀ x ∈ rs, Safe Z EL vm h x ∧ x < h.size) (r : ∀ v h' rs, Q' v h' rs → oRunG C Z n0 I EL (rs ++ ws) G h' (cs + J.R.cells) (sl + J.R.slots) (mkF C.m pc' L (oPush v S))) : oRunG C Z n0 I EL ws G h cs sl (mkF C.m pc L (argsL.reverse ++ S)) := by
  subst hq ha
  intro vm0 T locs K V
  obtain ⟨X, k1, k2, k3, k4, k5, k6, k7, k8, k9, k10, k11⟩ := K
  obtain ⟨v, _, ⟨T', L', c', s'⟩, -, X', hS, hg2, ⟨Lc, ⟨q1, q2, q3⟩, l', y', z', hC⟩, st⟩ := callSS X k1 (y := yn) k3 (mvT k2 w1) (mvT k2 w2) (mvT k2 w3) (mvT k2 w4) hy (o_back (W := (S.map fun v => v.category).sum) M k11 k2 w4 w3 hf hlo V.1.choose_spec V.2.2.1.1 (fun x hx => V.2.2.2 x (hsub x hx))) (g := mkF C.m pc L (argsL.reverse ++ S)) rfl (hsz.trans k5.symm) (argsL := argsL) (rest := S) hlen rfl (o_zero _ _ (Nat.le_refl _) _ _ _ _) (hb k4 hd) (fun _ _ => ⟨rfl, k9, hc, hs⟩)
  dsimp only [Pt.U, Pt.locs, Pt.cells, Pt.slots] at X' l' y' z' st q2 q3 hS hg2 hC
  subst l' y' z'
  obtain ⟨kk, hk1, hk2⟩ := V.2.1
  have hS2 : C.s.Since T'.vm T'.heap.size := hk1.trans hS (Nat.le_trans hk2 (by rw [← k9]; exact hg2))
  have hZ2 : Z.Warmed39 T'.vm := State.Warmed39.trans (t := C.s.setVm vm0) k2 hS.1
  obtain ⟨rs, q4, q5⟩ := F _ _ _ q3
  obtain ⟨t, o, h1, h2⟩ := r v _ rs q4 T'.vm T' _ ⟨X', k1, hZ2, (hS.1.alike.findClass _ _).trans k3, k4, k5, k6, k7, k8, rfl, Fr.app k10 q1, q2⟩ ((V.step hC ⟨_, hS2, Nat.le_refl _⟩).add q5)
  rw [← o_push] at h1
  exact ⟨t, o, st.trans h1, h2⟩
theorem s_callI {a0 : Array Value} {index : Nat} {yn : MethodName} {J : OInfo} {as' : Array Value} {G' : Option Value → Vm → Heap → Prop} {Q' : Option Value → Heap → List Addr → Prop} {argsL : List Value} {a : Addr} {ws' : List Addr} (M : oConG C.l Z n0 EL ws' yn J as' h G') (ha : (.ref a :: argsL).toArray = as') (hsub : ∀ x ∈ ws', x ∈ ws) (hr : J.ret = none) (hn : yn.name = "<init>")
    (w1 : (Jvm.Cond.methodLink I.own index yn).before a0 Z = true) (w2 : (Jvm.Cond.instanceMethod yn).before a0 Z = true) (w3 : (Jvm.Cond.initialized yn.cls).before a0 Z = true) (w4 : (Jvm.Cond.code yn J.bytes J.ml J.ret).before a0 Z = true) (hy : yn.cls ≠ "java/lang/invoke/MethodHandle" ∧ yn.cls ≠ "java/lang/invoke/VarHandle")
    (hlen : ∀ sig, parseMethodDescriptor yn.desc = some sig → argsL.length = sig.parameters.length) (hsz : L.size = I.ml) (hd : decode I.bytes pc = .ok (.invokespecial index, 3)) (hq : pc + 3 = pc') (hf : J.R.frames + 1 ≤ I.R.frames) (hlo : (S.map fun v => v.category).sum + (J.ml + 11) + J.R.locals ≤ I.R.locals) (hc : cs + J.R.cells ≤ I.R.cells) (hs : sl + J.R.slots ≤ I.R.slots)
    (F : ∀ v vm h, G' v vm h → ∃ rs, Q' v h rs ∧ ∀ x ∈ rs, Safe Z EL vm h x ∧ x < h.size) (r : ∀ v h' rs, Q' v h' rs → oRunG C Z n0 I EL (rs ++ ws) G h' (cs + J.R.cells) (sl + J.R.slots) (mkF C.m pc' L (oPush v S))) : oRunG C Z n0 I EL ws G h cs sl (mkF C.m pc L (argsL.reverse ++ .ref a :: S)) := by
  subst hq ha
  intro vm0 T locs K V
  obtain ⟨X, k1, k2, k3, k4, k5, k6, k7, k8, k9, k10, k11⟩ := K
  obtain ⟨v, _, ⟨T', L', c', s'⟩, -, X', hS, hg2, ⟨Lc, ⟨q1, q2, q3⟩, l', y', z', hC⟩, st⟩ := X.specialBackS k1 (y := yn) hn k3 (mvT k2 w1) (mvT k2 w2) (bytes := J.bytes) (maxL := J.ml) (by rw [hr] at w4; exact mvT k2 w4) hy (o_back (W := (S.map fun v => v.category).sum) M k11 k2 w4 w3 hf hlo V.1.choose_spec V.2.2.1.1 (fun x hx => V.2.2.2 x (hsub x hx))) (g := mkF C.m pc L (argsL.reverse ++ .ref a :: S)) rfl (hsz.trans k5.symm) (Steps.refl _) (argsL := argsL) (rest := S) hlen rfl (o_zero _ _ (Nat.le_refl _) _ _ _ _) (hb k4 hd) (fun _ _ => ⟨rfl, k9, hc, hs⟩)
  dsimp only [Pt.U, Pt.locs, Pt.cells, Pt.slots] at X' l' y' z' st q2 q3 hS hg2 hC
  subst l' y' z'
  obtain ⟨kk, hk1, hk2⟩ := V.2.1
  have hS2 : C.s.Since T'.vm T'.heap.size := hk1.trans hS (Nat.le_trans hk2 (by rw [← k9]; exact hg2))
  have hZ2 : Z.Warmed39 T'.vm := State.Warmed39.trans (t := C.s.setVm vm0) k2 hS.1
  obtain ⟨rs, q4, q5⟩ := F _ _ _ q3
  obtain ⟨t, o, h1, h2⟩ := r v _ rs q4 T'.vm T' _ ⟨X', k1, hZ2, (hS.1.alike.findClass _ _).trans k3, k4, k5, k6, k7, k8, rfl, Fr.app k10 q1, q2⟩ ((V.step hC ⟨_, hS2, Nat.le_refl _⟩).add q5)
  rw [← o_push] at h1
  exact ⟨t, o, st.trans h1, h2⟩
theorem s_callV {a0 : Array Value} {index : Nat} {Cn : String} {yn zn : MethodName} {J : OInfo} {as' : Array Value} {G' : Option Value → Vm → Heap → Prop} {Q' : Option Value → Heap → List Addr → Prop} {argsL : List Value} {a : Addr} {ws' : List Addr} (M : oConG C.l Z n0 EL ws' zn J as' h G') (ha : (.ref a :: argsL).toArray = as') (hsub : ∀ x ∈ ws', x ∈ ws) (E : Exa Z h a Cn)
    (w1 : (Jvm.Cond.methodLink I.own index yn).before a0 Z = true) (w2 : (Jvm.Cond.declares yn).before a0 Z = true) (w5 : (Jvm.Cond.selects Cn yn zn).before a0 Z = true) (w6 : (Jvm.Cond.instanceMethod zn).before a0 Z = true) (nf : ∀ s' : State, Z.Warmed39 s'.vm → NotFace s' yn) (w3 : (Jvm.Cond.initialized zn.cls).before a0 Z = true) (w4 : (Jvm.Cond.code zn J.bytes J.ml J.ret).before a0 Z = true) (hy : yn.cls ≠ "java/lang/invoke/MethodHandle" ∧ yn.cls ≠ "java/lang/invoke/VarHandle")
    (hlen : ∀ sig, parseMethodDescriptor yn.desc = some sig → argsL.length = sig.parameters.length) (hsz : L.size = I.ml) (hd : decode I.bytes pc = .ok (.invokevirtual index, 3)) (hq : pc + 3 = pc') (hf : J.R.frames + 1 ≤ I.R.frames) (hlo : (S.map fun v => v.category).sum + (J.ml + 11) + J.R.locals ≤ I.R.locals) (hc : cs + J.R.cells ≤ I.R.cells) (hs : sl + J.R.slots ≤ I.R.slots)
    (F : ∀ v vm h, G' v vm h → ∃ rs, Q' v h rs ∧ ∀ x ∈ rs, Safe Z EL vm h x ∧ x < h.size) (r : ∀ v h' rs, Q' v h' rs → oRunG C Z n0 I EL (rs ++ ws) G h' (cs + J.R.cells) (sl + J.R.slots) (mkF C.m pc' L (oPush v S))) : oRunG C Z n0 I EL ws G h cs sl (mkF C.m pc L (argsL.reverse ++ .ref a :: S)) := by
  subst hq ha
  intro vm0 T locs K V
  obtain ⟨X, k1, k2, k3, k4, k5, k6, k7, k8, k9, k10, k11⟩ := K
  obtain ⟨cq, kq, qa, qb, qc⟩ := isOf (T := T) k2 k9 E
  obtain ⟨v, _, ⟨T', L', c', s'⟩, -, X', hS, hg2, ⟨Lc, ⟨q1, q2, q3⟩, l', y', z', hC⟩, st⟩ := X.virtualBackS k1 (y := yn) (z := zn) k3 (mvT k2 w1) (mvT k2 w2) (nf _ k2) (mvT k2 w5) (mvT k2 w6) hy (o_back (W := (S.map fun v => v.category).sum) M k11 k2 w4 w3 hf hlo V.1.choose_spec V.2.2.1.1 (fun x hx => V.2.2.2 x (hsub x hx))) qa qc (g := mkF C.m pc L (argsL.reverse ++ .ref a :: S)) rfl (hsz.trans k5.symm) (Steps.refl _) (argsL := argsL) (rest := S) hlen rfl (o_zero _ _ (Nat.le_refl _) _ _ _ _) (hb k4 hd) (fun _ _ => ⟨rfl, k9, hc, hs⟩)
  dsimp only [Pt.U, Pt.locs, Pt.cells, Pt.slots] at X' l' y' z' st q2 q3 hS hg2 hC
  subst l' y' z'
  obtain ⟨kk, hk1, hk2⟩ := V.2.1
  have hS2 : C.s.Since T'.vm T'.heap.size := hk1.trans hS (Nat.le_trans hk2 (by rw [← k9]; exact hg2))
  have hZ2 : Z.Warmed39 T'.vm := State.Warmed39.trans (t := C.s.setVm vm0) k2 hS.1
  obtain ⟨rs, q4, q5⟩ := F _ _ _ q3
  obtain ⟨t, o, h1, h2⟩ := r v _ rs q4 T'.vm T' _ ⟨X', k1, hZ2, (hS.1.alike.findClass _ _).trans k3, k4, k5, k6, k7, k8, rfl, Fr.app k10 q1, q2⟩ ((V.step hC ⟨_, hS2, Nat.le_refl _⟩).add q5)
  rw [← o_push] at h1
  exact ⟨t, o, st.trans h1, h2⟩
theorem o_nf {a0 : Array Value} {Cn : String} {yn zn : MethodName} (w5 : (Jvm.Cond.selects Cn yn zn).before a0 Z = true) (q : yn = zn) : ∀ s' : State, Z.Warmed39 s'.vm → NotFace s' yn := by
  subst q; exact fun s' hz => notFace_of_selects (args := #[]) (mvT hz w5)
theorem o_len {d : String} {ps : List FieldType} {r : Option FieldType} (hd : parseMethodDescriptor d = some ⟨ps, r⟩) {n : Nat} (hl : n = ps.length) : ∀ sig, parseMethodDescriptor d = some sig → n = sig.parameters.length := fun sig h => by
  cases hd.symm.trans h; exact hl
theorem s_callU {a0 : Array Value} {index : Nat} {Kn : String} {yn : MethodName} {J : OInfo} {as' : Array Value} {G' : Option Value → Vm → Heap → Prop} {Q' : Option Value → Heap → List Addr → Prop} {argsL : List Value} {a : Addr} {ws' : List Addr} (M : oConG C.l Z n0 EL ws' yn J as' h G') (ha : (.ref a :: argsL).toArray = as') (hsub : ∀ x ∈ ws', x ∈ ws) (E : Ins Z h a Kn true)
    (w1 : (Jvm.Cond.methodLink I.own index yn).before a0 Z = true) (w2 : (Jvm.Cond.sameMethod yn.cls yn.cls yn.name yn.desc).before a0 Z = true) (w5 : (Jvm.Cond.superclass I.own yn.cls).before a0 Z = true) (w6 : (Jvm.Cond.instanceMethod yn).before a0 Z = true) (w3 : (Jvm.Cond.initialized yn.cls).before a0 Z = true) (w4 : (Jvm.Cond.code yn J.bytes J.ml J.ret).before a0 Z = true) (hn : yn.name ≠ "<init>")
    (hlen : ∀ sig, parseMethodDescriptor yn.desc = some sig → argsL.length = sig.parameters.length) (hsz : L.size = I.ml) (hd : decode I.bytes pc = .ok (.invokespecial index, 3)) (hq : pc + 3 = pc') (hf : J.R.frames + 1 ≤ I.R.frames) (hlo : (S.map fun v => v.category).sum + (J.ml + 11) + J.R.locals ≤ I.R.locals) (hc : cs + J.R.cells ≤ I.R.cells) (hs : sl + J.R.slots ≤ I.R.slots)
    (F : ∀ v vm h, G' v vm h → ∃ rs, Q' v h rs ∧ ∀ x ∈ rs, Safe Z EL vm h x ∧ x < h.size) (r : ∀ v h' rs, Q' v h' rs → oRunG C Z n0 I EL (rs ++ ws) G h' (cs + J.R.cells) (sl + J.R.slots) (mkF C.m pc' L (oPush v S))) : oRunG C Z n0 I EL ws G h cs sl (mkF C.m pc L (argsL.reverse ++ .ref a :: S)) := by
  subst hq ha
  intro vm0 T locs K V
  obtain ⟨X, k1, k2, k3, k4, k5, k6, k7, k8, k9, k10, k11⟩ := K
  obtain ⟨v, _, ⟨T', L', c', s'⟩, -, X', hS, hg2, ⟨Lc, ⟨q1, q2, q3⟩, l', y', z', hC⟩, st⟩ := superBackS X k1 k2 k3 w1 w2 w6 w5 hn (o_back (W := (S.map fun v => v.category).sum) M k11 k2 w4 w3 hf hlo V.1.choose_spec V.2.2.1.1 (fun x hx => V.2.2.2 x (hsub x hx))) k9 E (g := mkF C.m pc L (argsL.reverse ++ .ref a :: S)) rfl (hsz.trans k5.symm) w4 (argsL := argsL) (rest := S) hlen rfl (o_zero _ _ (Nat.le_refl _) _ _ _ _) (hb k4 hd) (fun _ _ => ⟨rfl, k9, hc, hs⟩)
  dsimp only [Pt.U, Pt.locs, Pt.cells, Pt.slots] at X' l' y' z' st q2 q3 hS hg2 hC
  subst l' y' z'
  obtain ⟨kk, hk1, hk2⟩ := V.2.1
  have hS2 : C.s.Since T'.vm T'.heap.size := hk1.trans hS (Nat.le_trans hk2 (by rw [← k9]; exact hg2))
  have hZ2 : Z.Warmed39 T'.vm := State.Warmed39.trans (t := C.s.setVm vm0) k2 hS.1
  obtain ⟨rs, q4, q5⟩ := F _ _ _ q3
  obtain ⟨t, o, h1, h2⟩ := r v _ rs q4 T'.vm T' _ ⟨X', k1, hZ2, (hS.1.alike.findClass _ _).trans k3, k4, k5, k6, k7, k8, rfl, Fr.app k10 q1, q2⟩ ((V.step hC ⟨_, hS2, Nat.le_refl _⟩).add q5)
  rw [← o_push] at h1
  exact ⟨t, o, st.trans h1, h2⟩
-- a private method's entry, and a superclass's own one
theorem o_declOf {a0 : Array Value} {y : MethodName} {bytes : ByteArray} {ml : Nat} {ret : Option FieldType} (w : (Jvm.Cond.instanceMethod y).before a0 Z = true) (wc : (Jvm.Cond.code y bytes ml ret).before a0 Z = true) : (Jvm.Cond.declares y).before a0 Z = true := by
  obtain ⟨mk, methM, hnamed, hmethM, hstM, habM⟩ := Cond.instanceMethod_spec w
  obtain ⟨m2, cM, q1, -, -, -, -, -, -, hsig⟩ := Cond.code_spec hnamed wc
  cases hmethM.symm.trans q1
  simp [Cond.before, Cond.holds, Cond.value, hnamed, hmethM, hstM, hsig]
theorem o_nf2 {a0 : Array Value} {y x1 y1 : MethodName} {Cn : String} (w5 : (Jvm.Cond.selects Cn x1 y1).before a0 Z = true) (hc : y1.cls = y.cls) : ∀ s' : State, Z.Warmed39 s'.vm → NotFace s' y := fun s' hz r0 hn => by
  obtain ⟨c2, r2, m2, -, -, q3, -, kP, hkP, hkPi⟩ := Cond.selects_spec (mvT (args := #[]) hz w5)
  have c1 := findClass_of_methodNamed hn
  have c3 := findClass_of_methodNamed q3
  rw [hc] at c3
  have e : m2.cls = r0.cls := Option.some.inj (c3.symm.trans c1)
  rw [e] at hkP
  exact ⟨kP, hkP, hkPi⟩
theorem o_sameOf {a0 : Array Value} {y x1 y1 : MethodName} {Cn : String} (w : (Jvm.Cond.instanceMethod y).before a0 Z = true) (w5 : (Jvm.Cond.selects Cn x1 y1).before a0 Z = true) (hc : y1.cls = y.cls) (hy : y.cls ≠ "java/lang/invoke/MethodHandle" ∧ y.cls ≠ "java/lang/invoke/VarHandle") : (Jvm.Cond.sameMethod y.cls y.cls y.name y.desc).before a0 Z = true := by
  obtain ⟨mk, methM, hnamed, hmethM, hstM, habM⟩ := Cond.instanceMethod_spec w
  obtain ⟨c2, r2, m2, -, -, q3, -, kP, hkP, hkPi⟩ := Cond.selects_spec w5
  have hf := State.methodFound?_of_named hnamed hy
  have c1 := findClass_of_methodNamed hnamed
  have c3 := findClass_of_methodNamed q3
  rw [hc] at c3
  have e : m2.cls = mk.cls := Option.some.inj (c3.symm.trans c1)
  rw [e] at hkP
  simp [Cond.before, Cond.holds, Cond.value, hf, c1, hkP, hkPi, hnamed]
theorem s_callS0 {a0 : Array Value} {index : Nat} {yn : MethodName} {J : OInfo} {Q' : Option Value → Heap → Prop} {ws' : List Addr} (M : oCon C.l Z n0 EL ws' yn J #[] h Q') (hsub : ∀ x ∈ ws', x ∈ ws) (w1 : (Jvm.Cond.methodLink I.own index yn).before a0 Z = true) (w2 : (Jvm.Cond.static yn).before a0 Z = true) (w3 : (Jvm.Cond.initialized yn.cls).before a0 Z = true) (w4 : (Jvm.Cond.code yn J.bytes J.ml J.ret).before a0 Z = true) (hy : yn.cls ≠ "java/lang/invoke/MethodHandle" ∧ yn.cls ≠ "java/lang/invoke/VarHandle")
    (hlen : ∀ sig, parseMethodDescriptor yn.desc = some sig → 0 = sig.parameters.length) (hsz : L.size = I.ml) (hd : decode I.bytes pc = .ok (.invokestatic index, 3)) (hq : pc + 3 = pc') (hf : J.R.frames + 1 ≤ I.R.frames) (hlo : (S.map fun v => v.category).sum + (J.ml + 11) + J.R.locals ≤ I.R.locals) (hc : cs + J.R.cells ≤ I.R.cells) (hs : sl + J.R.slots ≤ I.R.slots)
    (r : ∀ v h', Q' v h' → oRunG C Z n0 I EL ws G h' (cs + J.R.cells) (sl + J.R.slots) (mkF C.m pc' L (oPush v S))) : oRunG C Z n0 I EL ws G h cs sl (mkF C.m pc L (S)) := s_callS (argsL := []) (Q' := fun v h rs => Q' v h ∧ rs = []) M rfl hsub w1 w2 w3 w4 hy hlen hsz hd hq hf hlo hc hs (fun v vm h q => ⟨[], ⟨q, rfl⟩, fun _ hx => nomatch hx⟩) (fun v h' rs q => by obtain ⟨q, rfl⟩ := q; exact r v h' q)
theorem s_callS0R {a0 : Array Value} {index : Nat} {yn : MethodName} {J : OInfo} {Q' : Option Value → Heap → List Addr → Prop} {ws' : List Addr} (M : oConG C.l Z n0 EL ws' yn J #[] h (oR Z EL Q')) (hsub : ∀ x ∈ ws', x ∈ ws) (w1 : (Jvm.Cond.methodLink I.own index yn).before a0 Z = true) (w2 : (Jvm.Cond.static yn).before a0 Z = true) (w3 : (Jvm.Cond.initialized yn.cls).before a0 Z = true) (w4 : (Jvm.Cond.code yn J.bytes J.ml J.ret).before a0 Z = true) (hy : yn.cls ≠ "java/lang/invoke/MethodHandle" ∧ yn.cls ≠ "java/lang/invoke/VarHandle")
    (hlen : ∀ sig, parseMethodDescriptor yn.desc = some sig → 0 = sig.parameters.length) (hsz : L.size = I.ml) (hd : decode I.bytes pc = .ok (.invokestatic index, 3)) (hq : pc + 3 = pc') (hf : J.R.frames + 1 ≤ I.R.frames) (hlo : (S.map fun v => v.category).sum + (J.ml + 11) + J.R.locals ≤ I.R.locals) (hc : cs + J.R.cells ≤ I.R.cells) (hs : sl + J.R.slots ≤ I.R.slots)
    (r : ∀ v h' rs, Q' v h' rs → oRunG C Z n0 I EL (rs ++ ws) G h' (cs + J.R.cells) (sl + J.R.slots) (mkF C.m pc' L (oPush v S))) : oRunG C Z n0 I EL ws G h cs sl (mkF C.m pc L (S)) := s_callS (argsL := []) (Q' := Q') M rfl hsub w1 w2 w3 w4 hy hlen hsz hd hq hf hlo hc hs (fun v vm h q => q) r
theorem s_callI0 {a0 : Array Value} {index : Nat} {yn : MethodName} {J : OInfo} {Q' : Option Value → Heap → Prop} {a : Addr} {ws' : List Addr} (M : oCon C.l Z n0 EL ws' yn J #[.ref a] h Q') (hsub : ∀ x ∈ ws', x ∈ ws) (hr : J.ret = none) (hn : yn.name = "<init>") (w1 : (Jvm.Cond.methodLink I.own index yn).before a0 Z = true) (w2 : (Jvm.Cond.instanceMethod yn).before a0 Z = true) (w3 : (Jvm.Cond.initialized yn.cls).before a0 Z = true) (w4 : (Jvm.Cond.code yn J.bytes J.ml J.ret).before a0 Z = true) (hy : yn.cls ≠ "java/lang/invoke/MethodHandle" ∧ yn.cls ≠ "java/lang/invoke/VarHandle")
    (hlen : ∀ sig, parseMethodDescriptor yn.desc = some sig → 0 = sig.parameters.length) (hsz : L.size = I.ml) (hd : decode I.bytes pc = .ok (.invokespecial index, 3)) (hq : pc + 3 = pc') (hf : J.R.frames + 1 ≤ I.R.frames) (hlo : (S.map fun v => v.category).sum + (J.ml + 11) + J.R.locals ≤ I.R.locals) (hc : cs + J.R.cells ≤ I.R.cells) (hs : sl + J.R.slots ≤ I.R.slots)
    (r : ∀ v h', Q' v h' → oRunG C Z n0 I EL ws G h' (cs + J.R.cells) (sl + J.R.slots) (mkF C.m pc' L (oPush v S))) : oRunG C Z n0 I EL ws G h cs sl (mkF C.m pc L (.ref a :: S)) := s_callI (argsL := []) (Q' := fun v h rs => Q' v h ∧ rs = []) M rfl hsub hr hn w1 w2 w3 w4 hy hlen hsz hd hq hf hlo hc hs (fun v vm h q => ⟨[], ⟨q, rfl⟩, fun _ hx => nomatch hx⟩) (fun v h' rs q => by obtain ⟨q, rfl⟩ := q; exact r v h' q)
theorem s_callI0R {a0 : Array Value} {index : Nat} {yn : MethodName} {J : OInfo} {Q' : Option Value → Heap → List Addr → Prop} {a : Addr} {ws' : List Addr} (M : oConG C.l Z n0 EL ws' yn J #[.ref a] h (oR Z EL Q')) (hsub : ∀ x ∈ ws', x ∈ ws) (hr : J.ret = none) (hn : yn.name = "<init>") (w1 : (Jvm.Cond.methodLink I.own index yn).before a0 Z = true) (w2 : (Jvm.Cond.instanceMethod yn).before a0 Z = true) (w3 : (Jvm.Cond.initialized yn.cls).before a0 Z = true) (w4 : (Jvm.Cond.code yn J.bytes J.ml J.ret).before a0 Z = true) (hy : yn.cls ≠ "java/lang/invoke/MethodHandle" ∧ yn.cls ≠ "java/lang/invoke/VarHandle")
    (hlen : ∀ sig, parseMethodDescriptor yn.desc = some sig → 0 = sig.parameters.length) (hsz : L.size = I.ml) (hd : decode I.bytes pc = .ok (.invokespecial index, 3)) (hq : pc + 3 = pc') (hf : J.R.frames + 1 ≤ I.R.frames) (hlo : (S.map fun v => v.category).sum + (J.ml + 11) + J.R.locals ≤ I.R.locals) (hc : cs + J.R.cells ≤ I.R.cells) (hs : sl + J.R.slots ≤ I.R.slots)
    (r : ∀ v h' rs, Q' v h' rs → oRunG C Z n0 I EL (rs ++ ws) G h' (cs + J.R.cells) (sl + J.R.slots) (mkF C.m pc' L (oPush v S))) : oRunG C Z n0 I EL ws G h cs sl (mkF C.m pc L (.ref a :: S)) := s_callI (argsL := []) (Q' := Q') M rfl hsub hr hn w1 w2 w3 w4 hy hlen hsz hd hq hf hlo hc hs (fun v vm h q => q) r
theorem s_callV0 {a0 : Array Value} {index : Nat} {yn : MethodName} {J : OInfo} {Q' : Option Value → Heap → Prop} {a : Addr} {Cn : String} {zn : MethodName} {ws' : List Addr} (M : oCon C.l Z n0 EL ws' zn J #[.ref a] h Q') (hsub : ∀ x ∈ ws', x ∈ ws) (E : Exa Z h a Cn) (w1 : (Jvm.Cond.methodLink I.own index yn).before a0 Z = true) (w2 : (Jvm.Cond.declares yn).before a0 Z = true) (w5 : (Jvm.Cond.selects Cn yn zn).before a0 Z = true) (w6 : (Jvm.Cond.instanceMethod zn).before a0 Z = true) (nf : ∀ s' : State, Z.Warmed39 s'.vm → NotFace s' yn) (w3 : (Jvm.Cond.initialized zn.cls).before a0 Z = true) (w4 : (Jvm.Cond.code zn J.bytes J.ml J.ret).before a0 Z = true) (hy : yn.cls ≠ "java/lang/invoke/MethodHandle" ∧ yn.cls ≠ "java/lang/invoke/VarHandle")
    (hlen : ∀ sig, parseMethodDescriptor yn.desc = some sig → 0 = sig.parameters.length) (hsz : L.size = I.ml) (hd : decode I.bytes pc = .ok (.invokevirtual index, 3)) (hq : pc + 3 = pc') (hf : J.R.frames + 1 ≤ I.R.frames) (hlo : (S.map fun v => v.category).sum + (J.ml + 11) + J.R.locals ≤ I.R.locals) (hc : cs + J.R.cells ≤ I.R.cells) (hs : sl + J.R.slots ≤ I.R.slots)
    (r : ∀ v h', Q' v h' → oRunG C Z n0 I EL ws G h' (cs + J.R.cells) (sl + J.R.slots) (mkF C.m pc' L (oPush v S))) : oRunG C Z n0 I EL ws G h cs sl (mkF C.m pc L (.ref a :: S)) := s_callV (argsL := []) (Q' := fun v h rs => Q' v h ∧ rs = []) M rfl hsub E w1 w2 w5 w6 nf w3 w4 hy hlen hsz hd hq hf hlo hc hs (fun v vm h q => ⟨[], ⟨q, rfl⟩, fun _ hx => nomatch hx⟩) (fun v h' rs q => by obtain ⟨q, rfl⟩ := q; exact r v h' q)
theorem s_callV0R {a0 : Array Value} {index : Nat} {yn : MethodName} {J : OInfo} {Q' : Option Value → Heap → List Addr → Prop} {a : Addr} {Cn : String} {zn : MethodName} {ws' : List Addr} (M : oConG C.l Z n0 EL ws' zn J #[.ref a] h (oR Z EL Q')) (hsub : ∀ x ∈ ws', x ∈ ws) (E : Exa Z h a Cn) (w1 : (Jvm.Cond.methodLink I.own index yn).before a0 Z = true) (w2 : (Jvm.Cond.declares yn).before a0 Z = true) (w5 : (Jvm.Cond.selects Cn yn zn).before a0 Z = true) (w6 : (Jvm.Cond.instanceMethod zn).before a0 Z = true) (nf : ∀ s' : State, Z.Warmed39 s'.vm → NotFace s' yn) (w3 : (Jvm.Cond.initialized zn.cls).before a0 Z = true) (w4 : (Jvm.Cond.code zn J.bytes J.ml J.ret).before a0 Z = true) (hy : yn.cls ≠ "java/lang/invoke/MethodHandle" ∧ yn.cls ≠ "java/lang/invoke/VarHandle")
    (hlen : ∀ sig, parseMethodDescriptor yn.desc = some sig → 0 = sig.parameters.length) (hsz : L.size = I.ml) (hd : decode I.bytes pc = .ok (.invokevirtual index, 3)) (hq : pc + 3 = pc') (hf : J.R.frames + 1 ≤ I.R.frames) (hlo : (S.map fun v => v.category).sum + (J.ml + 11) + J.R.locals ≤ I.R.locals) (hc : cs + J.R.cells ≤ I.R.cells) (hs : sl + J.R.slots ≤ I.R.slots)
    (r : ∀ v h' rs, Q' v h' rs → oRunG C Z n0 I EL (rs ++ ws) G h' (cs + J.R.cells) (sl + J.R.slots) (mkF C.m pc' L (oPush v S))) : oRunG C Z n0 I EL ws G h cs sl (mkF C.m pc L (.ref a :: S)) := s_callV (argsL := []) (Q' := Q') M rfl hsub E w1 w2 w5 w6 nf w3 w4 hy hlen hsz hd hq hf hlo hc hs (fun v vm h q => q) r
theorem s_callU0 {a0 : Array Value} {index : Nat} {yn : MethodName} {J : OInfo} {Q' : Option Value → Heap → Prop} {a : Addr} {Kn : String} {ws' : List Addr} (M : oCon C.l Z n0 EL ws' yn J #[.ref a] h Q') (hsub : ∀ x ∈ ws', x ∈ ws) (E : Ins Z h a Kn true) (w1 : (Jvm.Cond.methodLink I.own index yn).before a0 Z = true) (w2 : (Jvm.Cond.sameMethod yn.cls yn.cls yn.name yn.desc).before a0 Z = true) (w5 : (Jvm.Cond.superclass I.own yn.cls).before a0 Z = true) (w6 : (Jvm.Cond.instanceMethod yn).before a0 Z = true) (w3 : (Jvm.Cond.initialized yn.cls).before a0 Z = true) (w4 : (Jvm.Cond.code yn J.bytes J.ml J.ret).before a0 Z = true) (hn : yn.name ≠ "<init>")
    (hlen : ∀ sig, parseMethodDescriptor yn.desc = some sig → 0 = sig.parameters.length) (hsz : L.size = I.ml) (hd : decode I.bytes pc = .ok (.invokespecial index, 3)) (hq : pc + 3 = pc') (hf : J.R.frames + 1 ≤ I.R.frames) (hlo : (S.map fun v => v.category).sum + (J.ml + 11) + J.R.locals ≤ I.R.locals) (hc : cs + J.R.cells ≤ I.R.cells) (hs : sl + J.R.slots ≤ I.R.slots)
    (r : ∀ v h', Q' v h' → oRunG C Z n0 I EL ws G h' (cs + J.R.cells) (sl + J.R.slots) (mkF C.m pc' L (oPush v S))) : oRunG C Z n0 I EL ws G h cs sl (mkF C.m pc L (.ref a :: S)) := s_callU (argsL := []) (Q' := fun v h rs => Q' v h ∧ rs = []) M rfl hsub E w1 w2 w5 w6 w3 w4 hn hlen hsz hd hq hf hlo hc hs (fun v vm h q => ⟨[], ⟨q, rfl⟩, fun _ hx => nomatch hx⟩) (fun v h' rs q => by obtain ⟨q, rfl⟩ := q; exact r v h' q)
theorem s_callU0R {a0 : Array Value} {index : Nat} {yn : MethodName} {J : OInfo} {Q' : Option Value → Heap → List Addr → Prop} {a : Addr} {Kn : String} {ws' : List Addr} (M : oConG C.l Z n0 EL ws' yn J #[.ref a] h (oR Z EL Q')) (hsub : ∀ x ∈ ws', x ∈ ws) (E : Ins Z h a Kn true) (w1 : (Jvm.Cond.methodLink I.own index yn).before a0 Z = true) (w2 : (Jvm.Cond.sameMethod yn.cls yn.cls yn.name yn.desc).before a0 Z = true) (w5 : (Jvm.Cond.superclass I.own yn.cls).before a0 Z = true) (w6 : (Jvm.Cond.instanceMethod yn).before a0 Z = true) (w3 : (Jvm.Cond.initialized yn.cls).before a0 Z = true) (w4 : (Jvm.Cond.code yn J.bytes J.ml J.ret).before a0 Z = true) (hn : yn.name ≠ "<init>")
    (hlen : ∀ sig, parseMethodDescriptor yn.desc = some sig → 0 = sig.parameters.length) (hsz : L.size = I.ml) (hd : decode I.bytes pc = .ok (.invokespecial index, 3)) (hq : pc + 3 = pc') (hf : J.R.frames + 1 ≤ I.R.frames) (hlo : (S.map fun v => v.category).sum + (J.ml + 11) + J.R.locals ≤ I.R.locals) (hc : cs + J.R.cells ≤ I.R.cells) (hs : sl + J.R.slots ≤ I.R.slots)
    (r : ∀ v h' rs, Q' v h' rs → oRunG C Z n0 I EL (rs ++ ws) G h' (cs + J.R.cells) (sl + J.R.slots) (mkF C.m pc' L (oPush v S))) : oRunG C Z n0 I EL ws G h cs sl (mkF C.m pc L (.ref a :: S)) := s_callU (argsL := []) (Q' := Q') M rfl hsub E w1 w2 w5 w6 w3 w4 hn hlen hsz hd hq hf hlo hc hs (fun v vm h q => q) r
theorem s_callS1 {a0 : Array Value} {index : Nat} {yn : MethodName} {J : OInfo} {Q' : Option Value → Heap → Prop} {ws' : List Addr} {v0 : Value} (M : oCon C.l Z n0 EL ws' yn J #[v0] h Q') (hsub : ∀ x ∈ ws', x ∈ ws) (w1 : (Jvm.Cond.methodLink I.own index yn).before a0 Z = true) (w2 : (Jvm.Cond.static yn).before a0 Z = true) (w3 : (Jvm.Cond.initialized yn.cls).before a0 Z = true) (w4 : (Jvm.Cond.code yn J.bytes J.ml J.ret).before a0 Z = true) (hy : yn.cls ≠ "java/lang/invoke/MethodHandle" ∧ yn.cls ≠ "java/lang/invoke/VarHandle")
    (hlen : ∀ sig, parseMethodDescriptor yn.desc = some sig → 1 = sig.parameters.length) (hsz : L.size = I.ml) (hd : decode I.bytes pc = .ok (.invokestatic index, 3)) (hq : pc + 3 = pc') (hf : J.R.frames + 1 ≤ I.R.frames) (hlo : (S.map fun v => v.category).sum + (J.ml + 11) + J.R.locals ≤ I.R.locals) (hc : cs + J.R.cells ≤ I.R.cells) (hs : sl + J.R.slots ≤ I.R.slots)
    (r : ∀ v h', Q' v h' → oRunG C Z n0 I EL ws G h' (cs + J.R.cells) (sl + J.R.slots) (mkF C.m pc' L (oPush v S))) : oRunG C Z n0 I EL ws G h cs sl (mkF C.m pc L (v0 :: S)) := s_callS (argsL := [v0]) (Q' := fun v h rs => Q' v h ∧ rs = []) M rfl hsub w1 w2 w3 w4 hy hlen hsz hd hq hf hlo hc hs (fun v vm h q => ⟨[], ⟨q, rfl⟩, fun _ hx => nomatch hx⟩) (fun v h' rs q => by obtain ⟨q, rfl⟩ := q; exact r v h' q)
theorem s_callS1R {a0 : Array Value} {index : Nat} {yn : MethodName} {J : OInfo} {Q' : Option Value → Heap → List Addr → Prop} {ws' : List Addr} {v0 : Value} (M : oConG C.l Z n0 EL ws' yn J #[v0] h (oR Z EL Q')) (hsub : ∀ x ∈ ws', x ∈ ws) (w1 : (Jvm.Cond.methodLink I.own index yn).before a0 Z = true) (w2 : (Jvm.Cond.static yn).before a0 Z = true) (w3 : (Jvm.Cond.initialized yn.cls).before a0 Z = true) (w4 : (Jvm.Cond.code yn J.bytes J.ml J.ret).before a0 Z = true) (hy : yn.cls ≠ "java/lang/invoke/MethodHandle" ∧ yn.cls ≠ "java/lang/invoke/VarHandle")
    (hlen : ∀ sig, parseMethodDescriptor yn.desc = some sig → 1 = sig.parameters.length) (hsz : L.size = I.ml) (hd : decode I.bytes pc = .ok (.invokestatic index, 3)) (hq : pc + 3 = pc') (hf : J.R.frames + 1 ≤ I.R.frames) (hlo : (S.map fun v => v.category).sum + (J.ml + 11) + J.R.locals ≤ I.R.locals) (hc : cs + J.R.cells ≤ I.R.cells) (hs : sl + J.R.slots ≤ I.R.slots)
    (r : ∀ v h' rs, Q' v h' rs → oRunG C Z n0 I EL (rs ++ ws) G h' (cs + J.R.cells) (sl + J.R.slots) (mkF C.m pc' L (oPush v S))) : oRunG C Z n0 I EL ws G h cs sl (mkF C.m pc L (v0 :: S)) := s_callS (argsL := [v0]) (Q' := Q') M rfl hsub w1 w2 w3 w4 hy hlen hsz hd hq hf hlo hc hs (fun v vm h q => q) r
theorem s_callI1 {a0 : Array Value} {index : Nat} {yn : MethodName} {J : OInfo} {Q' : Option Value → Heap → Prop} {a : Addr} {ws' : List Addr} {v0 : Value} (M : oCon C.l Z n0 EL ws' yn J #[.ref a, v0] h Q') (hsub : ∀ x ∈ ws', x ∈ ws) (hr : J.ret = none) (hn : yn.name = "<init>") (w1 : (Jvm.Cond.methodLink I.own index yn).before a0 Z = true) (w2 : (Jvm.Cond.instanceMethod yn).before a0 Z = true) (w3 : (Jvm.Cond.initialized yn.cls).before a0 Z = true) (w4 : (Jvm.Cond.code yn J.bytes J.ml J.ret).before a0 Z = true) (hy : yn.cls ≠ "java/lang/invoke/MethodHandle" ∧ yn.cls ≠ "java/lang/invoke/VarHandle")
    (hlen : ∀ sig, parseMethodDescriptor yn.desc = some sig → 1 = sig.parameters.length) (hsz : L.size = I.ml) (hd : decode I.bytes pc = .ok (.invokespecial index, 3)) (hq : pc + 3 = pc') (hf : J.R.frames + 1 ≤ I.R.frames) (hlo : (S.map fun v => v.category).sum + (J.ml + 11) + J.R.locals ≤ I.R.locals) (hc : cs + J.R.cells ≤ I.R.cells) (hs : sl + J.R.slots ≤ I.R.slots)
    (r : ∀ v h', Q' v h' → oRunG C Z n0 I EL ws G h' (cs + J.R.cells) (sl + J.R.slots) (mkF C.m pc' L (oPush v S))) : oRunG C Z n0 I EL ws G h cs sl (mkF C.m pc L (v0 :: .ref a :: S)) := s_callI (argsL := [v0]) (Q' := fun v h rs => Q' v h ∧ rs = []) M rfl hsub hr hn w1 w2 w3 w4 hy hlen hsz hd hq hf hlo hc hs (fun v vm h q => ⟨[], ⟨q, rfl⟩, fun _ hx => nomatch hx⟩) (fun v h' rs q => by obtain ⟨q, rfl⟩ := q; exact r v h' q)
theorem s_callI1R {a0 : Array Value} {index : Nat} {yn : MethodName} {J : OInfo} {Q' : Option Value → Heap → List Addr → Prop} {a : Addr} {ws' : List Addr} {v0 : Value} (M : oConG C.l Z n0 EL ws' yn J #[.ref a, v0] h (oR Z EL Q')) (hsub : ∀ x ∈ ws', x ∈ ws) (hr : J.ret = none) (hn : yn.name = "<init>") (w1 : (Jvm.Cond.methodLink I.own index yn).before a0 Z = true) (w2 : (Jvm.Cond.instanceMethod yn).before a0 Z = true) (w3 : (Jvm.Cond.initialized yn.cls).before a0 Z = true) (w4 : (Jvm.Cond.code yn J.bytes J.ml J.ret).before a0 Z = true) (hy : yn.cls ≠ "java/lang/invoke/MethodHandle" ∧ yn.cls ≠ "java/lang/invoke/VarHandle")
    (hlen : ∀ sig, parseMethodDescriptor yn.desc = some sig → 1 = sig.parameters.length) (hsz : L.size = I.ml) (hd : decode I.bytes pc = .ok (.invokespecial index, 3)) (hq : pc + 3 = pc') (hf : J.R.frames + 1 ≤ I.R.frames) (hlo : (S.map fun v => v.category).sum + (J.ml + 11) + J.R.locals ≤ I.R.locals) (hc : cs + J.R.cells ≤ I.R.cells) (hs : sl + J.R.slots ≤ I.R.slots)
    (r : ∀ v h' rs, Q' v h' rs → oRunG C Z n0 I EL (rs ++ ws) G h' (cs + J.R.cells) (sl + J.R.slots) (mkF C.m pc' L (oPush v S))) : oRunG C Z n0 I EL ws G h cs sl (mkF C.m pc L (v0 :: .ref a :: S)) := s_callI (argsL := [v0]) (Q' := Q') M rfl hsub hr hn w1 w2 w3 w4 hy hlen hsz hd hq hf hlo hc hs (fun v vm h q => q) r
theorem s_callV1 {a0 : Array Value} {index : Nat} {yn : MethodName} {J : OInfo} {Q' : Option Value → Heap → Prop} {a : Addr} {Cn : String} {zn : MethodName} {ws' : List Addr} {v0 : Value} (M : oCon C.l Z n0 EL ws' zn J #[.ref a, v0] h Q') (hsub : ∀ x ∈ ws', x ∈ ws) (E : Exa Z h a Cn) (w1 : (Jvm.Cond.methodLink I.own index yn).before a0 Z = true) (w2 : (Jvm.Cond.declares yn).before a0 Z = true) (w5 : (Jvm.Cond.selects Cn yn zn).before a0 Z = true) (w6 : (Jvm.Cond.instanceMethod zn).before a0 Z = true) (nf : ∀ s' : State, Z.Warmed39 s'.vm → NotFace s' yn) (w3 : (Jvm.Cond.initialized zn.cls).before a0 Z = true) (w4 : (Jvm.Cond.code zn J.bytes J.ml J.ret).before a0 Z = true) (hy : yn.cls ≠ "java/lang/invoke/MethodHandle" ∧ yn.cls ≠ "java/lang/invoke/VarHandle")
    (hlen : ∀ sig, parseMethodDescriptor yn.desc = some sig → 1 = sig.parameters.length) (hsz : L.size = I.ml) (hd : decode I.bytes pc = .ok (.invokevirtual index, 3)) (hq : pc + 3 = pc') (hf : J.R.frames + 1 ≤ I.R.frames) (hlo : (S.map fun v => v.category).sum + (J.ml + 11) + J.R.locals ≤ I.R.locals) (hc : cs + J.R.cells ≤ I.R.cells) (hs : sl + J.R.slots ≤ I.R.slots)
    (r : ∀ v h', Q' v h' → oRunG C Z n0 I EL ws G h' (cs + J.R.cells) (sl + J.R.slots) (mkF C.m pc' L (oPush v S))) : oRunG C Z n0 I EL ws G h cs sl (mkF C.m pc L (v0 :: .ref a :: S)) := s_callV (argsL := [v0]) (Q' := fun v h rs => Q' v h ∧ rs = []) M rfl hsub E w1 w2 w5 w6 nf w3 w4 hy hlen hsz hd hq hf hlo hc hs (fun v vm h q => ⟨[], ⟨q, rfl⟩, fun _ hx => nomatch hx⟩) (fun v h' rs q => by obtain ⟨q, rfl⟩ := q; exact r v h' q)
theorem s_callV1R {a0 : Array Value} {index : Nat} {yn : MethodName} {J : OInfo} {Q' : Option Value → Heap → List Addr → Prop} {a : Addr} {Cn : String} {zn : MethodName} {ws' : List Addr} {v0 : Value} (M : oConG C.l Z n0 EL ws' zn J #[.ref a, v0] h (oR Z EL Q')) (hsub : ∀ x ∈ ws', x ∈ ws) (E : Exa Z h a Cn) (w1 : (Jvm.Cond.methodLink I.own index yn).before a0 Z = true) (w2 : (Jvm.Cond.declares yn).before a0 Z = true) (w5 : (Jvm.Cond.selects Cn yn zn).before a0 Z = true) (w6 : (Jvm.Cond.instanceMethod zn).before a0 Z = true) (nf : ∀ s' : State, Z.Warmed39 s'.vm → NotFace s' yn) (w3 : (Jvm.Cond.initialized zn.cls).before a0 Z = true) (w4 : (Jvm.Cond.code zn J.bytes J.ml J.ret).before a0 Z = true) (hy : yn.cls ≠ "java/lang/invoke/MethodHandle" ∧ yn.cls ≠ "java/lang/invoke/VarHandle")
    (hlen : ∀ sig, parseMethodDescriptor yn.desc = some sig → 1 = sig.parameters.length) (hsz : L.size = I.ml) (hd : decode I.bytes pc = .ok (.invokevirtual index, 3)) (hq : pc + 3 = pc') (hf : J.R.frames + 1 ≤ I.R.frames) (hlo : (S.map fun v => v.category).sum + (J.ml + 11) + J.R.locals ≤ I.R.locals) (hc : cs + J.R.cells ≤ I.R.cells) (hs : sl + J.R.slots ≤ I.R.slots)
    (r : ∀ v h' rs, Q' v h' rs → oRunG C Z n0 I EL (rs ++ ws) G h' (cs + J.R.cells) (sl + J.R.slots) (mkF C.m pc' L (oPush v S))) : oRunG C Z n0 I EL ws G h cs sl (mkF C.m pc L (v0 :: .ref a :: S)) := s_callV (argsL := [v0]) (Q' := Q') M rfl hsub E w1 w2 w5 w6 nf w3 w4 hy hlen hsz hd hq hf hlo hc hs (fun v vm h q => q) r
theorem s_callU1 {a0 : Array Value} {index : Nat} {yn : MethodName} {J : OInfo} {Q' : Option Value → Heap → Prop} {a : Addr} {Kn : String} {ws' : List Addr} {v0 : Value} (M : oCon C.l Z n0 EL ws' yn J #[.ref a, v0] h Q') (hsub : ∀ x ∈ ws', x ∈ ws) (E : Ins Z h a Kn true) (w1 : (Jvm.Cond.methodLink I.own index yn).before a0 Z = true) (w2 : (Jvm.Cond.sameMethod yn.cls yn.cls yn.name yn.desc).before a0 Z = true) (w5 : (Jvm.Cond.superclass I.own yn.cls).before a0 Z = true) (w6 : (Jvm.Cond.instanceMethod yn).before a0 Z = true) (w3 : (Jvm.Cond.initialized yn.cls).before a0 Z = true) (w4 : (Jvm.Cond.code yn J.bytes J.ml J.ret).before a0 Z = true) (hn : yn.name ≠ "<init>")
    (hlen : ∀ sig, parseMethodDescriptor yn.desc = some sig → 1 = sig.parameters.length) (hsz : L.size = I.ml) (hd : decode I.bytes pc = .ok (.invokespecial index, 3)) (hq : pc + 3 = pc') (hf : J.R.frames + 1 ≤ I.R.frames) (hlo : (S.map fun v => v.category).sum + (J.ml + 11) + J.R.locals ≤ I.R.locals) (hc : cs + J.R.cells ≤ I.R.cells) (hs : sl + J.R.slots ≤ I.R.slots)
    (r : ∀ v h', Q' v h' → oRunG C Z n0 I EL ws G h' (cs + J.R.cells) (sl + J.R.slots) (mkF C.m pc' L (oPush v S))) : oRunG C Z n0 I EL ws G h cs sl (mkF C.m pc L (v0 :: .ref a :: S)) := s_callU (argsL := [v0]) (Q' := fun v h rs => Q' v h ∧ rs = []) M rfl hsub E w1 w2 w5 w6 w3 w4 hn hlen hsz hd hq hf hlo hc hs (fun v vm h q => ⟨[], ⟨q, rfl⟩, fun _ hx => nomatch hx⟩) (fun v h' rs q => by obtain ⟨q, rfl⟩ := q; exact r v h' q)
theorem s_callU1R {a0 : Array Value} {index : Nat} {yn : MethodName} {J : OInfo} {Q' : Option Value → Heap → List Addr → Prop} {a : Addr} {Kn : String} {ws' : List Addr} {v0 : Value} (M : oConG C.l Z n0 EL ws' yn J #[.ref a, v0] h (oR Z EL Q')) (hsub : ∀ x ∈ ws', x ∈ ws) (E : Ins Z h a Kn true) (w1 : (Jvm.Cond.methodLink I.own index yn).before a0 Z = true) (w2 : (Jvm.Cond.sameMethod yn.cls yn.cls yn.name yn.desc).before a0 Z = true) (w5 : (Jvm.Cond.superclass I.own yn.cls).before a0 Z = true) (w6 : (Jvm.Cond.instanceMethod yn).before a0 Z = true) (w3 : (Jvm.Cond.initialized yn.cls).before a0 Z = true) (w4 : (Jvm.Cond.code yn J.bytes J.ml J.ret).before a0 Z = true) (hn : yn.name ≠ "<init>")
    (hlen : ∀ sig, parseMethodDescriptor yn.desc = some sig → 1 = sig.parameters.length) (hsz : L.size = I.ml) (hd : decode I.bytes pc = .ok (.invokespecial index, 3)) (hq : pc + 3 = pc') (hf : J.R.frames + 1 ≤ I.R.frames) (hlo : (S.map fun v => v.category).sum + (J.ml + 11) + J.R.locals ≤ I.R.locals) (hc : cs + J.R.cells ≤ I.R.cells) (hs : sl + J.R.slots ≤ I.R.slots)
    (r : ∀ v h' rs, Q' v h' rs → oRunG C Z n0 I EL (rs ++ ws) G h' (cs + J.R.cells) (sl + J.R.slots) (mkF C.m pc' L (oPush v S))) : oRunG C Z n0 I EL ws G h cs sl (mkF C.m pc L (v0 :: .ref a :: S)) := s_callU (argsL := [v0]) (Q' := Q') M rfl hsub E w1 w2 w5 w6 w3 w4 hn hlen hsz hd hq hf hlo hc hs (fun v vm h q => q) r
theorem s_callS2 {a0 : Array Value} {index : Nat} {yn : MethodName} {J : OInfo} {Q' : Option Value → Heap → Prop} {ws' : List Addr} {v0 v1 : Value} (M : oCon C.l Z n0 EL ws' yn J #[v0, v1] h Q') (hsub : ∀ x ∈ ws', x ∈ ws) (w1 : (Jvm.Cond.methodLink I.own index yn).before a0 Z = true) (w2 : (Jvm.Cond.static yn).before a0 Z = true) (w3 : (Jvm.Cond.initialized yn.cls).before a0 Z = true) (w4 : (Jvm.Cond.code yn J.bytes J.ml J.ret).before a0 Z = true) (hy : yn.cls ≠ "java/lang/invoke/MethodHandle" ∧ yn.cls ≠ "java/lang/invoke/VarHandle")
    (hlen : ∀ sig, parseMethodDescriptor yn.desc = some sig → 2 = sig.parameters.length) (hsz : L.size = I.ml) (hd : decode I.bytes pc = .ok (.invokestatic index, 3)) (hq : pc + 3 = pc') (hf : J.R.frames + 1 ≤ I.R.frames) (hlo : (S.map fun v => v.category).sum + (J.ml + 11) + J.R.locals ≤ I.R.locals) (hc : cs + J.R.cells ≤ I.R.cells) (hs : sl + J.R.slots ≤ I.R.slots)
    (r : ∀ v h', Q' v h' → oRunG C Z n0 I EL ws G h' (cs + J.R.cells) (sl + J.R.slots) (mkF C.m pc' L (oPush v S))) : oRunG C Z n0 I EL ws G h cs sl (mkF C.m pc L (v1 :: v0 :: S)) := s_callS (argsL := [v0, v1]) (Q' := fun v h rs => Q' v h ∧ rs = []) M rfl hsub w1 w2 w3 w4 hy hlen hsz hd hq hf hlo hc hs (fun v vm h q => ⟨[], ⟨q, rfl⟩, fun _ hx => nomatch hx⟩) (fun v h' rs q => by obtain ⟨q, rfl⟩ := q; exact r v h' q)
theorem s_callS2R {a0 : Array Value} {index : Nat} {yn : MethodName} {J : OInfo} {Q' : Option Value → Heap → List Addr → Prop} {ws' : List Addr} {v0 v1 : Value} (M : oConG C.l Z n0 EL ws' yn J #[v0, v1] h (oR Z EL Q')) (hsub : ∀ x ∈ ws', x ∈ ws) (w1 : (Jvm.Cond.methodLink I.own index yn).before a0 Z = true) (w2 : (Jvm.Cond.static yn).before a0 Z = true) (w3 : (Jvm.Cond.initialized yn.cls).before a0 Z = true) (w4 : (Jvm.Cond.code yn J.bytes J.ml J.ret).before a0 Z = true) (hy : yn.cls ≠ "java/lang/invoke/MethodHandle" ∧ yn.cls ≠ "java/lang/invoke/VarHandle")
    (hlen : ∀ sig, parseMethodDescriptor yn.desc = some sig → 2 = sig.parameters.length) (hsz : L.size = I.ml) (hd : decode I.bytes pc = .ok (.invokestatic index, 3)) (hq : pc + 3 = pc') (hf : J.R.frames + 1 ≤ I.R.frames) (hlo : (S.map fun v => v.category).sum + (J.ml + 11) + J.R.locals ≤ I.R.locals) (hc : cs + J.R.cells ≤ I.R.cells) (hs : sl + J.R.slots ≤ I.R.slots)
    (r : ∀ v h' rs, Q' v h' rs → oRunG C Z n0 I EL (rs ++ ws) G h' (cs + J.R.cells) (sl + J.R.slots) (mkF C.m pc' L (oPush v S))) : oRunG C Z n0 I EL ws G h cs sl (mkF C.m pc L (v1 :: v0 :: S)) := s_callS (argsL := [v0, v1]) (Q' := Q') M rfl hsub w1 w2 w3 w4 hy hlen hsz hd hq hf hlo hc hs (fun v vm h q => q) r
theorem s_callI2 {a0 : Array Value} {index : Nat} {yn : MethodName} {J : OInfo} {Q' : Option Value → Heap → Prop} {a : Addr} {ws' : List Addr} {v0 v1 : Value} (M : oCon C.l Z n0 EL ws' yn J #[.ref a, v0, v1] h Q') (hsub : ∀ x ∈ ws', x ∈ ws) (hr : J.ret = none) (hn : yn.name = "<init>") (w1 : (Jvm.Cond.methodLink I.own index yn).before a0 Z = true) (w2 : (Jvm.Cond.instanceMethod yn).before a0 Z = true) (w3 : (Jvm.Cond.initialized yn.cls).before a0 Z = true) (w4 : (Jvm.Cond.code yn J.bytes J.ml J.ret).before a0 Z = true) (hy : yn.cls ≠ "java/lang/invoke/MethodHandle" ∧ yn.cls ≠ "java/lang/invoke/VarHandle")
    (hlen : ∀ sig, parseMethodDescriptor yn.desc = some sig → 2 = sig.parameters.length) (hsz : L.size = I.ml) (hd : decode I.bytes pc = .ok (.invokespecial index, 3)) (hq : pc + 3 = pc') (hf : J.R.frames + 1 ≤ I.R.frames) (hlo : (S.map fun v => v.category).sum + (J.ml + 11) + J.R.locals ≤ I.R.locals) (hc : cs + J.R.cells ≤ I.R.cells) (hs : sl + J.R.slots ≤ I.R.slots)
    (r : ∀ v h', Q' v h' → oRunG C Z n0 I EL ws G h' (cs + J.R.cells) (sl + J.R.slots) (mkF C.m pc' L (oPush v S))) : oRunG C Z n0 I EL ws G h cs sl (mkF C.m pc L (v1 :: v0 :: .ref a :: S)) := s_callI (argsL := [v0, v1]) (Q' := fun v h rs => Q' v h ∧ rs = []) M rfl hsub hr hn w1 w2 w3 w4 hy hlen hsz hd hq hf hlo hc hs (fun v vm h q => ⟨[], ⟨q, rfl⟩, fun _ hx => nomatch hx⟩) (fun v h' rs q => by obtain ⟨q, rfl⟩ := q; exact r v h' q)
theorem s_callI2R {a0 : Array Value} {index : Nat} {yn : MethodName} {J : OInfo} {Q' : Option Value → Heap → List Addr → Prop} {a : Addr} {ws' : List Addr} {v0 v1 : Value} (M : oConG C.l Z n0 EL ws' yn J #[.ref a, v0, v1] h (oR Z EL Q')) (hsub : ∀ x ∈ ws', x ∈ ws) (hr : J.ret = none) (hn : yn.name = "<init>") (w1 : (Jvm.Cond.methodLink I.own index yn).before a0 Z = true) (w2 : (Jvm.Cond.instanceMethod yn).before a0 Z = true) (w3 : (Jvm.Cond.initialized yn.cls).before a0 Z = true) (w4 : (Jvm.Cond.code yn J.bytes J.ml J.ret).before a0 Z = true) (hy : yn.cls ≠ "java/lang/invoke/MethodHandle" ∧ yn.cls ≠ "java/lang/invoke/VarHandle")
    (hlen : ∀ sig, parseMethodDescriptor yn.desc = some sig → 2 = sig.parameters.length) (hsz : L.size = I.ml) (hd : decode I.bytes pc = .ok (.invokespecial index, 3)) (hq : pc + 3 = pc') (hf : J.R.frames + 1 ≤ I.R.frames) (hlo : (S.map fun v => v.category).sum + (J.ml + 11) + J.R.locals ≤ I.R.locals) (hc : cs + J.R.cells ≤ I.R.cells) (hs : sl + J.R.slots ≤ I.R.slots)
    (r : ∀ v h' rs, Q' v h' rs → oRunG C Z n0 I EL (rs ++ ws) G h' (cs + J.R.cells) (sl + J.R.slots) (mkF C.m pc' L (oPush v S))) : oRunG C Z n0 I EL ws G h cs sl (mkF C.m pc L (v1 :: v0 :: .ref a :: S)) := s_callI (argsL := [v0, v1]) (Q' := Q') M rfl hsub hr hn w1 w2 w3 w4 hy hlen hsz hd hq hf hlo hc hs (fun v vm h q => q) r
theorem s_callV2 {a0 : Array Value} {index : Nat} {yn : MethodName} {J : OInfo} {Q' : Option Value → Heap → Prop} {a : Addr} {Cn : String} {zn : MethodName} {ws' : List Addr} {v0 v1 : Value} (M : oCon C.l Z n0 EL ws' zn J #[.ref a, v0, v1] h Q') (hsub : ∀ x ∈ ws', x ∈ ws) (E : Exa Z h a Cn) (w1 : (Jvm.Cond.methodLink I.own index yn).before a0 Z = true) (w2 : (Jvm.Cond.declares yn).before a0 Z = true) (w5 : (Jvm.Cond.selects Cn yn zn).before a0 Z = true) (w6 : (Jvm.Cond.instanceMethod zn).before a0 Z = true) (nf : ∀ s' : State, Z.Warmed39 s'.vm → NotFace s' yn) (w3 : (Jvm.Cond.initialized zn.cls).before a0 Z = true) (w4 : (Jvm.Cond.code zn J.bytes J.ml J.ret).before a0 Z = true) (hy : yn.cls ≠ "java/lang/invoke/MethodHandle" ∧ yn.cls ≠ "java/lang/invoke/VarHandle")
    (hlen : ∀ sig, parseMethodDescriptor yn.desc = some sig → 2 = sig.parameters.length) (hsz : L.size = I.ml) (hd : decode I.bytes pc = .ok (.invokevirtual index, 3)) (hq : pc + 3 = pc') (hf : J.R.frames + 1 ≤ I.R.frames) (hlo : (S.map fun v => v.category).sum + (J.ml + 11) + J.R.locals ≤ I.R.locals) (hc : cs + J.R.cells ≤ I.R.cells) (hs : sl + J.R.slots ≤ I.R.slots)
    (r : ∀ v h', Q' v h' → oRunG C Z n0 I EL ws G h' (cs + J.R.cells) (sl + J.R.slots) (mkF C.m pc' L (oPush v S))) : oRunG C Z n0 I EL ws G h cs sl (mkF C.m pc L (v1 :: v0 :: .ref a :: S)) := s_callV (argsL := [v0, v1]) (Q' := fun v h rs => Q' v h ∧ rs = []) M rfl hsub E w1 w2 w5 w6 nf w3 w4 hy hlen hsz hd hq hf hlo hc hs (fun v vm h q => ⟨[], ⟨q, rfl⟩, fun _ hx => nomatch hx⟩) (fun v h' rs q => by obtain ⟨q, rfl⟩ := q; exact r v h' q)
theorem s_callV2R {a0 : Array Value} {index : Nat} {yn : MethodName} {J : OInfo} {Q' : Option Value → Heap → List Addr → Prop} {a : Addr} {Cn : String} {zn : MethodName} {ws' : List Addr} {v0 v1 : Value} (M : oConG C.l Z n0 EL ws' zn J #[.ref a, v0, v1] h (oR Z EL Q')) (hsub : ∀ x ∈ ws', x ∈ ws) (E : Exa Z h a Cn) (w1 : (Jvm.Cond.methodLink I.own index yn).before a0 Z = true) (w2 : (Jvm.Cond.declares yn).before a0 Z = true) (w5 : (Jvm.Cond.selects Cn yn zn).before a0 Z = true) (w6 : (Jvm.Cond.instanceMethod zn).before a0 Z = true) (nf : ∀ s' : State, Z.Warmed39 s'.vm → NotFace s' yn) (w3 : (Jvm.Cond.initialized zn.cls).before a0 Z = true) (w4 : (Jvm.Cond.code zn J.bytes J.ml J.ret).before a0 Z = true) (hy : yn.cls ≠ "java/lang/invoke/MethodHandle" ∧ yn.cls ≠ "java/lang/invoke/VarHandle")
    (hlen : ∀ sig, parseMethodDescriptor yn.desc = some sig → 2 = sig.parameters.length) (hsz : L.size = I.ml) (hd : decode I.bytes pc = .ok (.invokevirtual index, 3)) (hq : pc + 3 = pc') (hf : J.R.frames + 1 ≤ I.R.frames) (hlo : (S.map fun v => v.category).sum + (J.ml + 11) + J.R.locals ≤ I.R.locals) (hc : cs + J.R.cells ≤ I.R.cells) (hs : sl + J.R.slots ≤ I.R.slots)
    (r : ∀ v h' rs, Q' v h' rs → oRunG C Z n0 I EL (rs ++ ws) G h' (cs + J.R.cells) (sl + J.R.slots) (mkF C.m pc' L (oPush v S))) : oRunG C Z n0 I EL ws G h cs sl (mkF C.m pc L (v1 :: v0 :: .ref a :: S)) := s_callV (argsL := [v0, v1]) (Q' := Q') M rfl hsub E w1 w2 w5 w6 nf w3 w4 hy hlen hsz hd hq hf hlo hc hs (fun v vm h q => q) r
theorem s_callU2 {a0 : Array Value} {index : Nat} {yn : MethodName} {J : OInfo} {Q' : Option Value → Heap → Prop} {a : Addr} {Kn : String} {ws' : List Addr} {v0 v1 : Value} (M : oCon C.l Z n0 EL ws' yn J #[.ref a, v0, v1] h Q') (hsub : ∀ x ∈ ws', x ∈ ws) (E : Ins Z h a Kn true) (w1 : (Jvm.Cond.methodLink I.own index yn).before a0 Z = true) (w2 : (Jvm.Cond.sameMethod yn.cls yn.cls yn.name yn.desc).before a0 Z = true) (w5 : (Jvm.Cond.superclass I.own yn.cls).before a0 Z = true) (w6 : (Jvm.Cond.instanceMethod yn).before a0 Z = true) (w3 : (Jvm.Cond.initialized yn.cls).before a0 Z = true) (w4 : (Jvm.Cond.code yn J.bytes J.ml J.ret).before a0 Z = true) (hn : yn.name ≠ "<init>")
    (hlen : ∀ sig, parseMethodDescriptor yn.desc = some sig → 2 = sig.parameters.length) (hsz : L.size = I.ml) (hd : decode I.bytes pc = .ok (.invokespecial index, 3)) (hq : pc + 3 = pc') (hf : J.R.frames + 1 ≤ I.R.frames) (hlo : (S.map fun v => v.category).sum + (J.ml + 11) + J.R.locals ≤ I.R.locals) (hc : cs + J.R.cells ≤ I.R.cells) (hs : sl + J.R.slots ≤ I.R.slots)
    (r : ∀ v h', Q' v h' → oRunG C Z n0 I EL ws G h' (cs + J.R.cells) (sl + J.R.slots) (mkF C.m pc' L (oPush v S))) : oRunG C Z n0 I EL ws G h cs sl (mkF C.m pc L (v1 :: v0 :: .ref a :: S)) := s_callU (argsL := [v0, v1]) (Q' := fun v h rs => Q' v h ∧ rs = []) M rfl hsub E w1 w2 w5 w6 w3 w4 hn hlen hsz hd hq hf hlo hc hs (fun v vm h q => ⟨[], ⟨q, rfl⟩, fun _ hx => nomatch hx⟩) (fun v h' rs q => by obtain ⟨q, rfl⟩ := q; exact r v h' q)
theorem s_callU2R {a0 : Array Value} {index : Nat} {yn : MethodName} {J : OInfo} {Q' : Option Value → Heap → List Addr → Prop} {a : Addr} {Kn : String} {ws' : List Addr} {v0 v1 : Value} (M : oConG C.l Z n0 EL ws' yn J #[.ref a, v0, v1] h (oR Z EL Q')) (hsub : ∀ x ∈ ws', x ∈ ws) (E : Ins Z h a Kn true) (w1 : (Jvm.Cond.methodLink I.own index yn).before a0 Z = true) (w2 : (Jvm.Cond.sameMethod yn.cls yn.cls yn.name yn.desc).before a0 Z = true) (w5 : (Jvm.Cond.superclass I.own yn.cls).before a0 Z = true) (w6 : (Jvm.Cond.instanceMethod yn).before a0 Z = true) (w3 : (Jvm.Cond.initialized yn.cls).before a0 Z = true) (w4 : (Jvm.Cond.code yn J.bytes J.ml J.ret).before a0 Z = true) (hn : yn.name ≠ "<init>")
    (hlen : ∀ sig, parseMethodDescriptor yn.desc = some sig → 2 = sig.parameters.length) (hsz : L.size = I.ml) (hd : decode I.bytes pc = .ok (.invokespecial index, 3)) (hq : pc + 3 = pc') (hf : J.R.frames + 1 ≤ I.R.frames) (hlo : (S.map fun v => v.category).sum + (J.ml + 11) + J.R.locals ≤ I.R.locals) (hc : cs + J.R.cells ≤ I.R.cells) (hs : sl + J.R.slots ≤ I.R.slots)
    (r : ∀ v h' rs, Q' v h' rs → oRunG C Z n0 I EL (rs ++ ws) G h' (cs + J.R.cells) (sl + J.R.slots) (mkF C.m pc' L (oPush v S))) : oRunG C Z n0 I EL ws G h cs sl (mkF C.m pc L (v1 :: v0 :: .ref a :: S)) := s_callU (argsL := [v0, v1]) (Q' := Q') M rfl hsub E w1 w2 w5 w6 w3 w4 hn hlen hsz hd hq hf hlo hc hs (fun v vm h q => q) r
theorem s_callS3 {a0 : Array Value} {index : Nat} {yn : MethodName} {J : OInfo} {Q' : Option Value → Heap → Prop} {ws' : List Addr} {v0 v1 v2 : Value} (M : oCon C.l Z n0 EL ws' yn J #[v0, v1, v2] h Q') (hsub : ∀ x ∈ ws', x ∈ ws) (w1 : (Jvm.Cond.methodLink I.own index yn).before a0 Z = true) (w2 : (Jvm.Cond.static yn).before a0 Z = true) (w3 : (Jvm.Cond.initialized yn.cls).before a0 Z = true) (w4 : (Jvm.Cond.code yn J.bytes J.ml J.ret).before a0 Z = true) (hy : yn.cls ≠ "java/lang/invoke/MethodHandle" ∧ yn.cls ≠ "java/lang/invoke/VarHandle")
    (hlen : ∀ sig, parseMethodDescriptor yn.desc = some sig → 3 = sig.parameters.length) (hsz : L.size = I.ml) (hd : decode I.bytes pc = .ok (.invokestatic index, 3)) (hq : pc + 3 = pc') (hf : J.R.frames + 1 ≤ I.R.frames) (hlo : (S.map fun v => v.category).sum + (J.ml + 11) + J.R.locals ≤ I.R.locals) (hc : cs + J.R.cells ≤ I.R.cells) (hs : sl + J.R.slots ≤ I.R.slots)
    (r : ∀ v h', Q' v h' → oRunG C Z n0 I EL ws G h' (cs + J.R.cells) (sl + J.R.slots) (mkF C.m pc' L (oPush v S))) : oRunG C Z n0 I EL ws G h cs sl (mkF C.m pc L (v2 :: v1 :: v0 :: S)) := s_callS (argsL := [v0, v1, v2]) (Q' := fun v h rs => Q' v h ∧ rs = []) M rfl hsub w1 w2 w3 w4 hy hlen hsz hd hq hf hlo hc hs (fun v vm h q => ⟨[], ⟨q, rfl⟩, fun _ hx => nomatch hx⟩) (fun v h' rs q => by obtain ⟨q, rfl⟩ := q; exact r v h' q)
theorem s_callS3R {a0 : Array Value} {index : Nat} {yn : MethodName} {J : OInfo} {Q' : Option Value → Heap → List Addr → Prop} {ws' : List Addr} {v0 v1 v2 : Value} (M : oConG C.l Z n0 EL ws' yn J #[v0, v1, v2] h (oR Z EL Q')) (hsub : ∀ x ∈ ws', x ∈ ws) (w1 : (Jvm.Cond.methodLink I.own index yn).before a0 Z = true) (w2 : (Jvm.Cond.static yn).before a0 Z = true) (w3 : (Jvm.Cond.initialized yn.cls).before a0 Z = true) (w4 : (Jvm.Cond.code yn J.bytes J.ml J.ret).before a0 Z = true) (hy : yn.cls ≠ "java/lang/invoke/MethodHandle" ∧ yn.cls ≠ "java/lang/invoke/VarHandle")
    (hlen : ∀ sig, parseMethodDescriptor yn.desc = some sig → 3 = sig.parameters.length) (hsz : L.size = I.ml) (hd : decode I.bytes pc = .ok (.invokestatic index, 3)) (hq : pc + 3 = pc') (hf : J.R.frames + 1 ≤ I.R.frames) (hlo : (S.map fun v => v.category).sum + (J.ml + 11) + J.R.locals ≤ I.R.locals) (hc : cs + J.R.cells ≤ I.R.cells) (hs : sl + J.R.slots ≤ I.R.slots)
    (r : ∀ v h' rs, Q' v h' rs → oRunG C Z n0 I EL (rs ++ ws) G h' (cs + J.R.cells) (sl + J.R.slots) (mkF C.m pc' L (oPush v S))) : oRunG C Z n0 I EL ws G h cs sl (mkF C.m pc L (v2 :: v1 :: v0 :: S)) := s_callS (argsL := [v0, v1, v2]) (Q' := Q') M rfl hsub w1 w2 w3 w4 hy hlen hsz hd hq hf hlo hc hs (fun v vm h q => q) r
theorem s_callI3 {a0 : Array Value} {index : Nat} {yn : MethodName} {J : OInfo} {Q' : Option Value → Heap → Prop} {a : Addr} {ws' : List Addr} {v0 v1 v2 : Value} (M : oCon C.l Z n0 EL ws' yn J #[.ref a, v0, v1, v2] h Q') (hsub : ∀ x ∈ ws', x ∈ ws) (hr : J.ret = none) (hn : yn.name = "<init>") (w1 : (Jvm.Cond.methodLink I.own index yn).before a0 Z = true) (w2 : (Jvm.Cond.instanceMethod yn).before a0 Z = true) (w3 : (Jvm.Cond.initialized yn.cls).before a0 Z = true) (w4 : (Jvm.Cond.code yn J.bytes J.ml J.ret).before a0 Z = true) (hy : yn.cls ≠ "java/lang/invoke/MethodHandle" ∧ yn.cls ≠ "java/lang/invoke/VarHandle")
    (hlen : ∀ sig, parseMethodDescriptor yn.desc = some sig → 3 = sig.parameters.length) (hsz : L.size = I.ml) (hd : decode I.bytes pc = .ok (.invokespecial index, 3)) (hq : pc + 3 = pc') (hf : J.R.frames + 1 ≤ I.R.frames) (hlo : (S.map fun v => v.category).sum + (J.ml + 11) + J.R.locals ≤ I.R.locals) (hc : cs + J.R.cells ≤ I.R.cells) (hs : sl + J.R.slots ≤ I.R.slots)
    (r : ∀ v h', Q' v h' → oRunG C Z n0 I EL ws G h' (cs + J.R.cells) (sl + J.R.slots) (mkF C.m pc' L (oPush v S))) : oRunG C Z n0 I EL ws G h cs sl (mkF C.m pc L (v2 :: v1 :: v0 :: .ref a :: S)) := s_callI (argsL := [v0, v1, v2]) (Q' := fun v h rs => Q' v h ∧ rs = []) M rfl hsub hr hn w1 w2 w3 w4 hy hlen hsz hd hq hf hlo hc hs (fun v vm h q => ⟨[], ⟨q, rfl⟩, fun _ hx => nomatch hx⟩) (fun v h' rs q => by obtain ⟨q, rfl⟩ := q; exact r v h' q)
theorem s_callI3R {a0 : Array Value} {index : Nat} {yn : MethodName} {J : OInfo} {Q' : Option Value → Heap → List Addr → Prop} {a : Addr} {ws' : List Addr} {v0 v1 v2 : Value} (M : oConG C.l Z n0 EL ws' yn J #[.ref a, v0, v1, v2] h (oR Z EL Q')) (hsub : ∀ x ∈ ws', x ∈ ws) (hr : J.ret = none) (hn : yn.name = "<init>") (w1 : (Jvm.Cond.methodLink I.own index yn).before a0 Z = true) (w2 : (Jvm.Cond.instanceMethod yn).before a0 Z = true) (w3 : (Jvm.Cond.initialized yn.cls).before a0 Z = true) (w4 : (Jvm.Cond.code yn J.bytes J.ml J.ret).before a0 Z = true) (hy : yn.cls ≠ "java/lang/invoke/MethodHandle" ∧ yn.cls ≠ "java/lang/invoke/VarHandle")
    (hlen : ∀ sig, parseMethodDescriptor yn.desc = some sig → 3 = sig.parameters.length) (hsz : L.size = I.ml) (hd : decode I.bytes pc = .ok (.invokespecial index, 3)) (hq : pc + 3 = pc') (hf : J.R.frames + 1 ≤ I.R.frames) (hlo : (S.map fun v => v.category).sum + (J.ml + 11) + J.R.locals ≤ I.R.locals) (hc : cs + J.R.cells ≤ I.R.cells) (hs : sl + J.R.slots ≤ I.R.slots)
    (r : ∀ v h' rs, Q' v h' rs → oRunG C Z n0 I EL (rs ++ ws) G h' (cs + J.R.cells) (sl + J.R.slots) (mkF C.m pc' L (oPush v S))) : oRunG C Z n0 I EL ws G h cs sl (mkF C.m pc L (v2 :: v1 :: v0 :: .ref a :: S)) := s_callI (argsL := [v0, v1, v2]) (Q' := Q') M rfl hsub hr hn w1 w2 w3 w4 hy hlen hsz hd hq hf hlo hc hs (fun v vm h q => q) r
theorem s_callV3 {a0 : Array Value} {index : Nat} {yn : MethodName} {J : OInfo} {Q' : Option Value → Heap → Prop} {a : Addr} {Cn : String} {zn : MethodName} {ws' : List Addr} {v0 v1 v2 : Value} (M : oCon C.l Z n0 EL ws' zn J #[.ref a, v0, v1, v2] h Q') (hsub : ∀ x ∈ ws', x ∈ ws) (E : Exa Z h a Cn) (w1 : (Jvm.Cond.methodLink I.own index yn).before a0 Z = true) (w2 : (Jvm.Cond.declares yn).before a0 Z = true) (w5 : (Jvm.Cond.selects Cn yn zn).before a0 Z = true) (w6 : (Jvm.Cond.instanceMethod zn).before a0 Z = true) (nf : ∀ s' : State, Z.Warmed39 s'.vm → NotFace s' yn) (w3 : (Jvm.Cond.initialized zn.cls).before a0 Z = true) (w4 : (Jvm.Cond.code zn J.bytes J.ml J.ret).before a0 Z = true) (hy : yn.cls ≠ "java/lang/invoke/MethodHandle" ∧ yn.cls ≠ "java/lang/invoke/VarHandle")
    (hlen : ∀ sig, parseMethodDescriptor yn.desc = some sig → 3 = sig.parameters.length) (hsz : L.size = I.ml) (hd : decode I.bytes pc = .ok (.invokevirtual index, 3)) (hq : pc + 3 = pc') (hf : J.R.frames + 1 ≤ I.R.frames) (hlo : (S.map fun v => v.category).sum + (J.ml + 11) + J.R.locals ≤ I.R.locals) (hc : cs + J.R.cells ≤ I.R.cells) (hs : sl + J.R.slots ≤ I.R.slots)
    (r : ∀ v h', Q' v h' → oRunG C Z n0 I EL ws G h' (cs + J.R.cells) (sl + J.R.slots) (mkF C.m pc' L (oPush v S))) : oRunG C Z n0 I EL ws G h cs sl (mkF C.m pc L (v2 :: v1 :: v0 :: .ref a :: S)) := s_callV (argsL := [v0, v1, v2]) (Q' := fun v h rs => Q' v h ∧ rs = []) M rfl hsub E w1 w2 w5 w6 nf w3 w4 hy hlen hsz hd hq hf hlo hc hs (fun v vm h q => ⟨[], ⟨q, rfl⟩, fun _ hx => nomatch hx⟩) (fun v h' rs q => by obtain ⟨q, rfl⟩ := q; exact r v h' q)
theorem s_callV3R {a0 : Array Value} {index : Nat} {yn : MethodName} {J : OInfo} {Q' : Option Value → Heap → List Addr → Prop} {a : Addr} {Cn : String} {zn : MethodName} {ws' : List Addr} {v0 v1 v2 : Value} (M : oConG C.l Z n0 EL ws' zn J #[.ref a, v0, v1, v2] h (oR Z EL Q')) (hsub : ∀ x ∈ ws', x ∈ ws) (E : Exa Z h a Cn) (w1 : (Jvm.Cond.methodLink I.own index yn).before a0 Z = true) (w2 : (Jvm.Cond.declares yn).before a0 Z = true) (w5 : (Jvm.Cond.selects Cn yn zn).before a0 Z = true) (w6 : (Jvm.Cond.instanceMethod zn).before a0 Z = true) (nf : ∀ s' : State, Z.Warmed39 s'.vm → NotFace s' yn) (w3 : (Jvm.Cond.initialized zn.cls).before a0 Z = true) (w4 : (Jvm.Cond.code zn J.bytes J.ml J.ret).before a0 Z = true) (hy : yn.cls ≠ "java/lang/invoke/MethodHandle" ∧ yn.cls ≠ "java/lang/invoke/VarHandle")
    (hlen : ∀ sig, parseMethodDescriptor yn.desc = some sig → 3 = sig.parameters.length) (hsz : L.size = I.ml) (hd : decode I.bytes pc = .ok (.invokevirtual index, 3)) (hq : pc + 3 = pc') (hf : J.R.frames + 1 ≤ I.R.frames) (hlo : (S.map fun v => v.category).sum + (J.ml + 11) + J.R.locals ≤ I.R.locals) (hc : cs + J.R.cells ≤ I.R.cells) (hs : sl + J.R.slots ≤ I.R.slots)
    (r : ∀ v h' rs, Q' v h' rs → oRunG C Z n0 I EL (rs ++ ws) G h' (cs + J.R.cells) (sl + J.R.slots) (mkF C.m pc' L (oPush v S))) : oRunG C Z n0 I EL ws G h cs sl (mkF C.m pc L (v2 :: v1 :: v0 :: .ref a :: S)) := s_callV (argsL := [v0, v1, v2]) (Q' := Q') M rfl hsub E w1 w2 w5 w6 nf w3 w4 hy hlen hsz hd hq hf hlo hc hs (fun v vm h q => q) r
theorem s_callU3 {a0 : Array Value} {index : Nat} {yn : MethodName} {J : OInfo} {Q' : Option Value → Heap → Prop} {a : Addr} {Kn : String} {ws' : List Addr} {v0 v1 v2 : Value} (M : oCon C.l Z n0 EL ws' yn J #[.ref a, v0, v1, v2] h Q') (hsub : ∀ x ∈ ws', x ∈ ws) (E : Ins Z h a Kn true) (w1 : (Jvm.Cond.methodLink I.own index yn).before a0 Z = true) (w2 : (Jvm.Cond.sameMethod yn.cls yn.cls yn.name yn.desc).before a0 Z = true) (w5 : (Jvm.Cond.superclass I.own yn.cls).before a0 Z = true) (w6 : (Jvm.Cond.instanceMethod yn).before a0 Z = true) (w3 : (Jvm.Cond.initialized yn.cls).before a0 Z = true) (w4 : (Jvm.Cond.code yn J.bytes J.ml J.ret).before a0 Z = true) (hn : yn.name ≠ "<init>")
    (hlen : ∀ sig, parseMethodDescriptor yn.desc = some sig → 3 = sig.parameters.length) (hsz : L.size = I.ml) (hd : decode I.bytes pc = .ok (.invokespecial index, 3)) (hq : pc + 3 = pc') (hf : J.R.frames + 1 ≤ I.R.frames) (hlo : (S.map fun v => v.category).sum + (J.ml + 11) + J.R.locals ≤ I.R.locals) (hc : cs + J.R.cells ≤ I.R.cells) (hs : sl + J.R.slots ≤ I.R.slots)
    (r : ∀ v h', Q' v h' → oRunG C Z n0 I EL ws G h' (cs + J.R.cells) (sl + J.R.slots) (mkF C.m pc' L (oPush v S))) : oRunG C Z n0 I EL ws G h cs sl (mkF C.m pc L (v2 :: v1 :: v0 :: .ref a :: S)) := s_callU (argsL := [v0, v1, v2]) (Q' := fun v h rs => Q' v h ∧ rs = []) M rfl hsub E w1 w2 w5 w6 w3 w4 hn hlen hsz hd hq hf hlo hc hs (fun v vm h q => ⟨[], ⟨q, rfl⟩, fun _ hx => nomatch hx⟩) (fun v h' rs q => by obtain ⟨q, rfl⟩ := q; exact r v h' q)
theorem s_callU3R {a0 : Array Value} {index : Nat} {yn : MethodName} {J : OInfo} {Q' : Option Value → Heap → List Addr → Prop} {a : Addr} {Kn : String} {ws' : List Addr} {v0 v1 v2 : Value} (M : oConG C.l Z n0 EL ws' yn J #[.ref a, v0, v1, v2] h (oR Z EL Q')) (hsub : ∀ x ∈ ws', x ∈ ws) (E : Ins Z h a Kn true) (w1 : (Jvm.Cond.methodLink I.own index yn).before a0 Z = true) (w2 : (Jvm.Cond.sameMethod yn.cls yn.cls yn.name yn.desc).before a0 Z = true) (w5 : (Jvm.Cond.superclass I.own yn.cls).before a0 Z = true) (w6 : (Jvm.Cond.instanceMethod yn).before a0 Z = true) (w3 : (Jvm.Cond.initialized yn.cls).before a0 Z = true) (w4 : (Jvm.Cond.code yn J.bytes J.ml J.ret).before a0 Z = true) (hn : yn.name ≠ "<init>")
    (hlen : ∀ sig, parseMethodDescriptor yn.desc = some sig → 3 = sig.parameters.length) (hsz : L.size = I.ml) (hd : decode I.bytes pc = .ok (.invokespecial index, 3)) (hq : pc + 3 = pc') (hf : J.R.frames + 1 ≤ I.R.frames) (hlo : (S.map fun v => v.category).sum + (J.ml + 11) + J.R.locals ≤ I.R.locals) (hc : cs + J.R.cells ≤ I.R.cells) (hs : sl + J.R.slots ≤ I.R.slots)
    (r : ∀ v h' rs, Q' v h' rs → oRunG C Z n0 I EL (rs ++ ws) G h' (cs + J.R.cells) (sl + J.R.slots) (mkF C.m pc' L (oPush v S))) : oRunG C Z n0 I EL ws G h cs sl (mkF C.m pc L (v2 :: v1 :: v0 :: .ref a :: S)) := s_callU (argsL := [v0, v1, v2]) (Q' := Q') M rfl hsub E w1 w2 w5 w6 w3 w4 hn hlen hsz hd hq hf hlo hc hs (fun v vm h q => q) r
theorem s_callS4 {a0 : Array Value} {index : Nat} {yn : MethodName} {J : OInfo} {Q' : Option Value → Heap → Prop} {ws' : List Addr} {v0 v1 v2 v3 : Value} (M : oCon C.l Z n0 EL ws' yn J #[v0, v1, v2, v3] h Q') (hsub : ∀ x ∈ ws', x ∈ ws) (w1 : (Jvm.Cond.methodLink I.own index yn).before a0 Z = true) (w2 : (Jvm.Cond.static yn).before a0 Z = true) (w3 : (Jvm.Cond.initialized yn.cls).before a0 Z = true) (w4 : (Jvm.Cond.code yn J.bytes J.ml J.ret).before a0 Z = true) (hy : yn.cls ≠ "java/lang/invoke/MethodHandle" ∧ yn.cls ≠ "java/lang/invoke/VarHandle")
    (hlen : ∀ sig, parseMethodDescriptor yn.desc = some sig → 4 = sig.parameters.length) (hsz : L.size = I.ml) (hd : decode I.bytes pc = .ok (.invokestatic index, 3)) (hq : pc + 3 = pc') (hf : J.R.frames + 1 ≤ I.R.frames) (hlo : (S.map fun v => v.category).sum + (J.ml + 11) + J.R.locals ≤ I.R.locals) (hc : cs + J.R.cells ≤ I.R.cells) (hs : sl + J.R.slots ≤ I.R.slots)
    (r : ∀ v h', Q' v h' → oRunG C Z n0 I EL ws G h' (cs + J.R.cells) (sl + J.R.slots) (mkF C.m pc' L (oPush v S))) : oRunG C Z n0 I EL ws G h cs sl (mkF C.m pc L (v3 :: v2 :: v1 :: v0 :: S)) := s_callS (argsL := [v0, v1, v2, v3]) (Q' := fun v h rs => Q' v h ∧ rs = []) M rfl hsub w1 w2 w3 w4 hy hlen hsz hd hq hf hlo hc hs (fun v vm h q => ⟨[], ⟨q, rfl⟩, fun _ hx => nomatch hx⟩) (fun v h' rs q => by obtain ⟨q, rfl⟩ := q; exact r v h' q)
theorem s_callI4 {a0 : Array Value} {index : Nat} {yn : MethodName} {J : OInfo} {Q' : Option Value → Heap → Prop} {a : Addr} {ws' : List Addr} {v0 v1 v2 v3 : Value} (M : oCon C.l Z n0 EL ws' yn J #[.ref a, v0, v1, v2, v3] h Q') (hsub : ∀ x ∈ ws', x ∈ ws) (hr : J.ret = none) (hn : yn.name = "<init>") (w1 : (Jvm.Cond.methodLink I.own index yn).before a0 Z = true) (w2 : (Jvm.Cond.instanceMethod yn).before a0 Z = true) (w3 : (Jvm.Cond.initialized yn.cls).before a0 Z = true) (w4 : (Jvm.Cond.code yn J.bytes J.ml J.ret).before a0 Z = true) (hy : yn.cls ≠ "java/lang/invoke/MethodHandle" ∧ yn.cls ≠ "java/lang/invoke/VarHandle")
    (hlen : ∀ sig, parseMethodDescriptor yn.desc = some sig → 4 = sig.parameters.length) (hsz : L.size = I.ml) (hd : decode I.bytes pc = .ok (.invokespecial index, 3)) (hq : pc + 3 = pc') (hf : J.R.frames + 1 ≤ I.R.frames) (hlo : (S.map fun v => v.category).sum + (J.ml + 11) + J.R.locals ≤ I.R.locals) (hc : cs + J.R.cells ≤ I.R.cells) (hs : sl + J.R.slots ≤ I.R.slots)
    (r : ∀ v h', Q' v h' → oRunG C Z n0 I EL ws G h' (cs + J.R.cells) (sl + J.R.slots) (mkF C.m pc' L (oPush v S))) : oRunG C Z n0 I EL ws G h cs sl (mkF C.m pc L (v3 :: v2 :: v1 :: v0 :: .ref a :: S)) := s_callI (argsL := [v0, v1, v2, v3]) (Q' := fun v h rs => Q' v h ∧ rs = []) M rfl hsub hr hn w1 w2 w3 w4 hy hlen hsz hd hq hf hlo hc hs (fun v vm h q => ⟨[], ⟨q, rfl⟩, fun _ hx => nomatch hx⟩) (fun v h' rs q => by obtain ⟨q, rfl⟩ := q; exact r v h' q)
theorem s_callV4 {a0 : Array Value} {index : Nat} {yn : MethodName} {J : OInfo} {Q' : Option Value → Heap → Prop} {a : Addr} {Cn : String} {zn : MethodName} {ws' : List Addr} {v0 v1 v2 v3 : Value} (M : oCon C.l Z n0 EL ws' zn J #[.ref a, v0, v1, v2, v3] h Q') (hsub : ∀ x ∈ ws', x ∈ ws) (E : Exa Z h a Cn) (w1 : (Jvm.Cond.methodLink I.own index yn).before a0 Z = true) (w2 : (Jvm.Cond.declares yn).before a0 Z = true) (w5 : (Jvm.Cond.selects Cn yn zn).before a0 Z = true) (w6 : (Jvm.Cond.instanceMethod zn).before a0 Z = true) (nf : ∀ s' : State, Z.Warmed39 s'.vm → NotFace s' yn) (w3 : (Jvm.Cond.initialized zn.cls).before a0 Z = true) (w4 : (Jvm.Cond.code zn J.bytes J.ml J.ret).before a0 Z = true) (hy : yn.cls ≠ "java/lang/invoke/MethodHandle" ∧ yn.cls ≠ "java/lang/invoke/VarHandle")
    (hlen : ∀ sig, parseMethodDescriptor yn.desc = some sig → 4 = sig.parameters.length) (hsz : L.size = I.ml) (hd : decode I.bytes pc = .ok (.invokevirtual index, 3)) (hq : pc + 3 = pc') (hf : J.R.frames + 1 ≤ I.R.frames) (hlo : (S.map fun v => v.category).sum + (J.ml + 11) + J.R.locals ≤ I.R.locals) (hc : cs + J.R.cells ≤ I.R.cells) (hs : sl + J.R.slots ≤ I.R.slots)
    (r : ∀ v h', Q' v h' → oRunG C Z n0 I EL ws G h' (cs + J.R.cells) (sl + J.R.slots) (mkF C.m pc' L (oPush v S))) : oRunG C Z n0 I EL ws G h cs sl (mkF C.m pc L (v3 :: v2 :: v1 :: v0 :: .ref a :: S)) := s_callV (argsL := [v0, v1, v2, v3]) (Q' := fun v h rs => Q' v h ∧ rs = []) M rfl hsub E w1 w2 w5 w6 nf w3 w4 hy hlen hsz hd hq hf hlo hc hs (fun v vm h q => ⟨[], ⟨q, rfl⟩, fun _ hx => nomatch hx⟩) (fun v h' rs q => by obtain ⟨q, rfl⟩ := q; exact r v h' q)
theorem s_callU4 {a0 : Array Value} {index : Nat} {yn : MethodName} {J : OInfo} {Q' : Option Value → Heap → Prop} {a : Addr} {Kn : String} {ws' : List Addr} {v0 v1 v2 v3 : Value} (M : oCon C.l Z n0 EL ws' yn J #[.ref a, v0, v1, v2, v3] h Q') (hsub : ∀ x ∈ ws', x ∈ ws) (E : Ins Z h a Kn true) (w1 : (Jvm.Cond.methodLink I.own index yn).before a0 Z = true) (w2 : (Jvm.Cond.sameMethod yn.cls yn.cls yn.name yn.desc).before a0 Z = true) (w5 : (Jvm.Cond.superclass I.own yn.cls).before a0 Z = true) (w6 : (Jvm.Cond.instanceMethod yn).before a0 Z = true) (w3 : (Jvm.Cond.initialized yn.cls).before a0 Z = true) (w4 : (Jvm.Cond.code yn J.bytes J.ml J.ret).before a0 Z = true) (hn : yn.name ≠ "<init>")
    (hlen : ∀ sig, parseMethodDescriptor yn.desc = some sig → 4 = sig.parameters.length) (hsz : L.size = I.ml) (hd : decode I.bytes pc = .ok (.invokespecial index, 3)) (hq : pc + 3 = pc') (hf : J.R.frames + 1 ≤ I.R.frames) (hlo : (S.map fun v => v.category).sum + (J.ml + 11) + J.R.locals ≤ I.R.locals) (hc : cs + J.R.cells ≤ I.R.cells) (hs : sl + J.R.slots ≤ I.R.slots)
    (r : ∀ v h', Q' v h' → oRunG C Z n0 I EL ws G h' (cs + J.R.cells) (sl + J.R.slots) (mkF C.m pc' L (oPush v S))) : oRunG C Z n0 I EL ws G h cs sl (mkF C.m pc L (v3 :: v2 :: v1 :: v0 :: .ref a :: S)) := s_callU (argsL := [v0, v1, v2, v3]) (Q' := fun v h rs => Q' v h ∧ rs = []) M rfl hsub E w1 w2 w5 w6 w3 w4 hn hlen hsz hd hq hf hlo hc hs (fun v vm h q => ⟨[], ⟨q, rfl⟩, fun _ hx => nomatch hx⟩) (fun v h' rs q => by obtain ⟨q, rfl⟩ := q; exact r v h' q)
theorem s_callS5 {a0 : Array Value} {index : Nat} {yn : MethodName} {J : OInfo} {Q' : Option Value → Heap → Prop} {ws' : List Addr} {v0 v1 v2 v3 v4 : Value} (M : oCon C.l Z n0 EL ws' yn J #[v0, v1, v2, v3, v4] h Q') (hsub : ∀ x ∈ ws', x ∈ ws) (w1 : (Jvm.Cond.methodLink I.own index yn).before a0 Z = true) (w2 : (Jvm.Cond.static yn).before a0 Z = true) (w3 : (Jvm.Cond.initialized yn.cls).before a0 Z = true) (w4 : (Jvm.Cond.code yn J.bytes J.ml J.ret).before a0 Z = true) (hy : yn.cls ≠ "java/lang/invoke/MethodHandle" ∧ yn.cls ≠ "java/lang/invoke/VarHandle")
    (hlen : ∀ sig, parseMethodDescriptor yn.desc = some sig → 5 = sig.parameters.length) (hsz : L.size = I.ml) (hd : decode I.bytes pc = .ok (.invokestatic index, 3)) (hq : pc + 3 = pc') (hf : J.R.frames + 1 ≤ I.R.frames) (hlo : (S.map fun v => v.category).sum + (J.ml + 11) + J.R.locals ≤ I.R.locals) (hc : cs + J.R.cells ≤ I.R.cells) (hs : sl + J.R.slots ≤ I.R.slots)
    (r : ∀ v h', Q' v h' → oRunG C Z n0 I EL ws G h' (cs + J.R.cells) (sl + J.R.slots) (mkF C.m pc' L (oPush v S))) : oRunG C Z n0 I EL ws G h cs sl (mkF C.m pc L (v4 :: v3 :: v2 :: v1 :: v0 :: S)) := s_callS (argsL := [v0, v1, v2, v3, v4]) (Q' := fun v h rs => Q' v h ∧ rs = []) M rfl hsub w1 w2 w3 w4 hy hlen hsz hd hq hf hlo hc hs (fun v vm h q => ⟨[], ⟨q, rfl⟩, fun _ hx => nomatch hx⟩) (fun v h' rs q => by obtain ⟨q, rfl⟩ := q; exact r v h' q)
theorem s_callI5 {a0 : Array Value} {index : Nat} {yn : MethodName} {J : OInfo} {Q' : Option Value → Heap → Prop} {a : Addr} {ws' : List Addr} {v0 v1 v2 v3 v4 : Value} (M : oCon C.l Z n0 EL ws' yn J #[.ref a, v0, v1, v2, v3, v4] h Q') (hsub : ∀ x ∈ ws', x ∈ ws) (hr : J.ret = none) (hn : yn.name = "<init>") (w1 : (Jvm.Cond.methodLink I.own index yn).before a0 Z = true) (w2 : (Jvm.Cond.instanceMethod yn).before a0 Z = true) (w3 : (Jvm.Cond.initialized yn.cls).before a0 Z = true) (w4 : (Jvm.Cond.code yn J.bytes J.ml J.ret).before a0 Z = true) (hy : yn.cls ≠ "java/lang/invoke/MethodHandle" ∧ yn.cls ≠ "java/lang/invoke/VarHandle")
    (hlen : ∀ sig, parseMethodDescriptor yn.desc = some sig → 5 = sig.parameters.length) (hsz : L.size = I.ml) (hd : decode I.bytes pc = .ok (.invokespecial index, 3)) (hq : pc + 3 = pc') (hf : J.R.frames + 1 ≤ I.R.frames) (hlo : (S.map fun v => v.category).sum + (J.ml + 11) + J.R.locals ≤ I.R.locals) (hc : cs + J.R.cells ≤ I.R.cells) (hs : sl + J.R.slots ≤ I.R.slots)
    (r : ∀ v h', Q' v h' → oRunG C Z n0 I EL ws G h' (cs + J.R.cells) (sl + J.R.slots) (mkF C.m pc' L (oPush v S))) : oRunG C Z n0 I EL ws G h cs sl (mkF C.m pc L (v4 :: v3 :: v2 :: v1 :: v0 :: .ref a :: S)) := s_callI (argsL := [v0, v1, v2, v3, v4]) (Q' := fun v h rs => Q' v h ∧ rs = []) M rfl hsub hr hn w1 w2 w3 w4 hy hlen hsz hd hq hf hlo hc hs (fun v vm h q => ⟨[], ⟨q, rfl⟩, fun _ hx => nomatch hx⟩) (fun v h' rs q => by obtain ⟨q, rfl⟩ := q; exact r v h' q)
theorem s_callV5 {a0 : Array Value} {index : Nat} {yn : MethodName} {J : OInfo} {Q' : Option Value → Heap → Prop} {a : Addr} {Cn : String} {zn : MethodName} {ws' : List Addr} {v0 v1 v2 v3 v4 : Value} (M : oCon C.l Z n0 EL ws' zn J #[.ref a, v0, v1, v2, v3, v4] h Q') (hsub : ∀ x ∈ ws', x ∈ ws) (E : Exa Z h a Cn) (w1 : (Jvm.Cond.methodLink I.own index yn).before a0 Z = true) (w2 : (Jvm.Cond.declares yn).before a0 Z = true) (w5 : (Jvm.Cond.selects Cn yn zn).before a0 Z = true) (w6 : (Jvm.Cond.instanceMethod zn).before a0 Z = true) (nf : ∀ s' : State, Z.Warmed39 s'.vm → NotFace s' yn) (w3 : (Jvm.Cond.initialized zn.cls).before a0 Z = true) (w4 : (Jvm.Cond.code zn J.bytes J.ml J.ret).before a0 Z = true) (hy : yn.cls ≠ "java/lang/invoke/MethodHandle" ∧ yn.cls ≠ "java/lang/invoke/VarHandle")
    (hlen : ∀ sig, parseMethodDescriptor yn.desc = some sig → 5 = sig.parameters.length) (hsz : L.size = I.ml) (hd : decode I.bytes pc = .ok (.invokevirtual index, 3)) (hq : pc + 3 = pc') (hf : J.R.frames + 1 ≤ I.R.frames) (hlo : (S.map fun v => v.category).sum + (J.ml + 11) + J.R.locals ≤ I.R.locals) (hc : cs + J.R.cells ≤ I.R.cells) (hs : sl + J.R.slots ≤ I.R.slots)
    (r : ∀ v h', Q' v h' → oRunG C Z n0 I EL ws G h' (cs + J.R.cells) (sl + J.R.slots) (mkF C.m pc' L (oPush v S))) : oRunG C Z n0 I EL ws G h cs sl (mkF C.m pc L (v4 :: v3 :: v2 :: v1 :: v0 :: .ref a :: S)) := s_callV (argsL := [v0, v1, v2, v3, v4]) (Q' := fun v h rs => Q' v h ∧ rs = []) M rfl hsub E w1 w2 w5 w6 nf w3 w4 hy hlen hsz hd hq hf hlo hc hs (fun v vm h q => ⟨[], ⟨q, rfl⟩, fun _ hx => nomatch hx⟩) (fun v h' rs q => by obtain ⟨q, rfl⟩ := q; exact r v h' q)
theorem s_callU5 {a0 : Array Value} {index : Nat} {yn : MethodName} {J : OInfo} {Q' : Option Value → Heap → Prop} {a : Addr} {Kn : String} {ws' : List Addr} {v0 v1 v2 v3 v4 : Value} (M : oCon C.l Z n0 EL ws' yn J #[.ref a, v0, v1, v2, v3, v4] h Q') (hsub : ∀ x ∈ ws', x ∈ ws) (E : Ins Z h a Kn true) (w1 : (Jvm.Cond.methodLink I.own index yn).before a0 Z = true) (w2 : (Jvm.Cond.sameMethod yn.cls yn.cls yn.name yn.desc).before a0 Z = true) (w5 : (Jvm.Cond.superclass I.own yn.cls).before a0 Z = true) (w6 : (Jvm.Cond.instanceMethod yn).before a0 Z = true) (w3 : (Jvm.Cond.initialized yn.cls).before a0 Z = true) (w4 : (Jvm.Cond.code yn J.bytes J.ml J.ret).before a0 Z = true) (hn : yn.name ≠ "<init>")
    (hlen : ∀ sig, parseMethodDescriptor yn.desc = some sig → 5 = sig.parameters.length) (hsz : L.size = I.ml) (hd : decode I.bytes pc = .ok (.invokespecial index, 3)) (hq : pc + 3 = pc') (hf : J.R.frames + 1 ≤ I.R.frames) (hlo : (S.map fun v => v.category).sum + (J.ml + 11) + J.R.locals ≤ I.R.locals) (hc : cs + J.R.cells ≤ I.R.cells) (hs : sl + J.R.slots ≤ I.R.slots)
    (r : ∀ v h', Q' v h' → oRunG C Z n0 I EL ws G h' (cs + J.R.cells) (sl + J.R.slots) (mkF C.m pc' L (oPush v S))) : oRunG C Z n0 I EL ws G h cs sl (mkF C.m pc L (v4 :: v3 :: v2 :: v1 :: v0 :: .ref a :: S)) := s_callU (argsL := [v0, v1, v2, v3, v4]) (Q' := fun v h rs => Q' v h ∧ rs = []) M rfl hsub E w1 w2 w5 w6 w3 w4 hn hlen hsz hd hq hf hlo hc hs (fun v vm h q => ⟨[], ⟨q, rfl⟩, fun _ hx => nomatch hx⟩) (fun v h' rs q => by obtain ⟨q, rfl⟩ := q; exact r v h' q)
theorem s_callS6 {a0 : Array Value} {index : Nat} {yn : MethodName} {J : OInfo} {Q' : Option Value → Heap → Prop} {ws' : List Addr} {v0 v1 v2 v3 v4 v5 : Value} (M : oCon C.l Z n0 EL ws' yn J #[v0, v1, v2, v3, v4, v5] h Q') (hsub : ∀ x ∈ ws', x ∈ ws) (w1 : (Jvm.Cond.methodLink I.own index yn).before a0 Z = true) (w2 : (Jvm.Cond.static yn).before a0 Z = true) (w3 : (Jvm.Cond.initialized yn.cls).before a0 Z = true) (w4 : (Jvm.Cond.code yn J.bytes J.ml J.ret).before a0 Z = true) (hy : yn.cls ≠ "java/lang/invoke/MethodHandle" ∧ yn.cls ≠ "java/lang/invoke/VarHandle")
    (hlen : ∀ sig, parseMethodDescriptor yn.desc = some sig → 6 = sig.parameters.length) (hsz : L.size = I.ml) (hd : decode I.bytes pc = .ok (.invokestatic index, 3)) (hq : pc + 3 = pc') (hf : J.R.frames + 1 ≤ I.R.frames) (hlo : (S.map fun v => v.category).sum + (J.ml + 11) + J.R.locals ≤ I.R.locals) (hc : cs + J.R.cells ≤ I.R.cells) (hs : sl + J.R.slots ≤ I.R.slots)
    (r : ∀ v h', Q' v h' → oRunG C Z n0 I EL ws G h' (cs + J.R.cells) (sl + J.R.slots) (mkF C.m pc' L (oPush v S))) : oRunG C Z n0 I EL ws G h cs sl (mkF C.m pc L (v5 :: v4 :: v3 :: v2 :: v1 :: v0 :: S)) := s_callS (argsL := [v0, v1, v2, v3, v4, v5]) (Q' := fun v h rs => Q' v h ∧ rs = []) M rfl hsub w1 w2 w3 w4 hy hlen hsz hd hq hf hlo hc hs (fun v vm h q => ⟨[], ⟨q, rfl⟩, fun _ hx => nomatch hx⟩) (fun v h' rs q => by obtain ⟨q, rfl⟩ := q; exact r v h' q)
theorem s_callI6 {a0 : Array Value} {index : Nat} {yn : MethodName} {J : OInfo} {Q' : Option Value → Heap → Prop} {a : Addr} {ws' : List Addr} {v0 v1 v2 v3 v4 v5 : Value} (M : oCon C.l Z n0 EL ws' yn J #[.ref a, v0, v1, v2, v3, v4, v5] h Q') (hsub : ∀ x ∈ ws', x ∈ ws) (hr : J.ret = none) (hn : yn.name = "<init>") (w1 : (Jvm.Cond.methodLink I.own index yn).before a0 Z = true) (w2 : (Jvm.Cond.instanceMethod yn).before a0 Z = true) (w3 : (Jvm.Cond.initialized yn.cls).before a0 Z = true) (w4 : (Jvm.Cond.code yn J.bytes J.ml J.ret).before a0 Z = true) (hy : yn.cls ≠ "java/lang/invoke/MethodHandle" ∧ yn.cls ≠ "java/lang/invoke/VarHandle")
    (hlen : ∀ sig, parseMethodDescriptor yn.desc = some sig → 6 = sig.parameters.length) (hsz : L.size = I.ml) (hd : decode I.bytes pc = .ok (.invokespecial index, 3)) (hq : pc + 3 = pc') (hf : J.R.frames + 1 ≤ I.R.frames) (hlo : (S.map fun v => v.category).sum + (J.ml + 11) + J.R.locals ≤ I.R.locals) (hc : cs + J.R.cells ≤ I.R.cells) (hs : sl + J.R.slots ≤ I.R.slots)
    (r : ∀ v h', Q' v h' → oRunG C Z n0 I EL ws G h' (cs + J.R.cells) (sl + J.R.slots) (mkF C.m pc' L (oPush v S))) : oRunG C Z n0 I EL ws G h cs sl (mkF C.m pc L (v5 :: v4 :: v3 :: v2 :: v1 :: v0 :: .ref a :: S)) := s_callI (argsL := [v0, v1, v2, v3, v4, v5]) (Q' := fun v h rs => Q' v h ∧ rs = []) M rfl hsub hr hn w1 w2 w3 w4 hy hlen hsz hd hq hf hlo hc hs (fun v vm h q => ⟨[], ⟨q, rfl⟩, fun _ hx => nomatch hx⟩) (fun v h' rs q => by obtain ⟨q, rfl⟩ := q; exact r v h' q)
theorem s_callV6 {a0 : Array Value} {index : Nat} {yn : MethodName} {J : OInfo} {Q' : Option Value → Heap → Prop} {a : Addr} {Cn : String} {zn : MethodName} {ws' : List Addr} {v0 v1 v2 v3 v4 v5 : Value} (M : oCon C.l Z n0 EL ws' zn J #[.ref a, v0, v1, v2, v3, v4, v5] h Q') (hsub : ∀ x ∈ ws', x ∈ ws) (E : Exa Z h a Cn) (w1 : (Jvm.Cond.methodLink I.own index yn).before a0 Z = true) (w2 : (Jvm.Cond.declares yn).before a0 Z = true) (w5 : (Jvm.Cond.selects Cn yn zn).before a0 Z = true) (w6 : (Jvm.Cond.instanceMethod zn).before a0 Z = true) (nf : ∀ s' : State, Z.Warmed39 s'.vm → NotFace s' yn) (w3 : (Jvm.Cond.initialized zn.cls).before a0 Z = true) (w4 : (Jvm.Cond.code zn J.bytes J.ml J.ret).before a0 Z = true) (hy : yn.cls ≠ "java/lang/invoke/MethodHandle" ∧ yn.cls ≠ "java/lang/invoke/VarHandle")
    (hlen : ∀ sig, parseMethodDescriptor yn.desc = some sig → 6 = sig.parameters.length) (hsz : L.size = I.ml) (hd : decode I.bytes pc = .ok (.invokevirtual index, 3)) (hq : pc + 3 = pc') (hf : J.R.frames + 1 ≤ I.R.frames) (hlo : (S.map fun v => v.category).sum + (J.ml + 11) + J.R.locals ≤ I.R.locals) (hc : cs + J.R.cells ≤ I.R.cells) (hs : sl + J.R.slots ≤ I.R.slots)
    (r : ∀ v h', Q' v h' → oRunG C Z n0 I EL ws G h' (cs + J.R.cells) (sl + J.R.slots) (mkF C.m pc' L (oPush v S))) : oRunG C Z n0 I EL ws G h cs sl (mkF C.m pc L (v5 :: v4 :: v3 :: v2 :: v1 :: v0 :: .ref a :: S)) := s_callV (argsL := [v0, v1, v2, v3, v4, v5]) (Q' := fun v h rs => Q' v h ∧ rs = []) M rfl hsub E w1 w2 w5 w6 nf w3 w4 hy hlen hsz hd hq hf hlo hc hs (fun v vm h q => ⟨[], ⟨q, rfl⟩, fun _ hx => nomatch hx⟩) (fun v h' rs q => by obtain ⟨q, rfl⟩ := q; exact r v h' q)
theorem s_callU6 {a0 : Array Value} {index : Nat} {yn : MethodName} {J : OInfo} {Q' : Option Value → Heap → Prop} {a : Addr} {Kn : String} {ws' : List Addr} {v0 v1 v2 v3 v4 v5 : Value} (M : oCon C.l Z n0 EL ws' yn J #[.ref a, v0, v1, v2, v3, v4, v5] h Q') (hsub : ∀ x ∈ ws', x ∈ ws) (E : Ins Z h a Kn true) (w1 : (Jvm.Cond.methodLink I.own index yn).before a0 Z = true) (w2 : (Jvm.Cond.sameMethod yn.cls yn.cls yn.name yn.desc).before a0 Z = true) (w5 : (Jvm.Cond.superclass I.own yn.cls).before a0 Z = true) (w6 : (Jvm.Cond.instanceMethod yn).before a0 Z = true) (w3 : (Jvm.Cond.initialized yn.cls).before a0 Z = true) (w4 : (Jvm.Cond.code yn J.bytes J.ml J.ret).before a0 Z = true) (hn : yn.name ≠ "<init>")
    (hlen : ∀ sig, parseMethodDescriptor yn.desc = some sig → 6 = sig.parameters.length) (hsz : L.size = I.ml) (hd : decode I.bytes pc = .ok (.invokespecial index, 3)) (hq : pc + 3 = pc') (hf : J.R.frames + 1 ≤ I.R.frames) (hlo : (S.map fun v => v.category).sum + (J.ml + 11) + J.R.locals ≤ I.R.locals) (hc : cs + J.R.cells ≤ I.R.cells) (hs : sl + J.R.slots ≤ I.R.slots)
    (r : ∀ v h', Q' v h' → oRunG C Z n0 I EL ws G h' (cs + J.R.cells) (sl + J.R.slots) (mkF C.m pc' L (oPush v S))) : oRunG C Z n0 I EL ws G h cs sl (mkF C.m pc L (v5 :: v4 :: v3 :: v2 :: v1 :: v0 :: .ref a :: S)) := s_callU (argsL := [v0, v1, v2, v3, v4, v5]) (Q' := fun v h rs => Q' v h ∧ rs = []) M rfl hsub E w1 w2 w5 w6 w3 w4 hn hlen hsz hd hq hf hlo hc hs (fun v vm h q => ⟨[], ⟨q, rfl⟩, fun _ hx => nomatch hx⟩) (fun v h' rs q => by obtain ⟨q, rfl⟩ := q; exact r v h' q)
-- the ends
theorem s_end {v : Option Value} {g : JFrame} (hc : cs ≤ I.R.cells) (hs : sl ≤ I.R.slots) (hv : I.ret = none → v = none) (hQ : ∀ vm, (∀ x ∈ ws, Safe Z EL vm h x ∧ x < h.size) → G v vm h)
    (st : ∀ {s0 : State} T locs fs, oK C s0 Z n0 I T locs cs sl h → (∀ (f : JFrame) (acts : List Action), f.method = C.m → f.locked = none → f.entered = [] → (doReturn C.e (T.setTop f) acts v).1 = T.setFrames fs) → Steps C.p.tables C.e C.below (T.setTop g) (T.setFrames fs)) : oRunG C Z n0 I EL ws G h cs sl g := by
  intro vm0 T locs K V
  have K0 := K
  obtain ⟨X, k1, k2, k3, k4, k5, k6, k7, k8, k9, k10, k11⟩ := K
  obtain ⟨kk, hk1, hk2⟩ := V.2.1
  obtain ⟨fs, hr, hrun, hended, hE⟩ := X.leaveW hk1 (by rw [k9]; exact hk2) (v := v) (fun q => hv (k6.symm.trans q)) k8
  refine ⟨_, _, st T locs fs K0 hr, hrun, hended, v, locs, rfl, ⟨k10, ?_, ?_⟩, ?_, hE.1, hE.2.1, hE.2.2.1, hE.2.2.2.mono hc hs⟩
  · show Old Z n0 T.heap; rw [k9]; exact k11
  · show G v T.vm T.heap; rw [k9]; obtain ⟨a1, hEL⟩ := V.1; exact hQ _ fun x hx => ⟨(CHv.at X k2 hEL V.2.2.1.1).safe (V.2.2.2 x hx).2 (V.2.2.2 x hx).1, (V.2.2.2 x hx).2⟩
  · obtain ⟨a1, hEL⟩ := V.1
    show CHr Z EL C.s.vm C.s.heap T.vm T.heap
    rw [k9]
    exact V.2.2.1.trans (CHv.at X k2 hEL V.2.2.1.1)
-- a String constant, loaded and read
theorem s_ldcS {a0 : Array Value} {idx : Nat} {text : String} {vs : List Value} {z : Int32} (n : Nat) (w : (Jvm.Cond.stringLink I.own idx text).before a0 Z = true) (wS : ∀ d ∈ Bundle.stringAtoms, d.before a0 Z = true) (hEL : EW Z a0 EL) (hmem : (I.own, idx) ∈ EL)
    (ht : (∀ c ∈ text.toList, c.toNat < 256) ∧ text.toList.map (fun c => Value.int (Jvm.Lit.byteI c.toNat.toUInt16)) = vs) (hz : ¬ z < 0) (hl : z.toNatClampNeg = vs.length) (hd : decode I.bytes pc = .ok (.ldc idx, 2)) (hq : pc + 2 = pc') (hn : 4 * text.toList.length ≤ n) (hbig : n ≤ 536870912) (hc : cs + 2 ≤ I.R.cells) (hl' : sl + (n + 4) ≤ I.R.slots)
    (r : ∀ h' a b k, Ext h h' → Exa Z h' a "java/lang/String" → Fld Z h' a "java/lang/String" "coder" "B" (.int 0) → Fld Z h' a "java/lang/String" "value" "[B" (.ref b) → Arv Z h' b k .byte z vs (.int 0) → (∀ x ∈ ws, x ≠ a ∧ x ≠ b) → oRunG C Z n0 I EL ws G h' (cs + 2) (sl + (n + 4)) (mkF C.m pc' L (.ref a :: S))) : oRunG C Z n0 I EL ws G h cs sl (mkF C.m pc L S) := by
  subst hq
  intro vm0 T locs K V
  obtain ⟨X, k1, k2, k3, k4, k5, k6, k7, k8, k9, k10, k11⟩ := K
  obtain ⟨kk, hk1, hk2⟩ := V.2.1
  obtain ⟨a, T', h', kn, b, k, X', e', E, hS, hk', hZ', ho', A1, A2, A3, A4, -, -, hC, -, hsafe, st⟩ := ldcCH X k1 k2 k3 w wS k9 hk1 hk2 hEL hmem V.2.2.1.1 ht hz hl (g := mkF C.m pc L S) rfl (hb k4 hd) hn hbig hc hl'
  have V' := V.step hC ⟨kn, hS, hk'⟩
  obtain ⟨t, o, h1, h2⟩ := r h' a b k E A1 A2 A3 A4 (fun x hx => hsafe x (V'.2.2.2 x hx).1) T'.vm T' _ ⟨X', k1, hZ', ho', k4, k5, k6, k7, k8, e', k10, k11.ext E⟩ V'
  exact ⟨t, o, st t h1, h2⟩
theorem s_ldcO {a0 : Array Value} {idx : Nat} {text : String} (n : Nat) (w : (Jvm.Cond.stringLink I.own idx text).before a0 Z = true) (wS : ∀ d ∈ Bundle.stringAtoms, d.before a0 Z = true) (hEL : EW Z a0 EL)
    (hd : decode I.bytes pc = .ok (.ldc idx, 2)) (hq : pc + 2 = pc') (hn : 4 * text.toList.length ≤ n) (hbig : n ≤ 536870912) (hc : cs + 2 ≤ I.R.cells) (hl' : sl + (n + 4) ≤ I.R.slots)
    (r : ∀ h' a, Ext h h' → oRunG C Z n0 I EL ws G h' (cs + 2) (sl + (n + 4)) (mkF C.m pc' L (.ref a :: S))) : oRunG C Z n0 I EL ws G h cs sl (mkF C.m pc L S) := by
  subst hq
  intro vm0 T locs K V
  obtain ⟨X, k1, k2, k3, k4, k5, k6, k7, k8, k9, k10, k11⟩ := K
  obtain ⟨kk, hk1, hk2⟩ := V.2.1
  obtain ⟨a, T', h', kn, X', e', E, hS, hk', hZ', ho', hC, -, st⟩ := ldcOH X k1 k2 k3 w wS k9 hk1 hk2 hEL V.2.2.1.1 (g := mkF C.m pc L S) rfl (hb k4 hd) hn hbig hc hl'
  have V' := V.step hC ⟨kn, hS, hk'⟩
  obtain ⟨t, o, h1, h2⟩ := r h' a E T'.vm T' _ ⟨X', k1, hZ', ho', k4, k5, k6, k7, k8, e', k10, k11.ext E⟩ V'
  exact ⟨t, o, st t h1, h2⟩
theorem s_weak {ws' : List Addr} {g : JFrame} (q : ∀ x ∈ ws', x ∈ ws) (r : oRunG C Z n0 I EL ws' G h cs sl g) : oRunG C Z n0 I EL ws G h cs sl g := fun vm0 T locs K V => r vm0 T locs K (V.sub q)
theorem s_ret (hr : I.ret = none) (hd : decode I.bytes pc = .ok (.return_, 1)) (hc : cs ≤ I.R.cells) (hs : sl ≤ I.R.slots) (hQ : Q none h) : oRun C Z n0 I EL ws Q h cs sl (mkF C.m pc L []) :=
  s_end hc hs (fun _ => rfl) (fun _ _ => hQ) fun T locs fs K hl => K.1.returnOut K.2.1 (K.2.2.2.2.2.2.1.trans hr) (hb K.2.2.2.2.1 hd) hl
theorem s_iret (hr : I.ret = some .int) (hd : decode I.bytes pc = .ok (.ireturn, 1)) (hc : cs ≤ I.R.cells) (hs : sl ≤ I.R.slots) (hQ : Q (some (.int x)) h) : oRun C Z n0 I EL ws Q h cs sl (mkF C.m pc L (.int x :: S)) :=
  s_end hc hs (fun q => by rw [hr] at q; cases q) (fun _ _ => hQ) fun T locs fs K hl => retI K.1 K.2.1 (K.2.2.2.2.2.2.1.trans hr) (hb K.2.2.2.2.1 hd) hl
theorem s_nret {t : FieldType} (hr : I.ret = some t) (ht : t = .boolean ∨ t = .byte ∨ t = .char ∨ t = .short) (hd : decode I.bytes pc = .ok (.ireturn, 1)) (hc : cs ≤ I.R.cells) (hs : sl ≤ I.R.slots) (hQ : Q (some (.int (nar t x))) h) : oRun C Z n0 I EL ws Q h cs sl (mkF C.m pc L (.int x :: S)) :=
  s_end hc hs (fun q => by rw [hr] at q; cases q) (fun _ _ => hQ) fun T locs fs K hl => retN K.1 K.2.1 (K.2.2.2.2.2.2.1.trans hr) ht (hb K.2.2.2.2.1 hd) hl
theorem s_aret {t : FieldType} {v : Value} (hr : I.ret = some t) (ht : t.isReference = true) (hv : v.isRef = true) (hd : decode I.bytes pc = .ok (.areturn, 1)) (hc : cs ≤ I.R.cells) (hs : sl ≤ I.R.slots) (hQ : Q (some v) h) : oRun C Z n0 I EL ws Q h cs sl (mkF C.m pc L (v :: S)) :=
  s_end hc hs (fun q => by rw [hr] at q; cases q) (fun _ _ => hQ) fun T locs fs K hl => by
    have X := K.1
    have hx := K.2.1
    have hd' := hb K.2.2.2.2.1 hd
    have hret := K.2.2.2.2.2.2.1.trans hr
    have hm' : T.vm.method? C.m = some C.meth := X.method'
    show Steps C.p.tables C.e C.below (T.setTop { method := C.m, pc := pc, locals := L, stack := v :: S, locked := none }) _
    jvm_step X.here [X.here.top, hx, hd', hm', hret, hv, ht]
    first | (intro acts; rw [hl _ acts rfl rfl rfl]) | rw [hl _ _ rfl rfl rfl]
    exact Steps.refl _
theorem s_retR {Qr : Option Value → Heap → List Addr → Prop} (hr : I.ret = none) (hd : decode I.bytes pc = .ok (.return_, 1)) (hc : cs ≤ I.R.cells) (hs : sl ≤ I.R.slots) (rs : List Addr) (hrs : ∀ x ∈ rs, x ∈ ws) (hQ : Qr none h rs) : oRunG C Z n0 I EL ws (oR Z EL Qr) h cs sl (mkF C.m pc L []) :=
  s_end hc hs (fun _ => rfl) (fun _ q => ⟨rs, hQ, fun x hx => q x (hrs x hx)⟩) fun T locs fs K hl => K.1.returnOut K.2.1 (K.2.2.2.2.2.2.1.trans hr) (hb K.2.2.2.2.1 hd) hl
theorem s_aretR {Qr : Option Value → Heap → List Addr → Prop} {t : FieldType} {v : Value} (hr : I.ret = some t) (ht : t.isReference = true) (hv : v.isRef = true) (hd : decode I.bytes pc = .ok (.areturn, 1)) (hc : cs ≤ I.R.cells) (hs : sl ≤ I.R.slots) (rs : List Addr) (hrs : ∀ x ∈ rs, x ∈ ws) (hQ : Qr (some v) h rs) : oRunG C Z n0 I EL ws (oR Z EL Qr) h cs sl (mkF C.m pc L (v :: S)) :=
  s_end hc hs (fun q => by rw [hr] at q; cases q) (fun _ q => ⟨rs, hQ, fun x hx => q x (hrs x hx)⟩) fun T locs fs K hl => by
    have X := K.1
    have hx := K.2.1
    have hd' := hb K.2.2.2.2.1 hd
    have hret := K.2.2.2.2.2.2.1.trans hr
    have hm' : T.vm.method? C.m = some C.meth := X.method'
    show Steps C.p.tables C.e C.below (T.setTop { method := C.m, pc := pc, locals := L, stack := v :: S, locked := none }) _
    jvm_step X.here [X.here.top, hx, hd', hm', hret, hv, ht]
    first | (intro acts; rw [hl _ acts rfl rfl rfl]) | rw [hl _ _ rfl rfl rfl]
    exact Steps.refl _
end OwnCore
-- OWN: Strings of Latin-1 chars
abbrev byt (c : Int32) : Int32 := c.toInt8.toInt32
def Ch (cs : List Int32) : Prop := ∀ c ∈ cs, ¬ c < 0 ∧ ¬ (255 : Int32) < c
theorem o_lt {x y : Int32} : x < y ↔ x.toInt < y.toInt := Int32.lt_iff_toInt_lt
theorem o_eq {x y : Int32} : x = y ↔ x.toInt = y.toInt := ⟨fun h => by rw [h], Int32.toInt_inj.mp⟩
theorem byt_byt (c : Int32) : nar .byte (byt c) = byt c := by show (c.toInt8.toInt32).toInt8.toInt32 = _; rw [Int8.toInt8_toInt32]
theorem c_byt {c : Int32} (h : ¬ c < 0 ∧ ¬ (255 : Int32) < c) : (byt c).toInt = if c.toInt < 128 then c.toInt else c.toInt - 256 := by
  have q := c_i2b c
  have h1 : ¬ c.toInt < (0 : Int32).toInt := fun z => h.1 (o_lt.mpr z)
  have h2 : ¬ (255 : Int32).toInt < c.toInt := fun z => h.2 (o_lt.mpr z)
  have e1 : (0 : Int32).toInt = 0 := rfl
  have e2 : (255 : Int32).toInt = 255 := rfl
  rw [e1] at h1; rw [e2] at h2
  show c.toInt8.toInt32.toInt = _
  split <;> omega
theorem byt_inj {c d : Int32} (hc : ¬ c < 0 ∧ ¬ (255 : Int32) < c) (hd : ¬ d < 0 ∧ ¬ (255 : Int32) < d) (h : byt c = byt d) : c = d := by
  have h' : (byt c).toInt = (byt d).toInt := by rw [h]
  rw [c_byt hc, c_byt hd] at h'
  have h1 : ¬ c.toInt < (0 : Int32).toInt := fun z => hc.1 (o_lt.mpr z)
  have h2 : ¬ (255 : Int32).toInt < c.toInt := fun z => hc.2 (o_lt.mpr z)
  have h3 : ¬ d.toInt < (0 : Int32).toInt := fun z => hd.1 (o_lt.mpr z)
  have h4 : ¬ (255 : Int32).toInt < d.toInt := fun z => hd.2 (o_lt.mpr z)
  have e1 : (0 : Int32).toInt = 0 := rfl
  have e2 : (255 : Int32).toInt = 255 := rfl
  rw [e1] at h1 h3; rw [e2] at h2 h4
  rw [o_eq]
  split at h' <;> split at h' <;> omega
theorem byt_and {c : Int32} (h : ¬ c < 0 ∧ ¬ (255 : Int32) < c) : (byt c) &&& (255 : Int32) = c := by
  rw [o_eq]
  have q := c_mask (byt c) 255 8 (by decide) (by decide)
  rw [q, c_byt h]
  have h1 : ¬ c.toInt < (0 : Int32).toInt := fun z => h.1 (o_lt.mpr z)
  have h2 : ¬ (255 : Int32).toInt < c.toInt := fun z => h.2 (o_lt.mpr z)
  have e1 : (0 : Int32).toInt = 0 := rfl
  have e2 : (255 : Int32).toInt = 255 := rfl
  rw [e1] at h1; rw [e2] at h2
  split <;> omega
theorem nn {i : Nat} (hi : i < 2147483648) : ¬ Int32.ofNat i < 0 := Int32.ofNat_not_neg (by omega)
theorem cl {i : Nat} (hi : i < 2147483648) : (Int32.ofNat i).toNatClampNeg = i := Jvm.Free.XT.n32 (by omega)
theorem lt' {a b : Nat} (hb : b < 2147483648) (h : a < b) : Int32.ofNat a < Int32.ofNat b := Jvm.Free.XT.lt32 (by omega) h
theorem nlt' {a b : Nat} (ha : a < 2147483648) (h : b ≤ a) : ¬ Int32.ofNat a < Int32.ofNat b := Jvm.Free.XT.nlt32 (by omega) h
theorem n_succ (i : Nat) : Int32.ofNat i + 1 = Int32.ofNat (i + 1) := Jvm.Free.XT.succ32 i
theorem n_inj {a b : Nat} (ha : a < 2147483648) (hb : b < 2147483648) (h : Int32.ofNat a = Int32.ofNat b) : a = b := by
  have := congrArg Int32.toNatClampNeg h; rwa [cl ha, cl hb] at this
def SV (Z : State) (h : Heap) (N : Nat) (a : Addr) (cs : List Int32) : Prop := ∃ b k, a < N ∧ b < N ∧ Exa Z h a "java/lang/String" ∧ Fld Z h a "java/lang/String" "coder" "B" (.int 0) ∧ Fld Z h a "java/lang/String" "value" "[B" (.ref b) ∧ Arv Z h b k .byte (Int32.ofNat cs.length) (cs.map fun c => Value.int (byt c)) (.int 0)
theorem SV.ext {Z : State} {h h' : Heap} {N : Nat} {a : Addr} {cs : List Int32} (F : SV Z h N a cs) (E : Ext h h') : SV Z h' N a cs := by
  obtain ⟨b, k, h1, h2, h3, h4, h5, h6⟩ := F; exact ⟨b, k, h1, h2, h3.ext E, h4.ext E, h5.ext E, h6.ext E⟩
theorem SV.keep {Z : State} {h h' : Heap} {N : Nat} {a : Addr} {cs : List Int32} {ws : List Addr} (F : SV Z h N a cs) (K : Keep h h' ws) (q : ∀ x ∈ ws, N ≤ x) : SV Z h' N a cs := by
  obtain ⟨b, k, h1, h2, h3, h4, h5, h6⟩ := F
  have na : a ∉ ws := fun z => absurd (q a z) (Nat.not_le.mpr h1)
  have nb : b ∉ ws := fun z => absurd (q b z) (Nat.not_le.mpr h2)
  exact ⟨b, k, h1, h2, h3.keep K, h4.keep K na, h5.keep K na, h6.keep K nb⟩
theorem SV.wr {Z : State} {h h' : Heap} {N : Nat} {a x : Addr} {cs : List Int32} {sl : Nat} {v : Value} (F : SV Z h N a cs) (W : Wr h h' x sl v) (q : N ≤ x) : SV Z h' N a cs := F.keep (Keep.of_wr W) (allS q all0)
theorem SV.mono {Z : State} {h : Heap} {N M : Nat} {a : Addr} {cs : List Int32} (F : SV Z h N a cs) (q : N ≤ M) : SV Z h M a cs := by
  obtain ⟨b, k, h1, h2, r⟩ := F; exact ⟨b, k, Nat.lt_of_lt_of_le h1 q, Nat.lt_of_lt_of_le h2 q, r⟩
theorem SV.exa {Z : State} {h : Heap} {N : Nat} {a : Addr} {cs : List Int32} (F : SV Z h N a cs) : Exa Z h a "java/lang/String" := by obtain ⟨b, k, h1, h2, h3, -⟩ := F; exact h3
theorem SV.lt {Z : State} {h : Heap} {N : Nat} {a : Addr} {cs : List Int32} (F : SV Z h N a cs) : a < N := by obtain ⟨b, k, h1, -⟩ := F; exact h1
theorem o_extKeep {h0 h1 h : Heap} {ws : List Addr} (E : Ext h0 h1) (K : Keep h1 h ws) (q : ∀ x ∈ ws, h0.size ≤ x) : Ext h0 h :=
  ⟨Nat.le_trans E.1 K.1, fun a c hc => K.2.1 a c (E.2 a c hc) fun z => absurd (Array.getElem?_eq_some_iff.mp hc).1 (Nat.not_lt.mpr (q a z))⟩
theorem o_ext {h0 h1 h2 : Heap} (E : Ext h0 h1) (E' : Ext h1 h2) : Ext h0 h2 := ⟨Nat.le_trans E.1 E'.1, fun a c hc => E'.2 a c (E.2 a c hc)⟩
theorem o_kext {h0 h1 h : Heap} {ws : List Addr} (E : Ext h0 h1) (K : Keep h1 h ws) : Keep h0 h ws := (((Keep.refl h0 ws).ext E).trans K fun x hx => Or.inl hx)
def bv (cs : List Int32) (j : Nat) : List Value := (cs.take j).map (fun c => Value.int (byt c)) ++ List.replicate (cs.length - j) (.int 0)
theorem bv_len (cs : List Int32) {j : Nat} (hj : j ≤ cs.length) : (bv cs j).length = cs.length := by simp [bv]; omega
theorem bv_set {cs : List Int32} {j : Nat} {c : Int32} (hc : cs[j]? = some c) : (bv cs j).set j (.int (byt c)) = bv cs (j + 1) := by
  obtain ⟨hj, -⟩ := List.getElem?_eq_some_iff.mp hc
  have e : List.replicate (cs.length - j) (Value.int 0) = .int 0 :: List.replicate (cs.length - (j + 1)) (.int 0) := by
    rw [show cs.length - j = (cs.length - (j + 1)) + 1 by omega, List.replicate_succ]
  have el : ((cs.take j).map fun c => Value.int (byt c)).length = j := by simp; omega
  unfold bv
  rw [e, List.set_append_right _ _ (by omega), el, Nat.sub_self, List.set_cons_zero, List.take_add_one, hc]
  simp
theorem bv_end (cs : List Int32) : bv cs cs.length = cs.map fun c => Value.int (byt c) := by simp [bv]
theorem cs_get {cs : List Int32} {j : Nat} {c : Int32} (hc : cs[j]? = some c) (d : Value) : (cs.map Value.int).getD j d = .int c := by
  rw [List.getD_eq_getElem?_getD, List.getElem?_map, hc]; rfl
theorem bs_get {cs : List Int32} {j : Nat} {c : Int32} (hc : cs[j]? = some c) (d : Value) : (cs.map fun c => Value.int (byt c)).getD j d = .int (byt c) := by
  rw [List.getD_eq_getElem?_getD, List.getElem?_map, hc]; rfl
theorem nar_ch {c : Int32} (h : ¬ c < 0 ∧ ¬ (255 : Int32) < c) : nar .char c = c := by
  rw [o_eq]; have q := c_i2c c
  have h1 : ¬ c.toInt < (0 : Int32).toInt := fun z => h.1 (o_lt.mpr z)
  have h2 : ¬ (255 : Int32).toInt < c.toInt := fun z => h.2 (o_lt.mpr z)
  have e1 : (0 : Int32).toInt = 0 := rfl
  have e2 : (255 : Int32).toInt = 255 := rfl
  rw [e1] at h1; rw [e2] at h2
  show c.toUInt32.toUInt16.toUInt32.toInt32.toInt = _; omega
theorem r_and (x : Int32) : ¬ (x &&& 255) < 0 ∧ ¬ (255 : Int32) < (x &&& 255) := by
  have h1 := c_and x 255 (by decide)
  have e2 : (255 : Int32).toInt = 255 := rfl
  have e1 : (0 : Int32).toInt = 0 := rfl
  rw [o_lt, o_lt, e1, e2]; rw [e2] at h1; omega
theorem r_nat {c : Int32} : (¬ c < 0 ∧ ¬ (255 : Int32) < c) ↔ c.toBitVec.toNat < 256 := by
  have e2 : (255 : Int32).toInt = 255 := rfl
  have e1 : (0 : Int32).toInt = 0 := rfl
  rw [o_lt, o_lt, e1, e2]
  have q : c.toInt = c.toBitVec.toInt := rfl
  rw [q, BitVec.toInt_eq_toNat_cond]
  have := c.toBitVec.isLt
  split <;> omega
theorem r_xor {x y : Int32} (hx : ¬ x < 0 ∧ ¬ (255 : Int32) < x) (hy : ¬ y < 0 ∧ ¬ (255 : Int32) < y) : ¬ (x ^^^ y) < 0 ∧ ¬ (255 : Int32) < (x ^^^ y) := by
  rw [r_nat] at *
  rw [Int32.toBitVec_xor, BitVec.toNat_xor]
  exact Nat.xor_lt_two_pow (n := 8) hx hy
theorem i2c_ch {c : Int32} (h : ¬ c < 0 ∧ ¬ (255 : Int32) < c) : c.toUInt32.toUInt16.toUInt32.toInt32 = c := nar_ch h
def EL1 : List (String × Nat) := [("com/example/typeloom/typeloom/ttcn/ConstantDefinition", 22), ("com/example/typeloom/typeloom/ttcn/ConstantDefinition", 28), ("com/example/typeloom/typeloom/ttcn/ConstantDefinition", 30), ("com/example/typeloom/typeloom/ttcn/ConstantDefinition", 32), ("com/example/typeloom/typeloom/ttcn/ConstantDefinitionTextPinLaw", 36)]
def OG (Z : State) (a0 : Array Value) : Prop := (∀ d ∈ tables_1, d.before a0 Z = true) ∧ EW Z a0 EL1 ∧ (∃ cmp : Int32, Sta Z Z.heap "java/lang/String" "COMPACT_STRINGS" "Z" (.int cmp) ∧ ¬ cmp = 0) ∧ (∃ fm : Value, fm.isRef = true ∧ Sta Z Z.heap "jdk/internal/util/Preconditions" "SIOOBE_FORMATTER" "Ljava/util/function/BiFunction;" fm)
theorem o_wS {Z : State} {a0 : Array Value} (hw : ∀ d ∈ tables_1, d.before a0 Z = true) : ∀ d ∈ Bundle.stringAtoms, d.before a0 Z = true := by
  intro d hd
  simp only [Bundle.stringAtoms, List.mem_cons, List.not_mem_nil, or_false] at hd
  rcases hd with rfl | rfl | rfl | rfl | rfl | rfl | rfl
  · exact (hw _ (List.mem_of_getElem? (i := 6) rfl))
  · exact (hw _ (List.mem_of_getElem? (i := 14) rfl))
  · exact (hw _ (List.mem_of_getElem? (i := 18) rfl))
  · exact (hw _ (List.mem_of_getElem? (i := 27) rfl))
  · exact (hw _ (List.mem_of_getElem? (i := 29) rfl))
  · exact (hw _ (List.mem_of_getElem? (i := 31) rfl))
  · exact (hw _ (List.mem_of_getElem? (i := 32) rfl))
def icB : OInfo := ("java/lang/StringUTF16", jdk_52_method_21_code, 7, (some .int), "compress", ({ frames := 0, cells := 0, slots := 0, locals := 0 } : Room))
theorem efcB (x0 : Addr) (x1 : Int32) (x2 : Addr) (x3 : Int32) (x4 : Int32) (m : MethodId) : entryFrame m #[(.ref x0), (.int x1), (.ref x2), (.int x3), (.int x4)] 7 = mkF m 0 #[.val (.ref x0), .val (.int x1), .val (.ref x2), .val (.int x3), .val (.int x4), .unset, .unset] [] := by first | (simp [entryFrame, mkF, argsToLocals, Value.category]; done) | rfl
theorem pdcB : parseMethodDescriptor "([CI[BII)I" = some ⟨[(.array .char), .int, (.array .byte), .int, .int], some .int⟩ := by decide +kernel
theorem pncB : plainFor (⟨"java/lang/StringUTF16", "compress", "([CI[BII)I"⟩ : MethodName) = true := by decide +kernel
theorem dcB_0 : decode jdk_52_method_21_code 0 = .ok (.iconst 0, 1) := by decide +kernel
theorem dcB_1 : decode jdk_52_method_21_code 1 = .ok (.istore 5, 2) := by decide +kernel
theorem dcB_3 : decode jdk_52_method_21_code 3 = .ok (.iload 5, 2) := by decide +kernel
theorem dcB_5 : decode jdk_52_method_21_code 5 = .ok (.iload 4, 2) := by decide +kernel
theorem dcB_7 : decode jdk_52_method_21_code 7 = .ok (.if_icmp .ge 37, 3) := by decide +kernel
theorem dcB_10 : decode jdk_52_method_21_code 10 = .ok (.aload_n 0, 1) := by decide +kernel
theorem dcB_11 : decode jdk_52_method_21_code 11 = .ok (.iload_n 1, 1) := by decide +kernel
theorem dcB_12 : decode jdk_52_method_21_code 12 = .ok (.caload, 1) := by decide +kernel
theorem dcB_13 : decode jdk_52_method_21_code 13 = .ok (.istore 6, 2) := by decide +kernel
theorem dcB_15 : decode jdk_52_method_21_code 15 = .ok (.iload 6, 2) := by decide +kernel
theorem dcB_17 : decode jdk_52_method_21_code 17 = .ok (.sipush 255, 3) := by decide +kernel
theorem dcB_20 : decode jdk_52_method_21_code 20 = .ok (.if_icmp .le 6, 3) := by decide +kernel
theorem dcB_26 : decode jdk_52_method_21_code 26 = .ok (.aload_n 2, 1) := by decide +kernel
theorem dcB_27 : decode jdk_52_method_21_code 27 = .ok (.iload_n 3, 1) := by decide +kernel
theorem dcB_28 : decode jdk_52_method_21_code 28 = .ok (.iload 6, 2) := by decide +kernel
theorem dcB_30 : decode jdk_52_method_21_code 30 = .ok (.i2b, 1) := by decide +kernel
theorem dcB_31 : decode jdk_52_method_21_code 31 = .ok (.bastore, 1) := by decide +kernel
theorem dcB_32 : decode jdk_52_method_21_code 32 = .ok (.iinc 1 1, 3) := by decide +kernel
theorem dcB_35 : decode jdk_52_method_21_code 35 = .ok (.iinc 3 1, 3) := by decide +kernel
theorem dcB_38 : decode jdk_52_method_21_code 38 = .ok (.iinc 5 1, 3) := by decide +kernel
theorem dcB_41 : decode jdk_52_method_21_code 41 = .ok (.goto (-38), 3) := by decide +kernel
theorem dcB_44 : decode jdk_52_method_21_code 44 = .ok (.iload 4, 2) := by decide +kernel
theorem dcB_46 : decode jdk_52_method_21_code 46 = .ok (.ireturn, 1) := by decide +kernel
set_option maxRecDepth 65536 in
set_option maxHeartbeats 4000000 in
theorem cBloop {C : OCtx} {Z : State} {n0 : Nat} {ws : List Addr} {Q : Option Value → Heap → Prop} {h0 : Heap} {c d : Addr} {kc kd : ClassId} {cs : List Int32} {dv : Value} (hb : cs.length < 2147483648) (hch : Ch cs) (gd : n0 ≤ d) (hd : d ∈ ws) (hcd : c ≠ d)
    (fin : ∀ h, Keep h0 h [d] → Arv Z h d kd .byte (Int32.ofNat cs.length) (cs.map fun c => Value.int (byt c)) (.int 0) → Q (some (.int (Int32.ofNat cs.length))) h) (k : Nat) :
    ∀ (h : Heap) (j : Nat) (s6 : Slot), j ≤ cs.length → cs.length - j = k → Keep h0 h [d] → Arv Z h c kc .char (Int32.ofNat cs.length) (cs.map .int) dv → Arv Z h d kd .byte (Int32.ofNat cs.length) (bv cs j) (.int 0) → One s6 →
    oRun C Z n0 icB EL1 ws Q h 0 0 (mkF C.m 3 #[.val (.ref c), .val (.int (Int32.ofNat j)), .val (.ref d), .val (.int (Int32.ofNat j)), .val (.int (Int32.ofNat cs.length)), .val (.int (Int32.ofNat j)), s6] []) := by
  induction k using Nat.strongRecOn with
  | _ k ih =>
  intro h j s6 hj hk K A D hs6
  subst hk
  refine s_iload (pc' := 5) dcB_3 rfl rfl ?_
  refine s_iload (pc' := 7) dcB_5 rfl rfl ?_
  refine s_icmp (pc' := 10) (pc'' := 44) dcB_7 rfl (by decide) rfl (fun hc7 => ?_) (fun hc7 => ?_)
  · replace hc7 := b_ge hc7
    obtain rfl : j = cs.length := by
      by_cases q : j < cs.length
      · exact absurd (lt' hb q) hc7
      · omega
    rw [bv_end] at D
    refine s_iload (pc' := 46) dcB_44 rfl rfl ?_
    exact s_iret rfl dcB_46 (by decide) (by decide) (fin _ K D)
  · replace hc7 := b_geF hc7
    have hj2 : j < cs.length := by
      by_cases q : j < cs.length
      · exact q
      · exact absurd hc7 (nlt' (by omega) (by omega))
    obtain ⟨z, hz⟩ : ∃ z, cs[j]? = some z := ⟨cs[j], List.getElem?_eq_getElem hj2⟩
    have hzr := hch z (List.mem_of_getElem? hz)
    refine s_aloadN (pc' := 11) dcB_10 rfl rfl rfl ?_
    refine s_iloadN (pc' := 12) dcB_11 rfl rfl ?_
    refine s_caload A (nn (by omega)) (lt' hb hj2) (v := .int z) (by rw [cl (by omega)]; exact cs_get hz _) (pc' := 13) dcB_12 rfl ?_
    refine s_istore (pc' := 15) dcB_13 rfl (o_st rfl (by first | exact One.u | exact One.val rfl | assumption) rfl) ?_
    dsimp only [List.set_cons_succ, List.set_cons_zero]
    refine s_iload (pc' := 17) dcB_15 rfl rfl ?_
    refine s_sipush (x := (255 : Int32)) (pc' := 20) dcB_17 rfl rfl ?_
    refine s_icmp (pc' := 23) (pc'' := 26) dcB_20 rfl (by decide) rfl (fun hc20 => ?_) (fun hc20 => ?_)
    · replace hc20 := b_le hc20
      refine s_aloadN (pc' := 27) dcB_26 rfl rfl rfl ?_
      refine s_iloadN (pc' := 28) dcB_27 rfl rfl ?_
      refine s_iload (pc' := 30) dcB_28 rfl rfl ?_
      refine s_i2b (pc' := 31) dcB_30 rfl ?_
      refine s_bastore D gd hd (nn (by omega)) (lt' hb hj2) j (cl (by omega)) (by rw [bv_len _ hj]; omega) (pc' := 32) dcB_31 rfl (fun h31 W31 D31 => ?_)
      rw [byt_byt, bv_set hz] at D31
      refine s_iinc (y := (1 : Int32)) (pc' := 35) dcB_32 rfl rfl rfl (o_st rfl (by first | exact One.u | exact One.val rfl | assumption) rfl) ?_
      dsimp only [List.set_cons_succ, List.set_cons_zero]
      rw [n_succ]
      refine s_iinc (y := (1 : Int32)) (pc' := 38) dcB_35 rfl rfl rfl (o_st rfl (by first | exact One.u | exact One.val rfl | assumption) rfl) ?_
      dsimp only [List.set_cons_succ, List.set_cons_zero]
      rw [n_succ]
      refine s_iinc (y := (1 : Int32)) (pc' := 41) dcB_38 rfl rfl rfl (o_st rfl (by first | exact One.u | exact One.val rfl | assumption) rfl) ?_
      dsimp only [List.set_cons_succ, List.set_cons_zero]
      rw [n_succ]
      refine s_goto (pc' := 3) dcB_41 (by decide) rfl ?_
      exact ih (cs.length - (j + 1)) (by omega) h31 (j + 1) _ (by omega) rfl (K.wr W31 (Or.inl (List.mem_cons_self ..))) (A.other W31 hcd) D31 (One.val rfl)
    · replace hc20 := b_leF hc20
      exact absurd hc20 hzr.2
set_option maxRecDepth 65536 in
set_option maxHeartbeats 4000000 in
theorem rmcB (l : Launch) {Z : State} {a0 : Array Value} (G : OG Z a0) (n0 : Nat) (c d : Addr) (kc kd : ClassId) (cs : List Int32) (dv : Value) (h0 : Heap) (hb : cs.length < 2147483648) (hch : Ch cs) (gd : n0 ≤ d) (hcd : c ≠ d) (A : Arv Z h0 c kc .char (Int32.ofNat cs.length) (cs.map .int) dv) (D : Arv Z h0 d kd .byte (Int32.ofNat cs.length) (List.replicate cs.length (.int 0)) (.int 0)) : oCon l Z n0 EL1 [d] (⟨"java/lang/StringUTF16", "compress", "([CI[BII)I"⟩ : MethodName) icB #[.ref c, .int 0, .ref d, .int 0, .int (Int32.ofNat cs.length)] h0 (fun v h => v = some (.int (Int32.ofNat cs.length)) ∧ Keep h0 h [d] ∧ Arv Z h d kd .byte (Int32.ofNat cs.length) (cs.map fun c => Value.int (byt c)) (.int 0)) := by
  obtain ⟨hw, hEL, ⟨cmp, hC, hc0⟩, ⟨fm, hfm, hF⟩⟩ := id G
  refine oCon.mk hEL pncB rfl rfl (efcB c 0 d 0 _) fun C hCl => ?_
  refine s_iconst (x := (0 : Int32)) (pc' := 1) dcB_0 rfl rfl ?_
  refine s_istore (pc' := 3) dcB_1 rfl (o_st rfl (by first | exact One.u | exact One.val rfl | assumption) rfl) ?_
  dsimp only [List.set_cons_succ, List.set_cons_zero]
  exact cBloop hb hch gd (List.mem_cons_self ..) hcd (fun h K D => ⟨rfl, K, D⟩) cs.length h0 0 _ (Nat.zero_le _) rfl (Keep.refl _ _) A (by simpa [bv] using D) One.u
def icA : OInfo := ("java/lang/StringUTF16", jdk_52_method_16_code, 6, (some (.array .byte)), "compress", ({ frames := 1, cells := 1, slots := 2, locals := 18 } : Room))
theorem efcA (x0 : Addr) (x1 : Int32) (x2 : Int32) (m : MethodId) : entryFrame m #[(.ref x0), (.int x1), (.int x2)] 6 = mkF m 0 #[.val (.ref x0), .val (.int x1), .val (.int x2), .unset, .unset, .unset] [] := by first | (simp [entryFrame, mkF, argsToLocals, Value.category]; done) | rfl
theorem pdcA : parseMethodDescriptor "([CII)[B" = some ⟨[(.array .char), .int, .int], some (.array .byte)⟩ := by decide +kernel
theorem pncA : plainFor (⟨"java/lang/StringUTF16", "compress", "([CII)[B"⟩ : MethodName) = true := by decide +kernel
theorem dcA_0 : decode jdk_52_method_16_code 0 = .ok (.iload_n 2, 1) := by decide +kernel
theorem dcA_1 : decode jdk_52_method_16_code 1 = .ok (.newarray .byte, 2) := by decide +kernel
theorem dcA_3 : decode jdk_52_method_16_code 3 = .ok (.astore_n 3, 1) := by decide +kernel
theorem dcA_4 : decode jdk_52_method_16_code 4 = .ok (.aload_n 0, 1) := by decide +kernel
theorem dcA_5 : decode jdk_52_method_16_code 5 = .ok (.iload_n 1, 1) := by decide +kernel
theorem dcA_6 : decode jdk_52_method_16_code 6 = .ok (.aload_n 3, 1) := by decide +kernel
theorem dcA_7 : decode jdk_52_method_16_code 7 = .ok (.iconst 0, 1) := by decide +kernel
theorem dcA_8 : decode jdk_52_method_16_code 8 = .ok (.iload_n 2, 1) := by decide +kernel
theorem dcA_9 : decode jdk_52_method_16_code 9 = .ok (.invokestatic 115, 3) := by decide +kernel
theorem dcA_12 : decode jdk_52_method_16_code 12 = .ok (.istore 4, 2) := by decide +kernel
theorem dcA_14 : decode jdk_52_method_16_code 14 = .ok (.iload 4, 2) := by decide +kernel
theorem dcA_16 : decode jdk_52_method_16_code 16 = .ok (.iload_n 2, 1) := by decide +kernel
theorem dcA_17 : decode jdk_52_method_16_code 17 = .ok (.if_icmp .eq 40, 3) := by decide +kernel
theorem dcA_57 : decode jdk_52_method_16_code 57 = .ok (.aload_n 3, 1) := by decide +kernel
theorem dcA_58 : decode jdk_52_method_16_code 58 = .ok (.areturn, 1) := by decide +kernel
set_option maxRecDepth 65536 in
set_option maxHeartbeats 4000000 in
theorem rmcA (l : Launch) {Z : State} {a0 : Array Value} (G : OG Z a0) (n0 : Nat) (c : Addr) (kc : ClassId) (cs : List Int32) (dv : Value) (h0 : Heap) (hcap : cs.length ≤ 2) (hch : Ch cs) (A : Arv Z h0 c kc .char (Int32.ofNat cs.length) (cs.map .int) dv) : oCon l Z n0 EL1 [] (⟨"java/lang/StringUTF16", "compress", "([CII)[B"⟩ : MethodName) icA #[.ref c, .int 0, .int (Int32.ofNat cs.length)] h0 (fun v h => ∃ d k, v = some (.ref d) ∧ h0.size ≤ d ∧ Ext h0 h ∧ Arv Z h d k .byte (Int32.ofNat cs.length) (cs.map fun c => Value.int (byt c)) (.int 0)) := by
  obtain ⟨hw, hEL, ⟨cmp, hC, hc0⟩, ⟨fm, hfm, hF⟩⟩ := id G
  refine oCon.mk hEL pncA rfl rfl (efcA c 0 _) fun C hCl => ?_
  refine s_iloadN (pc' := 1) dcA_0 rfl rfl ?_
  refine s_newA 2 (hw _ (List.mem_of_getElem? (i := 18) rfl)) (pc' := 3) dcA_1 rfl (nn (by omega)) (by rw [cl (by omega)]; exact hcap) (by decide) (Nat.le_of_ble_eq_true rfl) (Nat.le_of_ble_eq_true rfl) (fun h1 b1 k1 g1 nb1 E1 A1 => ?_)
  have hcd : c ≠ b1 := o_fresh A.lt g1
  refine s_astoreN (kn := 3) rfl (pc' := 4) dcA_3 rfl rfl (o_st rfl (by first | exact One.u | exact One.val rfl | assumption) rfl) ?_
  dsimp only [List.set_cons_succ, List.set_cons_zero]
  refine s_aloadN (pc' := 5) dcA_4 rfl rfl rfl ?_
  refine s_iloadN (pc' := 6) dcA_5 rfl rfl ?_
  refine s_aloadN (pc' := 7) dcA_6 rfl rfl rfl ?_
  refine s_iconst (x := (0 : Int32)) (pc' := 8) dcA_7 rfl rfl ?_
  refine s_iloadN (pc' := 9) dcA_8 rfl rfl ?_
  refine s_callS5 (rmcB C.l G n0 c b1 kc k1 cs dv h1 (by omega) hch nb1 hcd (A.ext E1) (by have q := o_padTo A1 cs.length; rw [List.nil_append] at q; exact q)) (by simp) (hw _ (List.mem_of_getElem? (i := 212) rfl)) (hw _ (List.mem_of_getElem? (i := 213) rfl)) (hw _ (List.mem_of_getElem? (i := 210) rfl)) (hw _ (List.mem_of_getElem? (i := 214) rfl)) (by decide) (o_len pdcB rfl) rfl (pc' := 12) dcA_9 rfl (Nat.le_of_ble_eq_true rfl) (Nat.le_of_ble_eq_true rfl) (Nat.le_of_ble_eq_true rfl) (Nat.le_of_ble_eq_true rfl) (fun v9 h9 hQ9 => ?_)
  obtain ⟨rfl, K9, D9⟩ := hQ9
  dsimp only [oPush]
  refine s_istore (pc' := 14) dcA_12 rfl (o_st rfl (by first | exact One.u | exact One.val rfl | assumption) rfl) ?_
  dsimp only [List.set_cons_succ, List.set_cons_zero]
  refine s_iload (pc' := 16) dcA_14 rfl rfl ?_
  refine s_iloadN (pc' := 17) dcA_16 rfl rfl ?_
  refine s_icmp (pc' := 20) (pc'' := 57) dcA_17 rfl (by decide) rfl (fun hc17 => ?_) (fun hc17 => ?_)
  · replace hc17 := b_eq hc17
    refine s_aloadN (pc' := 58) dcA_57 rfl rfl rfl ?_
    exact s_aret rfl rfl rfl dcA_58 (by decide) (by decide) ⟨b1, k1, rfl, Nat.le_of_eq g1.symm, o_extKeep E1 K9 (allS (Nat.le_of_eq g1.symm) all0), D9⟩
  · replace hc17 := b_eqF hc17
    exact absurd rfl hc17
def icF : OInfo := ("java/lang/StringUTF16", jdk_52_method_15_code, 2, (some .byte), "coderFromArrayLen", ({ frames := 0, cells := 0, slots := 0, locals := 0 } : Room))
theorem efcF (x0 : Addr) (x1 : Int32) (m : MethodId) : entryFrame m #[(.ref x0), (.int x1)] 2 = mkF m 0 #[.val (.ref x0), .val (.int x1)] [] := by first | (simp [entryFrame, mkF, argsToLocals, Value.category]; done) | rfl
theorem pdcF : parseMethodDescriptor "([BI)B" = some ⟨[(.array .byte), .int], some .byte⟩ := by decide +kernel
theorem pncF : plainFor (⟨"java/lang/StringUTF16", "coderFromArrayLen", "([BI)B"⟩ : MethodName) = true := by decide +kernel
theorem dcF_0 : decode jdk_52_method_15_code 0 = .ok (.iload_n 1, 1) := by decide +kernel
theorem dcF_1 : decode jdk_52_method_15_code 1 = .ok (.aload_n 0, 1) := by decide +kernel
theorem dcF_2 : decode jdk_52_method_15_code 2 = .ok (.arraylength, 1) := by decide +kernel
theorem dcF_3 : decode jdk_52_method_15_code 3 = .ok (.isub, 1) := by decide +kernel
theorem dcF_4 : decode jdk_52_method_15_code 4 = .ok (.bipush 31, 2) := by decide +kernel
theorem dcF_6 : decode jdk_52_method_15_code 6 = .ok (.iushr, 1) := by decide +kernel
theorem dcF_7 : decode jdk_52_method_15_code 7 = .ok (.i2b, 1) := by decide +kernel
theorem dcF_8 : decode jdk_52_method_15_code 8 = .ok (.ireturn, 1) := by decide +kernel
set_option maxRecDepth 65536 in
set_option maxHeartbeats 4000000 in
theorem rmcF (l : Launch) {Z : State} {a0 : Array Value} (G : OG Z a0) (n0 : Nat) (d : Addr) (k : ClassId) (n : Int32) (vs : List Value) (dv : Value) (h0 : Heap) (A : Arv Z h0 d k .byte n vs dv) : oCon l Z n0 EL1 [] (⟨"java/lang/StringUTF16", "coderFromArrayLen", "([BI)B"⟩ : MethodName) icF #[.ref d, .int n] h0 (fun v h => v = some (.int 0) ∧ h = h0) := by
  obtain ⟨hw, hEL, ⟨cmp, hC, hc0⟩, ⟨fm, hfm, hF⟩⟩ := id G
  refine oCon.mk hEL pncF rfl rfl (efcF d n) fun C hCl => ?_
  refine s_iloadN (pc' := 1) dcF_0 rfl rfl ?_
  refine s_aloadN (pc' := 2) dcF_1 rfl rfl rfl ?_
  refine s_alen A (pc' := 3) dcF_2 rfl ?_
  refine s_isub (pc' := 4) dcF_3 rfl ?_
  refine s_bipush (x := (31 : Int32)) (pc' := 6) dcF_4 rfl rfl ?_
  refine s_iushr (pc' := 7) dcF_6 rfl ?_
  refine s_i2b (pc' := 8) dcF_7 rfl ?_
  exact s_nret (t := .byte) rfl (by simp) dcF_8 (by decide) (by decide) ⟨by rw [Int32.sub_self]; rfl, rfl⟩
def isV : OInfo := ("java/lang/String", jdk_42_method_149_code, 6, none, "<init>", ({ frames := 2, cells := 1, slots := 8, locals := 47 } : Room))
theorem pdsV : parseMethodDescriptor "([CIILjava/lang/Void;)V" = some ⟨[(.array .char), .int, .int, (.object "java/lang/Void")], none⟩ := by decide +kernel
theorem pnsV : plainFor (⟨"java/lang/String", "<init>", "([CIILjava/lang/Void;)V"⟩ : MethodName) = true := by decide +kernel
theorem efsV (x0 x1 : Addr) (x2 x3 : Int32) (m : MethodId) : entryFrame m #[(.ref x0), (.ref x1), (.int x2), (.int x3), .null] 6 = mkF m 0 #[.val (.ref x0), .val (.ref x1), .val (.int x2), .val (.int x3), .val .null, .unset] [] := by first | (simp [entryFrame, mkF, argsToLocals, Value.category]; done) | rfl
theorem dsV_0 : decode jdk_42_method_149_code 0 = .ok (.aload_n 0, 1) := by decide +kernel
theorem dsV_1 : decode jdk_42_method_149_code 1 = .ok (.invokespecial 1, 3) := by decide +kernel
theorem dsV_4 : decode jdk_42_method_149_code 4 = .ok (.iload_n 3, 1) := by decide +kernel
theorem dsV_5 : decode jdk_42_method_149_code 5 = .ok (.ifCond .ne 22, 3) := by decide +kernel
theorem dsV_27 : decode jdk_42_method_149_code 27 = .ok (.getstatic 38, 3) := by decide +kernel
theorem dsV_30 : decode jdk_42_method_149_code 30 = .ok (.ifCond .eq 28, 3) := by decide +kernel
theorem dsV_33 : decode jdk_42_method_149_code 33 = .ok (.aload_n 1, 1) := by decide +kernel
theorem dsV_34 : decode jdk_42_method_149_code 34 = .ok (.iload_n 2, 1) := by decide +kernel
theorem dsV_35 : decode jdk_42_method_149_code 35 = .ok (.iload_n 3, 1) := by decide +kernel
theorem dsV_36 : decode jdk_42_method_149_code 36 = .ok (.invokestatic 177, 3) := by decide +kernel
theorem dsV_39 : decode jdk_42_method_149_code 39 = .ok (.astore 5, 2) := by decide +kernel
theorem dsV_41 : decode jdk_42_method_149_code 41 = .ok (.aload_n 0, 1) := by decide +kernel
theorem dsV_42 : decode jdk_42_method_149_code 42 = .ok (.aload 5, 2) := by decide +kernel
theorem dsV_44 : decode jdk_42_method_149_code 44 = .ok (.iload_n 3, 1) := by decide +kernel
theorem dsV_45 : decode jdk_42_method_149_code 45 = .ok (.invokestatic 47, 3) := by decide +kernel
theorem dsV_48 : decode jdk_42_method_149_code 48 = .ok (.putfield 15, 3) := by decide +kernel
theorem dsV_51 : decode jdk_42_method_149_code 51 = .ok (.aload_n 0, 1) := by decide +kernel
theorem dsV_52 : decode jdk_42_method_149_code 52 = .ok (.aload 5, 2) := by decide +kernel
theorem dsV_54 : decode jdk_42_method_149_code 54 = .ok (.putfield 9, 3) := by decide +kernel
theorem dsV_57 : decode jdk_42_method_149_code 57 = .ok (.return_, 1) := by decide +kernel
set_option maxRecDepth 65536 in
set_option maxHeartbeats 4000000 in
theorem rmsV (l : Launch) {Z : State} {a0 : Array Value} (G : OG Z a0) (n0 : Nat) (a c : Addr) (kc : ClassId) (cs : List Int32) (dv : Value) (h0 : Heap) (hcap : cs.length ≤ 2) (hne : 0 < cs.length) (hch : Ch cs) (A : Arv Z h0 c kc .char (Int32.ofNat cs.length) (cs.map .int) dv) (E : Exa Z h0 a "java/lang/String") (F1 : Fld Z h0 a "java/lang/String" "value" "[B" .null) (F2 : Fld Z h0 a "java/lang/String" "coder" "B" (.int 0)) (ga : n0 ≤ a) : oCon l Z n0 EL1 [a] (⟨"java/lang/String", "<init>", "([CIILjava/lang/Void;)V"⟩ : MethodName) isV #[.ref a, .ref c, .int 0, .int (Int32.ofNat cs.length), .null] h0 (fun v h => v = none ∧ Keep h0 h [a] ∧ SV Z h h.size a cs) := by
  obtain ⟨hw, hEL, ⟨cmp, hC, hc0⟩, ⟨fm, hfm, hF⟩⟩ := id G
  have ha : a ∈ [a] := List.mem_cons_self ..
  refine oCon.mk hEL pnsV rfl rfl (efsV a c 0 _) fun C hCl => ?_
  refine s_aloadN (pc' := 1) dsV_0 rfl rfl rfl ?_
  refine s_initO (hw _ (List.mem_of_getElem? (i := 23) rfl)) (hw _ (List.mem_of_getElem? (i := 24) rfl)) (hw _ (List.mem_of_getElem? (i := 25) rfl)) rfl (pc' := 4) dsV_1 rfl (Nat.le_of_ble_eq_true rfl) (Nat.le_of_ble_eq_true rfl) ?_
  refine s_iloadN (pc' := 5) dsV_4 rfl rfl ?_
  refine s_if (pc' := 8) (pc'' := 27) dsV_5 rfl (by decide) rfl (fun hc5 => ?_) (fun hc5 => ?_)
  · replace hc5 := b_ne hc5
    refine s_getS hC (hw _ (List.mem_of_getElem? (i := 8) rfl)) Via.refl (pc' := 30) dsV_27 rfl ?_
    refine s_if (pc' := 33) (pc'' := 58) dsV_30 rfl (by decide) rfl (fun hc30 => ?_) (fun hc30 => ?_)
    · replace hc30 := b_eq hc30
      exact absurd hc30 hc0
    · replace hc30 := b_eqF hc30
      refine s_aloadN (pc' := 34) dsV_33 rfl rfl rfl ?_
      refine s_iloadN (pc' := 35) dsV_34 rfl rfl ?_
      refine s_iloadN (pc' := 36) dsV_35 rfl rfl ?_
      refine s_callS3 (rmcA C.l G n0 c kc cs dv h0 hcap hch A) (by simp) (hw _ (List.mem_of_getElem? (i := 208) rfl)) (hw _ (List.mem_of_getElem? (i := 209) rfl)) (hw _ (List.mem_of_getElem? (i := 210) rfl)) (hw _ (List.mem_of_getElem? (i := 211) rfl)) (by decide) (o_len pdcA rfl) rfl (pc' := 39) dsV_36 rfl (Nat.le_of_ble_eq_true rfl) (Nat.le_of_ble_eq_true rfl) (Nat.le_of_ble_eq_true rfl) (Nat.le_of_ble_eq_true rfl) (fun v36 h36 hQ36 => ?_)
      obtain ⟨d, kd, rfl, gd, E36, D36⟩ := hQ36
      dsimp only [oPush]
      have had : a ≠ d := o_fresh' E.lt gd
      refine s_astore (pc' := 41) dsV_39 rfl rfl (o_st rfl (by first | exact One.u | exact One.val rfl | assumption) rfl) ?_
      dsimp only [List.set_cons_succ, List.set_cons_zero]
      refine s_aloadN (pc' := 42) dsV_41 rfl rfl rfl ?_
      refine s_aload (pc' := 44) dsV_42 rfl rfl rfl ?_
      refine s_iloadN (pc' := 45) dsV_44 rfl rfl ?_
      refine s_callS2 (rmcF C.l G n0 d kd _ _ _ h36 D36) (by simp) (hw _ (List.mem_of_getElem? (i := 215) rfl)) (hw _ (List.mem_of_getElem? (i := 216) rfl)) (hw _ (List.mem_of_getElem? (i := 210) rfl)) (hw _ (List.mem_of_getElem? (i := 217) rfl)) (by decide) (o_len pdcF rfl) rfl (pc' := 48) dsV_45 rfl (Nat.le_of_ble_eq_true rfl) (Nat.le_of_ble_eq_true rfl) (Nat.le_of_ble_eq_true rfl) (Nat.le_of_ble_eq_true rfl) (fun v45 h45 hQ45 => ?_)
      obtain ⟨rfl, rfl⟩ := hQ45
      dsimp only [oPush]
      refine s_putF (F2.ext E36) (E.ext E36) ga (by simp) (host := "") (Or.inl (hw _ (List.mem_of_getElem? (i := 28) rfl))) Via.refl (Or.inr ⟨(hw _ (List.mem_of_getElem? (i := 29) rfl)), rfl, rfl⟩) (hw _ (List.mem_of_getElem? (i := 14) rfl)) (ty := .byte) (by decide) rfl rfl (pc' := 51) dsV_48 rfl (fun h48 W48 => ?_)
      refine s_aloadN (pc' := 52) dsV_51 rfl rfl rfl ?_
      refine s_aload (pc' := 54) dsV_52 rfl rfl rfl ?_
      refine s_putF ((F1.ext E36).other W48 (Or.inr (slot_ne (Or.inr (hw _ (List.mem_of_getElem? (i := 27) rfl))) (Or.inr (hw _ (List.mem_of_getElem? (i := 29) rfl))) (by decide) (t := .array .byte) (t' := .byte) (by decide) (by decide)))) ((E.ext E36).wr W48) ga (by simp) (host := "") (Or.inl (hw _ (List.mem_of_getElem? (i := 26) rfl))) Via.refl (Or.inr ⟨(hw _ (List.mem_of_getElem? (i := 27) rfl)), rfl, rfl⟩) (hw _ (List.mem_of_getElem? (i := 14) rfl)) (ty := (.array .byte)) (by decide) rfl rfl (pc' := 57) dsV_54 rfl (fun h54 W54 => ?_)
      refine s_ret rfl dsV_57 (by decide) (by decide) ⟨rfl, ?_, d, kd, ?_, ?_, ?_, ?_, ?_, ?_⟩
      · exact o_kext E36 ((Keep.of_wr W48).wr W54 (Or.inl (List.mem_cons_self ..)))
      · exact (((E.ext E36).wr W48).wr W54).lt
      · exact ((D36.other W48 had.symm).other W54 had.symm).lt
      · exact ((E.ext E36).wr W48).wr W54
      · exact ((F2.ext E36).same W48).other W54 (Or.inr (slot_ne (Or.inr (hw _ (List.mem_of_getElem? (i := 29) rfl))) (Or.inr (hw _ (List.mem_of_getElem? (i := 27) rfl))) (by decide) (t := .byte) (t' := .array .byte) (by decide) (by decide)))
      · exact ((F1.ext E36).other W48 (Or.inr (slot_ne (Or.inr (hw _ (List.mem_of_getElem? (i := 27) rfl))) (Or.inr (hw _ (List.mem_of_getElem? (i := 29) rfl))) (by decide) (t := .array .byte) (t' := .byte) (by decide) (by decide)))).same W54
      · exact (D36.other W48 had.symm).other W54 had.symm
  · replace hc5 := b_neF hc5
    exact absurd (n_inj (b := 0) (by omega) (by omega) hc5) (by omega)
def isC : OInfo := ("java/lang/String", jdk_42_method_3_code, 2, none, "<init>", ({ frames := 3, cells := 1, slots := 8, locals := 64 } : Room))
theorem efsC (x0 : Addr) (x1 : Addr) (m : MethodId) : entryFrame m #[(.ref x0), (.ref x1)] 2 = mkF m 0 #[.val (.ref x0), .val (.ref x1)] [] := by first | (simp [entryFrame, mkF, argsToLocals, Value.category]; done) | rfl
theorem pdsC : parseMethodDescriptor "([C)V" = some ⟨[(.array .char)], none⟩ := by decide +kernel
theorem pnsC : plainFor (⟨"java/lang/String", "<init>", "([C)V"⟩ : MethodName) = true := by decide +kernel
theorem dsC_0 : decode jdk_42_method_3_code 0 = .ok (.aload_n 0, 1) := by decide +kernel
theorem dsC_1 : decode jdk_42_method_3_code 1 = .ok (.aload_n 1, 1) := by decide +kernel
theorem dsC_2 : decode jdk_42_method_3_code 2 = .ok (.iconst 0, 1) := by decide +kernel
theorem dsC_3 : decode jdk_42_method_3_code 3 = .ok (.aload_n 1, 1) := by decide +kernel
theorem dsC_4 : decode jdk_42_method_3_code 4 = .ok (.arraylength, 1) := by decide +kernel
theorem dsC_5 : decode jdk_42_method_3_code 5 = .ok (.aconst_null, 1) := by decide +kernel
theorem dsC_6 : decode jdk_42_method_3_code 6 = .ok (.invokespecial 27, 3) := by decide +kernel
theorem dsC_9 : decode jdk_42_method_3_code 9 = .ok (.return_, 1) := by decide +kernel
set_option maxRecDepth 65536 in
set_option maxHeartbeats 4000000 in
theorem rmsC (l : Launch) {Z : State} {a0 : Array Value} (G : OG Z a0) (n0 : Nat) (a c : Addr) (kc : ClassId) (cs : List Int32) (dv : Value) (h0 : Heap) (hcap : cs.length ≤ 2) (hne : 0 < cs.length) (hch : Ch cs) (A : Arv Z h0 c kc .char (Int32.ofNat cs.length) (cs.map .int) dv) (E : Exa Z h0 a "java/lang/String") (F1 : Fld Z h0 a "java/lang/String" "value" "[B" .null) (F2 : Fld Z h0 a "java/lang/String" "coder" "B" (.int 0)) (ga : n0 ≤ a) : oCon l Z n0 EL1 [a] (⟨"java/lang/String", "<init>", "([C)V"⟩ : MethodName) isC #[.ref a, .ref c] h0 (fun v h => v = none ∧ Keep h0 h [a] ∧ SV Z h h.size a cs) := by
  obtain ⟨hw, hEL, ⟨cmp, hC, hc0⟩, ⟨fm, hfm, hF⟩⟩ := id G
  refine oCon.mk hEL pnsC rfl rfl (efsC a c) fun C hCl => ?_
  refine s_aloadN (pc' := 1) dsC_0 rfl rfl rfl ?_
  refine s_aloadN (pc' := 2) dsC_1 rfl rfl rfl ?_
  refine s_iconst (x := (0 : Int32)) (pc' := 3) dsC_2 rfl rfl ?_
  refine s_aloadN (pc' := 4) dsC_3 rfl rfl rfl ?_
  refine s_alen A (pc' := 5) dsC_4 rfl ?_
  refine s_null (pc' := 6) dsC_5 rfl ?_
  refine s_callI4 (rmsV C.l G n0 a c kc cs dv h0 hcap hne hch A E F1 F2 ga) (by simp) rfl rfl (hw _ (List.mem_of_getElem? (i := 205) rfl)) (hw _ (List.mem_of_getElem? (i := 206) rfl)) (hw _ (List.mem_of_getElem? (i := 6) rfl)) (hw _ (List.mem_of_getElem? (i := 207) rfl)) (by decide) (o_len pdsV rfl) rfl (pc' := 9) dsC_6 rfl (Nat.le_of_ble_eq_true rfl) (Nat.le_of_ble_eq_true rfl) (Nat.le_of_ble_eq_true rfl) (Nat.le_of_ble_eq_true rfl) (fun v6 h6 hQ6 => ?_)
  obtain ⟨rfl, q1, q2⟩ := hQ6
  dsimp only [oPush]
  exact s_ret rfl dsC_9 (by decide) (by decide) ⟨rfl, q1, q2⟩
def isM : OInfo := ("java/lang/String", jdk_42_method_55_code, 1, (some .boolean), "isEmpty", ({ frames := 0, cells := 0, slots := 0, locals := 0 } : Room))
theorem efsM (x0 : Addr) (m : MethodId) : entryFrame m #[(.ref x0)] 1 = mkF m 0 #[.val (.ref x0)] [] := by first | (simp [entryFrame, mkF, argsToLocals, Value.category]; done) | rfl
theorem pdsM : parseMethodDescriptor "()Z" = some ⟨[], some .boolean⟩ := by decide +kernel
theorem pnsM : plainFor (⟨"java/lang/String", "isEmpty", "()Z"⟩ : MethodName) = true := by decide +kernel
theorem dsM_0 : decode jdk_42_method_55_code 0 = .ok (.aload_n 0, 1) := by decide +kernel
theorem dsM_1 : decode jdk_42_method_55_code 1 = .ok (.getfield 9, 3) := by decide +kernel
theorem dsM_4 : decode jdk_42_method_55_code 4 = .ok (.arraylength, 1) := by decide +kernel
theorem dsM_5 : decode jdk_42_method_55_code 5 = .ok (.ifCond .ne 7, 3) := by decide +kernel
theorem dsM_8 : decode jdk_42_method_55_code 8 = .ok (.iconst 1, 1) := by decide +kernel
theorem dsM_9 : decode jdk_42_method_55_code 9 = .ok (.goto 4, 3) := by decide +kernel
theorem dsM_12 : decode jdk_42_method_55_code 12 = .ok (.iconst 0, 1) := by decide +kernel
theorem dsM_13 : decode jdk_42_method_55_code 13 = .ok (.ireturn, 1) := by decide +kernel
set_option maxRecDepth 65536 in
set_option maxHeartbeats 4000000 in
theorem rmsM (l : Launch) {Z : State} {a0 : Array Value} (G : OG Z a0) (n0 : Nat) (a : Addr) (N : Nat) (cs : List Int32) (h0 : Heap) (hb : cs.length < 2147483648) (H : SV Z h0 N a cs) : oCon l Z n0 EL1 [] (⟨"java/lang/String", "isEmpty", "()Z"⟩ : MethodName) isM #[.ref a] h0 (fun v h => ∃ r : Int32, v = some (.int r) ∧ h = h0 ∧ ((r = 1 ∧ cs = []) ∨ (r = 0 ∧ ¬ cs = []))) := by
  obtain ⟨hw, hEL, ⟨cmp, hC, hc0⟩, ⟨fm, hfm, hF⟩⟩ := id G
  obtain ⟨d1, k1, -, -, E1, C1, V1, A1⟩ := H
  refine oCon.mk hEL pnsM rfl rfl (efsM a) fun C hCl => ?_
  refine s_aloadN (pc' := 1) dsM_0 rfl rfl rfl ?_
  refine s_getF V1 (host := "") (Or.inl (hw _ (List.mem_of_getElem? (i := 26) rfl))) Via.refl (pc' := 4) dsM_1 rfl ?_
  refine s_alen A1 (pc' := 5) dsM_4 rfl ?_
  refine s_if (pc' := 8) (pc'' := 12) dsM_5 rfl (by decide) rfl (fun hc5 => ?_) (fun hc5 => ?_)
  · replace hc5 := b_ne hc5
    refine s_iconst (x := (0 : Int32)) (pc' := 13) dsM_12 rfl rfl ?_
    exact s_nret (t := .boolean) rfl (by simp) dsM_13 (by decide) (by decide) ⟨_, rfl, rfl, by first | exact Or.inl ⟨rfl, List.eq_nil_of_length_eq_zero (n_inj hb (by omega) hc5)⟩ | exact Or.inr ⟨rfl, fun q => hc5 (by rw [q]; rfl)⟩⟩
  · replace hc5 := b_neF hc5
    refine s_iconst (x := (1 : Int32)) (pc' := 9) dsM_8 rfl rfl ?_
    refine s_goto (pc' := 13) dsM_9 (by decide) rfl ?_
    exact s_nret (t := .boolean) rfl (by simp) dsM_13 (by decide) (by decide) ⟨_, rfl, rfl, by first | exact Or.inl ⟨rfl, List.eq_nil_of_length_eq_zero (n_inj hb (by omega) hc5)⟩ | exact Or.inr ⟨rfl, fun q => hc5 (by rw [q]; rfl)⟩⟩
def isK : OInfo := ("java/lang/String", jdk_42_method_152_code, 1, (some .byte), "coder", ({ frames := 0, cells := 0, slots := 0, locals := 0 } : Room))
theorem efsK (x0 : Addr) (m : MethodId) : entryFrame m #[(.ref x0)] 1 = mkF m 0 #[.val (.ref x0)] [] := by first | (simp [entryFrame, mkF, argsToLocals, Value.category]; done) | rfl
theorem pdsK : parseMethodDescriptor "()B" = some ⟨[], some .byte⟩ := by decide +kernel
theorem pnsK : plainFor (⟨"java/lang/String", "coder", "()B"⟩ : MethodName) = true := by decide +kernel
theorem dsK_0 : decode jdk_42_method_152_code 0 = .ok (.getstatic 38, 3) := by decide +kernel
theorem dsK_3 : decode jdk_42_method_152_code 3 = .ok (.ifCond .eq 10, 3) := by decide +kernel
theorem dsK_6 : decode jdk_42_method_152_code 6 = .ok (.aload_n 0, 1) := by decide +kernel
theorem dsK_7 : decode jdk_42_method_152_code 7 = .ok (.getfield 15, 3) := by decide +kernel
theorem dsK_10 : decode jdk_42_method_152_code 10 = .ok (.goto 4, 3) := by decide +kernel
theorem dsK_14 : decode jdk_42_method_152_code 14 = .ok (.ireturn, 1) := by decide +kernel
set_option maxRecDepth 65536 in
set_option maxHeartbeats 4000000 in
theorem rmsK (l : Launch) {Z : State} {a0 : Array Value} (G : OG Z a0) (n0 : Nat) (a : Addr) (h0 : Heap) (C1 : Fld Z h0 a "java/lang/String" "coder" "B" (.int 0)) : oCon l Z n0 EL1 [] (⟨"java/lang/String", "coder", "()B"⟩ : MethodName) isK #[.ref a] h0 (fun v h => v = some (.int 0) ∧ h = h0) := by
  obtain ⟨hw, hEL, ⟨cmp, hC, hc0⟩, ⟨fm, hfm, hF⟩⟩ := id G
  refine oCon.mk hEL pnsK rfl rfl (efsK a) fun C hCl => ?_
  refine s_getS hC (hw _ (List.mem_of_getElem? (i := 8) rfl)) Via.refl (pc' := 3) dsK_0 rfl ?_
  refine s_if (pc' := 6) (pc'' := 13) dsK_3 rfl (by decide) rfl (fun hc3 => ?_) (fun hc3 => ?_)
  · replace hc3 := b_eq hc3
    exact absurd hc3 hc0
  · replace hc3 := b_eqF hc3
    refine s_aloadN (pc' := 7) dsK_6 rfl rfl rfl ?_
    refine s_getF C1 (host := "") (Or.inl (hw _ (List.mem_of_getElem? (i := 28) rfl))) Via.refl (pc' := 10) dsK_7 rfl ?_
    refine s_goto (pc' := 14) dsK_10 (by decide) rfl ?_
    exact s_nret (t := .byte) rfl (by simp) dsK_14 (by decide) (by decide) ⟨rfl, rfl⟩
def isL : OInfo := ("java/lang/String", jdk_42_method_54_code, 1, (some .int), "length", ({ frames := 1, cells := 0, slots := 0, locals := 13 } : Room))
theorem efsL (x0 : Addr) (m : MethodId) : entryFrame m #[(.ref x0)] 1 = mkF m 0 #[.val (.ref x0)] [] := by first | (simp [entryFrame, mkF, argsToLocals, Value.category]; done) | rfl
theorem pdsL : parseMethodDescriptor "()I" = some ⟨[], some .int⟩ := by decide +kernel
theorem pnsL : plainFor (⟨"java/lang/String", "length", "()I"⟩ : MethodName) = true := by decide +kernel
theorem shr_zero (x : Int32) : x >>> ((0 : Int32) &&& 31) = x := by
  rw [o_eq]; have q := c_ishr x 0 0 (by decide); rw [q]; simp
theorem dsL_0 : decode jdk_42_method_54_code 0 = .ok (.aload_n 0, 1) := by decide +kernel
theorem dsL_1 : decode jdk_42_method_54_code 1 = .ok (.getfield 9, 3) := by decide +kernel
theorem dsL_4 : decode jdk_42_method_54_code 4 = .ok (.arraylength, 1) := by decide +kernel
theorem dsL_5 : decode jdk_42_method_54_code 5 = .ok (.aload_n 0, 1) := by decide +kernel
theorem dsL_6 : decode jdk_42_method_54_code 6 = .ok (.invokevirtual 335, 3) := by decide +kernel
theorem dsL_9 : decode jdk_42_method_54_code 9 = .ok (.ishr, 1) := by decide +kernel
theorem dsL_10 : decode jdk_42_method_54_code 10 = .ok (.ireturn, 1) := by decide +kernel
set_option maxRecDepth 65536 in
set_option maxHeartbeats 4000000 in
theorem rmsL (l : Launch) {Z : State} {a0 : Array Value} (G : OG Z a0) (n0 : Nat) (a : Addr) (N : Nat) (cs : List Int32) (h0 : Heap) (H : SV Z h0 N a cs) : oCon l Z n0 EL1 [] (⟨"java/lang/String", "length", "()I"⟩ : MethodName) isL #[.ref a] h0 (fun v h => v = some (.int (Int32.ofNat cs.length)) ∧ h = h0) := by
  obtain ⟨hw, hEL, ⟨cmp, hC, hc0⟩, ⟨fm, hfm, hF⟩⟩ := id G
  obtain ⟨d1, k1, -, -, E1, C1, V1, A1⟩ := H
  refine oCon.mk hEL pnsL rfl rfl (efsL a) fun C hCl => ?_
  refine s_aloadN (pc' := 1) dsL_0 rfl rfl rfl ?_
  refine s_getF V1 (host := "") (Or.inl (hw _ (List.mem_of_getElem? (i := 26) rfl))) Via.refl (pc' := 4) dsL_1 rfl ?_
  refine s_alen A1 (pc' := 5) dsL_4 rfl ?_
  refine s_aloadN (pc' := 6) dsL_5 rfl rfl rfl ?_
  refine s_callV0 (rmsK C.l G n0 a h0 C1) (by simp) E1 (hw _ (List.mem_of_getElem? (i := 90) rfl)) (hw _ (List.mem_of_getElem? (i := 91) rfl)) (hw _ (List.mem_of_getElem? (i := 93) rfl)) (hw _ (List.mem_of_getElem? (i := 92) rfl)) (o_nf (hw _ (List.mem_of_getElem? (i := 93) rfl)) rfl) (hw _ (List.mem_of_getElem? (i := 6) rfl)) (hw _ (List.mem_of_getElem? (i := 94) rfl)) (by decide) (o_len pdsK rfl) rfl (pc' := 9) dsL_6 rfl (Nat.le_of_ble_eq_true rfl) (Nat.le_of_ble_eq_true rfl) (Nat.le_of_ble_eq_true rfl) (Nat.le_of_ble_eq_true rfl) (fun v6 h6 hQ6 => ?_)
  obtain ⟨rfl, rfl⟩ := hQ6
  dsimp only [oPush]
  refine s_ishr (pc' := 10) dsL_9 rfl ?_
  exact s_iret rfl dsL_10 (by decide) (by decide) ⟨by rw [shr_zero], rfl⟩
def isI : OInfo := ("java/lang/String", jdk_42_method_154_code, 1, (some .boolean), "isLatin1", ({ frames := 0, cells := 0, slots := 0, locals := 0 } : Room))
theorem efsI (x0 : Addr) (m : MethodId) : entryFrame m #[(.ref x0)] 1 = mkF m 0 #[.val (.ref x0)] [] := by first | (simp [entryFrame, mkF, argsToLocals, Value.category]; done) | rfl
theorem pdsI : parseMethodDescriptor "()Z" = some ⟨[], some .boolean⟩ := by decide +kernel
theorem pnsI : plainFor (⟨"java/lang/String", "isLatin1", "()Z"⟩ : MethodName) = true := by decide +kernel
theorem dsI_0 : decode jdk_42_method_154_code 0 = .ok (.getstatic 38, 3) := by decide +kernel
theorem dsI_3 : decode jdk_42_method_154_code 3 = .ok (.ifCond .eq 14, 3) := by decide +kernel
theorem dsI_6 : decode jdk_42_method_154_code 6 = .ok (.aload_n 0, 1) := by decide +kernel
theorem dsI_7 : decode jdk_42_method_154_code 7 = .ok (.getfield 15, 3) := by decide +kernel
theorem dsI_10 : decode jdk_42_method_154_code 10 = .ok (.ifCond .ne 7, 3) := by decide +kernel
theorem dsI_13 : decode jdk_42_method_154_code 13 = .ok (.iconst 1, 1) := by decide +kernel
theorem dsI_14 : decode jdk_42_method_154_code 14 = .ok (.goto 4, 3) := by decide +kernel
theorem dsI_18 : decode jdk_42_method_154_code 18 = .ok (.ireturn, 1) := by decide +kernel
set_option maxRecDepth 65536 in
set_option maxHeartbeats 4000000 in
theorem rmsI (l : Launch) {Z : State} {a0 : Array Value} (G : OG Z a0) (n0 : Nat) (a : Addr) (h0 : Heap) (C1 : Fld Z h0 a "java/lang/String" "coder" "B" (.int 0)) : oCon l Z n0 EL1 [] (⟨"java/lang/String", "isLatin1", "()Z"⟩ : MethodName) isI #[.ref a] h0 (fun v h => v = some (.int 1) ∧ h = h0) := by
  obtain ⟨hw, hEL, ⟨cmp, hC, hc0⟩, ⟨fm, hfm, hF⟩⟩ := id G
  refine oCon.mk hEL pnsI rfl rfl (efsI a) fun C hCl => ?_
  refine s_getS hC (hw _ (List.mem_of_getElem? (i := 8) rfl)) Via.refl (pc' := 3) dsI_0 rfl ?_
  refine s_if (pc' := 6) (pc'' := 17) dsI_3 rfl (by decide) rfl (fun hc3 => ?_) (fun hc3 => ?_)
  · replace hc3 := b_eq hc3
    exact absurd hc3 hc0
  · replace hc3 := b_eqF hc3
    refine s_aloadN (pc' := 7) dsI_6 rfl rfl rfl ?_
    refine s_getF C1 (host := "") (Or.inl (hw _ (List.mem_of_getElem? (i := 28) rfl))) Via.refl (pc' := 10) dsI_7 rfl ?_
    refine s_if (pc' := 13) (pc'' := 17) dsI_10 rfl (by decide) rfl (fun hc10 => ?_) (fun hc10 => ?_)
    · replace hc10 := b_ne hc10
      exact absurd rfl hc10
    · replace hc10 := b_neF hc10
      refine s_iconst (x := (1 : Int32)) (pc' := 14) dsI_13 rfl rfl ?_
      refine s_goto (pc' := 18) dsI_14 (by decide) rfl ?_
      exact s_nret (t := .boolean) rfl (by simp) dsI_18 (by decide) (by decide) ⟨rfl, rfl⟩
def ipc : OInfo := ("jdk/internal/util/Preconditions", jdk_41_method_11_code, 3, (some .int), "checkIndex", ({ frames := 0, cells := 0, slots := 0, locals := 0 } : Room))
theorem pdpc : parseMethodDescriptor "(IILjava/util/function/BiFunction;)I" = some ⟨[.int, .int, (.object "java/util/function/BiFunction")], some .int⟩ := by decide +kernel
theorem pnpc : plainName "jdk/internal/util/Preconditions" = true := by first | (simp [plainName, overriddenIn]; done) | decide +kernel
theorem efpc (x0 x1 : Int32) (x2 : Value) (h : x2.isRef = true) (m : MethodId) : entryFrame m #[(.int x0), (.int x1), x2] 3 = mkF m 0 #[.val (.int x0), .val (.int x1), .val x2] [] := by
  rcases ref_cases h with rfl | ⟨a, rfl⟩ <;> first | (simp [entryFrame, mkF, argsToLocals, Value.category]; done) | rfl
theorem dpc_0 : decode jdk_41_method_11_code 0 = .ok (.iload_n 0, 1) := by decide +kernel
theorem dpc_1 : decode jdk_41_method_11_code 1 = .ok (.ifCond .lt 8, 3) := by decide +kernel
theorem dpc_4 : decode jdk_41_method_11_code 4 = .ok (.iload_n 0, 1) := by decide +kernel
theorem dpc_5 : decode jdk_41_method_11_code 5 = .ok (.iload_n 1, 1) := by decide +kernel
theorem dpc_6 : decode jdk_41_method_11_code 6 = .ok (.if_icmp .lt 10, 3) := by decide +kernel
theorem dpc_16 : decode jdk_41_method_11_code 16 = .ok (.iload_n 0, 1) := by decide +kernel
theorem dpc_17 : decode jdk_41_method_11_code 17 = .ok (.ireturn, 1) := by decide +kernel
set_option maxRecDepth 65536 in
set_option maxHeartbeats 4000000 in
theorem rmpc (l : Launch) {Z : State} {a0 : Array Value} (G : OG Z a0) (n0 : Nat) (i n : Int32) (w : Value) (hw2 : w.isRef = true) (h0 : Heap) (h1 : ¬ i < 0) (h2 : i < n) : oCon l Z n0 EL1 [] (⟨"jdk/internal/util/Preconditions", "checkIndex", "(IILjava/util/function/BiFunction;)I"⟩ : MethodName) ipc #[.int i, .int n, w] h0 (fun v h => ∃ r : Int32, v = some (.int r) ∧ h = h0) := by
  obtain ⟨hw, hEL, ⟨cmp, hC, hc0⟩, ⟨fm, hfm, hF⟩⟩ := id G
  refine oCon.mk hEL (plainFor_of_name pnpc) rfl rfl (efpc i n w hw2) fun C hCl => ?_
  refine s_iloadN (pc' := 1) dpc_0 rfl rfl ?_
  refine s_if (pc' := 4) (pc'' := 9) dpc_1 rfl (by decide) rfl (fun hc1 => ?_) (fun hc1 => ?_)
  · replace hc1 := b_lt hc1
    exact absurd hc1 h1
  · replace hc1 := b_ltF hc1
    refine s_iloadN (pc' := 5) dpc_4 rfl rfl ?_
    refine s_iloadN (pc' := 6) dpc_5 rfl rfl ?_
    refine s_icmp (pc' := 9) (pc'' := 16) dpc_6 rfl (by decide) rfl (fun hc6 => ?_) (fun hc6 => ?_)
    · replace hc6 := b_lt hc6
      refine s_iloadN (pc' := 17) dpc_16 rfl rfl ?_
      exact s_iret rfl dpc_17 (by decide) (by decide) ⟨_, rfl, rfl⟩
    · replace hc6 := b_ltF hc6
      exact absurd h2 hc6
def isX : OInfo := ("java/lang/String", jdk_42_method_155_code, 2, none, "checkIndex", ({ frames := 1, cells := 0, slots := 0, locals := 14 } : Room))
theorem efsX (x0 : Int32) (x1 : Int32) (m : MethodId) : entryFrame m #[(.int x0), (.int x1)] 2 = mkF m 0 #[.val (.int x0), .val (.int x1)] [] := by first | (simp [entryFrame, mkF, argsToLocals, Value.category]; done) | rfl
theorem pdsX : parseMethodDescriptor "(II)V" = some ⟨[.int, .int], none⟩ := by decide +kernel
theorem pnsX : plainFor (⟨"java/lang/String", "checkIndex", "(II)V"⟩ : MethodName) = true := by decide +kernel
theorem dsX_0 : decode jdk_42_method_155_code 0 = .ok (.iload_n 0, 1) := by decide +kernel
theorem dsX_1 : decode jdk_42_method_155_code 1 = .ok (.iload_n 1, 1) := by decide +kernel
theorem dsX_2 : decode jdk_42_method_155_code 2 = .ok (.getstatic 1053, 3) := by decide +kernel
theorem dsX_5 : decode jdk_42_method_155_code 5 = .ok (.invokestatic 1059, 3) := by decide +kernel
theorem dsX_8 : decode jdk_42_method_155_code 8 = .ok (.pop, 1) := by decide +kernel
theorem dsX_9 : decode jdk_42_method_155_code 9 = .ok (.return_, 1) := by decide +kernel
set_option maxRecDepth 65536 in
set_option maxHeartbeats 4000000 in
theorem rmsX (l : Launch) {Z : State} {a0 : Array Value} (G : OG Z a0) (n0 : Nat) (i n : Int32) (h0 : Heap) (h1 : ¬ i < 0) (h2 : i < n) : oCon l Z n0 EL1 [] (⟨"java/lang/String", "checkIndex", "(II)V"⟩ : MethodName) isX #[.int i, .int n] h0 (fun v h => v = none ∧ h = h0) := by
  obtain ⟨hw, hEL, ⟨cmp, hC, hc0⟩, ⟨fm, hfm, hF⟩⟩ := id G
  refine oCon.mk hEL pnsX rfl rfl (efsX i n) fun C hCl => ?_
  refine s_iloadN (pc' := 1) dsX_0 rfl rfl ?_
  refine s_iloadN (pc' := 2) dsX_1 rfl rfl ?_
  refine s_getS hF (hw _ (List.mem_of_getElem? (i := 187) rfl)) Via.refl (pc' := 5) dsX_2 rfl ?_
  refine s_callS3 (rmpc C.l G n0 i n fm hfm h0 h1 h2) (by simp) (hw _ (List.mem_of_getElem? (i := 189) rfl)) (hw _ (List.mem_of_getElem? (i := 190) rfl)) (hw _ (List.mem_of_getElem? (i := 188) rfl)) (hw _ (List.mem_of_getElem? (i := 191) rfl)) (by decide) (o_len pdpc rfl) rfl (pc' := 8) dsX_5 rfl (Nat.le_of_ble_eq_true rfl) (Nat.le_of_ble_eq_true rfl) (Nat.le_of_ble_eq_true rfl) (Nat.le_of_ble_eq_true rfl) (fun v5 h5 hQ5 => ?_)
  obtain ⟨r, rfl, rfl⟩ := hQ5
  dsimp only [oPush]
  refine s_pop (pc' := 9) dsX_8 rfl rfl ?_
  exact s_ret rfl dsX_9 (by decide) (by decide) ⟨rfl, rfl⟩
def ilC : OInfo := ("java/lang/StringLatin1", jdk_43_method_2_code, 2, (some .char), "charAt", ({ frames := 2, cells := 0, slots := 0, locals := 27 } : Room))
theorem eflC (x0 : Addr) (x1 : Int32) (m : MethodId) : entryFrame m #[(.ref x0), (.int x1)] 2 = mkF m 0 #[.val (.ref x0), .val (.int x1)] [] := by first | (simp [entryFrame, mkF, argsToLocals, Value.category]; done) | rfl
theorem pdlC : parseMethodDescriptor "([BI)C" = some ⟨[(.array .byte), .int], some .char⟩ := by decide +kernel
theorem pnlC : plainFor (⟨"java/lang/StringLatin1", "charAt", "([BI)C"⟩ : MethodName) = true := by decide +kernel
theorem dlC_0 : decode jdk_43_method_2_code 0 = .ok (.iload_n 1, 1) := by decide +kernel
theorem dlC_1 : decode jdk_43_method_2_code 1 = .ok (.aload_n 0, 1) := by decide +kernel
theorem dlC_2 : decode jdk_43_method_2_code 2 = .ok (.arraylength, 1) := by decide +kernel
theorem dlC_3 : decode jdk_43_method_2_code 3 = .ok (.invokestatic 9, 3) := by decide +kernel
theorem dlC_6 : decode jdk_43_method_2_code 6 = .ok (.aload_n 0, 1) := by decide +kernel
theorem dlC_7 : decode jdk_43_method_2_code 7 = .ok (.iload_n 1, 1) := by decide +kernel
theorem dlC_8 : decode jdk_43_method_2_code 8 = .ok (.baload, 1) := by decide +kernel
theorem dlC_9 : decode jdk_43_method_2_code 9 = .ok (.sipush 255, 3) := by decide +kernel
theorem dlC_12 : decode jdk_43_method_2_code 12 = .ok (.iand, 1) := by decide +kernel
theorem dlC_13 : decode jdk_43_method_2_code 13 = .ok (.i2c, 1) := by decide +kernel
theorem dlC_14 : decode jdk_43_method_2_code 14 = .ok (.ireturn, 1) := by decide +kernel
set_option maxRecDepth 65536 in
set_option maxHeartbeats 4000000 in
theorem rmlC (l : Launch) {Z : State} {a0 : Array Value} (G : OG Z a0) (n0 : Nat) (d : Addr) (k : ClassId) (cs : List Int32) (j : Nat) (z : Int32) (h0 : Heap) (hb : cs.length < 2147483648) (hch : Ch cs) (hz : cs[j]? = some z) (A : Arv Z h0 d k .byte (Int32.ofNat cs.length) (cs.map fun c => Value.int (byt c)) (.int 0)) : oCon l Z n0 EL1 [] (⟨"java/lang/StringLatin1", "charAt", "([BI)C"⟩ : MethodName) ilC #[.ref d, .int (Int32.ofNat j)] h0 (fun v h => v = some (.int z) ∧ h = h0) := by
  obtain ⟨hw, hEL, ⟨cmp, hC, hc0⟩, ⟨fm, hfm, hF⟩⟩ := id G
  have hj := (List.getElem?_eq_some_iff.mp hz).1
  refine oCon.mk hEL pnlC rfl rfl (eflC d _) fun C hCl => ?_
  refine s_iloadN (pc' := 1) dlC_0 rfl rfl ?_
  refine s_aloadN (pc' := 2) dlC_1 rfl rfl rfl ?_
  refine s_alen A (pc' := 3) dlC_2 rfl ?_
  refine s_callS2 (rmsX C.l G n0 (Int32.ofNat j) _ h0 (nn (by omega)) (lt' hb hj)) (by simp) (hw _ (List.mem_of_getElem? (i := 184) rfl)) (hw _ (List.mem_of_getElem? (i := 185) rfl)) (hw _ (List.mem_of_getElem? (i := 6) rfl)) (hw _ (List.mem_of_getElem? (i := 186) rfl)) (by decide) (o_len pdsX rfl) rfl (pc' := 6) dlC_3 rfl (Nat.le_of_ble_eq_true rfl) (Nat.le_of_ble_eq_true rfl) (Nat.le_of_ble_eq_true rfl) (Nat.le_of_ble_eq_true rfl) (fun v3 h3 hQ3 => ?_)
  obtain ⟨rfl, rfl⟩ := hQ3
  dsimp only [oPush]
  refine s_aloadN (pc' := 7) dlC_6 rfl rfl rfl ?_
  refine s_iloadN (pc' := 8) dlC_7 rfl rfl ?_
  refine s_baload A (nn (by omega)) (lt' hb hj) (v := .int (byt z)) (by rw [cl (by omega)]; exact bs_get hz _) (pc' := 9) dlC_8 rfl ?_
  refine s_sipush (x := (255 : Int32)) (pc' := 12) dlC_9 rfl rfl ?_
  refine s_iand (pc' := 13) dlC_12 rfl ?_
  refine s_i2c (pc' := 14) dlC_13 rfl ?_
  exact s_nret (t := .char) rfl (by simp) dlC_14 (by decide) (by decide) ⟨by rw [byt_and (hch z (List.mem_of_getElem? hz)), i2c_ch (hch z (List.mem_of_getElem? hz)), nar_ch (hch z (List.mem_of_getElem? hz))], rfl⟩
def isH : OInfo := ("java/lang/String", jdk_42_method_56_code, 2, (some .char), "charAt", ({ frames := 3, cells := 0, slots := 0, locals := 40 } : Room))
theorem efsH (x0 : Addr) (x1 : Int32) (m : MethodId) : entryFrame m #[(.ref x0), (.int x1)] 2 = mkF m 0 #[.val (.ref x0), .val (.int x1)] [] := by first | (simp [entryFrame, mkF, argsToLocals, Value.category]; done) | rfl
theorem pdsH : parseMethodDescriptor "(I)C" = some ⟨[.int], some .char⟩ := by decide +kernel
theorem pnsH : plainFor (⟨"java/lang/String", "charAt", "(I)C"⟩ : MethodName) = true := by decide +kernel
theorem dsH_0 : decode jdk_42_method_56_code 0 = .ok (.aload_n 0, 1) := by decide +kernel
theorem dsH_1 : decode jdk_42_method_56_code 1 = .ok (.invokevirtual 492, 3) := by decide +kernel
theorem dsH_4 : decode jdk_42_method_56_code 4 = .ok (.ifCond .eq 12, 3) := by decide +kernel
theorem dsH_7 : decode jdk_42_method_56_code 7 = .ok (.aload_n 0, 1) := by decide +kernel
theorem dsH_8 : decode jdk_42_method_56_code 8 = .ok (.getfield 9, 3) := by decide +kernel
theorem dsH_11 : decode jdk_42_method_56_code 11 = .ok (.iload_n 1, 1) := by decide +kernel
theorem dsH_12 : decode jdk_42_method_56_code 12 = .ok (.invokestatic 495, 3) := by decide +kernel
theorem dsH_15 : decode jdk_42_method_56_code 15 = .ok (.ireturn, 1) := by decide +kernel
set_option maxRecDepth 65536 in
set_option maxHeartbeats 4000000 in
theorem rmsH (l : Launch) {Z : State} {a0 : Array Value} (G : OG Z a0) (n0 : Nat) (a : Addr) (N : Nat) (cs : List Int32) (j : Nat) (z : Int32) (h0 : Heap) (hb : cs.length < 2147483648) (hch : Ch cs) (hz : cs[j]? = some z) (H : SV Z h0 N a cs) : oCon l Z n0 EL1 [] (⟨"java/lang/String", "charAt", "(I)C"⟩ : MethodName) isH #[.ref a, .int (Int32.ofNat j)] h0 (fun v h => v = some (.int z) ∧ h = h0) := by
  obtain ⟨hw, hEL, ⟨cmp, hC, hc0⟩, ⟨fm, hfm, hF⟩⟩ := id G
  obtain ⟨d1, k1, -, -, E1, C1, V1, A1⟩ := H
  refine oCon.mk hEL pnsH rfl rfl (efsH a _) fun C hCl => ?_
  refine s_aloadN (pc' := 1) dsH_0 rfl rfl rfl ?_
  refine s_callV0 (rmsI C.l G n0 a h0 C1) (by simp) E1 (hw _ (List.mem_of_getElem? (i := 176) rfl)) (hw _ (List.mem_of_getElem? (i := 177) rfl)) (hw _ (List.mem_of_getElem? (i := 179) rfl)) (hw _ (List.mem_of_getElem? (i := 178) rfl)) (o_nf (hw _ (List.mem_of_getElem? (i := 179) rfl)) rfl) (hw _ (List.mem_of_getElem? (i := 6) rfl)) (hw _ (List.mem_of_getElem? (i := 180) rfl)) (by decide) (o_len pdsI rfl) rfl (pc' := 4) dsH_1 rfl (Nat.le_of_ble_eq_true rfl) (Nat.le_of_ble_eq_true rfl) (Nat.le_of_ble_eq_true rfl) (Nat.le_of_ble_eq_true rfl) (fun v1 h1 hQ1 => ?_)
  obtain ⟨rfl, rfl⟩ := hQ1
  dsimp only [oPush]
  refine s_if (pc' := 7) (pc'' := 16) dsH_4 rfl (by decide) rfl (fun hc4 => ?_) (fun hc4 => ?_)
  · replace hc4 := b_eq hc4
    exact absurd hc4 (by decide)
  · replace hc4 := b_eqF hc4
    refine s_aloadN (pc' := 8) dsH_7 rfl rfl rfl ?_
    refine s_getF V1 (host := "") (Or.inl (hw _ (List.mem_of_getElem? (i := 26) rfl))) Via.refl (pc' := 11) dsH_8 rfl ?_
    refine s_iloadN (pc' := 12) dsH_11 rfl rfl ?_
    refine s_callS2 (rmlC C.l G n0 d1 k1 cs j z _ hb hch hz A1) (by simp) (hw _ (List.mem_of_getElem? (i := 181) rfl)) (hw _ (List.mem_of_getElem? (i := 182) rfl)) (hw _ (List.mem_of_getElem? (i := 11) rfl)) (hw _ (List.mem_of_getElem? (i := 183) rfl)) (by decide) (o_len pdlC rfl) rfl (pc' := 15) dsH_12 rfl (Nat.le_of_ble_eq_true rfl) (Nat.le_of_ble_eq_true rfl) (Nat.le_of_ble_eq_true rfl) (Nat.le_of_ble_eq_true rfl) (fun v12 h12 hQ12 => ?_)
    obtain ⟨rfl, rfl⟩ := hQ12
    dsimp only [oPush]
    exact s_nret (t := .char) rfl (by simp) dsH_15 (by decide) (by decide) ⟨by rw [nar_ch (hch z (List.mem_of_getElem? hz))], rfl⟩
def icE : OInfo := ("java/lang/StringLatin1", jdk_43_method_3_code, 1, (some .boolean), "canEncode", ({ frames := 0, cells := 0, slots := 0, locals := 0 } : Room))
theorem efcE (x0 : Int32) (m : MethodId) : entryFrame m #[(.int x0)] 1 = mkF m 0 #[.val (.int x0)] [] := by first | (simp [entryFrame, mkF, argsToLocals, Value.category]; done) | rfl
theorem pdcE : parseMethodDescriptor "(C)Z" = some ⟨[.char], some .boolean⟩ := by decide +kernel
theorem pncE : plainFor (⟨"java/lang/StringLatin1", "canEncode", "(C)Z"⟩ : MethodName) = true := by decide +kernel
theorem dcE_0 : decode jdk_43_method_3_code 0 = .ok (.iload_n 0, 1) := by decide +kernel
theorem dcE_1 : decode jdk_43_method_3_code 1 = .ok (.sipush 255, 3) := by decide +kernel
theorem dcE_4 : decode jdk_43_method_3_code 4 = .ok (.if_icmp .gt 7, 3) := by decide +kernel
theorem dcE_7 : decode jdk_43_method_3_code 7 = .ok (.iconst 1, 1) := by decide +kernel
theorem dcE_8 : decode jdk_43_method_3_code 8 = .ok (.goto 4, 3) := by decide +kernel
theorem dcE_12 : decode jdk_43_method_3_code 12 = .ok (.ireturn, 1) := by decide +kernel
set_option maxRecDepth 65536 in
set_option maxHeartbeats 4000000 in
theorem rmcE (l : Launch) {Z : State} {a0 : Array Value} (G : OG Z a0) (n0 : Nat) (z : Int32) (h0 : Heap) (hz : ¬ z < 0 ∧ ¬ (255 : Int32) < z) : oCon l Z n0 EL1 [] (⟨"java/lang/StringLatin1", "canEncode", "(C)Z"⟩ : MethodName) icE #[.int z] h0 (fun v h => v = some (.int 1) ∧ h = h0) := by
  obtain ⟨hw, hEL, ⟨cmp, hC, hc0⟩, ⟨fm, hfm, hF⟩⟩ := id G
  refine oCon.mk hEL pncE rfl rfl (efcE z) fun C hCl => ?_
  refine s_iloadN (pc' := 1) dcE_0 rfl rfl ?_
  refine s_sipush (x := (255 : Int32)) (pc' := 4) dcE_1 rfl rfl ?_
  refine s_icmp (pc' := 7) (pc'' := 11) dcE_4 rfl (by decide) rfl (fun hc4 => ?_) (fun hc4 => ?_)
  · replace hc4 := b_gt hc4
    exact absurd hc4 hz.2
  · replace hc4 := b_gtF hc4
    refine s_iconst (x := (1 : Int32)) (pc' := 8) dcE_7 rfl rfl ?_
    refine s_goto (pc' := 12) dcE_8 (by decide) rfl ?_
    exact s_nret (t := .boolean) rfl (by simp) dcE_12 (by decide) (by decide) ⟨rfl, rfl⟩
def itB : OInfo := ("java/lang/StringLatin1", jdk_43_method_46_code, 1, (some (.array .byte)), "toBytes", ({ frames := 0, cells := 1, slots := 1, locals := 0 } : Room))
theorem eftB (x0 : Int32) (m : MethodId) : entryFrame m #[(.int x0)] 1 = mkF m 0 #[.val (.int x0)] [] := by first | (simp [entryFrame, mkF, argsToLocals, Value.category]; done) | rfl
theorem pdtB : parseMethodDescriptor "(C)[B" = some ⟨[.char], some (.array .byte)⟩ := by decide +kernel
theorem pntB : plainFor (⟨"java/lang/StringLatin1", "toBytes", "(C)[B"⟩ : MethodName) = true := by decide +kernel
theorem dtB_0 : decode jdk_43_method_46_code 0 = .ok (.iconst 1, 1) := by decide +kernel
theorem dtB_1 : decode jdk_43_method_46_code 1 = .ok (.newarray .byte, 2) := by decide +kernel
theorem dtB_3 : decode jdk_43_method_46_code 3 = .ok (.dup, 1) := by decide +kernel
theorem dtB_4 : decode jdk_43_method_46_code 4 = .ok (.iconst 0, 1) := by decide +kernel
theorem dtB_5 : decode jdk_43_method_46_code 5 = .ok (.iload_n 0, 1) := by decide +kernel
theorem dtB_6 : decode jdk_43_method_46_code 6 = .ok (.i2b, 1) := by decide +kernel
theorem dtB_7 : decode jdk_43_method_46_code 7 = .ok (.bastore, 1) := by decide +kernel
theorem dtB_8 : decode jdk_43_method_46_code 8 = .ok (.areturn, 1) := by decide +kernel
set_option maxRecDepth 65536 in
set_option maxHeartbeats 4000000 in
theorem rmtB (l : Launch) {Z : State} {a0 : Array Value} (G : OG Z a0) (n0 : Nat) (z : Int32) (h0 : Heap) : oCon l Z n0 EL1 [] (⟨"java/lang/StringLatin1", "toBytes", "(C)[B"⟩ : MethodName) itB #[.int z] h0 (fun v h => ∃ d k, v = some (.ref d) ∧ h0.size ≤ d ∧ Ext h0 h ∧ Arv Z h d k .byte (Int32.ofNat [z].length) ([z].map fun c => Value.int (byt c)) (.int 0)) := by
  obtain ⟨hw, hEL, ⟨cmp, hC, hc0⟩, ⟨fm, hfm, hF⟩⟩ := id G
  refine oCon.mk hEL pntB rfl rfl (eftB z) fun C hCl => ?_
  refine s_iconst (x := (1 : Int32)) (pc' := 1) dtB_0 rfl rfl ?_
  refine s_newA 1 (hw _ (List.mem_of_getElem? (i := 18) rfl)) (pc' := 3) dtB_1 rfl (by decide) (by decide) (by decide) (Nat.le_of_ble_eq_true rfl) (Nat.le_of_ble_eq_true rfl) (fun h1 b1 k1 g1 nb1 E1 A1 => ?_)
  refine s_dup (pc' := 4) dtB_3 rfl rfl ?_
  refine s_iconst (x := (0 : Int32)) (pc' := 5) dtB_4 rfl rfl ?_
  refine s_iloadN (pc' := 6) dtB_5 rfl rfl ?_
  refine s_i2b (pc' := 7) dtB_6 rfl ?_
  refine s_bastore (o_padTo A1 1) nb1 (by simp) (by decide) (by decide) 0 rfl (by simp) (pc' := 8) dtB_7 rfl (fun h7 W7 A7 => ?_)
  rw [byt_byt] at A7
  exact s_aret rfl rfl rfl dtB_8 (Nat.le_of_ble_eq_true rfl) (Nat.le_of_ble_eq_true rfl) ⟨b1, k1, rfl, Nat.le_of_eq g1.symm, o_extKeep E1 (Keep.of_wr W7) (allS (Nat.le_of_eq g1.symm) all0), A7⟩
def isB : OInfo := ("java/lang/String", jdk_42_method_151_code, 3, none, "<init>", ({ frames := 1, cells := 0, slots := 0, locals := 12 } : Room))
theorem efsB (x0 : Addr) (x1 : Addr) (x2 : Int32) (m : MethodId) : entryFrame m #[(.ref x0), (.ref x1), (.int x2)] 3 = mkF m 0 #[.val (.ref x0), .val (.ref x1), .val (.int x2)] [] := by first | (simp [entryFrame, mkF, argsToLocals, Value.category]; done) | rfl
theorem pdsB : parseMethodDescriptor "([BB)V" = some ⟨[(.array .byte), .byte], none⟩ := by decide +kernel
theorem pnsB : plainFor (⟨"java/lang/String", "<init>", "([BB)V"⟩ : MethodName) = true := by decide +kernel
theorem dsB_0 : decode jdk_42_method_151_code 0 = .ok (.aload_n 0, 1) := by decide +kernel
theorem dsB_1 : decode jdk_42_method_151_code 1 = .ok (.invokespecial 1, 3) := by decide +kernel
theorem dsB_4 : decode jdk_42_method_151_code 4 = .ok (.aload_n 0, 1) := by decide +kernel
theorem dsB_5 : decode jdk_42_method_151_code 5 = .ok (.aload_n 1, 1) := by decide +kernel
theorem dsB_6 : decode jdk_42_method_151_code 6 = .ok (.putfield 9, 3) := by decide +kernel
theorem dsB_9 : decode jdk_42_method_151_code 9 = .ok (.aload_n 0, 1) := by decide +kernel
theorem dsB_10 : decode jdk_42_method_151_code 10 = .ok (.iload_n 2, 1) := by decide +kernel
theorem dsB_11 : decode jdk_42_method_151_code 11 = .ok (.putfield 15, 3) := by decide +kernel
theorem dsB_14 : decode jdk_42_method_151_code 14 = .ok (.return_, 1) := by decide +kernel
set_option maxRecDepth 65536 in
set_option maxHeartbeats 4000000 in
theorem rmsB (l : Launch) {Z : State} {a0 : Array Value} (G : OG Z a0) (n0 : Nat) (a d : Addr) (k : ClassId) (cs : List Int32) (h0 : Heap) (had : a ≠ d) (A : Arv Z h0 d k .byte (Int32.ofNat cs.length) (cs.map fun c => Value.int (byt c)) (.int 0)) (E : Exa Z h0 a "java/lang/String") (F1 : Fld Z h0 a "java/lang/String" "value" "[B" .null) (F2 : Fld Z h0 a "java/lang/String" "coder" "B" (.int 0)) (ga : n0 ≤ a) : oCon l Z n0 EL1 [a] (⟨"java/lang/String", "<init>", "([BB)V"⟩ : MethodName) isB #[.ref a, .ref d, .int 0] h0 (fun v h => v = none ∧ Keep h0 h [a] ∧ SV Z h h.size a cs) := by
  obtain ⟨hw, hEL, ⟨cmp, hC, hc0⟩, ⟨fm, hfm, hF⟩⟩ := id G
  refine oCon.mk hEL pnsB rfl rfl (efsB a d 0) fun C hCl => ?_
  refine s_aloadN (pc' := 1) dsB_0 rfl rfl rfl ?_
  refine s_initO (hw _ (List.mem_of_getElem? (i := 23) rfl)) (hw _ (List.mem_of_getElem? (i := 24) rfl)) (hw _ (List.mem_of_getElem? (i := 25) rfl)) rfl (pc' := 4) dsB_1 rfl (Nat.le_of_ble_eq_true rfl) (Nat.le_of_ble_eq_true rfl) ?_
  refine s_aloadN (pc' := 5) dsB_4 rfl rfl rfl ?_
  refine s_aloadN (pc' := 6) dsB_5 rfl rfl rfl ?_
  refine s_putF F1 E ga (by simp) (host := "") (Or.inl (hw _ (List.mem_of_getElem? (i := 26) rfl))) Via.refl (Or.inr ⟨(hw _ (List.mem_of_getElem? (i := 27) rfl)), rfl, rfl⟩) (hw _ (List.mem_of_getElem? (i := 14) rfl)) (ty := (.array .byte)) (by decide) rfl rfl (pc' := 9) dsB_6 rfl (fun h6 W6 => ?_)
  refine s_aloadN (pc' := 10) dsB_9 rfl rfl rfl ?_
  refine s_iloadN (pc' := 11) dsB_10 rfl rfl ?_
  refine s_putF (F2.other W6 (Or.inr (slot_ne (Or.inr (hw _ (List.mem_of_getElem? (i := 29) rfl))) (Or.inr (hw _ (List.mem_of_getElem? (i := 27) rfl))) (by decide) (t := .byte) (t' := .array .byte) (by decide) (by decide)))) (E.wr W6) ga (by simp) (host := "") (Or.inl (hw _ (List.mem_of_getElem? (i := 28) rfl))) Via.refl (Or.inr ⟨(hw _ (List.mem_of_getElem? (i := 29) rfl)), rfl, rfl⟩) (hw _ (List.mem_of_getElem? (i := 14) rfl)) (ty := .byte) (by decide) rfl rfl (pc' := 14) dsB_11 rfl (fun h11 W11 => ?_)
  refine s_ret rfl dsB_14 (by decide) (by decide) ⟨rfl, ?_, d, k, ?_, ?_, ?_, ?_, ?_, ?_⟩
  · exact (Keep.of_wr W6).wr W11 (Or.inl (List.mem_cons_self ..))
  · exact ((E.wr W6).wr W11).lt
  · exact ((A.other W6 had.symm).other W11 had.symm).lt
  · exact (E.wr W6).wr W11
  · exact (F2.other W6 (Or.inr (slot_ne (Or.inr (hw _ (List.mem_of_getElem? (i := 29) rfl))) (Or.inr (hw _ (List.mem_of_getElem? (i := 27) rfl))) (by decide) (t := .byte) (t' := .array .byte) (by decide) (by decide)))).same W11
  · exact (F1.same W6).other W11 (Or.inr (slot_ne (Or.inr (hw _ (List.mem_of_getElem? (i := 27) rfl))) (Or.inr (hw _ (List.mem_of_getElem? (i := 29) rfl))) (by decide) (t := .array .byte) (t' := .byte) (by decide) (by decide)))
  · exact (A.other W6 had.symm).other W11 had.symm
def ivO : OInfo := ("java/lang/String", jdk_42_method_139_code, 1, (some (.object "java/lang/String")), "valueOf", ({ frames := 2, cells := 2, slots := 5, locals := 27 } : Room))
theorem efvO (x0 : Int32) (m : MethodId) : entryFrame m #[(.int x0)] 1 = mkF m 0 #[.val (.int x0)] [] := by first | (simp [entryFrame, mkF, argsToLocals, Value.category]; done) | rfl
theorem pdvO : parseMethodDescriptor "(C)Ljava/lang/String;" = some ⟨[.char], some (.object "java/lang/String")⟩ := by decide +kernel
theorem pnvO : plainFor (⟨"java/lang/String", "valueOf", "(C)Ljava/lang/String;"⟩ : MethodName) = true := by decide +kernel
theorem dvO_0 : decode jdk_42_method_139_code 0 = .ok (.getstatic 38, 3) := by decide +kernel
theorem dvO_3 : decode jdk_42_method_139_code 3 = .ok (.ifCond .eq 23, 3) := by decide +kernel
theorem dvO_6 : decode jdk_42_method_139_code 6 = .ok (.iload_n 0, 1) := by decide +kernel
theorem dvO_7 : decode jdk_42_method_139_code 7 = .ok (.invokestatic 1015, 3) := by decide +kernel
theorem dvO_10 : decode jdk_42_method_139_code 10 = .ok (.ifCond .eq 16, 3) := by decide +kernel
theorem dvO_13 : decode jdk_42_method_139_code 13 = .ok (.new 10, 3) := by decide +kernel
theorem dvO_16 : decode jdk_42_method_139_code 16 = .ok (.dup, 1) := by decide +kernel
theorem dvO_17 : decode jdk_42_method_139_code 17 = .ok (.iload_n 0, 1) := by decide +kernel
theorem dvO_18 : decode jdk_42_method_139_code 18 = .ok (.invokestatic 1018, 3) := by decide +kernel
theorem dvO_21 : decode jdk_42_method_139_code 21 = .ok (.iconst 0, 1) := by decide +kernel
theorem dvO_22 : decode jdk_42_method_139_code 22 = .ok (.invokespecial 209, 3) := by decide +kernel
theorem dvO_25 : decode jdk_42_method_139_code 25 = .ok (.areturn, 1) := by decide +kernel
set_option maxRecDepth 65536 in
set_option maxHeartbeats 4000000 in
theorem rmvO (l : Launch) {Z : State} {a0 : Array Value} (G : OG Z a0) (n0 : Nat) (z : Int32) (h0 : Heap) (hz : ¬ z < 0 ∧ ¬ (255 : Int32) < z) : oCon l Z n0 EL1 [] (⟨"java/lang/String", "valueOf", "(C)Ljava/lang/String;"⟩ : MethodName) ivO #[.int z] h0 (fun v h => ∃ a, v = some (.ref a) ∧ h0.size ≤ a ∧ Ext h0 h ∧ SV Z h h.size a [z]) := by
  obtain ⟨hw, hEL, ⟨cmp, hC, hc0⟩, ⟨fm, hfm, hF⟩⟩ := id G
  refine oCon.mk hEL pnvO rfl rfl (efvO z) fun C hCl => ?_
  refine s_getS hC (hw _ (List.mem_of_getElem? (i := 8) rfl)) Via.refl (pc' := 3) dvO_0 rfl ?_
  refine s_if (pc' := 6) (pc'' := 26) dvO_3 rfl (by decide) rfl (fun hc3 => ?_) (fun hc3 => ?_)
  · replace hc3 := b_eq hc3
    exact absurd hc3 hc0
  · replace hc3 := b_eqF hc3
    refine s_iloadN (pc' := 7) dvO_6 rfl rfl ?_
    refine s_callS1 (rmcE C.l G n0 z h0 hz) (by simp) (hw _ (List.mem_of_getElem? (i := 9) rfl)) (hw _ (List.mem_of_getElem? (i := 10) rfl)) (hw _ (List.mem_of_getElem? (i := 11) rfl)) (hw _ (List.mem_of_getElem? (i := 12) rfl)) (by decide) (o_len pdcE rfl) rfl (pc' := 10) dvO_7 rfl (Nat.le_of_ble_eq_true rfl) (Nat.le_of_ble_eq_true rfl) (Nat.le_of_ble_eq_true rfl) (Nat.le_of_ble_eq_true rfl) (fun v7 h7 hQ7 => ?_)
    obtain ⟨rfl, rfl⟩ := hQ7
    dsimp only [oPush]
    refine s_if (pc' := 13) (pc'' := 26) dvO_10 rfl (by decide) rfl (fun hc10 => ?_) (fun hc10 => ?_)
    · replace hc10 := b_eq hc10
      exact absurd hc10 (by decide)
    · replace hc10 := b_eqF hc10
      refine s_new (hw _ (List.mem_of_getElem? (i := 13) rfl)) (hw _ (List.mem_of_getElem? (i := 14) rfl)) (hw _ (List.mem_of_getElem? (i := 6) rfl)) (pc' := 16) dvO_13 rfl (Nat.le_of_ble_eq_true rfl) (Nat.le_of_ble_eq_true rfl) (fun h13 b13 g13 nb13 E13 A13 D13 => ?_)
      refine s_dup (pc' := 17) dvO_16 rfl rfl ?_
      refine s_iloadN (pc' := 18) dvO_17 rfl rfl ?_
      refine s_callS1 (rmtB C.l G n0 z _) (by simp) (hw _ (List.mem_of_getElem? (i := 15) rfl)) (hw _ (List.mem_of_getElem? (i := 16) rfl)) (hw _ (List.mem_of_getElem? (i := 11) rfl)) (hw _ (List.mem_of_getElem? (i := 17) rfl)) (by decide) (o_len pdtB rfl) rfl (pc' := 21) dvO_18 rfl (Nat.le_of_ble_eq_true rfl) (Nat.le_of_ble_eq_true rfl) (Nat.le_of_ble_eq_true rfl) (Nat.le_of_ble_eq_true rfl) (fun v18 h18 hQ18 => ?_)
      obtain ⟨d, k, rfl, gd, E18, D18c⟩ := hQ18
      dsimp only [oPush]
      refine s_iconst (x := (0 : Int32)) (pc' := 22) dvO_21 rfl rfl ?_
      refine s_callI2 (rmsB C.l G n0 b13 d k [z] _ (o_fresh' A13.lt gd) D18c (A13.ext E18) ((D13 (Or.inr (hw _ (List.mem_of_getElem? (i := 27) rfl))) (ty := .array .byte) (by decide)).ext E18) ((D13 (Or.inr (hw _ (List.mem_of_getElem? (i := 29) rfl))) (ty := .byte) (by decide)).ext E18) nb13) (by simp) rfl rfl (hw _ (List.mem_of_getElem? (i := 19) rfl)) (hw _ (List.mem_of_getElem? (i := 20) rfl)) (hw _ (List.mem_of_getElem? (i := 6) rfl)) (hw _ (List.mem_of_getElem? (i := 22) rfl)) (by decide) (o_len pdsB rfl) rfl (pc' := 25) dvO_22 rfl (Nat.le_of_ble_eq_true rfl) (Nat.le_of_ble_eq_true rfl) (Nat.le_of_ble_eq_true rfl) (Nat.le_of_ble_eq_true rfl) (fun v22 h22 hQ22 => ?_)
      obtain ⟨rfl, K22, V22⟩ := hQ22
      dsimp only [oPush]
      exact s_aret rfl rfl rfl dvO_25 (Nat.le_of_ble_eq_true rfl) (Nat.le_of_ble_eq_true rfl) ⟨b13, rfl, Nat.le_of_eq g13.symm, o_extKeep (o_ext E13 E18) K22 (allS (Nat.le_of_eq g13.symm) all0), V22⟩
theorem pn0 : plainName "com/example/typeloom/typeloom/ttcn/ConstantDefinitionTextPinLaw" = true := by first | (simp [plainName, overriddenIn]; done) | decide +kernel
-- OWN: a StringBuilder of Latin-1 chars
theorem shl_zero (x : Int32) : x <<< ((0 : Int32) &&& 31) = x := by
  have e : ((0 : Int32) &&& 31) = 0 := by decide
  rw [e, Int32.shiftLeft_zero]
theorem n_add (a b : Nat) : (Int32.ofNat a + Int32.ofNat b : Int32) = Int32.ofNat (a + b) := by rw [Int32.ofNat_add]
theorem n_toInt {a : Nat} (h : a < 2147483648) : (Int32.ofNat a).toInt = a := by
  have q := cl h
  have p := nn h
  rw [o_lt] at p
  have e : (0 : Int32).toInt = 0 := rfl
  rw [e] at p
  have r : (Int32.ofNat a).toNatClampNeg = (Int32.ofNat a).toInt.toNat := rfl
  omega
theorem n_sub {a b : Nat} (ha : a < 2147483648) (hb : b < 2147483648) : (Int32.ofNat a - Int32.ofNat b).toInt = (a : Int) - b := by
  have q := c_isub (Int32.ofNat a) (Int32.ofNat b)
  rw [n_toInt ha, n_toInt hb] at q
  have h1 := (Int32.ofNat a - Int32.ofNat b).toInt_lt
  have h2 := (Int32.ofNat a - Int32.ofNat b).le_toInt
  have e1 : (2 : Int) ^ 31 = 2147483648 := rfl
  omega
theorem n_subp {a b : Nat} (ha : a < 2147483648) (hb : b < 2147483648) : (0 : Int32) < Int32.ofNat a - Int32.ofNat b ↔ b < a := by
  rw [o_lt, n_sub ha hb]
  have e : (0 : Int32).toInt = 0 := rfl
  rw [e]; omega
theorem max18 {g : Int32} (h : ¬ (18 : Int32) < g) : (if g < 18 then (18 : Int32) else g) = 18 := by
  split
  · rfl
  · rename_i q
    rw [o_lt] at h q
    rw [o_eq]; omega
theorem min_nm {n m : Nat} (hm : m < 2147483648) (h : n ≤ m) : (if Int32.ofNat n < Int32.ofNat m then Int32.ofNat n else Int32.ofNat m) = Int32.ofNat n := by
  split
  · rfl
  · rename_i q
    have : n = m := by
      by_cases z : n < m
      · exact absurd (lt' hm z) q
      · omega
    rw [this]
def BB (bs : List Int32) (cap : Nat) : List Value := bs.map (fun c => Value.int (byt c)) ++ List.replicate (cap - bs.length) (.int 0)
theorem BB_len {bs : List Int32} {cap : Nat} (h : bs.length ≤ cap) : (BB bs cap).length = cap := by simp [BB]; omega
theorem BB_nil (cap : Nat) : BB [] cap = List.replicate cap (.int 0) := by simp [BB]
theorem BB_full (bs : List Int32) : BB bs bs.length = bs.map fun c => Value.int (byt c) := by simp [BB]
theorem rng {l : List Value} {d : Value} {n : Nat} (h : n ≤ l.length) : ((List.range n).map fun i => l.getD (0 + i) d) = l.take n := by
  apply List.ext_getElem
  · simp; omega
  · intro i h1 h2
    simp at h1
    have : i < l.length := by omega
    simp [List.getD_eq_getElem?_getD, this]
theorem BB_app {bs cs : List Int32} {cap : Nat} (h : bs.length + cs.length ≤ cap) : (BB bs cap).take bs.length ++ ((List.range cs.length).map fun i => (cs.map fun c => Value.int (byt c)).getD (0 + i) (.int 0)) ++ (BB bs cap).drop (bs.length + cs.length) = BB (bs ++ cs) cap := by
  rw [rng (by simp)]
  have e1 : (BB bs cap).take bs.length = bs.map fun c => Value.int (byt c) := by
    unfold BB; rw [List.take_append_of_le_length (by simp)]; rw [List.take_of_length_le (by simp)]
  have e2 : (BB bs cap).drop (bs.length + cs.length) = List.replicate (cap - (bs.length + cs.length)) (.int 0) := by
    unfold BB
    rw [List.drop_append, List.drop_of_length_le (by simp), List.length_map, Nat.add_sub_cancel_left, List.drop_replicate, List.nil_append]
    congr 1; omega
  have e3 : ((cs.map fun c => Value.int (byt c)).take cs.length) = cs.map fun c => Value.int (byt c) := List.take_of_length_le (by simp)
  rw [e1, e2, e3]
  simp [BB]
theorem BB_grow {bs : List Int32} (h : bs.length ≤ 16) : (List.replicate 34 (Value.int 0)).take 0 ++ ((List.range 16).map fun i => (BB bs 16).getD (0 + i) (.int 0)) ++ (List.replicate 34 (Value.int 0)).drop (0 + 16) = BB bs 34 := by
  rw [List.take_zero, List.nil_append, rng (by rw [BB_len h]; exact Nat.le_refl _), List.take_of_length_le (by rw [BB_len h]; exact Nat.le_refl _)]
  unfold BB
  rw [List.drop_replicate, List.append_assoc, List.replicate_append_replicate]
  congr 2; omega
theorem BB_cut {bs : List Int32} {cap n : Nat} (h : bs.length ≤ cap) (hn : n = bs.length) : (List.replicate n (Value.int 0)).take 0 ++ ((List.range n).map fun i => (BB bs cap).getD (0 + i) (.int 0)) ++ (List.replicate n (Value.int 0)).drop (0 + n) = bs.map fun c => Value.int (byt c) := by
  subst hn
  rw [List.take_zero, List.nil_append, rng (by rw [BB_len h]; exact h)]
  unfold BB
  rw [List.take_append_of_le_length (by simp), List.take_of_length_le (by simp)]
  simp
def BD (Z : State) (h : Heap) (b a : Addr) (k : ClassId) (cap : Nat) (bs : List Int32) : Prop := Exa Z h b "java/lang/StringBuilder" ∧ Fld Z h b "java/lang/AbstractStringBuilder" "value" "[B" (.ref a) ∧ Fld Z h b "java/lang/AbstractStringBuilder" "coder" "B" (.int 0) ∧ Fld Z h b "java/lang/AbstractStringBuilder" "count" "I" (.int (Int32.ofNat bs.length)) ∧ Arv Z h a k .byte (Int32.ofNat cap) (BB bs cap) (.int 0) ∧ Exa Z h a "[B" ∧ bs.length ≤ cap ∧ cap ≤ 64
theorem BD.ext {Z : State} {h h' : Heap} {b a : Addr} {k : ClassId} {cap : Nat} {bs : List Int32} (B : BD Z h b a k cap bs) (E : Ext h h') : BD Z h' b a k cap bs := by
  obtain ⟨h1, h2, h3, h4, h5, h6, h7⟩ := B; exact ⟨h1.ext E, h2.ext E, h3.ext E, h4.ext E, h5.ext E, h6.ext E, h7⟩
theorem BD.ne {Z : State} {h : Heap} {b a : Addr} {k : ClassId} {cap : Nat} {bs : List Int32} (B : BD Z h b a k cap bs) : a ≠ b := Exa.ne B.2.2.2.2.2.1 B.1 (by decide)
theorem SV.ne {Z : State} {h : Heap} {N : Nat} {s b : Addr} {cs : List Int32} {n : Nat} {a0 : Array Value} (w : (Jvm.Cond.instantiable "java/lang/StringBuilder" n).before a0 Z = true) (F : SV Z h N s cs) (E : Exa Z h b "java/lang/StringBuilder") {h' : Heap} (K : Keep h h' [b]) : SV Z h' N s cs := by
  obtain ⟨d, k, h1, h2, h3, h4, h5, h6⟩ := F
  have n1 : s ≠ b := Exa.ne h3 E (by decide)
  have n2 : b ≠ d := Exa.neArv E h6 w
  exact ⟨d, k, h1, h2, h3.keep K, h4.keep K (by simp [n1]), h5.keep K (by simp [n1]), h6.keep K (by simp [n2.symm])⟩
def iai : OInfo := ("java/lang/AbstractStringBuilder", jdk_68_method_2_code, 2, none, "<init>", ({ frames := 1, cells := 1, slots := 16, locals := 13 } : Room))
theorem efai (x0 : Addr) (x1 : Int32) (m : MethodId) : entryFrame m #[(.ref x0), (.int x1)] 2 = mkF m 0 #[.val (.ref x0), .val (.int x1)] [] := by first | (simp [entryFrame, mkF, argsToLocals, Value.category]; done) | rfl
theorem pdai : parseMethodDescriptor "(I)V" = some ⟨[.int], none⟩ := by decide +kernel
theorem pnai : plainFor (⟨"java/lang/AbstractStringBuilder", "<init>", "(I)V"⟩ : MethodName) = true := by decide +kernel
theorem dai_0 : decode jdk_68_method_2_code 0 = .ok (.aload_n 0, 1) := by decide +kernel
theorem dai_1 : decode jdk_68_method_2_code 1 = .ok (.invokespecial 3, 3) := by decide +kernel
theorem dai_4 : decode jdk_68_method_2_code 4 = .ok (.getstatic 18, 3) := by decide +kernel
theorem dai_7 : decode jdk_68_method_2_code 7 = .ok (.ifCond .eq 18, 3) := by decide +kernel
theorem dai_10 : decode jdk_68_method_2_code 10 = .ok (.aload_n 0, 1) := by decide +kernel
theorem dai_11 : decode jdk_68_method_2_code 11 = .ok (.iload_n 1, 1) := by decide +kernel
theorem dai_12 : decode jdk_68_method_2_code 12 = .ok (.newarray .byte, 2) := by decide +kernel
theorem dai_14 : decode jdk_68_method_2_code 14 = .ok (.putfield 15, 3) := by decide +kernel
theorem dai_17 : decode jdk_68_method_2_code 17 = .ok (.aload_n 0, 1) := by decide +kernel
theorem dai_18 : decode jdk_68_method_2_code 18 = .ok (.iconst 0, 1) := by decide +kernel
theorem dai_19 : decode jdk_68_method_2_code 19 = .ok (.putfield 22, 3) := by decide +kernel
theorem dai_22 : decode jdk_68_method_2_code 22 = .ok (.goto 16, 3) := by decide +kernel
theorem dai_38 : decode jdk_68_method_2_code 38 = .ok (.return_, 1) := by decide +kernel
set_option maxRecDepth 65536 in
set_option maxHeartbeats 4000000 in
theorem rmai (l : Launch) {Z : State} {a0 : Array Value} (G : OG Z a0) (n0 : Nat) (b : Addr) (n : Nat) (hn : n ≤ 16) (h0 : Heap) (XB : Exa Z h0 b "java/lang/StringBuilder") (F1 : Fld Z h0 b "java/lang/AbstractStringBuilder" "value" "[B" .null) (F2 : Fld Z h0 b "java/lang/AbstractStringBuilder" "coder" "B" (.int 0)) (F3 : Fld Z h0 b "java/lang/AbstractStringBuilder" "count" "I" (.int 0)) (gb : n0 ≤ b) : oConG l Z n0 EL1 [b] (⟨"java/lang/AbstractStringBuilder", "<init>", "(I)V"⟩ : MethodName) iai #[.ref b, .int (Int32.ofNat n)] h0 (oR Z EL1 (fun v h rs => ∃ a k, rs = [a] ∧ v = none ∧ h0.size ≤ a ∧ Keep h0 h [b] ∧ BD Z h b a k n [])) := by
  obtain ⟨hw, hEL, ⟨cmp, hC, hc0⟩, ⟨fm, hfm, hF⟩⟩ := id G
  refine oCon.mk hEL pnai rfl rfl (efai b _) fun C hCl => ?_
  refine s_aloadN (pc' := 1) dai_0 rfl rfl rfl ?_
  refine s_initO (hw _ (List.mem_of_getElem? (i := 68) rfl)) (hw _ (List.mem_of_getElem? (i := 24) rfl)) (hw _ (List.mem_of_getElem? (i := 25) rfl)) rfl (pc' := 4) dai_1 rfl (Nat.le_of_ble_eq_true rfl) (Nat.le_of_ble_eq_true rfl) ?_
  refine s_getS hC (hw _ (List.mem_of_getElem? (i := 69) rfl)) Via.refl (pc' := 7) dai_4 rfl ?_
  refine s_if (pc' := 10) (pc'' := 25) dai_7 rfl (by decide) rfl (fun hc7 => ?_) (fun hc7 => ?_)
  · replace hc7 := b_eq hc7
    exact absurd hc7 hc0
  · replace hc7 := b_eqF hc7
    refine s_aloadN (pc' := 11) dai_10 rfl rfl rfl ?_
    refine s_iloadN (pc' := 12) dai_11 rfl rfl ?_
    refine s_newAE 16 (ad := "[B") (by decide) (hw _ (List.mem_of_getElem? (i := 18) rfl)) (pc' := 14) dai_12 rfl (nn (by omega)) (by rw [cl (by omega)]; exact hn) (by decide) (Nat.le_of_ble_eq_true rfl) (Nat.le_of_ble_eq_true rfl) (fun h12 b12 k12 g12 nb12 E12 A12 X12 => ?_)
    have hne : b12 ≠ b := (o_fresh XB.lt g12).symm
    replace A12 := o_padTo A12 n
    refine s_putF (F1.ext E12) (XB.ext E12) gb (by simp) (host := "") (Or.inl (hw _ (List.mem_of_getElem? (i := 70) rfl))) Via.refl (Or.inl (hw _ (List.mem_of_getElem? (i := 71) rfl))) (hw _ (List.mem_of_getElem? (i := 57) rfl)) (ty := .array .byte) (by decide) rfl rfl (pc' := 17) dai_14 rfl (fun h14 W14 => ?_)
    refine s_aloadN (pc' := 18) dai_17 rfl rfl rfl ?_
    refine s_iconst (x := (0 : Int32)) (pc' := 19) dai_18 rfl rfl ?_
    refine s_putF ((F2.ext E12).other W14 (Or.inr (slot_ne (Or.inl (hw _ (List.mem_of_getElem? (i := 73) rfl))) (Or.inl (hw _ (List.mem_of_getElem? (i := 71) rfl))) (by decide) (t := .byte) (t' := (.array .byte)) (by decide) (by decide)))) ((XB.ext E12).wr W14) gb (by simp) (host := "") (Or.inl (hw _ (List.mem_of_getElem? (i := 72) rfl))) Via.refl (Or.inl (hw _ (List.mem_of_getElem? (i := 73) rfl))) (hw _ (List.mem_of_getElem? (i := 57) rfl)) (ty := .byte) (by decide) rfl rfl (pc' := 22) dai_19 rfl (fun h19 W19 => ?_)
    refine s_goto (pc' := 38) dai_22 (by decide) rfl ?_
    exact s_retR rfl dai_38 (Nat.le_of_ble_eq_true rfl) (Nat.le_of_ble_eq_true rfl) [b12] (by simp) ⟨b12, k12, rfl, rfl, Nat.le_of_eq g12.symm, (((Keep.refl h0 [b]).ext E12).wr W14 (Or.inl (List.mem_cons_self ..))).wr W19 (Or.inl (List.mem_cons_self ..)), (((XB.ext E12).wr W14).wr W19), (((F1.ext E12).same W14).other W19 (Or.inr (slot_ne (Or.inl (hw _ (List.mem_of_getElem? (i := 71) rfl))) (Or.inl (hw _ (List.mem_of_getElem? (i := 73) rfl))) (by decide) (t := (.array .byte)) (t' := .byte) (by decide) (by decide)))), (((F2.ext E12).other W14 (Or.inr (slot_ne (Or.inl (hw _ (List.mem_of_getElem? (i := 73) rfl))) (Or.inl (hw _ (List.mem_of_getElem? (i := 71) rfl))) (by decide) (t := .byte) (t' := (.array .byte)) (by decide) (by decide)))).same W19), (((F3.ext E12).other W14 (Or.inr (slot_ne (Or.inl (hw _ (List.mem_of_getElem? (i := 96) rfl))) (Or.inl (hw _ (List.mem_of_getElem? (i := 71) rfl))) (by decide) (t := .int) (t' := (.array .byte)) (by decide) (by decide)))).other W19 (Or.inr (slot_ne (Or.inl (hw _ (List.mem_of_getElem? (i := 96) rfl))) (Or.inl (hw _ (List.mem_of_getElem? (i := 73) rfl))) (by decide) (t := .int) (t' := .byte) (by decide) (by decide)))), by rw [BB_nil]; exact ((A12.other W14 hne).other W19 hne), ((X12.wr W14).wr W19), Nat.zero_le _, by omega⟩
def isi : OInfo := ("java/lang/StringBuilder", jdk_67_method_1_code, 1, none, "<init>", ({ frames := 2, cells := 1, slots := 16, locals := 26 } : Room))
theorem efsi (x0 : Addr) (m : MethodId) : entryFrame m #[(.ref x0)] 1 = mkF m 0 #[.val (.ref x0)] [] := by first | (simp [entryFrame, mkF, argsToLocals, Value.category]; done) | rfl
theorem pdsi : parseMethodDescriptor "()V" = some ⟨[], none⟩ := by decide +kernel
theorem pnsi : plainFor (⟨"java/lang/StringBuilder", "<init>", "()V"⟩ : MethodName) = true := by decide +kernel
theorem dsi_0 : decode jdk_67_method_1_code 0 = .ok (.aload_n 0, 1) := by decide +kernel
theorem dsi_1 : decode jdk_67_method_1_code 1 = .ok (.bipush 16, 2) := by decide +kernel
theorem dsi_3 : decode jdk_67_method_1_code 3 = .ok (.invokespecial 1, 3) := by decide +kernel
theorem dsi_6 : decode jdk_67_method_1_code 6 = .ok (.return_, 1) := by decide +kernel
set_option maxRecDepth 65536 in
set_option maxHeartbeats 4000000 in
theorem rmsi (l : Launch) {Z : State} {a0 : Array Value} (G : OG Z a0) (n0 : Nat) (b : Addr) (h0 : Heap) (XB : Exa Z h0 b "java/lang/StringBuilder") (F1 : Fld Z h0 b "java/lang/AbstractStringBuilder" "value" "[B" .null) (F2 : Fld Z h0 b "java/lang/AbstractStringBuilder" "coder" "B" (.int 0)) (F3 : Fld Z h0 b "java/lang/AbstractStringBuilder" "count" "I" (.int 0)) (gb : n0 ≤ b) : oConG l Z n0 EL1 [b] (⟨"java/lang/StringBuilder", "<init>", "()V"⟩ : MethodName) isi #[.ref b] h0 (oR Z EL1 (fun v h rs => ∃ a k, rs = [a] ∧ v = none ∧ h0.size ≤ a ∧ Keep h0 h [b] ∧ BD Z h b a k 16 [])) := by
  obtain ⟨hw, hEL, ⟨cmp, hC, hc0⟩, ⟨fm, hfm, hF⟩⟩ := id G
  refine oCon.mk hEL pnsi rfl rfl (efsi b) fun C hCl => ?_
  refine s_aloadN (pc' := 1) dsi_0 rfl rfl rfl ?_
  refine s_bipush (x := (16 : Int32)) (pc' := 3) dsi_1 rfl rfl ?_
  refine s_callI1R (rmai C.l G n0 b 16 (by decide) h0 XB F1 F2 F3 gb) (by simp) rfl rfl (hw _ (List.mem_of_getElem? (i := 62) rfl)) (hw _ (List.mem_of_getElem? (i := 63) rfl)) (hw _ (List.mem_of_getElem? (i := 66) rfl)) (hw _ (List.mem_of_getElem? (i := 67) rfl)) (by decide) (o_len pdai rfl) rfl (pc' := 6) dsi_3 rfl (Nat.le_of_ble_eq_true rfl) (Nat.le_of_ble_eq_true rfl) (Nat.le_of_ble_eq_true rfl) (Nat.le_of_ble_eq_true rfl) (fun v3 h3 rs3 hQ3 => ?_)
  obtain ⟨a, k, rfl, rfl, q1, q2, q3⟩ := hQ3
  dsimp only [oPush]
  exact s_retR rfl dsi_6 (Nat.le_of_ble_eq_true rfl) (Nat.le_of_ble_eq_true rfl) [a] (by simp) ⟨a, k, rfl, rfl, q1, q2, q3⟩
def imn : OInfo := ("java/lang/Math", jdk_29_method_69_code, 2, (some .int), "min", ({ frames := 0, cells := 0, slots := 0, locals := 0 } : Room))
theorem efmn (x0 : Int32) (x1 : Int32) (m : MethodId) : entryFrame m #[(.int x0), (.int x1)] 2 = mkF m 0 #[.val (.int x0), .val (.int x1)] [] := by first | (simp [entryFrame, mkF, argsToLocals, Value.category]; done) | rfl
theorem pdmn : parseMethodDescriptor "(II)I" = some ⟨[.int, .int], some .int⟩ := by decide +kernel
theorem pnmn : plainFor (⟨"java/lang/Math", "min", "(II)I"⟩ : MethodName) = true := by decide +kernel
theorem dmn_0 : decode jdk_29_method_69_code 0 = .ok (.iload_n 0, 1) := by decide +kernel
theorem dmn_1 : decode jdk_29_method_69_code 1 = .ok (.iload_n 1, 1) := by decide +kernel
theorem dmn_2 : decode jdk_29_method_69_code 2 = .ok (.if_icmp .gt 7, 3) := by decide +kernel
theorem dmn_5 : decode jdk_29_method_69_code 5 = .ok (.iload_n 0, 1) := by decide +kernel
theorem dmn_6 : decode jdk_29_method_69_code 6 = .ok (.goto 4, 3) := by decide +kernel
theorem dmn_9 : decode jdk_29_method_69_code 9 = .ok (.iload_n 1, 1) := by decide +kernel
theorem dmn_10 : decode jdk_29_method_69_code 10 = .ok (.ireturn, 1) := by decide +kernel
set_option maxRecDepth 65536 in
set_option maxHeartbeats 4000000 in
theorem rmmn (l : Launch) {Z : State} {a0 : Array Value} (G : OG Z a0) (n0 : Nat) (x y : Int32) (h0 : Heap) : oCon l Z n0 EL1 [] (⟨"java/lang/Math", "min", "(II)I"⟩ : MethodName) imn #[.int x, .int y] h0 (fun v h => v = some (.int (if y < x then y else x)) ∧ h = h0) := by
  obtain ⟨hw, hEL, ⟨cmp, hC, hc0⟩, ⟨fm, hfm, hF⟩⟩ := id G
  refine oCon.mk hEL pnmn rfl rfl (efmn x y) fun C hCl => ?_
  refine s_iloadN (pc' := 1) dmn_0 rfl rfl ?_
  refine s_iloadN (pc' := 2) dmn_1 rfl rfl ?_
  refine s_icmp (pc' := 5) (pc'' := 9) dmn_2 rfl (by decide) rfl (fun hc2 => ?_) (fun hc2 => ?_)
  · replace hc2 := b_gt hc2
    refine s_iloadN (pc' := 10) dmn_9 rfl rfl ?_
    exact s_iret rfl dmn_10 (Nat.le_of_ble_eq_true rfl) (Nat.le_of_ble_eq_true rfl) ⟨by first | rw [if_pos hc2] | rw [if_neg hc2], rfl⟩
  · replace hc2 := b_gtF hc2
    refine s_iloadN (pc' := 6) dmn_5 rfl rfl ?_
    refine s_goto (pc' := 10) dmn_6 (by decide) rfl ?_
    exact s_iret rfl dmn_10 (Nat.le_of_ble_eq_true rfl) (Nat.le_of_ble_eq_true rfl) ⟨by first | rw [if_pos hc2] | rw [if_neg hc2], rfl⟩
def imx : OInfo := ("java/lang/Math", jdk_29_method_65_code, 2, (some .int), "max", ({ frames := 0, cells := 0, slots := 0, locals := 0 } : Room))
theorem efmx (x0 : Int32) (x1 : Int32) (m : MethodId) : entryFrame m #[(.int x0), (.int x1)] 2 = mkF m 0 #[.val (.int x0), .val (.int x1)] [] := by first | (simp [entryFrame, mkF, argsToLocals, Value.category]; done) | rfl
theorem pdmx : parseMethodDescriptor "(II)I" = some ⟨[.int, .int], some .int⟩ := by decide +kernel
theorem pnmx : plainFor (⟨"java/lang/Math", "max", "(II)I"⟩ : MethodName) = true := by decide +kernel
theorem dmx_0 : decode jdk_29_method_65_code 0 = .ok (.iload_n 0, 1) := by decide +kernel
theorem dmx_1 : decode jdk_29_method_65_code 1 = .ok (.iload_n 1, 1) := by decide +kernel
theorem dmx_2 : decode jdk_29_method_65_code 2 = .ok (.if_icmp .lt 7, 3) := by decide +kernel
theorem dmx_5 : decode jdk_29_method_65_code 5 = .ok (.iload_n 0, 1) := by decide +kernel
theorem dmx_6 : decode jdk_29_method_65_code 6 = .ok (.goto 4, 3) := by decide +kernel
theorem dmx_9 : decode jdk_29_method_65_code 9 = .ok (.iload_n 1, 1) := by decide +kernel
theorem dmx_10 : decode jdk_29_method_65_code 10 = .ok (.ireturn, 1) := by decide +kernel
set_option maxRecDepth 65536 in
set_option maxHeartbeats 4000000 in
theorem rmmx (l : Launch) {Z : State} {a0 : Array Value} (G : OG Z a0) (n0 : Nat) (x y : Int32) (h0 : Heap) : oCon l Z n0 EL1 [] (⟨"java/lang/Math", "max", "(II)I"⟩ : MethodName) imx #[.int x, .int y] h0 (fun v h => v = some (.int (if x < y then y else x)) ∧ h = h0) := by
  obtain ⟨hw, hEL, ⟨cmp, hC, hc0⟩, ⟨fm, hfm, hF⟩⟩ := id G
  refine oCon.mk hEL pnmx rfl rfl (efmx x y) fun C hCl => ?_
  refine s_iloadN (pc' := 1) dmx_0 rfl rfl ?_
  refine s_iloadN (pc' := 2) dmx_1 rfl rfl ?_
  refine s_icmp (pc' := 5) (pc'' := 9) dmx_2 rfl (by decide) rfl (fun hc2 => ?_) (fun hc2 => ?_)
  · replace hc2 := b_lt hc2
    refine s_iloadN (pc' := 10) dmx_9 rfl rfl ?_
    exact s_iret rfl dmx_10 (Nat.le_of_ble_eq_true rfl) (Nat.le_of_ble_eq_true rfl) ⟨by first | rw [if_pos hc2] | rw [if_neg hc2], rfl⟩
  · replace hc2 := b_ltF hc2
    refine s_iloadN (pc' := 6) dmx_5 rfl rfl ?_
    refine s_goto (pc' := 10) dmx_6 (by decide) rfl ?_
    exact s_iret rfl dmx_10 (Nat.le_of_ble_eq_true rfl) (Nat.le_of_ble_eq_true rfl) ⟨by first | rw [if_pos hc2] | rw [if_neg hc2], rfl⟩
def inl : OInfo := ("jdk/internal/util/ArraysSupport", jdk_48_method_27_code, 4, (some .int), "newLength", ({ frames := 1, cells := 0, slots := 0, locals := 14 } : Room))
theorem efnl (x0 : Int32) (x1 : Int32) (x2 : Int32) (m : MethodId) : entryFrame m #[(.int x0), (.int x1), (.int x2)] 4 = mkF m 0 #[.val (.int x0), .val (.int x1), .val (.int x2), .unset] [] := by first | (simp [entryFrame, mkF, argsToLocals, Value.category]; done) | rfl
theorem pdnl : parseMethodDescriptor "(III)I" = some ⟨[.int, .int, .int], some .int⟩ := by decide +kernel
theorem pnnl : plainFor (⟨"jdk/internal/util/ArraysSupport", "newLength", "(III)I"⟩ : MethodName) = true := by decide +kernel
theorem dnl_0 : decode jdk_48_method_27_code 0 = .ok (.iload_n 0, 1) := by decide +kernel
theorem dnl_1 : decode jdk_48_method_27_code 1 = .ok (.iload_n 1, 1) := by decide +kernel
theorem dnl_2 : decode jdk_48_method_27_code 2 = .ok (.iload_n 2, 1) := by decide +kernel
theorem dnl_3 : decode jdk_48_method_27_code 3 = .ok (.invokestatic 194, 3) := by decide +kernel
theorem dnl_6 : decode jdk_48_method_27_code 6 = .ok (.iadd, 1) := by decide +kernel
theorem dnl_7 : decode jdk_48_method_27_code 7 = .ok (.istore_n 3, 1) := by decide +kernel
theorem dnl_8 : decode jdk_48_method_27_code 8 = .ok (.iconst 0, 1) := by decide +kernel
theorem dnl_9 : decode jdk_48_method_27_code 9 = .ok (.iload_n 3, 1) := by decide +kernel
theorem dnl_10 : decode jdk_48_method_27_code 10 = .ok (.if_icmp .ge 11, 3) := by decide +kernel
theorem dnl_13 : decode jdk_48_method_27_code 13 = .ok (.iload_n 3, 1) := by decide +kernel
theorem dnl_14 : decode jdk_48_method_27_code 14 = .ok (.ldc 200, 2) := by decide +kernel
theorem dnl_16 : decode jdk_48_method_27_code 16 = .ok (.if_icmp .gt 5, 3) := by decide +kernel
theorem dnl_19 : decode jdk_48_method_27_code 19 = .ok (.iload_n 3, 1) := by decide +kernel
theorem dnl_20 : decode jdk_48_method_27_code 20 = .ok (.ireturn, 1) := by decide +kernel
set_option maxRecDepth 65536 in
set_option maxHeartbeats 4000000 in
theorem rmnl (l : Launch) {Z : State} {a0 : Array Value} (G : OG Z a0) (n0 : Nat) (g : Int32) (hg : ¬ (18 : Int32) < g) (h0 : Heap) : oCon l Z n0 EL1 [] (⟨"jdk/internal/util/ArraysSupport", "newLength", "(III)I"⟩ : MethodName) inl #[.int 16, .int g, .int 18] h0 (fun v h => v = some (.int 34) ∧ h = h0) := by
  obtain ⟨hw, hEL, ⟨cmp, hC, hc0⟩, ⟨fm, hfm, hF⟩⟩ := id G
  refine oCon.mk hEL pnnl rfl rfl (efnl 16 g 18) fun C hCl => ?_
  refine s_iloadN (pc' := 1) dnl_0 rfl rfl ?_
  refine s_iloadN (pc' := 2) dnl_1 rfl rfl ?_
  refine s_iloadN (pc' := 3) dnl_2 rfl rfl ?_
  refine s_callS2 (rmmx C.l G n0 g 18 h0) (by simp) (hw _ (List.mem_of_getElem? (i := 236) rfl)) (hw _ (List.mem_of_getElem? (i := 237) rfl)) (hw _ (List.mem_of_getElem? (i := 167) rfl)) (hw _ (List.mem_of_getElem? (i := 238) rfl)) (by decide) (o_len pdmx rfl) rfl (pc' := 6) dnl_3 rfl (Nat.le_of_ble_eq_true rfl) (Nat.le_of_ble_eq_true rfl) (Nat.le_of_ble_eq_true rfl) (Nat.le_of_ble_eq_true rfl) (fun v3 h3 hQ3 => ?_)
  obtain ⟨rfl, rfl⟩ := hQ3
  dsimp only [oPush]
  rw [max18 hg]
  refine s_iadd (pc' := 7) dnl_6 rfl ?_
  refine s_istoreN (kn := 3) rfl (pc' := 8) dnl_7 rfl (o_st rfl (by first | exact One.u | exact One.val rfl | assumption) rfl) ?_
  dsimp only [List.set_cons_succ, List.set_cons_zero]
  refine s_iconst (x := (0 : Int32)) (pc' := 9) dnl_8 rfl rfl ?_
  refine s_iloadN (pc' := 10) dnl_9 rfl rfl ?_
  refine s_icmp (pc' := 13) (pc'' := 21) dnl_10 rfl (by decide) rfl (fun hc10 => ?_) (fun hc10 => ?_)
  · replace hc10 := b_ge hc10
    exact absurd (by decide) hc10
  · replace hc10 := b_geF hc10
    refine s_iloadN (pc' := 14) dnl_13 rfl rfl ?_
    refine s_ldcI (x := (2147483639 : Int32)) (hw _ (List.mem_of_getElem? (i := 239) rfl)) (pc' := 16) dnl_14 rfl ?_
    refine s_icmp (pc' := 19) (pc'' := 21) dnl_16 rfl (by decide) rfl (fun hc16 => ?_) (fun hc16 => ?_)
    · replace hc16 := b_gt hc16
      exact absurd hc16 (by decide)
    · replace hc16 := b_gtF hc16
      refine s_iloadN (pc' := 20) dnl_19 rfl rfl ?_
      exact s_iret rfl dnl_20 (Nat.le_of_ble_eq_true rfl) (Nat.le_of_ble_eq_true rfl) ⟨rfl, rfl⟩
def inc : OInfo := ("java/lang/AbstractStringBuilder", jdk_68_method_10_code, 6, (some .int), "newCapacity", ({ frames := 2, cells := 0, slots := 0, locals := 29 } : Room))
theorem efnc (x0 : Addr) (x1 : Int32) (m : MethodId) : entryFrame m #[(.ref x0), (.int x1)] 6 = mkF m 0 #[.val (.ref x0), .val (.int x1), .unset, .unset, .unset, .unset] [] := by first | (simp [entryFrame, mkF, argsToLocals, Value.category]; done) | rfl
theorem pdnc : parseMethodDescriptor "(I)I" = some ⟨[.int], some .int⟩ := by decide +kernel
theorem pnnc : plainFor (⟨"java/lang/AbstractStringBuilder", "newCapacity", "(I)I"⟩ : MethodName) = true := by decide +kernel
theorem dnc_0 : decode jdk_68_method_10_code 0 = .ok (.aload_n 0, 1) := by decide +kernel
theorem dnc_1 : decode jdk_68_method_10_code 1 = .ok (.getfield 15, 3) := by decide +kernel
theorem dnc_4 : decode jdk_68_method_10_code 4 = .ok (.arraylength, 1) := by decide +kernel
theorem dnc_5 : decode jdk_68_method_10_code 5 = .ok (.istore_n 2, 1) := by decide +kernel
theorem dnc_6 : decode jdk_68_method_10_code 6 = .ok (.iload_n 1, 1) := by decide +kernel
theorem dnc_7 : decode jdk_68_method_10_code 7 = .ok (.aload_n 0, 1) := by decide +kernel
theorem dnc_8 : decode jdk_68_method_10_code 8 = .ok (.getfield 22, 3) := by decide +kernel
theorem dnc_11 : decode jdk_68_method_10_code 11 = .ok (.ishl, 1) := by decide +kernel
theorem dnc_12 : decode jdk_68_method_10_code 12 = .ok (.istore_n 3, 1) := by decide +kernel
theorem dnc_13 : decode jdk_68_method_10_code 13 = .ok (.iload_n 3, 1) := by decide +kernel
theorem dnc_14 : decode jdk_68_method_10_code 14 = .ok (.iload_n 2, 1) := by decide +kernel
theorem dnc_15 : decode jdk_68_method_10_code 15 = .ok (.isub, 1) := by decide +kernel
theorem dnc_16 : decode jdk_68_method_10_code 16 = .ok (.istore 4, 2) := by decide +kernel
theorem dnc_18 : decode jdk_68_method_10_code 18 = .ok (.iload_n 2, 1) := by decide +kernel
theorem dnc_19 : decode jdk_68_method_10_code 19 = .ok (.iload 4, 2) := by decide +kernel
theorem dnc_21 : decode jdk_68_method_10_code 21 = .ok (.iload_n 2, 1) := by decide +kernel
theorem dnc_22 : decode jdk_68_method_10_code 22 = .ok (.iconst 2, 1) := by decide +kernel
theorem dnc_23 : decode jdk_68_method_10_code 23 = .ok (.aload_n 0, 1) := by decide +kernel
theorem dnc_24 : decode jdk_68_method_10_code 24 = .ok (.getfield 22, 3) := by decide +kernel
theorem dnc_27 : decode jdk_68_method_10_code 27 = .ok (.ishl, 1) := by decide +kernel
theorem dnc_28 : decode jdk_68_method_10_code 28 = .ok (.iadd, 1) := by decide +kernel
theorem dnc_29 : decode jdk_68_method_10_code 29 = .ok (.invokestatic 114, 3) := by decide +kernel
theorem dnc_32 : decode jdk_68_method_10_code 32 = .ok (.istore 5, 2) := by decide +kernel
theorem dnc_34 : decode jdk_68_method_10_code 34 = .ok (.iload 5, 2) := by decide +kernel
theorem dnc_36 : decode jdk_68_method_10_code 36 = .ok (.ldc 39, 2) := by decide +kernel
theorem dnc_38 : decode jdk_68_method_10_code 38 = .ok (.if_icmp .ne 13, 3) := by decide +kernel
theorem dnc_51 : decode jdk_68_method_10_code 51 = .ok (.iload 5, 2) := by decide +kernel
theorem dnc_53 : decode jdk_68_method_10_code 53 = .ok (.aload_n 0, 1) := by decide +kernel
theorem dnc_54 : decode jdk_68_method_10_code 54 = .ok (.getfield 22, 3) := by decide +kernel
theorem dnc_57 : decode jdk_68_method_10_code 57 = .ok (.ishr, 1) := by decide +kernel
theorem dnc_58 : decode jdk_68_method_10_code 58 = .ok (.ireturn, 1) := by decide +kernel
set_option maxRecDepth 65536 in
set_option maxHeartbeats 4000000 in
theorem rmnc (l : Launch) {Z : State} {a0 : Array Value} (G : OG Z a0) (n0 : Nat) (b a : Addr) (k : ClassId) (vs : List Value) (dv : Value) (m : Int32) (hg : ¬ (18 : Int32) < m - 16) (h0 : Heap) (FV : Fld Z h0 b "java/lang/AbstractStringBuilder" "value" "[B" (.ref a)) (FC : Fld Z h0 b "java/lang/AbstractStringBuilder" "coder" "B" (.int 0)) (A : Arv Z h0 a k .byte 16 vs dv) : oCon l Z n0 EL1 [] (⟨"java/lang/AbstractStringBuilder", "newCapacity", "(I)I"⟩ : MethodName) inc #[.ref b, .int m] h0 (fun v h => v = some (.int 34) ∧ h = h0) := by
  obtain ⟨hw, hEL, ⟨cmp, hC, hc0⟩, ⟨fm, hfm, hF⟩⟩ := id G
  refine oCon.mk hEL pnnc rfl rfl (efnc b m) fun C hCl => ?_
  refine s_aloadN (pc' := 1) dnc_0 rfl rfl rfl ?_
  refine s_getF FV (host := "") (Or.inl (hw _ (List.mem_of_getElem? (i := 70) rfl))) Via.refl (pc' := 4) dnc_1 rfl ?_
  refine s_alen A (pc' := 5) dnc_4 rfl ?_
  refine s_istoreN (kn := 2) rfl (pc' := 6) dnc_5 rfl (o_st rfl (by first | exact One.u | exact One.val rfl | assumption) rfl) ?_
  dsimp only [List.set_cons_succ, List.set_cons_zero]
  refine s_iloadN (pc' := 7) dnc_6 rfl rfl ?_
  refine s_aloadN (pc' := 8) dnc_7 rfl rfl rfl ?_
  refine s_getF FC (host := "") (Or.inl (hw _ (List.mem_of_getElem? (i := 72) rfl))) Via.refl (pc' := 11) dnc_8 rfl ?_
  refine s_ishl (pc' := 12) dnc_11 rfl ?_
  rw [shl_zero]
  refine s_istoreN (kn := 3) rfl (pc' := 13) dnc_12 rfl (o_st rfl (by first | exact One.u | exact One.val rfl | assumption) rfl) ?_
  dsimp only [List.set_cons_succ, List.set_cons_zero]
  refine s_iloadN (pc' := 14) dnc_13 rfl rfl ?_
  refine s_iloadN (pc' := 15) dnc_14 rfl rfl ?_
  refine s_isub (pc' := 16) dnc_15 rfl ?_
  refine s_istore (pc' := 18) dnc_16 rfl (o_st rfl (by first | exact One.u | exact One.val rfl | assumption) rfl) ?_
  dsimp only [List.set_cons_succ, List.set_cons_zero]
  refine s_iloadN (pc' := 19) dnc_18 rfl rfl ?_
  refine s_iload (pc' := 21) dnc_19 rfl rfl ?_
  refine s_iloadN (pc' := 22) dnc_21 rfl rfl ?_
  refine s_iconst (x := (2 : Int32)) (pc' := 23) dnc_22 rfl rfl ?_
  refine s_aloadN (pc' := 24) dnc_23 rfl rfl rfl ?_
  refine s_getF FC (host := "") (Or.inl (hw _ (List.mem_of_getElem? (i := 72) rfl))) Via.refl (pc' := 27) dnc_24 rfl ?_
  refine s_ishl (pc' := 28) dnc_27 rfl ?_
  rw [shl_zero]
  refine s_iadd (pc' := 29) dnc_28 rfl ?_
  rw [show (16 : Int32) + 2 = 18 from by decide]
  refine s_callS3 (rmnl C.l G n0 _ hg h0) (by simp) (hw _ (List.mem_of_getElem? (i := 232) rfl)) (hw _ (List.mem_of_getElem? (i := 233) rfl)) (hw _ (List.mem_of_getElem? (i := 234) rfl)) (hw _ (List.mem_of_getElem? (i := 235) rfl)) (by decide) (o_len pdnl rfl) rfl (pc' := 32) dnc_29 rfl (Nat.le_of_ble_eq_true rfl) (Nat.le_of_ble_eq_true rfl) (Nat.le_of_ble_eq_true rfl) (Nat.le_of_ble_eq_true rfl) (fun v29 h29 hQ29 => ?_)
  obtain ⟨rfl, rfl⟩ := hQ29
  dsimp only [oPush]
  refine s_istore (pc' := 34) dnc_32 rfl (o_st rfl (by first | exact One.u | exact One.val rfl | assumption) rfl) ?_
  dsimp only [List.set_cons_succ, List.set_cons_zero]
  refine s_iload (pc' := 36) dnc_34 rfl rfl ?_
  refine s_ldcI (x := (2147483647 : Int32)) (hw _ (List.mem_of_getElem? (i := 240) rfl)) (pc' := 38) dnc_36 rfl ?_
  refine s_icmp (pc' := 41) (pc'' := 51) dnc_38 rfl (by decide) rfl (fun hc38 => ?_) (fun hc38 => ?_)
  · replace hc38 := b_ne hc38
    refine s_iload (pc' := 53) dnc_51 rfl rfl ?_
    refine s_aloadN (pc' := 54) dnc_53 rfl rfl rfl ?_
    refine s_getF FC (host := "") (Or.inl (hw _ (List.mem_of_getElem? (i := 72) rfl))) Via.refl (pc' := 57) dnc_54 rfl ?_
    refine s_ishr (pc' := 58) dnc_57 rfl ?_
    exact s_iret rfl dnc_58 (Nat.le_of_ble_eq_true rfl) (Nat.le_of_ble_eq_true rfl) ⟨by rw [shr_zero], rfl⟩
  · replace hc38 := b_neF hc38
    exact absurd hc38 (by decide)
def ico : OInfo := ("java/util/Arrays", jdk_65_method_121_code, 3, (some (.array .byte)), "copyOf", ({ frames := 1, cells := 1, slots := 34, locals := 30 } : Room))
theorem efco (x0 : Addr) (x1 : Int32) (m : MethodId) : entryFrame m #[(.ref x0), (.int x1)] 3 = mkF m 0 #[.val (.ref x0), .val (.int x1), .unset] [] := by first | (simp [entryFrame, mkF, argsToLocals, Value.category]; done) | rfl
theorem pdco : parseMethodDescriptor "([BI)[B" = some ⟨[(.array .byte), .int], some (.array .byte)⟩ := by decide +kernel
theorem pnco : plainFor (⟨"java/util/Arrays", "copyOf", "([BI)[B"⟩ : MethodName) = true := by decide +kernel
theorem dco_0 : decode jdk_65_method_121_code 0 = .ok (.iload_n 1, 1) := by decide +kernel
theorem dco_1 : decode jdk_65_method_121_code 1 = .ok (.aload_n 0, 1) := by decide +kernel
theorem dco_2 : decode jdk_65_method_121_code 2 = .ok (.arraylength, 1) := by decide +kernel
theorem dco_3 : decode jdk_65_method_121_code 3 = .ok (.if_icmp .ne 11, 3) := by decide +kernel
theorem dco_14 : decode jdk_65_method_121_code 14 = .ok (.iload_n 1, 1) := by decide +kernel
theorem dco_15 : decode jdk_65_method_121_code 15 = .ok (.newarray .byte, 2) := by decide +kernel
theorem dco_17 : decode jdk_65_method_121_code 17 = .ok (.astore_n 2, 1) := by decide +kernel
theorem dco_18 : decode jdk_65_method_121_code 18 = .ok (.aload_n 0, 1) := by decide +kernel
theorem dco_19 : decode jdk_65_method_121_code 19 = .ok (.iconst 0, 1) := by decide +kernel
theorem dco_20 : decode jdk_65_method_121_code 20 = .ok (.aload_n 2, 1) := by decide +kernel
theorem dco_21 : decode jdk_65_method_121_code 21 = .ok (.iconst 0, 1) := by decide +kernel
theorem dco_22 : decode jdk_65_method_121_code 22 = .ok (.aload_n 0, 1) := by decide +kernel
theorem dco_23 : decode jdk_65_method_121_code 23 = .ok (.arraylength, 1) := by decide +kernel
theorem dco_24 : decode jdk_65_method_121_code 24 = .ok (.iload_n 1, 1) := by decide +kernel
theorem dco_25 : decode jdk_65_method_121_code 25 = .ok (.invokestatic 304, 3) := by decide +kernel
theorem dco_28 : decode jdk_65_method_121_code 28 = .ok (.invokestatic 150, 3) := by decide +kernel
theorem dco_31 : decode jdk_65_method_121_code 31 = .ok (.aload_n 2, 1) := by decide +kernel
theorem dco_32 : decode jdk_65_method_121_code 32 = .ok (.areturn, 1) := by decide +kernel
set_option maxRecDepth 65536 in
set_option maxHeartbeats 4000000 in
theorem rmco (l : Launch) {Z : State} {a0 : Array Value} (G : OG Z a0) (n0 : Nat) (a : Addr) (k : ClassId) (bs : List Int32) (hl : bs.length ≤ 16) (h0 : Heap) (A : Arv Z h0 a k .byte 16 (BB bs 16) (.int 0)) : oConG l Z n0 EL1 [] (⟨"java/util/Arrays", "copyOf", "([BI)[B"⟩ : MethodName) ico #[.ref a, .int 34] h0 (oR Z EL1 (fun v h rs => ∃ d k', rs = [d] ∧ v = some (.ref d) ∧ h0.size ≤ d ∧ Ext h0 h ∧ Arv Z h d k' .byte 34 (BB bs 34) (.int 0) ∧ Exa Z h d "[B")) := by
  obtain ⟨hw, hEL, ⟨cmp, hC, hc0⟩, ⟨fm, hfm, hF⟩⟩ := id G
  refine oCon.mk hEL pnco rfl rfl (efco a 34) fun C hCl => ?_
  refine s_iloadN (pc' := 1) dco_0 rfl rfl ?_
  refine s_aloadN (pc' := 2) dco_1 rfl rfl rfl ?_
  refine s_alen A (pc' := 3) dco_2 rfl ?_
  refine s_icmp (pc' := 6) (pc'' := 14) dco_3 rfl (by decide) rfl (fun hc3 => ?_) (fun hc3 => ?_)
  · replace hc3 := b_ne hc3
    refine s_iloadN (pc' := 15) dco_14 rfl rfl ?_
    refine s_newAE 34 (ad := "[B") (by decide) (hw _ (List.mem_of_getElem? (i := 18) rfl)) (pc' := 17) dco_15 rfl (by decide) (by decide) (by decide) (Nat.le_of_ble_eq_true rfl) (Nat.le_of_ble_eq_true rfl) (fun h15 b15 k15 g15 nb15 E15 A15 X15 => ?_)
    replace A15 := o_padTo A15 34
    rw [List.nil_append] at A15
    replace A := A.ext E15
    refine s_astoreN (kn := 2) rfl (pc' := 18) dco_17 rfl rfl (o_st rfl (by first | exact One.u | exact One.val rfl | assumption) rfl) ?_
    dsimp only [List.set_cons_succ, List.set_cons_zero]
    refine s_aloadN (pc' := 19) dco_18 rfl rfl rfl ?_
    refine s_iconst (x := (0 : Int32)) (pc' := 20) dco_19 rfl rfl ?_
    refine s_aloadN (pc' := 21) dco_20 rfl rfl rfl ?_
    refine s_iconst (x := (0 : Int32)) (pc' := 22) dco_21 rfl rfl ?_
    refine s_aloadN (pc' := 23) dco_22 rfl rfl rfl ?_
    refine s_alen A (pc' := 24) dco_23 rfl ?_
    refine s_iloadN (pc' := 25) dco_24 rfl rfl ?_
    refine s_callS2 (rmmn C.l G n0 16 34 _) (by simp) (hw _ (List.mem_of_getElem? (i := 165) rfl)) (hw _ (List.mem_of_getElem? (i := 166) rfl)) (hw _ (List.mem_of_getElem? (i := 167) rfl)) (hw _ (List.mem_of_getElem? (i := 168) rfl)) (by decide) (o_len pdmn rfl) rfl (pc' := 28) dco_25 rfl (Nat.le_of_ble_eq_true rfl) (Nat.le_of_ble_eq_true rfl) (Nat.le_of_ble_eq_true rfl) (Nat.le_of_ble_eq_true rfl) (fun v25 h25 hQ25 => ?_)
    obtain ⟨rfl, rfl⟩ := hQ25
    dsimp only [oPush]
    rw [if_neg (by decide)]
    refine s_copy A A15 rfl nb15 (by simp) (hw _ (List.mem_of_getElem? (i := 169) rfl)) (hw _ (List.mem_of_getElem? (i := 121) rfl)) (hw _ (List.mem_of_getElem? (i := 119) rfl)) (hw _ (List.mem_of_getElem? (i := 120) rfl)) (by decide) (by decide) (by decide) (by decide) (by decide) (by simp) rfl (pc' := 31) dco_28 rfl (Nat.le_of_ble_eq_true rfl) (Nat.le_of_ble_eq_true rfl) (fun h28 K28 A28 => ?_)
    replace A28 := Eq.mp (congrArg (fun z => Arv Z h28 b15 k15 .byte 34 z (.int 0)) (BB_grow hl)) A28
    refine s_aloadN (pc' := 32) dco_31 rfl rfl rfl ?_
    exact s_aretR rfl rfl rfl dco_32 (Nat.le_of_ble_eq_true rfl) (Nat.le_of_ble_eq_true rfl) [b15] (by simp) ⟨b15, k15, rfl, rfl, Nat.le_of_eq g15.symm, o_extKeep E15 K28 (allS (Nat.le_of_eq g15.symm) all0), A28, X15.keep K28⟩
  · replace hc3 := b_neF hc3
    exact absurd hc3 (by decide)
def iec : OInfo := ("java/lang/AbstractStringBuilder", jdk_68_method_9_code, 3, none, "ensureCapacityInternal", ({ frames := 3, cells := 1, slots := 34, locals := 48 } : Room))
theorem efec (x0 : Addr) (x1 : Int32) (m : MethodId) : entryFrame m #[(.ref x0), (.int x1)] 3 = mkF m 0 #[.val (.ref x0), .val (.int x1), .unset] [] := by first | (simp [entryFrame, mkF, argsToLocals, Value.category]; done) | rfl
theorem pdec : parseMethodDescriptor "(I)V" = some ⟨[.int], none⟩ := by decide +kernel
theorem pnec : plainFor (⟨"java/lang/AbstractStringBuilder", "ensureCapacityInternal", "(I)V"⟩ : MethodName) = true := by decide +kernel
theorem dec_0 : decode jdk_68_method_9_code 0 = .ok (.aload_n 0, 1) := by decide +kernel
theorem dec_1 : decode jdk_68_method_9_code 1 = .ok (.getfield 15, 3) := by decide +kernel
theorem dec_4 : decode jdk_68_method_9_code 4 = .ok (.arraylength, 1) := by decide +kernel
theorem dec_5 : decode jdk_68_method_9_code 5 = .ok (.aload_n 0, 1) := by decide +kernel
theorem dec_6 : decode jdk_68_method_9_code 6 = .ok (.getfield 22, 3) := by decide +kernel
theorem dec_9 : decode jdk_68_method_9_code 9 = .ok (.ishr, 1) := by decide +kernel
theorem dec_10 : decode jdk_68_method_9_code 10 = .ok (.istore_n 2, 1) := by decide +kernel
theorem dec_11 : decode jdk_68_method_9_code 11 = .ok (.iload_n 1, 1) := by decide +kernel
theorem dec_12 : decode jdk_68_method_9_code 12 = .ok (.iload_n 2, 1) := by decide +kernel
theorem dec_13 : decode jdk_68_method_9_code 13 = .ok (.isub, 1) := by decide +kernel
theorem dec_14 : decode jdk_68_method_9_code 14 = .ok (.ifCond .le 24, 3) := by decide +kernel
theorem dec_17 : decode jdk_68_method_9_code 17 = .ok (.aload_n 0, 1) := by decide +kernel
theorem dec_18 : decode jdk_68_method_9_code 18 = .ok (.aload_n 0, 1) := by decide +kernel
theorem dec_19 : decode jdk_68_method_9_code 19 = .ok (.getfield 15, 3) := by decide +kernel
theorem dec_22 : decode jdk_68_method_9_code 22 = .ok (.aload_n 0, 1) := by decide +kernel
theorem dec_23 : decode jdk_68_method_9_code 23 = .ok (.iload_n 1, 1) := by decide +kernel
theorem dec_24 : decode jdk_68_method_9_code 24 = .ok (.invokevirtual 104, 3) := by decide +kernel
theorem dec_27 : decode jdk_68_method_9_code 27 = .ok (.aload_n 0, 1) := by decide +kernel
theorem dec_28 : decode jdk_68_method_9_code 28 = .ok (.getfield 22, 3) := by decide +kernel
theorem dec_31 : decode jdk_68_method_9_code 31 = .ok (.ishl, 1) := by decide +kernel
theorem dec_32 : decode jdk_68_method_9_code 32 = .ok (.invokestatic 108, 3) := by decide +kernel
theorem dec_35 : decode jdk_68_method_9_code 35 = .ok (.putfield 15, 3) := by decide +kernel
theorem dec_38 : decode jdk_68_method_9_code 38 = .ok (.return_, 1) := by decide +kernel
set_option maxRecDepth 65536 in
set_option maxHeartbeats 4000000 in
theorem rmec (l : Launch) {Z : State} {a0 : Array Value} (G : OG Z a0) (n0 : Nat) (b a : Addr) (k : ClassId) (cap m : Nat) (bs : List Int32) (h0 : Heap) (hm : m ≤ cap ∨ (cap = 16 ∧ m ≤ 34)) (gb : n0 ≤ b) (B : BD Z h0 b a k cap bs) : oConG l Z n0 EL1 [b, a] (⟨"java/lang/AbstractStringBuilder", "ensureCapacityInternal", "(I)V"⟩ : MethodName) iec #[.ref b, .int (Int32.ofNat m)] h0 (oR Z EL1 (fun v h rs => ∃ a' k' cap', rs = [a'] ∧ v = none ∧ BD Z h b a' k' cap' bs ∧ m ≤ cap' ∧ Keep h0 h [b] ∧ (a' = a ∨ h0.size ≤ a') ∧ (cap' = cap ∨ cap' = 34))) := by
  obtain ⟨hw, hEL, ⟨cmp, hC, hc0⟩, ⟨fm, hfm, hF⟩⟩ := id G
  obtain ⟨XB, FV, FC, FN, A, XA, hl, hc⟩ := B
  refine oCon.mk hEL pnec rfl rfl (efec b _) fun C hCl => ?_
  refine s_aloadN (pc' := 1) dec_0 rfl rfl rfl ?_
  refine s_getF FV (host := "") (Or.inl (hw _ (List.mem_of_getElem? (i := 70) rfl))) Via.refl (pc' := 4) dec_1 rfl ?_
  refine s_alen A (pc' := 5) dec_4 rfl ?_
  refine s_aloadN (pc' := 6) dec_5 rfl rfl rfl ?_
  refine s_getF FC (host := "") (Or.inl (hw _ (List.mem_of_getElem? (i := 72) rfl))) Via.refl (pc' := 9) dec_6 rfl ?_
  refine s_ishr (pc' := 10) dec_9 rfl ?_
  rw [shr_zero]
  refine s_istoreN (kn := 2) rfl (pc' := 11) dec_10 rfl (o_st rfl (by first | exact One.u | exact One.val rfl | assumption) rfl) ?_
  dsimp only [List.set_cons_succ, List.set_cons_zero]
  refine s_iloadN (pc' := 12) dec_11 rfl rfl ?_
  refine s_iloadN (pc' := 13) dec_12 rfl rfl ?_
  refine s_isub (pc' := 14) dec_13 rfl ?_
  refine s_if (pc' := 17) (pc'' := 38) dec_14 rfl (by decide) rfl (fun hc14 => ?_) (fun hc14 => ?_)
  · replace hc14 := b_le hc14
    rw [n_subp (by omega) (by omega)] at hc14
    first
    | exact s_retR rfl dec_38 (Nat.le_of_ble_eq_true rfl) (Nat.le_of_ble_eq_true rfl) [d] (by simp) ⟨d, k2, 34, rfl, rfl, ⟨(XB.ext E32).wr W35, ((FV.ext E32).same W35), ((FC.ext E32).other W35 (Or.inr (slot_ne (Or.inl (hw _ (List.mem_of_getElem? (i := 73) rfl))) (Or.inl (hw _ (List.mem_of_getElem? (i := 71) rfl))) (by decide) (t := .byte) (t' := (.array .byte)) (by decide) (by decide)))), ((FN.ext E32).other W35 (Or.inr (slot_ne (Or.inl (hw _ (List.mem_of_getElem? (i := 96) rfl))) (Or.inl (hw _ (List.mem_of_getElem? (i := 71) rfl))) (by decide) (t := .int) (t' := (.array .byte)) (by decide) (by decide)))), A32.other W35 hne, X32.wr W35, by omega, by omega⟩, hm2, ((Keep.refl _ [b]).ext E32).wr W35 (Or.inl (List.mem_cons_self ..)), Or.inr gd, Or.inr rfl⟩
    | exact s_retR rfl dec_38 (Nat.le_of_ble_eq_true rfl) (Nat.le_of_ble_eq_true rfl) [a] (by simp) ⟨a, k, cap, rfl, rfl, ⟨XB, FV, FC, FN, A, XA, hl, hc⟩, by omega, Keep.refl _ _, Or.inl rfl, Or.inl rfl⟩
  · replace hc14 := b_leF hc14
    rw [n_subp (by omega) (by omega)] at hc14
    obtain ⟨rfl, hm2⟩ : cap = 16 ∧ m ≤ 34 := by omega
    have hg : ¬ (18 : Int32) < Int32.ofNat m - 16 := by
      have q := n_sub (a := m) (b := 16) (by omega) (by omega)
      rw [o_lt]; show ¬ ((18 : Int) < (Int32.ofNat m - Int32.ofNat 16).toInt); rw [q]; omega
    refine s_aloadN (pc' := 18) dec_17 rfl rfl rfl ?_
    refine s_aloadN (pc' := 19) dec_18 rfl rfl rfl ?_
    refine s_getF FV (host := "") (Or.inl (hw _ (List.mem_of_getElem? (i := 70) rfl))) Via.refl (pc' := 22) dec_19 rfl ?_
    refine s_aloadN (pc' := 23) dec_22 rfl rfl rfl ?_
    refine s_iloadN (pc' := 24) dec_23 rfl rfl ?_
    refine s_callV1 (rmnc C.l G n0 b a k _ _ (Int32.ofNat m) hg h0 FV FC A) (by simp) XB (hw _ (List.mem_of_getElem? (i := 227) rfl)) (o_declOf (hw _ (List.mem_of_getElem? (i := 228) rfl)) (hw _ (List.mem_of_getElem? (i := 231) rfl))) (hw _ (List.mem_of_getElem? (i := 230) rfl)) (hw _ (List.mem_of_getElem? (i := 228) rfl)) (o_nf (hw _ (List.mem_of_getElem? (i := 230) rfl)) rfl) (hw _ (List.mem_of_getElem? (i := 66) rfl)) (hw _ (List.mem_of_getElem? (i := 231) rfl)) (by decide) (o_len pdnc rfl) rfl (pc' := 27) dec_24 rfl (Nat.le_of_ble_eq_true rfl) (Nat.le_of_ble_eq_true rfl) (Nat.le_of_ble_eq_true rfl) (Nat.le_of_ble_eq_true rfl) (fun v24 h24 hQ24 => ?_)
    obtain ⟨rfl, rfl⟩ := hQ24
    dsimp only [oPush]
    refine s_aloadN (pc' := 28) dec_27 rfl rfl rfl ?_
    refine s_getF FC (host := "") (Or.inl (hw _ (List.mem_of_getElem? (i := 72) rfl))) Via.refl (pc' := 31) dec_28 rfl ?_
    refine s_ishl (pc' := 32) dec_31 rfl ?_
    rw [shl_zero]
    refine s_callS2R (rmco C.l G n0 a k bs hl _ A) (by simp) (hw _ (List.mem_of_getElem? (i := 241) rfl)) (hw _ (List.mem_of_getElem? (i := 242) rfl)) (hw _ (List.mem_of_getElem? (i := 157) rfl)) (hw _ (List.mem_of_getElem? (i := 243) rfl)) (by decide) (o_len pdco rfl) rfl (pc' := 35) dec_32 rfl (Nat.le_of_ble_eq_true rfl) (Nat.le_of_ble_eq_true rfl) (Nat.le_of_ble_eq_true rfl) (Nat.le_of_ble_eq_true rfl) (fun v32 h32 rs32 hQ32 => ?_)
    obtain ⟨d, k2, rfl, rfl, gd, E32, A32, X32⟩ := hQ32
    dsimp only [oPush]
    have hne : d ≠ b := (o_fresh' XB.lt gd).symm
    refine s_putF (FV.ext E32) (XB.ext E32) gb (by simp) (host := "") (Or.inl (hw _ (List.mem_of_getElem? (i := 70) rfl))) Via.refl (Or.inl (hw _ (List.mem_of_getElem? (i := 71) rfl))) (hw _ (List.mem_of_getElem? (i := 57) rfl)) (ty := .array .byte) (by decide) rfl rfl (pc' := 38) dec_35 rfl (fun h35 W35 => ?_)
    first
    | exact s_retR rfl dec_38 (Nat.le_of_ble_eq_true rfl) (Nat.le_of_ble_eq_true rfl) [d] (by simp) ⟨d, k2, 34, rfl, rfl, ⟨(XB.ext E32).wr W35, ((FV.ext E32).same W35), ((FC.ext E32).other W35 (Or.inr (slot_ne (Or.inl (hw _ (List.mem_of_getElem? (i := 73) rfl))) (Or.inl (hw _ (List.mem_of_getElem? (i := 71) rfl))) (by decide) (t := .byte) (t' := (.array .byte)) (by decide) (by decide)))), ((FN.ext E32).other W35 (Or.inr (slot_ne (Or.inl (hw _ (List.mem_of_getElem? (i := 96) rfl))) (Or.inl (hw _ (List.mem_of_getElem? (i := 71) rfl))) (by decide) (t := .int) (t' := (.array .byte)) (by decide) (by decide)))), A32.other W35 hne, X32.wr W35, by omega, by omega⟩, hm2, ((Keep.refl _ [b]).ext E32).wr W35 (Or.inl (List.mem_cons_self ..)), Or.inr gd, Or.inr rfl⟩
    | exact s_retR rfl dec_38 (Nat.le_of_ble_eq_true rfl) (Nat.le_of_ble_eq_true rfl) [a] (by simp) ⟨a, k, cap, rfl, rfl, ⟨XB, FV, FC, FN, A, XA, hl, hc⟩, by omega, Keep.refl _ _, Or.inl rfl, Or.inl rfl⟩
def inf : OInfo := ("java/lang/AbstractStringBuilder", jdk_68_method_71_code, 2, none, "inflateIfNeededFor", ({ frames := 1, cells := 0, slots := 0, locals := 13 } : Room))
theorem efnf (x0 : Addr) (x1 : Addr) (m : MethodId) : entryFrame m #[(.ref x0), (.ref x1)] 2 = mkF m 0 #[.val (.ref x0), .val (.ref x1)] [] := by first | (simp [entryFrame, mkF, argsToLocals, Value.category]; done) | rfl
theorem pdnf : parseMethodDescriptor "(Ljava/lang/String;)V" = some ⟨[(.object "java/lang/String")], none⟩ := by decide +kernel
theorem pnnf : plainFor (⟨"java/lang/AbstractStringBuilder", "inflateIfNeededFor", "(Ljava/lang/String;)V"⟩ : MethodName) = true := by decide +kernel
theorem dnf_0 : decode jdk_68_method_71_code 0 = .ok (.getstatic 18, 3) := by decide +kernel
theorem dnf_3 : decode jdk_68_method_71_code 3 = .ok (.ifCond .eq 18, 3) := by decide +kernel
theorem dnf_6 : decode jdk_68_method_71_code 6 = .ok (.aload_n 0, 1) := by decide +kernel
theorem dnf_7 : decode jdk_68_method_71_code 7 = .ok (.getfield 22, 3) := by decide +kernel
theorem dnf_10 : decode jdk_68_method_71_code 10 = .ok (.aload_n 1, 1) := by decide +kernel
theorem dnf_11 : decode jdk_68_method_71_code 11 = .ok (.invokevirtual 40, 3) := by decide +kernel
theorem dnf_14 : decode jdk_68_method_71_code 14 = .ok (.if_icmp .eq 7, 3) := by decide +kernel
theorem dnf_21 : decode jdk_68_method_71_code 21 = .ok (.return_, 1) := by decide +kernel
set_option maxRecDepth 65536 in
set_option maxHeartbeats 4000000 in
theorem rmnf (l : Launch) {Z : State} {a0 : Array Value} (G : OG Z a0) (n0 : Nat) (b s : Addr) (h0 : Heap) (FC : Fld Z h0 b "java/lang/AbstractStringBuilder" "coder" "B" (.int 0)) (E1 : Exa Z h0 s "java/lang/String") (C1 : Fld Z h0 s "java/lang/String" "coder" "B" (.int 0)) : oCon l Z n0 EL1 [] (⟨"java/lang/AbstractStringBuilder", "inflateIfNeededFor", "(Ljava/lang/String;)V"⟩ : MethodName) inf #[.ref b, .ref s] h0 (fun v h => v = none ∧ h = h0) := by
  obtain ⟨hw, hEL, ⟨cmp, hC, hc0⟩, ⟨fm, hfm, hF⟩⟩ := id G
  refine oCon.mk hEL pnnf rfl rfl (efnf b s) fun C hCl => ?_
  refine s_getS hC (hw _ (List.mem_of_getElem? (i := 69) rfl)) Via.refl (pc' := 3) dnf_0 rfl ?_
  refine s_if (pc' := 6) (pc'' := 21) dnf_3 rfl (by decide) rfl (fun hc3 => ?_) (fun hc3 => ?_)
  · replace hc3 := b_eq hc3
    exact absurd hc3 hc0
  · replace hc3 := b_eqF hc3
    refine s_aloadN (pc' := 7) dnf_6 rfl rfl rfl ?_
    refine s_getF FC (host := "") (Or.inl (hw _ (List.mem_of_getElem? (i := 72) rfl))) Via.refl (pc' := 10) dnf_7 rfl ?_
    refine s_aloadN (pc' := 11) dnf_10 rfl rfl rfl ?_
    refine s_callV0 (rmsK C.l G n0 s h0 C1) (by simp) E1 (hw _ (List.mem_of_getElem? (i := 112) rfl)) (hw _ (List.mem_of_getElem? (i := 91) rfl)) (hw _ (List.mem_of_getElem? (i := 93) rfl)) (hw _ (List.mem_of_getElem? (i := 92) rfl)) (o_nf (hw _ (List.mem_of_getElem? (i := 93) rfl)) rfl) (hw _ (List.mem_of_getElem? (i := 6) rfl)) (hw _ (List.mem_of_getElem? (i := 94) rfl)) (by decide) (o_len pdsK rfl) rfl (pc' := 14) dnf_11 rfl (Nat.le_of_ble_eq_true rfl) (Nat.le_of_ble_eq_true rfl) (Nat.le_of_ble_eq_true rfl) (Nat.le_of_ble_eq_true rfl) (fun v11 h11 hQ11 => ?_)
    obtain ⟨rfl, rfl⟩ := hQ11
    dsimp only [oPush]
    refine s_icmp (pc' := 17) (pc'' := 21) dnf_14 rfl (by decide) rfl (fun hc14 => ?_) (fun hc14 => ?_)
    · replace hc14 := b_eq hc14
      exact s_ret rfl dnf_21 (Nat.le_of_ble_eq_true rfl) (Nat.le_of_ble_eq_true rfl) ⟨rfl, rfl⟩
    · replace hc14 := b_eqF hc14
      exact absurd rfl hc14
def igb : OInfo := ("java/lang/String", jdk_42_method_147_code, 4, none, "getBytes", ({ frames := 1, cells := 0, slots := 0, locals := 30 } : Room))
theorem efgb (x0 : Addr) (x1 : Addr) (x2 : Int32) (x3 : Int32) (m : MethodId) : entryFrame m #[(.ref x0), (.ref x1), (.int x2), (.int x3)] 4 = mkF m 0 #[.val (.ref x0), .val (.ref x1), .val (.int x2), .val (.int x3)] [] := by first | (simp [entryFrame, mkF, argsToLocals, Value.category]; done) | rfl
theorem pdgb : parseMethodDescriptor "([BIB)V" = some ⟨[(.array .byte), .int, .byte], none⟩ := by decide +kernel
theorem pngb : plainFor (⟨"java/lang/String", "getBytes", "([BIB)V"⟩ : MethodName) = true := by decide +kernel
theorem dgb_0 : decode jdk_42_method_147_code 0 = .ok (.aload_n 0, 1) := by decide +kernel
theorem dgb_1 : decode jdk_42_method_147_code 1 = .ok (.invokevirtual 335, 3) := by decide +kernel
theorem dgb_4 : decode jdk_42_method_147_code 4 = .ok (.iload_n 3, 1) := by decide +kernel
theorem dgb_5 : decode jdk_42_method_147_code 5 = .ok (.if_icmp .ne 23, 3) := by decide +kernel
theorem dgb_8 : decode jdk_42_method_147_code 8 = .ok (.aload_n 0, 1) := by decide +kernel
theorem dgb_9 : decode jdk_42_method_147_code 9 = .ok (.getfield 9, 3) := by decide +kernel
theorem dgb_12 : decode jdk_42_method_147_code 12 = .ok (.iconst 0, 1) := by decide +kernel
theorem dgb_13 : decode jdk_42_method_147_code 13 = .ok (.aload_n 1, 1) := by decide +kernel
theorem dgb_14 : decode jdk_42_method_147_code 14 = .ok (.iload_n 2, 1) := by decide +kernel
theorem dgb_15 : decode jdk_42_method_147_code 15 = .ok (.iload_n 3, 1) := by decide +kernel
theorem dgb_16 : decode jdk_42_method_147_code 16 = .ok (.ishl, 1) := by decide +kernel
theorem dgb_17 : decode jdk_42_method_147_code 17 = .ok (.aload_n 0, 1) := by decide +kernel
theorem dgb_18 : decode jdk_42_method_147_code 18 = .ok (.getfield 9, 3) := by decide +kernel
theorem dgb_21 : decode jdk_42_method_147_code 21 = .ok (.arraylength, 1) := by decide +kernel
theorem dgb_22 : decode jdk_42_method_147_code 22 = .ok (.invokestatic 212, 3) := by decide +kernel
theorem dgb_25 : decode jdk_42_method_147_code 25 = .ok (.goto 18, 3) := by decide +kernel
theorem dgb_43 : decode jdk_42_method_147_code 43 = .ok (.return_, 1) := by decide +kernel
set_option maxRecDepth 65536 in
set_option maxHeartbeats 4000000 in
theorem rmgb (l : Launch) {Z : State} {a0 : Array Value} (G : OG Z a0) (n0 : Nat) (s a d : Addr) (k kd : ClassId) (cap : Nat) (bs cs : List Int32) (hl : bs.length + cs.length ≤ cap) (hc : cap ≤ 64) (h0 : Heap) (ga : n0 ≤ a) (A : Arv Z h0 a k .byte (Int32.ofNat cap) (BB bs cap) (.int 0)) (E1 : Exa Z h0 s "java/lang/String") (C1 : Fld Z h0 s "java/lang/String" "coder" "B" (.int 0)) (V1 : Fld Z h0 s "java/lang/String" "value" "[B" (.ref d)) (D1 : Arv Z h0 d kd .byte (Int32.ofNat cs.length) (cs.map fun c => Value.int (byt c)) (.int 0)) : oCon l Z n0 EL1 [a] (⟨"java/lang/String", "getBytes", "([BIB)V"⟩ : MethodName) igb #[.ref s, .ref a, .int (Int32.ofNat bs.length), .int 0] h0 (fun v h => v = none ∧ Keep h0 h [a] ∧ Arv Z h a k .byte (Int32.ofNat cap) (BB (bs ++ cs) cap) (.int 0)) := by
  obtain ⟨hw, hEL, ⟨cmp, hC, hc0⟩, ⟨fm, hfm, hF⟩⟩ := id G
  refine oCon.mk hEL pngb rfl rfl (efgb s a _ 0) fun C hCl => ?_
  refine s_aloadN (pc' := 1) dgb_0 rfl rfl rfl ?_
  refine s_callV0 (rmsK C.l G n0 s h0 C1) (by simp) E1 (hw _ (List.mem_of_getElem? (i := 90) rfl)) (hw _ (List.mem_of_getElem? (i := 91) rfl)) (hw _ (List.mem_of_getElem? (i := 93) rfl)) (hw _ (List.mem_of_getElem? (i := 92) rfl)) (o_nf (hw _ (List.mem_of_getElem? (i := 93) rfl)) rfl) (hw _ (List.mem_of_getElem? (i := 6) rfl)) (hw _ (List.mem_of_getElem? (i := 94) rfl)) (by decide) (o_len pdsK rfl) rfl (pc' := 4) dgb_1 rfl (Nat.le_of_ble_eq_true rfl) (Nat.le_of_ble_eq_true rfl) (Nat.le_of_ble_eq_true rfl) (Nat.le_of_ble_eq_true rfl) (fun v1 h1 hQ1 => ?_)
  obtain ⟨rfl, rfl⟩ := hQ1
  dsimp only [oPush]
  refine s_iloadN (pc' := 5) dgb_4 rfl rfl ?_
  refine s_icmp (pc' := 8) (pc'' := 28) dgb_5 rfl (by decide) rfl (fun hc5 => ?_) (fun hc5 => ?_)
  · replace hc5 := b_ne hc5
    exact absurd rfl hc5
  · replace hc5 := b_neF hc5
    refine s_aloadN (pc' := 9) dgb_8 rfl rfl rfl ?_
    refine s_getF V1 (host := "") (Or.inl (hw _ (List.mem_of_getElem? (i := 26) rfl))) Via.refl (pc' := 12) dgb_9 rfl ?_
    refine s_iconst (x := (0 : Int32)) (pc' := 13) dgb_12 rfl rfl ?_
    refine s_aloadN (pc' := 14) dgb_13 rfl rfl rfl ?_
    refine s_iloadN (pc' := 15) dgb_14 rfl rfl ?_
    refine s_iloadN (pc' := 16) dgb_15 rfl rfl ?_
    refine s_ishl (pc' := 17) dgb_16 rfl ?_
    rw [shl_zero]
    refine s_aloadN (pc' := 18) dgb_17 rfl rfl rfl ?_
    refine s_getF V1 (host := "") (Or.inl (hw _ (List.mem_of_getElem? (i := 26) rfl))) Via.refl (pc' := 21) dgb_18 rfl ?_
    refine s_alen D1 (pc' := 22) dgb_21 rfl ?_
    refine s_copy D1 A rfl ga (by simp) (hw _ (List.mem_of_getElem? (i := 118) rfl)) (hw _ (List.mem_of_getElem? (i := 121) rfl)) (hw _ (List.mem_of_getElem? (i := 119) rfl)) (hw _ (List.mem_of_getElem? (i := 120) rfl)) (by decide) (nn (by omega)) (nn (by omega)) (by rw [cl (by omega)]; show 0 + _ ≤ _; omega) (by rw [cl (by omega), cl (by omega), cl (by omega)]; exact hl) (by rw [cl (by omega), cl (by omega), BB_len (by omega)]; exact hl) rfl (pc' := 25) dgb_22 rfl (Nat.le_of_ble_eq_true rfl) (Nat.le_of_ble_eq_true rfl) (fun h22 K22 A22 => ?_)
    rw [cl (show bs.length < 2147483648 by omega), cl (show cs.length < 2147483648 by omega), show (0 : Int32).toNatClampNeg = 0 from rfl, BB_app hl] at A22
    refine s_goto (pc' := 43) dgb_25 (by decide) rfl ?_
    exact s_ret rfl dgb_43 (Nat.le_of_ble_eq_true rfl) (Nat.le_of_ble_eq_true rfl) ⟨rfl, K22, A22⟩
def ips : OInfo := ("java/lang/AbstractStringBuilder", jdk_68_method_73_code, 3, none, "putStringAt", ({ frames := 2, cells := 0, slots := 0, locals := 45 } : Room))
theorem efps (x0 : Addr) (x1 : Int32) (x2 : Addr) (m : MethodId) : entryFrame m #[(.ref x0), (.int x1), (.ref x2)] 3 = mkF m 0 #[.val (.ref x0), .val (.int x1), .val (.ref x2)] [] := by first | (simp [entryFrame, mkF, argsToLocals, Value.category]; done) | rfl
theorem pdps : parseMethodDescriptor "(ILjava/lang/String;)V" = some ⟨[.int, (.object "java/lang/String")], none⟩ := by decide +kernel
theorem pnps : plainFor (⟨"java/lang/AbstractStringBuilder", "putStringAt", "(ILjava/lang/String;)V"⟩ : MethodName) = true := by decide +kernel
theorem dps_0 : decode jdk_68_method_73_code 0 = .ok (.aload_n 0, 1) := by decide +kernel
theorem dps_1 : decode jdk_68_method_73_code 1 = .ok (.aload_n 2, 1) := by decide +kernel
theorem dps_2 : decode jdk_68_method_73_code 2 = .ok (.invokevirtual 397, 3) := by decide +kernel
theorem dps_5 : decode jdk_68_method_73_code 5 = .ok (.aload_n 2, 1) := by decide +kernel
theorem dps_6 : decode jdk_68_method_73_code 6 = .ok (.aload_n 0, 1) := by decide +kernel
theorem dps_7 : decode jdk_68_method_73_code 7 = .ok (.getfield 15, 3) := by decide +kernel
theorem dps_10 : decode jdk_68_method_73_code 10 = .ok (.iload_n 1, 1) := by decide +kernel
theorem dps_11 : decode jdk_68_method_73_code 11 = .ok (.aload_n 0, 1) := by decide +kernel
theorem dps_12 : decode jdk_68_method_73_code 12 = .ok (.getfield 22, 3) := by decide +kernel
theorem dps_15 : decode jdk_68_method_73_code 15 = .ok (.invokevirtual 399, 3) := by decide +kernel
theorem dps_18 : decode jdk_68_method_73_code 18 = .ok (.return_, 1) := by decide +kernel
set_option maxRecDepth 65536 in
set_option maxHeartbeats 4000000 in
theorem rmps (l : Launch) {Z : State} {a0 : Array Value} (G : OG Z a0) (n0 : Nat) (b s a d : Addr) (k kd : ClassId) (cap : Nat) (bs cs : List Int32) (hlc : bs.length + cs.length ≤ cap) (h0 : Heap) (ga : n0 ≤ a) (B : BD Z h0 b a k cap bs) (E1 : Exa Z h0 s "java/lang/String") (C1 : Fld Z h0 s "java/lang/String" "coder" "B" (.int 0)) (V1 : Fld Z h0 s "java/lang/String" "value" "[B" (.ref d)) (D1 : Arv Z h0 d kd .byte (Int32.ofNat cs.length) (cs.map fun c => Value.int (byt c)) (.int 0)) : oCon l Z n0 EL1 [a] (⟨"java/lang/AbstractStringBuilder", "putStringAt", "(ILjava/lang/String;)V"⟩ : MethodName) ips #[.ref b, .int (Int32.ofNat bs.length), .ref s] h0 (fun v h => v = none ∧ Keep h0 h [a] ∧ Arv Z h a k .byte (Int32.ofNat cap) (BB (bs ++ cs) cap) (.int 0)) := by
  obtain ⟨hw, hEL, ⟨cmp, hC, hc0⟩, ⟨fm, hfm, hF⟩⟩ := id G
  obtain ⟨XB, FV, FC, FN, A, XA, hl, hc⟩ := B
  refine oCon.mk hEL pnps rfl rfl (efps b _ s) fun C hCl => ?_
  refine s_aloadN (pc' := 1) dps_0 rfl rfl rfl ?_
  refine s_aloadN (pc' := 2) dps_1 rfl rfl rfl ?_
  refine s_callV1 (rmnf C.l G n0 b s h0 FC E1 C1) (by simp) XB (hw _ (List.mem_of_getElem? (i := 107) rfl)) (o_declOf (hw _ (List.mem_of_getElem? (i := 108) rfl)) (hw _ (List.mem_of_getElem? (i := 111) rfl))) (hw _ (List.mem_of_getElem? (i := 110) rfl)) (hw _ (List.mem_of_getElem? (i := 108) rfl)) (o_nf (hw _ (List.mem_of_getElem? (i := 110) rfl)) rfl) (hw _ (List.mem_of_getElem? (i := 66) rfl)) (hw _ (List.mem_of_getElem? (i := 111) rfl)) (by decide) (o_len pdnf rfl) rfl (pc' := 5) dps_2 rfl (Nat.le_of_ble_eq_true rfl) (Nat.le_of_ble_eq_true rfl) (Nat.le_of_ble_eq_true rfl) (Nat.le_of_ble_eq_true rfl) (fun v2 h2 hQ2 => ?_)
  obtain ⟨rfl, rfl⟩ := hQ2
  dsimp only [oPush]
  refine s_aloadN (pc' := 6) dps_5 rfl rfl rfl ?_
  refine s_aloadN (pc' := 7) dps_6 rfl rfl rfl ?_
  refine s_getF FV (host := "") (Or.inl (hw _ (List.mem_of_getElem? (i := 70) rfl))) Via.refl (pc' := 10) dps_7 rfl ?_
  refine s_iloadN (pc' := 11) dps_10 rfl rfl ?_
  refine s_aloadN (pc' := 12) dps_11 rfl rfl rfl ?_
  refine s_getF FC (host := "") (Or.inl (hw _ (List.mem_of_getElem? (i := 72) rfl))) Via.refl (pc' := 15) dps_12 rfl ?_
  refine s_callV3 (rmgb C.l G n0 s a d k kd cap bs cs hlc hc _ ga A E1 C1 V1 D1) (by simp) E1 (hw _ (List.mem_of_getElem? (i := 113) rfl)) (hw _ (List.mem_of_getElem? (i := 114) rfl)) (hw _ (List.mem_of_getElem? (i := 116) rfl)) (hw _ (List.mem_of_getElem? (i := 115) rfl)) (o_nf (hw _ (List.mem_of_getElem? (i := 116) rfl)) rfl) (hw _ (List.mem_of_getElem? (i := 6) rfl)) (hw _ (List.mem_of_getElem? (i := 117) rfl)) (by decide) (o_len pdgb rfl) rfl (pc' := 18) dps_15 rfl (Nat.le_of_ble_eq_true rfl) (Nat.le_of_ble_eq_true rfl) (Nat.le_of_ble_eq_true rfl) (Nat.le_of_ble_eq_true rfl) (fun v15 h15 hQ15 => ?_)
  obtain ⟨rfl, K15, A15⟩ := hQ15
  dsimp only [oPush]
  exact s_ret rfl dps_18 (Nat.le_of_ble_eq_true rfl) (Nat.le_of_ble_eq_true rfl) ⟨rfl, K15, A15⟩
def iaa : OInfo := ("java/lang/AbstractStringBuilder", jdk_68_method_22_code, 3, (some (.object "java/lang/AbstractStringBuilder")), "append", ({ frames := 4, cells := 1, slots := 34, locals := 62 } : Room))
theorem efaa (x0 : Addr) (x1 : Addr) (m : MethodId) : entryFrame m #[(.ref x0), (.ref x1)] 3 = mkF m 0 #[.val (.ref x0), .val (.ref x1), .unset] [] := by first | (simp [entryFrame, mkF, argsToLocals, Value.category]; done) | rfl
theorem pdaa : parseMethodDescriptor "(Ljava/lang/String;)Ljava/lang/AbstractStringBuilder;" = some ⟨[(.object "java/lang/String")], some (.object "java/lang/AbstractStringBuilder")⟩ := by decide +kernel
theorem pnaa : plainFor (⟨"java/lang/AbstractStringBuilder", "append", "(Ljava/lang/String;)Ljava/lang/AbstractStringBuilder;"⟩ : MethodName) = true := by decide +kernel
theorem daa_0 : decode jdk_68_method_22_code 0 = .ok (.aload_n 1, 1) := by decide +kernel
theorem daa_1 : decode jdk_68_method_22_code 1 = .ok (.ifnonnull 8, 3) := by decide +kernel
theorem daa_9 : decode jdk_68_method_22_code 9 = .ok (.aload_n 1, 1) := by decide +kernel
theorem daa_10 : decode jdk_68_method_22_code 10 = .ok (.invokevirtual 32, 3) := by decide +kernel
theorem daa_13 : decode jdk_68_method_22_code 13 = .ok (.istore_n 2, 1) := by decide +kernel
theorem daa_14 : decode jdk_68_method_22_code 14 = .ok (.aload_n 0, 1) := by decide +kernel
theorem daa_15 : decode jdk_68_method_22_code 15 = .ok (.aload_n 0, 1) := by decide +kernel
theorem daa_16 : decode jdk_68_method_22_code 16 = .ok (.getfield 79, 3) := by decide +kernel
theorem daa_19 : decode jdk_68_method_22_code 19 = .ok (.iload_n 2, 1) := by decide +kernel
theorem daa_20 : decode jdk_68_method_22_code 20 = .ok (.iadd, 1) := by decide +kernel
theorem daa_21 : decode jdk_68_method_22_code 21 = .ok (.invokevirtual 100, 3) := by decide +kernel
theorem daa_24 : decode jdk_68_method_22_code 24 = .ok (.aload_n 0, 1) := by decide +kernel
theorem daa_25 : decode jdk_68_method_22_code 25 = .ok (.aload_n 0, 1) := by decide +kernel
theorem daa_26 : decode jdk_68_method_22_code 26 = .ok (.getfield 79, 3) := by decide +kernel
theorem daa_29 : decode jdk_68_method_22_code 29 = .ok (.aload_n 1, 1) := by decide +kernel
theorem daa_30 : decode jdk_68_method_22_code 30 = .ok (.invokevirtual 208, 3) := by decide +kernel
theorem daa_33 : decode jdk_68_method_22_code 33 = .ok (.aload_n 0, 1) := by decide +kernel
theorem daa_34 : decode jdk_68_method_22_code 34 = .ok (.dup, 1) := by decide +kernel
theorem daa_35 : decode jdk_68_method_22_code 35 = .ok (.getfield 79, 3) := by decide +kernel
theorem daa_38 : decode jdk_68_method_22_code 38 = .ok (.iload_n 2, 1) := by decide +kernel
theorem daa_39 : decode jdk_68_method_22_code 39 = .ok (.iadd, 1) := by decide +kernel
theorem daa_40 : decode jdk_68_method_22_code 40 = .ok (.putfield 79, 3) := by decide +kernel
theorem daa_43 : decode jdk_68_method_22_code 43 = .ok (.aload_n 0, 1) := by decide +kernel
theorem daa_44 : decode jdk_68_method_22_code 44 = .ok (.areturn, 1) := by decide +kernel
set_option maxRecDepth 65536 in
set_option maxHeartbeats 4000000 in
theorem rmaa (l : Launch) {Z : State} {a0 : Array Value} (G : OG Z a0) (n0 : Nat) (b s a : Addr) (N : Nat) (k : ClassId) (cap : Nat) (bs cs : List Int32) (hm : bs.length + cs.length ≤ cap ∨ (cap = 16 ∧ bs.length + cs.length ≤ 34)) (h0 : Heap) (gb : n0 ≤ b) (ga : n0 ≤ a) (B : BD Z h0 b a k cap bs) (H : SV Z h0 N s cs) : oConG l Z n0 EL1 [b, a] (⟨"java/lang/AbstractStringBuilder", "append", "(Ljava/lang/String;)Ljava/lang/AbstractStringBuilder;"⟩ : MethodName) iaa #[.ref b, .ref s] h0 (oR Z EL1 (fun v h rs => ∃ a' k' cap', rs = [a'] ∧ v = some (.ref b) ∧ BD Z h b a' k' cap' (bs ++ cs) ∧ Keep h0 h [b, a] ∧ (a' = a ∨ h0.size ≤ a') ∧ (cap' = cap ∨ cap' = 34))) := by
  obtain ⟨hw, hEL, ⟨cmp, hC, hc0⟩, ⟨fm, hfm, hF⟩⟩ := id G
  refine oCon.mk hEL pnaa rfl rfl (efaa b s) fun C hCl => ?_
  refine s_aloadN (pc' := 1) daa_0 rfl rfl rfl ?_
  refine s_nnY (pc' := 9) daa_1 (by decide) rfl ?_
  refine s_old fun OL => ?_
  refine s_aloadN (pc' := 10) daa_9 rfl rfl rfl ?_
  refine s_callV0 (rmsL C.l G n0 s N cs h0 H) (by simp) H.exa (hw _ (List.mem_of_getElem? (i := 85) rfl)) (hw _ (List.mem_of_getElem? (i := 86) rfl)) (hw _ (List.mem_of_getElem? (i := 88) rfl)) (hw _ (List.mem_of_getElem? (i := 87) rfl)) (o_nf (hw _ (List.mem_of_getElem? (i := 88) rfl)) rfl) (hw _ (List.mem_of_getElem? (i := 6) rfl)) (hw _ (List.mem_of_getElem? (i := 89) rfl)) (by decide) (o_len pdsL rfl) rfl (pc' := 13) daa_10 rfl (Nat.le_of_ble_eq_true rfl) (Nat.le_of_ble_eq_true rfl) (Nat.le_of_ble_eq_true rfl) (Nat.le_of_ble_eq_true rfl) (fun v10 h10 hQ10 => ?_)
  obtain ⟨rfl, rfl⟩ := hQ10
  dsimp only [oPush]
  have FN := B.2.2.2.1
  refine s_istoreN (kn := 2) rfl (pc' := 14) daa_13 rfl (o_st rfl (by first | exact One.u | exact One.val rfl | assumption) rfl) ?_
  dsimp only [List.set_cons_succ, List.set_cons_zero]
  refine s_aloadN (pc' := 15) daa_14 rfl rfl rfl ?_
  refine s_aloadN (pc' := 16) daa_15 rfl rfl rfl ?_
  refine s_getF FN (host := "") (Or.inl (hw _ (List.mem_of_getElem? (i := 95) rfl))) Via.refl (pc' := 19) daa_16 rfl ?_
  refine s_iloadN (pc' := 20) daa_19 rfl rfl ?_
  refine s_iadd (pc' := 21) daa_20 rfl ?_
  rw [n_add]
  refine s_callV1R (rmec C.l G n0 b a k cap (bs.length + cs.length) bs _ hm gb B) (by simp) B.1 (hw _ (List.mem_of_getElem? (i := 97) rfl)) (o_declOf (hw _ (List.mem_of_getElem? (i := 98) rfl)) (hw _ (List.mem_of_getElem? (i := 101) rfl))) (hw _ (List.mem_of_getElem? (i := 100) rfl)) (hw _ (List.mem_of_getElem? (i := 98) rfl)) (o_nf (hw _ (List.mem_of_getElem? (i := 100) rfl)) rfl) (hw _ (List.mem_of_getElem? (i := 66) rfl)) (hw _ (List.mem_of_getElem? (i := 101) rfl)) (by decide) (o_len pdec rfl) rfl (pc' := 24) daa_21 rfl (Nat.le_of_ble_eq_true rfl) (Nat.le_of_ble_eq_true rfl) (Nat.le_of_ble_eq_true rfl) (Nat.le_of_ble_eq_true rfl) (fun v21 h21 rs21 hQ21 => ?_)
  obtain ⟨a2, k2, cap2, rfl, rfl, B2, hm2, K21, ha2, hc2⟩ := hQ21
  dsimp only [oPush]
  replace H := H.ne (hw _ (List.mem_of_getElem? (i := 57) rfl)) B.1 K21
  replace FN := B2.2.2.2.1
  have ga2 : n0 ≤ a2 := ha2.elim (fun q => q ▸ ga) (fun q => Nat.le_trans (o_le OL) q)
  obtain ⟨d, kd, -, -, E1, C1, V1, D1⟩ := H
  have hne := B2.ne
  refine s_aloadN (pc' := 25) daa_24 rfl rfl rfl ?_
  refine s_aloadN (pc' := 26) daa_25 rfl rfl rfl ?_
  refine s_getF FN (host := "") (Or.inl (hw _ (List.mem_of_getElem? (i := 95) rfl))) Via.refl (pc' := 29) daa_26 rfl ?_
  refine s_aloadN (pc' := 30) daa_29 rfl rfl rfl ?_
  refine s_callV2 (rmps C.l G n0 b s a2 d k2 kd cap2 bs cs hm2 _ ga2 B2 E1 C1 V1 D1) (by simp) B2.1 (hw _ (List.mem_of_getElem? (i := 102) rfl)) (o_declOf (hw _ (List.mem_of_getElem? (i := 103) rfl)) (hw _ (List.mem_of_getElem? (i := 106) rfl))) (hw _ (List.mem_of_getElem? (i := 105) rfl)) (hw _ (List.mem_of_getElem? (i := 103) rfl)) (o_nf (hw _ (List.mem_of_getElem? (i := 105) rfl)) rfl) (hw _ (List.mem_of_getElem? (i := 66) rfl)) (hw _ (List.mem_of_getElem? (i := 106) rfl)) (by decide) (o_len pdps rfl) rfl (pc' := 33) daa_30 rfl (Nat.le_of_ble_eq_true rfl) (Nat.le_of_ble_eq_true rfl) (Nat.le_of_ble_eq_true rfl) (Nat.le_of_ble_eq_true rfl) (fun v30 h30 hQ30 => ?_)
  obtain ⟨rfl, K30, A30⟩ := hQ30
  dsimp only [oPush]
  have nb : b ∉ [a2] := by simp [hne.symm]
  replace FN := FN.keep K30 nb
  refine s_aloadN (pc' := 34) daa_33 rfl rfl rfl ?_
  refine s_dup (pc' := 35) daa_34 rfl rfl ?_
  refine s_getF FN (host := "") (Or.inl (hw _ (List.mem_of_getElem? (i := 95) rfl))) Via.refl (pc' := 38) daa_35 rfl ?_
  refine s_iloadN (pc' := 39) daa_38 rfl rfl ?_
  refine s_iadd (pc' := 40) daa_39 rfl ?_
  rw [n_add]
  refine s_putF FN (B2.1.keep K30) gb (by simp) (host := "") (Or.inl (hw _ (List.mem_of_getElem? (i := 95) rfl))) Via.refl (Or.inl (hw _ (List.mem_of_getElem? (i := 96) rfl))) (hw _ (List.mem_of_getElem? (i := 57) rfl)) (ty := .int) (by decide) rfl rfl (pc' := 43) daa_40 rfl (fun h40 W40 => ?_)
  refine s_aloadN (pc' := 44) daa_43 rfl rfl rfl ?_
  exact s_aretR rfl rfl rfl daa_44 (Nat.le_of_ble_eq_true rfl) (Nat.le_of_ble_eq_true rfl) [a2] (by simp) ⟨a2, k2, cap2, rfl, rfl, ⟨(B2.1.keep K30).wr W40, ((B2.2.1.keep K30 nb).other W40 (Or.inr (slot_ne (Or.inl (hw _ (List.mem_of_getElem? (i := 71) rfl))) (Or.inl (hw _ (List.mem_of_getElem? (i := 96) rfl))) (by decide) (t := (.array .byte)) (t' := .int) (by decide) (by decide)))), ((B2.2.2.1.keep K30 nb).other W40 (Or.inr (slot_ne (Or.inl (hw _ (List.mem_of_getElem? (i := 73) rfl))) (Or.inl (hw _ (List.mem_of_getElem? (i := 96) rfl))) (by decide) (t := .byte) (t' := .int) (by decide) (by decide)))), by rw [List.length_append]; exact (FN.same W40), A30.other W40 hne, (B2.2.2.2.2.2.1.keep K30).wr W40, by rw [List.length_append]; exact hm2, B2.2.2.2.2.2.2.2⟩, ((((Keep.refl _ [b, a]).trans K21 (fun x hx => by cases List.mem_singleton.mp hx; exact Or.inl (by simp))).trans K30 (fun x hx => by cases List.mem_singleton.mp hx; exact ha2.elim (fun q => Or.inl (by simp [q])) Or.inr))).wr W40 (Or.inl (List.mem_cons_self ..)), ha2, hc2⟩
def isb : OInfo := ("java/lang/StringBuilder", jdk_67_method_7_code, 2, (some (.object "java/lang/StringBuilder")), "append", ({ frames := 5, cells := 1, slots := 34, locals := 76 } : Room))
theorem efsb (x0 : Addr) (x1 : Addr) (m : MethodId) : entryFrame m #[(.ref x0), (.ref x1)] 2 = mkF m 0 #[.val (.ref x0), .val (.ref x1)] [] := by first | (simp [entryFrame, mkF, argsToLocals, Value.category]; done) | rfl
theorem pdsb : parseMethodDescriptor "(Ljava/lang/String;)Ljava/lang/StringBuilder;" = some ⟨[(.object "java/lang/String")], some (.object "java/lang/StringBuilder")⟩ := by decide +kernel
theorem pnsb : plainFor (⟨"java/lang/StringBuilder", "append", "(Ljava/lang/String;)Ljava/lang/StringBuilder;"⟩ : MethodName) = true := by decide +kernel
theorem dsb_0 : decode jdk_67_method_7_code 0 = .ok (.aload_n 0, 1) := by decide +kernel
theorem dsb_1 : decode jdk_67_method_7_code 1 = .ok (.aload_n 1, 1) := by decide +kernel
theorem dsb_2 : decode jdk_67_method_7_code 2 = .ok (.invokespecial 29, 3) := by decide +kernel
theorem dsb_5 : decode jdk_67_method_7_code 5 = .ok (.pop, 1) := by decide +kernel
theorem dsb_6 : decode jdk_67_method_7_code 6 = .ok (.aload_n 0, 1) := by decide +kernel
theorem dsb_7 : decode jdk_67_method_7_code 7 = .ok (.areturn, 1) := by decide +kernel
set_option maxRecDepth 65536 in
set_option maxHeartbeats 4000000 in
theorem rmsb (l : Launch) {Z : State} {a0 : Array Value} (G : OG Z a0) (n0 : Nat) (b s a : Addr) (N : Nat) (k : ClassId) (cap : Nat) (bs cs : List Int32) (hm : bs.length + cs.length ≤ cap ∨ (cap = 16 ∧ bs.length + cs.length ≤ 34)) (h0 : Heap) (gb : n0 ≤ b) (ga : n0 ≤ a) (B : BD Z h0 b a k cap bs) (H : SV Z h0 N s cs) : oConG l Z n0 EL1 [b, a] (⟨"java/lang/StringBuilder", "append", "(Ljava/lang/String;)Ljava/lang/StringBuilder;"⟩ : MethodName) isb #[.ref b, .ref s] h0 (oR Z EL1 (fun v h rs => ∃ a' k' cap', rs = [a'] ∧ v = some (.ref b) ∧ BD Z h b a' k' cap' (bs ++ cs) ∧ Keep h0 h [b, a] ∧ (a' = a ∨ h0.size ≤ a') ∧ (cap' = cap ∨ cap' = 34))) := by
  obtain ⟨hw, hEL, ⟨cmp, hC, hc0⟩, ⟨fm, hfm, hF⟩⟩ := id G
  refine oCon.mk hEL pnsb rfl rfl (efsb b s) fun C hCl => ?_
  refine s_aloadN (pc' := 1) dsb_0 rfl rfl rfl ?_
  refine s_aloadN (pc' := 2) dsb_1 rfl rfl rfl ?_
  refine s_callU1R (rmaa C.l G n0 b s a N k cap bs cs hm h0 gb ga B H) (by simp) (Ins.self B.1) (hw _ (List.mem_of_getElem? (i := 80) rfl)) (o_sameOf (hw _ (List.mem_of_getElem? (i := 81) rfl)) (hw _ (List.mem_of_getElem? (i := 100) rfl)) rfl (by decide)) (hw _ (List.mem_of_getElem? (i := 82) rfl)) (hw _ (List.mem_of_getElem? (i := 81) rfl)) (hw _ (List.mem_of_getElem? (i := 66) rfl)) (hw _ (List.mem_of_getElem? (i := 84) rfl)) (by decide) (o_len pdaa rfl) rfl (pc' := 5) dsb_2 rfl (Nat.le_of_ble_eq_true rfl) (Nat.le_of_ble_eq_true rfl) (Nat.le_of_ble_eq_true rfl) (Nat.le_of_ble_eq_true rfl) (fun v2 h2 rs2 hQ2 => ?_)
  obtain ⟨a2, k2, cap2, rfl, rfl, B2, K2, ha2, hc2⟩ := hQ2
  dsimp only [oPush]
  refine s_pop (pc' := 6) dsb_5 rfl rfl ?_
  refine s_aloadN (pc' := 7) dsb_6 rfl rfl rfl ?_
  exact s_aretR rfl rfl rfl dsb_7 (Nat.le_of_ble_eq_true rfl) (Nat.le_of_ble_eq_true rfl) [a2] (by simp) ⟨a2, k2, cap2, rfl, rfl, B2, K2, ha2, hc2⟩
def igv : OInfo := ("java/lang/AbstractStringBuilder", jdk_68_method_64_code, 1, (some (.array .byte)), "getValue", ({ frames := 0, cells := 0, slots := 0, locals := 0 } : Room))
theorem efgv (x0 : Addr) (m : MethodId) : entryFrame m #[(.ref x0)] 1 = mkF m 0 #[.val (.ref x0)] [] := by first | (simp [entryFrame, mkF, argsToLocals, Value.category]; done) | rfl
theorem pdgv : parseMethodDescriptor "()[B" = some ⟨[], some (.array .byte)⟩ := by decide +kernel
theorem pngv : plainFor (⟨"java/lang/AbstractStringBuilder", "getValue", "()[B"⟩ : MethodName) = true := by decide +kernel
theorem dgv_0 : decode jdk_68_method_64_code 0 = .ok (.aload_n 0, 1) := by decide +kernel
theorem dgv_1 : decode jdk_68_method_64_code 1 = .ok (.getfield 15, 3) := by decide +kernel
theorem dgv_4 : decode jdk_68_method_64_code 4 = .ok (.areturn, 1) := by decide +kernel
set_option maxRecDepth 65536 in
set_option maxHeartbeats 4000000 in
theorem rmgv (l : Launch) {Z : State} {a0 : Array Value} (G : OG Z a0) (n0 : Nat) (b : Addr) (x : Addr) (h0 : Heap) (F1 : Fld Z h0 b "java/lang/AbstractStringBuilder" "value" "[B" (.ref x)) : oCon l Z n0 EL1 [] (⟨"java/lang/AbstractStringBuilder", "getValue", "()[B"⟩ : MethodName) igv #[.ref b] h0 (fun v h => v = some (.ref x) ∧ h = h0) := by
  obtain ⟨hw, hEL, ⟨cmp, hC, hc0⟩, ⟨fm, hfm, hF⟩⟩ := id G
  refine oCon.mk hEL pngv rfl rfl (efgv b) fun C hCl => ?_
  refine s_aloadN (pc' := 1) dgv_0 rfl rfl rfl ?_
  refine s_getF F1 (host := "") (Or.inl (hw _ (List.mem_of_getElem? (i := 70) rfl))) Via.refl (pc' := 4) dgv_1 rfl ?_
  exact s_aret rfl rfl rfl dgv_4 (Nat.le_of_ble_eq_true rfl) (Nat.le_of_ble_eq_true rfl) ⟨rfl, rfl⟩
def ilA : OInfo := ("java/lang/AbstractStringBuilder", jdk_68_method_6_code, 1, (some .int), "length", ({ frames := 0, cells := 0, slots := 0, locals := 0 } : Room))
theorem eflA (x0 : Addr) (m : MethodId) : entryFrame m #[(.ref x0)] 1 = mkF m 0 #[.val (.ref x0)] [] := by first | (simp [entryFrame, mkF, argsToLocals, Value.category]; done) | rfl
theorem pdlA : parseMethodDescriptor "()I" = some ⟨[], some .int⟩ := by decide +kernel
theorem pnlA : plainFor (⟨"java/lang/AbstractStringBuilder", "length", "()I"⟩ : MethodName) = true := by decide +kernel
theorem dlA_0 : decode jdk_68_method_6_code 0 = .ok (.aload_n 0, 1) := by decide +kernel
theorem dlA_1 : decode jdk_68_method_6_code 1 = .ok (.getfield 79, 3) := by decide +kernel
theorem dlA_4 : decode jdk_68_method_6_code 4 = .ok (.ireturn, 1) := by decide +kernel
set_option maxRecDepth 65536 in
set_option maxHeartbeats 4000000 in
theorem rmlA (l : Launch) {Z : State} {a0 : Array Value} (G : OG Z a0) (n0 : Nat) (b : Addr) (x : Int32) (h0 : Heap) (F1 : Fld Z h0 b "java/lang/AbstractStringBuilder" "count" "I" (.int x)) : oCon l Z n0 EL1 [] (⟨"java/lang/AbstractStringBuilder", "length", "()I"⟩ : MethodName) ilA #[.ref b] h0 (fun v h => v = some (.int x) ∧ h = h0) := by
  obtain ⟨hw, hEL, ⟨cmp, hC, hc0⟩, ⟨fm, hfm, hF⟩⟩ := id G
  refine oCon.mk hEL pnlA rfl rfl (eflA b) fun C hCl => ?_
  refine s_aloadN (pc' := 1) dlA_0 rfl rfl rfl ?_
  refine s_getF F1 (host := "") (Or.inl (hw _ (List.mem_of_getElem? (i := 95) rfl))) Via.refl (pc' := 4) dlA_1 rfl ?_
  exact s_iret rfl dlA_4 (Nat.le_of_ble_eq_true rfl) (Nat.le_of_ble_eq_true rfl) ⟨rfl, rfl⟩
def ilB : OInfo := ("java/lang/StringBuilder", jdk_67_method_93_code, 1, (some .int), "length", ({ frames := 1, cells := 0, slots := 0, locals := 12 } : Room))
theorem eflB (x0 : Addr) (m : MethodId) : entryFrame m #[(.ref x0)] 1 = mkF m 0 #[.val (.ref x0)] [] := by first | (simp [entryFrame, mkF, argsToLocals, Value.category]; done) | rfl
theorem pdlB : parseMethodDescriptor "()I" = some ⟨[], some .int⟩ := by decide +kernel
theorem pnlB : plainFor (⟨"java/lang/StringBuilder", "length", "()I"⟩ : MethodName) = true := by decide +kernel
theorem dlB_0 : decode jdk_67_method_93_code 0 = .ok (.aload_n 0, 1) := by decide +kernel
theorem dlB_1 : decode jdk_67_method_93_code 1 = .ok (.invokespecial 343, 3) := by decide +kernel
theorem dlB_4 : decode jdk_67_method_93_code 4 = .ok (.ireturn, 1) := by decide +kernel
set_option maxRecDepth 65536 in
set_option maxHeartbeats 4000000 in
theorem rmlB (l : Launch) {Z : State} {a0 : Array Value} (G : OG Z a0) (n0 : Nat) (b : Addr) (x : Int32) (h0 : Heap) (XB : Exa Z h0 b "java/lang/StringBuilder") (F1 : Fld Z h0 b "java/lang/AbstractStringBuilder" "count" "I" (.int x)) : oCon l Z n0 EL1 [] (⟨"java/lang/StringBuilder", "length", "()I"⟩ : MethodName) ilB #[.ref b] h0 (fun v h => v = some (.int x) ∧ h = h0) := by
  obtain ⟨hw, hEL, ⟨cmp, hC, hc0⟩, ⟨fm, hfm, hF⟩⟩ := id G
  refine oCon.mk hEL pnlB rfl rfl (eflB b) fun C hCl => ?_
  refine s_aloadN (pc' := 1) dlB_0 rfl rfl rfl ?_
  refine s_callU0 (rmlA C.l G n0 b x h0 F1) (by simp) (Ins.self XB) (hw _ (List.mem_of_getElem? (i := 148) rfl)) (o_sameOf (hw _ (List.mem_of_getElem? (i := 144) rfl)) (hw _ (List.mem_of_getElem? (i := 100) rfl)) rfl (by decide)) (hw _ (List.mem_of_getElem? (i := 82) rfl)) (hw _ (List.mem_of_getElem? (i := 144) rfl)) (hw _ (List.mem_of_getElem? (i := 66) rfl)) (hw _ (List.mem_of_getElem? (i := 149) rfl)) (by decide) (o_len pdlA rfl) rfl (pc' := 4) dlB_1 rfl (Nat.le_of_ble_eq_true rfl) (Nat.le_of_ble_eq_true rfl) (Nat.le_of_ble_eq_true rfl) (Nat.le_of_ble_eq_true rfl) (fun v1 h1 hQ1 => ?_)
  obtain ⟨rfl, rfl⟩ := hQ1
  dsimp only [oPush]
  exact s_iret rfl dlB_4 (Nat.le_of_ble_eq_true rfl) (Nat.le_of_ble_eq_true rfl) ⟨rfl, rfl⟩
def iiL : OInfo := ("java/lang/AbstractStringBuilder", jdk_68_method_68_code, 1, (some .boolean), "isLatin1", ({ frames := 0, cells := 0, slots := 0, locals := 0 } : Room))
theorem efiL (x0 : Addr) (m : MethodId) : entryFrame m #[(.ref x0)] 1 = mkF m 0 #[.val (.ref x0)] [] := by first | (simp [entryFrame, mkF, argsToLocals, Value.category]; done) | rfl
theorem pdiL : parseMethodDescriptor "()Z" = some ⟨[], some .boolean⟩ := by decide +kernel
theorem pniL : plainFor (⟨"java/lang/AbstractStringBuilder", "isLatin1", "()Z"⟩ : MethodName) = true := by decide +kernel
theorem diL_0 : decode jdk_68_method_68_code 0 = .ok (.getstatic 18, 3) := by decide +kernel
theorem diL_3 : decode jdk_68_method_68_code 3 = .ok (.ifCond .eq 14, 3) := by decide +kernel
theorem diL_6 : decode jdk_68_method_68_code 6 = .ok (.aload_n 0, 1) := by decide +kernel
theorem diL_7 : decode jdk_68_method_68_code 7 = .ok (.getfield 22, 3) := by decide +kernel
theorem diL_10 : decode jdk_68_method_68_code 10 = .ok (.ifCond .ne 7, 3) := by decide +kernel
theorem diL_13 : decode jdk_68_method_68_code 13 = .ok (.iconst 1, 1) := by decide +kernel
theorem diL_14 : decode jdk_68_method_68_code 14 = .ok (.goto 4, 3) := by decide +kernel
theorem diL_18 : decode jdk_68_method_68_code 18 = .ok (.ireturn, 1) := by decide +kernel
set_option maxRecDepth 65536 in
set_option maxHeartbeats 4000000 in
theorem rmiL (l : Launch) {Z : State} {a0 : Array Value} (G : OG Z a0) (n0 : Nat) (b : Addr) (h0 : Heap) (C1 : Fld Z h0 b "java/lang/AbstractStringBuilder" "coder" "B" (.int 0)) : oCon l Z n0 EL1 [] (⟨"java/lang/AbstractStringBuilder", "isLatin1", "()Z"⟩ : MethodName) iiL #[.ref b] h0 (fun v h => v = some (.int 1) ∧ h = h0) := by
  obtain ⟨hw, hEL, ⟨cmp, hC, hc0⟩, ⟨fm, hfm, hF⟩⟩ := id G
  refine oCon.mk hEL pniL rfl rfl (efiL b) fun C hCl => ?_
  refine s_getS hC (hw _ (List.mem_of_getElem? (i := 69) rfl)) Via.refl (pc' := 3) diL_0 rfl ?_
  refine s_if (pc' := 6) (pc'' := 17) diL_3 rfl (by decide) rfl (fun hc3 => ?_) (fun hc3 => ?_)
  · replace hc3 := b_eq hc3
    exact absurd hc3 hc0
  · replace hc3 := b_eqF hc3
    refine s_aloadN (pc' := 7) diL_6 rfl rfl rfl ?_
    refine s_getF C1 (host := "") (Or.inl (hw _ (List.mem_of_getElem? (i := 72) rfl))) Via.refl (pc' := 10) diL_7 rfl ?_
    refine s_if (pc' := 13) (pc'' := 17) diL_10 rfl (by decide) rfl (fun hc10 => ?_) (fun hc10 => ?_)
    · replace hc10 := b_ne hc10
      exact absurd rfl hc10
    · replace hc10 := b_neF hc10
      refine s_iconst (x := (1 : Int32)) (pc' := 14) diL_13 rfl rfl ?_
      refine s_goto (pc' := 18) diL_14 (by decide) rfl ?_
      exact s_nret (t := .boolean) rfl (by simp) diL_18 (by decide) (by decide) ⟨rfl, rfl⟩
def ikL : OInfo := ("java/util/Arrays", jdk_65_method_131_code, 2, none, "checkLength", ({ frames := 0, cells := 0, slots := 0, locals := 0 } : Room))
theorem efkL (x0 : Int32) (x1 : Int32) (m : MethodId) : entryFrame m #[(.int x0), (.int x1)] 2 = mkF m 0 #[.val (.int x0), .val (.int x1)] [] := by first | (simp [entryFrame, mkF, argsToLocals, Value.category]; done) | rfl
theorem pdkL : parseMethodDescriptor "(II)V" = some ⟨[.int, .int], none⟩ := by decide +kernel
theorem pnkL : plainFor (⟨"java/util/Arrays", "checkLength", "(II)V"⟩ : MethodName) = true := by decide +kernel
theorem dkL_0 : decode jdk_65_method_131_code 0 = .ok (.iload_n 1, 1) := by decide +kernel
theorem dkL_1 : decode jdk_65_method_131_code 1 = .ok (.iload_n 0, 1) := by decide +kernel
theorem dkL_2 : decode jdk_65_method_131_code 2 = .ok (.if_icmp .ge 35, 3) := by decide +kernel
theorem dkL_37 : decode jdk_65_method_131_code 37 = .ok (.return_, 1) := by decide +kernel
set_option maxRecDepth 65536 in
set_option maxHeartbeats 4000000 in
theorem rmkL (l : Launch) {Z : State} {a0 : Array Value} (G : OG Z a0) (n0 : Nat) (x : Int32) (hx : ¬ x < 0) (h0 : Heap) : oCon l Z n0 EL1 [] (⟨"java/util/Arrays", "checkLength", "(II)V"⟩ : MethodName) ikL #[.int 0, .int x] h0 (fun v h => v = none ∧ h = h0) := by
  obtain ⟨hw, hEL, ⟨cmp, hC, hc0⟩, ⟨fm, hfm, hF⟩⟩ := id G
  refine oCon.mk hEL pnkL rfl rfl (efkL 0 x) fun C hCl => ?_
  refine s_iloadN (pc' := 1) dkL_0 rfl rfl ?_
  refine s_iloadN (pc' := 2) dkL_1 rfl rfl ?_
  refine s_icmp (pc' := 5) (pc'' := 37) dkL_2 rfl (by decide) rfl (fun hc2 => ?_) (fun hc2 => ?_)
  · replace hc2 := b_ge hc2
    exact s_ret rfl dkL_37 (Nat.le_of_ble_eq_true rfl) (Nat.le_of_ble_eq_true rfl) ⟨rfl, rfl⟩
  · replace hc2 := b_geF hc2
    exact absurd hc2 hx
def icb : OInfo := ("java/util/Arrays", jdk_65_method_133_code, 5, (some (.array .byte)), "copyOfRangeByte", ({ frames := 1, cells := 1, slots := 34, locals := 30 } : Room))
theorem efcb (x0 : Addr) (x1 : Int32) (x2 : Int32) (m : MethodId) : entryFrame m #[(.ref x0), (.int x1), (.int x2)] 5 = mkF m 0 #[.val (.ref x0), .val (.int x1), .val (.int x2), .unset, .unset] [] := by first | (simp [entryFrame, mkF, argsToLocals, Value.category]; done) | rfl
theorem pdcb : parseMethodDescriptor "([BII)[B" = some ⟨[(.array .byte), .int, .int], some (.array .byte)⟩ := by decide +kernel
theorem pncb : plainFor (⟨"java/util/Arrays", "copyOfRangeByte", "([BII)[B"⟩ : MethodName) = true := by decide +kernel
theorem dcb_0 : decode jdk_65_method_133_code 0 = .ok (.iload_n 1, 1) := by decide +kernel
theorem dcb_1 : decode jdk_65_method_133_code 1 = .ok (.iload_n 2, 1) := by decide +kernel
theorem dcb_2 : decode jdk_65_method_133_code 2 = .ok (.invokestatic 343, 3) := by decide +kernel
theorem dcb_5 : decode jdk_65_method_133_code 5 = .ok (.iload_n 2, 1) := by decide +kernel
theorem dcb_6 : decode jdk_65_method_133_code 6 = .ok (.iload_n 1, 1) := by decide +kernel
theorem dcb_7 : decode jdk_65_method_133_code 7 = .ok (.isub, 1) := by decide +kernel
theorem dcb_8 : decode jdk_65_method_133_code 8 = .ok (.istore_n 3, 1) := by decide +kernel
theorem dcb_9 : decode jdk_65_method_133_code 9 = .ok (.iload_n 3, 1) := by decide +kernel
theorem dcb_10 : decode jdk_65_method_133_code 10 = .ok (.newarray .byte, 2) := by decide +kernel
theorem dcb_12 : decode jdk_65_method_133_code 12 = .ok (.astore 4, 2) := by decide +kernel
theorem dcb_14 : decode jdk_65_method_133_code 14 = .ok (.aload_n 0, 1) := by decide +kernel
theorem dcb_15 : decode jdk_65_method_133_code 15 = .ok (.iload_n 1, 1) := by decide +kernel
theorem dcb_16 : decode jdk_65_method_133_code 16 = .ok (.aload 4, 2) := by decide +kernel
theorem dcb_18 : decode jdk_65_method_133_code 18 = .ok (.iconst 0, 1) := by decide +kernel
theorem dcb_19 : decode jdk_65_method_133_code 19 = .ok (.aload_n 0, 1) := by decide +kernel
theorem dcb_20 : decode jdk_65_method_133_code 20 = .ok (.arraylength, 1) := by decide +kernel
theorem dcb_21 : decode jdk_65_method_133_code 21 = .ok (.iload_n 1, 1) := by decide +kernel
theorem dcb_22 : decode jdk_65_method_133_code 22 = .ok (.isub, 1) := by decide +kernel
theorem dcb_23 : decode jdk_65_method_133_code 23 = .ok (.iload_n 3, 1) := by decide +kernel
theorem dcb_24 : decode jdk_65_method_133_code 24 = .ok (.invokestatic 304, 3) := by decide +kernel
theorem dcb_27 : decode jdk_65_method_133_code 27 = .ok (.invokestatic 150, 3) := by decide +kernel
theorem dcb_30 : decode jdk_65_method_133_code 30 = .ok (.aload 4, 2) := by decide +kernel
theorem dcb_32 : decode jdk_65_method_133_code 32 = .ok (.areturn, 1) := by decide +kernel
set_option maxRecDepth 65536 in
set_option maxHeartbeats 4000000 in
theorem rmcb (l : Launch) {Z : State} {a0 : Array Value} (G : OG Z a0) (n0 : Nat) (a : Addr) (k : ClassId) (cap : Nat) (bs : List Int32) (hl : bs.length ≤ cap) (hc : cap ≤ 34) (h0 : Heap) (A : Arv Z h0 a k .byte (Int32.ofNat cap) (BB bs cap) (.int 0)) : oCon l Z n0 EL1 [] (⟨"java/util/Arrays", "copyOfRangeByte", "([BII)[B"⟩ : MethodName) icb #[.ref a, .int 0, .int (Int32.ofNat bs.length)] h0 (fun v h => ∃ d k', v = some (.ref d) ∧ h0.size ≤ d ∧ Ext h0 h ∧ Arv Z h d k' .byte (Int32.ofNat bs.length) (bs.map fun c => Value.int (byt c)) (.int 0)) := by
  obtain ⟨hw, hEL, ⟨cmp, hC, hc0⟩, ⟨fm, hfm, hF⟩⟩ := id G
  refine oCon.mk hEL pncb rfl rfl (efcb a 0 _) fun C hCl => ?_
  refine s_iloadN (pc' := 1) dcb_0 rfl rfl ?_
  refine s_iloadN (pc' := 2) dcb_1 rfl rfl ?_
  refine s_callS2 (rmkL C.l G n0 _ (nn (by omega)) h0) (by simp) (hw _ (List.mem_of_getElem? (i := 162) rfl)) (hw _ (List.mem_of_getElem? (i := 163) rfl)) (hw _ (List.mem_of_getElem? (i := 157) rfl)) (hw _ (List.mem_of_getElem? (i := 164) rfl)) (by decide) (o_len pdkL rfl) rfl (pc' := 5) dcb_2 rfl (Nat.le_of_ble_eq_true rfl) (Nat.le_of_ble_eq_true rfl) (Nat.le_of_ble_eq_true rfl) (Nat.le_of_ble_eq_true rfl) (fun v2 h2 hQ2 => ?_)
  obtain ⟨rfl, rfl⟩ := hQ2
  dsimp only [oPush]
  refine s_iloadN (pc' := 6) dcb_5 rfl rfl ?_
  refine s_iloadN (pc' := 7) dcb_6 rfl rfl ?_
  refine s_isub (pc' := 8) dcb_7 rfl ?_
  rw [Int32.sub_zero]
  refine s_istoreN (kn := 3) rfl (pc' := 9) dcb_8 rfl (o_st rfl (by first | exact One.u | exact One.val rfl | assumption) rfl) ?_
  dsimp only [List.set_cons_succ, List.set_cons_zero]
  refine s_iloadN (pc' := 10) dcb_9 rfl rfl ?_
  refine s_newA 34 (hw _ (List.mem_of_getElem? (i := 18) rfl)) (pc' := 12) dcb_10 rfl (nn (by omega)) (by rw [cl (by omega)]; omega) (by decide) (Nat.le_of_ble_eq_true rfl) (Nat.le_of_ble_eq_true rfl) (fun h10 b10 k10 g10 nb10 E10 A10 => ?_)
  replace A10 := o_padTo A10 bs.length
  rw [List.nil_append] at A10
  replace A := A.ext E10
  refine s_astore (pc' := 14) dcb_12 rfl rfl (o_st rfl (by first | exact One.u | exact One.val rfl | assumption) rfl) ?_
  dsimp only [List.set_cons_succ, List.set_cons_zero]
  refine s_aloadN (pc' := 15) dcb_14 rfl rfl rfl ?_
  refine s_iloadN (pc' := 16) dcb_15 rfl rfl ?_
  refine s_aload (pc' := 18) dcb_16 rfl rfl rfl ?_
  refine s_iconst (x := (0 : Int32)) (pc' := 19) dcb_18 rfl rfl ?_
  refine s_aloadN (pc' := 20) dcb_19 rfl rfl rfl ?_
  refine s_alen A (pc' := 21) dcb_20 rfl ?_
  refine s_iloadN (pc' := 22) dcb_21 rfl rfl ?_
  refine s_isub (pc' := 23) dcb_22 rfl ?_
  rw [Int32.sub_zero]
  refine s_iloadN (pc' := 24) dcb_23 rfl rfl ?_
  refine s_callS2 (rmmn C.l G n0 _ _ _) (by simp) (hw _ (List.mem_of_getElem? (i := 165) rfl)) (hw _ (List.mem_of_getElem? (i := 166) rfl)) (hw _ (List.mem_of_getElem? (i := 167) rfl)) (hw _ (List.mem_of_getElem? (i := 168) rfl)) (by decide) (o_len pdmn rfl) rfl (pc' := 27) dcb_24 rfl (Nat.le_of_ble_eq_true rfl) (Nat.le_of_ble_eq_true rfl) (Nat.le_of_ble_eq_true rfl) (Nat.le_of_ble_eq_true rfl) (fun v24 h24 hQ24 => ?_)
  obtain ⟨rfl, rfl⟩ := hQ24
  dsimp only [oPush]
  rw [min_nm (by omega) hl]
  refine s_copy A A10 rfl nb10 (by simp) (hw _ (List.mem_of_getElem? (i := 169) rfl)) (hw _ (List.mem_of_getElem? (i := 121) rfl)) (hw _ (List.mem_of_getElem? (i := 119) rfl)) (hw _ (List.mem_of_getElem? (i := 120) rfl)) (by decide) (by decide) (nn (by omega)) (by rw [cl (by omega), cl (by omega)]; show 0 + _ ≤ _; omega) (by rw [cl (by omega)]; show 0 + _ ≤ _; omega) (by rw [cl (by omega), List.length_replicate]; show 0 + _ ≤ _; omega) rfl (pc' := 30) dcb_27 rfl (Nat.le_of_ble_eq_true rfl) (Nat.le_of_ble_eq_true rfl) (fun h27 K27 A27 => ?_)
  rw [cl (show bs.length < 2147483648 by omega), show (0 : Int32).toNatClampNeg = 0 from rfl] at A27
  replace A27 := Eq.mp (congrArg (fun z => Arv Z h27 b10 k10 .byte (Int32.ofNat bs.length) z (.int 0)) (BB_cut (cap := cap) hl rfl)) A27
  refine s_aload (pc' := 32) dcb_30 rfl rfl rfl ?_
  exact s_aret rfl rfl rfl dcb_32 (Nat.le_of_ble_eq_true rfl) (Nat.le_of_ble_eq_true rfl) ⟨b10, k10, rfl, Nat.le_of_eq g10.symm, o_extKeep E10 K27 (allS (Nat.le_of_eq g10.symm) all0), A27⟩
def icr : OInfo := ("java/util/Arrays", jdk_65_method_132_code, 3, (some (.array .byte)), "copyOfRange", ({ frames := 2, cells := 1, slots := 34, locals := 46 } : Room))
theorem efcr (x0 : Addr) (x1 : Int32) (x2 : Int32) (m : MethodId) : entryFrame m #[(.ref x0), (.int x1), (.int x2)] 3 = mkF m 0 #[.val (.ref x0), .val (.int x1), .val (.int x2)] [] := by first | (simp [entryFrame, mkF, argsToLocals, Value.category]; done) | rfl
theorem pdcr : parseMethodDescriptor "([BII)[B" = some ⟨[(.array .byte), .int, .int], some (.array .byte)⟩ := by decide +kernel
theorem pncr : plainFor (⟨"java/util/Arrays", "copyOfRange", "([BII)[B"⟩ : MethodName) = true := by decide +kernel
theorem dcr_0 : decode jdk_65_method_132_code 0 = .ok (.iload_n 1, 1) := by decide +kernel
theorem dcr_1 : decode jdk_65_method_132_code 1 = .ok (.ifCond .ne 9, 3) := by decide +kernel
theorem dcr_4 : decode jdk_65_method_132_code 4 = .ok (.iload_n 2, 1) := by decide +kernel
theorem dcr_5 : decode jdk_65_method_132_code 5 = .ok (.aload_n 0, 1) := by decide +kernel
theorem dcr_6 : decode jdk_65_method_132_code 6 = .ok (.arraylength, 1) := by decide +kernel
theorem dcr_7 : decode jdk_65_method_132_code 7 = .ok (.if_icmp .eq 10, 3) := by decide +kernel
theorem dcr_10 : decode jdk_65_method_132_code 10 = .ok (.aload_n 0, 1) := by decide +kernel
theorem dcr_11 : decode jdk_65_method_132_code 11 = .ok (.iload_n 1, 1) := by decide +kernel
theorem dcr_12 : decode jdk_65_method_132_code 12 = .ok (.iload_n 2, 1) := by decide +kernel
theorem dcr_13 : decode jdk_65_method_132_code 13 = .ok (.invokestatic 339, 3) := by decide +kernel
theorem dcr_16 : decode jdk_65_method_132_code 16 = .ok (.areturn, 1) := by decide +kernel
theorem dcr_17 : decode jdk_65_method_132_code 17 = .ok (.aload_n 0, 1) := by decide +kernel
theorem dcr_18 : decode jdk_65_method_132_code 18 = .ok (.invokevirtual 310, 3) := by decide +kernel
theorem dcr_21 : decode jdk_65_method_132_code 21 = .ok (.checkcast 311, 3) := by decide +kernel
theorem dcr_24 : decode jdk_65_method_132_code 24 = .ok (.areturn, 1) := by decide +kernel
set_option maxRecDepth 65536 in
set_option maxHeartbeats 4000000 in
theorem rmcr (l : Launch) {Z : State} {a0 : Array Value} (G : OG Z a0) (n0 : Nat) (a : Addr) (k : ClassId) (cap : Nat) (bs : List Int32) (hl : bs.length ≤ cap) (hc : cap ≤ 34) (h0 : Heap) (A : Arv Z h0 a k .byte (Int32.ofNat cap) (BB bs cap) (.int 0)) (XA : Exa Z h0 a "[B") : oCon l Z n0 EL1 [] (⟨"java/util/Arrays", "copyOfRange", "([BII)[B"⟩ : MethodName) icr #[.ref a, .int 0, .int (Int32.ofNat bs.length)] h0 (fun v h => ∃ d k', v = some (.ref d) ∧ h0.size ≤ d ∧ Ext h0 h ∧ Arv Z h d k' .byte (Int32.ofNat bs.length) (bs.map fun c => Value.int (byt c)) (.int 0)) := by
  obtain ⟨hw, hEL, ⟨cmp, hC, hc0⟩, ⟨fm, hfm, hF⟩⟩ := id G
  refine oCon.mk hEL pncr rfl rfl (efcr a 0 _) fun C hCl => ?_
  refine s_iloadN (pc' := 1) dcr_0 rfl rfl ?_
  refine s_if (pc' := 4) (pc'' := 10) dcr_1 rfl (by decide) rfl (fun hc1 => ?_) (fun hc1 => ?_)
  · replace hc1 := b_ne hc1
    exact absurd rfl hc1
  · replace hc1 := b_neF hc1
    refine s_iloadN (pc' := 5) dcr_4 rfl rfl ?_
    refine s_aloadN (pc' := 6) dcr_5 rfl rfl rfl ?_
    refine s_alen A (pc' := 7) dcr_6 rfl ?_
    refine s_icmp (pc' := 10) (pc'' := 17) dcr_7 rfl (by decide) rfl (fun hc7 => ?_) (fun hc7 => ?_)
    · replace hc7 := b_eq hc7
      obtain rfl : bs.length = cap := n_inj (by omega) (by omega) hc7
      rw [BB_full] at A
      refine s_aloadN (pc' := 18) dcr_17 rfl rfl rfl ?_
      refine s_clone 34 A XA (hw _ (List.mem_of_getElem? (i := 218) rfl)) (hw _ (List.mem_of_getElem? (i := 219) rfl)) (hw _ (List.mem_of_getElem? (i := 223) rfl)) (hw _ (List.mem_of_getElem? (i := 221) rfl)) (hw _ (List.mem_of_getElem? (i := 222) rfl)) (hw _ (List.mem_of_getElem? (i := 224) rfl)) rfl (pc' := 21) dcr_18 rfl (Nat.le_of_ble_eq_true rfl) (Nat.le_of_ble_eq_true rfl) (by rw [cl (by omega)]; exact hc) (Nat.le_of_ble_eq_true rfl) (Nat.le_of_ble_eq_true rfl) (fun h18 d g18 nb18 E18 A18 X18 => ?_)
      refine s_castY (Ins.self X18) (hw _ (List.mem_of_getElem? (i := 225) rfl)) (pc' := 24) dcr_21 rfl ?_
      exact s_aret rfl rfl rfl dcr_24 (Nat.le_of_ble_eq_true rfl) (Nat.le_of_ble_eq_true rfl) ⟨d, k, rfl, Nat.le_of_eq g18.symm, E18, A18⟩
    · replace hc7 := b_eqF hc7
      refine s_aloadN (pc' := 11) dcr_10 rfl rfl rfl ?_
      refine s_iloadN (pc' := 12) dcr_11 rfl rfl ?_
      refine s_iloadN (pc' := 13) dcr_12 rfl rfl ?_
      refine s_callS3 (rmcb C.l G n0 a k cap bs hl hc h0 A) (by simp) (hw _ (List.mem_of_getElem? (i := 159) rfl)) (hw _ (List.mem_of_getElem? (i := 160) rfl)) (hw _ (List.mem_of_getElem? (i := 157) rfl)) (hw _ (List.mem_of_getElem? (i := 161) rfl)) (by decide) (o_len pdcb rfl) rfl (pc' := 16) dcr_13 rfl (Nat.le_of_ble_eq_true rfl) (Nat.le_of_ble_eq_true rfl) (Nat.le_of_ble_eq_true rfl) (Nat.le_of_ble_eq_true rfl) (fun v13 h13 hQ13 => ?_)
      obtain ⟨d, k2, rfl, q1, q2, q3⟩ := hQ13
      dsimp only [oPush]
      exact s_aret rfl rfl rfl dcr_16 (Nat.le_of_ble_eq_true rfl) (Nat.le_of_ble_eq_true rfl) ⟨d, k2, rfl, q1, q2, q3⟩
def isS : OInfo := ("java/lang/String", jdk_42_method_150_code, 5, none, "<init>", ({ frames := 3, cells := 1, slots := 34, locals := 61 } : Room))
theorem pdsS : parseMethodDescriptor "(Ljava/lang/AbstractStringBuilder;Ljava/lang/Void;)V" = some ⟨[(.object "java/lang/AbstractStringBuilder"), (.object "java/lang/Void")], none⟩ := by decide +kernel
theorem pnsS : plainFor (⟨"java/lang/String", "<init>", "(Ljava/lang/AbstractStringBuilder;Ljava/lang/Void;)V"⟩ : MethodName) = true := by decide +kernel
theorem efsS (x0 x1 : Addr) (m : MethodId) : entryFrame m #[(.ref x0), (.ref x1), .null] 5 = mkF m 0 #[.val (.ref x0), .val (.ref x1), .val .null, .unset, .unset] [] := by first | (simp [entryFrame, mkF, argsToLocals, Value.category]; done) | rfl
theorem dsS_0 : decode jdk_42_method_150_code 0 = .ok (.aload_n 0, 1) := by decide +kernel
theorem dsS_1 : decode jdk_42_method_150_code 1 = .ok (.invokespecial 1, 3) := by decide +kernel
theorem dsS_4 : decode jdk_42_method_150_code 4 = .ok (.aload_n 1, 1) := by decide +kernel
theorem dsS_5 : decode jdk_42_method_150_code 5 = .ok (.invokevirtual 552, 3) := by decide +kernel
theorem dsS_8 : decode jdk_42_method_150_code 8 = .ok (.astore_n 3, 1) := by decide +kernel
theorem dsS_9 : decode jdk_42_method_150_code 9 = .ok (.aload_n 1, 1) := by decide +kernel
theorem dsS_10 : decode jdk_42_method_150_code 10 = .ok (.invokevirtual 549, 3) := by decide +kernel
theorem dsS_13 : decode jdk_42_method_150_code 13 = .ok (.istore 4, 2) := by decide +kernel
theorem dsS_15 : decode jdk_42_method_150_code 15 = .ok (.aload_n 1, 1) := by decide +kernel
theorem dsS_16 : decode jdk_42_method_150_code 16 = .ok (.invokevirtual 1047, 3) := by decide +kernel
theorem dsS_19 : decode jdk_42_method_150_code 19 = .ok (.ifCond .eq 22, 3) := by decide +kernel
theorem dsS_22 : decode jdk_42_method_150_code 22 = .ok (.aload_n 0, 1) := by decide +kernel
theorem dsS_23 : decode jdk_42_method_150_code 23 = .ok (.iconst 0, 1) := by decide +kernel
theorem dsS_24 : decode jdk_42_method_150_code 24 = .ok (.putfield 15, 3) := by decide +kernel
theorem dsS_27 : decode jdk_42_method_150_code 27 = .ok (.aload_n 0, 1) := by decide +kernel
theorem dsS_28 : decode jdk_42_method_150_code 28 = .ok (.aload_n 3, 1) := by decide +kernel
theorem dsS_29 : decode jdk_42_method_150_code 29 = .ok (.iconst 0, 1) := by decide +kernel
theorem dsS_30 : decode jdk_42_method_150_code 30 = .ok (.iload 4, 2) := by decide +kernel
theorem dsS_32 : decode jdk_42_method_150_code 32 = .ok (.invokestatic 54, 3) := by decide +kernel
theorem dsS_35 : decode jdk_42_method_150_code 35 = .ok (.putfield 9, 3) := by decide +kernel
theorem dsS_38 : decode jdk_42_method_150_code 38 = .ok (.goto 59, 3) := by decide +kernel
theorem dsS_97 : decode jdk_42_method_150_code 97 = .ok (.return_, 1) := by decide +kernel
set_option maxRecDepth 65536 in
set_option maxHeartbeats 4000000 in
theorem rmsS (l : Launch) {Z : State} {a0 : Array Value} (G : OG Z a0) (n0 : Nat) (s b a : Addr) (k : ClassId) (cap : Nat) (bs : List Int32) (hcp : cap ≤ 34) (h0 : Heap) (B : BD Z h0 b a k cap bs) (X1 : Exa Z h0 s "java/lang/String") (G1 : Fld Z h0 s "java/lang/String" "value" "[B" .null) (G2 : Fld Z h0 s "java/lang/String" "coder" "B" (.int 0)) (gs : n0 ≤ s) : oCon l Z n0 EL1 [s] (⟨"java/lang/String", "<init>", "(Ljava/lang/AbstractStringBuilder;Ljava/lang/Void;)V"⟩ : MethodName) isS #[.ref s, .ref b, .null] h0 (fun v h => v = none ∧ Keep h0 h [s] ∧ SV Z h h.size s bs) := by
  obtain ⟨hw, hEL, ⟨cmp, hC, hc0⟩, ⟨fm, hfm, hF⟩⟩ := id G
  obtain ⟨XB, FV, FC, FN, A, XA, hl, hc⟩ := B
  refine oCon.mk hEL pnsS rfl rfl (efsS s b) fun C hCl => ?_
  refine s_aloadN (pc' := 1) dsS_0 rfl rfl rfl ?_
  refine s_initO (hw _ (List.mem_of_getElem? (i := 23) rfl)) (hw _ (List.mem_of_getElem? (i := 24) rfl)) (hw _ (List.mem_of_getElem? (i := 25) rfl)) rfl (pc' := 4) dsS_1 rfl (Nat.le_of_ble_eq_true rfl) (Nat.le_of_ble_eq_true rfl) ?_
  refine s_aloadN (pc' := 5) dsS_4 rfl rfl rfl ?_
  refine s_callV0 (rmgv C.l G n0 b a h0 FV) (by simp) XB (hw _ (List.mem_of_getElem? (i := 137) rfl)) (hw _ (List.mem_of_getElem? (i := 138) rfl)) (hw _ (List.mem_of_getElem? (i := 140) rfl)) (hw _ (List.mem_of_getElem? (i := 139) rfl)) (o_nf (hw _ (List.mem_of_getElem? (i := 140) rfl)) rfl) (hw _ (List.mem_of_getElem? (i := 66) rfl)) (hw _ (List.mem_of_getElem? (i := 141) rfl)) (by decide) (o_len pdgv rfl) rfl (pc' := 8) dsS_5 rfl (Nat.le_of_ble_eq_true rfl) (Nat.le_of_ble_eq_true rfl) (Nat.le_of_ble_eq_true rfl) (Nat.le_of_ble_eq_true rfl) (fun v5 h5 hQ5 => ?_)
  obtain ⟨rfl, rfl⟩ := hQ5
  dsimp only [oPush]
  refine s_astoreN (kn := 3) rfl (pc' := 9) dsS_8 rfl rfl (o_st rfl (by first | exact One.u | exact One.val rfl | assumption) rfl) ?_
  dsimp only [List.set_cons_succ, List.set_cons_zero]
  refine s_aloadN (pc' := 10) dsS_9 rfl rfl rfl ?_
  refine s_callV0 (rmlB C.l G n0 b _ _ XB FN) (by simp) XB (hw _ (List.mem_of_getElem? (i := 142) rfl)) (hw _ (List.mem_of_getElem? (i := 143) rfl)) (hw _ (List.mem_of_getElem? (i := 145) rfl)) (hw _ (List.mem_of_getElem? (i := 146) rfl)) (o_nf2 (hw _ (List.mem_of_getElem? (i := 100) rfl)) rfl) (hw _ (List.mem_of_getElem? (i := 58) rfl)) (hw _ (List.mem_of_getElem? (i := 147) rfl)) (by decide) (o_len pdlA rfl) rfl (pc' := 13) dsS_10 rfl (Nat.le_of_ble_eq_true rfl) (Nat.le_of_ble_eq_true rfl) (Nat.le_of_ble_eq_true rfl) (Nat.le_of_ble_eq_true rfl) (fun v10 h10 hQ10 => ?_)
  obtain ⟨rfl, rfl⟩ := hQ10
  dsimp only [oPush]
  refine s_istore (pc' := 15) dsS_13 rfl (o_st rfl (by first | exact One.u | exact One.val rfl | assumption) rfl) ?_
  dsimp only [List.set_cons_succ, List.set_cons_zero]
  refine s_aloadN (pc' := 16) dsS_15 rfl rfl rfl ?_
  refine s_callV0 (rmiL C.l G n0 b _ FC) (by simp) XB (hw _ (List.mem_of_getElem? (i := 150) rfl)) (hw _ (List.mem_of_getElem? (i := 151) rfl)) (hw _ (List.mem_of_getElem? (i := 153) rfl)) (hw _ (List.mem_of_getElem? (i := 152) rfl)) (o_nf (hw _ (List.mem_of_getElem? (i := 153) rfl)) rfl) (hw _ (List.mem_of_getElem? (i := 66) rfl)) (hw _ (List.mem_of_getElem? (i := 154) rfl)) (by decide) (o_len pdiL rfl) rfl (pc' := 19) dsS_16 rfl (Nat.le_of_ble_eq_true rfl) (Nat.le_of_ble_eq_true rfl) (Nat.le_of_ble_eq_true rfl) (Nat.le_of_ble_eq_true rfl) (fun v16 h16 hQ16 => ?_)
  obtain ⟨rfl, rfl⟩ := hQ16
  dsimp only [oPush]
  refine s_if (pc' := 22) (pc'' := 41) dsS_19 rfl (by decide) rfl (fun hc19 => ?_) (fun hc19 => ?_)
  · replace hc19 := b_eq hc19
    exact absurd hc19 (by decide)
  · replace hc19 := b_eqF hc19
    refine s_aloadN (pc' := 23) dsS_22 rfl rfl rfl ?_
    refine s_iconst (x := (0 : Int32)) (pc' := 24) dsS_23 rfl rfl ?_
    refine s_putF G2 X1 gs (by simp) (host := "") (Or.inl (hw _ (List.mem_of_getElem? (i := 28) rfl))) Via.refl (Or.inr ⟨(hw _ (List.mem_of_getElem? (i := 29) rfl)), rfl, rfl⟩) (hw _ (List.mem_of_getElem? (i := 14) rfl)) (ty := .byte) (by decide) rfl rfl (pc' := 27) dsS_24 rfl (fun h24 W24 => ?_)
    have nas : a ≠ s := Exa.ne XA X1 (by decide)
    replace A := A.other W24 nas
    replace XA := XA.wr W24
    refine s_aloadN (pc' := 28) dsS_27 rfl rfl rfl ?_
    refine s_aloadN (pc' := 29) dsS_28 rfl rfl rfl ?_
    refine s_iconst (x := (0 : Int32)) (pc' := 30) dsS_29 rfl rfl ?_
    refine s_iload (pc' := 32) dsS_30 rfl rfl ?_
    refine s_callS3 (rmcr C.l G n0 a k cap bs hl hcp _ A XA) (by simp) (hw _ (List.mem_of_getElem? (i := 155) rfl)) (hw _ (List.mem_of_getElem? (i := 156) rfl)) (hw _ (List.mem_of_getElem? (i := 157) rfl)) (hw _ (List.mem_of_getElem? (i := 158) rfl)) (by decide) (o_len pdcr rfl) rfl (pc' := 35) dsS_32 rfl (Nat.le_of_ble_eq_true rfl) (Nat.le_of_ble_eq_true rfl) (Nat.le_of_ble_eq_true rfl) (Nat.le_of_ble_eq_true rfl) (fun v32 h32 hQ32 => ?_)
    obtain ⟨d, k2, rfl, gd, E32, A32⟩ := hQ32
    dsimp only [oPush]
    have sz := (Keep.of_wr W24).1
    have nds : d ≠ s := (o_fresh' (Nat.lt_of_lt_of_le X1.lt sz) gd).symm
    refine s_putF ((G1.other W24 (Or.inr (slot_ne (Or.inr (hw _ (List.mem_of_getElem? (i := 27) rfl))) (Or.inr (hw _ (List.mem_of_getElem? (i := 29) rfl))) (by decide) (t := .array .byte) (t' := .byte) (by decide) (by decide)))).ext E32) ((X1.wr W24).ext E32) gs (by simp) (host := "") (Or.inl (hw _ (List.mem_of_getElem? (i := 26) rfl))) Via.refl (Or.inr ⟨(hw _ (List.mem_of_getElem? (i := 27) rfl)), rfl, rfl⟩) (hw _ (List.mem_of_getElem? (i := 14) rfl)) (ty := .array .byte) (by decide) rfl rfl (pc' := 38) dsS_35 rfl (fun h35 W35 => ?_)
    refine s_goto (pc' := 97) dsS_38 (by decide) rfl ?_
    exact s_ret rfl dsS_97 (Nat.le_of_ble_eq_true rfl) (Nat.le_of_ble_eq_true rfl) ⟨rfl, (((Keep.refl _ [s]).wr W24 (Or.inl (List.mem_cons_self ..))).ext E32).wr W35 (Or.inl (List.mem_cons_self ..)), d, k2, (((X1.wr W24).ext E32).wr W35).lt, ((A32.other W35 nds)).lt, ((X1.wr W24).ext E32).wr W35, (((G2.same W24).ext E32).other W35 (Or.inr (slot_ne (Or.inr (hw _ (List.mem_of_getElem? (i := 29) rfl))) (Or.inr (hw _ (List.mem_of_getElem? (i := 27) rfl))) (by decide) (t := .byte) (t' := .array .byte) (by decide) (by decide)))), (((G1.other W24 (Or.inr (slot_ne (Or.inr (hw _ (List.mem_of_getElem? (i := 27) rfl))) (Or.inr (hw _ (List.mem_of_getElem? (i := 29) rfl))) (by decide) (t := .array .byte) (t' := .byte) (by decide) (by decide)))).ext E32).same W35), A32.other W35 nds⟩
def isT : OInfo := ("java/lang/String", jdk_42_method_53_code, 2, none, "<init>", ({ frames := 4, cells := 1, slots := 34, locals := 77 } : Room))
theorem efsT (x0 : Addr) (x1 : Addr) (m : MethodId) : entryFrame m #[(.ref x0), (.ref x1)] 2 = mkF m 0 #[.val (.ref x0), .val (.ref x1)] [] := by first | (simp [entryFrame, mkF, argsToLocals, Value.category]; done) | rfl
theorem pdsT : parseMethodDescriptor "(Ljava/lang/StringBuilder;)V" = some ⟨[(.object "java/lang/StringBuilder")], none⟩ := by decide +kernel
theorem pnsT : plainFor (⟨"java/lang/String", "<init>", "(Ljava/lang/StringBuilder;)V"⟩ : MethodName) = true := by decide +kernel
theorem dsT_0 : decode jdk_42_method_53_code 0 = .ok (.aload_n 0, 1) := by decide +kernel
theorem dsT_1 : decode jdk_42_method_53_code 1 = .ok (.aload_n 1, 1) := by decide +kernel
theorem dsT_2 : decode jdk_42_method_53_code 2 = .ok (.aconst_null, 1) := by decide +kernel
theorem dsT_3 : decode jdk_42_method_53_code 3 = .ok (.invokespecial 489, 3) := by decide +kernel
theorem dsT_6 : decode jdk_42_method_53_code 6 = .ok (.return_, 1) := by decide +kernel
set_option maxRecDepth 65536 in
set_option maxHeartbeats 4000000 in
theorem rmsT (l : Launch) {Z : State} {a0 : Array Value} (G : OG Z a0) (n0 : Nat) (s b a : Addr) (k : ClassId) (cap : Nat) (bs : List Int32) (hcp : cap ≤ 34) (h0 : Heap) (B : BD Z h0 b a k cap bs) (X1 : Exa Z h0 s "java/lang/String") (G1 : Fld Z h0 s "java/lang/String" "value" "[B" .null) (G2 : Fld Z h0 s "java/lang/String" "coder" "B" (.int 0)) (gs : n0 ≤ s) : oCon l Z n0 EL1 [s] (⟨"java/lang/String", "<init>", "(Ljava/lang/StringBuilder;)V"⟩ : MethodName) isT #[.ref s, .ref b] h0 (fun v h => v = none ∧ Keep h0 h [s] ∧ SV Z h h.size s bs) := by
  obtain ⟨hw, hEL, ⟨cmp, hC, hc0⟩, ⟨fm, hfm, hF⟩⟩ := id G
  refine oCon.mk hEL pnsT rfl rfl (efsT s b) fun C hCl => ?_
  refine s_aloadN (pc' := 1) dsT_0 rfl rfl rfl ?_
  refine s_aloadN (pc' := 2) dsT_1 rfl rfl rfl ?_
  refine s_null (pc' := 3) dsT_2 rfl ?_
  refine s_callI2 (rmsS C.l G n0 s b a k cap bs hcp h0 B X1 G1 G2 gs) (by simp) rfl rfl (hw _ (List.mem_of_getElem? (i := 134) rfl)) (hw _ (List.mem_of_getElem? (i := 135) rfl)) (hw _ (List.mem_of_getElem? (i := 6) rfl)) (hw _ (List.mem_of_getElem? (i := 136) rfl)) (by decide) (o_len pdsS rfl) rfl (pc' := 6) dsT_3 rfl (Nat.le_of_ble_eq_true rfl) (Nat.le_of_ble_eq_true rfl) (Nat.le_of_ble_eq_true rfl) (Nat.le_of_ble_eq_true rfl) (fun v3 h3 hQ3 => ?_)
  obtain ⟨rfl, K3, V3⟩ := hQ3
  dsimp only [oPush]
  exact s_ret rfl dsT_6 (Nat.le_of_ble_eq_true rfl) (Nat.le_of_ble_eq_true rfl) ⟨rfl, K3, V3⟩
def itS : OInfo := ("java/lang/StringBuilder", jdk_67_method_42_code, 1, (some (.object "java/lang/String")), "toString", ({ frames := 5, cells := 2, slots := 38, locals := 91 } : Room))
theorem eftS (x0 : Addr) (m : MethodId) : entryFrame m #[(.ref x0)] 1 = mkF m 0 #[.val (.ref x0)] [] := by first | (simp [entryFrame, mkF, argsToLocals, Value.category]; done) | rfl
theorem pdtS : parseMethodDescriptor "()Ljava/lang/String;" = some ⟨[], some (.object "java/lang/String")⟩ := by decide +kernel
theorem pntS : plainFor (⟨"java/lang/StringBuilder", "toString", "()Ljava/lang/String;"⟩ : MethodName) = true := by decide +kernel
theorem dtS_0 : decode jdk_67_method_42_code 0 = .ok (.new 18, 3) := by decide +kernel
theorem dtS_3 : decode jdk_67_method_42_code 3 = .ok (.dup, 1) := by decide +kernel
theorem dtS_4 : decode jdk_67_method_42_code 4 = .ok (.aload_n 0, 1) := by decide +kernel
theorem dtS_5 : decode jdk_67_method_42_code 5 = .ok (.invokespecial 137, 3) := by decide +kernel
theorem dtS_8 : decode jdk_67_method_42_code 8 = .ok (.areturn, 1) := by decide +kernel
set_option maxRecDepth 65536 in
set_option maxHeartbeats 4000000 in
theorem rmtS (l : Launch) {Z : State} {a0 : Array Value} (G : OG Z a0) (n0 : Nat) (b a : Addr) (k : ClassId) (cap : Nat) (bs : List Int32) (hcp : cap ≤ 34) (h0 : Heap) (B : BD Z h0 b a k cap bs) : oCon l Z n0 EL1 [] (⟨"java/lang/StringBuilder", "toString", "()Ljava/lang/String;"⟩ : MethodName) itS #[.ref b] h0 (fun v h => ∃ r, v = some (.ref r) ∧ h0.size ≤ r ∧ Ext h0 h ∧ SV Z h h.size r bs) := by
  obtain ⟨hw, hEL, ⟨cmp, hC, hc0⟩, ⟨fm, hfm, hF⟩⟩ := id G
  refine oCon.mk hEL pntS rfl rfl (eftS b) fun C hCl => ?_
  refine s_new (hw _ (List.mem_of_getElem? (i := 130) rfl)) (hw _ (List.mem_of_getElem? (i := 14) rfl)) (hw _ (List.mem_of_getElem? (i := 6) rfl)) (pc' := 3) dtS_0 rfl (Nat.le_of_ble_eq_true rfl) (Nat.le_of_ble_eq_true rfl) (fun h0 b0 g0 nb0 E0 A0 D0 => ?_)
  refine s_dup (pc' := 4) dtS_3 rfl rfl ?_
  refine s_aloadN (pc' := 5) dtS_4 rfl rfl rfl ?_
  refine s_callI1 (rmsT C.l G n0 b0 b a k cap bs hcp _ (B.ext E0) A0 (D0 (Or.inr (hw _ (List.mem_of_getElem? (i := 27) rfl))) (ty := .array .byte) (by decide)) (D0 (Or.inr (hw _ (List.mem_of_getElem? (i := 29) rfl))) (ty := .byte) (by decide)) nb0) (by simp) rfl rfl (hw _ (List.mem_of_getElem? (i := 131) rfl)) (hw _ (List.mem_of_getElem? (i := 132) rfl)) (hw _ (List.mem_of_getElem? (i := 6) rfl)) (hw _ (List.mem_of_getElem? (i := 133) rfl)) (by decide) (o_len pdsT rfl) rfl (pc' := 8) dtS_5 rfl (Nat.le_of_ble_eq_true rfl) (Nat.le_of_ble_eq_true rfl) (Nat.le_of_ble_eq_true rfl) (Nat.le_of_ble_eq_true rfl) (fun v5 h5 hQ5 => ?_)
  obtain ⟨rfl, K5, V5⟩ := hQ5
  dsimp only [oPush]
  exact s_aret rfl rfl rfl dtS_8 (Nat.le_of_ble_eq_true rfl) (Nat.le_of_ble_eq_true rfl) ⟨b0, rfl, Nat.le_of_eq g0.symm, o_extKeep E0 K5 (allS (Nat.le_of_eq g0.symm) all0), V5⟩
abbrev c1 : List Int32 := [99, 111, 110, 115, 116, 32]
abbrev c3 : List Int32 := [32, 58, 61, 32]
def TX (ts ns vs : List Int32) : List Int32 := [] ++ c1 ++ ts ++ [32] ++ ns ++ c3 ++ vs ++ [59]
theorem Ch.app {a b : List Int32} (ha : Ch a) (hb : Ch b) : Ch (a ++ b) := fun z hz => (List.mem_append.mp hz).elim (ha z) (hb z)
theorem ch_c1 : Ch c1 := by unfold Ch; decide
theorem ch_c3 : Ch c3 := by unfold Ch; decide
theorem ch_32 : Ch [32] := by unfold Ch; decide
theorem ch_59 : Ch [59] := by unfold Ch; decide
theorem ch_nil : Ch [] := by unfold Ch; decide
theorem tx_ch {ts ns vs : List Int32} (h1 : Ch ts) (h2 : Ch ns) (h3 : Ch vs) : Ch (TX ts ns vs) := ((((((ch_nil.app ch_c1).app h1).app ch_32).app h2).app ch_c3).app h3).app ch_59
theorem tx_len (ts ns vs : List Int32) : (TX ts ns vs).length = ts.length + ns.length + vs.length + 12 := by simp [TX]; omega
theorem ga {P R : List Int32} {o j : Nat} (h : o = P.length) : (P ++ R)[o + j]? = R[j]? := by subst h; rw [List.getElem?_append_right (Nat.le_add_right _ _), Nat.add_sub_cancel_left]
theorem gl {l r : List Int32} {j : Nat} {z : Int32} (h : l[j]? = some z) : (l ++ r)[j]? = some z := by rw [List.getElem?_append_left (List.getElem?_eq_some_iff.mp h).1]; exact h
theorem tx_t {ts ns vs : List Int32} {j : Nat} {z : Int32} (h : ts[j]? = some z) : (TX ts ns vs)[6 + j]? = some z := by
  rw [show TX ts ns vs = c1 ++ (ts ++ ([32] ++ ns ++ c3 ++ vs ++ [59])) by simp [TX], ga (by rfl)]; exact gl h
theorem tx_s (ts ns vs : List Int32) : (TX ts ns vs)[6 + ts.length]? = some 32 := by
  rw [show TX ts ns vs = (c1 ++ ts) ++ ([32] ++ (ns ++ c3 ++ vs ++ [59])) by simp [TX], show 6 + ts.length = (6 + ts.length) + 0 by omega, ga (by simp; omega)]; rfl
theorem tx_n {ts ns vs : List Int32} {j : Nat} {z : Int32} (h : ns[j]? = some z) : (TX ts ns vs)[6 + ts.length + 1 + j]? = some z := by
  rw [show TX ts ns vs = (c1 ++ ts ++ [32]) ++ (ns ++ (c3 ++ vs ++ [59])) by simp [TX], ga (by simp; omega)]; exact gl h
theorem tx_q (ts ns vs : List Int32) {j : Nat} {z : Int32} (h : c3[j]? = some z) : (TX ts ns vs)[6 + ts.length + 1 + ns.length + j]? = some z := by
  rw [show TX ts ns vs = (c1 ++ ts ++ [32] ++ ns) ++ (c3 ++ (vs ++ [59])) by simp [TX], ga (by simp; omega)]; exact gl h
theorem tx_v {ts ns vs : List Int32} {j : Nat} {z : Int32} (h : vs[j]? = some z) : (TX ts ns vs)[6 + ts.length + 1 + ns.length + 4 + j]? = some z := by
  rw [show TX ts ns vs = (c1 ++ ts ++ [32] ++ ns ++ c3) ++ (vs ++ [59]) by simp [TX], ga (by simp; omega)]; exact gl h
theorem tx_e (ts ns vs : List Int32) : (TX ts ns vs)[6 + ts.length + 1 + ns.length + 4 + vs.length]? = some 59 := by
  rw [show TX ts ns vs = (c1 ++ ts ++ [32] ++ ns ++ c3 ++ vs) ++ ([59] ++ []) by simp [TX], show 6 + ts.length + 1 + ns.length + 4 + vs.length = (6 + ts.length + 1 + ns.length + 4 + vs.length) + 0 by omega, ga (by simp; omega)]; rfl
theorem tx_c (ts ns vs : List Int32) {j : Nat} {z : Int32} (h : c1[j]? = some z) : (TX ts ns vs)[j]? = some z := by
  rw [show TX ts ns vs = c1 ++ (ts ++ [32] ++ ns ++ c3 ++ vs ++ [59]) by simp [TX]]; exact gl h
def pk (m : Nat) (x y : Int32) : List Int32 := [x, y].take m
theorem pk_len {m : Nat} (h : m ≤ 2) (x y : Int32) : (pk m x y).length = m := by simp [pk]; omega
theorem pk_ch {x y : Int32} (hx : ¬ x < 0 ∧ ¬ (255 : Int32) < x) (hy : ¬ y < 0 ∧ ¬ (255 : Int32) < y) (m : Nat) : Ch (pk m x y) := fun z hz => by
  have q := List.mem_of_mem_take hz
  simp at q; rcases q with rfl | rfl <;> assumption
theorem three (x : Int32) : ∃ m : Nat, m ≤ 2 ∧ (x &&& 3) % 3 = Int32.ofNat m := by
  have h1 := c_and x 3 (by decide)
  have h2 := (c_irem (x &&& 3) 3 3 rfl).1 h1.1
  have e0 : (Int32.ofNat 0).toInt = 0 := rfl
  have e1 : (Int32.ofNat 1).toInt = 1 := rfl
  have e2 : (Int32.ofNat 2).toInt = 2 := rfl
  have h3 : ((x &&& 3) % 3).toInt = 0 ∨ ((x &&& 3) % 3).toInt = 1 ∨ ((x &&& 3) % 3).toInt = 2 := by rw [h2]; omega
  rcases h3 with h3 | h3 | h3
  · exact ⟨0, by omega, by rw [o_eq, h3, e0]⟩
  · exact ⟨1, by omega, by rw [o_eq, h3, e1]⟩
  · exact ⟨2, by omega, by rw [o_eq, h3, e2]⟩
theorem n_add2 (a : Nat) : Int32.ofNat a + 2 = Int32.ofNat (a + 2) := n_add a 2
theorem n_add3 (a : Nat) : Int32.ofNat a + 3 = Int32.ofNat (a + 3) := n_add a 3
theorem n_add4 (a : Nat) : Int32.ofNat a + 4 = Int32.ofNat (a + 4) := n_add a 4
theorem n_add12 (a : Nat) : Int32.ofNat a + 12 = Int32.ofNat (a + 12) := n_add a 12
theorem n_6add (a : Nat) : 6 + Int32.ofNat a = Int32.ofNat (6 + a) := n_add 6 a
def ire : OInfo := ("java/lang/Record", jdk_30_method_1_code, 1, none, "<init>", ({ frames := 1, cells := 0, slots := 0, locals := 12 } : Room))
theorem efre (x0 : Addr) (m : MethodId) : entryFrame m #[(.ref x0)] 1 = mkF m 0 #[.val (.ref x0)] [] := by first | (simp [entryFrame, mkF, argsToLocals, Value.category]; done) | rfl
theorem pdre : parseMethodDescriptor "()V" = some ⟨[], none⟩ := by decide +kernel
theorem pnre : plainFor (⟨"java/lang/Record", "<init>", "()V"⟩ : MethodName) = true := by decide +kernel
theorem dre_0 : decode jdk_30_method_1_code 0 = .ok (.aload_n 0, 1) := by decide +kernel
theorem dre_1 : decode jdk_30_method_1_code 1 = .ok (.invokespecial 1, 3) := by decide +kernel
theorem dre_4 : decode jdk_30_method_1_code 4 = .ok (.return_, 1) := by decide +kernel
set_option maxRecDepth 65536 in
set_option maxHeartbeats 4000000 in
theorem rmre (l : Launch) {Z : State} {a0 : Array Value} (G : OG Z a0) (n0 : Nat) (a : Addr) (h0 : Heap) : oCon l Z n0 EL1 [] (⟨"java/lang/Record", "<init>", "()V"⟩ : MethodName) ire #[.ref a] h0 (fun v h => v = none ∧ h = h0) := by
  obtain ⟨hw, hEL, ⟨cmp, hC, hc0⟩, ⟨fm, hfm, hF⟩⟩ := id G
  refine oCon.mk hEL pnre rfl rfl (efre a) fun C hCl => ?_
  refine s_aloadN (pc' := 1) dre_0 rfl rfl rfl ?_
  refine s_initO (hw _ (List.mem_of_getElem? (i := 44) rfl)) (hw _ (List.mem_of_getElem? (i := 24) rfl)) (hw _ (List.mem_of_getElem? (i := 25) rfl)) rfl (pc' := 4) dre_1 rfl (Nat.le_of_ble_eq_true rfl) (Nat.le_of_ble_eq_true rfl) ?_
  exact s_ret rfl dre_4 (Nat.le_of_ble_eq_true rfl) (Nat.le_of_ble_eq_true rfl) ⟨rfl, rfl⟩
def idi : OInfo := ("com/example/typeloom/typeloom/ttcn/ConstantDefinition", prog_16_method_1_code, 4, none, "<init>", ({ frames := 2, cells := 0, slots := 0, locals := 24 } : Room))
theorem efdi (x0 : Addr) (x1 : Addr) (x2 : Addr) (x3 : Addr) (m : MethodId) : entryFrame m #[(.ref x0), (.ref x1), (.ref x2), (.ref x3)] 4 = mkF m 0 #[.val (.ref x0), .val (.ref x1), .val (.ref x2), .val (.ref x3)] [] := by first | (simp [entryFrame, mkF, argsToLocals, Value.category]; done) | rfl
theorem pddi : parseMethodDescriptor "(Ljava/lang/String;Ljava/lang/String;Ljava/lang/String;)V" = some ⟨[(.object "java/lang/String"), (.object "java/lang/String"), (.object "java/lang/String")], none⟩ := by decide +kernel
theorem pndi : plainFor (⟨"com/example/typeloom/typeloom/ttcn/ConstantDefinition", "<init>", "(Ljava/lang/String;Ljava/lang/String;Ljava/lang/String;)V"⟩ : MethodName) = true := by decide +kernel
theorem ddi_0 : decode prog_16_method_1_code 0 = .ok (.aload_n 0, 1) := by decide +kernel
theorem ddi_1 : decode prog_16_method_1_code 1 = .ok (.invokespecial 1, 3) := by decide +kernel
theorem ddi_4 : decode prog_16_method_1_code 4 = .ok (.aload_n 0, 1) := by decide +kernel
theorem ddi_5 : decode prog_16_method_1_code 5 = .ok (.aload_n 1, 1) := by decide +kernel
theorem ddi_6 : decode prog_16_method_1_code 6 = .ok (.putfield 7, 3) := by decide +kernel
theorem ddi_9 : decode prog_16_method_1_code 9 = .ok (.aload_n 0, 1) := by decide +kernel
theorem ddi_10 : decode prog_16_method_1_code 10 = .ok (.aload_n 2, 1) := by decide +kernel
theorem ddi_11 : decode prog_16_method_1_code 11 = .ok (.putfield 13, 3) := by decide +kernel
theorem ddi_14 : decode prog_16_method_1_code 14 = .ok (.aload_n 0, 1) := by decide +kernel
theorem ddi_15 : decode prog_16_method_1_code 15 = .ok (.aload_n 3, 1) := by decide +kernel
theorem ddi_16 : decode prog_16_method_1_code 16 = .ok (.putfield 16, 3) := by decide +kernel
theorem ddi_19 : decode prog_16_method_1_code 19 = .ok (.return_, 1) := by decide +kernel
set_option maxRecDepth 65536 in
set_option maxHeartbeats 4000000 in
theorem rmdi (l : Launch) {Z : State} {a0 : Array Value} (G : OG Z a0) (n0 : Nat) (a t u w : Addr) (h0 : Heap) (E : Exa Z h0 a "com/example/typeloom/typeloom/ttcn/ConstantDefinition") (F0 : Fld Z h0 a "com/example/typeloom/typeloom/ttcn/ConstantDefinition" "type" "Ljava/lang/String;" .null) (F1 : Fld Z h0 a "com/example/typeloom/typeloom/ttcn/ConstantDefinition" "name" "Ljava/lang/String;" .null) (F2 : Fld Z h0 a "com/example/typeloom/typeloom/ttcn/ConstantDefinition" "value" "Ljava/lang/String;" .null) (ga : n0 ≤ a) : oCon l Z n0 EL1 [a] (⟨"com/example/typeloom/typeloom/ttcn/ConstantDefinition", "<init>", "(Ljava/lang/String;Ljava/lang/String;Ljava/lang/String;)V"⟩ : MethodName) idi #[.ref a, .ref t, .ref u, .ref w] h0 (fun v h => v = none ∧ Keep h0 h [a] ∧ Exa Z h a "com/example/typeloom/typeloom/ttcn/ConstantDefinition" ∧ Fld Z h a "com/example/typeloom/typeloom/ttcn/ConstantDefinition" "type" "Ljava/lang/String;" (.ref t) ∧ Fld Z h a "com/example/typeloom/typeloom/ttcn/ConstantDefinition" "name" "Ljava/lang/String;" (.ref u) ∧ Fld Z h a "com/example/typeloom/typeloom/ttcn/ConstantDefinition" "value" "Ljava/lang/String;" (.ref w)) := by
  obtain ⟨hw, hEL, ⟨cmp, hC, hc0⟩, ⟨fm, hfm, hF⟩⟩ := id G
  refine oCon.mk hEL pndi rfl rfl (efdi a t u w) fun C hCl => ?_
  refine s_aloadN (pc' := 1) ddi_0 rfl rfl rfl ?_
  refine s_callI0 (rmre C.l G n0 a h0) (by simp) rfl rfl (hw _ (List.mem_of_getElem? (i := 39) rfl)) (hw _ (List.mem_of_getElem? (i := 40) rfl)) (hw _ (List.mem_of_getElem? (i := 42) rfl)) (hw _ (List.mem_of_getElem? (i := 43) rfl)) (by decide) (o_len pdre rfl) rfl (pc' := 4) ddi_1 rfl (Nat.le_of_ble_eq_true rfl) (Nat.le_of_ble_eq_true rfl) (Nat.le_of_ble_eq_true rfl) (Nat.le_of_ble_eq_true rfl) (fun v1 h1 hQ1 => ?_)
  obtain ⟨rfl, rfl⟩ := hQ1
  dsimp only [oPush]
  refine s_aloadN (pc' := 5) ddi_4 rfl rfl rfl ?_
  refine s_aloadN (pc' := 6) ddi_5 rfl rfl rfl ?_
  refine s_putF F0 E ga (by simp) (host := "") (Or.inl (hw _ (List.mem_of_getElem? (i := 45) rfl))) Via.refl (Or.inr ⟨(hw _ (List.mem_of_getElem? (i := 46) rfl)), rfl, rfl⟩) (hw _ (List.mem_of_getElem? (i := 34) rfl)) (ty := (.object "java/lang/String")) (by decide) rfl rfl (pc' := 9) ddi_6 rfl (fun h6 W6 => ?_)
  refine s_aloadN (pc' := 10) ddi_9 rfl rfl rfl ?_
  refine s_aloadN (pc' := 11) ddi_10 rfl rfl rfl ?_
  refine s_putF (F1.other W6 (Or.inr (slot_ne (Or.inr (hw _ (List.mem_of_getElem? (i := 48) rfl))) (Or.inr (hw _ (List.mem_of_getElem? (i := 46) rfl))) (by decide) (t := (.object "java/lang/String")) (t' := (.object "java/lang/String")) (by decide) (by decide)))) (E.wr W6) ga (by simp) (host := "") (Or.inl (hw _ (List.mem_of_getElem? (i := 47) rfl))) Via.refl (Or.inr ⟨(hw _ (List.mem_of_getElem? (i := 48) rfl)), rfl, rfl⟩) (hw _ (List.mem_of_getElem? (i := 34) rfl)) (ty := (.object "java/lang/String")) (by decide) rfl rfl (pc' := 14) ddi_11 rfl (fun h11 W11 => ?_)
  refine s_aloadN (pc' := 15) ddi_14 rfl rfl rfl ?_
  refine s_aloadN (pc' := 16) ddi_15 rfl rfl rfl ?_
  refine s_putF ((F2.other W6 (Or.inr (slot_ne (Or.inr (hw _ (List.mem_of_getElem? (i := 50) rfl))) (Or.inr (hw _ (List.mem_of_getElem? (i := 46) rfl))) (by decide) (t := (.object "java/lang/String")) (t' := (.object "java/lang/String")) (by decide) (by decide)))).other W11 (Or.inr (slot_ne (Or.inr (hw _ (List.mem_of_getElem? (i := 50) rfl))) (Or.inr (hw _ (List.mem_of_getElem? (i := 48) rfl))) (by decide) (t := (.object "java/lang/String")) (t' := (.object "java/lang/String")) (by decide) (by decide)))) ((E.wr W6).wr W11) ga (by simp) (host := "") (Or.inl (hw _ (List.mem_of_getElem? (i := 49) rfl))) Via.refl (Or.inr ⟨(hw _ (List.mem_of_getElem? (i := 50) rfl)), rfl, rfl⟩) (hw _ (List.mem_of_getElem? (i := 34) rfl)) (ty := (.object "java/lang/String")) (by decide) rfl rfl (pc' := 19) ddi_16 rfl (fun h16 W16 => ?_)
  exact s_ret rfl ddi_19 (Nat.le_of_ble_eq_true rfl) (Nat.le_of_ble_eq_true rfl) ⟨rfl, ((Keep.of_wr W6).wr W11 (Or.inl (List.mem_cons_self ..))).wr W16 (Or.inl (List.mem_cons_self ..)), ((E.wr W6).wr W11).wr W16, (((F0.same W6).other W11 (Or.inr (slot_ne (Or.inr (hw _ (List.mem_of_getElem? (i := 46) rfl))) (Or.inr (hw _ (List.mem_of_getElem? (i := 48) rfl))) (by decide) (t := (.object "java/lang/String")) (t' := (.object "java/lang/String")) (by decide) (by decide)))).other W16 (Or.inr (slot_ne (Or.inr (hw _ (List.mem_of_getElem? (i := 46) rfl))) (Or.inr (hw _ (List.mem_of_getElem? (i := 50) rfl))) (by decide) (t := (.object "java/lang/String")) (t' := (.object "java/lang/String")) (by decide) (by decide)))), (((F1.other W6 (Or.inr (slot_ne (Or.inr (hw _ (List.mem_of_getElem? (i := 48) rfl))) (Or.inr (hw _ (List.mem_of_getElem? (i := 46) rfl))) (by decide) (t := (.object "java/lang/String")) (t' := (.object "java/lang/String")) (by decide) (by decide)))).same W11).other W16 (Or.inr (slot_ne (Or.inr (hw _ (List.mem_of_getElem? (i := 48) rfl))) (Or.inr (hw _ (List.mem_of_getElem? (i := 50) rfl))) (by decide) (t := (.object "java/lang/String")) (t' := (.object "java/lang/String")) (by decide) (by decide)))), (((F2.other W6 (Or.inr (slot_ne (Or.inr (hw _ (List.mem_of_getElem? (i := 50) rfl))) (Or.inr (hw _ (List.mem_of_getElem? (i := 46) rfl))) (by decide) (t := (.object "java/lang/String")) (t' := (.object "java/lang/String")) (by decide) (by decide)))).other W11 (Or.inr (slot_ne (Or.inr (hw _ (List.mem_of_getElem? (i := 50) rfl))) (Or.inr (hw _ (List.mem_of_getElem? (i := 48) rfl))) (by decide) (t := (.object "java/lang/String")) (t' := (.object "java/lang/String")) (by decide) (by decide)))).same W16)⟩
def itx : OInfo := ("com/example/typeloom/typeloom/ttcn/ConstantDefinition", prog_16_method_2_code, 1, (some (.object "java/lang/String")), "text", ({ frames := 6, cells := 19, slots := 380, locals := 103 } : Room))
theorem eftx (x0 : Addr) (m : MethodId) : entryFrame m #[(.ref x0)] 1 = mkF m 0 #[.val (.ref x0)] [] := by first | (simp [entryFrame, mkF, argsToLocals, Value.category]; done) | rfl
theorem pdtx : parseMethodDescriptor "()Ljava/lang/String;" = some ⟨[], some (.object "java/lang/String")⟩ := by decide +kernel
theorem pntx : plainFor (⟨"com/example/typeloom/typeloom/ttcn/ConstantDefinition", "text", "()Ljava/lang/String;"⟩ : MethodName) = true := by decide +kernel
theorem dtx_0 : decode prog_16_method_2_code 0 = .ok (.new 19, 3) := by decide +kernel
theorem dtx_3 : decode prog_16_method_2_code 3 = .ok (.dup, 1) := by decide +kernel
theorem dtx_4 : decode prog_16_method_2_code 4 = .ok (.invokespecial 21, 3) := by decide +kernel
theorem dtx_7 : decode prog_16_method_2_code 7 = .ok (.ldc 22, 2) := by decide +kernel
theorem dtx_9 : decode prog_16_method_2_code 9 = .ok (.invokevirtual 24, 3) := by decide +kernel
theorem dtx_12 : decode prog_16_method_2_code 12 = .ok (.aload_n 0, 1) := by decide +kernel
theorem dtx_13 : decode prog_16_method_2_code 13 = .ok (.getfield 7, 3) := by decide +kernel
theorem dtx_16 : decode prog_16_method_2_code 16 = .ok (.invokevirtual 24, 3) := by decide +kernel
theorem dtx_19 : decode prog_16_method_2_code 19 = .ok (.ldc 28, 2) := by decide +kernel
theorem dtx_21 : decode prog_16_method_2_code 21 = .ok (.invokevirtual 24, 3) := by decide +kernel
theorem dtx_24 : decode prog_16_method_2_code 24 = .ok (.aload_n 0, 1) := by decide +kernel
theorem dtx_25 : decode prog_16_method_2_code 25 = .ok (.getfield 13, 3) := by decide +kernel
theorem dtx_28 : decode prog_16_method_2_code 28 = .ok (.invokevirtual 24, 3) := by decide +kernel
theorem dtx_31 : decode prog_16_method_2_code 31 = .ok (.ldc 30, 2) := by decide +kernel
theorem dtx_33 : decode prog_16_method_2_code 33 = .ok (.invokevirtual 24, 3) := by decide +kernel
theorem dtx_36 : decode prog_16_method_2_code 36 = .ok (.aload_n 0, 1) := by decide +kernel
theorem dtx_37 : decode prog_16_method_2_code 37 = .ok (.getfield 16, 3) := by decide +kernel
theorem dtx_40 : decode prog_16_method_2_code 40 = .ok (.invokevirtual 24, 3) := by decide +kernel
theorem dtx_43 : decode prog_16_method_2_code 43 = .ok (.ldc 32, 2) := by decide +kernel
theorem dtx_45 : decode prog_16_method_2_code 45 = .ok (.invokevirtual 24, 3) := by decide +kernel
theorem dtx_48 : decode prog_16_method_2_code 48 = .ok (.invokevirtual 34, 3) := by decide +kernel
theorem dtx_51 : decode prog_16_method_2_code 51 = .ok (.areturn, 1) := by decide +kernel
set_option maxRecDepth 65536 in
set_option maxHeartbeats 4000000 in
theorem rmtx (l : Launch) {Z : State} {a0 : Array Value} (G : OG Z a0) (n0 : Nat) (a t u w : Addr) (N : Nat) (ts us vs : List Int32) (l1 : ts.length ≤ 2) (l2 : us.length ≤ 2) (l3 : vs.length ≤ 2) (h0 : Heap) (hn0 : n0 ≤ N) (hN : N ≤ h0.size) (hlt : a < N) (E : Exa Z h0 a "com/example/typeloom/typeloom/ttcn/ConstantDefinition") (F0 : Fld Z h0 a "com/example/typeloom/typeloom/ttcn/ConstantDefinition" "type" "Ljava/lang/String;" (.ref t)) (F1 : Fld Z h0 a "com/example/typeloom/typeloom/ttcn/ConstantDefinition" "name" "Ljava/lang/String;" (.ref u)) (F2 : Fld Z h0 a "com/example/typeloom/typeloom/ttcn/ConstantDefinition" "value" "Ljava/lang/String;" (.ref w)) (T0 : SV Z h0 N t ts) (T1 : SV Z h0 N u us) (T2 : SV Z h0 N w vs) : oCon l Z n0 EL1 [] (⟨"com/example/typeloom/typeloom/ttcn/ConstantDefinition", "text", "()Ljava/lang/String;"⟩ : MethodName) itx #[.ref a] h0 (fun v h => ∃ r, v = some (.ref r) ∧ SV Z h h.size r (TX ts us vs) ∧ SV Z h N t ts ∧ SV Z h N u us ∧ SV Z h N w vs) := by
  obtain ⟨hw, hEL, ⟨cmp, hC, hc0⟩, ⟨fm, hfm, hF⟩⟩ := id G
  refine oCon.mk hEL pntx rfl rfl (eftx a) fun C hCl => ?_
  refine s_old fun OL => ?_
  refine s_new (hw _ (List.mem_of_getElem? (i := 56) rfl)) (hw _ (List.mem_of_getElem? (i := 57) rfl)) (hw _ (List.mem_of_getElem? (i := 58) rfl)) (pc' := 3) dtx_0 rfl (Nat.le_of_ble_eq_true rfl) (Nat.le_of_ble_eq_true rfl) (fun h0 b0 g0 nb0 E0 A0 D0 => ?_)
  have gb0 : N ≤ b0 := Nat.le_trans hN (Nat.le_of_eq g0.symm)
  have hsz := hN
  replace F0 := F0.ext E0
  replace F1 := F1.ext E0
  replace F2 := F2.ext E0
  replace T0 := T0.ext E0
  replace T1 := T1.ext E0
  replace T2 := T2.ext E0
  replace hsz := Nat.le_trans hsz (E0).1
  refine s_dup (pc' := 4) dtx_3 rfl rfl ?_
  refine s_callI0R (rmsi C.l G n0 b0 _ A0 (D0 (Or.inl (hw _ (List.mem_of_getElem? (i := 71) rfl))) (ty := .array .byte) (by decide)) (D0 (Or.inl (hw _ (List.mem_of_getElem? (i := 73) rfl))) (ty := .byte) (by decide)) (D0 (Or.inl (hw _ (List.mem_of_getElem? (i := 96) rfl))) (ty := .int) (by decide)) nb0) (by simp) rfl rfl (hw _ (List.mem_of_getElem? (i := 59) rfl)) (hw _ (List.mem_of_getElem? (i := 60) rfl)) (hw _ (List.mem_of_getElem? (i := 58) rfl)) (hw _ (List.mem_of_getElem? (i := 61) rfl)) (by decide) (o_len pdsi rfl) rfl (pc' := 7) dtx_4 rfl (Nat.le_of_ble_eq_true rfl) (Nat.le_of_ble_eq_true rfl) (Nat.le_of_ble_eq_true rfl) (Nat.le_of_ble_eq_true rfl) (fun v4 h4 rs4 hQ4 => ?_)
  obtain ⟨a4, k4, rfl, rfl, ga4, K4, B⟩ := hQ4
  dsimp only [oPush]
  replace ga4 : N ≤ a4 := Nat.le_trans hsz ga4
  have no4 : a ∉ [b0] := by intro z; exact absurd hlt (Nat.not_lt.mpr (List.mem_singleton.mp z ▸ gb0))
  have hcp : (16 : Nat) = 16 ∨ (16 : Nat) = 34 := Or.inl rfl
  replace F0 := F0.keep K4 no4
  replace F1 := F1.keep K4 no4
  replace F2 := F2.keep K4 no4
  replace T0 := T0.keep K4 (allS gb0 all0)
  replace T1 := T1.keep K4 (allS gb0 all0)
  replace T2 := T2.keep K4 (allS gb0 all0)
  replace hsz := Nat.le_trans hsz K4.1
  refine s_ldcS 24 (text := "const ") (vs := (c1).map fun c => Value.int (byt c)) (z := Int32.ofNat (c1).length) (hw _ (List.mem_of_getElem? (i := 74) rfl)) (o_wS hw) hEL (by decide) ⟨by decide, by first | rfl | decide⟩ (by decide) rfl (pc' := 9) dtx_7 rfl (by decide) (by decide) (Nat.le_of_ble_eq_true rfl) (Nat.le_of_ble_eq_true rfl) (fun h7 a7 b7 k7 E7 X7 C7 V7 A7 N7 => ?_)
  have H7 : SV Z h7 h7.size a7 c1 := ⟨b7, k7, X7.lt, A7.lt, X7, C7, V7, A7⟩
  replace B := B.ext E7
  replace F0 := F0.ext E7
  replace F1 := F1.ext E7
  replace F2 := F2.ext E7
  replace T0 := T0.ext E7
  replace T1 := T1.ext E7
  replace T2 := T2.ext E7
  replace hsz := Nat.le_trans hsz (E7).1
  refine s_callV1R (rmsb C.l G n0 b0 a7 a4 _ _ _ _ _ (by simp only [List.length_append, List.length_cons, List.length_nil]; omega) _ nb0 (Nat.le_trans hn0 ga4) B H7) (by simp) B.1 (hw _ (List.mem_of_getElem? (i := 75) rfl)) (hw _ (List.mem_of_getElem? (i := 76) rfl)) (hw _ (List.mem_of_getElem? (i := 78) rfl)) (hw _ (List.mem_of_getElem? (i := 77) rfl)) (o_nf (hw _ (List.mem_of_getElem? (i := 78) rfl)) rfl) (hw _ (List.mem_of_getElem? (i := 58) rfl)) (hw _ (List.mem_of_getElem? (i := 79) rfl)) (by decide) (o_len pdsb rfl) rfl (pc' := 12) dtx_9 rfl (Nat.le_of_ble_eq_true rfl) (Nat.le_of_ble_eq_true rfl) (Nat.le_of_ble_eq_true rfl) (Nat.le_of_ble_eq_true rfl) (fun v9 h9 rs9 hQ9 => ?_)
  obtain ⟨a9, k9, c9, rfl, rfl, B, K9, ha9, hc9⟩ := hQ9
  dsimp only [oPush]
  have ga9 : N ≤ a9 := ha9.elim (fun q => q ▸ ga4) (fun q => Nat.le_trans hsz q)
  replace hcp : c9 = 16 ∨ c9 = 34 := by omega
  have no9 : a ∉ [b0, a4] := fun z => (List.mem_cons.mp z).elim (fun z => absurd hlt (Nat.not_lt.mpr (z ▸ gb0))) (fun z => absurd hlt (Nat.not_lt.mpr (List.mem_singleton.mp z ▸ ga4)))
  replace F0 := F0.keep K9 no9
  replace F1 := F1.keep K9 no9
  replace F2 := F2.keep K9 no9
  replace T0 := T0.keep K9 (allS gb0 (allS ga4 all0))
  replace T1 := T1.keep K9 (allS gb0 (allS ga4 all0))
  replace T2 := T2.keep K9 (allS gb0 (allS ga4 all0))
  replace hsz := Nat.le_trans hsz K9.1
  refine s_aloadN (pc' := 13) dtx_12 rfl rfl rfl ?_
  refine s_getF F0 (host := "") (Or.inl (hw _ (List.mem_of_getElem? (i := 45) rfl))) Via.refl (pc' := 16) dtx_13 rfl ?_
  refine s_callV1R (rmsb C.l G n0 b0 t a9 N _ _ _ _ (by simp only [List.length_append, List.length_cons, List.length_nil]; omega) _ nb0 (Nat.le_trans hn0 ga9) B T0) (by simp) B.1 (hw _ (List.mem_of_getElem? (i := 75) rfl)) (hw _ (List.mem_of_getElem? (i := 76) rfl)) (hw _ (List.mem_of_getElem? (i := 78) rfl)) (hw _ (List.mem_of_getElem? (i := 77) rfl)) (o_nf (hw _ (List.mem_of_getElem? (i := 78) rfl)) rfl) (hw _ (List.mem_of_getElem? (i := 58) rfl)) (hw _ (List.mem_of_getElem? (i := 79) rfl)) (by decide) (o_len pdsb rfl) rfl (pc' := 19) dtx_16 rfl (Nat.le_of_ble_eq_true rfl) (Nat.le_of_ble_eq_true rfl) (Nat.le_of_ble_eq_true rfl) (Nat.le_of_ble_eq_true rfl) (fun v16 h16 rs16 hQ16 => ?_)
  obtain ⟨a16, k16, c16, rfl, rfl, B, K16, ha16, hc16⟩ := hQ16
  dsimp only [oPush]
  have ga16 : N ≤ a16 := ha16.elim (fun q => q ▸ ga9) (fun q => Nat.le_trans hsz q)
  replace hcp : c16 = 16 ∨ c16 = 34 := by omega
  have no16 : a ∉ [b0, a9] := fun z => (List.mem_cons.mp z).elim (fun z => absurd hlt (Nat.not_lt.mpr (z ▸ gb0))) (fun z => absurd hlt (Nat.not_lt.mpr (List.mem_singleton.mp z ▸ ga9)))
  replace F0 := F0.keep K16 no16
  replace F1 := F1.keep K16 no16
  replace F2 := F2.keep K16 no16
  replace T0 := T0.keep K16 (allS gb0 (allS ga9 all0))
  replace T1 := T1.keep K16 (allS gb0 (allS ga9 all0))
  replace T2 := T2.keep K16 (allS gb0 (allS ga9 all0))
  replace hsz := Nat.le_trans hsz K16.1
  refine s_ldcS 4 (text := " ") (vs := (([32] : List Int32)).map fun c => Value.int (byt c)) (z := Int32.ofNat (([32] : List Int32)).length) (hw _ (List.mem_of_getElem? (i := 122) rfl)) (o_wS hw) hEL (by decide) ⟨by decide, by first | rfl | decide⟩ (by decide) rfl (pc' := 21) dtx_19 rfl (by decide) (by decide) (Nat.le_of_ble_eq_true rfl) (Nat.le_of_ble_eq_true rfl) (fun h19 a19 b19 k19 E19 X19 C19 V19 A19 N19 => ?_)
  have H19 : SV Z h19 h19.size a19 ([32] : List Int32) := ⟨b19, k19, X19.lt, A19.lt, X19, C19, V19, A19⟩
  replace B := B.ext E19
  replace F0 := F0.ext E19
  replace F1 := F1.ext E19
  replace F2 := F2.ext E19
  replace T0 := T0.ext E19
  replace T1 := T1.ext E19
  replace T2 := T2.ext E19
  replace hsz := Nat.le_trans hsz (E19).1
  refine s_callV1R (rmsb C.l G n0 b0 a19 a16 _ _ _ _ _ (by simp only [List.length_append, List.length_cons, List.length_nil]; omega) _ nb0 (Nat.le_trans hn0 ga16) B H19) (by simp) B.1 (hw _ (List.mem_of_getElem? (i := 75) rfl)) (hw _ (List.mem_of_getElem? (i := 76) rfl)) (hw _ (List.mem_of_getElem? (i := 78) rfl)) (hw _ (List.mem_of_getElem? (i := 77) rfl)) (o_nf (hw _ (List.mem_of_getElem? (i := 78) rfl)) rfl) (hw _ (List.mem_of_getElem? (i := 58) rfl)) (hw _ (List.mem_of_getElem? (i := 79) rfl)) (by decide) (o_len pdsb rfl) rfl (pc' := 24) dtx_21 rfl (Nat.le_of_ble_eq_true rfl) (Nat.le_of_ble_eq_true rfl) (Nat.le_of_ble_eq_true rfl) (Nat.le_of_ble_eq_true rfl) (fun v21 h21 rs21 hQ21 => ?_)
  obtain ⟨a21, k21, c21, rfl, rfl, B, K21, ha21, hc21⟩ := hQ21
  dsimp only [oPush]
  have ga21 : N ≤ a21 := ha21.elim (fun q => q ▸ ga16) (fun q => Nat.le_trans hsz q)
  replace hcp : c21 = 16 ∨ c21 = 34 := by omega
  have no21 : a ∉ [b0, a16] := fun z => (List.mem_cons.mp z).elim (fun z => absurd hlt (Nat.not_lt.mpr (z ▸ gb0))) (fun z => absurd hlt (Nat.not_lt.mpr (List.mem_singleton.mp z ▸ ga16)))
  replace F0 := F0.keep K21 no21
  replace F1 := F1.keep K21 no21
  replace F2 := F2.keep K21 no21
  replace T0 := T0.keep K21 (allS gb0 (allS ga16 all0))
  replace T1 := T1.keep K21 (allS gb0 (allS ga16 all0))
  replace T2 := T2.keep K21 (allS gb0 (allS ga16 all0))
  replace hsz := Nat.le_trans hsz K21.1
  refine s_aloadN (pc' := 25) dtx_24 rfl rfl rfl ?_
  refine s_getF F1 (host := "") (Or.inl (hw _ (List.mem_of_getElem? (i := 47) rfl))) Via.refl (pc' := 28) dtx_25 rfl ?_
  refine s_callV1R (rmsb C.l G n0 b0 u a21 N _ _ _ _ (by simp only [List.length_append, List.length_cons, List.length_nil]; omega) _ nb0 (Nat.le_trans hn0 ga21) B T1) (by simp) B.1 (hw _ (List.mem_of_getElem? (i := 75) rfl)) (hw _ (List.mem_of_getElem? (i := 76) rfl)) (hw _ (List.mem_of_getElem? (i := 78) rfl)) (hw _ (List.mem_of_getElem? (i := 77) rfl)) (o_nf (hw _ (List.mem_of_getElem? (i := 78) rfl)) rfl) (hw _ (List.mem_of_getElem? (i := 58) rfl)) (hw _ (List.mem_of_getElem? (i := 79) rfl)) (by decide) (o_len pdsb rfl) rfl (pc' := 31) dtx_28 rfl (Nat.le_of_ble_eq_true rfl) (Nat.le_of_ble_eq_true rfl) (Nat.le_of_ble_eq_true rfl) (Nat.le_of_ble_eq_true rfl) (fun v28 h28 rs28 hQ28 => ?_)
  obtain ⟨a28, k28, c28, rfl, rfl, B, K28, ha28, hc28⟩ := hQ28
  dsimp only [oPush]
  have ga28 : N ≤ a28 := ha28.elim (fun q => q ▸ ga21) (fun q => Nat.le_trans hsz q)
  replace hcp : c28 = 16 ∨ c28 = 34 := by omega
  have no28 : a ∉ [b0, a21] := fun z => (List.mem_cons.mp z).elim (fun z => absurd hlt (Nat.not_lt.mpr (z ▸ gb0))) (fun z => absurd hlt (Nat.not_lt.mpr (List.mem_singleton.mp z ▸ ga21)))
  replace F0 := F0.keep K28 no28
  replace F1 := F1.keep K28 no28
  replace F2 := F2.keep K28 no28
  replace T0 := T0.keep K28 (allS gb0 (allS ga21 all0))
  replace T1 := T1.keep K28 (allS gb0 (allS ga21 all0))
  replace T2 := T2.keep K28 (allS gb0 (allS ga21 all0))
  replace hsz := Nat.le_trans hsz K28.1
  refine s_ldcS 16 (text := " := ") (vs := (c3).map fun c => Value.int (byt c)) (z := Int32.ofNat (c3).length) (hw _ (List.mem_of_getElem? (i := 123) rfl)) (o_wS hw) hEL (by decide) ⟨by decide, by first | rfl | decide⟩ (by decide) rfl (pc' := 33) dtx_31 rfl (by decide) (by decide) (Nat.le_of_ble_eq_true rfl) (Nat.le_of_ble_eq_true rfl) (fun h31 a31 b31 k31 E31 X31 C31 V31 A31 N31 => ?_)
  have H31 : SV Z h31 h31.size a31 c3 := ⟨b31, k31, X31.lt, A31.lt, X31, C31, V31, A31⟩
  replace B := B.ext E31
  replace F0 := F0.ext E31
  replace F1 := F1.ext E31
  replace F2 := F2.ext E31
  replace T0 := T0.ext E31
  replace T1 := T1.ext E31
  replace T2 := T2.ext E31
  replace hsz := Nat.le_trans hsz (E31).1
  refine s_callV1R (rmsb C.l G n0 b0 a31 a28 _ _ _ _ _ (by simp only [List.length_append, List.length_cons, List.length_nil]; omega) _ nb0 (Nat.le_trans hn0 ga28) B H31) (by simp) B.1 (hw _ (List.mem_of_getElem? (i := 75) rfl)) (hw _ (List.mem_of_getElem? (i := 76) rfl)) (hw _ (List.mem_of_getElem? (i := 78) rfl)) (hw _ (List.mem_of_getElem? (i := 77) rfl)) (o_nf (hw _ (List.mem_of_getElem? (i := 78) rfl)) rfl) (hw _ (List.mem_of_getElem? (i := 58) rfl)) (hw _ (List.mem_of_getElem? (i := 79) rfl)) (by decide) (o_len pdsb rfl) rfl (pc' := 36) dtx_33 rfl (Nat.le_of_ble_eq_true rfl) (Nat.le_of_ble_eq_true rfl) (Nat.le_of_ble_eq_true rfl) (Nat.le_of_ble_eq_true rfl) (fun v33 h33 rs33 hQ33 => ?_)
  obtain ⟨a33, k33, c33, rfl, rfl, B, K33, ha33, hc33⟩ := hQ33
  dsimp only [oPush]
  have ga33 : N ≤ a33 := ha33.elim (fun q => q ▸ ga28) (fun q => Nat.le_trans hsz q)
  replace hcp : c33 = 16 ∨ c33 = 34 := by omega
  have no33 : a ∉ [b0, a28] := fun z => (List.mem_cons.mp z).elim (fun z => absurd hlt (Nat.not_lt.mpr (z ▸ gb0))) (fun z => absurd hlt (Nat.not_lt.mpr (List.mem_singleton.mp z ▸ ga28)))
  replace F0 := F0.keep K33 no33
  replace F1 := F1.keep K33 no33
  replace F2 := F2.keep K33 no33
  replace T0 := T0.keep K33 (allS gb0 (allS ga28 all0))
  replace T1 := T1.keep K33 (allS gb0 (allS ga28 all0))
  replace T2 := T2.keep K33 (allS gb0 (allS ga28 all0))
  replace hsz := Nat.le_trans hsz K33.1
  refine s_aloadN (pc' := 37) dtx_36 rfl rfl rfl ?_
  refine s_getF F2 (host := "") (Or.inl (hw _ (List.mem_of_getElem? (i := 49) rfl))) Via.refl (pc' := 40) dtx_37 rfl ?_
  refine s_callV1R (rmsb C.l G n0 b0 w a33 N _ _ _ _ (by simp only [List.length_append, List.length_cons, List.length_nil]; omega) _ nb0 (Nat.le_trans hn0 ga33) B T2) (by simp) B.1 (hw _ (List.mem_of_getElem? (i := 75) rfl)) (hw _ (List.mem_of_getElem? (i := 76) rfl)) (hw _ (List.mem_of_getElem? (i := 78) rfl)) (hw _ (List.mem_of_getElem? (i := 77) rfl)) (o_nf (hw _ (List.mem_of_getElem? (i := 78) rfl)) rfl) (hw _ (List.mem_of_getElem? (i := 58) rfl)) (hw _ (List.mem_of_getElem? (i := 79) rfl)) (by decide) (o_len pdsb rfl) rfl (pc' := 43) dtx_40 rfl (Nat.le_of_ble_eq_true rfl) (Nat.le_of_ble_eq_true rfl) (Nat.le_of_ble_eq_true rfl) (Nat.le_of_ble_eq_true rfl) (fun v40 h40 rs40 hQ40 => ?_)
  obtain ⟨a40, k40, c40, rfl, rfl, B, K40, ha40, hc40⟩ := hQ40
  dsimp only [oPush]
  have ga40 : N ≤ a40 := ha40.elim (fun q => q ▸ ga33) (fun q => Nat.le_trans hsz q)
  replace hcp : c40 = 16 ∨ c40 = 34 := by omega
  have no40 : a ∉ [b0, a33] := fun z => (List.mem_cons.mp z).elim (fun z => absurd hlt (Nat.not_lt.mpr (z ▸ gb0))) (fun z => absurd hlt (Nat.not_lt.mpr (List.mem_singleton.mp z ▸ ga33)))
  replace F0 := F0.keep K40 no40
  replace F1 := F1.keep K40 no40
  replace F2 := F2.keep K40 no40
  replace T0 := T0.keep K40 (allS gb0 (allS ga33 all0))
  replace T1 := T1.keep K40 (allS gb0 (allS ga33 all0))
  replace T2 := T2.keep K40 (allS gb0 (allS ga33 all0))
  replace hsz := Nat.le_trans hsz K40.1
  refine s_ldcS 4 (text := ";") (vs := (([59] : List Int32)).map fun c => Value.int (byt c)) (z := Int32.ofNat (([59] : List Int32)).length) (hw _ (List.mem_of_getElem? (i := 124) rfl)) (o_wS hw) hEL (by decide) ⟨by decide, by first | rfl | decide⟩ (by decide) rfl (pc' := 45) dtx_43 rfl (by decide) (by decide) (Nat.le_of_ble_eq_true rfl) (Nat.le_of_ble_eq_true rfl) (fun h43 a43 b43 k43 E43 X43 C43 V43 A43 N43 => ?_)
  have H43 : SV Z h43 h43.size a43 ([59] : List Int32) := ⟨b43, k43, X43.lt, A43.lt, X43, C43, V43, A43⟩
  replace B := B.ext E43
  replace F0 := F0.ext E43
  replace F1 := F1.ext E43
  replace F2 := F2.ext E43
  replace T0 := T0.ext E43
  replace T1 := T1.ext E43
  replace T2 := T2.ext E43
  replace hsz := Nat.le_trans hsz (E43).1
  refine s_callV1R (rmsb C.l G n0 b0 a43 a40 _ _ _ _ _ (by simp only [List.length_append, List.length_cons, List.length_nil]; omega) _ nb0 (Nat.le_trans hn0 ga40) B H43) (by simp) B.1 (hw _ (List.mem_of_getElem? (i := 75) rfl)) (hw _ (List.mem_of_getElem? (i := 76) rfl)) (hw _ (List.mem_of_getElem? (i := 78) rfl)) (hw _ (List.mem_of_getElem? (i := 77) rfl)) (o_nf (hw _ (List.mem_of_getElem? (i := 78) rfl)) rfl) (hw _ (List.mem_of_getElem? (i := 58) rfl)) (hw _ (List.mem_of_getElem? (i := 79) rfl)) (by decide) (o_len pdsb rfl) rfl (pc' := 48) dtx_45 rfl (Nat.le_of_ble_eq_true rfl) (Nat.le_of_ble_eq_true rfl) (Nat.le_of_ble_eq_true rfl) (Nat.le_of_ble_eq_true rfl) (fun v45 h45 rs45 hQ45 => ?_)
  obtain ⟨a45, k45, c45, rfl, rfl, B, K45, ha45, hc45⟩ := hQ45
  dsimp only [oPush]
  have ga45 : N ≤ a45 := ha45.elim (fun q => q ▸ ga40) (fun q => Nat.le_trans hsz q)
  replace hcp : c45 = 16 ∨ c45 = 34 := by omega
  have no45 : a ∉ [b0, a40] := fun z => (List.mem_cons.mp z).elim (fun z => absurd hlt (Nat.not_lt.mpr (z ▸ gb0))) (fun z => absurd hlt (Nat.not_lt.mpr (List.mem_singleton.mp z ▸ ga40)))
  replace F0 := F0.keep K45 no45
  replace F1 := F1.keep K45 no45
  replace F2 := F2.keep K45 no45
  replace T0 := T0.keep K45 (allS gb0 (allS ga40 all0))
  replace T1 := T1.keep K45 (allS gb0 (allS ga40 all0))
  replace T2 := T2.keep K45 (allS gb0 (allS ga40 all0))
  replace hsz := Nat.le_trans hsz K45.1
  refine s_callV0 (rmtS C.l G n0 b0 _ _ _ _ (by omega) _ B) (by simp) B.1 (hw _ (List.mem_of_getElem? (i := 125) rfl)) (hw _ (List.mem_of_getElem? (i := 126) rfl)) (hw _ (List.mem_of_getElem? (i := 128) rfl)) (hw _ (List.mem_of_getElem? (i := 127) rfl)) (o_nf (hw _ (List.mem_of_getElem? (i := 128) rfl)) rfl) (hw _ (List.mem_of_getElem? (i := 58) rfl)) (hw _ (List.mem_of_getElem? (i := 129) rfl)) (by decide) (o_len pdtS rfl) rfl (pc' := 51) dtx_48 rfl (Nat.le_of_ble_eq_true rfl) (Nat.le_of_ble_eq_true rfl) (Nat.le_of_ble_eq_true rfl) (Nat.le_of_ble_eq_true rfl) (fun v48 h48 hQ48 => ?_)
  obtain ⟨r, rfl, gr, E48, V48⟩ := hQ48
  dsimp only [oPush]
  exact s_aret rfl rfl rfl dtx_51 (Nat.le_of_ble_eq_true rfl) (Nat.le_of_ble_eq_true rfl) ⟨r, rfl, V48, T0.ext E48, T1.ext E48, T2.ext E48⟩
def imk : OInfo := ("com/example/typeloom/typeloom/ttcn/ConstantDefinitionTextPinLaw", method_3_code, 3, (some (.object "java/lang/String")), "mk", ({ frames := 5, cells := 6, slots := 20, locals := 90 } : Room))
theorem efmk (x0 : Int32) (x1 : Int32) (x2 : Int32) (m : MethodId) : entryFrame m #[(.int x0), (.int x1), (.int x2)] 3 = mkF m 0 #[.val (.int x0), .val (.int x1), .val (.int x2)] [] := by first | (simp [entryFrame, mkF, argsToLocals, Value.category]; done) | rfl
theorem pdmk : parseMethodDescriptor "(ICC)Ljava/lang/String;" = some ⟨[.int, .char, .char], some (.object "java/lang/String")⟩ := by decide +kernel
theorem pnmk : plainFor (⟨"com/example/typeloom/typeloom/ttcn/ConstantDefinitionTextPinLaw", "mk", "(ICC)Ljava/lang/String;"⟩ : MethodName) = true := by decide +kernel
theorem dmk_0 : decode method_3_code 0 = .ok (.iload_n 0, 1) := by decide +kernel
theorem dmk_1 : decode method_3_code 1 = .ok (.ifCond .ne 6, 3) := by decide +kernel
theorem dmk_4 : decode method_3_code 4 = .ok (.ldc 36, 2) := by decide +kernel
theorem dmk_6 : decode method_3_code 6 = .ok (.areturn, 1) := by decide +kernel
theorem dmk_7 : decode method_3_code 7 = .ok (.iload_n 0, 1) := by decide +kernel
theorem dmk_8 : decode method_3_code 8 = .ok (.iconst 1, 1) := by decide +kernel
theorem dmk_9 : decode method_3_code 9 = .ok (.if_icmp .ne 8, 3) := by decide +kernel
theorem dmk_12 : decode method_3_code 12 = .ok (.iload_n 1, 1) := by decide +kernel
theorem dmk_13 : decode method_3_code 13 = .ok (.invokestatic 38, 3) := by decide +kernel
theorem dmk_16 : decode method_3_code 16 = .ok (.areturn, 1) := by decide +kernel
theorem dmk_17 : decode method_3_code 17 = .ok (.new 23, 3) := by decide +kernel
theorem dmk_20 : decode method_3_code 20 = .ok (.dup, 1) := by decide +kernel
theorem dmk_21 : decode method_3_code 21 = .ok (.iconst 2, 1) := by decide +kernel
theorem dmk_22 : decode method_3_code 22 = .ok (.newarray .char, 2) := by decide +kernel
theorem dmk_24 : decode method_3_code 24 = .ok (.dup, 1) := by decide +kernel
theorem dmk_25 : decode method_3_code 25 = .ok (.iconst 0, 1) := by decide +kernel
theorem dmk_26 : decode method_3_code 26 = .ok (.iload_n 1, 1) := by decide +kernel
theorem dmk_27 : decode method_3_code 27 = .ok (.castore, 1) := by decide +kernel
theorem dmk_28 : decode method_3_code 28 = .ok (.dup, 1) := by decide +kernel
theorem dmk_29 : decode method_3_code 29 = .ok (.iconst 1, 1) := by decide +kernel
theorem dmk_30 : decode method_3_code 30 = .ok (.iload_n 2, 1) := by decide +kernel
theorem dmk_31 : decode method_3_code 31 = .ok (.castore, 1) := by decide +kernel
theorem dmk_32 : decode method_3_code 32 = .ok (.invokespecial 42, 3) := by decide +kernel
theorem dmk_35 : decode method_3_code 35 = .ok (.areturn, 1) := by decide +kernel
set_option maxRecDepth 65536 in
set_option maxHeartbeats 4000000 in
theorem rmmk (l : Launch) {Z : State} {a0 : Array Value} (G : OG Z a0) (n0 : Nat) (m : Nat) (hm : m ≤ 2) (x y : Int32) (hx : ¬ x < 0 ∧ ¬ (255 : Int32) < x) (hy : ¬ y < 0 ∧ ¬ (255 : Int32) < y) (h0 : Heap) : oCon l Z n0 EL1 [] (⟨"com/example/typeloom/typeloom/ttcn/ConstantDefinitionTextPinLaw", "mk", "(ICC)Ljava/lang/String;"⟩ : MethodName) imk #[.int (Int32.ofNat m), .int x, .int y] h0 (fun v h => ∃ r, v = some (.ref r) ∧ Ext h0 h ∧ SV Z h h.size r (pk m x y)) := by
  obtain ⟨hw, hEL, ⟨cmp, hC, hc0⟩, ⟨fm, hfm, hF⟩⟩ := id G
  refine oCon.mk hEL pnmk rfl rfl (efmk _ x y) fun C hCl => ?_
  refine s_iloadN (pc' := 1) dmk_0 rfl rfl ?_
  refine s_if (pc' := 4) (pc'' := 7) dmk_1 rfl (by decide) rfl (fun hc1 => ?_) (fun hc1 => ?_)
  · replace hc1 := b_ne hc1
    refine s_iloadN (pc' := 8) dmk_7 rfl rfl ?_
    refine s_iconst (x := (1 : Int32)) (pc' := 9) dmk_8 rfl rfl ?_
    refine s_icmp (pc' := 12) (pc'' := 17) dmk_9 rfl (by decide) rfl (fun hc9 => ?_) (fun hc9 => ?_)
    · replace hc9 := b_ne hc9
      obtain rfl : m = 2 := by
        rcases (show m = 0 ∨ m = 1 ∨ m = 2 by omega) with rfl | rfl | rfl
        · exact absurd rfl hc1
        · exact absurd rfl hc9
        · rfl
      refine s_new (hw _ (List.mem_of_getElem? (i := 200) rfl)) (hw _ (List.mem_of_getElem? (i := 14) rfl)) (hw _ (List.mem_of_getElem? (i := 6) rfl)) (pc' := 20) dmk_17 rfl (Nat.le_of_ble_eq_true rfl) (Nat.le_of_ble_eq_true rfl) (fun h17 b17 g17 nb17 E17 A17 D17 => ?_)
      refine s_dup (pc' := 21) dmk_20 rfl rfl ?_
      refine s_iconst (x := (2 : Int32)) (pc' := 22) dmk_21 rfl rfl ?_
      refine s_newA 2 (hw _ (List.mem_of_getElem? (i := 201) rfl)) (pc' := 24) dmk_22 rfl (by decide) (by decide) (by decide) (Nat.le_of_ble_eq_true rfl) (Nat.le_of_ble_eq_true rfl) (fun h22 b22 k22 g22 nb22 E22 A22 => ?_)
      have hne17 : b17 ≠ b22 := o_fresh A17.lt g22
      have AA22 := o_padTo A22 2
      refine s_dup (pc' := 25) dmk_24 rfl rfl ?_
      refine s_iconst (x := (0 : Int32)) (pc' := 26) dmk_25 rfl rfl ?_
      refine s_iloadN (pc' := 27) dmk_26 rfl rfl ?_
      refine s_castore AA22 nb22 (by simp) (by decide) (by decide) 0 rfl (by simp) (pc' := 28) dmk_27 rfl (fun h27 W27 A27 => ?_)
      rw [nar_ch hx] at A27
      refine s_dup (pc' := 29) dmk_28 rfl rfl ?_
      refine s_iconst (x := (1 : Int32)) (pc' := 30) dmk_29 rfl rfl ?_
      refine s_iloadN (pc' := 31) dmk_30 rfl rfl ?_
      refine s_castore A27 nb22 (by simp) (by decide) (by decide) 1 rfl (by simp) (pc' := 32) dmk_31 rfl (fun h31 W31 A31 => ?_)
      rw [nar_ch hy] at A31
      refine s_callI1 (rmsC C.l G n0 b17 b22 k22 [x, y] _ h31 (by simp) (by simp) (by intro z hz; simp at hz; rcases hz with rfl | rfl; exact hx; exact hy) A31 (((A17.ext E22).wr W27).wr W31) ((((D17 (Or.inr (hw _ (List.mem_of_getElem? (i := 27) rfl))) (ty := .array .byte) (by decide)).ext E22).other W27 (Or.inl hne17)).other W31 (Or.inl hne17)) ((((D17 (Or.inr (hw _ (List.mem_of_getElem? (i := 29) rfl))) (ty := .byte) (by decide)).ext E22).other W27 (Or.inl hne17)).other W31 (Or.inl hne17)) nb17) (by simp) rfl rfl (hw _ (List.mem_of_getElem? (i := 202) rfl)) (hw _ (List.mem_of_getElem? (i := 203) rfl)) (hw _ (List.mem_of_getElem? (i := 6) rfl)) (hw _ (List.mem_of_getElem? (i := 204) rfl)) (by decide) (o_len pdsC rfl) rfl (pc' := 35) dmk_32 rfl (Nat.le_of_ble_eq_true rfl) (Nat.le_of_ble_eq_true rfl) (Nat.le_of_ble_eq_true rfl) (Nat.le_of_ble_eq_true rfl) (fun v32 h32 hQ32 => ?_)
      obtain ⟨rfl, K32, V32⟩ := hQ32
      dsimp only [oPush]
      have X32 := o_extKeep (o_extKeep (o_extKeep (o_ext E17 E22) (Keep.of_wr W27) (allS (by have := E17.1; omega) all0)) (Keep.of_wr W31) (allS (by have := E17.1; omega) all0)) K32 (allS (Nat.le_of_eq g17.symm) all0)
      exact s_aret rfl rfl rfl dmk_35 (Nat.le_of_ble_eq_true rfl) (Nat.le_of_ble_eq_true rfl) ⟨b17, rfl, X32, V32⟩
    · replace hc9 := b_neF hc9
      obtain rfl : m = 1 := n_inj (by omega) (by omega) hc9
      refine s_iloadN (pc' := 13) dmk_12 rfl rfl ?_
      refine s_callS1 (rmvO C.l G n0 x h0 hx) (by simp) (hw _ (List.mem_of_getElem? (i := 4) rfl)) (hw _ (List.mem_of_getElem? (i := 5) rfl)) (hw _ (List.mem_of_getElem? (i := 6) rfl)) (hw _ (List.mem_of_getElem? (i := 7) rfl)) (by decide) (o_len pdvO rfl) rfl (pc' := 16) dmk_13 rfl (Nat.le_of_ble_eq_true rfl) (Nat.le_of_ble_eq_true rfl) (Nat.le_of_ble_eq_true rfl) (Nat.le_of_ble_eq_true rfl) (fun v13 h13 hQ13 => ?_)
      obtain ⟨r, rfl, gr, E13, V13⟩ := hQ13
      dsimp only [oPush]
      exact s_aret rfl rfl rfl dmk_16 (Nat.le_of_ble_eq_true rfl) (Nat.le_of_ble_eq_true rfl) ⟨r, rfl, E13, V13⟩
  · replace hc1 := b_neF hc1
    obtain rfl : m = 0 := n_inj (by omega) (by omega) hc1
    refine s_ldcS 0 (text := "") (vs := (([] : List Int32)).map fun c => Value.int (byt c)) (z := Int32.ofNat (([] : List Int32)).length) (hw _ (List.mem_of_getElem? (i := 30) rfl)) (o_wS hw) hEL (by decide) ⟨by decide, by first | rfl | decide⟩ (by decide) rfl (pc' := 6) dmk_4 rfl (by decide) (by decide) (Nat.le_of_ble_eq_true rfl) (Nat.le_of_ble_eq_true rfl) (fun h4 a4 b4 k4 E4 X4 C4 V4 A4 N4 => ?_)
    have H4 : SV Z h4 h4.size a4 ([] : List Int32) := ⟨b4, k4, X4.lt, A4.lt, X4, C4, V4, A4⟩
    exact s_aret rfl rfl rfl dmk_6 (Nat.le_of_ble_eq_true rfl) (Nat.le_of_ble_eq_true rfl) ⟨a4, rfl, E4, H4⟩
def ism : OInfo := ("com/example/typeloom/typeloom/ttcn/ConstantDefinitionTextPinLaw", method_4_code, 3, (some .boolean), "same", ({ frames := 6, cells := 0, slots := 0, locals := 120 } : Room))
theorem efsm (x0 : Addr) (x1 : Int32) (x2 : Addr) (m : MethodId) : entryFrame m #[(.ref x0), (.int x1), (.ref x2)] 3 = mkF m 0 #[.val (.ref x0), .val (.int x1), .val (.ref x2)] [] := by first | (simp [entryFrame, mkF, argsToLocals, Value.category]; done) | rfl
theorem pdsm : parseMethodDescriptor "(Ljava/lang/String;ILjava/lang/String;)Z" = some ⟨[(.object "java/lang/String"), .int, (.object "java/lang/String")], some .boolean⟩ := by decide +kernel
theorem pnsm : plainFor (⟨"com/example/typeloom/typeloom/ttcn/ConstantDefinitionTextPinLaw", "same", "(Ljava/lang/String;ILjava/lang/String;)Z"⟩ : MethodName) = true := by decide +kernel
theorem dsm_0 : decode method_4_code 0 = .ok (.aload_n 2, 1) := by decide +kernel
theorem dsm_1 : decode method_4_code 1 = .ok (.invokevirtual 45, 3) := by decide +kernel
theorem dsm_4 : decode method_4_code 4 = .ok (.ifCond .eq 5, 3) := by decide +kernel
theorem dsm_7 : decode method_4_code 7 = .ok (.iconst 1, 1) := by decide +kernel
theorem dsm_8 : decode method_4_code 8 = .ok (.ireturn, 1) := by decide +kernel
theorem dsm_9 : decode method_4_code 9 = .ok (.aload_n 0, 1) := by decide +kernel
theorem dsm_10 : decode method_4_code 10 = .ok (.iload_n 1, 1) := by decide +kernel
theorem dsm_11 : decode method_4_code 11 = .ok (.invokevirtual 28, 3) := by decide +kernel
theorem dsm_14 : decode method_4_code 14 = .ok (.aload_n 2, 1) := by decide +kernel
theorem dsm_15 : decode method_4_code 15 = .ok (.iconst 0, 1) := by decide +kernel
theorem dsm_16 : decode method_4_code 16 = .ok (.invokevirtual 28, 3) := by decide +kernel
theorem dsm_19 : decode method_4_code 19 = .ok (.if_icmp .eq 5, 3) := by decide +kernel
theorem dsm_24 : decode method_4_code 24 = .ok (.aload_n 2, 1) := by decide +kernel
theorem dsm_25 : decode method_4_code 25 = .ok (.invokevirtual 22, 3) := by decide +kernel
theorem dsm_28 : decode method_4_code 28 = .ok (.iconst 1, 1) := by decide +kernel
theorem dsm_29 : decode method_4_code 29 = .ok (.if_icmp .eq 18, 3) := by decide +kernel
theorem dsm_32 : decode method_4_code 32 = .ok (.aload_n 0, 1) := by decide +kernel
theorem dsm_33 : decode method_4_code 33 = .ok (.iload_n 1, 1) := by decide +kernel
theorem dsm_34 : decode method_4_code 34 = .ok (.iconst 1, 1) := by decide +kernel
theorem dsm_35 : decode method_4_code 35 = .ok (.iadd, 1) := by decide +kernel
theorem dsm_36 : decode method_4_code 36 = .ok (.invokevirtual 28, 3) := by decide +kernel
theorem dsm_39 : decode method_4_code 39 = .ok (.aload_n 2, 1) := by decide +kernel
theorem dsm_40 : decode method_4_code 40 = .ok (.iconst 1, 1) := by decide +kernel
theorem dsm_41 : decode method_4_code 41 = .ok (.invokevirtual 28, 3) := by decide +kernel
theorem dsm_44 : decode method_4_code 44 = .ok (.if_icmp .ne 7, 3) := by decide +kernel
theorem dsm_47 : decode method_4_code 47 = .ok (.iconst 1, 1) := by decide +kernel
theorem dsm_48 : decode method_4_code 48 = .ok (.goto 4, 3) := by decide +kernel
theorem dsm_52 : decode method_4_code 52 = .ok (.ireturn, 1) := by decide +kernel
set_option maxRecDepth 65536 in
set_option maxHeartbeats 4000000 in
theorem rmsm (l : Launch) {Z : State} {a0 : Array Value} (G : OG Z a0) (n0 : Nat) (r s : Addr) (N M off : Nat) (rs cs : List Int32) (h0 : Heap) (hb1 : rs.length < 2147483648) (hl : cs.length ≤ 2) (hch1 : Ch rs) (hch2 : Ch cs) (hof : ∀ j z, cs[j]? = some z → rs[off + j]? = some z) (H1 : SV Z h0 N r rs) (H2 : SV Z h0 M s cs) : oCon l Z n0 EL1 [] (⟨"com/example/typeloom/typeloom/ttcn/ConstantDefinitionTextPinLaw", "same", "(Ljava/lang/String;ILjava/lang/String;)Z"⟩ : MethodName) ism #[.ref r, .int (Int32.ofNat off), .ref s] h0 (fun v h => v = some (.int 1) ∧ h = h0) := by
  obtain ⟨hw, hEL, ⟨cmp, hC, hc0⟩, ⟨fm, hfm, hF⟩⟩ := id G
  refine oCon.mk hEL pnsm rfl rfl (efsm r _ s) fun C hCl => ?_
  refine s_aloadN (pc' := 1) dsm_0 rfl rfl rfl ?_
  refine s_callV0 (rmsM C.l G n0 s M cs h0 (by omega) H2) (by simp) H2.exa (hw _ (List.mem_of_getElem? (i := 195) rfl)) (hw _ (List.mem_of_getElem? (i := 196) rfl)) (hw _ (List.mem_of_getElem? (i := 198) rfl)) (hw _ (List.mem_of_getElem? (i := 197) rfl)) (o_nf (hw _ (List.mem_of_getElem? (i := 198) rfl)) rfl) (hw _ (List.mem_of_getElem? (i := 6) rfl)) (hw _ (List.mem_of_getElem? (i := 199) rfl)) (by decide) (o_len pdsM rfl) rfl (pc' := 4) dsm_1 rfl (Nat.le_of_ble_eq_true rfl) (Nat.le_of_ble_eq_true rfl) (Nat.le_of_ble_eq_true rfl) (Nat.le_of_ble_eq_true rfl) (fun v1 h1 hQ1 => ?_)
  obtain ⟨e, rfl, rfl, he⟩ := hQ1
  dsimp only [oPush]
  refine s_if (pc' := 7) (pc'' := 9) dsm_4 rfl (by decide) rfl (fun hc4 => ?_) (fun hc4 => ?_)
  · replace hc4 := b_eq hc4
    have hne : ¬ cs = [] := he.elim (fun q => absurd (q.1.symm.trans hc4) (by decide)) (·.2)
    have l0 : 0 < cs.length := List.length_pos_iff.mpr hne
    obtain ⟨z0, hz0⟩ : ∃ z, cs[0]? = some z := ⟨cs[0], List.getElem?_eq_getElem l0⟩
    refine s_aloadN (pc' := 10) dsm_9 rfl rfl rfl ?_
    refine s_iloadN (pc' := 11) dsm_10 rfl rfl ?_
    refine s_callV1 (rmsH C.l G n0 r N rs off z0 _ hb1 hch1 (hof 0 z0 hz0) H1) (by simp) H1.exa (hw _ (List.mem_of_getElem? (i := 171) rfl)) (hw _ (List.mem_of_getElem? (i := 172) rfl)) (hw _ (List.mem_of_getElem? (i := 174) rfl)) (hw _ (List.mem_of_getElem? (i := 173) rfl)) (o_nf (hw _ (List.mem_of_getElem? (i := 174) rfl)) rfl) (hw _ (List.mem_of_getElem? (i := 6) rfl)) (hw _ (List.mem_of_getElem? (i := 175) rfl)) (by decide) (o_len pdsH rfl) rfl (pc' := 14) dsm_11 rfl (Nat.le_of_ble_eq_true rfl) (Nat.le_of_ble_eq_true rfl) (Nat.le_of_ble_eq_true rfl) (Nat.le_of_ble_eq_true rfl) (fun v11 h11 hQ11 => ?_)
    obtain ⟨rfl, rfl⟩ := hQ11
    dsimp only [oPush]
    refine s_aloadN (pc' := 15) dsm_14 rfl rfl rfl ?_
    refine s_iconst (x := (0 : Int32)) (pc' := 16) dsm_15 rfl rfl ?_
    refine s_callV1 (rmsH C.l G n0 s M cs 0 z0 _ (by omega) hch2 hz0 H2) (by simp) H2.exa (hw _ (List.mem_of_getElem? (i := 171) rfl)) (hw _ (List.mem_of_getElem? (i := 172) rfl)) (hw _ (List.mem_of_getElem? (i := 174) rfl)) (hw _ (List.mem_of_getElem? (i := 173) rfl)) (o_nf (hw _ (List.mem_of_getElem? (i := 174) rfl)) rfl) (hw _ (List.mem_of_getElem? (i := 6) rfl)) (hw _ (List.mem_of_getElem? (i := 175) rfl)) (by decide) (o_len pdsH rfl) rfl (pc' := 19) dsm_16 rfl (Nat.le_of_ble_eq_true rfl) (Nat.le_of_ble_eq_true rfl) (Nat.le_of_ble_eq_true rfl) (Nat.le_of_ble_eq_true rfl) (fun v16 h16 hQ16 => ?_)
    obtain ⟨rfl, rfl⟩ := hQ16
    dsimp only [oPush]
    refine s_icmp (pc' := 22) (pc'' := 24) dsm_19 rfl (by decide) rfl (fun hc19 => ?_) (fun hc19 => ?_)
    · replace hc19 := b_eq hc19
      refine s_aloadN (pc' := 25) dsm_24 rfl rfl rfl ?_
      refine s_callV0 (rmsL C.l G n0 s M cs _ H2) (by simp) H2.exa (hw _ (List.mem_of_getElem? (i := 170) rfl)) (hw _ (List.mem_of_getElem? (i := 86) rfl)) (hw _ (List.mem_of_getElem? (i := 88) rfl)) (hw _ (List.mem_of_getElem? (i := 87) rfl)) (o_nf (hw _ (List.mem_of_getElem? (i := 88) rfl)) rfl) (hw _ (List.mem_of_getElem? (i := 6) rfl)) (hw _ (List.mem_of_getElem? (i := 89) rfl)) (by decide) (o_len pdsL rfl) rfl (pc' := 28) dsm_25 rfl (Nat.le_of_ble_eq_true rfl) (Nat.le_of_ble_eq_true rfl) (Nat.le_of_ble_eq_true rfl) (Nat.le_of_ble_eq_true rfl) (fun v25 h25 hQ25 => ?_)
      obtain ⟨rfl, rfl⟩ := hQ25
      dsimp only [oPush]
      refine s_iconst (x := (1 : Int32)) (pc' := 29) dsm_28 rfl rfl ?_
      refine s_icmp (pc' := 32) (pc'' := 47) dsm_29 rfl (by decide) rfl (fun hc29 => ?_) (fun hc29 => ?_)
      · replace hc29 := b_eq hc29
        refine s_iconst (x := (1 : Int32)) (pc' := 48) dsm_47 rfl rfl ?_
        refine s_goto (pc' := 52) dsm_48 (by decide) rfl ?_
        exact s_nret (t := .boolean) rfl (by simp) dsm_52 (Nat.le_of_ble_eq_true rfl) (Nat.le_of_ble_eq_true rfl) ⟨rfl, rfl⟩
      · replace hc29 := b_eqF hc29
        have l1 : 1 < cs.length := by
          by_cases q : cs.length = 1
          · exact absurd (by rw [q]; rfl) hc29
          · omega
        obtain ⟨z1, hz1⟩ : ∃ z, cs[1]? = some z := ⟨cs[1], List.getElem?_eq_getElem l1⟩
        refine s_aloadN (pc' := 33) dsm_32 rfl rfl rfl ?_
        refine s_iloadN (pc' := 34) dsm_33 rfl rfl ?_
        refine s_iconst (x := (1 : Int32)) (pc' := 35) dsm_34 rfl rfl ?_
        refine s_iadd (pc' := 36) dsm_35 rfl ?_
        rw [n_succ]
        refine s_callV1 (rmsH C.l G n0 r N rs (off + 1) z1 _ hb1 hch1 (hof 1 z1 hz1) H1) (by simp) H1.exa (hw _ (List.mem_of_getElem? (i := 171) rfl)) (hw _ (List.mem_of_getElem? (i := 172) rfl)) (hw _ (List.mem_of_getElem? (i := 174) rfl)) (hw _ (List.mem_of_getElem? (i := 173) rfl)) (o_nf (hw _ (List.mem_of_getElem? (i := 174) rfl)) rfl) (hw _ (List.mem_of_getElem? (i := 6) rfl)) (hw _ (List.mem_of_getElem? (i := 175) rfl)) (by decide) (o_len pdsH rfl) rfl (pc' := 39) dsm_36 rfl (Nat.le_of_ble_eq_true rfl) (Nat.le_of_ble_eq_true rfl) (Nat.le_of_ble_eq_true rfl) (Nat.le_of_ble_eq_true rfl) (fun v36 h36 hQ36 => ?_)
        obtain ⟨rfl, rfl⟩ := hQ36
        dsimp only [oPush]
        refine s_aloadN (pc' := 40) dsm_39 rfl rfl rfl ?_
        refine s_iconst (x := (1 : Int32)) (pc' := 41) dsm_40 rfl rfl ?_
        refine s_callV1 (rmsH C.l G n0 s M cs 1 z1 _ (by omega) hch2 hz1 H2) (by simp) H2.exa (hw _ (List.mem_of_getElem? (i := 171) rfl)) (hw _ (List.mem_of_getElem? (i := 172) rfl)) (hw _ (List.mem_of_getElem? (i := 174) rfl)) (hw _ (List.mem_of_getElem? (i := 173) rfl)) (o_nf (hw _ (List.mem_of_getElem? (i := 174) rfl)) rfl) (hw _ (List.mem_of_getElem? (i := 6) rfl)) (hw _ (List.mem_of_getElem? (i := 175) rfl)) (by decide) (o_len pdsH rfl) rfl (pc' := 44) dsm_41 rfl (Nat.le_of_ble_eq_true rfl) (Nat.le_of_ble_eq_true rfl) (Nat.le_of_ble_eq_true rfl) (Nat.le_of_ble_eq_true rfl) (fun v41 h41 hQ41 => ?_)
        obtain ⟨rfl, rfl⟩ := hQ41
        dsimp only [oPush]
        refine s_icmp (pc' := 47) (pc'' := 51) dsm_44 rfl (by decide) rfl (fun hc44 => ?_) (fun hc44 => ?_)
        · replace hc44 := b_ne hc44
          exact absurd rfl hc44
        · replace hc44 := b_neF hc44
          refine s_iconst (x := (1 : Int32)) (pc' := 48) dsm_47 rfl rfl ?_
          refine s_goto (pc' := 52) dsm_48 (by decide) rfl ?_
          exact s_nret (t := .boolean) rfl (by simp) dsm_52 (Nat.le_of_ble_eq_true rfl) (Nat.le_of_ble_eq_true rfl) ⟨rfl, rfl⟩
    · replace hc19 := b_eqF hc19
      exact absurd rfl hc19
  · replace hc4 := b_eqF hc4
    refine s_iconst (x := (1 : Int32)) (pc' := 8) dsm_7 rfl rfl ?_
    exact s_nret (t := .boolean) rfl (by simp) dsm_8 (Nat.le_of_ble_eq_true rfl) (Nat.le_of_ble_eq_true rfl) ⟨rfl, rfl⟩
def i0 : OInfo := ("com/example/typeloom/typeloom/ttcn/ConstantDefinitionTextPinLaw", code, maxLocals, (some .boolean), "law", room_1)
theorem ef0 (x0 : Int32) (x1 : Int32) (x2 : Int32) (x3 : Int32) (m : MethodId) : entryFrame m #[(.int x0), (.int x1), (.int x2), (.int x3)] maxLocals = mkF m 0 #[.val (.int x0), .val (.int x1), .val (.int x2), .val (.int x3), .unset, .unset, .unset, .unset, .unset, .unset, .unset, .unset, .unset, .unset] [] := by first | (simp [entryFrame, mkF, argsToLocals, Value.category, maxLocals]; done) | rfl
set_option maxRecDepth 65536 in
set_option maxHeartbeats 4000000 in
theorem rm0 (l : Launch) {Z : State} {a0 : Array Value} (G : OG Z a0) (n0 : Nat) (a b c d : Int32) (h0 : Heap) : oCon l Z n0 EL1 [] x i0 #[.int a, .int b, .int c, .int d] h0 (fun v h => v = some (.int 1)) := by
  obtain ⟨hw, hEL, ⟨cmp, hC, hc0⟩, ⟨fm, hfm, hF⟩⟩ := id G
  refine oCon.mk hEL (plainFor_of_name pn0) rfl rfl (ef0 a b c d) fun C hCl => ?_
  refine s_iloadN (pc' := 1) at_0 rfl rfl ?_
  refine s_iconst (x := (3 : Int32)) (pc' := 2) at_1 rfl rfl ?_
  refine s_iand (pc' := 3) at_2 rfl ?_
  refine s_iconst (x := (3 : Int32)) (pc' := 4) at_3 rfl rfl ?_
  refine s_irem (pc' := 5) at_4 rfl (by decide) ?_
  obtain ⟨m1, hm1, e1⟩ := three d
  rw [e1]
  refine s_istore (pc' := 7) at_5 rfl (o_st rfl (by first | exact One.u | exact One.val rfl | assumption) rfl) ?_
  dsimp only [List.set_cons_succ, List.set_cons_zero]
  refine s_iloadN (pc' := 8) at_7 rfl rfl ?_
  refine s_iconst (x := (2 : Int32)) (pc' := 9) at_8 rfl rfl ?_
  refine s_iushr (pc' := 10) at_9 rfl ?_
  refine s_iconst (x := (3 : Int32)) (pc' := 11) at_10 rfl rfl ?_
  refine s_iand (pc' := 12) at_11 rfl ?_
  refine s_iconst (x := (3 : Int32)) (pc' := 13) at_12 rfl rfl ?_
  refine s_irem (pc' := 14) at_13 rfl (by decide) ?_
  obtain ⟨m2, hm2, e2⟩ := three (XT.ushr d 2)
  rw [e2]
  refine s_istore (pc' := 16) at_14 rfl (o_st rfl (by first | exact One.u | exact One.val rfl | assumption) rfl) ?_
  dsimp only [List.set_cons_succ, List.set_cons_zero]
  refine s_iloadN (pc' := 17) at_16 rfl rfl ?_
  refine s_iconst (x := (4 : Int32)) (pc' := 18) at_17 rfl rfl ?_
  refine s_iushr (pc' := 19) at_18 rfl ?_
  refine s_iconst (x := (3 : Int32)) (pc' := 20) at_19 rfl rfl ?_
  refine s_iand (pc' := 21) at_20 rfl ?_
  refine s_iconst (x := (3 : Int32)) (pc' := 22) at_21 rfl rfl ?_
  refine s_irem (pc' := 23) at_22 rfl (by decide) ?_
  obtain ⟨m3, hm3, e3⟩ := three (XT.ushr d 4)
  rw [e3]
  refine s_istore (pc' := 25) at_23 rfl (o_st rfl (by first | exact One.u | exact One.val rfl | assumption) rfl) ?_
  dsimp only [List.set_cons_succ, List.set_cons_zero]
  refine s_iload (pc' := 27) at_25 rfl rfl ?_
  refine s_iloadN (pc' := 28) at_27 rfl rfl ?_
  refine s_sipush (x := (255 : Int32)) (pc' := 31) at_28 rfl rfl ?_
  refine s_iand (pc' := 32) at_31 rfl ?_
  refine s_i2c (pc' := 33) at_32 rfl ?_
  rw [i2c_ch (r_and _)]
  refine s_iloadN (pc' := 34) at_33 rfl rfl ?_
  refine s_bipush (x := (8 : Int32)) (pc' := 36) at_34 rfl rfl ?_
  refine s_iushr (pc' := 37) at_36 rfl ?_
  refine s_sipush (x := (255 : Int32)) (pc' := 40) at_37 rfl rfl ?_
  refine s_iand (pc' := 41) at_40 rfl ?_
  refine s_i2c (pc' := 42) at_41 rfl ?_
  rw [i2c_ch (r_and _)]
  refine s_callS3 (rmmk C.l G n0 m1 hm1 (a &&& 255) (XT.ushr a 8 &&& 255) (r_and _) (r_and _) _) (by simp) (hw _ (List.mem_of_getElem? (i := 0) rfl)) (hw _ (List.mem_of_getElem? (i := 1) rfl)) (hw _ (List.mem_of_getElem? (i := 2) rfl)) (hw _ (List.mem_of_getElem? (i := 3) rfl)) (by decide) (o_len pdmk rfl) rfl (pc' := 45) at_42 rfl (Nat.le_of_ble_eq_true rfl) (Nat.le_of_ble_eq_true rfl) (Nat.le_of_ble_eq_true rfl) (Nat.le_of_ble_eq_true rfl) (fun v42 h42 hQ42 => ?_)
  obtain ⟨r42, rfl, E42, V42⟩ := hQ42
  dsimp only [oPush]
  refine s_astore (pc' := 47) at_45 rfl rfl (o_st rfl (by first | exact One.u | exact One.val rfl | assumption) rfl) ?_
  dsimp only [List.set_cons_succ, List.set_cons_zero]
  refine s_iload (pc' := 49) at_47 rfl rfl ?_
  refine s_iloadN (pc' := 50) at_49 rfl rfl ?_
  refine s_sipush (x := (255 : Int32)) (pc' := 53) at_50 rfl rfl ?_
  refine s_iand (pc' := 54) at_53 rfl ?_
  refine s_i2c (pc' := 55) at_54 rfl ?_
  rw [i2c_ch (r_and _)]
  refine s_iloadN (pc' := 56) at_55 rfl rfl ?_
  refine s_bipush (x := (8 : Int32)) (pc' := 58) at_56 rfl rfl ?_
  refine s_iushr (pc' := 59) at_58 rfl ?_
  refine s_sipush (x := (255 : Int32)) (pc' := 62) at_59 rfl rfl ?_
  refine s_iand (pc' := 63) at_62 rfl ?_
  refine s_i2c (pc' := 64) at_63 rfl ?_
  rw [i2c_ch (r_and _)]
  refine s_callS3 (rmmk C.l G n0 m2 hm2 (b &&& 255) (XT.ushr b 8 &&& 255) (r_and _) (r_and _) _) (by simp) (hw _ (List.mem_of_getElem? (i := 0) rfl)) (hw _ (List.mem_of_getElem? (i := 1) rfl)) (hw _ (List.mem_of_getElem? (i := 2) rfl)) (hw _ (List.mem_of_getElem? (i := 3) rfl)) (by decide) (o_len pdmk rfl) rfl (pc' := 67) at_64 rfl (Nat.le_of_ble_eq_true rfl) (Nat.le_of_ble_eq_true rfl) (Nat.le_of_ble_eq_true rfl) (Nat.le_of_ble_eq_true rfl) (fun v64 h64 hQ64 => ?_)
  obtain ⟨r64, rfl, E64, V64⟩ := hQ64
  dsimp only [oPush]
  replace V42 := (V42.ext E64).mono E64.1
  refine s_astore (pc' := 69) at_67 rfl rfl (o_st rfl (by first | exact One.u | exact One.val rfl | assumption) rfl) ?_
  dsimp only [List.set_cons_succ, List.set_cons_zero]
  refine s_iload (pc' := 71) at_69 rfl rfl ?_
  refine s_iloadN (pc' := 72) at_71 rfl rfl ?_
  refine s_sipush (x := (255 : Int32)) (pc' := 75) at_72 rfl rfl ?_
  refine s_iand (pc' := 76) at_75 rfl ?_
  refine s_i2c (pc' := 77) at_76 rfl ?_
  rw [i2c_ch (r_and _)]
  refine s_iloadN (pc' := 78) at_77 rfl rfl ?_
  refine s_bipush (x := (8 : Int32)) (pc' := 80) at_78 rfl rfl ?_
  refine s_iushr (pc' := 81) at_80 rfl ?_
  refine s_sipush (x := (255 : Int32)) (pc' := 84) at_81 rfl rfl ?_
  refine s_iand (pc' := 85) at_84 rfl ?_
  refine s_i2c (pc' := 86) at_85 rfl ?_
  rw [i2c_ch (r_and _)]
  refine s_callS3 (rmmk C.l G n0 m3 hm3 (c &&& 255) (XT.ushr c 8 &&& 255) (r_and _) (r_and _) _) (by simp) (hw _ (List.mem_of_getElem? (i := 0) rfl)) (hw _ (List.mem_of_getElem? (i := 1) rfl)) (hw _ (List.mem_of_getElem? (i := 2) rfl)) (hw _ (List.mem_of_getElem? (i := 3) rfl)) (by decide) (o_len pdmk rfl) rfl (pc' := 89) at_86 rfl (Nat.le_of_ble_eq_true rfl) (Nat.le_of_ble_eq_true rfl) (Nat.le_of_ble_eq_true rfl) (Nat.le_of_ble_eq_true rfl) (fun v86 h86 hQ86 => ?_)
  obtain ⟨r86, rfl, E86, V86⟩ := hQ86
  dsimp only [oPush]
  replace V42 := (V42.ext E86).mono E86.1
  replace V64 := (V64.ext E86).mono E86.1
  refine s_astore (pc' := 91) at_89 rfl rfl (o_st rfl (by first | exact One.u | exact One.val rfl | assumption) rfl) ?_
  dsimp only [List.set_cons_succ, List.set_cons_zero]
  refine s_new (hw _ (List.mem_of_getElem? (i := 33) rfl)) (hw _ (List.mem_of_getElem? (i := 34) rfl)) (hw _ (List.mem_of_getElem? (i := 35) rfl)) (pc' := 94) at_91 rfl (Nat.le_of_ble_eq_true rfl) (Nat.le_of_ble_eq_true rfl) (fun h91 b91 g91 nb91 E91 A91 D91 => ?_)
  refine s_dup (pc' := 95) at_94 rfl rfl ?_
  refine s_aload (pc' := 97) at_95 rfl rfl rfl ?_
  refine s_aload (pc' := 99) at_97 rfl rfl rfl ?_
  refine s_aload (pc' := 101) at_99 rfl rfl rfl ?_
  refine s_callI3 (rmdi C.l G n0 b91 r42 r64 r86 _ A91 (D91 (Or.inr (hw _ (List.mem_of_getElem? (i := 46) rfl))) (ty := .object "java/lang/String") (by decide)) (D91 (Or.inr (hw _ (List.mem_of_getElem? (i := 48) rfl))) (ty := .object "java/lang/String") (by decide)) (D91 (Or.inr (hw _ (List.mem_of_getElem? (i := 50) rfl))) (ty := .object "java/lang/String") (by decide)) nb91) (by simp) rfl rfl (hw _ (List.mem_of_getElem? (i := 36) rfl)) (hw _ (List.mem_of_getElem? (i := 37) rfl)) (hw _ (List.mem_of_getElem? (i := 35) rfl)) (hw _ (List.mem_of_getElem? (i := 38) rfl)) (by decide) (o_len pddi rfl) rfl (pc' := 104) at_101 rfl (Nat.le_of_ble_eq_true rfl) (Nat.le_of_ble_eq_true rfl) (Nat.le_of_ble_eq_true rfl) (Nat.le_of_ble_eq_true rfl) (fun v101 h101 hQ101 => ?_)
  obtain ⟨rfl, K101, X101, F0, F1, F2⟩ := hQ101
  dsimp only [oPush]
  have EE := o_extKeep E91 K101 (allS (Nat.le_of_eq g91.symm) all0)
  replace V42 := (V42.ext EE).mono EE.1
  replace V64 := (V64.ext EE).mono EE.1
  replace V86 := (V86.ext EE).mono EE.1
  refine s_old fun OL => ?_
  obtain ⟨ts, hts, l1, q1⟩ : ∃ ts, pk m1 (a &&& 255) (XT.ushr a 8 &&& 255) = ts ∧ ts.length = m1 ∧ Ch ts := ⟨_, rfl, pk_len hm1 _ _, pk_ch (r_and _) (r_and _) _⟩
  obtain ⟨ns, hns, l2, q2⟩ : ∃ ns, pk m2 (b &&& 255) (XT.ushr b 8 &&& 255) = ns ∧ ns.length = m2 ∧ Ch ns := ⟨_, rfl, pk_len hm2 _ _, pk_ch (r_and _) (r_and _) _⟩
  obtain ⟨vs, hvs, l3, q3⟩ : ∃ vs, pk m3 (c &&& 255) (XT.ushr c 8 &&& 255) = vs ∧ vs.length = m3 ∧ Ch vs := ⟨_, rfl, pk_len hm3 _ _, pk_ch (r_and _) (r_and _) _⟩
  rw [hts] at V42
  rw [hns] at V64
  rw [hvs] at V86
  subst l1 l2 l3
  have hch := tx_ch q1 q2 q3
  have hln := tx_len ts ns vs
  have hb : (TX ts ns vs).length < 2147483648 := by omega
  refine s_callV0 (rmtx C.l G n0 b91 r42 r64 r86 _ ts ns vs hm1 hm2 hm3 _ (o_le OL) (Nat.le_refl _) X101.lt X101 F0 F1 F2 V42 V64 V86) (by simp) X101 (hw _ (List.mem_of_getElem? (i := 51) rfl)) (hw _ (List.mem_of_getElem? (i := 52) rfl)) (hw _ (List.mem_of_getElem? (i := 54) rfl)) (hw _ (List.mem_of_getElem? (i := 53) rfl)) (o_nf (hw _ (List.mem_of_getElem? (i := 54) rfl)) rfl) (hw _ (List.mem_of_getElem? (i := 35) rfl)) (hw _ (List.mem_of_getElem? (i := 55) rfl)) (by decide) (o_len pdtx rfl) rfl (pc' := 107) at_104 rfl (Nat.le_of_ble_eq_true rfl) (Nat.le_of_ble_eq_true rfl) (Nat.le_of_ble_eq_true rfl) (Nat.le_of_ble_eq_true rfl) (fun v104 h104 hQ104 => ?_)
  obtain ⟨r104, rfl, V104, V42S, V64S, V86S⟩ := hQ104
  dsimp only [oPush]
  refine s_astore (pc' := 109) at_107 rfl rfl (o_st rfl (by first | exact One.u | exact One.val rfl | assumption) rfl) ?_
  dsimp only [List.set_cons_succ, List.set_cons_zero]
  refine s_aload (pc' := 111) at_109 rfl rfl rfl ?_
  refine s_callV0 (rmsL C.l G n0 r104 _ (TX ts ns vs) _ V104) (by simp) V104.exa (hw _ (List.mem_of_getElem? (i := 170) rfl)) (hw _ (List.mem_of_getElem? (i := 86) rfl)) (hw _ (List.mem_of_getElem? (i := 88) rfl)) (hw _ (List.mem_of_getElem? (i := 87) rfl)) (o_nf (hw _ (List.mem_of_getElem? (i := 88) rfl)) rfl) (hw _ (List.mem_of_getElem? (i := 6) rfl)) (hw _ (List.mem_of_getElem? (i := 89) rfl)) (by decide) (o_len pdsL rfl) rfl (pc' := 114) at_111 rfl (Nat.le_of_ble_eq_true rfl) (Nat.le_of_ble_eq_true rfl) (Nat.le_of_ble_eq_true rfl) (Nat.le_of_ble_eq_true rfl) (fun v111 h111 hQ111 => ?_)
  obtain ⟨rfl, rfl⟩ := hQ111
  dsimp only [oPush]
  rw [hln]
  refine s_iload (pc' := 116) at_114 rfl rfl ?_
  refine s_iload (pc' := 118) at_116 rfl rfl ?_
  refine s_iadd (pc' := 119) at_118 rfl ?_
  rw [n_add]
  refine s_iload (pc' := 121) at_119 rfl rfl ?_
  refine s_iadd (pc' := 122) at_121 rfl ?_
  rw [n_add]
  refine s_bipush (x := (12 : Int32)) (pc' := 124) at_122 rfl rfl ?_
  refine s_iadd (pc' := 125) at_124 rfl ?_
  rw [n_add12]
  refine s_icmp (pc' := 128) (pc'' := 130) at_125 rfl (by decide) rfl (fun hc125 => ?_) (fun hc125 => ?_)
  · replace hc125 := b_eq hc125
    refine s_aload (pc' := 132) at_130 rfl rfl rfl ?_
    refine s_iconst (x := (0 : Int32)) (pc' := 133) at_132 rfl rfl ?_
    refine s_callV1 (rmsH C.l G n0 r104 _ (TX ts ns vs) 0 99 _ hb hch (tx_c _ _ _ rfl) V104) (by simp) V104.exa (hw _ (List.mem_of_getElem? (i := 171) rfl)) (hw _ (List.mem_of_getElem? (i := 172) rfl)) (hw _ (List.mem_of_getElem? (i := 174) rfl)) (hw _ (List.mem_of_getElem? (i := 173) rfl)) (o_nf (hw _ (List.mem_of_getElem? (i := 174) rfl)) rfl) (hw _ (List.mem_of_getElem? (i := 6) rfl)) (hw _ (List.mem_of_getElem? (i := 175) rfl)) (by decide) (o_len pdsH rfl) rfl (pc' := 136) at_133 rfl (Nat.le_of_ble_eq_true rfl) (Nat.le_of_ble_eq_true rfl) (Nat.le_of_ble_eq_true rfl) (Nat.le_of_ble_eq_true rfl) (fun v133 h133 hQ133 => ?_)
    obtain ⟨rfl, rfl⟩ := hQ133
    dsimp only [oPush]
    refine s_bipush (x := (99 : Int32)) (pc' := 138) at_136 rfl rfl ?_
    refine s_icmp (pc' := 141) (pc'' := 200) at_138 rfl (by decide) rfl (fun hc138 => ?_) (fun hc138 => ?_)
    · replace hc138 := b_ne hc138
      exact absurd rfl hc138
    · replace hc138 := b_neF hc138
      refine s_aload (pc' := 143) at_141 rfl rfl rfl ?_
      refine s_iconst (x := (1 : Int32)) (pc' := 144) at_143 rfl rfl ?_
      refine s_callV1 (rmsH C.l G n0 r104 _ (TX ts ns vs) 1 111 _ hb hch (tx_c _ _ _ rfl) V104) (by simp) V104.exa (hw _ (List.mem_of_getElem? (i := 171) rfl)) (hw _ (List.mem_of_getElem? (i := 172) rfl)) (hw _ (List.mem_of_getElem? (i := 174) rfl)) (hw _ (List.mem_of_getElem? (i := 173) rfl)) (o_nf (hw _ (List.mem_of_getElem? (i := 174) rfl)) rfl) (hw _ (List.mem_of_getElem? (i := 6) rfl)) (hw _ (List.mem_of_getElem? (i := 175) rfl)) (by decide) (o_len pdsH rfl) rfl (pc' := 147) at_144 rfl (Nat.le_of_ble_eq_true rfl) (Nat.le_of_ble_eq_true rfl) (Nat.le_of_ble_eq_true rfl) (Nat.le_of_ble_eq_true rfl) (fun v144 h144 hQ144 => ?_)
      obtain ⟨rfl, rfl⟩ := hQ144
      dsimp only [oPush]
      refine s_bipush (x := (111 : Int32)) (pc' := 149) at_147 rfl rfl ?_
      refine s_icmp (pc' := 152) (pc'' := 200) at_149 rfl (by decide) rfl (fun hc149 => ?_) (fun hc149 => ?_)
      · replace hc149 := b_ne hc149
        exact absurd rfl hc149
      · replace hc149 := b_neF hc149
        refine s_aload (pc' := 154) at_152 rfl rfl rfl ?_
        refine s_iconst (x := (2 : Int32)) (pc' := 155) at_154 rfl rfl ?_
        refine s_callV1 (rmsH C.l G n0 r104 _ (TX ts ns vs) 2 110 _ hb hch (tx_c _ _ _ rfl) V104) (by simp) V104.exa (hw _ (List.mem_of_getElem? (i := 171) rfl)) (hw _ (List.mem_of_getElem? (i := 172) rfl)) (hw _ (List.mem_of_getElem? (i := 174) rfl)) (hw _ (List.mem_of_getElem? (i := 173) rfl)) (o_nf (hw _ (List.mem_of_getElem? (i := 174) rfl)) rfl) (hw _ (List.mem_of_getElem? (i := 6) rfl)) (hw _ (List.mem_of_getElem? (i := 175) rfl)) (by decide) (o_len pdsH rfl) rfl (pc' := 158) at_155 rfl (Nat.le_of_ble_eq_true rfl) (Nat.le_of_ble_eq_true rfl) (Nat.le_of_ble_eq_true rfl) (Nat.le_of_ble_eq_true rfl) (fun v155 h155 hQ155 => ?_)
        obtain ⟨rfl, rfl⟩ := hQ155
        dsimp only [oPush]
        refine s_bipush (x := (110 : Int32)) (pc' := 160) at_158 rfl rfl ?_
        refine s_icmp (pc' := 163) (pc'' := 200) at_160 rfl (by decide) rfl (fun hc160 => ?_) (fun hc160 => ?_)
        · replace hc160 := b_ne hc160
          exact absurd rfl hc160
        · replace hc160 := b_neF hc160
          refine s_aload (pc' := 165) at_163 rfl rfl rfl ?_
          refine s_iconst (x := (3 : Int32)) (pc' := 166) at_165 rfl rfl ?_
          refine s_callV1 (rmsH C.l G n0 r104 _ (TX ts ns vs) 3 115 _ hb hch (tx_c _ _ _ rfl) V104) (by simp) V104.exa (hw _ (List.mem_of_getElem? (i := 171) rfl)) (hw _ (List.mem_of_getElem? (i := 172) rfl)) (hw _ (List.mem_of_getElem? (i := 174) rfl)) (hw _ (List.mem_of_getElem? (i := 173) rfl)) (o_nf (hw _ (List.mem_of_getElem? (i := 174) rfl)) rfl) (hw _ (List.mem_of_getElem? (i := 6) rfl)) (hw _ (List.mem_of_getElem? (i := 175) rfl)) (by decide) (o_len pdsH rfl) rfl (pc' := 169) at_166 rfl (Nat.le_of_ble_eq_true rfl) (Nat.le_of_ble_eq_true rfl) (Nat.le_of_ble_eq_true rfl) (Nat.le_of_ble_eq_true rfl) (fun v166 h166 hQ166 => ?_)
          obtain ⟨rfl, rfl⟩ := hQ166
          dsimp only [oPush]
          refine s_bipush (x := (115 : Int32)) (pc' := 171) at_169 rfl rfl ?_
          refine s_icmp (pc' := 174) (pc'' := 200) at_171 rfl (by decide) rfl (fun hc171 => ?_) (fun hc171 => ?_)
          · replace hc171 := b_ne hc171
            exact absurd rfl hc171
          · replace hc171 := b_neF hc171
            refine s_aload (pc' := 176) at_174 rfl rfl rfl ?_
            refine s_iconst (x := (4 : Int32)) (pc' := 177) at_176 rfl rfl ?_
            refine s_callV1 (rmsH C.l G n0 r104 _ (TX ts ns vs) 4 116 _ hb hch (tx_c _ _ _ rfl) V104) (by simp) V104.exa (hw _ (List.mem_of_getElem? (i := 171) rfl)) (hw _ (List.mem_of_getElem? (i := 172) rfl)) (hw _ (List.mem_of_getElem? (i := 174) rfl)) (hw _ (List.mem_of_getElem? (i := 173) rfl)) (o_nf (hw _ (List.mem_of_getElem? (i := 174) rfl)) rfl) (hw _ (List.mem_of_getElem? (i := 6) rfl)) (hw _ (List.mem_of_getElem? (i := 175) rfl)) (by decide) (o_len pdsH rfl) rfl (pc' := 180) at_177 rfl (Nat.le_of_ble_eq_true rfl) (Nat.le_of_ble_eq_true rfl) (Nat.le_of_ble_eq_true rfl) (Nat.le_of_ble_eq_true rfl) (fun v177 h177 hQ177 => ?_)
            obtain ⟨rfl, rfl⟩ := hQ177
            dsimp only [oPush]
            refine s_bipush (x := (116 : Int32)) (pc' := 182) at_180 rfl rfl ?_
            refine s_icmp (pc' := 185) (pc'' := 200) at_182 rfl (by decide) rfl (fun hc182 => ?_) (fun hc182 => ?_)
            · replace hc182 := b_ne hc182
              exact absurd rfl hc182
            · replace hc182 := b_neF hc182
              refine s_aload (pc' := 187) at_185 rfl rfl rfl ?_
              refine s_iconst (x := (5 : Int32)) (pc' := 188) at_187 rfl rfl ?_
              refine s_callV1 (rmsH C.l G n0 r104 _ (TX ts ns vs) 5 32 _ hb hch (tx_c _ _ _ rfl) V104) (by simp) V104.exa (hw _ (List.mem_of_getElem? (i := 171) rfl)) (hw _ (List.mem_of_getElem? (i := 172) rfl)) (hw _ (List.mem_of_getElem? (i := 174) rfl)) (hw _ (List.mem_of_getElem? (i := 173) rfl)) (o_nf (hw _ (List.mem_of_getElem? (i := 174) rfl)) rfl) (hw _ (List.mem_of_getElem? (i := 6) rfl)) (hw _ (List.mem_of_getElem? (i := 175) rfl)) (by decide) (o_len pdsH rfl) rfl (pc' := 191) at_188 rfl (Nat.le_of_ble_eq_true rfl) (Nat.le_of_ble_eq_true rfl) (Nat.le_of_ble_eq_true rfl) (Nat.le_of_ble_eq_true rfl) (fun v188 h188 hQ188 => ?_)
              obtain ⟨rfl, rfl⟩ := hQ188
              dsimp only [oPush]
              refine s_bipush (x := (32 : Int32)) (pc' := 193) at_191 rfl rfl ?_
              refine s_icmp (pc' := 196) (pc'' := 200) at_193 rfl (by decide) rfl (fun hc193 => ?_) (fun hc193 => ?_)
              · replace hc193 := b_ne hc193
                exact absurd rfl hc193
              · replace hc193 := b_neF hc193
                refine s_iconst (x := (1 : Int32)) (pc' := 197) at_196 rfl rfl ?_
                refine s_goto (pc' := 201) at_197 (by decide) rfl ?_
                refine s_istore (pc' := 203) at_201 rfl (o_st rfl (by first | exact One.u | exact One.val rfl | assumption) rfl) ?_
                dsimp only [List.set_cons_succ, List.set_cons_zero]
                refine s_iload (pc' := 205) at_203 rfl rfl ?_
                refine s_if (pc' := 208) (pc'' := 224) at_205 rfl (by decide) rfl (fun hc205 => ?_) (fun hc205 => ?_)
                · replace hc205 := b_eq hc205
                  exact absurd hc205 (by decide)
                · replace hc205 := b_eqF hc205
                  refine s_aload (pc' := 210) at_208 rfl rfl rfl ?_
                  refine s_bipush (x := (6 : Int32)) (pc' := 212) at_210 rfl rfl ?_
                  refine s_aload (pc' := 214) at_212 rfl rfl rfl ?_
                  refine s_callS3 (rmsm C.l G n0 r104 r42 _ _ 6 (TX ts ns vs) ts _ hb hm1 hch q1 (fun j z h => tx_t h) V104 V42S) (by simp) (hw _ (List.mem_of_getElem? (i := 192) rfl)) (hw _ (List.mem_of_getElem? (i := 193) rfl)) (hw _ (List.mem_of_getElem? (i := 2) rfl)) (hw _ (List.mem_of_getElem? (i := 194) rfl)) (by decide) (o_len pdsm rfl) rfl (pc' := 217) at_214 rfl (Nat.le_of_ble_eq_true rfl) (Nat.le_of_ble_eq_true rfl) (Nat.le_of_ble_eq_true rfl) (Nat.le_of_ble_eq_true rfl) (fun v214 h214 hQ214 => ?_)
                  obtain ⟨rfl, rfl⟩ := hQ214
                  dsimp only [oPush]
                  refine s_if (pc' := 220) (pc'' := 224) at_217 rfl (by decide) rfl (fun hc217 => ?_) (fun hc217 => ?_)
                  · replace hc217 := b_eq hc217
                    exact absurd hc217 (by decide)
                  · replace hc217 := b_eqF hc217
                    refine s_iconst (x := (1 : Int32)) (pc' := 221) at_220 rfl rfl ?_
                    refine s_goto (pc' := 225) at_221 (by decide) rfl ?_
                    refine s_istore (pc' := 227) at_225 rfl (o_st rfl (by first | exact One.u | exact One.val rfl | assumption) rfl) ?_
                    dsimp only [List.set_cons_succ, List.set_cons_zero]
                    refine s_bipush (x := (6 : Int32)) (pc' := 229) at_227 rfl rfl ?_
                    refine s_iload (pc' := 231) at_229 rfl rfl ?_
                    refine s_iadd (pc' := 232) at_231 rfl ?_
                    rw [n_6add]
                    refine s_istore (pc' := 234) at_232 rfl (o_st rfl (by first | exact One.u | exact One.val rfl | assumption) rfl) ?_
                    dsimp only [List.set_cons_succ, List.set_cons_zero]
                    refine s_iload (pc' := 236) at_234 rfl rfl ?_
                    refine s_if (pc' := 239) (pc'' := 255) at_236 rfl (by decide) rfl (fun hc236 => ?_) (fun hc236 => ?_)
                    · replace hc236 := b_eq hc236
                      exact absurd hc236 (by decide)
                    · replace hc236 := b_eqF hc236
                      refine s_aload (pc' := 241) at_239 rfl rfl rfl ?_
                      refine s_iload (pc' := 243) at_241 rfl rfl ?_
                      refine s_callV1 (rmsH C.l G n0 r104 _ (TX ts ns vs) (6 + ts.length) 32 _ hb hch (tx_s _ _ _) V104) (by simp) V104.exa (hw _ (List.mem_of_getElem? (i := 171) rfl)) (hw _ (List.mem_of_getElem? (i := 172) rfl)) (hw _ (List.mem_of_getElem? (i := 174) rfl)) (hw _ (List.mem_of_getElem? (i := 173) rfl)) (o_nf (hw _ (List.mem_of_getElem? (i := 174) rfl)) rfl) (hw _ (List.mem_of_getElem? (i := 6) rfl)) (hw _ (List.mem_of_getElem? (i := 175) rfl)) (by decide) (o_len pdsH rfl) rfl (pc' := 246) at_243 rfl (Nat.le_of_ble_eq_true rfl) (Nat.le_of_ble_eq_true rfl) (Nat.le_of_ble_eq_true rfl) (Nat.le_of_ble_eq_true rfl) (fun v243 h243 hQ243 => ?_)
                      obtain ⟨rfl, rfl⟩ := hQ243
                      dsimp only [oPush]
                      refine s_bipush (x := (32 : Int32)) (pc' := 248) at_246 rfl rfl ?_
                      refine s_icmp (pc' := 251) (pc'' := 255) at_248 rfl (by decide) rfl (fun hc248 => ?_) (fun hc248 => ?_)
                      · replace hc248 := b_ne hc248
                        exact absurd rfl hc248
                      · replace hc248 := b_neF hc248
                        refine s_iconst (x := (1 : Int32)) (pc' := 252) at_251 rfl rfl ?_
                        refine s_goto (pc' := 256) at_252 (by decide) rfl ?_
                        refine s_istore (pc' := 258) at_256 rfl (o_st rfl (by first | exact One.u | exact One.val rfl | assumption) rfl) ?_
                        dsimp only [List.set_cons_succ, List.set_cons_zero]
                        refine s_iload (pc' := 260) at_258 rfl rfl ?_
                        refine s_if (pc' := 263) (pc'' := 281) at_260 rfl (by decide) rfl (fun hc260 => ?_) (fun hc260 => ?_)
                        · replace hc260 := b_eq hc260
                          exact absurd hc260 (by decide)
                        · replace hc260 := b_eqF hc260
                          refine s_aload (pc' := 265) at_263 rfl rfl rfl ?_
                          refine s_iload (pc' := 267) at_265 rfl rfl ?_
                          refine s_iconst (x := (1 : Int32)) (pc' := 268) at_267 rfl rfl ?_
                          refine s_iadd (pc' := 269) at_268 rfl ?_
                          rw [n_succ]
                          refine s_aload (pc' := 271) at_269 rfl rfl rfl ?_
                          refine s_callS3 (rmsm C.l G n0 r104 r64 _ _ (6 + ts.length + 1) (TX ts ns vs) ns _ hb hm2 hch q2 (fun j z h => tx_n h) V104 V64S) (by simp) (hw _ (List.mem_of_getElem? (i := 192) rfl)) (hw _ (List.mem_of_getElem? (i := 193) rfl)) (hw _ (List.mem_of_getElem? (i := 2) rfl)) (hw _ (List.mem_of_getElem? (i := 194) rfl)) (by decide) (o_len pdsm rfl) rfl (pc' := 274) at_271 rfl (Nat.le_of_ble_eq_true rfl) (Nat.le_of_ble_eq_true rfl) (Nat.le_of_ble_eq_true rfl) (Nat.le_of_ble_eq_true rfl) (fun v271 h271 hQ271 => ?_)
                          obtain ⟨rfl, rfl⟩ := hQ271
                          dsimp only [oPush]
                          refine s_if (pc' := 277) (pc'' := 281) at_274 rfl (by decide) rfl (fun hc274 => ?_) (fun hc274 => ?_)
                          · replace hc274 := b_eq hc274
                            exact absurd hc274 (by decide)
                          · replace hc274 := b_eqF hc274
                            refine s_iconst (x := (1 : Int32)) (pc' := 278) at_277 rfl rfl ?_
                            refine s_goto (pc' := 282) at_278 (by decide) rfl ?_
                            refine s_istore (pc' := 284) at_282 rfl (o_st rfl (by first | exact One.u | exact One.val rfl | assumption) rfl) ?_
                            dsimp only [List.set_cons_succ, List.set_cons_zero]
                            refine s_iload (pc' := 286) at_284 rfl rfl ?_
                            refine s_iconst (x := (1 : Int32)) (pc' := 287) at_286 rfl rfl ?_
                            refine s_iadd (pc' := 288) at_287 rfl ?_
                            rw [n_succ]
                            refine s_iload (pc' := 290) at_288 rfl rfl ?_
                            refine s_iadd (pc' := 291) at_290 rfl ?_
                            rw [n_add]
                            refine s_istore (pc' := 293) at_291 rfl (o_st rfl (by first | exact One.u | exact One.val rfl | assumption) rfl) ?_
                            dsimp only [List.set_cons_succ, List.set_cons_zero]
                            refine s_iload (pc' := 295) at_293 rfl rfl ?_
                            refine s_if (pc' := 298) (pc'' := 356) at_295 rfl (by decide) rfl (fun hc295 => ?_) (fun hc295 => ?_)
                            · replace hc295 := b_eq hc295
                              exact absurd hc295 (by decide)
                            · replace hc295 := b_eqF hc295
                              refine s_aload (pc' := 300) at_298 rfl rfl rfl ?_
                              refine s_iload (pc' := 302) at_300 rfl rfl ?_
                              refine s_callV1 (rmsH C.l G n0 r104 _ (TX ts ns vs) (6 + ts.length + 1 + ns.length) 32 _ hb hch (tx_q _ _ _ (j := 0) rfl) V104) (by simp) V104.exa (hw _ (List.mem_of_getElem? (i := 171) rfl)) (hw _ (List.mem_of_getElem? (i := 172) rfl)) (hw _ (List.mem_of_getElem? (i := 174) rfl)) (hw _ (List.mem_of_getElem? (i := 173) rfl)) (o_nf (hw _ (List.mem_of_getElem? (i := 174) rfl)) rfl) (hw _ (List.mem_of_getElem? (i := 6) rfl)) (hw _ (List.mem_of_getElem? (i := 175) rfl)) (by decide) (o_len pdsH rfl) rfl (pc' := 305) at_302 rfl (Nat.le_of_ble_eq_true rfl) (Nat.le_of_ble_eq_true rfl) (Nat.le_of_ble_eq_true rfl) (Nat.le_of_ble_eq_true rfl) (fun v302 h302 hQ302 => ?_)
                              obtain ⟨rfl, rfl⟩ := hQ302
                              dsimp only [oPush]
                              refine s_bipush (x := (32 : Int32)) (pc' := 307) at_305 rfl rfl ?_
                              refine s_icmp (pc' := 310) (pc'' := 356) at_307 rfl (by decide) rfl (fun hc307 => ?_) (fun hc307 => ?_)
                              · replace hc307 := b_ne hc307
                                exact absurd rfl hc307
                              · replace hc307 := b_neF hc307
                                refine s_aload (pc' := 312) at_310 rfl rfl rfl ?_
                                refine s_iload (pc' := 314) at_312 rfl rfl ?_
                                refine s_iconst (x := (1 : Int32)) (pc' := 315) at_314 rfl rfl ?_
                                refine s_iadd (pc' := 316) at_315 rfl ?_
                                rw [n_succ]
                                refine s_callV1 (rmsH C.l G n0 r104 _ (TX ts ns vs) ((6 + ts.length + 1 + ns.length) + 1) 58 _ hb hch (tx_q _ _ _ (j := 1) rfl) V104) (by simp) V104.exa (hw _ (List.mem_of_getElem? (i := 171) rfl)) (hw _ (List.mem_of_getElem? (i := 172) rfl)) (hw _ (List.mem_of_getElem? (i := 174) rfl)) (hw _ (List.mem_of_getElem? (i := 173) rfl)) (o_nf (hw _ (List.mem_of_getElem? (i := 174) rfl)) rfl) (hw _ (List.mem_of_getElem? (i := 6) rfl)) (hw _ (List.mem_of_getElem? (i := 175) rfl)) (by decide) (o_len pdsH rfl) rfl (pc' := 319) at_316 rfl (Nat.le_of_ble_eq_true rfl) (Nat.le_of_ble_eq_true rfl) (Nat.le_of_ble_eq_true rfl) (Nat.le_of_ble_eq_true rfl) (fun v316 h316 hQ316 => ?_)
                                obtain ⟨rfl, rfl⟩ := hQ316
                                dsimp only [oPush]
                                refine s_bipush (x := (58 : Int32)) (pc' := 321) at_319 rfl rfl ?_
                                refine s_icmp (pc' := 324) (pc'' := 356) at_321 rfl (by decide) rfl (fun hc321 => ?_) (fun hc321 => ?_)
                                · replace hc321 := b_ne hc321
                                  exact absurd rfl hc321
                                · replace hc321 := b_neF hc321
                                  refine s_aload (pc' := 326) at_324 rfl rfl rfl ?_
                                  refine s_iload (pc' := 328) at_326 rfl rfl ?_
                                  refine s_iconst (x := (2 : Int32)) (pc' := 329) at_328 rfl rfl ?_
                                  refine s_iadd (pc' := 330) at_329 rfl ?_
                                  rw [n_add2]
                                  refine s_callV1 (rmsH C.l G n0 r104 _ (TX ts ns vs) ((6 + ts.length + 1 + ns.length) + 2) 61 _ hb hch (tx_q _ _ _ (j := 2) rfl) V104) (by simp) V104.exa (hw _ (List.mem_of_getElem? (i := 171) rfl)) (hw _ (List.mem_of_getElem? (i := 172) rfl)) (hw _ (List.mem_of_getElem? (i := 174) rfl)) (hw _ (List.mem_of_getElem? (i := 173) rfl)) (o_nf (hw _ (List.mem_of_getElem? (i := 174) rfl)) rfl) (hw _ (List.mem_of_getElem? (i := 6) rfl)) (hw _ (List.mem_of_getElem? (i := 175) rfl)) (by decide) (o_len pdsH rfl) rfl (pc' := 333) at_330 rfl (Nat.le_of_ble_eq_true rfl) (Nat.le_of_ble_eq_true rfl) (Nat.le_of_ble_eq_true rfl) (Nat.le_of_ble_eq_true rfl) (fun v330 h330 hQ330 => ?_)
                                  obtain ⟨rfl, rfl⟩ := hQ330
                                  dsimp only [oPush]
                                  refine s_bipush (x := (61 : Int32)) (pc' := 335) at_333 rfl rfl ?_
                                  refine s_icmp (pc' := 338) (pc'' := 356) at_335 rfl (by decide) rfl (fun hc335 => ?_) (fun hc335 => ?_)
                                  · replace hc335 := b_ne hc335
                                    exact absurd rfl hc335
                                  · replace hc335 := b_neF hc335
                                    refine s_aload (pc' := 340) at_338 rfl rfl rfl ?_
                                    refine s_iload (pc' := 342) at_340 rfl rfl ?_
                                    refine s_iconst (x := (3 : Int32)) (pc' := 343) at_342 rfl rfl ?_
                                    refine s_iadd (pc' := 344) at_343 rfl ?_
                                    rw [n_add3]
                                    refine s_callV1 (rmsH C.l G n0 r104 _ (TX ts ns vs) ((6 + ts.length + 1 + ns.length) + 3) 32 _ hb hch (tx_q _ _ _ (j := 3) rfl) V104) (by simp) V104.exa (hw _ (List.mem_of_getElem? (i := 171) rfl)) (hw _ (List.mem_of_getElem? (i := 172) rfl)) (hw _ (List.mem_of_getElem? (i := 174) rfl)) (hw _ (List.mem_of_getElem? (i := 173) rfl)) (o_nf (hw _ (List.mem_of_getElem? (i := 174) rfl)) rfl) (hw _ (List.mem_of_getElem? (i := 6) rfl)) (hw _ (List.mem_of_getElem? (i := 175) rfl)) (by decide) (o_len pdsH rfl) rfl (pc' := 347) at_344 rfl (Nat.le_of_ble_eq_true rfl) (Nat.le_of_ble_eq_true rfl) (Nat.le_of_ble_eq_true rfl) (Nat.le_of_ble_eq_true rfl) (fun v344 h344 hQ344 => ?_)
                                    obtain ⟨rfl, rfl⟩ := hQ344
                                    dsimp only [oPush]
                                    refine s_bipush (x := (32 : Int32)) (pc' := 349) at_347 rfl rfl ?_
                                    refine s_icmp (pc' := 352) (pc'' := 356) at_349 rfl (by decide) rfl (fun hc349 => ?_) (fun hc349 => ?_)
                                    · replace hc349 := b_ne hc349
                                      exact absurd rfl hc349
                                    · replace hc349 := b_neF hc349
                                      refine s_iconst (x := (1 : Int32)) (pc' := 353) at_352 rfl rfl ?_
                                      refine s_goto (pc' := 357) at_353 (by decide) rfl ?_
                                      refine s_istore (pc' := 359) at_357 rfl (o_st rfl (by first | exact One.u | exact One.val rfl | assumption) rfl) ?_
                                      dsimp only [List.set_cons_succ, List.set_cons_zero]
                                      refine s_iload (pc' := 361) at_359 rfl rfl ?_
                                      refine s_if (pc' := 364) (pc'' := 382) at_361 rfl (by decide) rfl (fun hc361 => ?_) (fun hc361 => ?_)
                                      · replace hc361 := b_eq hc361
                                        exact absurd hc361 (by decide)
                                      · replace hc361 := b_eqF hc361
                                        refine s_aload (pc' := 366) at_364 rfl rfl rfl ?_
                                        refine s_iload (pc' := 368) at_366 rfl rfl ?_
                                        refine s_iconst (x := (4 : Int32)) (pc' := 369) at_368 rfl rfl ?_
                                        refine s_iadd (pc' := 370) at_369 rfl ?_
                                        rw [n_add4]
                                        refine s_aload (pc' := 372) at_370 rfl rfl rfl ?_
                                        refine s_callS3 (rmsm C.l G n0 r104 r86 _ _ ((6 + ts.length + 1 + ns.length) + 4) (TX ts ns vs) vs _ hb hm3 hch q3 (fun j z h => tx_v h) V104 V86S) (by simp) (hw _ (List.mem_of_getElem? (i := 192) rfl)) (hw _ (List.mem_of_getElem? (i := 193) rfl)) (hw _ (List.mem_of_getElem? (i := 2) rfl)) (hw _ (List.mem_of_getElem? (i := 194) rfl)) (by decide) (o_len pdsm rfl) rfl (pc' := 375) at_372 rfl (Nat.le_of_ble_eq_true rfl) (Nat.le_of_ble_eq_true rfl) (Nat.le_of_ble_eq_true rfl) (Nat.le_of_ble_eq_true rfl) (fun v372 h372 hQ372 => ?_)
                                        obtain ⟨rfl, rfl⟩ := hQ372
                                        dsimp only [oPush]
                                        refine s_if (pc' := 378) (pc'' := 382) at_375 rfl (by decide) rfl (fun hc375 => ?_) (fun hc375 => ?_)
                                        · replace hc375 := b_eq hc375
                                          exact absurd hc375 (by decide)
                                        · replace hc375 := b_eqF hc375
                                          refine s_iconst (x := (1 : Int32)) (pc' := 379) at_378 rfl rfl ?_
                                          refine s_goto (pc' := 383) at_379 (by decide) rfl ?_
                                          refine s_istore (pc' := 385) at_383 rfl (o_st rfl (by first | exact One.u | exact One.val rfl | assumption) rfl) ?_
                                          dsimp only [List.set_cons_succ, List.set_cons_zero]
                                          refine s_iload (pc' := 387) at_385 rfl rfl ?_
                                          refine s_if (pc' := 390) (pc'' := 411) at_387 rfl (by decide) rfl (fun hc387 => ?_) (fun hc387 => ?_)
                                          · replace hc387 := b_eq hc387
                                            exact absurd hc387 (by decide)
                                          · replace hc387 := b_eqF hc387
                                            refine s_aload (pc' := 392) at_390 rfl rfl rfl ?_
                                            refine s_iload (pc' := 394) at_392 rfl rfl ?_
                                            refine s_iconst (x := (4 : Int32)) (pc' := 395) at_394 rfl rfl ?_
                                            refine s_iadd (pc' := 396) at_395 rfl ?_
                                            rw [n_add4]
                                            refine s_iload (pc' := 398) at_396 rfl rfl ?_
                                            refine s_iadd (pc' := 399) at_398 rfl ?_
                                            rw [n_add]
                                            refine s_callV1 (rmsH C.l G n0 r104 _ (TX ts ns vs) ((6 + ts.length + 1 + ns.length) + 4 + vs.length) 59 _ hb hch (tx_e _ _ _) V104) (by simp) V104.exa (hw _ (List.mem_of_getElem? (i := 171) rfl)) (hw _ (List.mem_of_getElem? (i := 172) rfl)) (hw _ (List.mem_of_getElem? (i := 174) rfl)) (hw _ (List.mem_of_getElem? (i := 173) rfl)) (o_nf (hw _ (List.mem_of_getElem? (i := 174) rfl)) rfl) (hw _ (List.mem_of_getElem? (i := 6) rfl)) (hw _ (List.mem_of_getElem? (i := 175) rfl)) (by decide) (o_len pdsH rfl) rfl (pc' := 402) at_399 rfl (Nat.le_of_ble_eq_true rfl) (Nat.le_of_ble_eq_true rfl) (Nat.le_of_ble_eq_true rfl) (Nat.le_of_ble_eq_true rfl) (fun v399 h399 hQ399 => ?_)
                                            obtain ⟨rfl, rfl⟩ := hQ399
                                            dsimp only [oPush]
                                            refine s_bipush (x := (59 : Int32)) (pc' := 404) at_402 rfl rfl ?_
                                            refine s_icmp (pc' := 407) (pc'' := 411) at_404 rfl (by decide) rfl (fun hc404 => ?_) (fun hc404 => ?_)
                                            · replace hc404 := b_ne hc404
                                              exact absurd rfl hc404
                                            · replace hc404 := b_neF hc404
                                              refine s_iconst (x := (1 : Int32)) (pc' := 408) at_407 rfl rfl ?_
                                              refine s_goto (pc' := 412) at_408 (by decide) rfl ?_
                                              refine s_istore (pc' := 414) at_412 rfl (o_st rfl (by first | exact One.u | exact One.val rfl | assumption) rfl) ?_
                                              dsimp only [List.set_cons_succ, List.set_cons_zero]
                                              refine s_iload (pc' := 416) at_414 rfl rfl ?_
                                              exact s_nret (t := .boolean) rfl (by simp) at_416 (Nat.le_of_ble_eq_true rfl) (Nat.le_of_ble_eq_true rfl) rfl
  · replace hc125 := b_eqF hc125
    exact absurd rfl hc125
set_option maxRecDepth 65536 in
set_option maxHeartbeats 4000000 in
theorem comes_1 {Post : Tables → Env → Array Value → State → Outcome → State → Prop} (hpost : ∀ tb e args s v u, (limb_1_1.after args s (.returned v) u = true ∧ limb_1_2.after args s (.returned v) u = true ∧ True) → ReturnedEndW s (.returned v) u (Jvm.fieldLocs frame_1_writes args s ++ Jvm.arrayLocs frame_1_arrays args s ++ Jvm.staticLocs frame_1_statics s) 48 5440 → Post tb e args s (.returned v) u) :
    ArmFor flags0 classFile x code maxLocals ret World_1 tables_1 room_1 Calls_1 rest_1 Pre_1 Post := by
  intro l hfl _ _ p e ha hc hk s m args below hf hA hF happ hP
  obtain ⟨hcalls, hrest, hpre⟩ := hP
  obtain ⟨-, -, -, hnamed, -, -, -, hat⟩ := (Spec.applies_iff hf).mp happ
  obtain ⟨hg, hn⟩ := and_e (Cond.before_iff.mp (show (Jvm.Cond.and given_1 narrow_1).before args s = true from hpre))
  obtain ⟨hcount, hr0⟩ := and_e hg
  obtain ⟨ha0, hr1⟩ := and_e hr0
  obtain ⟨ha1, hr2⟩ := and_e hr1
  obtain ⟨ha2, hr3⟩ := and_e hr2
  have ha3 := hr3
  obtain ⟨w0, w1, w2, w3, rfl⟩ : ∃ w0 w1 w2 w3 : Value, args = #[w0, w1, w2, w3] := by
    have hs : args.size = 4 := by simpa [Cond.value, given_1] using hcount
    obtain ⟨L⟩ := args
    match L, hs with
    | [w0, w1, w2, w3], _ => exact ⟨w0, w1, w2, w3, rfl⟩
  have hw := fun d (hd : d ∈ tables_1) => atoms_spec (ws := Jvm.Cond.code x code maxLocals ret :: tables_1) hat d (List.mem_cons_of_mem _ hd)
  obtain ⟨hsets, hown0⟩ := atoms_of _ (rest_1_c_eq ▸ (show rest_1_c.before _ s = true from hrest))
  have hfit : Fit s := fun {y c} hc i hi => by
    obtain ⟨ha, rfl⟩ := Array.getElem?_eq_some_iff.mp hc
    have q := List.all_eq_true.mp ((Array.all_eq_true_iff_forall_mem.mp hF) _ (Array.getElem_mem ha)) i (List.mem_range.mpr hi)
    simpa [Array.getElem?_eq_getElem hi] using q
  obtain ⟨i0, e0⟩ := is_v ha0
  obtain rfl : w0 = (.int i0) := Option.some.inj e0
  obtain ⟨i1, e1⟩ := is_v ha1
  obtain rfl : w1 = (.int i1) := Option.some.inj e1
  obtain ⟨i2, e2⟩ := is_v ha2
  obtain rfl : w2 = (.int i2) := Option.some.inj e2
  obtain ⟨i3, e3⟩ := is_v ha3
  obtain rfl : w3 = (.int i3) := Option.some.inj e3
  have n2 := not_v (Cond.before_iff.mp (hsets _ (List.mem_of_getElem? (i := 2) rfl)))
  obtain ⟨cmp, ec⟩ := is_v (Cond.before_iff.mp (hsets _ (List.mem_of_getElem? (i := 1) rfl)))
  have hC : Sta s s.heap "java/lang/String" "COMPACT_STRINGS" "Z" (.int cmp) := Sta.start ec (Or.inl (hsets _ (List.mem_of_getElem? (i := 0) rfl)))
  have hc0 : ¬ cmp = 0 := gotF (Cond.eq_ints ec (Term.int_eval 0)) n2
  obtain ⟨fm, ef, hfm⟩ := isR_v (Cond.before_iff.mp (hsets _ (List.mem_of_getElem? (i := 8) rfl)))
  have hF : Sta s s.heap "jdk/internal/util/Preconditions" "SIOOBE_FORMATTER" "Ljava/util/function/BiFunction;" fm := Sta.start ef (Or.inl (hsets _ (List.mem_of_getElem? (i := 7) rfl)))
  have hEL : EW s #[.int i0, .int i1, .int i2, .int i3] EL1 := (EW.cons (hw _ (List.mem_of_getElem? (i := 74) rfl)) (by decide) (EW.cons (hw _ (List.mem_of_getElem? (i := 122) rfl)) (by decide) (EW.cons (hw _ (List.mem_of_getElem? (i := 123) rfl)) (by decide) (EW.cons (hw _ (List.mem_of_getElem? (i := 124) rfl)) (by decide) (EW.cons (hw _ (List.mem_of_getElem? (i := 30) rfl)) (by decide) EW.nil)))))
  have G : OG s _ := ⟨hw, hEL, ⟨cmp, hC, hc0⟩, ⟨fm, hfm, hF⟩⟩
  have hCH : CHv s EL1 s.vm s.heap := CHv.start hEL (fun p hp => hcalls.1 p hp) (hsets _ (List.mem_of_getElem? (i := 2) rfl)) (hw _ (List.mem_of_getElem? (i := 18) rfl)) (hw _ (List.mem_of_getElem? (i := 14) rfl))
  obtain ⟨n, o, q1, q2, q3, _, L, rfl, ⟨N, -, rfl⟩, -, hq⟩ := (rm0 l G s.heap.size i0 i1 i2 i3 s.heap) (Old.start s) tables_1 p e ha hc hk s m _ below hf ((Spec.applies_iff_loose hf).mp happ).1 ⟨rfl, State.Warmed39.refl s, rfl, hCH, by simp⟩ trivial
  refine ⟨n, _, q1, q2, q3, hpost _ _ _ _ _ _ ⟨Cond.after_iff.mpr rfl, Cond.after_iff.mpr (eq_i res_at (Term.int_eval (1)) rfl), trivial⟩ ⟨hq.1, hq.2.1, hq.2.2.1, (hq.2.2.2.sift fun y hy => Or.inr (N y hy)).mono (by decide) (by decide)⟩⟩
theorem main_1_1 : Claimed_1_1 := comes_1 fun _ _ _ _ _ _ h hF => ⟨h.1, hF⟩
theorem main_1_2 : Claimed_1_2 := comes_1 fun _ _ _ _ _ _ h hF => ⟨h.2.1, hF⟩
end Jvm.Pilot.@@N@@
namespace Jvm.Pilot.@@N@@
open Jvm Jvm.ClassFile Sem Op Lib Jvm.Free Jvm.Stand Jvm.Pilot.@@N@@.Jvm.D
/-! MADE BY PROGRAM (witnessworld.py) out of the Statement's table words and the real class files: 28 classes; the members and pool entries that the words name. The judged class is class 1, her method 1. -/
namespace start1
open Jvm.ClassFile
def u (s : String) : CpInfo := .utf8 (stringToUtf16 s)
/-- a pool by its gaps: so many unusable entries, then the entry; so many at the end -/
def gap : Nat → List CpInfo → List CpInfo
  | 0, r => r
  | n + 1, r => .unusable :: gap n r
def poolList (es : List (Nat × CpInfo)) (last : Nat) : List CpInfo := es.foldr (fun e r => gap e.1 (e.2 :: r)) (gap last [])
def pool (es : List (Nat × CpInfo)) (last : Nat) : Array CpInfo := ⟨poolList es last⟩
def fileOf (pool : Array CpInfo) (this : Nat) (attrs : Array Attribute := #[]) (ms : Array MethodInfo := #[]) (fl : Nat := 33) (sup : Nat := 0) (ifs : Array Nat := #[]) (fds : Array FieldInfo := #[]) : ClassFile where
  minorVersion := 0
  majorVersion := 65
  constantPool := pool
  accessFlags := fl
  thisClass := this
  superClass := sup
  interfaces := ifs
  fields := fds
  methods := ms
  attributes := attrs
def plain (name : String) (sup : Option ClassId) : Class where
  name := name
  kind := .ordinary
  loader := none
  accessFlags := 33
  super := sup
  interfaces := #[]
  cf := none
  fields := #[]
  methods := #[]
  instanceTypes := #[]
  staticTypes := #[]
  resolved := #[]
  callSites := []
  init := .initialized
  statics := none
  mirror := none

def pool0 : Array CpInfo := pool [(5, u "<init>"), (0, u "()V"), (1, .class_ 10), (1, u "java/lang/Object"), (85, u "clone"), (0, u "()Ljava/lang/Object;")] 26

def k0c0 : Code := { maxStack := 0, maxLocals := 1, code := object_method_1_code, exceptionTable := #[], attributes := #[] }
def k0m0 : Method := { name := "<init>", desc := "()V", sig := { parameters := [], returnType := none }, accessFlags := 1, code := some k0c0 }
def k0m1 : Method := { name := "clone", desc := "()Ljava/lang/Object;", sig := { parameters := [], returnType := some (.object "java/lang/Object") }, accessFlags := 260, code := none }
/-- java/lang/Object -/
def k0 : Class := { plain "java/lang/Object" none with
  accessFlags := 33
  interfaces := #[]
  cf := some (fileOf pool0 8 #[] #[{ accessFlags := 1, nameIndex := 5, descriptorIndex := 6, attributes := #[] }, { accessFlags := 260, nameIndex := 96, descriptorIndex := 97, attributes := #[] }] 33 0 #[] #[])
  fields := #[]
  methods := #[k0m0, k0m1]
  instanceTypes := #[]
  staticTypes := #[]
  resolved := Array.replicate 124 none
  statics := none }

def pool1 : Array CpInfo := pool [(2, .class_ 4), (1, u "java/lang/Object"), (0, u "<init>"), (0, u "()V"), (0, .methodref 8 9), (0, .class_ 10), (0, .nameAndType 11 12), (0, u "com/example/typeloom/typeloom/ttcn/ConstantDefinitionTextPinLaw"), (0, u "mk"), (0, u "(ICC)Ljava/lang/String;"), (0, .class_ 14), (0, u "com/example/typeloom/typeloom/ttcn/ConstantDefinition"), (0, .methodref 13 16), (0, .nameAndType 5 17), (0, u "(Ljava/lang/String;Ljava/lang/String;Ljava/lang/String;)V"), (0, .methodref 13 19), (0, .nameAndType 20 21), (0, u "text"), (0, u "()Ljava/lang/String;"), (0, .methodref 23 24), (0, .class_ 25), (0, .nameAndType 26 27), (0, u "java/lang/String"), (0, u "length"), (0, u "()I"), (0, .methodref 23 29), (0, .nameAndType 30 31), (0, u "charAt"), (0, u "(I)C"), (0, .methodref 8 33), (0, .nameAndType 34 35), (0, u "same"), (0, u "(Ljava/lang/String;ILjava/lang/String;)Z"), (0, .string 37), (0, u ""), (0, .methodref 23 39), (0, .nameAndType 40 41), (0, u "valueOf"), (0, u "(C)Ljava/lang/String;"), (0, .methodref 23 43), (0, .nameAndType 5 44), (0, u "([C)V"), (0, .methodref 23 46), (0, .nameAndType 47 48), (0, u "isEmpty"), (0, u "()Z"), (2, u "law"), (0, u "(IIII)Z")] 3

def k1m0 : Method := { name := "<init>", desc := "()V", sig := { parameters := [], returnType := none }, accessFlags := 1, code := none }
def k1c1 : Code := { maxStack := 5, maxLocals := 14, code := code, exceptionTable := #[], attributes := #[] }
def k1m1 : Method := { name := "law", desc := "(IIII)Z", sig := { parameters := [.int, .int, .int, .int], returnType := some .boolean }, accessFlags := 9, code := some k1c1 }
def k1c2 : Code := { maxStack := 6, maxLocals := 3, code := method_3_code, exceptionTable := #[], attributes := #[] }
def k1m2 : Method := { name := "mk", desc := "(ICC)Ljava/lang/String;", sig := { parameters := [.int, .char, .char], returnType := some (.object "java/lang/String") }, accessFlags := 10, code := some k1c2 }
def k1c3 : Code := { maxStack := 3, maxLocals := 3, code := method_4_code, exceptionTable := #[], attributes := #[] }
def k1m3 : Method := { name := "same", desc := "(Ljava/lang/String;ILjava/lang/String;)Z", sig := { parameters := [(.object "java/lang/String"), .int, (.object "java/lang/String")], returnType := some .boolean }, accessFlags := 10, code := some k1c3 }
/-- com/example/typeloom/typeloom/ttcn/ConstantDefinitionTextPinLaw -/
def k1 : Class := { plain "com/example/typeloom/typeloom/ttcn/ConstantDefinitionTextPinLaw" (some 0) with
  accessFlags := 49
  interfaces := #[]
  cf := some (fileOf pool1 8 #[] #[{ accessFlags := 1, nameIndex := 5, descriptorIndex := 6, attributes := #[] }, { accessFlags := 9, nameIndex := 51, descriptorIndex := 52, attributes := #[] }, { accessFlags := 10, nameIndex := 11, descriptorIndex := 12, attributes := #[] }, { accessFlags := 10, nameIndex := 34, descriptorIndex := 35, attributes := #[] }] 49 2 #[] #[])
  fields := #[]
  methods := #[k1m0, k1m1, k1m2, k1m3]
  instanceTypes := #[]
  staticTypes := #[]
  resolved := Array.replicate 56 none
  statics := none }

def pool2 : Array CpInfo := pool [(1, .class_ 2), (0, u "java/io/Serializable"), (0, .class_ 4), (0, u "java/lang/Object")] 2

/-- java/io/Serializable -/
def k2 : Class := { plain "java/io/Serializable" (some 0) with
  accessFlags := 1537
  interfaces := #[]
  cf := some (fileOf pool2 1 #[] #[] 1537 3 #[] #[])
  fields := #[]
  methods := #[]
  instanceTypes := #[]
  staticTypes := #[]
  resolved := Array.replicate 7 none
  statics := none }

def pool3 : Array CpInfo := pool [(1, .class_ 2), (0, u "java/lang/Comparable"), (0, .class_ 4), (0, u "java/lang/Object")] 7

/-- java/lang/Comparable -/
def k3 : Class := { plain "java/lang/Comparable" (some 0) with
  accessFlags := 1537
  interfaces := #[]
  cf := some (fileOf pool3 1 #[] #[] 1537 3 #[] #[])
  fields := #[]
  methods := #[]
  instanceTypes := #[]
  staticTypes := #[]
  resolved := Array.replicate 12 none
  statics := none }

def pool4 : Array CpInfo := pool [(2, .class_ 4), (1, u "java/lang/CharSequence"), (42, .class_ 48), (0, u "java/lang/CharSequence$1CodePointIterator"), (10, .class_ 60), (0, u "java/lang/CharSequence$1CharIterator"), (5, .class_ 67), (0, u "java/lang/Object")] 63

/-- java/lang/CharSequence -/
def k4 : Class := { plain "java/lang/CharSequence" (some 0) with
  accessFlags := 1537
  interfaces := #[]
  cf := some (fileOf pool4 2 #[.nestMembers #[47, 59]] #[] 1537 66 #[] #[])
  fields := #[]
  methods := #[]
  instanceTypes := #[]
  staticTypes := #[]
  resolved := Array.replicate 131 none
  statics := none }

def pool5 : Array CpInfo := pool [(1, .class_ 2), (0, u "java/lang/constant/Constable"), (0, .class_ 4), (0, u "java/lang/Object")] 6

/-- java/lang/constant/Constable -/
def k5 : Class := { plain "java/lang/constant/Constable" (some 0) with
  accessFlags := 1537
  interfaces := #[]
  cf := some (fileOf pool5 1 #[] #[] 1537 3 #[] #[])
  fields := #[]
  methods := #[]
  instanceTypes := #[]
  staticTypes := #[]
  resolved := Array.replicate 11 none
  statics := none }

def pool6 : Array CpInfo := pool [(1, .class_ 2), (0, u "java/lang/constant/ConstantDesc"), (0, .class_ 4), (0, u "java/lang/Object")] 32

/-- java/lang/constant/ConstantDesc -/
def k6 : Class := { plain "java/lang/constant/ConstantDesc" (some 0) with
  accessFlags := 1537
  interfaces := #[]
  cf := some (fileOf pool6 1 #[] #[] 1537 3 #[] #[])
  fields := #[]
  methods := #[]
  instanceTypes := #[]
  staticTypes := #[]
  resolved := Array.replicate 37 none
  statics := none }

def pool7 : Array CpInfo := pool [(1, .methodref 2 3), (0, .class_ 4), (0, .nameAndType 5 6), (0, u "java/lang/Object"), (0, u "<init>"), (0, u "()V"), (2, .fieldref 10 11), (0, .class_ 12), (0, .nameAndType 13 14), (0, u "java/lang/String"), (0, u "value"), (0, u "[B"), (0, .fieldref 10 16), (0, .nameAndType 17 18), (0, u "coder"), (0, u "B"), (2, u "hash"), (0, u "I"), (2, u "hashIsZero"), (0, u "Z"), (0, .methodref 10 28), (0, .nameAndType 5 29), (0, u "([CIILjava/lang/Void;)V"), (8, .fieldref 10 39), (0, .nameAndType 40 26), (0, u "COMPACT_STRINGS"), (1, .class_ 44), (1, u "java/lang/StringUTF16"), (0, u "compress"), (1, .methodref 42 48), (0, .nameAndType 49 50), (0, u "coderFromArrayLen"), (0, u "([BI)B"), (2, u "toBytes"), (0, .methodref 55 56), (0, .class_ 57), (0, .nameAndType 58 59), (0, u "java/util/Arrays"), (0, u "copyOfRange"), (0, u "([BII)[B"), (47, .class_ 109), (1, u "java/lang/StringLatin1"), (32, u "()Z"), (34, .methodref 42 178), (0, .nameAndType 45 179), (0, u "([CII)[B"), (13, .class_ 195), (1, u "java/lang/System"), (13, .methodref 10 210), (0, .nameAndType 5 211), (0, u "([BB)V"), (0, .methodref 193 213), (0, .nameAndType 214 215), (0, u "arraycopy"), (0, u "(Ljava/lang/Object;ILjava/lang/Object;II)V"), (118, u "()I"), (0, .methodref 10 336), (0, .nameAndType 17 337), (0, u "()B"), (2, u "()[B"), (22, u "([BI)C"), (5, u "(C)Z"), (21, u "(II)V"), (35, u "(I)C"), (61, .methodref 10 490), (0, .nameAndType 5 491), (0, u "(Ljava/lang/AbstractStringBuilder;Ljava/lang/Void;)V"), (0, .methodref 10 493), (0, .nameAndType 494 142), (0, u "isLatin1"), (0, .methodref 107 496), (0, .nameAndType 497 363), (0, u "charAt"), (3, u "checkIndex"), (4, .nameAndType 507 334), (0, u "length"), (24, u "getBytes"), (16, .methodref 550 506), (0, .class_ 551), (0, u "java/lang/AbstractStringBuilder"), (0, .methodref 550 553), (0, .nameAndType 554 340), (0, u "getValue"), (20, .class_ 576), (0, u "java/lang/CharSequence"), (22, u "CASE_INSENSITIVE_ORDER"), (0, u "Ljava/util/Comparator;"), (91, u "isEmpty"), (89, u "valueOf"), (0, u "(C)Ljava/lang/String;"), (37, u "([BIB)V"), (188, u "([C)V"), (4, .methodref 107 1016), (0, .nameAndType 1017 369), (0, u "canEncode"), (0, .methodref 107 1019), (0, .nameAndType 53 1020), (0, u "(C)[B"), (26, .methodref 550 493), (5, .fieldref 1054 1055), (0, .class_ 1056), (0, .nameAndType 1057 1058), (0, u "jdk/internal/util/Preconditions"), (0, u "SIOOBE_FORMATTER"), (0, u "Ljava/util/function/BiFunction;"), (0, .methodref 1054 1060), (0, .nameAndType 501 1061), (0, u "(IILjava/util/function/BiFunction;)I"), (39, u "serialPersistentFields"), (0, u "[Ljava/io/ObjectStreamField;"), (0, .class_ 1104), (0, u "java/lang/String$CaseInsensitiveComparator"), (1, .class_ 1107), (0, u "java/io/Serializable"), (0, .class_ 1109), (0, u "java/lang/Comparable"), (0, .class_ 1111), (0, u "java/lang/constant/Constable"), (0, .class_ 1113), (0, u "java/lang/constant/ConstantDesc"), (2, u "serialVersionUID"), (0, u "J"), (3, u "REPL"), (0, u "C"), (2, u "LATIN1"), (1, u "UTF16"), (105, u "(Ljava/lang/StringBuilder;)V")] 217

def k7m0 : Method := { name := "<init>", desc := "()V", sig := { parameters := [], returnType := none }, accessFlags := 1, code := none }
def k7c1 : Code := { maxStack := 5, maxLocals := 2, code := jdk_42_method_3_code, exceptionTable := #[], attributes := #[] }
def k7m1 : Method := { name := "<init>", desc := "([C)V", sig := { parameters := [(.array .char)], returnType := none }, accessFlags := 1, code := some k7c1 }
def k7c2 : Code := { maxStack := 3, maxLocals := 2, code := jdk_42_method_53_code, exceptionTable := #[], attributes := #[] }
def k7m2 : Method := { name := "<init>", desc := "(Ljava/lang/StringBuilder;)V", sig := { parameters := [(.object "java/lang/StringBuilder")], returnType := none }, accessFlags := 1, code := some k7c2 }
def k7c3 : Code := { maxStack := 2, maxLocals := 1, code := jdk_42_method_54_code, exceptionTable := #[], attributes := #[] }
def k7m3 : Method := { name := "length", desc := "()I", sig := { parameters := [], returnType := some .int }, accessFlags := 1, code := some k7c3 }
def k7c4 : Code := { maxStack := 1, maxLocals := 1, code := jdk_42_method_55_code, exceptionTable := #[], attributes := #[] }
def k7m4 : Method := { name := "isEmpty", desc := "()Z", sig := { parameters := [], returnType := some .boolean }, accessFlags := 1, code := some k7c4 }
def k7c5 : Code := { maxStack := 2, maxLocals := 2, code := jdk_42_method_56_code, exceptionTable := #[], attributes := #[] }
def k7m5 : Method := { name := "charAt", desc := "(I)C", sig := { parameters := [.int], returnType := some .char }, accessFlags := 1, code := some k7c5 }
def k7c6 : Code := { maxStack := 4, maxLocals := 1, code := jdk_42_method_139_code, exceptionTable := #[], attributes := #[] }
def k7m6 : Method := { name := "valueOf", desc := "(C)Ljava/lang/String;", sig := { parameters := [.char], returnType := some (.object "java/lang/String") }, accessFlags := 9, code := some k7c6 }
def k7c7 : Code := { maxStack := 5, maxLocals := 4, code := jdk_42_method_147_code, exceptionTable := #[], attributes := #[] }
def k7m7 : Method := { name := "getBytes", desc := "([BIB)V", sig := { parameters := [(.array .byte), .int, .byte], returnType := none }, accessFlags := 0, code := some k7c7 }
def k7c8 : Code := { maxStack := 4, maxLocals := 6, code := jdk_42_method_149_code, exceptionTable := #[], attributes := #[] }
def k7m8 : Method := { name := "<init>", desc := "([CIILjava/lang/Void;)V", sig := { parameters := [(.array .char), .int, .int, (.object "java/lang/Void")], returnType := none }, accessFlags := 2, code := some k7c8 }
def k7c9 : Code := { maxStack := 5, maxLocals := 5, code := jdk_42_method_150_code, exceptionTable := #[], attributes := #[] }
def k7m9 : Method := { name := "<init>", desc := "(Ljava/lang/AbstractStringBuilder;Ljava/lang/Void;)V", sig := { parameters := [(.object "java/lang/AbstractStringBuilder"), (.object "java/lang/Void")], returnType := none }, accessFlags := 0, code := some k7c9 }
def k7c10 : Code := { maxStack := 2, maxLocals := 3, code := jdk_42_method_151_code, exceptionTable := #[], attributes := #[] }
def k7m10 : Method := { name := "<init>", desc := "([BB)V", sig := { parameters := [(.array .byte), .byte], returnType := none }, accessFlags := 0, code := some k7c10 }
def k7c11 : Code := { maxStack := 1, maxLocals := 1, code := jdk_42_method_152_code, exceptionTable := #[], attributes := #[] }
def k7m11 : Method := { name := "coder", desc := "()B", sig := { parameters := [], returnType := some .byte }, accessFlags := 0, code := some k7c11 }
def k7c12 : Code := { maxStack := 1, maxLocals := 1, code := jdk_42_method_154_code, exceptionTable := #[], attributes := #[] }
def k7m12 : Method := { name := "isLatin1", desc := "()Z", sig := { parameters := [], returnType := some .boolean }, accessFlags := 0, code := some k7c12 }
def k7c13 : Code := { maxStack := 3, maxLocals := 2, code := jdk_42_method_155_code, exceptionTable := #[], attributes := #[] }
def k7m13 : Method := { name := "checkIndex", desc := "(II)V", sig := { parameters := [.int, .int], returnType := none }, accessFlags := 8, code := some k7c13 }
/-- java/lang/String -/
def k7 : Class := { plain "java/lang/String" (some 0) with
  accessFlags := 49
  interfaces := #[2, 3, 4, 5, 6]
  cf := some (fileOf pool7 10 #[.nestMembers #[1103]] #[{ accessFlags := 1, nameIndex := 5, descriptorIndex := 6, attributes := #[] }, { accessFlags := 1, nameIndex := 5, descriptorIndex := 1010, attributes := #[] }, { accessFlags := 1, nameIndex := 5, descriptorIndex := 1233, attributes := #[] }, { accessFlags := 1, nameIndex := 507, descriptorIndex := 334, attributes := #[] }, { accessFlags := 1, nameIndex := 692, descriptorIndex := 142, attributes := #[] }, { accessFlags := 1, nameIndex := 497, descriptorIndex := 427, attributes := #[] }, { accessFlags := 9, nameIndex := 782, descriptorIndex := 783, attributes := #[] }, { accessFlags := 0, nameIndex := 532, descriptorIndex := 821, attributes := #[] }, { accessFlags := 2, nameIndex := 5, descriptorIndex := 29, attributes := #[] }, { accessFlags := 0, nameIndex := 5, descriptorIndex := 491, attributes := #[] }, { accessFlags := 0, nameIndex := 5, descriptorIndex := 211, attributes := #[] }, { accessFlags := 0, nameIndex := 17, descriptorIndex := 337, attributes := #[] }, { accessFlags := 0, nameIndex := 494, descriptorIndex := 142, attributes := #[] }, { accessFlags := 8, nameIndex := 501, descriptorIndex := 391, attributes := #[] }] 49 2 #[1106, 1108, 575, 1110, 1112] #[{ accessFlags := 18, nameIndex := 13, descriptorIndex := 14, attributes := #[] }, { accessFlags := 18, nameIndex := 17, descriptorIndex := 18, attributes := #[] }, { accessFlags := 2, nameIndex := 21, descriptorIndex := 22, attributes := #[] }, { accessFlags := 2, nameIndex := 25, descriptorIndex := 26, attributes := #[] }, { accessFlags := 26, nameIndex := 1116, descriptorIndex := 1117, attributes := #[] }, { accessFlags := 24, nameIndex := 40, descriptorIndex := 26, attributes := #[] }, { accessFlags := 26, nameIndex := 1101, descriptorIndex := 1102, attributes := #[] }, { accessFlags := 26, nameIndex := 1121, descriptorIndex := 1122, attributes := #[] }, { accessFlags := 25, nameIndex := 599, descriptorIndex := 600, attributes := #[] }, { accessFlags := 24, nameIndex := 1125, descriptorIndex := 18, attributes := #[] }, { accessFlags := 24, nameIndex := 1127, descriptorIndex := 18, attributes := #[] }])
  fields := #[{ name := "value", type := (.array .byte), accessFlags := 18, slot := 0, constantValue := 0 }, { name := "coder", type := .byte, accessFlags := 18, slot := 1, constantValue := 0 }, { name := "hash", type := .int, accessFlags := 2, slot := 2, constantValue := 0 }, { name := "hashIsZero", type := .boolean, accessFlags := 2, slot := 3, constantValue := 0 }, { name := "serialVersionUID", type := .long, accessFlags := 26, slot := 0, constantValue := 0 }, { name := "COMPACT_STRINGS", type := .boolean, accessFlags := 24, slot := 1, constantValue := 0 }, { name := "serialPersistentFields", type := (.array (.object "java/io/ObjectStreamField")), accessFlags := 26, slot := 2, constantValue := 0 }, { name := "REPL", type := .char, accessFlags := 26, slot := 3, constantValue := 0 }, { name := "CASE_INSENSITIVE_ORDER", type := (.object "java/util/Comparator"), accessFlags := 25, slot := 4, constantValue := 0 }, { name := "LATIN1", type := .byte, accessFlags := 24, slot := 5, constantValue := 0 }, { name := "UTF16", type := .byte, accessFlags := 24, slot := 6, constantValue := 0 }]
  methods := #[k7m0, k7m1, k7m2, k7m3, k7m4, k7m5, k7m6, k7m7, k7m8, k7m9, k7m10, k7m11, k7m12, k7m13]
  instanceTypes := #[(.array .byte), .byte, .int, .boolean]
  staticTypes := #[.long, .boolean, (.array (.object "java/io/ObjectStreamField")), .char, (.object "java/util/Comparator"), .byte, .byte]
  resolved := Array.replicate 1451 none
  statics := some 0 }

def pool8 : Array CpInfo := pool [(1, .class_ 2), (0, u "java/lang/String"), (1, .class_ 6), (1, u "java/lang/Object"), (0, u "<init>"), (0, u "()V"), (0, .methodref 1 10), (0, .nameAndType 11 12), (0, u "checkIndex"), (0, u "(II)V"), (1, .class_ 16), (1, u "java/lang/StringLatin1"), (36, u "([BI)C"), (36, u "canEncode"), (14, u "(C)Z"), (15, u "$assertionsDisabled"), (0, u "Z"), (98, .class_ 223), (1, u "java/lang/StringLatin1$LinesSpliterator"), (28, u "charAt"), (127, u "toBytes"), (1, u "(C)[B"), (7, .class_ 391), (0, u "java/lang/StringLatin1$CharsSpliterator")] 3

def k8m0 : Method := { name := "<init>", desc := "()V", sig := { parameters := [], returnType := none }, accessFlags := 0, code := none }
def k8c1 : Code := { maxStack := 2, maxLocals := 2, code := jdk_43_method_2_code, exceptionTable := #[], attributes := #[] }
def k8m1 : Method := { name := "charAt", desc := "([BI)C", sig := { parameters := [(.array .byte), .int], returnType := some .char }, accessFlags := 9, code := some k8c1 }
def k8c2 : Code := { maxStack := 2, maxLocals := 1, code := jdk_43_method_3_code, exceptionTable := #[], attributes := #[] }
def k8m2 : Method := { name := "canEncode", desc := "(C)Z", sig := { parameters := [.char], returnType := some .boolean }, accessFlags := 9, code := some k8c2 }
def k8c3 : Code := { maxStack := 4, maxLocals := 1, code := jdk_43_method_46_code, exceptionTable := #[], attributes := #[] }
def k8m3 : Method := { name := "toBytes", desc := "(C)[B", sig := { parameters := [.char], returnType := some (.array .byte) }, accessFlags := 9, code := some k8c3 }
/-- java/lang/StringLatin1 -/
def k8 : Class := { plain "java/lang/StringLatin1" (some 0) with
  accessFlags := 48
  interfaces := #[]
  cf := some (fileOf pool8 14 #[.nestMembers #[390, 221]] #[{ accessFlags := 0, nameIndex := 7, descriptorIndex := 8, attributes := #[] }, { accessFlags := 9, nameIndex := 252, descriptorIndex := 53, attributes := #[] }, { accessFlags := 9, nameIndex := 90, descriptorIndex := 105, attributes := #[] }, { accessFlags := 9, nameIndex := 380, descriptorIndex := 382, attributes := #[] }] 48 4 #[] #[{ accessFlags := 4120, nameIndex := 121, descriptorIndex := 122, attributes := #[] }])
  fields := #[{ name := "$assertionsDisabled", type := .boolean, accessFlags := 4120, slot := 0, constantValue := 0 }]
  methods := #[k8m0, k8m1, k8m2, k8m3]
  instanceTypes := #[]
  staticTypes := #[.boolean]
  resolved := Array.replicate 395 none
  statics := none }

def pool9 : Array CpInfo := pool [(1, .methodref 2 3), (0, .class_ 4), (0, .nameAndType 5 6), (0, u "java/lang/Object"), (0, u "<init>"), (0, u "()V"), (0, .class_ 8), (0, u "java/lang/Record")] 13

def k9c0 : Code := { maxStack := 1, maxLocals := 1, code := jdk_30_method_1_code, exceptionTable := #[], attributes := #[] }
def k9m0 : Method := { name := "<init>", desc := "()V", sig := { parameters := [], returnType := none }, accessFlags := 4, code := some k9c0 }
/-- java/lang/Record -/
def k9 : Class := { plain "java/lang/Record" (some 0) with
  accessFlags := 1057
  interfaces := #[]
  cf := some (fileOf pool9 7 #[] #[{ accessFlags := 4, nameIndex := 5, descriptorIndex := 6, attributes := #[] }] 1057 2 #[] #[])
  fields := #[]
  methods := #[k9m0]
  instanceTypes := #[]
  staticTypes := #[]
  resolved := Array.replicate 22 none
  statics := none }

def pool10 : Array CpInfo := pool [(1, .class_ 2), (0, u "com/example/typeloom/typeloom/ttcn/Definition"), (0, .class_ 4), (0, u "java/lang/Object")] 10

/-- com/example/typeloom/typeloom/ttcn/Definition -/
def k10 : Class := { plain "com/example/typeloom/typeloom/ttcn/Definition" (some 0) with
  accessFlags := 1537
  interfaces := #[]
  cf := some (fileOf pool10 1 #[] #[] 1537 3 #[] #[])
  fields := #[]
  methods := #[]
  instanceTypes := #[]
  staticTypes := #[]
  resolved := Array.replicate 15 none
  statics := none }

def pool11 : Array CpInfo := pool [(1, .methodref 2 3), (0, .class_ 4), (0, .nameAndType 5 6), (0, u "java/lang/Record"), (0, u "<init>"), (0, u "()V"), (0, .fieldref 8 9), (0, .class_ 10), (0, .nameAndType 11 12), (0, u "com/example/typeloom/typeloom/ttcn/ConstantDefinition"), (0, u "type"), (0, u "Ljava/lang/String;"), (0, .fieldref 8 14), (0, .nameAndType 15 12), (0, u "name"), (0, .fieldref 8 17), (0, .nameAndType 18 12), (0, u "value"), (0, .class_ 20), (0, u "java/lang/StringBuilder"), (0, .methodref 19 3), (0, .string 23), (0, u "const "), (0, .methodref 19 25), (0, .nameAndType 26 27), (0, u "append"), (0, u "(Ljava/lang/String;)Ljava/lang/StringBuilder;"), (0, .string 29), (0, u " "), (0, .string 31), (0, u " := "), (0, .string 33), (0, u ";"), (0, .methodref 19 35), (0, .nameAndType 36 37), (0, u "toString"), (0, u "()Ljava/lang/String;"), (11, .class_ 50), (0, u "com/example/typeloom/typeloom/ttcn/Definition"), (0, u "(Ljava/lang/String;Ljava/lang/String;Ljava/lang/String;)V"), (3, u "text")] 24

def k11c0 : Code := { maxStack := 2, maxLocals := 4, code := prog_16_method_1_code, exceptionTable := #[], attributes := #[] }
def k11m0 : Method := { name := "<init>", desc := "(Ljava/lang/String;Ljava/lang/String;Ljava/lang/String;)V", sig := { parameters := [(.object "java/lang/String"), (.object "java/lang/String"), (.object "java/lang/String")], returnType := none }, accessFlags := 1, code := some k11c0 }
def k11c1 : Code := { maxStack := 2, maxLocals := 1, code := prog_16_method_2_code, exceptionTable := #[], attributes := #[] }
def k11m1 : Method := { name := "text", desc := "()Ljava/lang/String;", sig := { parameters := [], returnType := some (.object "java/lang/String") }, accessFlags := 1, code := some k11c1 }
/-- com/example/typeloom/typeloom/ttcn/ConstantDefinition -/
def k11 : Class := { plain "com/example/typeloom/typeloom/ttcn/ConstantDefinition" (some 9) with
  accessFlags := 49
  interfaces := #[10]
  cf := some (fileOf pool11 8 #[] #[{ accessFlags := 1, nameIndex := 5, descriptorIndex := 51, attributes := #[] }, { accessFlags := 1, nameIndex := 55, descriptorIndex := 37, attributes := #[] }] 49 2 #[49] #[{ accessFlags := 18, nameIndex := 11, descriptorIndex := 12, attributes := #[] }, { accessFlags := 18, nameIndex := 15, descriptorIndex := 12, attributes := #[] }, { accessFlags := 18, nameIndex := 18, descriptorIndex := 12, attributes := #[] }])
  fields := #[{ name := "type", type := (.object "java/lang/String"), accessFlags := 18, slot := 0, constantValue := 0 }, { name := "name", type := (.object "java/lang/String"), accessFlags := 18, slot := 1, constantValue := 0 }, { name := "value", type := (.object "java/lang/String"), accessFlags := 18, slot := 2, constantValue := 0 }]
  methods := #[k11m0, k11m1]
  instanceTypes := #[(.object "java/lang/String"), (.object "java/lang/String"), (.object "java/lang/String")]
  staticTypes := #[]
  resolved := Array.replicate 80 none
  statics := none }

def pool12 : Array CpInfo := pool [(1, .class_ 2), (0, u "java/lang/Appendable"), (0, .class_ 4), (0, u "java/lang/Object")] 9

/-- java/lang/Appendable -/
def k12 : Class := { plain "java/lang/Appendable" (some 0) with
  accessFlags := 1537
  interfaces := #[]
  cf := some (fileOf pool12 1 #[] #[] 1537 3 #[] #[])
  fields := #[]
  methods := #[]
  instanceTypes := #[]
  staticTypes := #[]
  resolved := Array.replicate 14 none
  statics := none }

def pool13 : Array CpInfo := pool [(1, .class_ 2), (0, u "java/lang/String"), (0, .methodref 4 5), (0, .class_ 6), (0, .nameAndType 7 8), (0, u "java/lang/Object"), (0, u "<init>"), (0, u "()V"), (1, .class_ 12), (1, u "java/lang/AbstractStringBuilder"), (0, u "EMPTYVALUE"), (0, u "[B"), (0, .fieldref 10 16), (0, .nameAndType 17 14), (0, u "value"), (0, .fieldref 1 19), (0, .nameAndType 20 21), (0, u "COMPACT_STRINGS"), (0, u "Z"), (0, .fieldref 10 23), (0, .nameAndType 24 25), (0, u "coder"), (0, u "B"), (6, .methodref 1 33), (0, .nameAndType 34 35), (0, u "length"), (0, u "()I"), (3, .integer 2147483647), (0, .methodref 1 41), (0, .nameAndType 24 42), (0, u "()B"), (2, u "append"), (0, u "(Ljava/lang/String;)Ljava/lang/AbstractStringBuilder;"), (1, .class_ 49), (0, u "java/lang/CharSequence"), (19, u "(Ljava/lang/String;)V"), (5, u "maybeLatin1"), (3, .fieldref 10 80), (0, .nameAndType 81 82), (0, u "count"), (0, u "I"), (2, u "isLatin1"), (0, u "()Z"), (13, .methodref 10 101), (0, .nameAndType 102 103), (0, u "ensureCapacityInternal"), (0, u "(I)V"), (0, .methodref 10 105), (0, .nameAndType 106 107), (0, u "newCapacity"), (0, u "(I)I"), (0, .methodref 109 110), (0, .class_ 111), (0, .nameAndType 112 113), (0, u "java/util/Arrays"), (0, u "copyOf"), (0, u "([BI)[B"), (0, .methodref 115 116), (0, .class_ 117), (0, .nameAndType 118 119), (0, u "jdk/internal/util/ArraysSupport"), (0, u "newLength"), (0, u "(III)I"), (88, .methodref 10 209), (0, .nameAndType 210 211), (0, u "putStringAt"), (0, u "(ILjava/lang/String;)V"), (5, u "inflateIfNeededFor"), (2, .nameAndType 221 222), (0, u "getBytes"), (0, u "([BIB)V"), (174, .methodref 10 398), (0, .nameAndType 217 69), (0, .methodref 1 220), (3, u "()[B"), (40, .class_ 445), (0, u "java/lang/Appendable"), (106, u "getValue")] 56

def k13m0 : Method := { name := "<init>", desc := "()V", sig := { parameters := [], returnType := none }, accessFlags := 0, code := none }
def k13c1 : Code := { maxStack := 2, maxLocals := 2, code := jdk_68_method_2_code, exceptionTable := #[], attributes := #[] }
def k13m1 : Method := { name := "<init>", desc := "(I)V", sig := { parameters := [.int], returnType := none }, accessFlags := 0, code := some k13c1 }
def k13c2 : Code := { maxStack := 1, maxLocals := 1, code := jdk_68_method_6_code, exceptionTable := #[], attributes := #[] }
def k13m2 : Method := { name := "length", desc := "()I", sig := { parameters := [], returnType := some .int }, accessFlags := 1, code := some k13c2 }
def k13c3 : Code := { maxStack := 4, maxLocals := 3, code := jdk_68_method_9_code, exceptionTable := #[], attributes := #[] }
def k13m3 : Method := { name := "ensureCapacityInternal", desc := "(I)V", sig := { parameters := [.int], returnType := none }, accessFlags := 2, code := some k13c3 }
def k13c4 : Code := { maxStack := 5, maxLocals := 6, code := jdk_68_method_10_code, exceptionTable := #[], attributes := #[] }
def k13m4 : Method := { name := "newCapacity", desc := "(I)I", sig := { parameters := [.int], returnType := some .int }, accessFlags := 2, code := some k13c4 }
def k13c5 : Code := { maxStack := 3, maxLocals := 3, code := jdk_68_method_22_code, exceptionTable := #[], attributes := #[] }
def k13m5 : Method := { name := "append", desc := "(Ljava/lang/String;)Ljava/lang/AbstractStringBuilder;", sig := { parameters := [(.object "java/lang/String")], returnType := some (.object "java/lang/AbstractStringBuilder") }, accessFlags := 1, code := some k13c5 }
def k13c6 : Code := { maxStack := 1, maxLocals := 1, code := jdk_68_method_64_code, exceptionTable := #[], attributes := #[] }
def k13m6 : Method := { name := "getValue", desc := "()[B", sig := { parameters := [], returnType := some (.array .byte) }, accessFlags := 16, code := some k13c6 }
def k13c7 : Code := { maxStack := 1, maxLocals := 1, code := jdk_68_method_68_code, exceptionTable := #[], attributes := #[] }
def k13m7 : Method := { name := "isLatin1", desc := "()Z", sig := { parameters := [], returnType := some .boolean }, accessFlags := 16, code := some k13c7 }
def k13c8 : Code := { maxStack := 2, maxLocals := 2, code := jdk_68_method_71_code, exceptionTable := #[], attributes := #[] }
def k13m8 : Method := { name := "inflateIfNeededFor", desc := "(Ljava/lang/String;)V", sig := { parameters := [(.object "java/lang/String")], returnType := none }, accessFlags := 2, code := some k13c8 }
def k13c9 : Code := { maxStack := 4, maxLocals := 3, code := jdk_68_method_73_code, exceptionTable := #[], attributes := #[] }
def k13m9 : Method := { name := "putStringAt", desc := "(ILjava/lang/String;)V", sig := { parameters := [.int, (.object "java/lang/String")], returnType := none }, accessFlags := 2, code := some k13c9 }
/-- java/lang/AbstractStringBuilder -/
def k13 : Class := { plain "java/lang/AbstractStringBuilder" (some 0) with
  accessFlags := 1056
  interfaces := #[12, 4]
  cf := some (fileOf pool13 10 #[] #[{ accessFlags := 0, nameIndex := 7, descriptorIndex := 8, attributes := #[] }, { accessFlags := 0, nameIndex := 7, descriptorIndex := 103, attributes := #[] }, { accessFlags := 1, nameIndex := 34, descriptorIndex := 35, attributes := #[] }, { accessFlags := 2, nameIndex := 102, descriptorIndex := 103, attributes := #[] }, { accessFlags := 2, nameIndex := 106, descriptorIndex := 107, attributes := #[] }, { accessFlags := 1, nameIndex := 45, descriptorIndex := 46, attributes := #[] }, { accessFlags := 16, nameIndex := 552, descriptorIndex := 403, attributes := #[] }, { accessFlags := 16, nameIndex := 85, descriptorIndex := 86, attributes := #[] }, { accessFlags := 2, nameIndex := 217, descriptorIndex := 69, attributes := #[] }, { accessFlags := 2, nameIndex := 210, descriptorIndex := 211, attributes := #[] }] 1056 4 #[444, 48] #[{ accessFlags := 0, nameIndex := 17, descriptorIndex := 14, attributes := #[] }, { accessFlags := 0, nameIndex := 24, descriptorIndex := 25, attributes := #[] }, { accessFlags := 0, nameIndex := 75, descriptorIndex := 21, attributes := #[] }, { accessFlags := 0, nameIndex := 81, descriptorIndex := 82, attributes := #[] }, { accessFlags := 26, nameIndex := 13, descriptorIndex := 14, attributes := #[] }])
  fields := #[{ name := "value", type := (.array .byte), accessFlags := 0, slot := 0, constantValue := 0 }, { name := "coder", type := .byte, accessFlags := 0, slot := 1, constantValue := 0 }, { name := "maybeLatin1", type := .boolean, accessFlags := 0, slot := 2, constantValue := 0 }, { name := "count", type := .int, accessFlags := 0, slot := 3, constantValue := 0 }, { name := "EMPTYVALUE", type := (.array .byte), accessFlags := 26, slot := 0, constantValue := 0 }]
  methods := #[k13m0, k13m1, k13m2, k13m3, k13m4, k13m5, k13m6, k13m7, k13m8, k13m9]
  instanceTypes := #[(.array .byte), .byte, .boolean, .int]
  staticTypes := #[(.array .byte)]
  resolved := Array.replicate 609 none
  statics := none }

def pool14 : Array CpInfo := pool [(1, .methodref 2 3), (0, .class_ 4), (0, .nameAndType 5 6), (0, u "java/lang/AbstractStringBuilder"), (0, u "<init>"), (0, u "(I)V"), (11, .class_ 20), (1, u "java/lang/String"), (3, .class_ 26), (1, u "java/lang/StringBuilder"), (0, u "append"), (0, u "(Ljava/lang/String;)Ljava/lang/StringBuilder;"), (0, .methodref 2 30), (0, .nameAndType 27 31), (0, u "(Ljava/lang/String;)Ljava/lang/AbstractStringBuilder;"), (105, .methodref 18 138), (0, .nameAndType 5 139), (0, u "(Ljava/lang/StringBuilder;)V"), (5, u "()V"), (10, u "()I"), (186, .methodref 2 344), (0, .nameAndType 345 156), (0, u "length"), (3, .class_ 350), (0, u "java/lang/Appendable"), (0, .class_ 352), (0, u "java/io/Serializable"), (0, .class_ 354), (0, u "java/lang/Comparable"), (0, .class_ 356), (0, u "java/lang/CharSequence"), (0, u "serialVersionUID"), (0, u "J"), (40, u "toString"), (0, u "()Ljava/lang/String;")] 21

def k14c0 : Code := { maxStack := 2, maxLocals := 1, code := jdk_67_method_1_code, exceptionTable := #[], attributes := #[] }
def k14m0 : Method := { name := "<init>", desc := "()V", sig := { parameters := [], returnType := none }, accessFlags := 1, code := some k14c0 }
def k14c1 : Code := { maxStack := 2, maxLocals := 2, code := jdk_67_method_7_code, exceptionTable := #[], attributes := #[] }
def k14m1 : Method := { name := "append", desc := "(Ljava/lang/String;)Ljava/lang/StringBuilder;", sig := { parameters := [(.object "java/lang/String")], returnType := some (.object "java/lang/StringBuilder") }, accessFlags := 1, code := some k14c1 }
def k14c2 : Code := { maxStack := 3, maxLocals := 1, code := jdk_67_method_42_code, exceptionTable := #[], attributes := #[] }
def k14m2 : Method := { name := "toString", desc := "()Ljava/lang/String;", sig := { parameters := [], returnType := some (.object "java/lang/String") }, accessFlags := 1, code := some k14c2 }
def k14c3 : Code := { maxStack := 1, maxLocals := 1, code := jdk_67_method_93_code, exceptionTable := #[], attributes := #[] }
def k14m3 : Method := { name := "length", desc := "()I", sig := { parameters := [], returnType := some .int }, accessFlags := 4161, code := some k14c3 }
/-- java/lang/StringBuilder -/
def k14 : Class := { plain "java/lang/StringBuilder" (some 13) with
  accessFlags := 49
  interfaces := #[12, 2, 3, 4]
  cf := some (fileOf pool14 24 #[] #[{ accessFlags := 1, nameIndex := 5, descriptorIndex := 145, attributes := #[] }, { accessFlags := 1, nameIndex := 27, descriptorIndex := 28, attributes := #[] }, { accessFlags := 1, nameIndex := 399, descriptorIndex := 400, attributes := #[] }, { accessFlags := 4161, nameIndex := 345, descriptorIndex := 156, attributes := #[] }] 49 2 #[349, 351, 353, 355] #[{ accessFlags := 24, nameIndex := 357, descriptorIndex := 358, attributes := #[] }])
  fields := #[{ name := "serialVersionUID", type := .long, accessFlags := 24, slot := 0, constantValue := 0 }]
  methods := #[k14m0, k14m1, k14m2, k14m3]
  instanceTypes := #[(.array .byte), .byte, .boolean, .int]
  staticTypes := #[.long]
  resolved := Array.replicate 422 none
  statics := none }

def pool15 : Array CpInfo := pool [(2, .class_ 4), (1, u "java/lang/Object"), (0, u "<init>"), (0, u "()V"), (1, .class_ 10), (1, u "java/lang/System"), (0, u "allowSecurityManager"), (0, u "I"), (16, u "cons"), (0, u "Ljava/io/Console;"), (77, .class_ 110), (1, u "java/lang/System$CallersHolder"), (43, u "initialErrStream"), (0, u "Ljava/io/PrintStream;"), (19, u "security"), (0, u "Ljava/lang/SecurityManager;"), (31, .class_ 209), (0, u "java/lang/System$1"), (7, u "props"), (0, u "Ljava/util/Properties;"), (2, u "lineSeparator"), (0, u "Ljava/lang/String;"), (96, .class_ 321), (1, u "java/lang/System$LoggerFinder"), (5, .class_ 328), (0, u "java/lang/System$Logger"), (67, u "err"), (2, u "out"), (91, u "notSupportedJnuEncoding"), (15, u "in"), (17, u "initialIn"), (0, u "Ljava/io/InputStream;"), (35, u "bootLayer"), (0, u "Ljava/lang/ModuleLayer;"), (99, .class_ 664), (0, u "java/lang/System$2"), (9, u "NEVER"), (2, u "MAYBE"), (49, u "arraycopy"), (0, u "(Ljava/lang/Object;ILjava/lang/Object;II)V"), (72, .class_ 802), (0, u "java/lang/System$Logger$Level")] 31

def k15m0 : Method := { name := "<init>", desc := "()V", sig := { parameters := [], returnType := none }, accessFlags := 2, code := none }
def k15m1 : Method := { name := "arraycopy", desc := "(Ljava/lang/Object;ILjava/lang/Object;II)V", sig := { parameters := [(.object "java/lang/Object"), .int, (.object "java/lang/Object"), .int, .int], returnType := none }, accessFlags := 265, code := none }
/-- java/lang/System -/
def k15 : Class := { plain "java/lang/System" (some 0) with
  accessFlags := 49
  interfaces := #[]
  cf := some (fileOf pool15 8 #[.nestMembers #[319, 327, 801, 108, 663, 208]] #[{ accessFlags := 2, nameIndex := 5, descriptorIndex := 6, attributes := #[] }, { accessFlags := 265, nameIndex := 727, descriptorIndex := 728, attributes := #[] }] 49 2 #[] #[{ accessFlags := 25, nameIndex := 507, descriptorIndex := 526, attributes := #[] }, { accessFlags := 25, nameIndex := 399, descriptorIndex := 155, attributes := #[] }, { accessFlags := 25, nameIndex := 396, descriptorIndex := 155, attributes := #[] }, { accessFlags := 10, nameIndex := 525, descriptorIndex := 526, attributes := #[] }, { accessFlags := 26, nameIndex := 674, descriptorIndex := 12, attributes := #[] }, { accessFlags := 26, nameIndex := 677, descriptorIndex := 12, attributes := #[] }, { accessFlags := 10, nameIndex := 11, descriptorIndex := 12, attributes := #[] }, { accessFlags := 74, nameIndex := 175, descriptorIndex := 176, attributes := #[] }, { accessFlags := 10, nameIndex := 491, descriptorIndex := 222, attributes := #[] }, { accessFlags := 74, nameIndex := 29, descriptorIndex := 30, attributes := #[] }, { accessFlags := 74, nameIndex := 154, descriptorIndex := 155, attributes := #[] }, { accessFlags := 10, nameIndex := 217, descriptorIndex := 218, attributes := #[] }, { accessFlags := 10, nameIndex := 221, descriptorIndex := 222, attributes := #[] }, { accessFlags := 8, nameIndex := 562, descriptorIndex := 563, attributes := #[] }])
  fields := #[{ name := "in", type := (.object "java/io/InputStream"), accessFlags := 25, slot := 0, constantValue := 0 }, { name := "out", type := (.object "java/io/PrintStream"), accessFlags := 25, slot := 1, constantValue := 0 }, { name := "err", type := (.object "java/io/PrintStream"), accessFlags := 25, slot := 2, constantValue := 0 }, { name := "initialIn", type := (.object "java/io/InputStream"), accessFlags := 10, slot := 3, constantValue := 0 }, { name := "NEVER", type := .int, accessFlags := 26, slot := 4, constantValue := 0 }, { name := "MAYBE", type := .int, accessFlags := 26, slot := 5, constantValue := 0 }, { name := "allowSecurityManager", type := .int, accessFlags := 10, slot := 6, constantValue := 0 }, { name := "security", type := (.object "java/lang/SecurityManager"), accessFlags := 74, slot := 7, constantValue := 0 }, { name := "notSupportedJnuEncoding", type := (.object "java/lang/String"), accessFlags := 10, slot := 8, constantValue := 0 }, { name := "cons", type := (.object "java/io/Console"), accessFlags := 74, slot := 9, constantValue := 0 }, { name := "initialErrStream", type := (.object "java/io/PrintStream"), accessFlags := 74, slot := 10, constantValue := 0 }, { name := "props", type := (.object "java/util/Properties"), accessFlags := 10, slot := 11, constantValue := 0 }, { name := "lineSeparator", type := (.object "java/lang/String"), accessFlags := 10, slot := 12, constantValue := 0 }, { name := "bootLayer", type := (.object "java/lang/ModuleLayer"), accessFlags := 8, slot := 13, constantValue := 0 }]
  methods := #[k15m0, k15m1]
  instanceTypes := #[]
  staticTypes := #[(.object "java/io/InputStream"), (.object "java/io/PrintStream"), (.object "java/io/PrintStream"), (.object "java/io/InputStream"), .int, .int, .int, (.object "java/lang/SecurityManager"), (.object "java/lang/String"), (.object "java/io/Console"), (.object "java/io/PrintStream"), (.object "java/util/Properties"), (.object "java/lang/String"), (.object "java/lang/ModuleLayer")]
  resolved := Array.replicate 834 none
  statics := none }

def pool16 : Array CpInfo := pool [(2, .class_ 4), (1, u "java/lang/Object"), (0, u "<init>"), (0, u "()V"), (7, .class_ 16), (1, u "java/util/Arrays"), (57, .class_ 76), (1, u "java/util/Arrays$NaturalOrder"), (32, u "()Ljava/lang/Object;"), (3, .class_ 115), (1, u "java/util/Arrays$LegacyMergeSort"), (1, u "Z"), (10, .nameAndType 129 109), (0, u "clone"), (9, u "copyOfRange"), (10, .methodref 151 152), (0, .class_ 153), (0, .nameAndType 154 155), (0, u "java/lang/System"), (0, u "arraycopy"), (0, u "(Ljava/lang/Object;ILjava/lang/Object;II)V"), (146, u "copyOf"), (1, .methodref 305 306), (0, .class_ 307), (0, .nameAndType 308 309), (0, u "java/lang/Math"), (0, u "min"), (0, u "(II)I"), (0, .methodref 311 128), (0, .class_ 312), (0, u "[B"), (26, .methodref 14 340), (0, .nameAndType 341 342), (0, u "copyOfRangeByte"), (0, u "([BII)[B"), (0, .methodref 14 344), (0, .nameAndType 345 346), (0, u "checkLength"), (0, u "(II)V"), (28, .class_ 376), (0, u "java/util/Arrays$ArrayList"), (68, u "$assertionsDisabled"), (269, u "MIN_ARRAY_SORT_GRAN"), (0, u "I"), (2, u "INSERTIONSORT_THRESHOLD"), (149, u "([BI)[B"), (105, .class_ 976), (0, u "java/util/Arrays$ArrayItr")] 52

def k16m0 : Method := { name := "<init>", desc := "()V", sig := { parameters := [], returnType := none }, accessFlags := 2, code := none }
def k16c1 : Code := { maxStack := 6, maxLocals := 3, code := jdk_65_method_121_code, exceptionTable := #[], attributes := #[] }
def k16m1 : Method := { name := "copyOf", desc := "([BI)[B", sig := { parameters := [(.array .byte), .int], returnType := some (.array .byte) }, accessFlags := 9, code := some k16c1 }
def k16c2 : Code := { maxStack := 4, maxLocals := 2, code := jdk_65_method_131_code, exceptionTable := #[], attributes := #[] }
def k16m2 : Method := { name := "checkLength", desc := "(II)V", sig := { parameters := [.int, .int], returnType := none }, accessFlags := 10, code := some k16c2 }
def k16c3 : Code := { maxStack := 3, maxLocals := 3, code := jdk_65_method_132_code, exceptionTable := #[], attributes := #[] }
def k16m3 : Method := { name := "copyOfRange", desc := "([BII)[B", sig := { parameters := [(.array .byte), .int, .int], returnType := some (.array .byte) }, accessFlags := 9, code := some k16c3 }
def k16c4 : Code := { maxStack := 6, maxLocals := 5, code := jdk_65_method_133_code, exceptionTable := #[], attributes := #[] }
def k16m4 : Method := { name := "copyOfRangeByte", desc := "([BII)[B", sig := { parameters := [(.array .byte), .int, .int], returnType := some (.array .byte) }, accessFlags := 10, code := some k16c4 }
/-- java/util/Arrays -/
def k16 : Class := { plain "java/util/Arrays" (some 0) with
  accessFlags := 49
  interfaces := #[]
  cf := some (fileOf pool16 14 #[.nestMembers #[975, 375, 113, 74]] #[{ accessFlags := 2, nameIndex := 5, descriptorIndex := 6, attributes := #[] }, { accessFlags := 9, nameIndex := 302, descriptorIndex := 869, attributes := #[] }, { accessFlags := 10, nameIndex := 345, descriptorIndex := 346, attributes := #[] }, { accessFlags := 9, nameIndex := 139, descriptorIndex := 342, attributes := #[] }, { accessFlags := 10, nameIndex := 341, descriptorIndex := 342, attributes := #[] }] 49 2 #[] #[{ accessFlags := 26, nameIndex := 715, descriptorIndex := 716, attributes := #[] }, { accessFlags := 26, nameIndex := 719, descriptorIndex := 716, attributes := #[] }, { accessFlags := 4120, nameIndex := 445, descriptorIndex := 117, attributes := #[] }])
  fields := #[{ name := "MIN_ARRAY_SORT_GRAN", type := .int, accessFlags := 26, slot := 0, constantValue := 0 }, { name := "INSERTIONSORT_THRESHOLD", type := .int, accessFlags := 26, slot := 1, constantValue := 0 }, { name := "$assertionsDisabled", type := .boolean, accessFlags := 4120, slot := 2, constantValue := 0 }]
  methods := #[k16m0, k16m1, k16m2, k16m3, k16m4]
  instanceTypes := #[]
  staticTypes := #[.int, .int, .boolean]
  resolved := Array.replicate 1029 none
  statics := none }

def pool17 : Array CpInfo := pool [(1, .class_ 2), (0, u "java/lang/Math"), (1, .class_ 6), (1, u "java/lang/Object"), (0, u "<init>"), (0, u "()V"), (89, .class_ 100), (1, u "java/lang/Math$RandomNumberGeneratorHolder"), (71, u "negativeZeroFloatBits"), (0, u "J"), (2, u "negativeZeroDoubleBits"), (21, u "max"), (2, u "min"), (43, u "$assertionsDisabled"), (0, u "Z"), (88, u "(II)I"), (2, u "twoToTheDoubleScaleDown"), (0, u "D"), (4, u "twoToTheDoubleScaleUp"), (9, u "E"), (3, u "PI"), (2, u "TAU"), (2, u "DEGREES_TO_RADIANS"), (0, u "RADIANS_TO_DEGREES")] 94

def k17m0 : Method := { name := "<init>", desc := "()V", sig := { parameters := [], returnType := none }, accessFlags := 2, code := none }
def k17c1 : Code := { maxStack := 2, maxLocals := 2, code := jdk_29_method_65_code, exceptionTable := #[], attributes := #[] }
def k17m1 : Method := { name := "max", desc := "(II)I", sig := { parameters := [.int, .int], returnType := some .int }, accessFlags := 9, code := some k17c1 }
def k17c2 : Code := { maxStack := 2, maxLocals := 2, code := jdk_29_method_69_code, exceptionTable := #[], attributes := #[] }
def k17m2 : Method := { name := "min", desc := "(II)I", sig := { parameters := [.int, .int], returnType := some .int }, accessFlags := 9, code := some k17c2 }
/-- java/lang/Math -/
def k17 : Class := { plain "java/lang/Math" (some 0) with
  accessFlags := 49
  interfaces := #[]
  cf := some (fileOf pool17 1 #[.nestMembers #[98]] #[{ accessFlags := 2, nameIndex := 7, descriptorIndex := 8, attributes := #[] }, { accessFlags := 9, nameIndex := 198, descriptorIndex := 335, attributes := #[] }, { accessFlags := 9, nameIndex := 201, descriptorIndex := 335, attributes := #[] }] 49 4 #[] #[{ accessFlags := 25, nameIndex := 354, descriptorIndex := 339, attributes := #[] }, { accessFlags := 25, nameIndex := 358, descriptorIndex := 339, attributes := #[] }, { accessFlags := 25, nameIndex := 361, descriptorIndex := 339, attributes := #[] }, { accessFlags := 26, nameIndex := 364, descriptorIndex := 339, attributes := #[] }, { accessFlags := 26, nameIndex := 365, descriptorIndex := 339, attributes := #[] }, { accessFlags := 26, nameIndex := 172, descriptorIndex := 173, attributes := #[] }, { accessFlags := 26, nameIndex := 176, descriptorIndex := 173, attributes := #[] }, { accessFlags := 8, nameIndex := 344, descriptorIndex := 339, attributes := #[] }, { accessFlags := 8, nameIndex := 338, descriptorIndex := 339, attributes := #[] }, { accessFlags := 4120, nameIndex := 245, descriptorIndex := 246, attributes := #[] }])
  fields := #[{ name := "E", type := .double, accessFlags := 25, slot := 0, constantValue := 0 }, { name := "PI", type := .double, accessFlags := 25, slot := 1, constantValue := 0 }, { name := "TAU", type := .double, accessFlags := 25, slot := 2, constantValue := 0 }, { name := "DEGREES_TO_RADIANS", type := .double, accessFlags := 26, slot := 3, constantValue := 0 }, { name := "RADIANS_TO_DEGREES", type := .double, accessFlags := 26, slot := 4, constantValue := 0 }, { name := "negativeZeroFloatBits", type := .long, accessFlags := 26, slot := 5, constantValue := 0 }, { name := "negativeZeroDoubleBits", type := .long, accessFlags := 26, slot := 6, constantValue := 0 }, { name := "twoToTheDoubleScaleUp", type := .double, accessFlags := 8, slot := 7, constantValue := 0 }, { name := "twoToTheDoubleScaleDown", type := .double, accessFlags := 8, slot := 8, constantValue := 0 }, { name := "$assertionsDisabled", type := .boolean, accessFlags := 4120, slot := 9, constantValue := 0 }]
  methods := #[k17m0, k17m1, k17m2]
  instanceTypes := #[]
  staticTypes := #[.double, .double, .double, .double, .double, .long, .long, .double, .double, .boolean]
  resolved := Array.replicate 460 none
  statics := none }

def pool18 : Array CpInfo := pool [(2, .class_ 4), (1, u "java/lang/Object"), (0, u "<init>"), (0, u "()V"), (17, .class_ 26), (1, u "jdk/internal/util/Preconditions"), (6, u "checkIndex"), (21, .class_ 56), (0, u "jdk/internal/util/Preconditions$4"), (57, .class_ 115), (0, u "jdk/internal/util/Preconditions$1"), (7, u "SIOOBE_FORMATTER"), (0, u "Ljava/util/function/BiFunction;"), (0, .class_ 126), (0, u "jdk/internal/util/Preconditions$2"), (3, u "AIOOBE_FORMATTER"), (0, .class_ 132), (0, u "jdk/internal/util/Preconditions$3"), (3, u "IOOBE_FORMATTER"), (41, u "(IILjava/util/function/BiFunction;)I")] 15

def k18m0 : Method := { name := "<init>", desc := "()V", sig := { parameters := [], returnType := none }, accessFlags := 1, code := none }
def k18c1 : Code := { maxStack := 3, maxLocals := 3, code := jdk_41_method_11_code, exceptionTable := #[], attributes := #[] }
def k18m1 : Method := { name := "checkIndex", desc := "(IILjava/util/function/BiFunction;)I", sig := { parameters := [.int, .int, (.object "java/util/function/BiFunction")], returnType := some .int }, accessFlags := 9, code := some k18c1 }
/-- jdk/internal/util/Preconditions -/
def k18 : Class := { plain "jdk/internal/util/Preconditions" (some 0) with
  accessFlags := 33
  interfaces := #[]
  cf := some (fileOf pool18 24 #[.nestMembers #[55, 131, 125, 114]] #[{ accessFlags := 1, nameIndex := 5, descriptorIndex := 6, attributes := #[] }, { accessFlags := 9, nameIndex := 33, descriptorIndex := 178, attributes := #[] }] 33 2 #[] #[{ accessFlags := 25, nameIndex := 123, descriptorIndex := 124, attributes := #[] }, { accessFlags := 25, nameIndex := 130, descriptorIndex := 124, attributes := #[] }, { accessFlags := 25, nameIndex := 136, descriptorIndex := 124, attributes := #[] }])
  fields := #[{ name := "SIOOBE_FORMATTER", type := (.object "java/util/function/BiFunction"), accessFlags := 25, slot := 0, constantValue := 0 }, { name := "AIOOBE_FORMATTER", type := (.object "java/util/function/BiFunction"), accessFlags := 25, slot := 1, constantValue := 0 }, { name := "IOOBE_FORMATTER", type := (.object "java/util/function/BiFunction"), accessFlags := 25, slot := 2, constantValue := 0 }]
  methods := #[k18m0, k18m1]
  instanceTypes := #[]
  staticTypes := #[(.object "java/util/function/BiFunction"), (.object "java/util/function/BiFunction"), (.object "java/util/function/BiFunction")]
  resolved := Array.replicate 194 none
  statics := some 1 }

def pool19 : Array CpInfo := pool [(6, .class_ 8), (1, u "java/lang/Object"), (0, u "<init>"), (0, u "()V"), (1, .class_ 14), (1, u "java/lang/StringUTF16"), (31, u "$assertionsDisabled"), (0, u "Z"), (13, u "HI_BYTE_SHIFT"), (0, u "I"), (2, u "LO_BYTE_SHIFT"), (49, .methodref 12 116), (0, .nameAndType 117 118), (0, u "compress"), (0, u "([CI[BII)I"), (3, u "([CII)[B"), (138, u "coderFromArrayLen"), (0, u "([BI)B"), (106, .class_ 371), (1, u "java/lang/StringUTF16$LinesSpliterator"), (58, u "MAX_LENGTH"), (196, .class_ 628), (0, u "java/lang/StringUTF16$CodePointsSpliterator"), (0, .class_ 630), (0, u "java/lang/StringUTF16$CharsSpliterator")] 4

def k19m0 : Method := { name := "<init>", desc := "()V", sig := { parameters := [], returnType := none }, accessFlags := 0, code := none }
def k19c1 : Code := { maxStack := 2, maxLocals := 2, code := jdk_52_method_15_code, exceptionTable := #[], attributes := #[] }
def k19m1 : Method := { name := "coderFromArrayLen", desc := "([BI)B", sig := { parameters := [(.array .byte), .int], returnType := some .byte }, accessFlags := 8, code := some k19c1 }
def k19c2 : Code := { maxStack := 5, maxLocals := 6, code := jdk_52_method_16_code, exceptionTable := #[], attributes := #[] }
def k19m2 : Method := { name := "compress", desc := "([CII)[B", sig := { parameters := [(.array .char), .int, .int], returnType := some (.array .byte) }, accessFlags := 9, code := some k19c2 }
def k19c3 : Code := { maxStack := 3, maxLocals := 7, code := jdk_52_method_21_code, exceptionTable := #[], attributes := #[] }
def k19m3 : Method := { name := "compress", desc := "([CI[BII)I", sig := { parameters := [(.array .char), .int, (.array .byte), .int, .int], returnType := some .int }, accessFlags := 9, code := some k19c3 }
/-- java/lang/StringUTF16 -/
def k19 : Class := { plain "java/lang/StringUTF16" (some 0) with
  accessFlags := 48
  interfaces := #[]
  cf := some (fileOf pool19 12 #[.nestMembers #[627, 629, 369]] #[{ accessFlags := 0, nameIndex := 9, descriptorIndex := 10, attributes := #[] }, { accessFlags := 8, nameIndex := 261, descriptorIndex := 262, attributes := #[] }, { accessFlags := 9, nameIndex := 117, descriptorIndex := 122, attributes := #[] }, { accessFlags := 9, nameIndex := 117, descriptorIndex := 118, attributes := #[] }] 48 6 #[] #[{ accessFlags := 26, nameIndex := 61, descriptorIndex := 62, attributes := #[] }, { accessFlags := 26, nameIndex := 65, descriptorIndex := 62, attributes := #[] }, { accessFlags := 24, nameIndex := 430, descriptorIndex := 62, attributes := #[] }, { accessFlags := 4120, nameIndex := 46, descriptorIndex := 47, attributes := #[] }])
  fields := #[{ name := "HI_BYTE_SHIFT", type := .int, accessFlags := 26, slot := 0, constantValue := 0 }, { name := "LO_BYTE_SHIFT", type := .int, accessFlags := 26, slot := 1, constantValue := 0 }, { name := "MAX_LENGTH", type := .int, accessFlags := 24, slot := 2, constantValue := 0 }, { name := "$assertionsDisabled", type := .boolean, accessFlags := 4120, slot := 3, constantValue := 0 }]
  methods := #[k19m0, k19m1, k19m2, k19m3]
  instanceTypes := #[]
  staticTypes := #[.int, .int, .int, .boolean]
  resolved := Array.replicate 635 none
  statics := none }

def pool20 : Array CpInfo := pool [(1, .class_ 2), (0, u "java/lang/Cloneable"), (0, .class_ 4), (0, u "java/lang/Object")] 2

/-- java/lang/Cloneable -/
def k20 : Class := { plain "java/lang/Cloneable" (some 0) with
  accessFlags := 1537
  interfaces := #[]
  cf := some (fileOf pool20 1 #[] #[] 1537 3 #[] #[])
  fields := #[]
  methods := #[]
  instanceTypes := #[]
  staticTypes := #[]
  resolved := Array.replicate 7 none
  statics := none }

def pool21 : Array CpInfo := pool [(9, u "<init>"), (6, .class_ 18), (1, u "java/lang/Object"), (0, u "()V"), (1, .class_ 23), (1, u "jdk/internal/util/ArraysSupport"), (0, u "LOG2_ARRAY_LONG_INDEX_SCALE"), (0, u "I"), (2, u "U"), (0, u "Ljdk/internal/misc/Unsafe;"), (8, u "BIG_ENDIAN"), (0, u "Z"), (8, u "LOG2_BYTE_BIT_SIZE"), (4, u "LOG2_ARRAY_INT_INDEX_SCALE"), (54, u "JLA"), (0, u "Ljdk/internal/access/JavaLangAccess;"), (11, u "LOG2_ARRAY_BOOLEAN_INDEX_SCALE"), (9, u "LOG2_ARRAY_BYTE_INDEX_SCALE"), (5, u "LOG2_ARRAY_CHAR_INDEX_SCALE"), (5, u "LOG2_ARRAY_SHORT_INDEX_SCALE"), (18, u "LOG2_ARRAY_FLOAT_INDEX_SCALE"), (24, u "LOG2_ARRAY_DOUBLE_INDEX_SCALE"), (6, .methodref 195 196), (0, .class_ 197), (0, .nameAndType 198 199), (0, u "java/lang/Math"), (0, u "max"), (0, u "(II)I"), (0, .integer 2147483639), (76, u "T_BOOLEAN"), (2, u "T_CHAR"), (1, u "T_FLOAT"), (1, u "T_DOUBLE"), (1, u "T_BYTE"), (1, u "T_SHORT"), (1, u "T_INT"), (1, u "T_LONG"), (1, u "SOFT_MAX_ARRAY_LENGTH"), (56, u "newLength"), (0, u "(III)I")] 25

def k21m0 : Method := { name := "<init>", desc := "()V", sig := { parameters := [], returnType := none }, accessFlags := 2, code := none }
def k21c1 : Code := { maxStack := 3, maxLocals := 4, code := jdk_48_method_27_code, exceptionTable := #[], attributes := #[] }
def k21m1 : Method := { name := "newLength", desc := "(III)I", sig := { parameters := [.int, .int, .int], returnType := some .int }, accessFlags := 9, code := some k21c1 }
/-- jdk/internal/util/ArraysSupport -/
def k21 : Class := { plain "jdk/internal/util/ArraysSupport" (some 0) with
  accessFlags := 33
  interfaces := #[]
  cf := some (fileOf pool21 21 #[] #[{ accessFlags := 2, nameIndex := 9, descriptorIndex := 19, attributes := #[] }, { accessFlags := 9, nameIndex := 351, descriptorIndex := 352, attributes := #[] }] 33 16 #[] #[{ accessFlags := 24, nameIndex := 28, descriptorIndex := 29, attributes := #[] }, { accessFlags := 26, nameIndex := 38, descriptorIndex := 39, attributes := #[] }, { accessFlags := 25, nameIndex := 121, descriptorIndex := 25, attributes := #[] }, { accessFlags := 25, nameIndex := 131, descriptorIndex := 25, attributes := #[] }, { accessFlags := 25, nameIndex := 137, descriptorIndex := 25, attributes := #[] }, { accessFlags := 25, nameIndex := 143, descriptorIndex := 25, attributes := #[] }, { accessFlags := 25, nameIndex := 53, descriptorIndex := 25, attributes := #[] }, { accessFlags := 25, nameIndex := 24, descriptorIndex := 25, attributes := #[] }, { accessFlags := 25, nameIndex := 162, descriptorIndex := 25, attributes := #[] }, { accessFlags := 25, nameIndex := 187, descriptorIndex := 25, attributes := #[] }, { accessFlags := 26, nameIndex := 48, descriptorIndex := 25, attributes := #[] }, { accessFlags := 25, nameIndex := 277, descriptorIndex := 25, attributes := #[] }, { accessFlags := 25, nameIndex := 280, descriptorIndex := 25, attributes := #[] }, { accessFlags := 25, nameIndex := 282, descriptorIndex := 25, attributes := #[] }, { accessFlags := 25, nameIndex := 284, descriptorIndex := 25, attributes := #[] }, { accessFlags := 25, nameIndex := 286, descriptorIndex := 25, attributes := #[] }, { accessFlags := 25, nameIndex := 288, descriptorIndex := 25, attributes := #[] }, { accessFlags := 25, nameIndex := 290, descriptorIndex := 25, attributes := #[] }, { accessFlags := 25, nameIndex := 292, descriptorIndex := 25, attributes := #[] }, { accessFlags := 26, nameIndex := 108, descriptorIndex := 109, attributes := #[] }, { accessFlags := 25, nameIndex := 294, descriptorIndex := 25, attributes := #[] }])
  fields := #[{ name := "U", type := (.object "jdk/internal/misc/Unsafe"), accessFlags := 24, slot := 0, constantValue := 0 }, { name := "BIG_ENDIAN", type := .boolean, accessFlags := 26, slot := 1, constantValue := 0 }, { name := "LOG2_ARRAY_BOOLEAN_INDEX_SCALE", type := .int, accessFlags := 25, slot := 2, constantValue := 0 }, { name := "LOG2_ARRAY_BYTE_INDEX_SCALE", type := .int, accessFlags := 25, slot := 3, constantValue := 0 }, { name := "LOG2_ARRAY_CHAR_INDEX_SCALE", type := .int, accessFlags := 25, slot := 4, constantValue := 0 }, { name := "LOG2_ARRAY_SHORT_INDEX_SCALE", type := .int, accessFlags := 25, slot := 5, constantValue := 0 }, { name := "LOG2_ARRAY_INT_INDEX_SCALE", type := .int, accessFlags := 25, slot := 6, constantValue := 0 }, { name := "LOG2_ARRAY_LONG_INDEX_SCALE", type := .int, accessFlags := 25, slot := 7, constantValue := 0 }, { name := "LOG2_ARRAY_FLOAT_INDEX_SCALE", type := .int, accessFlags := 25, slot := 8, constantValue := 0 }, { name := "LOG2_ARRAY_DOUBLE_INDEX_SCALE", type := .int, accessFlags := 25, slot := 9, constantValue := 0 }, { name := "LOG2_BYTE_BIT_SIZE", type := .int, accessFlags := 26, slot := 10, constantValue := 0 }, { name := "T_BOOLEAN", type := .int, accessFlags := 25, slot := 11, constantValue := 0 }, { name := "T_CHAR", type := .int, accessFlags := 25, slot := 12, constantValue := 0 }, { name := "T_FLOAT", type := .int, accessFlags := 25, slot := 13, constantValue := 0 }, { name := "T_DOUBLE", type := .int, accessFlags := 25, slot := 14, constantValue := 0 }, { name := "T_BYTE", type := .int, accessFlags := 25, slot := 15, constantValue := 0 }, { name := "T_SHORT", type := .int, accessFlags := 25, slot := 16, constantValue := 0 }, { name := "T_INT", type := .int, accessFlags := 25, slot := 17, constantValue := 0 }, { name := "T_LONG", type := .int, accessFlags := 25, slot := 18, constantValue := 0 }, { name := "JLA", type := (.object "jdk/internal/access/JavaLangAccess"), accessFlags := 26, slot := 19, constantValue := 0 }, { name := "SOFT_MAX_ARRAY_LENGTH", type := .int, accessFlags := 25, slot := 20, constantValue := 0 }]
  methods := #[k21m0, k21m1]
  instanceTypes := #[]
  staticTypes := #[(.object "jdk/internal/misc/Unsafe"), .boolean, .int, .int, .int, .int, .int, .int, .int, .int, .int, .int, .int, .int, .int, .int, .int, .int, .int, (.object "jdk/internal/access/JavaLangAccess"), .int]
  resolved := Array.replicate 378 none
  statics := none }

/-- the primitive byte -/
def k22 : Class := { plain "byte" none with kind := .primitive 'B', accessFlags := 0x411 }
/-- [B -/
def k23 : Class := { plain "[B" (some 0) with kind := .array 22 .byte, interfaces := #[20, 2], accessFlags := 1041 }

/-- the primitive char -/
def k24 : Class := { plain "char" none with kind := .primitive 'C', accessFlags := 0x411 }
/-- [C -/
def k25 : Class := { plain "[C" (some 0) with kind := .array 24 .char, interfaces := #[20, 2], accessFlags := 1041 }

/-- the primitive int -/
def k26 : Class := { plain "int" none with kind := .primitive 'I', accessFlags := 0x411 }
/-- [I -/
def k27 : Class := { plain "[I" (some 0) with kind := .array 26 .int, interfaces := #[20, 2], accessFlags := 1041 }

def heap : Heap := #[{ cls := 7, slots := #[.long 0, .int 1, .null, .int 0, .null, .int 0, .int 0], vm := .statics 7 },
  { cls := 18, slots := #[.null, .null, .null], vm := .statics 18 }]
def classes : Array Class := #[k0, k1, k2, k3, k4, k5, k6, k7, k8, k9, k10, k11, k12, k13, k14, k15, k16, k17, k18, k19, k20, k21, k22, k23, k24, k25, k26, k27]
def interned : List (Array UInt16 × Addr) := []
def slotsUsed : Nat := 10
def theMethod : MethodId := ⟨1, 1⟩
def args0 : Array Value := #[.int 5, .int 3, .int 5, .int 1]
def aboutOver (below : List Frame) : State where
  vm := { classes := classes, interned := interned.toArray }
  heap := heap
  slotsUsed := slotsUsed
  threads := #[{ frames := .invoking theMethod args0 :: below }]
def below0 : List Frame := [.native { method := ⟨0, 0⟩, args := #[] }]
def about1 : State := aboutOver below0
def p0 : Program := .bare "" "" ""
def e0 : Env := launch0.env 0 0 0
theorem w_frames : about1.frames = Frame.invoking theMethod args0 :: below0 := rfl
set_option maxRecDepth 65536 in
theorem w_args : argsFit about1.vm theMethod args0 = true := by decide +kernel
set_option maxRecDepth 65536 in
theorem w_heap : heapFits about1 = true := by decide +kernel
set_option maxRecDepth 65536 in
theorem w_runnable : about1.curStatus? = some .runnable := by decide +kernel
set_option maxRecDepth 65536 in
theorem w_alone : about1.alone = true := by decide +kernel
set_option maxRecDepth 65536 in
theorem w_named : about1.methodNamed? x = some theMethod := by decide +kernel
set_option maxRecDepth 65536 in
theorem w_hears : about1.hears theMethod below0 = true := by decide +kernel
set_option maxRecDepth 65536 in
theorem w_ripe : about1.ripe theMethod args0 below0 = true := by decide +kernel
theorem w_running : about1.status = .running := rfl
set_option maxRecDepth 65536 in
theorem w_room : about1.hasRoom e0.platform room_1 = true :=
  launch0.hasRoom_least _ room_1 (by decide +kernel) (by decide +kernel) (by decide +kernel) (by decide +kernel) (by decide +kernel) (by decide +kernel)
theorem allAtoms_all (ts : List Jvm.Cond) (a : Array Jvm.Value) (st : Jvm.State) : (allAtoms ts).before a st = ts.all (fun c => c.before a st) := by
  induction ts with
  | nil => rfl
  | cons c t ih =>
    show (Jvm.Cond.and c (allAtoms t)).before a st = _
    rw [Jvm.Cond.before_and, ih, List.all_cons]
def words1 : List Jvm.Cond := Jvm.Cond.code x code maxLocals ret :: tables_1
/-- a 'code' word, met by the world's own term for the bytes: nothing is compared byte by byte -/
theorem code_word {y : MethodName} {bytes : ByteArray} {mx : Nat} {rt : Option FieldType} {a : Array Value} {s : State} {m : MethodId} {meth : Method} {c : Code} (h1 : s.methodNamed? y = some m) (h2 : s.vm.method? m = some meth) (h3 : meth.code = some c) (h4 : c.code = bytes)
    (h5 : (c.maxLocals == mx && c.exceptionTable.isEmpty && decide (c.maxStack ≤ mostOperands) && decide (meth.sig.returnType = rt) && !meth.locks && decide (parseMethodDescriptor y.desc = some meth.sig)) = true) : (Jvm.Cond.code y bytes mx rt).before a s = true := by
  simp only [Bool.and_eq_true, beq_iff_eq, Bool.not_eq_true', decide_eq_true_eq] at h5
  obtain ⟨⟨⟨⟨⟨g1, g2⟩, g3⟩, g4⟩, g5⟩, g6⟩ := h5
  simp [Cond.before, Cond.holds, Cond.value, h1, h2, h3, h4, g1, g2, g3, g4, g5, g6]
def isCode : Jvm.Cond → Bool
  | .code _ _ _ _ => true
  | _ => false
theorem all_split {L : List Jvm.Cond} {P : Jvm.Cond → Bool} (h1 : L.all (fun c => isCode c || P c) = true) (h2 : ∀ c ∈ L.filter isCode, P c = true) : L.all P = true := by
  refine List.all_eq_true.mpr fun c hc => ?_
  have h := List.all_eq_true.mp h1 c hc
  rcases Bool.eq_false_or_eq_true (isCode c) with hi | hi
  · exact h2 c (List.mem_filter.mpr ⟨hc, hi⟩)
  · simpa [hi] using h
set_option maxRecDepth 65536 in
theorem w_c0 : (Jvm.Cond.code x code maxLocals ret).before args0 about1 = true := code_word (m := ⟨1, 1⟩) (meth := k1m1) (c := k1c1) (by decide +kernel) rfl rfl rfl (by decide +kernel)
set_option maxRecDepth 65536 in
theorem w_c1 : (Jvm.Cond.code ({ cls := "com/example/typeloom/typeloom/ttcn/ConstantDefinitionTextPinLaw", name := "mk", desc := "(ICC)Ljava/lang/String;" } : Jvm.MethodName) method_3_code (3 : Nat) (Option.some (Jvm.ClassFile.FieldType.object "java/lang/String"))).before args0 about1 = true := code_word (m := ⟨1, 2⟩) (meth := k1m2) (c := k1c2) (by decide +kernel) rfl rfl rfl (by decide +kernel)
set_option maxRecDepth 65536 in
theorem w_c2 : (Jvm.Cond.code ({ cls := "java/lang/String", name := "valueOf", desc := "(C)Ljava/lang/String;" } : Jvm.MethodName) jdk_42_method_139_code (1 : Nat) (Option.some (Jvm.ClassFile.FieldType.object "java/lang/String"))).before args0 about1 = true := code_word (m := ⟨7, 6⟩) (meth := k7m6) (c := k7c6) (by decide +kernel) rfl rfl rfl (by decide +kernel)
set_option maxRecDepth 65536 in
theorem w_c3 : (Jvm.Cond.code ({ cls := "java/lang/StringLatin1", name := "canEncode", desc := "(C)Z" } : Jvm.MethodName) jdk_43_method_3_code (1 : Nat) (Option.some Jvm.ClassFile.FieldType.boolean)).before args0 about1 = true := code_word (m := ⟨8, 2⟩) (meth := k8m2) (c := k8c2) (by decide +kernel) rfl rfl rfl (by decide +kernel)
set_option maxRecDepth 65536 in
theorem w_c4 : (Jvm.Cond.code ({ cls := "java/lang/StringLatin1", name := "toBytes", desc := "(C)[B" } : Jvm.MethodName) jdk_43_method_46_code (1 : Nat) (Option.some (Jvm.ClassFile.FieldType.array Jvm.ClassFile.FieldType.byte))).before args0 about1 = true := code_word (m := ⟨8, 3⟩) (meth := k8m3) (c := k8c3) (by decide +kernel) rfl rfl rfl (by decide +kernel)
set_option maxRecDepth 65536 in
theorem w_c5 : (Jvm.Cond.code ({ cls := "java/lang/String", name := "<init>", desc := "([BB)V" } : Jvm.MethodName) jdk_42_method_151_code (3 : Nat) (Option.none : Option Jvm.ClassFile.FieldType)).before args0 about1 = true := code_word (m := ⟨7, 10⟩) (meth := k7m10) (c := k7c10) (by decide +kernel) rfl rfl rfl (by decide +kernel)
set_option maxRecDepth 65536 in
theorem w_c6 : (Jvm.Cond.code ({ cls := "java/lang/Object", name := "<init>", desc := "()V" } : Jvm.MethodName) object_method_1_code (1 : Nat) (Option.none : Option Jvm.ClassFile.FieldType)).before args0 about1 = true := code_word (m := ⟨0, 0⟩) (meth := k0m0) (c := k0c0) (by decide +kernel) rfl rfl rfl (by decide +kernel)
set_option maxRecDepth 65536 in
theorem w_c7 : (Jvm.Cond.code ({ cls := "com/example/typeloom/typeloom/ttcn/ConstantDefinition", name := "<init>", desc := "(Ljava/lang/String;Ljava/lang/String;Ljava/lang/String;)V" } : Jvm.MethodName) prog_16_method_1_code (4 : Nat) (Option.none : Option Jvm.ClassFile.FieldType)).before args0 about1 = true := code_word (m := ⟨11, 0⟩) (meth := k11m0) (c := k11c0) (by decide +kernel) rfl rfl rfl (by decide +kernel)
set_option maxRecDepth 65536 in
theorem w_c8 : (Jvm.Cond.code ({ cls := "java/lang/Record", name := "<init>", desc := "()V" } : Jvm.MethodName) jdk_30_method_1_code (1 : Nat) (Option.none : Option Jvm.ClassFile.FieldType)).before args0 about1 = true := code_word (m := ⟨9, 0⟩) (meth := k9m0) (c := k9c0) (by decide +kernel) rfl rfl rfl (by decide +kernel)
set_option maxRecDepth 65536 in
theorem w_c9 : (Jvm.Cond.code ({ cls := "com/example/typeloom/typeloom/ttcn/ConstantDefinition", name := "text", desc := "()Ljava/lang/String;" } : Jvm.MethodName) prog_16_method_2_code (1 : Nat) (Option.some (Jvm.ClassFile.FieldType.object "java/lang/String"))).before args0 about1 = true := code_word (m := ⟨11, 1⟩) (meth := k11m1) (c := k11c1) (by decide +kernel) rfl rfl rfl (by decide +kernel)
set_option maxRecDepth 65536 in
theorem w_c10 : (Jvm.Cond.code ({ cls := "java/lang/StringBuilder", name := "<init>", desc := "()V" } : Jvm.MethodName) jdk_67_method_1_code (1 : Nat) (Option.none : Option Jvm.ClassFile.FieldType)).before args0 about1 = true := code_word (m := ⟨14, 0⟩) (meth := k14m0) (c := k14c0) (by decide +kernel) rfl rfl rfl (by decide +kernel)
set_option maxRecDepth 65536 in
theorem w_c11 : (Jvm.Cond.code ({ cls := "java/lang/AbstractStringBuilder", name := "<init>", desc := "(I)V" } : Jvm.MethodName) jdk_68_method_2_code (2 : Nat) (Option.none : Option Jvm.ClassFile.FieldType)).before args0 about1 = true := code_word (m := ⟨13, 1⟩) (meth := k13m1) (c := k13c1) (by decide +kernel) rfl rfl rfl (by decide +kernel)
set_option maxRecDepth 65536 in
theorem w_c12 : (Jvm.Cond.code ({ cls := "java/lang/StringBuilder", name := "append", desc := "(Ljava/lang/String;)Ljava/lang/StringBuilder;" } : Jvm.MethodName) jdk_67_method_7_code (2 : Nat) (Option.some (Jvm.ClassFile.FieldType.object "java/lang/StringBuilder"))).before args0 about1 = true := code_word (m := ⟨14, 1⟩) (meth := k14m1) (c := k14c1) (by decide +kernel) rfl rfl rfl (by decide +kernel)
set_option maxRecDepth 65536 in
theorem w_c13 : (Jvm.Cond.code ({ cls := "java/lang/AbstractStringBuilder", name := "append", desc := "(Ljava/lang/String;)Ljava/lang/AbstractStringBuilder;" } : Jvm.MethodName) jdk_68_method_22_code (3 : Nat) (Option.some (Jvm.ClassFile.FieldType.object "java/lang/AbstractStringBuilder"))).before args0 about1 = true := code_word (m := ⟨13, 5⟩) (meth := k13m5) (c := k13c5) (by decide +kernel) rfl rfl rfl (by decide +kernel)
set_option maxRecDepth 65536 in
theorem w_c14 : (Jvm.Cond.code ({ cls := "java/lang/String", name := "length", desc := "()I" } : Jvm.MethodName) jdk_42_method_54_code (1 : Nat) (Option.some Jvm.ClassFile.FieldType.int)).before args0 about1 = true := code_word (m := ⟨7, 3⟩) (meth := k7m3) (c := k7c3) (by decide +kernel) rfl rfl rfl (by decide +kernel)
set_option maxRecDepth 65536 in
theorem w_c15 : (Jvm.Cond.code ({ cls := "java/lang/String", name := "coder", desc := "()B" } : Jvm.MethodName) jdk_42_method_152_code (1 : Nat) (Option.some Jvm.ClassFile.FieldType.byte)).before args0 about1 = true := code_word (m := ⟨7, 11⟩) (meth := k7m11) (c := k7c11) (by decide +kernel) rfl rfl rfl (by decide +kernel)
set_option maxRecDepth 65536 in
theorem w_c16 : (Jvm.Cond.code ({ cls := "java/lang/AbstractStringBuilder", name := "ensureCapacityInternal", desc := "(I)V" } : Jvm.MethodName) jdk_68_method_9_code (3 : Nat) (Option.none : Option Jvm.ClassFile.FieldType)).before args0 about1 = true := code_word (m := ⟨13, 3⟩) (meth := k13m3) (c := k13c3) (by decide +kernel) rfl rfl rfl (by decide +kernel)
set_option maxRecDepth 65536 in
theorem w_c17 : (Jvm.Cond.code ({ cls := "java/lang/AbstractStringBuilder", name := "putStringAt", desc := "(ILjava/lang/String;)V" } : Jvm.MethodName) jdk_68_method_73_code (3 : Nat) (Option.none : Option Jvm.ClassFile.FieldType)).before args0 about1 = true := code_word (m := ⟨13, 9⟩) (meth := k13m9) (c := k13c9) (by decide +kernel) rfl rfl rfl (by decide +kernel)
set_option maxRecDepth 65536 in
theorem w_c18 : (Jvm.Cond.code ({ cls := "java/lang/AbstractStringBuilder", name := "inflateIfNeededFor", desc := "(Ljava/lang/String;)V" } : Jvm.MethodName) jdk_68_method_71_code (2 : Nat) (Option.none : Option Jvm.ClassFile.FieldType)).before args0 about1 = true := code_word (m := ⟨13, 8⟩) (meth := k13m8) (c := k13c8) (by decide +kernel) rfl rfl rfl (by decide +kernel)
set_option maxRecDepth 65536 in
theorem w_c19 : (Jvm.Cond.code ({ cls := "java/lang/String", name := "getBytes", desc := "([BIB)V" } : Jvm.MethodName) jdk_42_method_147_code (4 : Nat) (Option.none : Option Jvm.ClassFile.FieldType)).before args0 about1 = true := code_word (m := ⟨7, 7⟩) (meth := k7m7) (c := k7c7) (by decide +kernel) rfl rfl rfl (by decide +kernel)
set_option maxRecDepth 65536 in
theorem w_c20 : (Jvm.Cond.code ({ cls := "java/lang/StringBuilder", name := "toString", desc := "()Ljava/lang/String;" } : Jvm.MethodName) jdk_67_method_42_code (1 : Nat) (Option.some (Jvm.ClassFile.FieldType.object "java/lang/String"))).before args0 about1 = true := code_word (m := ⟨14, 2⟩) (meth := k14m2) (c := k14c2) (by decide +kernel) rfl rfl rfl (by decide +kernel)
set_option maxRecDepth 65536 in
theorem w_c21 : (Jvm.Cond.code ({ cls := "java/lang/String", name := "<init>", desc := "(Ljava/lang/StringBuilder;)V" } : Jvm.MethodName) jdk_42_method_53_code (2 : Nat) (Option.none : Option Jvm.ClassFile.FieldType)).before args0 about1 = true := code_word (m := ⟨7, 2⟩) (meth := k7m2) (c := k7c2) (by decide +kernel) rfl rfl rfl (by decide +kernel)
set_option maxRecDepth 65536 in
theorem w_c22 : (Jvm.Cond.code ({ cls := "java/lang/String", name := "<init>", desc := "(Ljava/lang/AbstractStringBuilder;Ljava/lang/Void;)V" } : Jvm.MethodName) jdk_42_method_150_code (5 : Nat) (Option.none : Option Jvm.ClassFile.FieldType)).before args0 about1 = true := code_word (m := ⟨7, 9⟩) (meth := k7m9) (c := k7c9) (by decide +kernel) rfl rfl rfl (by decide +kernel)
set_option maxRecDepth 65536 in
theorem w_c23 : (Jvm.Cond.code ({ cls := "java/lang/AbstractStringBuilder", name := "getValue", desc := "()[B" } : Jvm.MethodName) jdk_68_method_64_code (1 : Nat) (Option.some (Jvm.ClassFile.FieldType.array Jvm.ClassFile.FieldType.byte))).before args0 about1 = true := code_word (m := ⟨13, 6⟩) (meth := k13m6) (c := k13c6) (by decide +kernel) rfl rfl rfl (by decide +kernel)
set_option maxRecDepth 65536 in
theorem w_c24 : (Jvm.Cond.code ({ cls := "java/lang/StringBuilder", name := "length", desc := "()I" } : Jvm.MethodName) jdk_67_method_93_code (1 : Nat) (Option.some Jvm.ClassFile.FieldType.int)).before args0 about1 = true := code_word (m := ⟨14, 3⟩) (meth := k14m3) (c := k14c3) (by decide +kernel) rfl rfl rfl (by decide +kernel)
set_option maxRecDepth 65536 in
theorem w_c25 : (Jvm.Cond.code ({ cls := "java/lang/AbstractStringBuilder", name := "length", desc := "()I" } : Jvm.MethodName) jdk_68_method_6_code (1 : Nat) (Option.some Jvm.ClassFile.FieldType.int)).before args0 about1 = true := code_word (m := ⟨13, 2⟩) (meth := k13m2) (c := k13c2) (by decide +kernel) rfl rfl rfl (by decide +kernel)
set_option maxRecDepth 65536 in
theorem w_c26 : (Jvm.Cond.code ({ cls := "java/lang/AbstractStringBuilder", name := "isLatin1", desc := "()Z" } : Jvm.MethodName) jdk_68_method_68_code (1 : Nat) (Option.some Jvm.ClassFile.FieldType.boolean)).before args0 about1 = true := code_word (m := ⟨13, 7⟩) (meth := k13m7) (c := k13c7) (by decide +kernel) rfl rfl rfl (by decide +kernel)
set_option maxRecDepth 65536 in
theorem w_c27 : (Jvm.Cond.code ({ cls := "java/util/Arrays", name := "copyOfRange", desc := "([BII)[B" } : Jvm.MethodName) jdk_65_method_132_code (3 : Nat) (Option.some (Jvm.ClassFile.FieldType.array Jvm.ClassFile.FieldType.byte))).before args0 about1 = true := code_word (m := ⟨16, 3⟩) (meth := k16m3) (c := k16c3) (by decide +kernel) rfl rfl rfl (by decide +kernel)
set_option maxRecDepth 65536 in
theorem w_c28 : (Jvm.Cond.code ({ cls := "java/util/Arrays", name := "copyOfRangeByte", desc := "([BII)[B" } : Jvm.MethodName) jdk_65_method_133_code (5 : Nat) (Option.some (Jvm.ClassFile.FieldType.array Jvm.ClassFile.FieldType.byte))).before args0 about1 = true := code_word (m := ⟨16, 4⟩) (meth := k16m4) (c := k16c4) (by decide +kernel) rfl rfl rfl (by decide +kernel)
set_option maxRecDepth 65536 in
theorem w_c29 : (Jvm.Cond.code ({ cls := "java/util/Arrays", name := "checkLength", desc := "(II)V" } : Jvm.MethodName) jdk_65_method_131_code (2 : Nat) (Option.none : Option Jvm.ClassFile.FieldType)).before args0 about1 = true := code_word (m := ⟨16, 2⟩) (meth := k16m2) (c := k16c2) (by decide +kernel) rfl rfl rfl (by decide +kernel)
set_option maxRecDepth 65536 in
theorem w_c30 : (Jvm.Cond.code ({ cls := "java/lang/Math", name := "min", desc := "(II)I" } : Jvm.MethodName) jdk_29_method_69_code (2 : Nat) (Option.some Jvm.ClassFile.FieldType.int)).before args0 about1 = true := code_word (m := ⟨17, 2⟩) (meth := k17m2) (c := k17c2) (by decide +kernel) rfl rfl rfl (by decide +kernel)
set_option maxRecDepth 65536 in
theorem w_c31 : (Jvm.Cond.code ({ cls := "java/lang/String", name := "charAt", desc := "(I)C" } : Jvm.MethodName) jdk_42_method_56_code (2 : Nat) (Option.some Jvm.ClassFile.FieldType.char)).before args0 about1 = true := code_word (m := ⟨7, 5⟩) (meth := k7m5) (c := k7c5) (by decide +kernel) rfl rfl rfl (by decide +kernel)
set_option maxRecDepth 65536 in
theorem w_c32 : (Jvm.Cond.code ({ cls := "java/lang/String", name := "isLatin1", desc := "()Z" } : Jvm.MethodName) jdk_42_method_154_code (1 : Nat) (Option.some Jvm.ClassFile.FieldType.boolean)).before args0 about1 = true := code_word (m := ⟨7, 12⟩) (meth := k7m12) (c := k7c12) (by decide +kernel) rfl rfl rfl (by decide +kernel)
set_option maxRecDepth 65536 in
theorem w_c33 : (Jvm.Cond.code ({ cls := "java/lang/StringLatin1", name := "charAt", desc := "([BI)C" } : Jvm.MethodName) jdk_43_method_2_code (2 : Nat) (Option.some Jvm.ClassFile.FieldType.char)).before args0 about1 = true := code_word (m := ⟨8, 1⟩) (meth := k8m1) (c := k8c1) (by decide +kernel) rfl rfl rfl (by decide +kernel)
set_option maxRecDepth 65536 in
theorem w_c34 : (Jvm.Cond.code ({ cls := "java/lang/String", name := "checkIndex", desc := "(II)V" } : Jvm.MethodName) jdk_42_method_155_code (2 : Nat) (Option.none : Option Jvm.ClassFile.FieldType)).before args0 about1 = true := code_word (m := ⟨7, 13⟩) (meth := k7m13) (c := k7c13) (by decide +kernel) rfl rfl rfl (by decide +kernel)
set_option maxRecDepth 65536 in
theorem w_c35 : (Jvm.Cond.code ({ cls := "jdk/internal/util/Preconditions", name := "checkIndex", desc := "(IILjava/util/function/BiFunction;)I" } : Jvm.MethodName) jdk_41_method_11_code (3 : Nat) (Option.some Jvm.ClassFile.FieldType.int)).before args0 about1 = true := code_word (m := ⟨18, 1⟩) (meth := k18m1) (c := k18c1) (by decide +kernel) rfl rfl rfl (by decide +kernel)
set_option maxRecDepth 65536 in
theorem w_c36 : (Jvm.Cond.code ({ cls := "com/example/typeloom/typeloom/ttcn/ConstantDefinitionTextPinLaw", name := "same", desc := "(Ljava/lang/String;ILjava/lang/String;)Z" } : Jvm.MethodName) method_4_code (3 : Nat) (Option.some Jvm.ClassFile.FieldType.boolean)).before args0 about1 = true := code_word (m := ⟨1, 3⟩) (meth := k1m3) (c := k1c3) (by decide +kernel) rfl rfl rfl (by decide +kernel)
set_option maxRecDepth 65536 in
theorem w_c37 : (Jvm.Cond.code ({ cls := "java/lang/String", name := "isEmpty", desc := "()Z" } : Jvm.MethodName) jdk_42_method_55_code (1 : Nat) (Option.some Jvm.ClassFile.FieldType.boolean)).before args0 about1 = true := code_word (m := ⟨7, 4⟩) (meth := k7m4) (c := k7c4) (by decide +kernel) rfl rfl rfl (by decide +kernel)
set_option maxRecDepth 65536 in
theorem w_c38 : (Jvm.Cond.code ({ cls := "java/lang/String", name := "<init>", desc := "([C)V" } : Jvm.MethodName) jdk_42_method_3_code (2 : Nat) (Option.none : Option Jvm.ClassFile.FieldType)).before args0 about1 = true := code_word (m := ⟨7, 1⟩) (meth := k7m1) (c := k7c1) (by decide +kernel) rfl rfl rfl (by decide +kernel)
set_option maxRecDepth 65536 in
theorem w_c39 : (Jvm.Cond.code ({ cls := "java/lang/String", name := "<init>", desc := "([CIILjava/lang/Void;)V" } : Jvm.MethodName) jdk_42_method_149_code (6 : Nat) (Option.none : Option Jvm.ClassFile.FieldType)).before args0 about1 = true := code_word (m := ⟨7, 8⟩) (meth := k7m8) (c := k7c8) (by decide +kernel) rfl rfl rfl (by decide +kernel)
set_option maxRecDepth 65536 in
theorem w_c40 : (Jvm.Cond.code ({ cls := "java/lang/StringUTF16", name := "compress", desc := "([CII)[B" } : Jvm.MethodName) jdk_52_method_16_code (6 : Nat) (Option.some (Jvm.ClassFile.FieldType.array Jvm.ClassFile.FieldType.byte))).before args0 about1 = true := code_word (m := ⟨19, 2⟩) (meth := k19m2) (c := k19c2) (by decide +kernel) rfl rfl rfl (by decide +kernel)
set_option maxRecDepth 65536 in
theorem w_c41 : (Jvm.Cond.code ({ cls := "java/lang/StringUTF16", name := "compress", desc := "([CI[BII)I" } : Jvm.MethodName) jdk_52_method_21_code (7 : Nat) (Option.some Jvm.ClassFile.FieldType.int)).before args0 about1 = true := code_word (m := ⟨19, 3⟩) (meth := k19m3) (c := k19c3) (by decide +kernel) rfl rfl rfl (by decide +kernel)
set_option maxRecDepth 65536 in
theorem w_c42 : (Jvm.Cond.code ({ cls := "java/lang/StringUTF16", name := "coderFromArrayLen", desc := "([BI)B" } : Jvm.MethodName) jdk_52_method_15_code (2 : Nat) (Option.some Jvm.ClassFile.FieldType.byte)).before args0 about1 = true := code_word (m := ⟨19, 1⟩) (meth := k19m1) (c := k19c1) (by decide +kernel) rfl rfl rfl (by decide +kernel)
set_option maxRecDepth 65536 in
theorem w_c43 : (Jvm.Cond.code ({ cls := "java/lang/AbstractStringBuilder", name := "newCapacity", desc := "(I)I" } : Jvm.MethodName) jdk_68_method_10_code (6 : Nat) (Option.some Jvm.ClassFile.FieldType.int)).before args0 about1 = true := code_word (m := ⟨13, 4⟩) (meth := k13m4) (c := k13c4) (by decide +kernel) rfl rfl rfl (by decide +kernel)
set_option maxRecDepth 65536 in
theorem w_c44 : (Jvm.Cond.code ({ cls := "jdk/internal/util/ArraysSupport", name := "newLength", desc := "(III)I" } : Jvm.MethodName) jdk_48_method_27_code (4 : Nat) (Option.some Jvm.ClassFile.FieldType.int)).before args0 about1 = true := code_word (m := ⟨21, 1⟩) (meth := k21m1) (c := k21c1) (by decide +kernel) rfl rfl rfl (by decide +kernel)
set_option maxRecDepth 65536 in
theorem w_c45 : (Jvm.Cond.code ({ cls := "java/lang/Math", name := "max", desc := "(II)I" } : Jvm.MethodName) jdk_29_method_65_code (2 : Nat) (Option.some Jvm.ClassFile.FieldType.int)).before args0 about1 = true := code_word (m := ⟨17, 1⟩) (meth := k17m1) (c := k17c1) (by decide +kernel) rfl rfl rfl (by decide +kernel)
set_option maxRecDepth 65536 in
theorem w_c46 : (Jvm.Cond.code ({ cls := "java/util/Arrays", name := "copyOf", desc := "([BI)[B" } : Jvm.MethodName) jdk_65_method_121_code (3 : Nat) (Option.some (Jvm.ClassFile.FieldType.array Jvm.ClassFile.FieldType.byte))).before args0 about1 = true := code_word (m := ⟨16, 1⟩) (meth := k16m1) (c := k16c1) (by decide +kernel) rfl rfl rfl (by decide +kernel)
def codes1 : List Jvm.Cond := [Jvm.Cond.code x code maxLocals ret, Jvm.Cond.code ({ cls := "com/example/typeloom/typeloom/ttcn/ConstantDefinitionTextPinLaw", name := "mk", desc := "(ICC)Ljava/lang/String;" } : Jvm.MethodName) method_3_code (3 : Nat) (Option.some (Jvm.ClassFile.FieldType.object "java/lang/String")), Jvm.Cond.code ({ cls := "java/lang/String", name := "valueOf", desc := "(C)Ljava/lang/String;" } : Jvm.MethodName) jdk_42_method_139_code (1 : Nat) (Option.some (Jvm.ClassFile.FieldType.object "java/lang/String")), Jvm.Cond.code ({ cls := "java/lang/StringLatin1", name := "canEncode", desc := "(C)Z" } : Jvm.MethodName) jdk_43_method_3_code (1 : Nat) (Option.some Jvm.ClassFile.FieldType.boolean), Jvm.Cond.code ({ cls := "java/lang/StringLatin1", name := "toBytes", desc := "(C)[B" } : Jvm.MethodName) jdk_43_method_46_code (1 : Nat) (Option.some (Jvm.ClassFile.FieldType.array Jvm.ClassFile.FieldType.byte)), Jvm.Cond.code ({ cls := "java/lang/String", name := "<init>", desc := "([BB)V" } : Jvm.MethodName) jdk_42_method_151_code (3 : Nat) (Option.none : Option Jvm.ClassFile.FieldType), Jvm.Cond.code ({ cls := "java/lang/Object", name := "<init>", desc := "()V" } : Jvm.MethodName) object_method_1_code (1 : Nat) (Option.none : Option Jvm.ClassFile.FieldType), Jvm.Cond.code ({ cls := "com/example/typeloom/typeloom/ttcn/ConstantDefinition", name := "<init>", desc := "(Ljava/lang/String;Ljava/lang/String;Ljava/lang/String;)V" } : Jvm.MethodName) prog_16_method_1_code (4 : Nat) (Option.none : Option Jvm.ClassFile.FieldType), Jvm.Cond.code ({ cls := "java/lang/Record", name := "<init>", desc := "()V" } : Jvm.MethodName) jdk_30_method_1_code (1 : Nat) (Option.none : Option Jvm.ClassFile.FieldType), Jvm.Cond.code ({ cls := "com/example/typeloom/typeloom/ttcn/ConstantDefinition", name := "text", desc := "()Ljava/lang/String;" } : Jvm.MethodName) prog_16_method_2_code (1 : Nat) (Option.some (Jvm.ClassFile.FieldType.object "java/lang/String")), Jvm.Cond.code ({ cls := "java/lang/StringBuilder", name := "<init>", desc := "()V" } : Jvm.MethodName) jdk_67_method_1_code (1 : Nat) (Option.none : Option Jvm.ClassFile.FieldType), Jvm.Cond.code ({ cls := "java/lang/AbstractStringBuilder", name := "<init>", desc := "(I)V" } : Jvm.MethodName) jdk_68_method_2_code (2 : Nat) (Option.none : Option Jvm.ClassFile.FieldType), Jvm.Cond.code ({ cls := "java/lang/StringBuilder", name := "append", desc := "(Ljava/lang/String;)Ljava/lang/StringBuilder;" } : Jvm.MethodName) jdk_67_method_7_code (2 : Nat) (Option.some (Jvm.ClassFile.FieldType.object "java/lang/StringBuilder")), Jvm.Cond.code ({ cls := "java/lang/AbstractStringBuilder", name := "append", desc := "(Ljava/lang/String;)Ljava/lang/AbstractStringBuilder;" } : Jvm.MethodName) jdk_68_method_22_code (3 : Nat) (Option.some (Jvm.ClassFile.FieldType.object "java/lang/AbstractStringBuilder")), Jvm.Cond.code ({ cls := "java/lang/String", name := "length", desc := "()I" } : Jvm.MethodName) jdk_42_method_54_code (1 : Nat) (Option.some Jvm.ClassFile.FieldType.int), Jvm.Cond.code ({ cls := "java/lang/String", name := "coder", desc := "()B" } : Jvm.MethodName) jdk_42_method_152_code (1 : Nat) (Option.some Jvm.ClassFile.FieldType.byte), Jvm.Cond.code ({ cls := "java/lang/AbstractStringBuilder", name := "ensureCapacityInternal", desc := "(I)V" } : Jvm.MethodName) jdk_68_method_9_code (3 : Nat) (Option.none : Option Jvm.ClassFile.FieldType), Jvm.Cond.code ({ cls := "java/lang/AbstractStringBuilder", name := "putStringAt", desc := "(ILjava/lang/String;)V" } : Jvm.MethodName) jdk_68_method_73_code (3 : Nat) (Option.none : Option Jvm.ClassFile.FieldType), Jvm.Cond.code ({ cls := "java/lang/AbstractStringBuilder", name := "inflateIfNeededFor", desc := "(Ljava/lang/String;)V" } : Jvm.MethodName) jdk_68_method_71_code (2 : Nat) (Option.none : Option Jvm.ClassFile.FieldType), Jvm.Cond.code ({ cls := "java/lang/String", name := "getBytes", desc := "([BIB)V" } : Jvm.MethodName) jdk_42_method_147_code (4 : Nat) (Option.none : Option Jvm.ClassFile.FieldType), Jvm.Cond.code ({ cls := "java/lang/StringBuilder", name := "toString", desc := "()Ljava/lang/String;" } : Jvm.MethodName) jdk_67_method_42_code (1 : Nat) (Option.some (Jvm.ClassFile.FieldType.object "java/lang/String")), Jvm.Cond.code ({ cls := "java/lang/String", name := "<init>", desc := "(Ljava/lang/StringBuilder;)V" } : Jvm.MethodName) jdk_42_method_53_code (2 : Nat) (Option.none : Option Jvm.ClassFile.FieldType), Jvm.Cond.code ({ cls := "java/lang/String", name := "<init>", desc := "(Ljava/lang/AbstractStringBuilder;Ljava/lang/Void;)V" } : Jvm.MethodName) jdk_42_method_150_code (5 : Nat) (Option.none : Option Jvm.ClassFile.FieldType), Jvm.Cond.code ({ cls := "java/lang/AbstractStringBuilder", name := "getValue", desc := "()[B" } : Jvm.MethodName) jdk_68_method_64_code (1 : Nat) (Option.some (Jvm.ClassFile.FieldType.array Jvm.ClassFile.FieldType.byte)), Jvm.Cond.code ({ cls := "java/lang/StringBuilder", name := "length", desc := "()I" } : Jvm.MethodName) jdk_67_method_93_code (1 : Nat) (Option.some Jvm.ClassFile.FieldType.int), Jvm.Cond.code ({ cls := "java/lang/AbstractStringBuilder", name := "length", desc := "()I" } : Jvm.MethodName) jdk_68_method_6_code (1 : Nat) (Option.some Jvm.ClassFile.FieldType.int), Jvm.Cond.code ({ cls := "java/lang/AbstractStringBuilder", name := "isLatin1", desc := "()Z" } : Jvm.MethodName) jdk_68_method_68_code (1 : Nat) (Option.some Jvm.ClassFile.FieldType.boolean), Jvm.Cond.code ({ cls := "java/util/Arrays", name := "copyOfRange", desc := "([BII)[B" } : Jvm.MethodName) jdk_65_method_132_code (3 : Nat) (Option.some (Jvm.ClassFile.FieldType.array Jvm.ClassFile.FieldType.byte)), Jvm.Cond.code ({ cls := "java/util/Arrays", name := "copyOfRangeByte", desc := "([BII)[B" } : Jvm.MethodName) jdk_65_method_133_code (5 : Nat) (Option.some (Jvm.ClassFile.FieldType.array Jvm.ClassFile.FieldType.byte)), Jvm.Cond.code ({ cls := "java/util/Arrays", name := "checkLength", desc := "(II)V" } : Jvm.MethodName) jdk_65_method_131_code (2 : Nat) (Option.none : Option Jvm.ClassFile.FieldType), Jvm.Cond.code ({ cls := "java/lang/Math", name := "min", desc := "(II)I" } : Jvm.MethodName) jdk_29_method_69_code (2 : Nat) (Option.some Jvm.ClassFile.FieldType.int), Jvm.Cond.code ({ cls := "java/lang/String", name := "charAt", desc := "(I)C" } : Jvm.MethodName) jdk_42_method_56_code (2 : Nat) (Option.some Jvm.ClassFile.FieldType.char), Jvm.Cond.code ({ cls := "java/lang/String", name := "isLatin1", desc := "()Z" } : Jvm.MethodName) jdk_42_method_154_code (1 : Nat) (Option.some Jvm.ClassFile.FieldType.boolean), Jvm.Cond.code ({ cls := "java/lang/StringLatin1", name := "charAt", desc := "([BI)C" } : Jvm.MethodName) jdk_43_method_2_code (2 : Nat) (Option.some Jvm.ClassFile.FieldType.char), Jvm.Cond.code ({ cls := "java/lang/String", name := "checkIndex", desc := "(II)V" } : Jvm.MethodName) jdk_42_method_155_code (2 : Nat) (Option.none : Option Jvm.ClassFile.FieldType), Jvm.Cond.code ({ cls := "jdk/internal/util/Preconditions", name := "checkIndex", desc := "(IILjava/util/function/BiFunction;)I" } : Jvm.MethodName) jdk_41_method_11_code (3 : Nat) (Option.some Jvm.ClassFile.FieldType.int), Jvm.Cond.code ({ cls := "com/example/typeloom/typeloom/ttcn/ConstantDefinitionTextPinLaw", name := "same", desc := "(Ljava/lang/String;ILjava/lang/String;)Z" } : Jvm.MethodName) method_4_code (3 : Nat) (Option.some Jvm.ClassFile.FieldType.boolean), Jvm.Cond.code ({ cls := "java/lang/String", name := "isEmpty", desc := "()Z" } : Jvm.MethodName) jdk_42_method_55_code (1 : Nat) (Option.some Jvm.ClassFile.FieldType.boolean), Jvm.Cond.code ({ cls := "java/lang/String", name := "<init>", desc := "([C)V" } : Jvm.MethodName) jdk_42_method_3_code (2 : Nat) (Option.none : Option Jvm.ClassFile.FieldType), Jvm.Cond.code ({ cls := "java/lang/String", name := "<init>", desc := "([CIILjava/lang/Void;)V" } : Jvm.MethodName) jdk_42_method_149_code (6 : Nat) (Option.none : Option Jvm.ClassFile.FieldType), Jvm.Cond.code ({ cls := "java/lang/StringUTF16", name := "compress", desc := "([CII)[B" } : Jvm.MethodName) jdk_52_method_16_code (6 : Nat) (Option.some (Jvm.ClassFile.FieldType.array Jvm.ClassFile.FieldType.byte)), Jvm.Cond.code ({ cls := "java/lang/StringUTF16", name := "compress", desc := "([CI[BII)I" } : Jvm.MethodName) jdk_52_method_21_code (7 : Nat) (Option.some Jvm.ClassFile.FieldType.int), Jvm.Cond.code ({ cls := "java/lang/StringUTF16", name := "coderFromArrayLen", desc := "([BI)B" } : Jvm.MethodName) jdk_52_method_15_code (2 : Nat) (Option.some Jvm.ClassFile.FieldType.byte), Jvm.Cond.code ({ cls := "java/lang/AbstractStringBuilder", name := "newCapacity", desc := "(I)I" } : Jvm.MethodName) jdk_68_method_10_code (6 : Nat) (Option.some Jvm.ClassFile.FieldType.int), Jvm.Cond.code ({ cls := "jdk/internal/util/ArraysSupport", name := "newLength", desc := "(III)I" } : Jvm.MethodName) jdk_48_method_27_code (4 : Nat) (Option.some Jvm.ClassFile.FieldType.int), Jvm.Cond.code ({ cls := "java/lang/Math", name := "max", desc := "(II)I" } : Jvm.MethodName) jdk_29_method_65_code (2 : Nat) (Option.some Jvm.ClassFile.FieldType.int), Jvm.Cond.code ({ cls := "java/util/Arrays", name := "copyOf", desc := "([BI)[B" } : Jvm.MethodName) jdk_65_method_121_code (3 : Nat) (Option.some (Jvm.ClassFile.FieldType.array Jvm.ClassFile.FieldType.byte))]
set_option maxRecDepth 65536 in
theorem codes_eq : words1.filter isCode = codes1 := rfl
theorem w_codes : ∀ c ∈ words1.filter isCode, c.before args0 about1 = true := by
  rw [codes_eq]
  intro c hc
  simp only [codes1, List.mem_cons, List.not_mem_nil, or_false] at hc
  rcases hc with rfl | rfl | rfl | rfl | rfl | rfl | rfl | rfl | rfl | rfl | rfl | rfl | rfl | rfl | rfl | rfl | rfl | rfl | rfl | rfl | rfl | rfl | rfl | rfl | rfl | rfl | rfl | rfl | rfl | rfl | rfl | rfl | rfl | rfl | rfl | rfl | rfl | rfl | rfl | rfl | rfl | rfl | rfl | rfl | rfl | rfl | rfl
  · exact w_c0
  · exact w_c1
  · exact w_c2
  · exact w_c3
  · exact w_c4
  · exact w_c5
  · exact w_c6
  · exact w_c7
  · exact w_c8
  · exact w_c9
  · exact w_c10
  · exact w_c11
  · exact w_c12
  · exact w_c13
  · exact w_c14
  · exact w_c15
  · exact w_c16
  · exact w_c17
  · exact w_c18
  · exact w_c19
  · exact w_c20
  · exact w_c21
  · exact w_c22
  · exact w_c23
  · exact w_c24
  · exact w_c25
  · exact w_c26
  · exact w_c27
  · exact w_c28
  · exact w_c29
  · exact w_c30
  · exact w_c31
  · exact w_c32
  · exact w_c33
  · exact w_c34
  · exact w_c35
  · exact w_c36
  · exact w_c37
  · exact w_c38
  · exact w_c39
  · exact w_c40
  · exact w_c41
  · exact w_c42
  · exact w_c43
  · exact w_c44
  · exact w_c45
  · exact w_c46
set_option maxRecDepth 65536 in
theorem w_t1 : (words1.take 24).all (fun c => isCode c || c.before args0 about1) = true := by decide +kernel
set_option maxRecDepth 65536 in
theorem w_t2 : ((words1.drop 24).take 24).all (fun c => isCode c || c.before args0 about1) = true := by decide +kernel
set_option maxRecDepth 65536 in
theorem w_t3 : (((words1.drop 24).drop 24).take 24).all (fun c => isCode c || c.before args0 about1) = true := by decide +kernel
set_option maxRecDepth 65536 in
theorem w_t4 : ((((words1.drop 24).drop 24).drop 24).take 24).all (fun c => isCode c || c.before args0 about1) = true := by decide +kernel
set_option maxRecDepth 65536 in
theorem w_t5 : (((((words1.drop 24).drop 24).drop 24).drop 24).take 24).all (fun c => isCode c || c.before args0 about1) = true := by decide +kernel
set_option maxRecDepth 65536 in
theorem w_t6 : ((((((words1.drop 24).drop 24).drop 24).drop 24).drop 24).take 24).all (fun c => isCode c || c.before args0 about1) = true := by decide +kernel
set_option maxRecDepth 65536 in
theorem w_t7 : (((((((words1.drop 24).drop 24).drop 24).drop 24).drop 24).drop 24).take 24).all (fun c => isCode c || c.before args0 about1) = true := by decide +kernel
set_option maxRecDepth 65536 in
theorem w_t8 : ((((((((words1.drop 24).drop 24).drop 24).drop 24).drop 24).drop 24).drop 24).take 24).all (fun c => isCode c || c.before args0 about1) = true := by decide +kernel
set_option maxRecDepth 65536 in
theorem w_t9 : (((((((((words1.drop 24).drop 24).drop 24).drop 24).drop 24).drop 24).drop 24).drop 24).take 24).all (fun c => isCode c || c.before args0 about1) = true := by decide +kernel
set_option maxRecDepth 65536 in
theorem w_t10 : ((((((((((words1.drop 24).drop 24).drop 24).drop 24).drop 24).drop 24).drop 24).drop 24).drop 24).take 24).all (fun c => isCode c || c.before args0 about1) = true := by decide +kernel
set_option maxRecDepth 65536 in
theorem w_t11 : ((((((((((words1.drop 24).drop 24).drop 24).drop 24).drop 24).drop 24).drop 24).drop 24).drop 24).drop 24).all (fun c => isCode c || c.before args0 about1) = true := by decide +kernel
theorem w_tables : (allAtoms (Jvm.Cond.code x code maxLocals ret :: tables_1)).before args0 about1 = true := by
  rw [allAtoms_all]
  show words1.all (fun c => c.before args0 about1) = true
  refine all_split ?_ w_codes
  rw [← List.take_append_drop 24 words1, List.all_append, w_t1, ← List.take_append_drop 24 (words1.drop 24), List.all_append, w_t2, ← List.take_append_drop 24 ((words1.drop 24).drop 24), List.all_append, w_t3, ← List.take_append_drop 24 (((words1.drop 24).drop 24).drop 24), List.all_append, w_t4, ← List.take_append_drop 24 ((((words1.drop 24).drop 24).drop 24).drop 24), List.all_append, w_t5, ← List.take_append_drop 24 (((((words1.drop 24).drop 24).drop 24).drop 24).drop 24), List.all_append, w_t6, ← List.take_append_drop 24 ((((((words1.drop 24).drop 24).drop 24).drop 24).drop 24).drop 24), List.all_append, w_t7, ← List.take_append_drop 24 (((((((words1.drop 24).drop 24).drop 24).drop 24).drop 24).drop 24).drop 24), List.all_append, w_t8, ← List.take_append_drop 24 ((((((((words1.drop 24).drop 24).drop 24).drop 24).drop 24).drop 24).drop 24).drop 24), List.all_append, w_t9, ← List.take_append_drop 24 (((((((((words1.drop 24).drop 24).drop 24).drop 24).drop 24).drop 24).drop 24).drop 24).drop 24), List.all_append, w_t10, w_t11]
  rfl
set_option maxRecDepth 65536 in
theorem w_rest : rest_1_c.before args0 about1 = true := by decide +kernel
set_option maxRecDepth 65536 in
theorem w_case : (Jvm.Cond.and given_1 narrow_1).before args0 about1 = true := by decide +kernel
set_option maxRecDepth 65536 in
theorem w_consts : constsHeld consts_1 about1 := Jvm.Lit.constsHeldB_iff.mp (by decide +kernel)
theorem w_applies : (headSpec (Jvm.Cond.code x code maxLocals ret :: tables_1) room_1).applies x e0.platform about1 = true :=
  (Spec.applies_iff w_frames).mpr ⟨w_running, w_runnable, w_alone, w_named, w_hears, w_ripe, w_room, w_tables⟩
theorem atStart : AtStart classFile x code maxLocals ret World_1 tables_1 room_1 Calls_1 rest_1 Pre_1 launch0 p0 e0 about1 theMethod args0 below0 :=
  ⟨lists_1, trivial, launch0.admits_env _ _ _, launch0.least_env, fairChoices_fair.cas, fairChoices_fair.clock, w_frames, w_args, w_heap, w_applies, ⟨w_consts, trivial⟩, w_rest, w_case⟩
end start1
theorem witness_1 : WitnessClaimed_1 := ⟨start1.p0, start1.e0, start1.about1, start1.theMethod, start1.args0, start1.below0, start1.atStart⟩
end Jvm.Pilot.@@N@@
