import JvmDerived
import JvmDerived.Pilot.@@N@@Statement
import JvmDerived.Pilot.@@N@@Code
set_option linter.unusedVariables false
set_option linter.unusedSimpArgs false
namespace Jvm.Pilot.@@N@@
open Jvm Jvm.ClassFile Sem Op Lib Jvm.Free Jvm.Stand Jvm.LawKit Jvm.RoadKit Bundle Jvm.Pilot.@@N@@.Jvm.D
/-! own_: the walk's goal, said once: from the frame g at T the run comes to an end that Fin holds of -/
def own_Go (p : Program) (e : Env) (below : List Frame) (Fin : Outcome → State → Prop) (T : State) (g : JFrame) : Prop :=
  ∃ s₂ o, Steps p.tables e below (T.setTop g) s₂ ∧ s₂.status = .running ∧ Ended s₂ below o ∧ Fin o s₂
def own_Fin (s : State) (Q : Option Value → Heap → List Loc → Prop) (k n : Nat) (o : Outcome) (t : State) : Prop :=
  ∃ v L, o = .returned v ∧ Q v t.heap L ∧ FrameEnd s o t L k n
section OwnGo
variable {p : Program} {l : Launch} {e : Env} {R : Room} {s : State} {m : MethodId} {args : Array Value} {below : List Frame} {meth : Method} {c : Code} {T T' : State} {locs : List Loc} {cells slots : Nat} {Z : State} {a0 : Array Value} {h : Heap} {g g' : JFrame} {Fin : Outcome → State → Prop} {k n : Nat} {Q : Option Value → Heap → List Loc → Prop}
theorem own_go (st : ∀ target, Steps p.tables e below (T'.setTop g') target → Steps p.tables e below (T.setTop g) target) (G : own_Go p e below Fin T' g') : own_Go p e below Fin T g := by
  obtain ⟨s₂, o, h, r⟩ := G
  exact ⟨s₂, o, st _ h, r⟩
theorem own_end (X : Stand p l e R s m args below meth c T locs cells slots) (hlk : meth.locks = false) {v : Option Value} (hv : meth.sig.returnType = none → v = none)
    (hr : ∀ fs, (∀ (f : JFrame) (acts : List Action), f.method = m → f.locked = none → f.entered = [] → (doReturn e (T.setTop f) acts v).1 = T.setFrames fs) → Steps p.tables e below (T.setTop g) (T.setFrames fs))
    (hQ : Q v T.heap locs) (hc : cells ≤ k) (hn : slots ≤ n) : own_Go p e below (own_Fin s Q k n) T g := by
  obtain ⟨fs, h1, hrun, hended, hW, hsame⟩ := X.leave hv hlk
  exact ⟨_, _, hr fs h1, hrun, hended, v, locs, rfl, hQ, ⟨_, rfl⟩, hW, hsame.mono hc hn⟩
theorem own_dia {α : Type} {C : Prop} [Decidable C] {v1 v0 : α} {f : α → JFrame} (h1 : C → own_Go p e below Fin T' (f v1) → own_Go p e below Fin T g) (h0 : ¬ C → own_Go p e below Fin T' (f v0) → own_Go p e below Fin T g) (G : own_Go p e below Fin T' (f (if C then v1 else v0))) : own_Go p e below Fin T g := by
  by_cases hC : C
  · rw [if_pos hC] at G; exact h1 hC G
  · rw [if_neg hC] at G; exact h0 hC G
end OwnGo
def own_Met (l : Launch) (Z : State) (y : MethodName) (bytes : ByteArray) (maxL : Nat) (ret : Option FieldType) (ws : List Jvm.Cond) (rm : Room) (as : Array Value) (h0 : Heap) (Q : Option Value → Heap → List Loc → Prop) : Prop :=
  MetFree l y (head1 (Jvm.Cond.code y bytes maxL ret :: ws) rm) (fun a U => a = as ∧ Z.Warmed39 U.vm ∧ U.heap = h0) (fun _ _ _ _ _ => True) (fun _ U o U' => ∃ v L, o = .returned v ∧ Q v U'.heap L ∧ FrameEnd U o U' L rm.cells rm.slots)
theorem own_met {l : Launch} {Z : State} {y : MethodName} {bytes : ByteArray} {maxL : Nat} {ret : Option FieldType} {ws : List Jvm.Cond} {rm : Room} {as : Array Value} {h0 : Heap} {Q : Option Value → Heap → List Loc → Prop} (hp : plainFor y = true)
    (body : ∀ (p : Program) (e : Env) (s : State) (m : MethodId) (below : List Frame) (meth : Method) (c : Code) (s₁ : State), Stand p l e rm s m as below meth c s₁ [] 0 0 → p.tables.exec = Jvm.exec → Z.Warmed39 s.vm → c.code = bytes → c.maxLocals = maxL → s.vm.findClass y.cls = some m.cls → meth.name = y.name → meth.sig.returnType = ret → meth.locks = false → s₁.heap = h0 →
      own_Go p e below (own_Fin s Q rm.cells rm.slots) s₁ (entryFrame m as maxL)) : own_Met l Z y bytes maxL ret ws rm as h0 Q := by
  refine MetFree.of_bodySF hp hisR ?_
  intro p e s m args below meth c s₁ Bd hml0 hP hK
  obtain ⟨rfl, hZ, hh⟩ := hP
  exact body p e s m below meth c s₁ (Stand.of_body Bd) Bd.exec hZ Bd.bytes hml0 (findClass_of_methodNamed Bd.named) (name_of_methodNamed Bd.named Bd.method).1 Bd.returns Bd.notSynchronized (by rw [← hh, Bd.state]; rfl)
section OwnCall
variable {p : Program} {l : Launch} {e : Env} {R : Room} {s : State} {m : MethodId} {args : Array Value} {below : List Frame} {meth : Method} {c : Code} {T : State} {locs : List Loc} {cells slots : Nat} {Z : State} {a0 : Array Value} {h : Heap} {g : JFrame} {Q : Option Value → Heap → List Loc → Prop} {own : String} {index : Nat} {y z : MethodName} {bytes : ByteArray} {maxL W : Nat} {ret r0 : Option FieldType} {rm : Room} {argsL rest : List Value} {ps : List FieldType} {b : Addr} {C : String}
theorem own_callS (X : Stand p l e R s m args below meth c T locs cells slots) (hx : p.tables.exec = Jvm.exec) (hZ : Z.Warmed39 s.vm) (hown : s.vm.findClass own = some m.cls) (wl : (Cond.methodLink own index y).before a0 Z = true) (ws : (Cond.static y).before a0 Z = true) (wi : (Cond.initialized y.cls).before a0 Z = true) (wc : (Cond.code y bytes maxL ret).before a0 Z = true)
    (hy : y.cls ≠ "java/lang/invoke/MethodHandle" ∧ y.cls ≠ "java/lang/invoke/VarHandle") (eT : T.heap = h) (hM : own_Met l Z y bytes maxL ret [] rm argsL.toArray h Q) (hf : rm.frames + 1 ≤ R.frames) (hl : W + (maxL + 11) + rm.locals ≤ R.locals) (hc : cells + rm.cells ≤ R.cells) (hn : slots + rm.slots ≤ R.slots)
    (hpd : parseMethodDescriptor y.desc = some ⟨ps, r0⟩) (hlen : argsL.length = ps.length) (hg : g.method = m) (hsize : g.locals.size = c.maxLocals) (hstack : g.stack = argsL.reverse ++ rest) (hW : 2 * g.monitorRoom + (rest.map fun v => v.category).sum ≤ W) (hd : decode c.code g.pc = .ok (.invokestatic index, 3)) :
    ∃ (v : Option Value) (T' : State) (L : List Loc), Stand p l e R s m args below meth c T' (locs ++ L) (cells + rm.cells) (slots + rm.slots) ∧ Q v T'.heap L ∧ ∀ target, Steps p.tables e below (T'.setTop { g with pc := g.pc + 3, stack := v.toList ++ rest }) target → Steps p.tables e below (T.setTop g) target := by
  obtain ⟨v, vm₁, ⟨T1, L1, k1, n1⟩, -, X1, ⟨Lc, hQ, l1, y1, z1⟩, st⟩ := Jvm.LawKit.callS X hx (y := y) hown (mvT hZ wl) (mvT hZ ws) (mvT hZ wi) (mvT hZ wc) hy (backOf (W := W) hM hZ wc wi hf hl) hg hsize (lenOf hpd hlen) hstack hW hd (fun _ _ => ⟨rfl, eT, hc, hn⟩)
  dsimp only [Pt.U, Pt.locs, Pt.cells, Pt.slots] at X1 l1 y1 z1 st hQ
  subst l1 y1 z1
  exact ⟨v, T1, Lc, X1, hQ, st⟩
theorem own_callI (X : Stand p l e R s m args below meth c T locs cells slots) (hx : p.tables.exec = Jvm.exec) (hZ : Z.Warmed39 s.vm) (hy1 : y.name = "<init>") (hown : s.vm.findClass own = some m.cls) (wl : (Cond.methodLink own index y).before a0 Z = true) (ws : (Cond.instanceMethod y).before a0 Z = true) (wi : (Cond.initialized y.cls).before a0 Z = true) (wc : (Cond.code y bytes maxL none).before a0 Z = true)
    (hy : y.cls ≠ "java/lang/invoke/MethodHandle" ∧ y.cls ≠ "java/lang/invoke/VarHandle") (eT : T.heap = h) (hM : own_Met l Z y bytes maxL none [] rm (.ref b :: argsL).toArray h Q) (hf : rm.frames + 1 ≤ R.frames) (hl : W + (maxL + 11) + rm.locals ≤ R.locals) (hc : cells + rm.cells ≤ R.cells) (hn : slots + rm.slots ≤ R.slots)
    (hpd : parseMethodDescriptor y.desc = some ⟨ps, r0⟩) (hlen : argsL.length = ps.length) (hg : g.method = m) (hsize : g.locals.size = c.maxLocals) (hstack : g.stack = argsL.reverse ++ .ref b :: rest) (hW : 2 * g.monitorRoom + (rest.map fun v => v.category).sum ≤ W) (hd : decode c.code g.pc = .ok (.invokespecial index, 3)) :
    ∃ (v : Option Value) (T' : State) (L : List Loc), Stand p l e R s m args below meth c T' (locs ++ L) (cells + rm.cells) (slots + rm.slots) ∧ Q v T'.heap L ∧ ∀ target, Steps p.tables e below (T'.setTop { g with pc := g.pc + 3, stack := v.toList ++ rest }) target → Steps p.tables e below (T.setTop g) target := by
  obtain ⟨v, vm₁, ⟨T1, L1, k1, n1⟩, -, X1, ⟨Lc, hQ, l1, y1, z1⟩, st⟩ := X.specialBack hx (y := y) hy1 hown (mvT hZ wl) (mvT hZ ws) (mvT hZ wc) hy (backOf (W := W) hM hZ wc wi hf hl) hg hsize (Steps.refl _) (lenOf hpd hlen) hstack hW hd (fun _ _ => ⟨rfl, eT, hc, hn⟩)
  dsimp only [Pt.U, Pt.locs, Pt.cells, Pt.slots] at X1 l1 y1 z1 st hQ
  subst l1 y1 z1
  exact ⟨v, T1, Lc, X1, hQ, fun _ k => st.trans k⟩
theorem own_callV (X : Stand p l e R s m args below meth c T locs cells slots) (hx : p.tables.exec = Jvm.exec) (hZ : Z.Warmed39 s.vm) (hown : s.vm.findClass own = some m.cls) (wl : (Cond.methodLink own index y).before a0 Z = true) (wd : (Cond.declares y).before a0 Z = true) (wsel : (Cond.selects C y y).before a0 Z = true) (ws : (Cond.instanceMethod y).before a0 Z = true) (wi : (Cond.initialized y.cls).before a0 Z = true) (wc : (Cond.code y bytes maxL ret).before a0 Z = true)
    (hy : y.cls ≠ "java/lang/invoke/MethodHandle" ∧ y.cls ≠ "java/lang/invoke/VarHandle") (eT : T.heap = h) (E : Exa Z h b C) (hM : own_Met l Z y bytes maxL ret [] rm (.ref b :: argsL).toArray h Q) (hf : rm.frames + 1 ≤ R.frames) (hl : W + (maxL + 11) + rm.locals ≤ R.locals) (hc : cells + rm.cells ≤ R.cells) (hn : slots + rm.slots ≤ R.slots)
    (hpd : parseMethodDescriptor y.desc = some ⟨ps, r0⟩) (hlen : argsL.length = ps.length) (hg : g.method = m) (hsize : g.locals.size = c.maxLocals) (hstack : g.stack = argsL.reverse ++ .ref b :: rest) (hW : 2 * g.monitorRoom + (rest.map fun v => v.category).sum ≤ W) (hd : decode c.code g.pc = .ok (.invokevirtual index, 3)) :
    ∃ (v : Option Value) (T' : State) (L : List Loc), Stand p l e R s m args below meth c T' (locs ++ L) (cells + rm.cells) (slots + rm.slots) ∧ Q v T'.heap L ∧ ∀ target, Steps p.tables e below (T'.setTop { g with pc := g.pc + 3, stack := v.toList ++ rest }) target → Steps p.tables e below (T.setTop g) target := by
  obtain ⟨cq, kq, qa, qb, qc⟩ := isOf hZ eT E
  obtain ⟨v, vm₁, ⟨T1, L1, k1, n1⟩, -, X1, ⟨Lc, hQ, l1, y1, z1⟩, st⟩ := X.virtualBack hx (y := y) (z := y) hown (mvT hZ wl) (mvT hZ wd) (notFace_of_selects (args := #[]) (mvT hZ wsel)) (mvT hZ wsel) (mvT hZ ws) hy (backOf (W := W) hM hZ wc wi hf hl) qa qc hg hsize (Steps.refl _) (lenOf hpd hlen) hstack hW hd (fun _ _ => ⟨rfl, eT, hc, hn⟩)
  dsimp only [Pt.U, Pt.locs, Pt.cells, Pt.slots] at X1 l1 y1 z1 st hQ
  subst l1 y1 z1
  exact ⟨v, T1, Lc, X1, hQ, fun _ k => st.trans k⟩
end OwnCall
def own_FinW (s : State) (Q : Option Value → Heap → List Loc → Prop) (k n : Nat) (o : Outcome) (t : State) : Prop :=
  ∃ v L, o = .returned v ∧ Q v t.heap L ∧ ReturnedEndW s o t L k n
theorem own_endW {p : Program} {l : Launch} {e : Env} {R : Room} {s : State} {m : MethodId} {args : Array Value} {below : List Frame} {meth : Method} {c : Code} {T : State} {locs : List Loc} {cells slots : Nat} {g : JFrame} {k n : Nat} {Q : Option Value → Heap → List Loc → Prop} {vm₁ : Vm} {j : Nat}
    (X : Stand p l e R (s.setVm vm₁) m args below meth c T locs cells slots) (hS : s.Since vm₁ j) (hj : j ≤ T.heap.size) (hlk : meth.locks = false) {v : Option Value} (hv : meth.sig.returnType = none → v = none)
    (hr : ∀ fs, (∀ (f : JFrame) (acts : List Action), f.method = m → f.locked = none → f.entered = [] → (doReturn e (T.setTop f) acts v).1 = T.setFrames fs) → Steps p.tables e below (T.setTop g) (T.setFrames fs))
    (hQ : Q v T.heap locs) (hc : cells ≤ k) (hn : slots ≤ n) : own_Go p e below (own_FinW s Q k n) T g := by
  obtain ⟨fs, h1, hrun, hended, hE⟩ := X.leaveW hS hj hv hlk
  exact ⟨_, _, hr fs h1, hrun, hended, v, locs, rfl, hQ, hE.1, hE.2.1, hE.2.2.1, hE.2.2.2.mono hc hn⟩
def own_MetW (l : Launch) (Z : State) (y : MethodName) (bytes : ByteArray) (maxL : Nat) (ret : Option FieldType) (ws : List Jvm.Cond) (rm : Room) (as : Array Value) (h0 : Heap) (Q : Option Value → Heap → List Loc → Prop) : Prop :=
  MetFree l y (head1 (Jvm.Cond.code y bytes maxL ret :: ws) rm) (fun a U => a = as ∧ Z.Warmed39 U.vm ∧ U.heap = h0) (fun _ _ _ _ _ => True) (fun _ U o U' => ∃ v L, o = .returned v ∧ Q v U'.heap L ∧ ReturnedEndW U o U' L rm.cells rm.slots)
theorem own_metW {l : Launch} {Z : State} {y : MethodName} {bytes : ByteArray} {maxL : Nat} {ret : Option FieldType} {ws : List Jvm.Cond} {rm : Room} {as : Array Value} {h0 : Heap} {Q : Option Value → Heap → List Loc → Prop} (hp : plainFor y = true)
    (body : ∀ (p : Program) (e : Env) (s : State) (m : MethodId) (below : List Frame) (meth : Method) (c : Code) (s₁ : State), Stand p l e rm (s.setVm s.vm) m as below meth c s₁ [] 0 0 → p.tables.exec = Jvm.exec → Z.Warmed39 s.vm → c.code = bytes → c.maxLocals = maxL → s.vm.findClass y.cls = some m.cls → meth.name = y.name → meth.sig.returnType = ret → meth.locks = false → s₁.heap = h0 →
      own_Go p e below (own_FinW s Q rm.cells rm.slots) s₁ (entryFrame m as maxL)) : own_MetW l Z y bytes maxL ret ws rm as h0 Q := by
  refine MetFree.of_bodySF hp hisR ?_
  intro p e s m args below meth c s₁ Bd hml0 hP hK
  obtain ⟨rfl, hZ, hh⟩ := hP
  exact body p e s m below meth c s₁ (Stand.of_body Bd) Bd.exec hZ Bd.bytes hml0 (findClass_of_methodNamed Bd.named) (name_of_methodNamed Bd.named Bd.method).1 Bd.returns Bd.notSynchronized (by rw [← hh, Bd.state]; rfl)
section OwnCallW
variable {p : Program} {l : Launch} {e : Env} {R : Room} {s : State} {m : MethodId} {args : Array Value} {below : List Frame} {meth : Method} {c : Code} {T : State} {locs : List Loc} {cells slots : Nat} {Z : State} {a0 : Array Value} {h : Heap} {g : JFrame} {Q : Option Value → Heap → List Loc → Prop} {own : String} {index : Nat} {y z : MethodName} {bytes : ByteArray} {maxL W len : Nat} {ret r0 : Option FieldType} {rm : Room} {argsL rest : List Value} {ps : List FieldType} {b : Addr} {C : String} {as' : Array Value}
theorem own_backW (hM : own_MetW l Z y bytes maxL ret [] rm as' h Q) (hZ : Z.Warmed39 s.vm) (wc : (Cond.code y bytes maxL ret).before a0 Z = true) (wz : (Cond.initialized y.cls).before a0 Z = true) (hf : rm.frames + 1 ≤ R.frames) (hl : W + (maxL + 11) + rm.locals ≤ R.locals) :
    BackS l R p e below s args y len W (fun A a => a = as' ∧ A.U.heap = h ∧ A.cells + rm.cells ≤ R.cells ∧ A.slots + rm.slots ≤ R.slots)
      (fun A _ v B => ∃ L, Q v B.U.heap L ∧ B.locs = A.locs ++ L ∧ B.cells = A.cells + rm.cells ∧ B.slots = A.slots + rm.slots) :=
  BackS.of_freeW (bytes := bytes) (maxL := maxL) (ret := ret) (E := fun _ _ o t L k n => k = rm.cells ∧ n = rm.slots ∧ ∃ v, o = .returned v ∧ Q v t.heap L) hM hf hl
    (fun m meth c A a Y hp => have hU : Z.Warmed39 A.U.vm := wtrans hZ Y.warmed
      ⟨by show (Cond.and _ .tt).before a A.U = true; rw [Cond.before_and, mv hU wc]; rfl, mv hU wc, mv hU wz, hp.2.2.1, hp.2.2.2⟩)
    (fun m meth c A a g mk Y hp => ⟨hp.1, wtrans hZ Y.warmed, hp.2.1⟩) (fun _ _ _ _ _ _ _ _ _ => trivial)
    (fun _ _ _ _ ⟨v, L, h1, h2, h3⟩ => ⟨L, _, _, h3, rfl, rfl, v, h1, h2⟩)
    (fun m meth c A a g mk v t L k n Y hp _ _ ⟨e1, e2, v', e3, e4⟩ => by cases e3; subst e1 e2; exact ⟨L, e4, rfl, rfl, rfl⟩)
theorem own_callSW {vm0 : Vm} {j : Nat} (X : Stand p l e R (s.setVm vm0) m args below meth c T locs cells slots) (hS : s.Since vm0 j) (hj : j ≤ h.size) (hx : p.tables.exec = Jvm.exec) (hZ : Z.Warmed39 (s.setVm vm0).vm) (hown : (s.setVm vm0).vm.findClass own = some m.cls) (wl : (Cond.methodLink own index y).before a0 Z = true) (ws : (Cond.static y).before a0 Z = true) (wi : (Cond.initialized y.cls).before a0 Z = true) (wc : (Cond.code y bytes maxL ret).before a0 Z = true)
    (hy : y.cls ≠ "java/lang/invoke/MethodHandle" ∧ y.cls ≠ "java/lang/invoke/VarHandle") (eT : T.heap = h) (hM : own_MetW l Z y bytes maxL ret [] rm argsL.toArray h Q) (hf : rm.frames + 1 ≤ R.frames) (hl : W + (maxL + 11) + rm.locals ≤ R.locals) (hc : cells + rm.cells ≤ R.cells) (hn : slots + rm.slots ≤ R.slots)
    (hpd : parseMethodDescriptor y.desc = some ⟨ps, r0⟩) (hlen : argsL.length = ps.length) (hg : g.method = m) (hsize : g.locals.size = c.maxLocals) (hstack : g.stack = argsL.reverse ++ rest) (hW : 2 * g.monitorRoom + (rest.map fun v => v.category).sum ≤ W) (hd : decode c.code g.pc = .ok (.invokestatic index, 3)) :
    ∃ (v : Option Value) (T' : State) (L : List Loc), Stand p l e R (s.setVm T'.vm) m args below meth c T' (locs ++ L) (cells + rm.cells) (slots + rm.slots) ∧ s.Since T'.vm T'.heap.size ∧ Z.Warmed39 (s.setVm T'.vm).vm ∧ (s.setVm T'.vm).vm.findClass own = some m.cls ∧ Q v T'.heap L ∧ ∀ target, Steps p.tables e below (T'.setTop { g with pc := g.pc + 3, stack := v.toList ++ rest }) target → Steps p.tables e below (T.setTop g) target := by
  have hcode : (Cond.code y bytes maxL ret).before args (s.setVm vm0) = true := mvT hZ wc
  obtain ⟨mk, hnamed⟩ := Cond.code_named hcode
  obtain ⟨methM, cM, hmethM, -, -, -, -, -, -, hsigM⟩ := Cond.code_spec hnamed hcode
  obtain ⟨v, vm₁, ⟨T1, L1, k1, n1⟩, -, X1, hS1, hgr, ⟨Lc, hQ, l1, y1, z1⟩, st⟩ := X.staticBackS hx (y := y) hown (mvT hZ wl) (mvT hZ ws) (mvT hZ wi) hnamed hmethM hsigM hy (own_backW (W := W) hM hZ wc wi hf hl) hg hsize (Steps.refl _) (lenOf hpd hlen) hstack hW hd (fun _ _ => ⟨rfl, eT, hc, hn⟩)
  dsimp only [Pt.U, Pt.locs, Pt.cells, Pt.slots] at X1 hS1 hgr l1 y1 z1 st hQ
  subst l1 y1 z1
  exact ⟨v, T1, Lc, X1, hS.trans hS1 (Nat.le_trans hj (by rw [← eT]; exact hgr)), State.Warmed39.trans (t := s.setVm vm0) hZ hS1.1, by rw [show (s.setVm T1.vm).vm = T1.vm from rfl, hS1.1.alike.findClass]; exact hown, hQ, fun _ k => st.trans k⟩
end OwnCallW
theorem own_ef1 (m : MethodId)  : entryFrame m #[] 0 = mkF m 0 #[] [] := by first | (simp [entryFrame, mkF, argsToLocals, Value.category]; done) | rfl
theorem own_d1_0 : decode jdk_72_method_26_code 0 = .ok (.getstatic 81, 3) := by decide +kernel
theorem own_d1_3 : decode jdk_72_method_26_code 3 = .ok (.areturn, 1) := by decide +kernel
theorem own_pn0 : plainName "java/util/Map" = true := by first | (simp [plainName, overriddenIn]; done) | decide +kernel
def own_Q1 (Z : State) (em : Addr) (h0 : Heap) (n0 : Nat) (v : Option Value) (h : Heap) (L : List Loc) : Prop := v = some (.ref em) ∧ Fr n0 L ∧ h = h0
set_option maxRecDepth 65536 in
set_option maxHeartbeats 40000000 in
theorem own_rm1 (l : Launch) (Z : State) (a0 : Array Value) (hw : ∀ d ∈ tables_1, d.before a0 Z = true) (ws : List Jvm.Cond)  (h0 : Heap) (n0 : Nat) (em : Addr) (O : Old Z n0 h0) (Sm : Sta Z Z.heap "java/util/ImmutableCollections" "EMPTY_MAP" "Ljava/util/ImmutableCollections$MapN;" (.ref em)) (Em : Exa Z Z.heap em "java/util/ImmutableCollections$MapN") :
    own_Met l Z (⟨"java/util/Map", "of", "()Ljava/util/Map;"⟩ : MethodName) jdk_72_method_26_code 0 (some (.object "java/util/Map")) ws ({ frames := 0, cells := 0, slots := 0, locals := 0 } : Room) #[] h0 (own_Q1 Z em h0 n0) := by
  refine own_met (plainFor_of_name own_pn0) ?_
  intro p e s m below meth c s₁ X0 hx hZ hby hml hown hnm hret hlk e0
  have N0 := Fr.nil n0
  refine own_go (fun t k => castTop (own_ef1 m ) k) ?_
  show own_Go _ _ _ _ s₁ (mkF m 0 #[] [])
  obtain ⟨Tz1, Xz1, ez1, stz1⟩ := getS2 X0 hx hZ hown (host := "") (Or.inl (hw _ (List.mem_of_getElem? (i := 15) rfl))) Via.refl e0 (Sm.ext O.2) (g := (mkF m 0 #[] [])) rfl (hb hby own_d1_0)
  refine own_go stz1 ?_
  show own_Go _ _ _ _ Tz1 (mkF m 3 #[] [(.ref em)])
  exact own_end Xz1 hlk (v := (some (.ref em))) (fun h => by rw [hret] at h; cases h) (fun fs hr => retOut Xz1 hx hret rfl (Or.inr (Or.inr (Or.inr (Or.inr ⟨rfl, rfl, rfl⟩)))) (hb hby own_d1_3) hr) (by rw [ez1]; exact ⟨rfl, N0, rfl⟩) (by decide) (by decide)
theorem own_ef4 (m : MethodId) (a1 : Addr) : entryFrame m #[(.ref a1)] 1 = mkF m 0 #[.val (.ref a1)] [] := by first | (simp [entryFrame, mkF, argsToLocals, Value.category]; done) | rfl
theorem own_d4_0 : decode jdk_72_method_39_code 0 = .ok (.aload_n 0, 1) := by decide +kernel
theorem own_d4_1 : decode jdk_72_method_39_code 1 = .ok (.instanceof 101, 3) := by decide +kernel
theorem own_d4_4 : decode jdk_72_method_39_code 4 = .ok (.ifCond .eq 5, 3) := by decide +kernel
theorem own_d4_7 : decode jdk_72_method_39_code 7 = .ok (.aload_n 0, 1) := by decide +kernel
theorem own_d4_8 : decode jdk_72_method_39_code 8 = .ok (.areturn, 1) := by decide +kernel
def own_Q4 (Z : State) (a1 : Addr) (h0 : Heap) (n0 : Nat) (v : Option Value) (h : Heap) (L : List Loc) : Prop := v = some (.ref a1) ∧ Fr n0 L ∧ h = h0
set_option maxRecDepth 65536 in
set_option maxHeartbeats 40000000 in
theorem own_rm4 (l : Launch) (Z : State) (a0 : Array Value) (hw : ∀ d ∈ tables_1, d.before a0 Z = true) (ws : List Jvm.Cond) (a1 : Addr) (h0 : Heap) (n0 : Nat) (Em : Exa Z h0 a1 "java/util/ImmutableCollections$MapN") :
    own_Met l Z (⟨"java/util/Map", "copyOf", "(Ljava/util/Map;)Ljava/util/Map;"⟩ : MethodName) jdk_72_method_39_code 1 (some (.object "java/util/Map")) ws ({ frames := 0, cells := 0, slots := 0, locals := 0 } : Room) #[(.ref a1)] h0 (own_Q4 Z a1 h0 n0) := by
  refine own_met (plainFor_of_name own_pn0) ?_
  intro p e s m below meth c s₁ X0 hx hZ hby hml hown hnm hret hlk e0
  have N0 := Fr.nil n0
  refine own_go (fun t k => castTop (own_ef4 m a1) k) ?_
  show own_Go _ _ _ _ s₁ (mkF m 0 #[.val (.ref a1)] [])
  refine own_go (fun _ k => XS.aloadN X0.here hx rfl (hb hby own_d4_0) rfl rfl k) ?_
  show own_Go _ _ _ _ s₁ (mkF m 1 #[.val (.ref a1)] [(.ref a1)])
  obtain ⟨Tz2, Xz2, ez2, stz2⟩ := instY X0 hx hZ hown (hw _ (List.mem_of_getElem? (i := 38) rfl)) e0 (Ins.of_exa Em (hw _ (List.mem_of_getElem? (i := 39) rfl))) (g := (mkF m 1 #[.val (.ref a1)] [(.ref a1)])) rfl rfl (hb hby own_d4_1)
  refine own_go stz2 ?_
  show own_Go _ _ _ _ Tz2 (mkF m 4 #[.val (.ref a1)] [(.int (1 : Int32))])
  refine own_go (fun _ k => XS.ifNo Xz2.here hx rfl (hb hby own_d4_4) rfl ((if0 _ _).trans (feq (by decide : ¬ ((1 : Int32) = (0 : Int32)))).1) k) ?_
  show own_Go _ _ _ _ Tz2 (mkF m 7 #[.val (.ref a1)] [])
  refine own_go (fun _ k => XS.aloadN Xz2.here hx rfl (hb hby own_d4_7) rfl rfl k) ?_
  show own_Go _ _ _ _ Tz2 (mkF m 8 #[.val (.ref a1)] [(.ref a1)])
  exact own_end Xz2 hlk (v := (some (.ref a1))) (fun h => by rw [hret] at h; cases h) (fun fs hr => retOut Xz2 hx hret rfl (Or.inr (Or.inr (Or.inr (Or.inr ⟨rfl, rfl, rfl⟩)))) (hb hby own_d4_8) hr) (by rw [ez2]; exact ⟨rfl, N0, rfl⟩) (by decide) (by decide)
theorem own_ef2 (m : MethodId) (a1 : Addr) (p2 : Int32) (a3 : Addr) (p4 : Int32) (p5 : Int32) (p6 : Int32) (em : Addr) (a9 : Addr) : entryFrame m #[(.ref a1), (.int p2), (.ref a3), (.int p4), (.int p5), (.int p6), .null, (.ref em), (.ref a9)] 9 = mkF m 0 #[.val (.ref a1), .val (.int p2), .val (.ref a3), .val (.int p4), .val (.int p5), .val (.int p6), .val .null, .val (.ref em), .val (.ref a9)] [] := by first | (simp [entryFrame, mkF, argsToLocals, Value.category]; done) | rfl
theorem own_d2_0 : decode prog_11_method_1_code 0 = .ok (.aload_n 0, 1) := by decide +kernel
theorem own_d2_1 : decode prog_11_method_1_code 1 = .ok (.invokespecial 1, 3) := by decide +kernel
theorem own_d2_4 : decode prog_11_method_1_code 4 = .ok (.aload_n 0, 1) := by decide +kernel
theorem own_d2_5 : decode prog_11_method_1_code 5 = .ok (.iload_n 1, 1) := by decide +kernel
theorem own_d2_6 : decode prog_11_method_1_code 6 = .ok (.putfield 7, 3) := by decide +kernel
theorem own_d2_9 : decode prog_11_method_1_code 9 = .ok (.aload_n 0, 1) := by decide +kernel
theorem own_d2_10 : decode prog_11_method_1_code 10 = .ok (.aload_n 2, 1) := by decide +kernel
theorem own_d2_11 : decode prog_11_method_1_code 11 = .ok (.putfield 13, 3) := by decide +kernel
theorem own_d2_14 : decode prog_11_method_1_code 14 = .ok (.aload_n 0, 1) := by decide +kernel
theorem own_d2_15 : decode prog_11_method_1_code 15 = .ok (.iload_n 3, 1) := by decide +kernel
theorem own_d2_16 : decode prog_11_method_1_code 16 = .ok (.putfield 17, 3) := by decide +kernel
theorem own_d2_19 : decode prog_11_method_1_code 19 = .ok (.aload_n 0, 1) := by decide +kernel
theorem own_d2_20 : decode prog_11_method_1_code 20 = .ok (.iload 4, 2) := by decide +kernel
theorem own_d2_22 : decode prog_11_method_1_code 22 = .ok (.putfield 20, 3) := by decide +kernel
theorem own_d2_25 : decode prog_11_method_1_code 25 = .ok (.aload_n 0, 1) := by decide +kernel
theorem own_d2_26 : decode prog_11_method_1_code 26 = .ok (.iload 5, 2) := by decide +kernel
theorem own_d2_28 : decode prog_11_method_1_code 28 = .ok (.putfield 23, 3) := by decide +kernel
theorem own_d2_31 : decode prog_11_method_1_code 31 = .ok (.aload_n 0, 1) := by decide +kernel
theorem own_d2_32 : decode prog_11_method_1_code 32 = .ok (.aload 6, 2) := by decide +kernel
theorem own_d2_34 : decode prog_11_method_1_code 34 = .ok (.putfield 26, 3) := by decide +kernel
theorem own_d2_37 : decode prog_11_method_1_code 37 = .ok (.aload_n 0, 1) := by decide +kernel
theorem own_d2_38 : decode prog_11_method_1_code 38 = .ok (.aload 7, 2) := by decide +kernel
theorem own_d2_40 : decode prog_11_method_1_code 40 = .ok (.invokestatic 29, 3) := by decide +kernel
theorem own_pd0 : parseMethodDescriptor "(Ljava/util/Map;)Ljava/util/Map;" = some ⟨[(.object "java/util/Map")], some (.object "java/util/Map")⟩ := by decide +kernel
theorem own_d2_43 : decode prog_11_method_1_code 43 = .ok (.putfield 35, 3) := by decide +kernel
theorem own_d2_46 : decode prog_11_method_1_code 46 = .ok (.aload_n 0, 1) := by decide +kernel
theorem own_d2_47 : decode prog_11_method_1_code 47 = .ok (.aload 8, 2) := by decide +kernel
theorem own_d2_49 : decode prog_11_method_1_code 49 = .ok (.putfield 39, 3) := by decide +kernel
theorem own_d2_52 : decode prog_11_method_1_code 52 = .ok (.return_, 1) := by decide +kernel
theorem own_pn1 : plainName "com/example/planaria/planaria/remoting/RemotingCommand" = true := by first | (simp [plainName, overriddenIn]; done) | decide +kernel
def own_Q2 (Z : State) (a1 : Addr) (p4 : Int32) (p5 : Int32) (p6 : Int32) (h0 : Heap) (n0 : Nat) (v : Option Value) (h : Heap) (L : List Loc) : Prop := v = none ∧ Fr n0 L ∧ Keep h0 h [a1] ∧ Exa Z h a1 "com/example/planaria/planaria/remoting/RemotingCommand" ∧ Fld Z h a1 "com/example/planaria/planaria/remoting/RemotingCommand" "version" "I" (.int p4) ∧ Fld Z h a1 "com/example/planaria/planaria/remoting/RemotingCommand" "opaque" "I" (.int p5) ∧ Fld Z h a1 "com/example/planaria/planaria/remoting/RemotingCommand" "flag" "I" (.int p6)
set_option maxRecDepth 65536 in
set_option maxHeartbeats 40000000 in
theorem own_rm2 (l : Launch) (Z : State) (a0 : Array Value) (hw : ∀ d ∈ tables_1, d.before a0 Z = true) (ws : List Jvm.Cond) (a1 : Addr) (p2 : Int32) (a3 : Addr) (p4 : Int32) (p5 : Int32) (p6 : Int32) (em : Addr) (a9 : Addr) (h0 : Heap) (n0 : Nat) (O : Old Z n0 h0) (Sm : Sta Z Z.heap "java/util/ImmutableCollections" "EMPTY_MAP" "Ljava/util/ImmutableCollections$MapN;" (.ref em)) (Em : Exa Z Z.heap em "java/util/ImmutableCollections$MapN") (g_a1 : n0 ≤ a1) (E_a1 : Exa Z h0 a1 "com/example/planaria/planaria/remoting/RemotingCommand") (F_code_a1 : Fld Z h0 a1 "com/example/planaria/planaria/remoting/RemotingCommand" "code" "I" (.int (0 : Int32))) (F_language_a1 : Fld Z h0 a1 "com/example/planaria/planaria/remoting/RemotingCommand" "language" "Ljava/lang/String;" .null) (F_version_a1 : Fld Z h0 a1 "com/example/planaria/planaria/remoting/RemotingCommand" "version" "I" (.int (0 : Int32))) (F_opaque_a1 : Fld Z h0 a1 "com/example/planaria/planaria/remoting/RemotingCommand" "opaque" "I" (.int (0 : Int32))) (F_flag_a1 : Fld Z h0 a1 "com/example/planaria/planaria/remoting/RemotingCommand" "flag" "I" (.int (0 : Int32))) (F_remark_a1 : Fld Z h0 a1 "com/example/planaria/planaria/remoting/RemotingCommand" "remark" "Ljava/lang/String;" .null) (F_extFields_a1 : Fld Z h0 a1 "com/example/planaria/planaria/remoting/RemotingCommand" "extFields" "Ljava/util/Map;" .null) (F_body_a1 : Fld Z h0 a1 "com/example/planaria/planaria/remoting/RemotingCommand" "body" "[B" .null) :
    own_Met l Z (⟨"com/example/planaria/planaria/remoting/RemotingCommand", "<init>", "(ILjava/lang/String;IIILjava/lang/String;Ljava/util/Map;[B)V"⟩ : MethodName) prog_11_method_1_code 9 none ws ({ frames := 1, cells := 0, slots := 0, locals := 24 } : Room) #[(.ref a1), (.int p2), (.ref a3), (.int p4), (.int p5), (.int p6), .null, (.ref em), (.ref a9)] h0 (own_Q2 Z a1 p4 p5 p6 h0 n0) := by
  refine own_met (plainFor_of_name own_pn1) ?_
  intro p e s m below meth c s₁ X0 hx hZ hby hml hown hnm hret hlk e0
  have N0 := Fr.nil n0
  refine own_go (fun t k => castTop (own_ef2 m a1 p2 a3 p4 p5 p6 em a9) k) ?_
  have K := Keep.refl h0 [a1]
  show own_Go _ _ _ _ s₁ (mkF m 0 #[.val (.ref a1), .val (.int p2), .val (.ref a3), .val (.int p4), .val (.int p5), .val (.int p6), .val .null, .val (.ref em), .val (.ref a9)] [])
  refine own_go (fun _ k => XS.aloadN X0.here hx rfl (hb hby own_d2_0) rfl rfl k) ?_
  show own_Go _ _ _ _ s₁ (mkF m 1 #[.val (.ref a1), .val (.int p2), .val (.ref a3), .val (.int p4), .val (.int p5), .val (.int p6), .val .null, .val (.ref em), .val (.ref a9)] [(.ref a1)])
  obtain ⟨Tz3, Xz3, ez3, stz3⟩ := initO X0 hx hZ hown (hw _ (List.mem_of_getElem? (i := 20) rfl)) (hw _ (List.mem_of_getElem? (i := 21) rfl)) (hw _ (List.mem_of_getElem? (i := 22) rfl)) e0 (g := (mkF m 1 #[.val (.ref a1), .val (.int p2), .val (.ref a3), .val (.int p4), .val (.int p5), .val (.int p6), .val .null, .val (.ref em), .val (.ref a9)] [(.ref a1)])) rfl (by rw [hml]; rfl) rfl (hb hby own_d2_1) (by decide) (W := 0) (by show 2 * 0 + _ ≤ _; exact Nat.le_of_eq rfl) (by decide)
  refine own_go stz3 ?_
  show own_Go _ _ _ _ Tz3 (mkF m 4 #[.val (.ref a1), .val (.int p2), .val (.ref a3), .val (.int p4), .val (.int p5), .val (.int p6), .val .null, .val (.ref em), .val (.ref a9)] [])
  refine own_go (fun _ k => XS.aloadN Xz3.here hx rfl (hb hby own_d2_4) rfl rfl k) ?_
  show own_Go _ _ _ _ Tz3 (mkF m 5 #[.val (.ref a1), .val (.int p2), .val (.ref a3), .val (.int p4), .val (.int p5), .val (.int p6), .val .null, .val (.ref em), .val (.ref a9)] [(.ref a1)])
  refine own_go (fun _ k => XS.iloadN Xz3.here hx rfl (hb hby own_d2_5) rfl k) ?_
  show own_Go _ _ _ _ Tz3 (mkF m 6 #[.val (.ref a1), .val (.int p2), .val (.ref a3), .val (.int p4), .val (.int p5), .val (.int p6), .val .null, .val (.ref em), .val (.ref a9)] [(.int p2), (.ref a1)])
  obtain ⟨Tz4, hz4, Xz4, ez4, Wz4, stz4⟩ := putF Xz3 hx hZ hown (host := "") (Or.inl (hw _ (List.mem_of_getElem? (i := 23) rfl))) Via.refl ez3 F_code_a1 E_a1 (Or.inr ⟨(hw _ (List.mem_of_getElem? (i := 24) rfl)), rfl, hnm⟩) (hw _ (List.mem_of_getElem? (i := 1) rfl)) (ty := .int) (by decide) rfl rfl (g := (mkF m 6 #[.val (.ref a1), .val (.int p2), .val (.ref a3), .val (.int p4), .val (.int p5), .val (.int p6), .val .null, .val (.ref em), .val (.ref a9)] [(.int p2), (.ref a1)])) rfl rfl (hb hby own_d2_6)
  refine own_go stz4 ?_
  have Nz4 := Fr.snoc Xz4 N0 g_a1
  have F_code_a1_ := F_code_a1.same Wz4
  have O := O.wr Wz4 g_a1
  have E_a1 := E_a1.wr Wz4
  have F_language_a1 := F_language_a1.other Wz4 (Or.inr (slot_ne (Or.inr (hw _ (List.mem_of_getElem? (i := 26) rfl))) (Or.inr (hw _ (List.mem_of_getElem? (i := 24) rfl))) (by decide) (t := (.object "java/lang/String")) (t' := .int) (by decide) (by decide)))
  have F_version_a1 := F_version_a1.other Wz4 (Or.inr (slot_ne (Or.inr (hw _ (List.mem_of_getElem? (i := 28) rfl))) (Or.inr (hw _ (List.mem_of_getElem? (i := 24) rfl))) (by decide) (t := .int) (t' := .int) (by decide) (by decide)))
  have F_opaque_a1 := F_opaque_a1.other Wz4 (Or.inr (slot_ne (Or.inr (hw _ (List.mem_of_getElem? (i := 30) rfl))) (Or.inr (hw _ (List.mem_of_getElem? (i := 24) rfl))) (by decide) (t := .int) (t' := .int) (by decide) (by decide)))
  have F_flag_a1 := F_flag_a1.other Wz4 (Or.inr (slot_ne (Or.inr (hw _ (List.mem_of_getElem? (i := 32) rfl))) (Or.inr (hw _ (List.mem_of_getElem? (i := 24) rfl))) (by decide) (t := .int) (t' := .int) (by decide) (by decide)))
  have F_remark_a1 := F_remark_a1.other Wz4 (Or.inr (slot_ne (Or.inr (hw _ (List.mem_of_getElem? (i := 34) rfl))) (Or.inr (hw _ (List.mem_of_getElem? (i := 24) rfl))) (by decide) (t := (.object "java/lang/String")) (t' := .int) (by decide) (by decide)))
  have F_extFields_a1 := F_extFields_a1.other Wz4 (Or.inr (slot_ne (Or.inr (hw _ (List.mem_of_getElem? (i := 41) rfl))) (Or.inr (hw _ (List.mem_of_getElem? (i := 24) rfl))) (by decide) (t := (.object "java/util/Map")) (t' := .int) (by decide) (by decide)))
  have F_body_a1 := F_body_a1.other Wz4 (Or.inr (slot_ne (Or.inr (hw _ (List.mem_of_getElem? (i := 43) rfl))) (Or.inr (hw _ (List.mem_of_getElem? (i := 24) rfl))) (by decide) (t := (.array .byte)) (t' := .int) (by decide) (by decide)))
  have K := K.wr Wz4 (Or.inl (List.mem_of_getElem? (i := 0) rfl))
  have F_code_a1 := F_code_a1_
  show own_Go _ _ _ _ Tz4 (mkF m 9 #[.val (.ref a1), .val (.int p2), .val (.ref a3), .val (.int p4), .val (.int p5), .val (.int p6), .val .null, .val (.ref em), .val (.ref a9)] [])
  refine own_go (fun _ k => XS.aloadN Xz4.here hx rfl (hb hby own_d2_9) rfl rfl k) ?_
  show own_Go _ _ _ _ Tz4 (mkF m 10 #[.val (.ref a1), .val (.int p2), .val (.ref a3), .val (.int p4), .val (.int p5), .val (.int p6), .val .null, .val (.ref em), .val (.ref a9)] [(.ref a1)])
  refine own_go (fun _ k => XS.aloadN Xz4.here hx rfl (hb hby own_d2_10) rfl rfl k) ?_
  show own_Go _ _ _ _ Tz4 (mkF m 11 #[.val (.ref a1), .val (.int p2), .val (.ref a3), .val (.int p4), .val (.int p5), .val (.int p6), .val .null, .val (.ref em), .val (.ref a9)] [(.ref a3), (.ref a1)])
  obtain ⟨Tz5, hz5, Xz5, ez5, Wz5, stz5⟩ := putF Xz4 hx hZ hown (host := "") (Or.inl (hw _ (List.mem_of_getElem? (i := 25) rfl))) Via.refl ez4 F_language_a1 E_a1 (Or.inr ⟨(hw _ (List.mem_of_getElem? (i := 26) rfl)), rfl, hnm⟩) (hw _ (List.mem_of_getElem? (i := 1) rfl)) (ty := (.object "java/lang/String")) (by decide) rfl rfl (g := (mkF m 11 #[.val (.ref a1), .val (.int p2), .val (.ref a3), .val (.int p4), .val (.int p5), .val (.int p6), .val .null, .val (.ref em), .val (.ref a9)] [(.ref a3), (.ref a1)])) rfl rfl (hb hby own_d2_11)
  refine own_go stz5 ?_
  have Nz5 := Fr.snoc Xz5 Nz4 g_a1
  have F_language_a1_ := F_language_a1.same Wz5
  have O := O.wr Wz5 g_a1
  have E_a1 := E_a1.wr Wz5
  have F_version_a1 := F_version_a1.other Wz5 (Or.inr (slot_ne (Or.inr (hw _ (List.mem_of_getElem? (i := 28) rfl))) (Or.inr (hw _ (List.mem_of_getElem? (i := 26) rfl))) (by decide) (t := .int) (t' := (.object "java/lang/String")) (by decide) (by decide)))
  have F_opaque_a1 := F_opaque_a1.other Wz5 (Or.inr (slot_ne (Or.inr (hw _ (List.mem_of_getElem? (i := 30) rfl))) (Or.inr (hw _ (List.mem_of_getElem? (i := 26) rfl))) (by decide) (t := .int) (t' := (.object "java/lang/String")) (by decide) (by decide)))
  have F_flag_a1 := F_flag_a1.other Wz5 (Or.inr (slot_ne (Or.inr (hw _ (List.mem_of_getElem? (i := 32) rfl))) (Or.inr (hw _ (List.mem_of_getElem? (i := 26) rfl))) (by decide) (t := .int) (t' := (.object "java/lang/String")) (by decide) (by decide)))
  have F_remark_a1 := F_remark_a1.other Wz5 (Or.inr (slot_ne (Or.inr (hw _ (List.mem_of_getElem? (i := 34) rfl))) (Or.inr (hw _ (List.mem_of_getElem? (i := 26) rfl))) (by decide) (t := (.object "java/lang/String")) (t' := (.object "java/lang/String")) (by decide) (by decide)))
  have F_extFields_a1 := F_extFields_a1.other Wz5 (Or.inr (slot_ne (Or.inr (hw _ (List.mem_of_getElem? (i := 41) rfl))) (Or.inr (hw _ (List.mem_of_getElem? (i := 26) rfl))) (by decide) (t := (.object "java/util/Map")) (t' := (.object "java/lang/String")) (by decide) (by decide)))
  have F_body_a1 := F_body_a1.other Wz5 (Or.inr (slot_ne (Or.inr (hw _ (List.mem_of_getElem? (i := 43) rfl))) (Or.inr (hw _ (List.mem_of_getElem? (i := 26) rfl))) (by decide) (t := (.array .byte)) (t' := (.object "java/lang/String")) (by decide) (by decide)))
  have K := K.wr Wz5 (Or.inl (List.mem_of_getElem? (i := 0) rfl))
  have F_language_a1 := F_language_a1_
  show own_Go _ _ _ _ Tz5 (mkF m 14 #[.val (.ref a1), .val (.int p2), .val (.ref a3), .val (.int p4), .val (.int p5), .val (.int p6), .val .null, .val (.ref em), .val (.ref a9)] [])
  refine own_go (fun _ k => XS.aloadN Xz5.here hx rfl (hb hby own_d2_14) rfl rfl k) ?_
  show own_Go _ _ _ _ Tz5 (mkF m 15 #[.val (.ref a1), .val (.int p2), .val (.ref a3), .val (.int p4), .val (.int p5), .val (.int p6), .val .null, .val (.ref em), .val (.ref a9)] [(.ref a1)])
  refine own_go (fun _ k => XS.iloadN Xz5.here hx rfl (hb hby own_d2_15) rfl k) ?_
  show own_Go _ _ _ _ Tz5 (mkF m 16 #[.val (.ref a1), .val (.int p2), .val (.ref a3), .val (.int p4), .val (.int p5), .val (.int p6), .val .null, .val (.ref em), .val (.ref a9)] [(.int p4), (.ref a1)])
  obtain ⟨Tz6, hz6, Xz6, ez6, Wz6, stz6⟩ := putF Xz5 hx hZ hown (host := "") (Or.inl (hw _ (List.mem_of_getElem? (i := 27) rfl))) Via.refl ez5 F_version_a1 E_a1 (Or.inr ⟨(hw _ (List.mem_of_getElem? (i := 28) rfl)), rfl, hnm⟩) (hw _ (List.mem_of_getElem? (i := 1) rfl)) (ty := .int) (by decide) rfl rfl (g := (mkF m 16 #[.val (.ref a1), .val (.int p2), .val (.ref a3), .val (.int p4), .val (.int p5), .val (.int p6), .val .null, .val (.ref em), .val (.ref a9)] [(.int p4), (.ref a1)])) rfl rfl (hb hby own_d2_16)
  refine own_go stz6 ?_
  have Nz6 := Fr.snoc Xz6 Nz5 g_a1
  have F_version_a1_ := F_version_a1.same Wz6
  have O := O.wr Wz6 g_a1
  have E_a1 := E_a1.wr Wz6
  have F_opaque_a1 := F_opaque_a1.other Wz6 (Or.inr (slot_ne (Or.inr (hw _ (List.mem_of_getElem? (i := 30) rfl))) (Or.inr (hw _ (List.mem_of_getElem? (i := 28) rfl))) (by decide) (t := .int) (t' := .int) (by decide) (by decide)))
  have F_flag_a1 := F_flag_a1.other Wz6 (Or.inr (slot_ne (Or.inr (hw _ (List.mem_of_getElem? (i := 32) rfl))) (Or.inr (hw _ (List.mem_of_getElem? (i := 28) rfl))) (by decide) (t := .int) (t' := .int) (by decide) (by decide)))
  have F_remark_a1 := F_remark_a1.other Wz6 (Or.inr (slot_ne (Or.inr (hw _ (List.mem_of_getElem? (i := 34) rfl))) (Or.inr (hw _ (List.mem_of_getElem? (i := 28) rfl))) (by decide) (t := (.object "java/lang/String")) (t' := .int) (by decide) (by decide)))
  have F_extFields_a1 := F_extFields_a1.other Wz6 (Or.inr (slot_ne (Or.inr (hw _ (List.mem_of_getElem? (i := 41) rfl))) (Or.inr (hw _ (List.mem_of_getElem? (i := 28) rfl))) (by decide) (t := (.object "java/util/Map")) (t' := .int) (by decide) (by decide)))
  have F_body_a1 := F_body_a1.other Wz6 (Or.inr (slot_ne (Or.inr (hw _ (List.mem_of_getElem? (i := 43) rfl))) (Or.inr (hw _ (List.mem_of_getElem? (i := 28) rfl))) (by decide) (t := (.array .byte)) (t' := .int) (by decide) (by decide)))
  have K := K.wr Wz6 (Or.inl (List.mem_of_getElem? (i := 0) rfl))
  have F_version_a1 := F_version_a1_
  show own_Go _ _ _ _ Tz6 (mkF m 19 #[.val (.ref a1), .val (.int p2), .val (.ref a3), .val (.int p4), .val (.int p5), .val (.int p6), .val .null, .val (.ref em), .val (.ref a9)] [])
  refine own_go (fun _ k => XS.aloadN Xz6.here hx rfl (hb hby own_d2_19) rfl rfl k) ?_
  show own_Go _ _ _ _ Tz6 (mkF m 20 #[.val (.ref a1), .val (.int p2), .val (.ref a3), .val (.int p4), .val (.int p5), .val (.int p6), .val .null, .val (.ref em), .val (.ref a9)] [(.ref a1)])
  refine own_go (fun _ k => XS.iload Xz6.here hx rfl (hb hby own_d2_20) rfl k) ?_
  show own_Go _ _ _ _ Tz6 (mkF m 22 #[.val (.ref a1), .val (.int p2), .val (.ref a3), .val (.int p4), .val (.int p5), .val (.int p6), .val .null, .val (.ref em), .val (.ref a9)] [(.int p5), (.ref a1)])
  obtain ⟨Tz7, hz7, Xz7, ez7, Wz7, stz7⟩ := putF Xz6 hx hZ hown (host := "") (Or.inl (hw _ (List.mem_of_getElem? (i := 29) rfl))) Via.refl ez6 F_opaque_a1 E_a1 (Or.inr ⟨(hw _ (List.mem_of_getElem? (i := 30) rfl)), rfl, hnm⟩) (hw _ (List.mem_of_getElem? (i := 1) rfl)) (ty := .int) (by decide) rfl rfl (g := (mkF m 22 #[.val (.ref a1), .val (.int p2), .val (.ref a3), .val (.int p4), .val (.int p5), .val (.int p6), .val .null, .val (.ref em), .val (.ref a9)] [(.int p5), (.ref a1)])) rfl rfl (hb hby own_d2_22)
  refine own_go stz7 ?_
  have Nz7 := Fr.snoc Xz7 Nz6 g_a1
  have F_opaque_a1_ := F_opaque_a1.same Wz7
  have O := O.wr Wz7 g_a1
  have E_a1 := E_a1.wr Wz7
  have F_flag_a1 := F_flag_a1.other Wz7 (Or.inr (slot_ne (Or.inr (hw _ (List.mem_of_getElem? (i := 32) rfl))) (Or.inr (hw _ (List.mem_of_getElem? (i := 30) rfl))) (by decide) (t := .int) (t' := .int) (by decide) (by decide)))
  have F_remark_a1 := F_remark_a1.other Wz7 (Or.inr (slot_ne (Or.inr (hw _ (List.mem_of_getElem? (i := 34) rfl))) (Or.inr (hw _ (List.mem_of_getElem? (i := 30) rfl))) (by decide) (t := (.object "java/lang/String")) (t' := .int) (by decide) (by decide)))
  have F_extFields_a1 := F_extFields_a1.other Wz7 (Or.inr (slot_ne (Or.inr (hw _ (List.mem_of_getElem? (i := 41) rfl))) (Or.inr (hw _ (List.mem_of_getElem? (i := 30) rfl))) (by decide) (t := (.object "java/util/Map")) (t' := .int) (by decide) (by decide)))
  have F_body_a1 := F_body_a1.other Wz7 (Or.inr (slot_ne (Or.inr (hw _ (List.mem_of_getElem? (i := 43) rfl))) (Or.inr (hw _ (List.mem_of_getElem? (i := 30) rfl))) (by decide) (t := (.array .byte)) (t' := .int) (by decide) (by decide)))
  have K := K.wr Wz7 (Or.inl (List.mem_of_getElem? (i := 0) rfl))
  have F_version_a1 := F_version_a1.other Wz7 (Or.inr (slot_ne (Or.inr (hw _ (List.mem_of_getElem? (i := 28) rfl))) (Or.inr (hw _ (List.mem_of_getElem? (i := 30) rfl))) (by decide) (t := .int) (t' := .int) (by decide) (by decide)))
  have F_opaque_a1 := F_opaque_a1_
  show own_Go _ _ _ _ Tz7 (mkF m 25 #[.val (.ref a1), .val (.int p2), .val (.ref a3), .val (.int p4), .val (.int p5), .val (.int p6), .val .null, .val (.ref em), .val (.ref a9)] [])
  refine own_go (fun _ k => XS.aloadN Xz7.here hx rfl (hb hby own_d2_25) rfl rfl k) ?_
  show own_Go _ _ _ _ Tz7 (mkF m 26 #[.val (.ref a1), .val (.int p2), .val (.ref a3), .val (.int p4), .val (.int p5), .val (.int p6), .val .null, .val (.ref em), .val (.ref a9)] [(.ref a1)])
  refine own_go (fun _ k => XS.iload Xz7.here hx rfl (hb hby own_d2_26) rfl k) ?_
  show own_Go _ _ _ _ Tz7 (mkF m 28 #[.val (.ref a1), .val (.int p2), .val (.ref a3), .val (.int p4), .val (.int p5), .val (.int p6), .val .null, .val (.ref em), .val (.ref a9)] [(.int p6), (.ref a1)])
  obtain ⟨Tz8, hz8, Xz8, ez8, Wz8, stz8⟩ := putF Xz7 hx hZ hown (host := "") (Or.inl (hw _ (List.mem_of_getElem? (i := 31) rfl))) Via.refl ez7 F_flag_a1 E_a1 (Or.inr ⟨(hw _ (List.mem_of_getElem? (i := 32) rfl)), rfl, hnm⟩) (hw _ (List.mem_of_getElem? (i := 1) rfl)) (ty := .int) (by decide) rfl rfl (g := (mkF m 28 #[.val (.ref a1), .val (.int p2), .val (.ref a3), .val (.int p4), .val (.int p5), .val (.int p6), .val .null, .val (.ref em), .val (.ref a9)] [(.int p6), (.ref a1)])) rfl rfl (hb hby own_d2_28)
  refine own_go stz8 ?_
  have Nz8 := Fr.snoc Xz8 Nz7 g_a1
  have F_flag_a1_ := F_flag_a1.same Wz8
  have O := O.wr Wz8 g_a1
  have E_a1 := E_a1.wr Wz8
  have F_remark_a1 := F_remark_a1.other Wz8 (Or.inr (slot_ne (Or.inr (hw _ (List.mem_of_getElem? (i := 34) rfl))) (Or.inr (hw _ (List.mem_of_getElem? (i := 32) rfl))) (by decide) (t := (.object "java/lang/String")) (t' := .int) (by decide) (by decide)))
  have F_extFields_a1 := F_extFields_a1.other Wz8 (Or.inr (slot_ne (Or.inr (hw _ (List.mem_of_getElem? (i := 41) rfl))) (Or.inr (hw _ (List.mem_of_getElem? (i := 32) rfl))) (by decide) (t := (.object "java/util/Map")) (t' := .int) (by decide) (by decide)))
  have F_body_a1 := F_body_a1.other Wz8 (Or.inr (slot_ne (Or.inr (hw _ (List.mem_of_getElem? (i := 43) rfl))) (Or.inr (hw _ (List.mem_of_getElem? (i := 32) rfl))) (by decide) (t := (.array .byte)) (t' := .int) (by decide) (by decide)))
  have K := K.wr Wz8 (Or.inl (List.mem_of_getElem? (i := 0) rfl))
  have F_version_a1 := F_version_a1.other Wz8 (Or.inr (slot_ne (Or.inr (hw _ (List.mem_of_getElem? (i := 28) rfl))) (Or.inr (hw _ (List.mem_of_getElem? (i := 32) rfl))) (by decide) (t := .int) (t' := .int) (by decide) (by decide)))
  have F_opaque_a1 := F_opaque_a1.other Wz8 (Or.inr (slot_ne (Or.inr (hw _ (List.mem_of_getElem? (i := 30) rfl))) (Or.inr (hw _ (List.mem_of_getElem? (i := 32) rfl))) (by decide) (t := .int) (t' := .int) (by decide) (by decide)))
  have F_flag_a1 := F_flag_a1_
  show own_Go _ _ _ _ Tz8 (mkF m 31 #[.val (.ref a1), .val (.int p2), .val (.ref a3), .val (.int p4), .val (.int p5), .val (.int p6), .val .null, .val (.ref em), .val (.ref a9)] [])
  refine own_go (fun _ k => XS.aloadN Xz8.here hx rfl (hb hby own_d2_31) rfl rfl k) ?_
  show own_Go _ _ _ _ Tz8 (mkF m 32 #[.val (.ref a1), .val (.int p2), .val (.ref a3), .val (.int p4), .val (.int p5), .val (.int p6), .val .null, .val (.ref em), .val (.ref a9)] [(.ref a1)])
  refine own_go (fun _ k => XS.aload Xz8.here hx rfl (hb hby own_d2_32) rfl rfl k) ?_
  show own_Go _ _ _ _ Tz8 (mkF m 34 #[.val (.ref a1), .val (.int p2), .val (.ref a3), .val (.int p4), .val (.int p5), .val (.int p6), .val .null, .val (.ref em), .val (.ref a9)] [.null, (.ref a1)])
  obtain ⟨Tz9, hz9, Xz9, ez9, Wz9, stz9⟩ := putF Xz8 hx hZ hown (host := "") (Or.inl (hw _ (List.mem_of_getElem? (i := 33) rfl))) Via.refl ez8 F_remark_a1 E_a1 (Or.inr ⟨(hw _ (List.mem_of_getElem? (i := 34) rfl)), rfl, hnm⟩) (hw _ (List.mem_of_getElem? (i := 1) rfl)) (ty := (.object "java/lang/String")) (by decide) rfl rfl (g := (mkF m 34 #[.val (.ref a1), .val (.int p2), .val (.ref a3), .val (.int p4), .val (.int p5), .val (.int p6), .val .null, .val (.ref em), .val (.ref a9)] [.null, (.ref a1)])) rfl rfl (hb hby own_d2_34)
  refine own_go stz9 ?_
  have Nz9 := Fr.snoc Xz9 Nz8 g_a1
  have F_remark_a1_ := F_remark_a1.same Wz9
  have O := O.wr Wz9 g_a1
  have E_a1 := E_a1.wr Wz9
  have F_extFields_a1 := F_extFields_a1.other Wz9 (Or.inr (slot_ne (Or.inr (hw _ (List.mem_of_getElem? (i := 41) rfl))) (Or.inr (hw _ (List.mem_of_getElem? (i := 34) rfl))) (by decide) (t := (.object "java/util/Map")) (t' := (.object "java/lang/String")) (by decide) (by decide)))
  have F_body_a1 := F_body_a1.other Wz9 (Or.inr (slot_ne (Or.inr (hw _ (List.mem_of_getElem? (i := 43) rfl))) (Or.inr (hw _ (List.mem_of_getElem? (i := 34) rfl))) (by decide) (t := (.array .byte)) (t' := (.object "java/lang/String")) (by decide) (by decide)))
  have K := K.wr Wz9 (Or.inl (List.mem_of_getElem? (i := 0) rfl))
  have F_version_a1 := F_version_a1.other Wz9 (Or.inr (slot_ne (Or.inr (hw _ (List.mem_of_getElem? (i := 28) rfl))) (Or.inr (hw _ (List.mem_of_getElem? (i := 34) rfl))) (by decide) (t := .int) (t' := (.object "java/lang/String")) (by decide) (by decide)))
  have F_opaque_a1 := F_opaque_a1.other Wz9 (Or.inr (slot_ne (Or.inr (hw _ (List.mem_of_getElem? (i := 30) rfl))) (Or.inr (hw _ (List.mem_of_getElem? (i := 34) rfl))) (by decide) (t := .int) (t' := (.object "java/lang/String")) (by decide) (by decide)))
  have F_flag_a1 := F_flag_a1.other Wz9 (Or.inr (slot_ne (Or.inr (hw _ (List.mem_of_getElem? (i := 32) rfl))) (Or.inr (hw _ (List.mem_of_getElem? (i := 34) rfl))) (by decide) (t := .int) (t' := (.object "java/lang/String")) (by decide) (by decide)))
  have F_remark_a1 := F_remark_a1_
  show own_Go _ _ _ _ Tz9 (mkF m 37 #[.val (.ref a1), .val (.int p2), .val (.ref a3), .val (.int p4), .val (.int p5), .val (.int p6), .val .null, .val (.ref em), .val (.ref a9)] [])
  refine own_go (fun _ k => XS.aloadN Xz9.here hx rfl (hb hby own_d2_37) rfl rfl k) ?_
  show own_Go _ _ _ _ Tz9 (mkF m 38 #[.val (.ref a1), .val (.int p2), .val (.ref a3), .val (.int p4), .val (.int p5), .val (.int p6), .val .null, .val (.ref em), .val (.ref a9)] [(.ref a1)])
  refine own_go (fun _ k => XS.aload Xz9.here hx rfl (hb hby own_d2_38) rfl rfl k) ?_
  show own_Go _ _ _ _ Tz9 (mkF m 40 #[.val (.ref a1), .val (.int p2), .val (.ref a3), .val (.int p4), .val (.int p5), .val (.int p6), .val .null, .val (.ref em), .val (.ref a9)] [(.ref em), (.ref a1)])
  obtain ⟨vz10, Tz10, Lz10, Xz10, hQz10, stz10⟩ := own_callS Xz9 hx hZ hown (hw _ (List.mem_of_getElem? (i := 35) rfl)) (hw _ (List.mem_of_getElem? (i := 36) rfl)) (hw _ (List.mem_of_getElem? (i := 13) rfl)) (hw _ (List.mem_of_getElem? (i := 37) rfl)) (by decide) ez9 (own_rm4 l Z a0 hw [] em hz9 n0 (Em.ext O.2)) (W := 1) (by decide) (by decide) (by decide) (by decide) own_pd0 rfl (g := (mkF m 40 #[.val (.ref a1), .val (.int p2), .val (.ref a3), .val (.int p4), .val (.int p5), .val (.int p6), .val .null, .val (.ref em), .val (.ref a9)] [(.ref em), (.ref a1)])) (argsL := [(.ref em)]) (rest := [(.ref a1)]) rfl (by rw [hml]; rfl) rfl (by show 2 * 0 + _ ≤ _; exact Nat.le_of_eq rfl) (hb hby own_d2_40)
  obtain ⟨rfl, Nz10q, ehz10⟩ := hQz10
  have Nz10 := Fr.app Nz9 Nz10q
  refine own_go stz10 ?_
  show own_Go _ _ _ _ Tz10 (mkF m 43 #[.val (.ref a1), .val (.int p2), .val (.ref a3), .val (.int p4), .val (.int p5), .val (.int p6), .val .null, .val (.ref em), .val (.ref a9)] [(.ref em), (.ref a1)])
  obtain ⟨Tz11, hz11, Xz11, ez11, Wz11, stz11⟩ := putF Xz10 hx hZ hown (host := "") (Or.inl (hw _ (List.mem_of_getElem? (i := 40) rfl))) Via.refl ehz10 F_extFields_a1 E_a1 (Or.inr ⟨(hw _ (List.mem_of_getElem? (i := 41) rfl)), rfl, hnm⟩) (hw _ (List.mem_of_getElem? (i := 1) rfl)) (ty := (.object "java/util/Map")) (by decide) rfl rfl (g := (mkF m 43 #[.val (.ref a1), .val (.int p2), .val (.ref a3), .val (.int p4), .val (.int p5), .val (.int p6), .val .null, .val (.ref em), .val (.ref a9)] [(.ref em), (.ref a1)])) rfl rfl (hb hby own_d2_43)
  refine own_go stz11 ?_
  have Nz11 := Fr.snoc Xz11 Nz10 g_a1
  have F_extFields_a1_ := F_extFields_a1.same Wz11
  have O := O.wr Wz11 g_a1
  have E_a1 := E_a1.wr Wz11
  have F_body_a1 := F_body_a1.other Wz11 (Or.inr (slot_ne (Or.inr (hw _ (List.mem_of_getElem? (i := 43) rfl))) (Or.inr (hw _ (List.mem_of_getElem? (i := 41) rfl))) (by decide) (t := (.array .byte)) (t' := (.object "java/util/Map")) (by decide) (by decide)))
  have K := K.wr Wz11 (Or.inl (List.mem_of_getElem? (i := 0) rfl))
  have F_version_a1 := F_version_a1.other Wz11 (Or.inr (slot_ne (Or.inr (hw _ (List.mem_of_getElem? (i := 28) rfl))) (Or.inr (hw _ (List.mem_of_getElem? (i := 41) rfl))) (by decide) (t := .int) (t' := (.object "java/util/Map")) (by decide) (by decide)))
  have F_opaque_a1 := F_opaque_a1.other Wz11 (Or.inr (slot_ne (Or.inr (hw _ (List.mem_of_getElem? (i := 30) rfl))) (Or.inr (hw _ (List.mem_of_getElem? (i := 41) rfl))) (by decide) (t := .int) (t' := (.object "java/util/Map")) (by decide) (by decide)))
  have F_flag_a1 := F_flag_a1.other Wz11 (Or.inr (slot_ne (Or.inr (hw _ (List.mem_of_getElem? (i := 32) rfl))) (Or.inr (hw _ (List.mem_of_getElem? (i := 41) rfl))) (by decide) (t := .int) (t' := (.object "java/util/Map")) (by decide) (by decide)))
  have F_extFields_a1 := F_extFields_a1_
  show own_Go _ _ _ _ Tz11 (mkF m 46 #[.val (.ref a1), .val (.int p2), .val (.ref a3), .val (.int p4), .val (.int p5), .val (.int p6), .val .null, .val (.ref em), .val (.ref a9)] [])
  refine own_go (fun _ k => XS.aloadN Xz11.here hx rfl (hb hby own_d2_46) rfl rfl k) ?_
  show own_Go _ _ _ _ Tz11 (mkF m 47 #[.val (.ref a1), .val (.int p2), .val (.ref a3), .val (.int p4), .val (.int p5), .val (.int p6), .val .null, .val (.ref em), .val (.ref a9)] [(.ref a1)])
  refine own_go (fun _ k => XS.aload Xz11.here hx rfl (hb hby own_d2_47) rfl rfl k) ?_
  show own_Go _ _ _ _ Tz11 (mkF m 49 #[.val (.ref a1), .val (.int p2), .val (.ref a3), .val (.int p4), .val (.int p5), .val (.int p6), .val .null, .val (.ref em), .val (.ref a9)] [(.ref a9), (.ref a1)])
  obtain ⟨Tz12, hz12, Xz12, ez12, Wz12, stz12⟩ := putF Xz11 hx hZ hown (host := "") (Or.inl (hw _ (List.mem_of_getElem? (i := 42) rfl))) Via.refl ez11 F_body_a1 E_a1 (Or.inr ⟨(hw _ (List.mem_of_getElem? (i := 43) rfl)), rfl, hnm⟩) (hw _ (List.mem_of_getElem? (i := 1) rfl)) (ty := (.array .byte)) (by decide) rfl rfl (g := (mkF m 49 #[.val (.ref a1), .val (.int p2), .val (.ref a3), .val (.int p4), .val (.int p5), .val (.int p6), .val .null, .val (.ref em), .val (.ref a9)] [(.ref a9), (.ref a1)])) rfl rfl (hb hby own_d2_49)
  refine own_go stz12 ?_
  have Nz12 := Fr.snoc Xz12 Nz11 g_a1
  have F_body_a1_ := F_body_a1.same Wz12
  have O := O.wr Wz12 g_a1
  have E_a1 := E_a1.wr Wz12
  have K := K.wr Wz12 (Or.inl (List.mem_of_getElem? (i := 0) rfl))
  have F_version_a1 := F_version_a1.other Wz12 (Or.inr (slot_ne (Or.inr (hw _ (List.mem_of_getElem? (i := 28) rfl))) (Or.inr (hw _ (List.mem_of_getElem? (i := 43) rfl))) (by decide) (t := .int) (t' := (.array .byte)) (by decide) (by decide)))
  have F_opaque_a1 := F_opaque_a1.other Wz12 (Or.inr (slot_ne (Or.inr (hw _ (List.mem_of_getElem? (i := 30) rfl))) (Or.inr (hw _ (List.mem_of_getElem? (i := 43) rfl))) (by decide) (t := .int) (t' := (.array .byte)) (by decide) (by decide)))
  have F_flag_a1 := F_flag_a1.other Wz12 (Or.inr (slot_ne (Or.inr (hw _ (List.mem_of_getElem? (i := 32) rfl))) (Or.inr (hw _ (List.mem_of_getElem? (i := 43) rfl))) (by decide) (t := .int) (t' := (.array .byte)) (by decide) (by decide)))
  have F_body_a1 := F_body_a1_
  show own_Go _ _ _ _ Tz12 (mkF m 52 #[.val (.ref a1), .val (.int p2), .val (.ref a3), .val (.int p4), .val (.int p5), .val (.int p6), .val .null, .val (.ref em), .val (.ref a9)] [])
  exact own_end Xz12 hlk (v := none) (fun _ => rfl) (fun fs hr => Xz12.returnOut hx hret (hb hby own_d2_52) hr) (by rw [ez12]; exact ⟨rfl, Nz12, K, E_a1, F_version_a1, F_opaque_a1, F_flag_a1⟩) (by decide) (by decide)
theorem own_ef5 (m : MethodId) (a1 : Addr) : entryFrame m #[(.ref a1)] 1 = mkF m 0 #[.val (.ref a1)] [] := by first | (simp [entryFrame, mkF, argsToLocals, Value.category]; done) | rfl
theorem own_d5_0 : decode prog_11_method_12_code 0 = .ok (.aload_n 0, 1) := by decide +kernel
theorem own_d5_1 : decode prog_11_method_12_code 1 = .ok (.getfield 23, 3) := by decide +kernel
theorem own_d5_4 : decode prog_11_method_12_code 4 = .ok (.iconst 1, 1) := by decide +kernel
theorem own_d5_5 : decode prog_11_method_12_code 5 = .ok (.iand, 1) := by decide +kernel
theorem own_d5_6 : decode prog_11_method_12_code 6 = .ok (.ifCond .eq 7, 3) := by decide +kernel
theorem own_d5_13 : decode prog_11_method_12_code 13 = .ok (.iconst 0, 1) := by decide +kernel
theorem own_d5_14 : decode prog_11_method_12_code 14 = .ok (.ireturn, 1) := by decide +kernel
theorem own_d5_9 : decode prog_11_method_12_code 9 = .ok (.iconst 1, 1) := by decide +kernel
theorem own_d5_10 : decode prog_11_method_12_code 10 = .ok (.goto 4, 3) := by decide +kernel
def own_Q5 (Z : State) (r : Int32) (h0 : Heap) (n0 : Nat) (v : Option Value) (h : Heap) (L : List Loc) : Prop := v = some (.int r) ∧ Fr n0 L ∧ h = h0
set_option maxRecDepth 65536 in
set_option maxHeartbeats 40000000 in
theorem own_rm5 (l : Launch) (Z : State) (a0 : Array Value) (hw : ∀ d ∈ tables_1, d.before a0 Z = true) (ws : List Jvm.Cond) (a1 : Addr) (h0 : Heap) (n0 : Nat) (fl r : Int32) (hr : (if (fl &&& (1 : Int32)) = (0 : Int32) then (0 : Int32) else 1) = r) (F_flag_a1 : Fld Z h0 a1 "com/example/planaria/planaria/remoting/RemotingCommand" "flag" "I" (.int fl)) :
    own_Met l Z (⟨"com/example/planaria/planaria/remoting/RemotingCommand", "isReply", "()Z"⟩ : MethodName) prog_11_method_12_code 1 (some .boolean) ws ({ frames := 0, cells := 0, slots := 0, locals := 0 } : Room) #[(.ref a1)] h0 (own_Q5 Z r h0 n0) := by
  refine own_met (plainFor_of_name own_pn1) ?_
  intro p e s m below meth c s₁ X0 hx hZ hby hml hown hnm hret hlk e0
  have N0 := Fr.nil n0
  refine own_go (fun t k => castTop (own_ef5 m a1) k) ?_
  show own_Go _ _ _ _ s₁ (mkF m 0 #[.val (.ref a1)] [])
  refine own_go (fun _ k => XS.aloadN X0.here hx rfl (hb hby own_d5_0) rfl rfl k) ?_
  show own_Go _ _ _ _ s₁ (mkF m 1 #[.val (.ref a1)] [(.ref a1)])
  obtain ⟨Tz13, Xz13, ez13, stz13⟩ := getF X0 hx hZ hown (host := "") (Or.inl (hw _ (List.mem_of_getElem? (i := 31) rfl))) Via.refl e0 F_flag_a1 (g := (mkF m 1 #[.val (.ref a1)] [(.ref a1)])) rfl rfl (hb hby own_d5_1)
  refine own_go stz13 ?_
  show own_Go _ _ _ _ Tz13 (mkF m 4 #[.val (.ref a1)] [(.int fl)])
  refine own_go (fun _ k => XS.iconst Xz13.here hx rfl (hb hby own_d5_4) k) ?_
  show own_Go _ _ _ _ Tz13 (mkF m 5 #[.val (.ref a1)] [(.int (1 : Int32)), (.int fl)])
  refine own_go (fun _ k => XS.iand Xz13.here hx rfl (hb hby own_d5_5) rfl k) ?_
  show own_Go _ _ _ _ Tz13 (mkF m 6 #[.val (.ref a1)] [(.int (fl &&& (1 : Int32)))])
  by_cases hC : (fl &&& (1 : Int32)) = (0 : Int32)
  · refine own_go (fun _ k => XS.ifYes Xz13.here hx rfl (pc0 := 6) (pc' := 13) rfl (hb hby own_d5_6) rfl ((if0 _ _).trans (teq hC).1) (by decide) (by decide) k) ?_
    show own_Go _ _ _ _ Tz13 (mkF m 13 #[.val (.ref a1)] [])
    refine own_go (fun _ k => XS.iconst Xz13.here hx rfl (hb hby own_d5_13) k) ?_
    show own_Go _ _ _ _ Tz13 (mkF m 14 #[.val (.ref a1)] [(.int (0 : Int32))])
    exact own_end Xz13 hlk (v := (some (.int (0 : Int32)))) (fun h => by rw [hret] at h; cases h) (fun fs hr => retN Xz13 hx (t := .boolean) hret (by simp) (hb hby own_d5_14) hr) (by rw [ez13]; exact ⟨by rw [← hr, if_pos hC], N0, rfl⟩) (by decide) (by decide)
  · refine own_go (fun _ k => XS.ifNo Xz13.here hx rfl (hb hby own_d5_6) rfl ((if0 _ _).trans (feq hC).1) k) ?_
    show own_Go _ _ _ _ Tz13 (mkF m 9 #[.val (.ref a1)] [])
    refine own_go (fun _ k => XS.iconst Xz13.here hx rfl (hb hby own_d5_9) k) ?_
    show own_Go _ _ _ _ Tz13 (mkF m 10 #[.val (.ref a1)] [(.int (1 : Int32))])
    refine own_go (fun _ k => XS.goto Xz13.here hx rfl (pc0 := 10) (pc' := 14) rfl (hb hby own_d5_10) (by decide) (by decide) k) ?_
    show own_Go _ _ _ _ Tz13 (mkF m 14 #[.val (.ref a1)] [(.int (1 : Int32))])
    exact own_end Xz13 hlk (v := (some (.int (1 : Int32)))) (fun h => by rw [hret] at h; cases h) (fun fs hr => retN Xz13 hx (t := .boolean) hret (by simp) (hb hby own_d5_14) hr) (by rw [ez13]; exact ⟨by rw [← hr, if_neg hC], N0, rfl⟩) (by decide) (by decide)
theorem own_ef7 (m : MethodId) (a1 : Addr) (p2 : Int32) (em : Addr) (a5 : Addr) : entryFrame m #[(.ref a1), (.int p2), .null, (.ref em), (.ref a5)] 5 = mkF m 0 #[.val (.ref a1), .val (.int p2), .val .null, .val (.ref em), .val (.ref a5)] [] := by first | (simp [entryFrame, mkF, argsToLocals, Value.category]; done) | rfl
theorem own_d7_0 : decode prog_11_method_2_code 0 = .ok (.new 8, 3) := by decide +kernel
theorem own_d7_3 : decode prog_11_method_2_code 3 = .ok (.dup, 1) := by decide +kernel
theorem own_d7_4 : decode prog_11_method_2_code 4 = .ok (.iload_n 1, 1) := by decide +kernel
theorem own_d7_5 : decode prog_11_method_2_code 5 = .ok (.ldc 43, 2) := by decide +kernel
theorem own_d7_7 : decode prog_11_method_2_code 7 = .ok (.aload_n 0, 1) := by decide +kernel
theorem own_d7_8 : decode prog_11_method_2_code 8 = .ok (.getfield 17, 3) := by decide +kernel
theorem own_d7_11 : decode prog_11_method_2_code 11 = .ok (.aload_n 0, 1) := by decide +kernel
theorem own_d7_12 : decode prog_11_method_2_code 12 = .ok (.getfield 20, 3) := by decide +kernel
theorem own_d7_15 : decode prog_11_method_2_code 15 = .ok (.iconst 1, 1) := by decide +kernel
theorem own_d7_16 : decode prog_11_method_2_code 16 = .ok (.aload_n 2, 1) := by decide +kernel
theorem own_d7_17 : decode prog_11_method_2_code 17 = .ok (.aload_n 3, 1) := by decide +kernel
theorem own_d7_18 : decode prog_11_method_2_code 18 = .ok (.aload 4, 2) := by decide +kernel
theorem own_d7_20 : decode prog_11_method_2_code 20 = .ok (.invokespecial 45, 3) := by decide +kernel
theorem own_pd1 : parseMethodDescriptor "(ILjava/lang/String;IIILjava/lang/String;Ljava/util/Map;[B)V" = some ⟨[.int, (.object "java/lang/String"), .int, .int, .int, (.object "java/lang/String"), (.object "java/util/Map"), (.array .byte)], none⟩ := by decide +kernel
theorem own_d7_23 : decode prog_11_method_2_code 23 = .ok (.areturn, 1) := by decide +kernel
def own_Q7 (Z : State) (a1 : Addr) (h0 : Heap) (n0 : Nat) (v : Option Value) (h : Heap) (L : List Loc) : Prop := ∃ b, v = some (.ref b) ∧ Fr n0 L ∧ Keep h0 h [] ∧ Exa Z h b "com/example/planaria/planaria/remoting/RemotingCommand" ∧ Fld Z h b "com/example/planaria/planaria/remoting/RemotingCommand" "flag" "I" (.int (1 : Int32))
set_option maxRecDepth 65536 in
set_option maxHeartbeats 40000000 in
theorem own_rm7 (l : Launch) (Z : State) (a0 : Array Value) (hw : ∀ d ∈ tables_1, d.before a0 Z = true) (ws : List Jvm.Cond) (a1 : Addr) (p2 : Int32) (em : Addr) (a5 : Addr) (h0 : Heap) (n0 : Nat) (O : Old Z n0 h0) (Sm : Sta Z Z.heap "java/util/ImmutableCollections" "EMPTY_MAP" "Ljava/util/ImmutableCollections$MapN;" (.ref em)) (Em : Exa Z Z.heap em "java/util/ImmutableCollections$MapN") (ve op : Int32) (F_version_a1 : Fld Z h0 a1 "com/example/planaria/planaria/remoting/RemotingCommand" "version" "I" (.int ve)) (F_opaque_a1 : Fld Z h0 a1 "com/example/planaria/planaria/remoting/RemotingCommand" "opaque" "I" (.int op)) :
    own_MetW l Z (⟨"com/example/planaria/planaria/remoting/RemotingCommand", "replyTo", "(Lcom/example/planaria/planaria/remoting/RemotingCommand;ILjava/lang/String;Ljava/util/Map;[B)Lcom/example/planaria/planaria/remoting/RemotingCommand;"⟩ : MethodName) prog_11_method_2_code 5 (some (.object "com/example/planaria/planaria/remoting/RemotingCommand")) ws ({ frames := 2, cells := 3, slots := 40, locals := 60 } : Room) #[(.ref a1), (.int p2), .null, (.ref em), (.ref a5)] h0 (own_Q7 Z a1 h0 n0) := by
  refine own_metW (plainFor_of_name own_pn1) ?_
  intro p e s m below meth c s₁ X0 hx hZ hby hml hown hnm hret hlk e0
  have N0 := Fr.nil n0
  refine own_go (fun t k => castTop (own_ef7 m a1 p2 em a5) k) ?_
  have hS0 : s.Since s.vm 0 := (State.WarmedH.refl s).since 0
  have hj : 0 ≤ h0.size := Nat.zero_le _
  have K := Keep.refl h0 []
  show own_Go _ _ _ _ s₁ (mkF m 0 #[.val (.ref a1), .val (.int p2), .val .null, .val (.ref em), .val (.ref a5)] [])
  obtain ⟨Tz14, hz14, Xz14, ez14, Ez14, Az14, Dz14, -, stz14⟩ := newO X0 hx hZ hown (hw _ (List.mem_of_getElem? (i := 56) rfl)) (hw _ (List.mem_of_getElem? (i := 1) rfl)) (hw _ (List.mem_of_getElem? (i := 2) rfl)) e0 (g := (mkF m 0 #[.val (.ref a1), .val (.int p2), .val .null, .val (.ref em), .val (.ref a5)] [])) rfl (hb hby own_d7_0) (by decide) (by decide)
  obtain ⟨b, gz14⟩ : ∃ z, z = h0.size := ⟨_, rfl⟩
  rw [← gz14] at Az14 Dz14 stz14
  have ne_a1_b : a1 ≠ b := Nat.ne_of_lt (Nat.lt_of_lt_of_le F_version_a1.lt (Nat.le_of_eq gz14.symm))
  have g_b : n0 ≤ b := by rw [gz14, ← O.1]; exact O.2.1
  have sz_b : h0.size ≤ b := by rw [gz14]; exact K.1
  have O := O.ext Ez14
  have K := K.ext Ez14
  have F_version_a1 := F_version_a1.ext Ez14
  have F_opaque_a1 := F_opaque_a1.ext Ez14
  have hj := Nat.le_trans hj Ez14.1
  refine own_go stz14 ?_
  have E_b := Az14
  have F_code_b : Fld Z hz14 b "com/example/planaria/planaria/remoting/RemotingCommand" "code" "I" (.int (0 : Int32)) := Dz14 (Or.inr (hw _ (List.mem_of_getElem? (i := 24) rfl))) (ty := .int) (by decide)
  have F_language_b : Fld Z hz14 b "com/example/planaria/planaria/remoting/RemotingCommand" "language" "Ljava/lang/String;" .null := Dz14 (Or.inr (hw _ (List.mem_of_getElem? (i := 26) rfl))) (ty := (.object "java/lang/String")) (by decide)
  have F_version_b : Fld Z hz14 b "com/example/planaria/planaria/remoting/RemotingCommand" "version" "I" (.int (0 : Int32)) := Dz14 (Or.inr (hw _ (List.mem_of_getElem? (i := 28) rfl))) (ty := .int) (by decide)
  have F_opaque_b : Fld Z hz14 b "com/example/planaria/planaria/remoting/RemotingCommand" "opaque" "I" (.int (0 : Int32)) := Dz14 (Or.inr (hw _ (List.mem_of_getElem? (i := 30) rfl))) (ty := .int) (by decide)
  have F_flag_b : Fld Z hz14 b "com/example/planaria/planaria/remoting/RemotingCommand" "flag" "I" (.int (0 : Int32)) := Dz14 (Or.inr (hw _ (List.mem_of_getElem? (i := 32) rfl))) (ty := .int) (by decide)
  have F_remark_b : Fld Z hz14 b "com/example/planaria/planaria/remoting/RemotingCommand" "remark" "Ljava/lang/String;" .null := Dz14 (Or.inr (hw _ (List.mem_of_getElem? (i := 34) rfl))) (ty := (.object "java/lang/String")) (by decide)
  have F_extFields_b : Fld Z hz14 b "com/example/planaria/planaria/remoting/RemotingCommand" "extFields" "Ljava/util/Map;" .null := Dz14 (Or.inr (hw _ (List.mem_of_getElem? (i := 41) rfl))) (ty := (.object "java/util/Map")) (by decide)
  have F_body_b : Fld Z hz14 b "com/example/planaria/planaria/remoting/RemotingCommand" "body" "[B" .null := Dz14 (Or.inr (hw _ (List.mem_of_getElem? (i := 43) rfl))) (ty := (.array .byte)) (by decide)
  show own_Go _ _ _ _ Tz14 (mkF m 3 #[.val (.ref a1), .val (.int p2), .val .null, .val (.ref em), .val (.ref a5)] [(.ref b)])
  refine own_go (fun _ k => XS.dup Xz14.here hx rfl (hb hby own_d7_3) rfl rfl k) ?_
  show own_Go _ _ _ _ Tz14 (mkF m 4 #[.val (.ref a1), .val (.int p2), .val .null, .val (.ref em), .val (.ref a5)] [(.ref b), (.ref b)])
  refine own_go (fun _ k => XS.iloadN Xz14.here hx rfl (hb hby own_d7_4) rfl k) ?_
  show own_Go _ _ _ _ Tz14 (mkF m 5 #[.val (.ref a1), .val (.int p2), .val .null, .val (.ref em), .val (.ref a5)] [(.int p2), (.ref b), (.ref b)])
  obtain ⟨sa, Tz15, hz15, jz15, Xz15, ez15, Ez15, hSz15, hj_z15, hZz15, hoz15, stz15⟩ := ldcS (s := s) (vm0 := s.vm) Xz14 hx hZ hown (hw _ (List.mem_of_getElem? (i := 57) rfl)) (fun d hd => hw d (List.mem_of_mem_drop (List.mem_of_mem_take ((show Bundle.stringAtoms = (tables_1.drop 4).take 7 from rfl) ▸ hd)))) ez14 hS0 hj (g := (mkF m 5 #[.val (.ref a1), .val (.int p2), .val .null, .val (.ref em), .val (.ref a5)] [(.int p2), (.ref b), (.ref b)])) rfl (hb hby own_d7_5) (n := 16) (by decide) (by decide) (by decide) (by decide)
  refine own_go stz15 ?_
  have O := O.ext Ez15
  have K := K.ext Ez15
  have F_version_a1 := F_version_a1.ext Ez15
  have F_opaque_a1 := F_opaque_a1.ext Ez15
  have E_b := E_b.ext Ez15
  have F_code_b := F_code_b.ext Ez15
  have F_language_b := F_language_b.ext Ez15
  have F_version_b := F_version_b.ext Ez15
  have F_opaque_b := F_opaque_b.ext Ez15
  have F_flag_b := F_flag_b.ext Ez15
  have F_remark_b := F_remark_b.ext Ez15
  have F_extFields_b := F_extFields_b.ext Ez15
  have F_body_b := F_body_b.ext Ez15
  have hj := hj_z15
  show own_Go _ _ _ _ Tz15 (mkF m 7 #[.val (.ref a1), .val (.int p2), .val .null, .val (.ref em), .val (.ref a5)] [(.ref sa), (.int p2), (.ref b), (.ref b)])
  refine own_go (fun _ k => XS.aloadN Xz15.here hx rfl (hb hby own_d7_7) rfl rfl k) ?_
  show own_Go _ _ _ _ Tz15 (mkF m 8 #[.val (.ref a1), .val (.int p2), .val .null, .val (.ref em), .val (.ref a5)] [(.ref a1), (.ref sa), (.int p2), (.ref b), (.ref b)])
  obtain ⟨Tz16, Xz16, ez16, stz16⟩ := getF Xz15 hx hZz15 hoz15 (host := "") (Or.inl (hw _ (List.mem_of_getElem? (i := 27) rfl))) Via.refl ez15 F_version_a1 (g := (mkF m 8 #[.val (.ref a1), .val (.int p2), .val .null, .val (.ref em), .val (.ref a5)] [(.ref a1), (.ref sa), (.int p2), (.ref b), (.ref b)])) rfl rfl (hb hby own_d7_8)
  refine own_go stz16 ?_
  show own_Go _ _ _ _ Tz16 (mkF m 11 #[.val (.ref a1), .val (.int p2), .val .null, .val (.ref em), .val (.ref a5)] [(.int ve), (.ref sa), (.int p2), (.ref b), (.ref b)])
  refine own_go (fun _ k => XS.aloadN Xz16.here hx rfl (hb hby own_d7_11) rfl rfl k) ?_
  show own_Go _ _ _ _ Tz16 (mkF m 12 #[.val (.ref a1), .val (.int p2), .val .null, .val (.ref em), .val (.ref a5)] [(.ref a1), (.int ve), (.ref sa), (.int p2), (.ref b), (.ref b)])
  obtain ⟨Tz17, Xz17, ez17, stz17⟩ := getF Xz16 hx hZz15 hoz15 (host := "") (Or.inl (hw _ (List.mem_of_getElem? (i := 29) rfl))) Via.refl ez16 F_opaque_a1 (g := (mkF m 12 #[.val (.ref a1), .val (.int p2), .val .null, .val (.ref em), .val (.ref a5)] [(.ref a1), (.int ve), (.ref sa), (.int p2), (.ref b), (.ref b)])) rfl rfl (hb hby own_d7_12)
  refine own_go stz17 ?_
  show own_Go _ _ _ _ Tz17 (mkF m 15 #[.val (.ref a1), .val (.int p2), .val .null, .val (.ref em), .val (.ref a5)] [(.int op), (.int ve), (.ref sa), (.int p2), (.ref b), (.ref b)])
  refine own_go (fun _ k => XS.iconst Xz17.here hx rfl (hb hby own_d7_15) k) ?_
  show own_Go _ _ _ _ Tz17 (mkF m 16 #[.val (.ref a1), .val (.int p2), .val .null, .val (.ref em), .val (.ref a5)] [(.int (1 : Int32)), (.int op), (.int ve), (.ref sa), (.int p2), (.ref b), (.ref b)])
  refine own_go (fun _ k => XS.aloadN Xz17.here hx rfl (hb hby own_d7_16) rfl rfl k) ?_
  show own_Go _ _ _ _ Tz17 (mkF m 17 #[.val (.ref a1), .val (.int p2), .val .null, .val (.ref em), .val (.ref a5)] [.null, (.int (1 : Int32)), (.int op), (.int ve), (.ref sa), (.int p2), (.ref b), (.ref b)])
  refine own_go (fun _ k => XS.aloadN Xz17.here hx rfl (hb hby own_d7_17) rfl rfl k) ?_
  show own_Go _ _ _ _ Tz17 (mkF m 18 #[.val (.ref a1), .val (.int p2), .val .null, .val (.ref em), .val (.ref a5)] [(.ref em), .null, (.int (1 : Int32)), (.int op), (.int ve), (.ref sa), (.int p2), (.ref b), (.ref b)])
  refine own_go (fun _ k => XS.aload Xz17.here hx rfl (hb hby own_d7_18) rfl rfl k) ?_
  show own_Go _ _ _ _ Tz17 (mkF m 20 #[.val (.ref a1), .val (.int p2), .val .null, .val (.ref em), .val (.ref a5)] [(.ref a5), (.ref em), .null, (.int (1 : Int32)), (.int op), (.int ve), (.ref sa), (.int p2), (.ref b), (.ref b)])
  obtain ⟨vz18, Tz18, Lz18, Xz18, hQz18, stz18⟩ := own_callI Xz17 hx hZz15 rfl hoz15 (hw _ (List.mem_of_getElem? (i := 58) rfl)) (hw _ (List.mem_of_getElem? (i := 18) rfl)) (hw _ (List.mem_of_getElem? (i := 2) rfl)) (hw _ (List.mem_of_getElem? (i := 19) rfl)) (by decide) ez17 (own_rm2 l Z a0 hw [] b p2 sa ve op (1 : Int32) em a5 hz15 n0 O Sm Em g_b E_b F_code_b F_language_b F_version_b F_opaque_b F_flag_b F_remark_b F_extFields_b F_body_b) (W := 1) (by decide) (by decide) (by decide) (by decide) own_pd1 rfl (g := (mkF m 20 #[.val (.ref a1), .val (.int p2), .val .null, .val (.ref em), .val (.ref a5)] [(.ref a5), (.ref em), .null, (.int (1 : Int32)), (.int op), (.int ve), (.ref sa), (.int p2), (.ref b), (.ref b)])) (argsL := [(.int p2), (.ref sa), (.int ve), (.int op), (.int (1 : Int32)), .null, (.ref em), (.ref a5)]) (rest := [(.ref b)]) rfl (by rw [hml]; rfl) rfl (by show 2 * 0 + _ ≤ _; exact Nat.le_of_eq rfl) (hb hby own_d7_20)
  obtain ⟨rfl, Nz18q, Kz18, c0_z18, c1_z18, c2_z18, c3_z18⟩ := hQz18
  have Nz18 := Fr.app N0 Nz18q
  refine own_go stz18 ?_
  have O := O.keep Kz18 (allS g_b all0)
  have K := K.trans Kz18 (allS (Or.inr sz_b) all0)
  have F_version_a1 := F_version_a1.keep Kz18 (ninS ne_a1_b nin0)
  have F_opaque_a1 := F_opaque_a1.keep Kz18 (ninS ne_a1_b nin0)
  have hj := Nat.le_trans hj Kz18.1
  have E_b := c0_z18
  have F_version_b := c1_z18
  have F_opaque_b := c2_z18
  have F_flag_b := c3_z18
  show own_Go _ _ _ _ Tz18 (mkF m 23 #[.val (.ref a1), .val (.int p2), .val .null, .val (.ref em), .val (.ref a5)] [(.ref b)])
  exact own_endW Xz18 hSz15 hj hlk (v := (some (.ref b))) (fun h => by rw [hret] at h; cases h) (fun fs hr => retOut Xz18 hx hret rfl (Or.inr (Or.inr (Or.inr (Or.inr ⟨rfl, rfl, rfl⟩)))) (hb hby own_d7_23) hr) ⟨b, rfl, Nz18, K, E_b, F_flag_b⟩ (by decide) (by decide)
theorem own_ef6 (m : MethodId) (a1 : Addr) (p2 : Int32) : entryFrame m #[(.ref a1), (.int p2), .null] 3 = mkF m 0 #[.val (.ref a1), .val (.int p2), .val .null] [] := by first | (simp [entryFrame, mkF, argsToLocals, Value.category]; done) | rfl
theorem own_d6_0 : decode prog_11_method_3_code 0 = .ok (.aload_n 0, 1) := by decide +kernel
theorem own_d6_1 : decode prog_11_method_3_code 1 = .ok (.iload_n 1, 1) := by decide +kernel
theorem own_d6_2 : decode prog_11_method_3_code 2 = .ok (.aload_n 2, 1) := by decide +kernel
theorem own_d6_3 : decode prog_11_method_3_code 3 = .ok (.invokestatic 48, 3) := by decide +kernel
theorem own_pd2 : parseMethodDescriptor "()Ljava/util/Map;" = some ⟨[], some (.object "java/util/Map")⟩ := by decide +kernel
theorem own_d6_6 : decode prog_11_method_3_code 6 = .ok (.iconst 0, 1) := by decide +kernel
theorem own_d6_7 : decode prog_11_method_3_code 7 = .ok (.newarray .byte, 2) := by decide +kernel
theorem own_d6_9 : decode prog_11_method_3_code 9 = .ok (.invokestatic 52, 3) := by decide +kernel
theorem own_pd3 : parseMethodDescriptor "(Lcom/example/planaria/planaria/remoting/RemotingCommand;ILjava/lang/String;Ljava/util/Map;[B)Lcom/example/planaria/planaria/remoting/RemotingCommand;" = some ⟨[(.object "com/example/planaria/planaria/remoting/RemotingCommand"), .int, (.object "java/lang/String"), (.object "java/util/Map"), (.array .byte)], some (.object "com/example/planaria/planaria/remoting/RemotingCommand")⟩ := by decide +kernel
theorem own_d6_12 : decode prog_11_method_3_code 12 = .ok (.areturn, 1) := by decide +kernel
def own_Q6 (Z : State) (a1 : Addr) (h0 : Heap) (n0 : Nat) (v : Option Value) (h : Heap) (L : List Loc) : Prop := ∃ b, v = some (.ref b) ∧ Fr n0 L ∧ Keep h0 h [] ∧ Exa Z h b "com/example/planaria/planaria/remoting/RemotingCommand" ∧ Fld Z h b "com/example/planaria/planaria/remoting/RemotingCommand" "flag" "I" (.int (1 : Int32))
set_option maxRecDepth 65536 in
set_option maxHeartbeats 40000000 in
theorem own_rm6 (l : Launch) (Z : State) (a0 : Array Value) (hw : ∀ d ∈ tables_1, d.before a0 Z = true) (ws : List Jvm.Cond) (a1 : Addr) (p2 : Int32) (h0 : Heap) (n0 : Nat) (em : Addr) (O : Old Z n0 h0) (Sm : Sta Z Z.heap "java/util/ImmutableCollections" "EMPTY_MAP" "Ljava/util/ImmutableCollections$MapN;" (.ref em)) (Em : Exa Z Z.heap em "java/util/ImmutableCollections$MapN") (ve op : Int32) (F_version_a1 : Fld Z h0 a1 "com/example/planaria/planaria/remoting/RemotingCommand" "version" "I" (.int ve)) (F_opaque_a1 : Fld Z h0 a1 "com/example/planaria/planaria/remoting/RemotingCommand" "opaque" "I" (.int op)) :
    own_MetW l Z (⟨"com/example/planaria/planaria/remoting/RemotingCommand", "replyTo", "(Lcom/example/planaria/planaria/remoting/RemotingCommand;ILjava/lang/String;)Lcom/example/planaria/planaria/remoting/RemotingCommand;"⟩ : MethodName) prog_11_method_3_code 3 (some (.object "com/example/planaria/planaria/remoting/RemotingCommand")) ws ({ frames := 3, cells := 4, slots := 40, locals := 90 } : Room) #[(.ref a1), (.int p2), .null] h0 (own_Q6 Z a1 h0 n0) := by
  refine own_metW (plainFor_of_name own_pn1) ?_
  intro p e s m below meth c s₁ X0 hx hZ hby hml hown hnm hret hlk e0
  have N0 := Fr.nil n0
  refine own_go (fun t k => castTop (own_ef6 m a1 p2) k) ?_
  have hS0 : s.Since s.vm 0 := (State.WarmedH.refl s).since 0
  have hj : 0 ≤ h0.size := Nat.zero_le _
  have K := Keep.refl h0 []
  show own_Go _ _ _ _ s₁ (mkF m 0 #[.val (.ref a1), .val (.int p2), .val .null] [])
  refine own_go (fun _ k => XS.aloadN X0.here hx rfl (hb hby own_d6_0) rfl rfl k) ?_
  show own_Go _ _ _ _ s₁ (mkF m 1 #[.val (.ref a1), .val (.int p2), .val .null] [(.ref a1)])
  refine own_go (fun _ k => XS.iloadN X0.here hx rfl (hb hby own_d6_1) rfl k) ?_
  show own_Go _ _ _ _ s₁ (mkF m 2 #[.val (.ref a1), .val (.int p2), .val .null] [(.int p2), (.ref a1)])
  refine own_go (fun _ k => XS.aloadN X0.here hx rfl (hb hby own_d6_2) rfl rfl k) ?_
  show own_Go _ _ _ _ s₁ (mkF m 3 #[.val (.ref a1), .val (.int p2), .val .null] [.null, (.int p2), (.ref a1)])
  obtain ⟨vz19, Tz19, Lz19, Xz19, hQz19, stz19⟩ := own_callS X0 hx hZ hown (hw _ (List.mem_of_getElem? (i := 52) rfl)) (hw _ (List.mem_of_getElem? (i := 12) rfl)) (hw _ (List.mem_of_getElem? (i := 13) rfl)) (hw _ (List.mem_of_getElem? (i := 14) rfl)) (by decide) e0 (own_rm1 l Z a0 hw [] h0 n0 em O Sm Em) (W := 3) (by decide) (by decide) (by decide) (by decide) own_pd2 rfl (g := (mkF m 3 #[.val (.ref a1), .val (.int p2), .val .null] [.null, (.int p2), (.ref a1)])) (argsL := []) (rest := [.null, (.int p2), (.ref a1)]) rfl (by rw [hml]; rfl) rfl (by show 2 * 0 + _ ≤ _; exact Nat.le_of_eq rfl) (hb hby own_d6_3)
  obtain ⟨rfl, Nz19q, ehz19⟩ := hQz19
  have Nz19 := Fr.app N0 Nz19q
  refine own_go stz19 ?_
  show own_Go _ _ _ _ Tz19 (mkF m 6 #[.val (.ref a1), .val (.int p2), .val .null] [(.ref em), .null, (.int p2), (.ref a1)])
  refine own_go (fun _ k => XS.iconst Xz19.here hx rfl (hb hby own_d6_6) k) ?_
  show own_Go _ _ _ _ Tz19 (mkF m 7 #[.val (.ref a1), .val (.int p2), .val .null] [(.int (0 : Int32)), (.ref em), .null, (.int p2), (.ref a1)])
  obtain ⟨Tz20, hz20, kz20, Xz20, ez20, Ez20, Az20, stz20⟩ := newP Xz19 hx hZ (hw _ (List.mem_of_getElem? (i := 6) rfl)) ehz19 (g := (mkF m 7 #[.val (.ref a1), .val (.int p2), .val .null] [(.int (0 : Int32)), (.ref em), .null, (.int p2), (.ref a1)])) rfl (hb hby own_d6_7) rfl (by decide) (cap := 0) (by decide) (by decide) (by decide) (by decide)
  obtain ⟨ar, gz20⟩ : ∃ z, z = h0.size := ⟨_, rfl⟩
  rw [← gz20] at Az20 stz20
  have ne_a1_ar : a1 ≠ ar := Nat.ne_of_lt (Nat.lt_of_lt_of_le F_version_a1.lt (Nat.le_of_eq gz20.symm))
  have g_ar : n0 ≤ ar := by rw [gz20, ← O.1]; exact O.2.1
  have sz_ar : h0.size ≤ ar := by rw [gz20]; exact K.1
  have O := O.ext Ez20
  have K := K.ext Ez20
  have F_version_a1 := F_version_a1.ext Ez20
  have F_opaque_a1 := F_opaque_a1.ext Ez20
  have hj := Nat.le_trans hj Ez20.1
  refine own_go stz20 ?_
  have V_ar : Arv Z hz20 ar kz20 .byte (0 : Int32) [] (.int (0 : Int32)) := (Arv.new Az20 (by decide)).pad (pad_rep [] (.int (0 : Int32)) 0)
  show own_Go _ _ _ _ Tz20 (mkF m 9 #[.val (.ref a1), .val (.int p2), .val .null] [(.ref ar), (.ref em), .null, (.int p2), (.ref a1)])
  obtain ⟨vz21, Tz21, Lz21, Xz21, hSz21, hZz21, hoz21, hQz21, stz21⟩ := own_callSW (s := s) (vm0 := s.vm) Xz20 hS0 hj hx hZ hown (hw _ (List.mem_of_getElem? (i := 53) rfl)) (hw _ (List.mem_of_getElem? (i := 54) rfl)) (hw _ (List.mem_of_getElem? (i := 2) rfl)) (hw _ (List.mem_of_getElem? (i := 55) rfl)) (by decide) ez20 (own_rm7 l Z a0 hw [] a1 p2 em ar hz20 n0 O Sm Em ve op F_version_a1 F_opaque_a1) (W := 0) (by decide) (by decide) (by decide) (by decide) own_pd3 rfl (g := (mkF m 9 #[.val (.ref a1), .val (.int p2), .val .null] [(.ref ar), (.ref em), .null, (.int p2), (.ref a1)])) (argsL := [(.ref a1), (.int p2), .null, (.ref em), (.ref ar)]) (rest := []) rfl (by rw [hml]; rfl) rfl (by show 2 * 0 + _ ≤ _; exact Nat.le_of_eq rfl) (hb hby own_d6_9)
  obtain ⟨bq, rfl, Nz21q, Kz21, c0_z21, c1_z21⟩ := hQz21
  have Nz21 := Fr.app Nz19 Nz21q
  refine own_go stz21 ?_
  have O := O.keep Kz21 all0
  have K := K.trans Kz21 all0
  have F_version_a1 := F_version_a1.keep Kz21 nin0
  have F_opaque_a1 := F_opaque_a1.keep Kz21 nin0
  have V_ar := V_ar.keep Kz21 nin0
  have E_bq := c0_z21
  have F_flag_bq := c1_z21
  have hj := Nat.le_refl Tz21.heap.size
  show own_Go _ _ _ _ Tz21 (mkF m 12 #[.val (.ref a1), .val (.int p2), .val .null] [(.ref bq)])
  exact own_endW Xz21 hSz21 hj hlk (v := (some (.ref bq))) (fun h => by rw [hret] at h; cases h) (fun fs hr => retOut Xz21 hx hret rfl (Or.inr (Or.inr (Or.inr (Or.inr ⟨rfl, rfl, rfl⟩)))) (hb hby own_d6_12) hr) ⟨bq, rfl, Nz21, K, E_bq, F_flag_bq⟩ (by decide) (by decide)
theorem own_odd (x : Int32) : (if (x &&& (1 : Int32)) = (0 : Int32) then (0 : Int32) else 1) = (if (x % (2 : Int32)) = (0 : Int32) then (0 : Int32) else (1 : Int32)) := by
  have h1 := c_mask x (1 : Int32) 1 (by decide) (by decide)
  have h2 := c_irem x (2 : Int32) 2 rfl
  have k0 : (0 : Int32).toInt = 0 := rfl
  have e : (x &&& (1 : Int32)) = (0 : Int32) ↔ (x % (2 : Int32)) = (0 : Int32) := by
    rw [← Int32.toInt_inj, ← Int32.toInt_inj, h1, k0]
    by_cases p : 0 ≤ x.toInt
    · rw [h2.1 p]; omega
    · rw [h2.2 (by omega)]; omega
  by_cases p : (x &&& (1 : Int32)) = (0 : Int32)
  · rw [if_pos p, if_pos (e.mp p)]
  · rw [if_neg p, if_neg (fun q => p (e.mpr q))]
theorem own_ef0 (m : MethodId) (p1 : Int32) (p2 : Int32) (p3 : Int32) (p4 : Int32) : entryFrame m #[(.int p1), (.int p2), (.int p3), (.int p4)] maxLocals = mkF m 0 #[.val (.int p1), .val (.int p2), .val (.int p3), .val (.int p4), .unset, .unset, .unset, .unset, .unset] [] := by first | (simp [entryFrame, mkF, argsToLocals, Value.category, maxLocals]; done) | rfl
theorem own_pd4 : parseMethodDescriptor "()Z" = some ⟨[], some .boolean⟩ := by decide +kernel
theorem own_pd5 : parseMethodDescriptor "(Lcom/example/planaria/planaria/remoting/RemotingCommand;ILjava/lang/String;)Lcom/example/planaria/planaria/remoting/RemotingCommand;" = some ⟨[(.object "com/example/planaria/planaria/remoting/RemotingCommand"), .int, (.object "java/lang/String")], some (.object "com/example/planaria/planaria/remoting/RemotingCommand")⟩ := by decide +kernel
theorem own_pn2 : plainName "com/example/planaria/planaria/remoting/RemotingCommandIsReplyPinLaw" = true := by first | (simp [plainName, overriddenIn]; done) | decide +kernel
def own_Q0 (Z : State) (p1 : Int32) (h0 : Heap) (n0 : Nat) (v : Option Value) (h : Heap) (L : List Loc) : Prop := v = some (.int 1) ∧ Fr n0 L
set_option maxRecDepth 65536 in
set_option maxHeartbeats 40000000 in
theorem own_rm0 (l : Launch) (Z : State) (a0 : Array Value) (hw : ∀ d ∈ tables_1, d.before a0 Z = true) (ws : List Jvm.Cond) (p1 : Int32) (p2 : Int32) (p3 : Int32) (p4 : Int32) (h0 : Heap) (n0 : Nat) (em : Addr) (O : Old Z n0 h0) (Sm : Sta Z Z.heap "java/util/ImmutableCollections" "EMPTY_MAP" "Ljava/util/ImmutableCollections$MapN;" (.ref em)) (Em : Exa Z Z.heap em "java/util/ImmutableCollections$MapN") :
    own_MetW l Z x code maxLocals ret ws room_1 #[(.int p1), (.int p2), (.int p3), (.int p4)] h0 (own_Q0 Z p1 h0 n0) := by
  refine own_metW (plainFor_of_name own_pn2) ?_
  intro p e s m below meth c s₁ X0 hx hZ hby hml hown hnm hret hlk e0
  have N0 := Fr.nil n0
  refine own_go (fun t k => castTop (own_ef0 m p1 p2 p3 p4) k) ?_
  have hS0 : s.Since s.vm 0 := (State.WarmedH.refl s).since 0
  have hj : 0 ≤ h0.size := Nat.zero_le _
  show own_Go _ _ _ _ s₁ (mkF m 0 #[.val (.int p1), .val (.int p2), .val (.int p3), .val (.int p4), .unset, .unset, .unset, .unset, .unset] [])
  obtain ⟨Tz22, hz22, Xz22, ez22, Ez22, Az22, Dz22, -, stz22⟩ := newO X0 hx hZ hown (hw _ (List.mem_of_getElem? (i := 0) rfl)) (hw _ (List.mem_of_getElem? (i := 1) rfl)) (hw _ (List.mem_of_getElem? (i := 2) rfl)) e0 (g := (mkF m 0 #[.val (.int p1), .val (.int p2), .val (.int p3), .val (.int p4), .unset, .unset, .unset, .unset, .unset] [])) rfl (hb hby at_0) (by decide) (by decide)
  obtain ⟨b, gz22⟩ : ∃ z, z = h0.size := ⟨_, rfl⟩
  rw [← gz22] at Az22 Dz22 stz22
  have g_b : n0 ≤ b := by rw [gz22, ← O.1]; exact O.2.1
  have O := O.ext Ez22
  have hj := Nat.le_trans hj Ez22.1
  refine own_go stz22 ?_
  have E_b := Az22
  have F_code_b : Fld Z hz22 b "com/example/planaria/planaria/remoting/RemotingCommand" "code" "I" (.int (0 : Int32)) := Dz22 (Or.inr (hw _ (List.mem_of_getElem? (i := 24) rfl))) (ty := .int) (by decide)
  have F_language_b : Fld Z hz22 b "com/example/planaria/planaria/remoting/RemotingCommand" "language" "Ljava/lang/String;" .null := Dz22 (Or.inr (hw _ (List.mem_of_getElem? (i := 26) rfl))) (ty := (.object "java/lang/String")) (by decide)
  have F_version_b : Fld Z hz22 b "com/example/planaria/planaria/remoting/RemotingCommand" "version" "I" (.int (0 : Int32)) := Dz22 (Or.inr (hw _ (List.mem_of_getElem? (i := 28) rfl))) (ty := .int) (by decide)
  have F_opaque_b : Fld Z hz22 b "com/example/planaria/planaria/remoting/RemotingCommand" "opaque" "I" (.int (0 : Int32)) := Dz22 (Or.inr (hw _ (List.mem_of_getElem? (i := 30) rfl))) (ty := .int) (by decide)
  have F_flag_b : Fld Z hz22 b "com/example/planaria/planaria/remoting/RemotingCommand" "flag" "I" (.int (0 : Int32)) := Dz22 (Or.inr (hw _ (List.mem_of_getElem? (i := 32) rfl))) (ty := .int) (by decide)
  have F_remark_b : Fld Z hz22 b "com/example/planaria/planaria/remoting/RemotingCommand" "remark" "Ljava/lang/String;" .null := Dz22 (Or.inr (hw _ (List.mem_of_getElem? (i := 34) rfl))) (ty := (.object "java/lang/String")) (by decide)
  have F_extFields_b : Fld Z hz22 b "com/example/planaria/planaria/remoting/RemotingCommand" "extFields" "Ljava/util/Map;" .null := Dz22 (Or.inr (hw _ (List.mem_of_getElem? (i := 41) rfl))) (ty := (.object "java/util/Map")) (by decide)
  have F_body_b : Fld Z hz22 b "com/example/planaria/planaria/remoting/RemotingCommand" "body" "[B" .null := Dz22 (Or.inr (hw _ (List.mem_of_getElem? (i := 43) rfl))) (ty := (.array .byte)) (by decide)
  show own_Go _ _ _ _ Tz22 (mkF m 3 #[.val (.int p1), .val (.int p2), .val (.int p3), .val (.int p4), .unset, .unset, .unset, .unset, .unset] [(.ref b)])
  refine own_go (fun _ k => XS.dup Xz22.here hx rfl (hb hby at_3) rfl rfl k) ?_
  show own_Go _ _ _ _ Tz22 (mkF m 4 #[.val (.int p1), .val (.int p2), .val (.int p3), .val (.int p4), .unset, .unset, .unset, .unset, .unset] [(.ref b), (.ref b)])
  refine own_go (fun _ k => XS.iloadN Xz22.here hx rfl (hb hby at_4) rfl k) ?_
  show own_Go _ _ _ _ Tz22 (mkF m 5 #[.val (.int p1), .val (.int p2), .val (.int p3), .val (.int p4), .unset, .unset, .unset, .unset, .unset] [(.int p2), (.ref b), (.ref b)])
  obtain ⟨sa, Tz23, hz23, jz23, Xz23, ez23, Ez23, hSz23, hj_z23, hZz23, hoz23, stz23⟩ := ldcS (s := s) (vm0 := s.vm) Xz22 hx hZ hown (hw _ (List.mem_of_getElem? (i := 3) rfl)) (fun d hd => hw d (List.mem_of_mem_drop (List.mem_of_mem_take ((show Bundle.stringAtoms = (tables_1.drop 4).take 7 from rfl) ▸ hd)))) ez22 hS0 hj (g := (mkF m 5 #[.val (.int p1), .val (.int p2), .val (.int p3), .val (.int p4), .unset, .unset, .unset, .unset, .unset] [(.int p2), (.ref b), (.ref b)])) rfl (hb hby at_5) (n := 16) (by decide) (by decide) (by decide) (by decide)
  refine own_go stz23 ?_
  have O := O.ext Ez23
  have E_b := E_b.ext Ez23
  have F_code_b := F_code_b.ext Ez23
  have F_language_b := F_language_b.ext Ez23
  have F_version_b := F_version_b.ext Ez23
  have F_opaque_b := F_opaque_b.ext Ez23
  have F_flag_b := F_flag_b.ext Ez23
  have F_remark_b := F_remark_b.ext Ez23
  have F_extFields_b := F_extFields_b.ext Ez23
  have F_body_b := F_body_b.ext Ez23
  have hj := hj_z23
  show own_Go _ _ _ _ Tz23 (mkF m 7 #[.val (.int p1), .val (.int p2), .val (.int p3), .val (.int p4), .unset, .unset, .unset, .unset, .unset] [(.ref sa), (.int p2), (.ref b), (.ref b)])
  refine own_go (fun _ k => XS.iloadN Xz23.here hx rfl (hb hby at_7) rfl k) ?_
  show own_Go _ _ _ _ Tz23 (mkF m 8 #[.val (.int p1), .val (.int p2), .val (.int p3), .val (.int p4), .unset, .unset, .unset, .unset, .unset] [(.int p3), (.ref sa), (.int p2), (.ref b), (.ref b)])
  refine own_go (fun _ k => XS.iloadN Xz23.here hx rfl (hb hby at_8) rfl k) ?_
  show own_Go _ _ _ _ Tz23 (mkF m 9 #[.val (.int p1), .val (.int p2), .val (.int p3), .val (.int p4), .unset, .unset, .unset, .unset, .unset] [(.int p4), (.int p3), (.ref sa), (.int p2), (.ref b), (.ref b)])
  refine own_go (fun _ k => XS.iloadN Xz23.here hx rfl (hb hby at_9) rfl k) ?_
  show own_Go _ _ _ _ Tz23 (mkF m 10 #[.val (.int p1), .val (.int p2), .val (.int p3), .val (.int p4), .unset, .unset, .unset, .unset, .unset] [(.int p1), (.int p4), (.int p3), (.ref sa), (.int p2), (.ref b), (.ref b)])
  refine own_go (fun _ k => XS.aconstNull Xz23.here hx rfl (hb hby at_10) k) ?_
  show own_Go _ _ _ _ Tz23 (mkF m 11 #[.val (.int p1), .val (.int p2), .val (.int p3), .val (.int p4), .unset, .unset, .unset, .unset, .unset] [.null, (.int p1), (.int p4), (.int p3), (.ref sa), (.int p2), (.ref b), (.ref b)])
  obtain ⟨vz24, Tz24, Lz24, Xz24, hQz24, stz24⟩ := own_callS Xz23 hx hZz23 hoz23 (hw _ (List.mem_of_getElem? (i := 11) rfl)) (hw _ (List.mem_of_getElem? (i := 12) rfl)) (hw _ (List.mem_of_getElem? (i := 13) rfl)) (hw _ (List.mem_of_getElem? (i := 14) rfl)) (by decide) ez23 (own_rm1 l Z a0 hw [] hz23 n0 em O Sm Em) (W := 8) (by decide) (by decide) (by decide) (by decide) own_pd2 rfl (g := (mkF m 11 #[.val (.int p1), .val (.int p2), .val (.int p3), .val (.int p4), .unset, .unset, .unset, .unset, .unset] [.null, (.int p1), (.int p4), (.int p3), (.ref sa), (.int p2), (.ref b), (.ref b)])) (argsL := []) (rest := [.null, (.int p1), (.int p4), (.int p3), (.ref sa), (.int p2), (.ref b), (.ref b)]) rfl (by rw [hml]; rfl) rfl (by show 2 * 0 + _ ≤ _; exact Nat.le_of_eq rfl) (hb hby at_11)
  obtain ⟨rfl, Nz24q, ehz24⟩ := hQz24
  have Nz24 := Fr.app N0 Nz24q
  refine own_go stz24 ?_
  show own_Go _ _ _ _ Tz24 (mkF m 14 #[.val (.int p1), .val (.int p2), .val (.int p3), .val (.int p4), .unset, .unset, .unset, .unset, .unset] [(.ref em), .null, (.int p1), (.int p4), (.int p3), (.ref sa), (.int p2), (.ref b), (.ref b)])
  refine own_go (fun _ k => XS.iconst Xz24.here hx rfl (hb hby at_14) k) ?_
  show own_Go _ _ _ _ Tz24 (mkF m 15 #[.val (.int p1), .val (.int p2), .val (.int p3), .val (.int p4), .unset, .unset, .unset, .unset, .unset] [(.int (0 : Int32)), (.ref em), .null, (.int p1), (.int p4), (.int p3), (.ref sa), (.int p2), (.ref b), (.ref b)])
  obtain ⟨Tz25, hz25, kz25, Xz25, ez25, Ez25, Az25, stz25⟩ := newP Xz24 hx hZz23 (hw _ (List.mem_of_getElem? (i := 6) rfl)) ehz24 (g := (mkF m 15 #[.val (.int p1), .val (.int p2), .val (.int p3), .val (.int p4), .unset, .unset, .unset, .unset, .unset] [(.int (0 : Int32)), (.ref em), .null, (.int p1), (.int p4), (.int p3), (.ref sa), (.int p2), (.ref b), (.ref b)])) rfl (hb hby at_15) rfl (by decide) (cap := 0) (by decide) (by decide) (by decide) (by decide)
  obtain ⟨ar, gz25⟩ : ∃ z, z = hz23.size := ⟨_, rfl⟩
  rw [← gz25] at Az25 stz25
  have ne_b_ar : b ≠ ar := Nat.ne_of_lt (Nat.lt_of_lt_of_le E_b.lt (Nat.le_of_eq gz25.symm))
  have g_ar : n0 ≤ ar := by rw [gz25, ← O.1]; exact O.2.1
  have O := O.ext Ez25
  have E_b := E_b.ext Ez25
  have F_code_b := F_code_b.ext Ez25
  have F_language_b := F_language_b.ext Ez25
  have F_version_b := F_version_b.ext Ez25
  have F_opaque_b := F_opaque_b.ext Ez25
  have F_flag_b := F_flag_b.ext Ez25
  have F_remark_b := F_remark_b.ext Ez25
  have F_extFields_b := F_extFields_b.ext Ez25
  have F_body_b := F_body_b.ext Ez25
  have hj := Nat.le_trans hj Ez25.1
  refine own_go stz25 ?_
  have V_ar : Arv Z hz25 ar kz25 .byte (0 : Int32) [] (.int (0 : Int32)) := (Arv.new Az25 (by decide)).pad (pad_rep [] (.int (0 : Int32)) 0)
  show own_Go _ _ _ _ Tz25 (mkF m 17 #[.val (.int p1), .val (.int p2), .val (.int p3), .val (.int p4), .unset, .unset, .unset, .unset, .unset] [(.ref ar), (.ref em), .null, (.int p1), (.int p4), (.int p3), (.ref sa), (.int p2), (.ref b), (.ref b)])
  obtain ⟨vz26, Tz26, Lz26, Xz26, hQz26, stz26⟩ := own_callI Xz25 hx hZz23 rfl hoz23 (hw _ (List.mem_of_getElem? (i := 17) rfl)) (hw _ (List.mem_of_getElem? (i := 18) rfl)) (hw _ (List.mem_of_getElem? (i := 2) rfl)) (hw _ (List.mem_of_getElem? (i := 19) rfl)) (by decide) ez25 (own_rm2 l Z a0 hw [] b p2 sa p3 p4 p1 em ar hz25 n0 O Sm Em g_b E_b F_code_b F_language_b F_version_b F_opaque_b F_flag_b F_remark_b F_extFields_b F_body_b) (W := 1) (by decide) (by decide) (by decide) (by decide) own_pd1 rfl (g := (mkF m 17 #[.val (.int p1), .val (.int p2), .val (.int p3), .val (.int p4), .unset, .unset, .unset, .unset, .unset] [(.ref ar), (.ref em), .null, (.int p1), (.int p4), (.int p3), (.ref sa), (.int p2), (.ref b), (.ref b)])) (argsL := [(.int p2), (.ref sa), (.int p3), (.int p4), (.int p1), .null, (.ref em), (.ref ar)]) (rest := [(.ref b)]) rfl (by rw [hml]; rfl) rfl (by show 2 * 0 + _ ≤ _; exact Nat.le_of_eq rfl) (hb hby at_17)
  obtain ⟨rfl, Nz26q, Kz26, c0_z26, c1_z26, c2_z26, c3_z26⟩ := hQz26
  have Nz26 := Fr.app Nz24 Nz26q
  refine own_go stz26 ?_
  have O := O.keep Kz26 (allS g_b all0)
  have hj := Nat.le_trans hj Kz26.1
  have V_ar := V_ar.keep Kz26 (ninS (Ne.symm ne_b_ar) nin0)
  have E_b := c0_z26
  have F_version_b := c1_z26
  have F_opaque_b := c2_z26
  have F_flag_b := c3_z26
  show own_Go _ _ _ _ Tz26 (mkF m 20 #[.val (.int p1), .val (.int p2), .val (.int p3), .val (.int p4), .unset, .unset, .unset, .unset, .unset] [(.ref b)])
  refine own_go (fun _ k => XS.astore Xz26.here hx rfl (hb hby at_20) rfl rfl (l' := #[.val (.int p1), .val (.int p2), .val (.int p3), .val (.int p4), .val (.ref b), .unset, .unset, .unset, .unset]) rfl k) ?_
  show own_Go _ _ _ _ Tz26 (mkF m 22 #[.val (.int p1), .val (.int p2), .val (.int p3), .val (.int p4), .val (.ref b), .unset, .unset, .unset, .unset] [])
  refine own_go (fun _ k => XS.iloadN Xz26.here hx rfl (hb hby at_22) rfl k) ?_
  show own_Go _ _ _ _ Tz26 (mkF m 23 #[.val (.int p1), .val (.int p2), .val (.int p3), .val (.int p4), .val (.ref b), .unset, .unset, .unset, .unset] [(.int p1)])
  refine own_go (fun _ k => XS.iconst Xz26.here hx rfl (hb hby at_23) k) ?_
  show own_Go _ _ _ _ Tz26 (mkF m 24 #[.val (.int p1), .val (.int p2), .val (.int p3), .val (.int p4), .val (.ref b), .unset, .unset, .unset, .unset] [(.int (2 : Int32)), (.int p1)])
  refine own_go (fun _ k => iremM Xz26 hx rfl (hb hby at_24) rfl (by decide) k) ?_
  show own_Go _ _ _ _ Tz26 (mkF m 25 #[.val (.int p1), .val (.int p2), .val (.int p3), .val (.int p4), .val (.ref b), .unset, .unset, .unset, .unset] [(.int (p1 % (2 : Int32)))])
  refine own_dia (α := Int32) (C := (p1 % (2 : Int32)) = (0 : Int32)) (v1 := (0 : Int32)) (v0 := (1 : Int32)) (f := fun v => (mkF m 33 #[.val (.int p1), .val (.int p2), .val (.int p3), .val (.int p4), .val (.ref b), .unset, .unset, .unset, .unset] ((.int v) :: []))) (T' := Tz26) (fun hC k => ?_) (fun hC k => ?_) ?_
  · show own_Go _ _ _ _ Tz26 (mkF m 25 #[.val (.int p1), .val (.int p2), .val (.int p3), .val (.int p4), .val (.ref b), .unset, .unset, .unset, .unset] [(.int (p1 % (2 : Int32)))])
    refine own_go (fun _ k => XS.ifYes Xz26.here hx rfl (pc0 := 25) (pc' := 32) rfl (hb hby at_25) rfl ((if0 _ _).trans (teq hC).1) (by decide) (by decide) k) ?_
    show own_Go _ _ _ _ Tz26 (mkF m 32 #[.val (.int p1), .val (.int p2), .val (.int p3), .val (.int p4), .val (.ref b), .unset, .unset, .unset, .unset] [])
    refine own_go (fun _ k => XS.iconst Xz26.here hx rfl (hb hby at_32) k) ?_
    show own_Go _ _ _ _ Tz26 (mkF m 33 #[.val (.int p1), .val (.int p2), .val (.int p3), .val (.int p4), .val (.ref b), .unset, .unset, .unset, .unset] [(.int (0 : Int32))])
    exact k
  · show own_Go _ _ _ _ Tz26 (mkF m 25 #[.val (.int p1), .val (.int p2), .val (.int p3), .val (.int p4), .val (.ref b), .unset, .unset, .unset, .unset] [(.int (p1 % (2 : Int32)))])
    refine own_go (fun _ k => XS.ifNo Xz26.here hx rfl (hb hby at_25) rfl ((if0 _ _).trans (feq hC).1) k) ?_
    show own_Go _ _ _ _ Tz26 (mkF m 28 #[.val (.int p1), .val (.int p2), .val (.int p3), .val (.int p4), .val (.ref b), .unset, .unset, .unset, .unset] [])
    refine own_go (fun _ k => XS.iconst Xz26.here hx rfl (hb hby at_28) k) ?_
    show own_Go _ _ _ _ Tz26 (mkF m 29 #[.val (.int p1), .val (.int p2), .val (.int p3), .val (.int p4), .val (.ref b), .unset, .unset, .unset, .unset] [(.int (1 : Int32))])
    refine own_go (fun _ k => XS.goto Xz26.here hx rfl (pc0 := 29) (pc' := 33) rfl (hb hby at_29) (by decide) (by decide) k) ?_
    show own_Go _ _ _ _ Tz26 (mkF m 33 #[.val (.int p1), .val (.int p2), .val (.int p3), .val (.int p4), .val (.ref b), .unset, .unset, .unset, .unset] [(.int (1 : Int32))])
    exact k
  show own_Go _ _ _ _ Tz26 (mkF m 33 #[.val (.int p1), .val (.int p2), .val (.int p3), .val (.int p4), .val (.ref b), .unset, .unset, .unset, .unset] [(.int (if (p1 % (2 : Int32)) = (0 : Int32) then (0 : Int32) else (1 : Int32)))])
  obtain ⟨ex, h_ex⟩ : ∃ z, z = (if (p1 % (2 : Int32)) = (0 : Int32) then (0 : Int32) else (1 : Int32)) := ⟨_, rfl⟩
  rw [← h_ex]
  show own_Go _ _ _ _ Tz26 (mkF m 33 #[.val (.int p1), .val (.int p2), .val (.int p3), .val (.int p4), .val (.ref b), .unset, .unset, .unset, .unset] [(.int ex)])
  refine own_go (fun _ k => XS.istore Xz26.here hx rfl (hb hby at_33) rfl (l' := #[.val (.int p1), .val (.int p2), .val (.int p3), .val (.int p4), .val (.ref b), .val (.int ex), .unset, .unset, .unset]) rfl k) ?_
  show own_Go _ _ _ _ Tz26 (mkF m 35 #[.val (.int p1), .val (.int p2), .val (.int p3), .val (.int p4), .val (.ref b), .val (.int ex), .unset, .unset, .unset] [])
  refine own_go (fun _ k => XS.aload Xz26.here hx rfl (hb hby at_35) rfl rfl k) ?_
  show own_Go _ _ _ _ Tz26 (mkF m 37 #[.val (.int p1), .val (.int p2), .val (.int p3), .val (.int p4), .val (.ref b), .val (.int ex), .unset, .unset, .unset] [(.ref b)])
  obtain ⟨vz27, Tz27, Lz27, Xz27, hQz27, stz27⟩ := own_callV Xz26 hx hZz23 hoz23 (hw _ (List.mem_of_getElem? (i := 44) rfl)) (hw _ (List.mem_of_getElem? (i := 45) rfl)) (hw _ (List.mem_of_getElem? (i := 47) rfl)) (hw _ (List.mem_of_getElem? (i := 46) rfl)) (hw _ (List.mem_of_getElem? (i := 2) rfl)) (hw _ (List.mem_of_getElem? (i := 48) rfl)) (by decide) rfl E_b (own_rm5 l Z a0 hw [] b Tz26.heap n0 p1 ex ((own_odd p1).trans h_ex.symm) F_flag_b) (W := 0) (by decide) (by decide) (by decide) (by decide) own_pd4 rfl (g := (mkF m 37 #[.val (.int p1), .val (.int p2), .val (.int p3), .val (.int p4), .val (.ref b), .val (.int ex), .unset, .unset, .unset] [(.ref b)])) (argsL := []) (rest := []) rfl (by rw [hml]; rfl) rfl (by show 2 * 0 + _ ≤ _; exact Nat.le_of_eq rfl) (hb hby at_37)
  obtain ⟨rfl, Nz27q, ehz27⟩ := hQz27
  have Nz27 := Fr.app Nz26 Nz27q
  refine own_go stz27 ?_
  show own_Go _ _ _ _ Tz27 (mkF m 40 #[.val (.int p1), .val (.int p2), .val (.int p3), .val (.int p4), .val (.ref b), .val (.int ex), .unset, .unset, .unset] [(.int ex)])
  refine own_go (fun _ k => XS.iload Xz27.here hx rfl (hb hby at_40) rfl k) ?_
  show own_Go _ _ _ _ Tz27 (mkF m 42 #[.val (.int p1), .val (.int p2), .val (.int p3), .val (.int p4), .val (.ref b), .val (.int ex), .unset, .unset, .unset] [(.int ex), (.int ex)])
  refine own_go (fun _ k => XS.icmpNo Xz27.here hx rfl (hb hby at_42) rfl (teq rfl).2 k) ?_
  show own_Go _ _ _ _ Tz27 (mkF m 45 #[.val (.int p1), .val (.int p2), .val (.int p3), .val (.int p4), .val (.ref b), .val (.int ex), .unset, .unset, .unset] [])
  refine own_go (fun _ k => XS.iconst Xz27.here hx rfl (hb hby at_45) k) ?_
  show own_Go _ _ _ _ Tz27 (mkF m 46 #[.val (.int p1), .val (.int p2), .val (.int p3), .val (.int p4), .val (.ref b), .val (.int ex), .unset, .unset, .unset] [(.int (1 : Int32))])
  refine own_go (fun _ k => XS.goto Xz27.here hx rfl (pc0 := 46) (pc' := 50) rfl (hb hby at_46) (by decide) (by decide) k) ?_
  show own_Go _ _ _ _ Tz27 (mkF m 50 #[.val (.int p1), .val (.int p2), .val (.int p3), .val (.int p4), .val (.ref b), .val (.int ex), .unset, .unset, .unset] [(.int (1 : Int32))])
  refine own_go (fun _ k => XS.istore Xz27.here hx rfl (hb hby at_50) rfl (l' := #[.val (.int p1), .val (.int p2), .val (.int p3), .val (.int p4), .val (.ref b), .val (.int ex), .val (.int (1 : Int32)), .unset, .unset]) rfl k) ?_
  show own_Go _ _ _ _ Tz27 (mkF m 52 #[.val (.int p1), .val (.int p2), .val (.int p3), .val (.int p4), .val (.ref b), .val (.int ex), .val (.int (1 : Int32)), .unset, .unset] [])
  refine own_go (fun _ k => XS.aload Xz27.here hx rfl (hb hby at_52) rfl rfl k) ?_
  show own_Go _ _ _ _ Tz27 (mkF m 54 #[.val (.int p1), .val (.int p2), .val (.int p3), .val (.int p4), .val (.ref b), .val (.int ex), .val (.int (1 : Int32)), .unset, .unset] [(.ref b)])
  refine own_go (fun _ k => XS.iloadN Xz27.here hx rfl (hb hby at_54) rfl k) ?_
  show own_Go _ _ _ _ Tz27 (mkF m 55 #[.val (.int p1), .val (.int p2), .val (.int p3), .val (.int p4), .val (.ref b), .val (.int ex), .val (.int (1 : Int32)), .unset, .unset] [(.int p2), (.ref b)])
  refine own_go (fun _ k => XS.aconstNull Xz27.here hx rfl (hb hby at_55) k) ?_
  show own_Go _ _ _ _ Tz27 (mkF m 56 #[.val (.int p1), .val (.int p2), .val (.int p3), .val (.int p4), .val (.ref b), .val (.int ex), .val (.int (1 : Int32)), .unset, .unset] [.null, (.int p2), (.ref b)])
  obtain ⟨vz28, Tz28, Lz28, Xz28, hSz28, hZz28, hoz28, hQz28, stz28⟩ := own_callSW (s := s) (vm0 := Tz23.vm) Xz27 hSz23 hj hx hZz23 hoz23 (hw _ (List.mem_of_getElem? (i := 49) rfl)) (hw _ (List.mem_of_getElem? (i := 50) rfl)) (hw _ (List.mem_of_getElem? (i := 2) rfl)) (hw _ (List.mem_of_getElem? (i := 51) rfl)) (by decide) ehz27 (own_rm6 l Z a0 hw [] b p2 Tz26.heap n0 em O Sm Em p3 p4 F_version_b F_opaque_b) (W := 0) (by decide) (by decide) (by decide) (by decide) own_pd5 rfl (g := (mkF m 56 #[.val (.int p1), .val (.int p2), .val (.int p3), .val (.int p4), .val (.ref b), .val (.int ex), .val (.int (1 : Int32)), .unset, .unset] [.null, (.int p2), (.ref b)])) (argsL := [(.ref b), (.int p2), .null]) (rest := []) rfl (by rw [hml]; rfl) rfl (by show 2 * 0 + _ ≤ _; exact Nat.le_of_eq rfl) (hb hby at_56)
  obtain ⟨bq, rfl, Nz28q, Kz28, c0_z28, c1_z28⟩ := hQz28
  have Nz28 := Fr.app Nz27 Nz28q
  refine own_go stz28 ?_
  have O := O.keep Kz28 all0
  have V_ar := V_ar.keep Kz28 nin0
  have E_b := E_b.keep Kz28
  have F_version_b := F_version_b.keep Kz28 nin0
  have F_opaque_b := F_opaque_b.keep Kz28 nin0
  have F_flag_b := F_flag_b.keep Kz28 nin0
  have E_bq := c0_z28
  have F_flag_bq := c1_z28
  have hj := Nat.le_refl Tz28.heap.size
  show own_Go _ _ _ _ Tz28 (mkF m 59 #[.val (.int p1), .val (.int p2), .val (.int p3), .val (.int p4), .val (.ref b), .val (.int ex), .val (.int (1 : Int32)), .unset, .unset] [(.ref bq)])
  refine own_go (fun _ k => XS.astore Xz28.here hx rfl (hb hby at_59) rfl rfl (l' := #[.val (.int p1), .val (.int p2), .val (.int p3), .val (.int p4), .val (.ref b), .val (.int ex), .val (.int (1 : Int32)), .val (.ref bq), .unset]) rfl k) ?_
  show own_Go _ _ _ _ Tz28 (mkF m 61 #[.val (.int p1), .val (.int p2), .val (.int p3), .val (.int p4), .val (.ref b), .val (.int ex), .val (.int (1 : Int32)), .val (.ref bq), .unset] [])
  refine own_go (fun _ k => XS.aload Xz28.here hx rfl (hb hby at_61) rfl rfl k) ?_
  show own_Go _ _ _ _ Tz28 (mkF m 63 #[.val (.int p1), .val (.int p2), .val (.int p3), .val (.int p4), .val (.ref b), .val (.int ex), .val (.int (1 : Int32)), .val (.ref bq), .unset] [(.ref bq)])
  obtain ⟨vz29, Tz29, Lz29, Xz29, hQz29, stz29⟩ := own_callV Xz28 hx hZz28 hoz28 (hw _ (List.mem_of_getElem? (i := 44) rfl)) (hw _ (List.mem_of_getElem? (i := 45) rfl)) (hw _ (List.mem_of_getElem? (i := 47) rfl)) (hw _ (List.mem_of_getElem? (i := 46) rfl)) (hw _ (List.mem_of_getElem? (i := 2) rfl)) (hw _ (List.mem_of_getElem? (i := 48) rfl)) (by decide) rfl E_bq (own_rm5 l Z a0 hw [] bq Tz28.heap n0 (1 : Int32) (1 : Int32) (by decide) F_flag_bq) (W := 0) (by decide) (by decide) (by decide) (by decide) own_pd4 rfl (g := (mkF m 63 #[.val (.int p1), .val (.int p2), .val (.int p3), .val (.int p4), .val (.ref b), .val (.int ex), .val (.int (1 : Int32)), .val (.ref bq), .unset] [(.ref bq)])) (argsL := []) (rest := []) rfl (by rw [hml]; rfl) rfl (by show 2 * 0 + _ ≤ _; exact Nat.le_of_eq rfl) (hb hby at_63)
  obtain ⟨rfl, Nz29q, ehz29⟩ := hQz29
  have Nz29 := Fr.app Nz28 Nz29q
  refine own_go stz29 ?_
  show own_Go _ _ _ _ Tz29 (mkF m 66 #[.val (.int p1), .val (.int p2), .val (.int p3), .val (.int p4), .val (.ref b), .val (.int ex), .val (.int (1 : Int32)), .val (.ref bq), .unset] [(.int (1 : Int32))])
  refine own_go (fun _ k => XS.istore Xz29.here hx rfl (hb hby at_66) rfl (l' := #[.val (.int p1), .val (.int p2), .val (.int p3), .val (.int p4), .val (.ref b), .val (.int ex), .val (.int (1 : Int32)), .val (.ref bq), .val (.int (1 : Int32))]) rfl k) ?_
  show own_Go _ _ _ _ Tz29 (mkF m 68 #[.val (.int p1), .val (.int p2), .val (.int p3), .val (.int p4), .val (.ref b), .val (.int ex), .val (.int (1 : Int32)), .val (.ref bq), .val (.int (1 : Int32))] [])
  refine own_go (fun _ k => XS.iload Xz29.here hx rfl (hb hby at_68) rfl k) ?_
  show own_Go _ _ _ _ Tz29 (mkF m 70 #[.val (.int p1), .val (.int p2), .val (.int p3), .val (.int p4), .val (.ref b), .val (.int ex), .val (.int (1 : Int32)), .val (.ref bq), .val (.int (1 : Int32))] [(.int (1 : Int32))])
  refine own_go (fun _ k => XS.ifNo Xz29.here hx rfl (hb hby at_70) rfl ((if0 _ _).trans (feq (by decide : ¬ ((1 : Int32) = (0 : Int32)))).1) k) ?_
  show own_Go _ _ _ _ Tz29 (mkF m 73 #[.val (.int p1), .val (.int p2), .val (.int p3), .val (.int p4), .val (.ref b), .val (.int ex), .val (.int (1 : Int32)), .val (.ref bq), .val (.int (1 : Int32))] [])
  refine own_go (fun _ k => XS.iload Xz29.here hx rfl (hb hby at_73) rfl k) ?_
  show own_Go _ _ _ _ Tz29 (mkF m 75 #[.val (.int p1), .val (.int p2), .val (.int p3), .val (.int p4), .val (.ref b), .val (.int ex), .val (.int (1 : Int32)), .val (.ref bq), .val (.int (1 : Int32))] [(.int (1 : Int32))])
  refine own_go (fun _ k => XS.ifNo Xz29.here hx rfl (hb hby at_75) rfl ((if0 _ _).trans (feq (by decide : ¬ ((1 : Int32) = (0 : Int32)))).1) k) ?_
  show own_Go _ _ _ _ Tz29 (mkF m 78 #[.val (.int p1), .val (.int p2), .val (.int p3), .val (.int p4), .val (.ref b), .val (.int ex), .val (.int (1 : Int32)), .val (.ref bq), .val (.int (1 : Int32))] [])
  refine own_go (fun _ k => XS.iconst Xz29.here hx rfl (hb hby at_78) k) ?_
  show own_Go _ _ _ _ Tz29 (mkF m 79 #[.val (.int p1), .val (.int p2), .val (.int p3), .val (.int p4), .val (.ref b), .val (.int ex), .val (.int (1 : Int32)), .val (.ref bq), .val (.int (1 : Int32))] [(.int (1 : Int32))])
  refine own_go (fun _ k => XS.goto Xz29.here hx rfl (pc0 := 79) (pc' := 83) rfl (hb hby at_79) (by decide) (by decide) k) ?_
  show own_Go _ _ _ _ Tz29 (mkF m 83 #[.val (.int p1), .val (.int p2), .val (.int p3), .val (.int p4), .val (.ref b), .val (.int ex), .val (.int (1 : Int32)), .val (.ref bq), .val (.int (1 : Int32))] [(.int (1 : Int32))])
  exact own_endW Xz29 hSz28 (by rw [ehz29]; exact hj) hlk (v := (some (.int (1 : Int32)))) (fun h => by rw [hret] at h; cases h) (fun fs hr => retN Xz29 hx (t := .boolean) hret (by simp) (hb hby at_83) hr) (by rw [ehz29]; exact ⟨rfl, Nz29⟩) (by decide) (by decide)
set_option maxRecDepth 65536 in
set_option maxHeartbeats 40000000 in
theorem own_comes {Post : Tables → Env → Array Value → State → Outcome → State → Prop} (hpost : ∀ tb e args s v u, (limb_1_1.after args s (.returned v) u = true ∧ limb_1_2.after args s (.returned v) u = true ∧ True) → ReturnedEndW s (.returned v) u (Jvm.fieldLocs frame_1_writes args s ++ Jvm.arrayLocs frame_1_arrays args s ++ Jvm.staticLocs frame_1_statics s) 24 2176 → Post tb e args s (.returned v) u) :
    ArmFor flags0 classFile x code maxLocals ret World_1 tables_1 room_1 Calls_1 rest_1 Pre_1 Post := by
  intro l hfl _ _ p e ha hc hk s m args below hf hA hF happ hP
  obtain ⟨hcalls, hrest, hpre⟩ := hP
  obtain ⟨-, -, -, hnamed, -, -, -, hat⟩ := (Spec.applies_iff hf).mp happ
  obtain ⟨hg, hn⟩ := and_e (Cond.before_iff.mp (show (Jvm.Cond.and given_1 narrow_1).before args s = true from hpre))
  obtain ⟨g1, g2⟩ := and_e hg
  obtain ⟨g3, g4⟩ := and_e g2
  obtain ⟨g5, g6⟩ := and_e g4
  obtain ⟨g7, g8⟩ := and_e g6
  obtain ⟨w0, w1, w2, w3, rfl⟩ : ∃ w0 w1 w2 w3 : Value, args = #[w0, w1, w2, w3] := by
    have hs : args.size = 4 := by simpa [Cond.value, given_1] using g1
    obtain ⟨L⟩ := args
    match L, hs with
    | [w0, w1, w2, w3], _ => exact ⟨w0, w1, w2, w3, rfl⟩
  have hw := fun d (hd : d ∈ tables_1) => atoms_spec (ws := Jvm.Cond.code x code maxLocals ret :: tables_1) hat d (List.mem_cons_of_mem _ hd)
  have hfit : Fit s := fun {y c} hc i hi => by
    obtain ⟨ha, rfl⟩ := Array.getElem?_eq_some_iff.mp hc
    have q := List.all_eq_true.mp ((Array.all_eq_true_iff_forall_mem.mp hF) _ (Array.getElem_mem ha)) i (List.mem_range.mpr hi)
    simpa [Array.getElem?_eq_getElem hi] using q
  obtain ⟨hsets, hown0⟩ := atoms_of _ (rest_1_c_eq ▸ (show rest_1_c.before _ s = true from hrest))
  have hr0 := Cond.before_iff.mp hown0
  obtain ⟨i0, ei0⟩ := is_v g3
  obtain rfl : w0 = (.int i0) := Option.some.inj ei0
  obtain ⟨i1, ei1⟩ := is_v g5
  obtain rfl : w1 = (.int i1) := Option.some.inj ei1
  obtain ⟨i2, ei2⟩ := is_v g7
  obtain rfl : w2 = (.int i2) := Option.some.inj ei2
  obtain ⟨i3, ei3⟩ := is_v g8
  obtain rfl : w3 = (.int i3) := Option.some.inj ei3
  obtain ⟨em, eve⟩ := exa_v (Cond.before_iff.mp (hsets _ (List.mem_of_getElem? (i := 2) rfl)))
  have Sm := Sta.start eve (Or.inl (hsets _ (List.mem_of_getElem? (i := 1) rfl)))
  have Em := Exa.start eve (Cond.before_iff.mp (hsets _ (List.mem_of_getElem? (i := 2) rfl)))
  obtain ⟨n, o, h1, h2, h3, _, L, rfl, ⟨rfl, N⟩, hq⟩ := own_rm0 l s _ hw tables_1 i0 i1 i2 i3 s.heap s.heap.size em (Old.start s) Sm Em p e ha hc hk s m _ below hf ((Spec.applies_iff_loose hf).mp happ).1 ⟨rfl, State.Warmed39.refl s, rfl⟩ trivial
  refine ⟨n, _, h1, h2, h3, hpost _ _ _ _ _ _ ⟨Cond.after_iff.mpr rfl, Cond.after_iff.mpr (eq_i res_at (Term.int_eval (1)) rfl), trivial⟩ ⟨hq.1, hq.2.1, hq.2.2.1, (hq.2.2.2.sift fun y hy => Or.inr (N y hy)).mono (by decide) (by decide)⟩⟩
theorem main_1_1 : Claimed_1_1 := own_comes fun _ _ _ _ _ _ h hF => ⟨h.1, hF⟩
theorem main_1_2 : Claimed_1_2 := own_comes fun _ _ _ _ _ _ h hF => ⟨h.2.1, hF⟩
end Jvm.Pilot.@@N@@
namespace Jvm.Pilot.@@N@@
open Jvm Jvm.ClassFile Sem Op Lib Jvm.Free Jvm.Stand Jvm.Pilot.@@N@@.Jvm.D
/-! MADE BY PROGRAM (witnessworld.py) out of the Statement's table words and the real class files: 20 classes; the members and pool entries that the words name. The judged class is class 1, her method 1. -/
namespace start1
open Jvm.ClassFile
def u (s : String) : CpInfo := .utf8 (stringToUtf16 s)
/-- a pool by its gaps: so many unusable entries, then the entry; so many at the end -/
def gap : Nat → List CpInfo → List CpInfo
  | 0, r => r
  | n + 1, r => .unusable :: gap n r
def poolList (es : List (Nat × CpInfo)) (last : Nat) : List CpInfo := es.foldr (fun e r => gap e.1 (e.2 :: r)) (gap last [])
def pool (es : List (Nat × CpInfo)) (last : Nat) : Array CpInfo := ⟨poolList es last⟩
def fileOf (pool : Array CpInfo) (this : Nat) (attrs : Array Attribute := #[]) (ms : Array MethodInfo := #[]) (fl : Nat := 33) (sup : Nat := 0) (ifs : Array Nat := #[]) (fds : Array FieldInfo := #[]) : ClassFile where
  minorVersion := 0
  majorVersion := 65
  constantPool := pool
  accessFlags := fl
  thisClass := this
  superClass := sup
  interfaces := ifs
  fields := fds
  methods := ms
  attributes := attrs
def plain (name : String) (sup : Option ClassId) : Class where
  name := name
  kind := .ordinary
  loader := none
  accessFlags := 33
  super := sup
  interfaces := #[]
  cf := none
  fields := #[]
  methods := #[]
  instanceTypes := #[]
  staticTypes := #[]
  resolved := #[]
  callSites := []
  init := .initialized
  statics := none
  mirror := none

def pool0 : Array CpInfo := pool [(5, u "<init>"), (0, u "()V"), (1, .class_ 10), (1, u "java/lang/Object")] 113

def k0c0 : Code := { maxStack := 0, maxLocals := 1, code := object_method_1_code, exceptionTable := #[], attributes := #[] }
def k0m0 : Method := { name := "<init>", desc := "()V", sig := { parameters := [], returnType := none }, accessFlags := 1, code := some k0c0 }
/-- java/lang/Object -/
def k0 : Class := { plain "java/lang/Object" none with
  accessFlags := 33
  interfaces := #[]
  cf := some (fileOf pool0 8 #[] #[{ accessFlags := 1, nameIndex := 5, descriptorIndex := 6, attributes := #[] }] 33 0 #[] #[])
  fields := #[]
  methods := #[k0m0]
  instanceTypes := #[]
  staticTypes := #[]
  resolved := Array.replicate 124 none
  statics := none }

def pool1 : Array CpInfo := pool [(2, .class_ 4), (1, u "java/lang/Object"), (0, u "<init>"), (0, u "()V"), (0, .class_ 8), (0, u "com/example/planaria/planaria/remoting/RemotingCommand"), (0, .string 10), (0, u "JAVA"), (0, .interfaceMethodref 12 13), (0, .class_ 14), (0, .nameAndType 15 16), (0, u "java/util/Map"), (0, u "of"), (0, u "()Ljava/util/Map;"), (0, .methodref 7 18), (0, .nameAndType 5 19), (0, u "(ILjava/lang/String;IIILjava/lang/String;Ljava/util/Map;[B)V"), (0, .methodref 7 21), (0, .nameAndType 22 23), (0, u "isReply"), (0, u "()Z"), (0, .methodref 7 25), (0, .nameAndType 26 27), (0, u "replyTo"), (0, u "(Lcom/example/planaria/planaria/remoting/RemotingCommand;ILjava/lang/String;)Lcom/example/planaria/planaria/remoting/RemotingCommand;"), (0, .class_ 29), (0, u "com/example/planaria/planaria/remoting/RemotingCommandIsReplyPinLaw"), (2, u "law"), (0, u "(IIII)Z")] 3

def k1m0 : Method := { name := "<init>", desc := "()V", sig := { parameters := [], returnType := none }, accessFlags := 1, code := none }
def k1c1 : Code := { maxStack := 10, maxLocals := 9, code := code, exceptionTable := #[], attributes := #[] }
def k1m1 : Method := { name := "law", desc := "(IIII)Z", sig := { parameters := [.int, .int, .int, .int], returnType := some .boolean }, accessFlags := 9, code := some k1c1 }
/-- com/example/planaria/planaria/remoting/RemotingCommandIsReplyPinLaw -/
def k1 : Class := { plain "com/example/planaria/planaria/remoting/RemotingCommandIsReplyPinLaw" (some 0) with
  accessFlags := 49
  interfaces := #[]
  cf := some (fileOf pool1 28 #[] #[{ accessFlags := 1, nameIndex := 5, descriptorIndex := 6, attributes := #[] }, { accessFlags := 9, nameIndex := 32, descriptorIndex := 33, attributes := #[] }] 49 2 #[] #[])
  fields := #[]
  methods := #[k1m0, k1m1]
  instanceTypes := #[]
  staticTypes := #[]
  resolved := Array.replicate 37 none
  statics := none }

def pool2 : Array CpInfo := pool [(1, .methodref 2 3), (0, .class_ 4), (0, .nameAndType 5 6), (0, u "java/lang/Object"), (0, u "<init>"), (0, u "()V"), (0, .fieldref 8 9), (0, .class_ 10), (0, .nameAndType 11 12), (0, u "com/example/planaria/planaria/remoting/RemotingCommand"), (0, u "code"), (0, u "I"), (0, .fieldref 8 14), (0, .nameAndType 15 16), (0, u "language"), (0, u "Ljava/lang/String;"), (0, .fieldref 8 18), (0, .nameAndType 19 12), (0, u "version"), (0, .fieldref 8 21), (0, .nameAndType 22 12), (0, u "opaque"), (0, .fieldref 8 24), (0, .nameAndType 25 12), (0, u "flag"), (0, .fieldref 8 27), (0, .nameAndType 28 16), (0, u "remark"), (0, .interfaceMethodref 30 31), (0, .class_ 32), (0, .nameAndType 33 34), (0, u "java/util/Map"), (0, u "copyOf"), (0, u "(Ljava/util/Map;)Ljava/util/Map;"), (0, .fieldref 8 36), (0, .nameAndType 37 38), (0, u "extFields"), (0, u "Ljava/util/Map;"), (0, .fieldref 8 40), (0, .nameAndType 41 42), (0, u "body"), (0, u "[B"), (0, .string 44), (0, u "JAVA"), (0, .methodref 8 46), (0, .nameAndType 5 47), (0, u "(ILjava/lang/String;IIILjava/lang/String;Ljava/util/Map;[B)V"), (0, .interfaceMethodref 30 49), (0, .nameAndType 50 51), (0, u "of"), (0, u "()Ljava/util/Map;"), (0, .methodref 8 53), (0, .nameAndType 54 55), (0, u "replyTo"), (0, u "(Lcom/example/planaria/planaria/remoting/RemotingCommand;ILjava/lang/String;Ljava/util/Map;[B)Lcom/example/planaria/planaria/remoting/RemotingCommand;"), (2, u "NEXT_OPAQUE"), (0, u "Ljava/util/concurrent/atomic/AtomicInteger;"), (20, u "REPLY_FLAG"), (2, u "ONEWAY_FLAG"), (1, u "LANGUAGE"), (0, u "VERSION"), (7, u "(Lcom/example/planaria/planaria/remoting/RemotingCommand;ILjava/lang/String;)Lcom/example/planaria/planaria/remoting/RemotingCommand;"), (14, u "isReply"), (0, u "()Z")] 10

def k2c0 : Code := { maxStack := 2, maxLocals := 9, code := prog_11_method_1_code, exceptionTable := #[], attributes := #[] }
def k2m0 : Method := { name := "<init>", desc := "(ILjava/lang/String;IIILjava/lang/String;Ljava/util/Map;[B)V", sig := { parameters := [.int, (.object "java/lang/String"), .int, .int, .int, (.object "java/lang/String"), (.object "java/util/Map"), (.array .byte)], returnType := none }, accessFlags := 0, code := some k2c0 }
def k2c1 : Code := { maxStack := 10, maxLocals := 5, code := prog_11_method_2_code, exceptionTable := #[], attributes := #[] }
def k2m1 : Method := { name := "replyTo", desc := "(Lcom/example/planaria/planaria/remoting/RemotingCommand;ILjava/lang/String;Ljava/util/Map;[B)Lcom/example/planaria/planaria/remoting/RemotingCommand;", sig := { parameters := [(.object "com/example/planaria/planaria/remoting/RemotingCommand"), .int, (.object "java/lang/String"), (.object "java/util/Map"), (.array .byte)], returnType := some (.object "com/example/planaria/planaria/remoting/RemotingCommand") }, accessFlags := 9, code := some k2c1 }
def k2c2 : Code := { maxStack := 5, maxLocals := 3, code := prog_11_method_3_code, exceptionTable := #[], attributes := #[] }
def k2m2 : Method := { name := "replyTo", desc := "(Lcom/example/planaria/planaria/remoting/RemotingCommand;ILjava/lang/String;)Lcom/example/planaria/planaria/remoting/RemotingCommand;", sig := { parameters := [(.object "com/example/planaria/planaria/remoting/RemotingCommand"), .int, (.object "java/lang/String")], returnType := some (.object "com/example/planaria/planaria/remoting/RemotingCommand") }, accessFlags := 9, code := some k2c2 }
def k2c3 : Code := { maxStack := 2, maxLocals := 1, code := prog_11_method_12_code, exceptionTable := #[], attributes := #[] }
def k2m3 : Method := { name := "isReply", desc := "()Z", sig := { parameters := [], returnType := some .boolean }, accessFlags := 1, code := some k2c3 }
/-- com/example/planaria/planaria/remoting/RemotingCommand -/
def k2 : Class := { plain "com/example/planaria/planaria/remoting/RemotingCommand" (some 0) with
  accessFlags := 49
  interfaces := #[]
  cf := some (fileOf pool2 8 #[] #[{ accessFlags := 0, nameIndex := 5, descriptorIndex := 47, attributes := #[] }, { accessFlags := 9, nameIndex := 54, descriptorIndex := 55, attributes := #[] }, { accessFlags := 9, nameIndex := 54, descriptorIndex := 94, attributes := #[] }, { accessFlags := 1, nameIndex := 109, descriptorIndex := 110, attributes := #[] }] 49 2 #[] #[{ accessFlags := 24, nameIndex := 80, descriptorIndex := 12, attributes := #[] }, { accessFlags := 24, nameIndex := 83, descriptorIndex := 12, attributes := #[] }, { accessFlags := 26, nameIndex := 85, descriptorIndex := 16, attributes := #[] }, { accessFlags := 26, nameIndex := 86, descriptorIndex := 12, attributes := #[] }, { accessFlags := 26, nameIndex := 58, descriptorIndex := 59, attributes := #[] }, { accessFlags := 18, nameIndex := 11, descriptorIndex := 12, attributes := #[] }, { accessFlags := 18, nameIndex := 15, descriptorIndex := 16, attributes := #[] }, { accessFlags := 18, nameIndex := 19, descriptorIndex := 12, attributes := #[] }, { accessFlags := 18, nameIndex := 22, descriptorIndex := 12, attributes := #[] }, { accessFlags := 18, nameIndex := 25, descriptorIndex := 12, attributes := #[] }, { accessFlags := 18, nameIndex := 28, descriptorIndex := 16, attributes := #[] }, { accessFlags := 18, nameIndex := 37, descriptorIndex := 38, attributes := #[] }, { accessFlags := 18, nameIndex := 41, descriptorIndex := 42, attributes := #[] }])
  fields := #[{ name := "REPLY_FLAG", type := .int, accessFlags := 24, slot := 0, constantValue := 0 }, { name := "ONEWAY_FLAG", type := .int, accessFlags := 24, slot := 1, constantValue := 0 }, { name := "LANGUAGE", type := (.object "java/lang/String"), accessFlags := 26, slot := 2, constantValue := 0 }, { name := "VERSION", type := .int, accessFlags := 26, slot := 3, constantValue := 0 }, { name := "NEXT_OPAQUE", type := (.object "java/util/concurrent/atomic/AtomicInteger"), accessFlags := 26, slot := 4, constantValue := 0 }, { name := "code", type := .int, accessFlags := 18, slot := 0, constantValue := 0 }, { name := "language", type := (.object "java/lang/String"), accessFlags := 18, slot := 1, constantValue := 0 }, { name := "version", type := .int, accessFlags := 18, slot := 2, constantValue := 0 }, { name := "opaque", type := .int, accessFlags := 18, slot := 3, constantValue := 0 }, { name := "flag", type := .int, accessFlags := 18, slot := 4, constantValue := 0 }, { name := "remark", type := (.object "java/lang/String"), accessFlags := 18, slot := 5, constantValue := 0 }, { name := "extFields", type := (.object "java/util/Map"), accessFlags := 18, slot := 6, constantValue := 0 }, { name := "body", type := (.array .byte), accessFlags := 18, slot := 7, constantValue := 0 }]
  methods := #[k2m0, k2m1, k2m2, k2m3]
  instanceTypes := #[.int, (.object "java/lang/String"), .int, .int, .int, (.object "java/lang/String"), (.object "java/util/Map"), (.array .byte)]
  staticTypes := #[.int, .int, (.object "java/lang/String"), .int, (.object "java/util/concurrent/atomic/AtomicInteger")]
  resolved := Array.replicate 121 none
  statics := none }

def pool3 : Array CpInfo := pool [(1, .class_ 2), (0, u "java/io/Serializable"), (0, .class_ 4), (0, u "java/lang/Object")] 2

/-- java/io/Serializable -/
def k3 : Class := { plain "java/io/Serializable" (some 0) with
  accessFlags := 1537
  interfaces := #[]
  cf := some (fileOf pool3 1 #[] #[] 1537 3 #[] #[])
  fields := #[]
  methods := #[]
  instanceTypes := #[]
  staticTypes := #[]
  resolved := Array.replicate 7 none
  statics := none }

def pool4 : Array CpInfo := pool [(1, .class_ 2), (0, u "java/lang/Comparable"), (0, .class_ 4), (0, u "java/lang/Object")] 7

/-- java/lang/Comparable -/
def k4 : Class := { plain "java/lang/Comparable" (some 0) with
  accessFlags := 1537
  interfaces := #[]
  cf := some (fileOf pool4 1 #[] #[] 1537 3 #[] #[])
  fields := #[]
  methods := #[]
  instanceTypes := #[]
  staticTypes := #[]
  resolved := Array.replicate 12 none
  statics := none }

def pool5 : Array CpInfo := pool [(2, .class_ 4), (1, u "java/lang/CharSequence"), (42, .class_ 48), (0, u "java/lang/CharSequence$1CodePointIterator"), (10, .class_ 60), (0, u "java/lang/CharSequence$1CharIterator"), (5, .class_ 67), (0, u "java/lang/Object")] 63

/-- java/lang/CharSequence -/
def k5 : Class := { plain "java/lang/CharSequence" (some 0) with
  accessFlags := 1537
  interfaces := #[]
  cf := some (fileOf pool5 2 #[.nestMembers #[47, 59]] #[] 1537 66 #[] #[])
  fields := #[]
  methods := #[]
  instanceTypes := #[]
  staticTypes := #[]
  resolved := Array.replicate 131 none
  statics := none }

def pool6 : Array CpInfo := pool [(1, .class_ 2), (0, u "java/lang/constant/Constable"), (0, .class_ 4), (0, u "java/lang/Object")] 6

/-- java/lang/constant/Constable -/
def k6 : Class := { plain "java/lang/constant/Constable" (some 0) with
  accessFlags := 1537
  interfaces := #[]
  cf := some (fileOf pool6 1 #[] #[] 1537 3 #[] #[])
  fields := #[]
  methods := #[]
  instanceTypes := #[]
  staticTypes := #[]
  resolved := Array.replicate 11 none
  statics := none }

def pool7 : Array CpInfo := pool [(1, .class_ 2), (0, u "java/lang/constant/ConstantDesc"), (0, .class_ 4), (0, u "java/lang/Object")] 32

/-- java/lang/constant/ConstantDesc -/
def k7 : Class := { plain "java/lang/constant/ConstantDesc" (some 0) with
  accessFlags := 1537
  interfaces := #[]
  cf := some (fileOf pool7 1 #[] #[] 1537 3 #[] #[])
  fields := #[]
  methods := #[]
  instanceTypes := #[]
  staticTypes := #[]
  resolved := Array.replicate 37 none
  statics := none }

def pool8 : Array CpInfo := pool [(2, .class_ 4), (1, u "java/lang/Object"), (0, u "<init>"), (0, u "()V"), (3, .class_ 12), (1, u "java/lang/String"), (0, u "value"), (0, u "[B"), (2, u "coder"), (0, u "B"), (2, u "hash"), (0, u "I"), (2, u "hashIsZero"), (0, u "Z"), (13, u "COMPACT_STRINGS"), (534, .class_ 576), (0, u "java/lang/CharSequence"), (22, u "CASE_INSENSITIVE_ORDER"), (0, u "Ljava/util/Comparator;"), (500, u "serialPersistentFields"), (0, u "[Ljava/io/ObjectStreamField;"), (0, .class_ 1104), (0, u "java/lang/String$CaseInsensitiveComparator"), (1, .class_ 1107), (0, u "java/io/Serializable"), (0, .class_ 1109), (0, u "java/lang/Comparable"), (0, .class_ 1111), (0, u "java/lang/constant/Constable"), (0, .class_ 1113), (0, u "java/lang/constant/ConstantDesc"), (2, u "serialVersionUID"), (0, u "J"), (3, u "REPL"), (0, u "C"), (2, u "LATIN1"), (1, u "UTF16")] 323

def k8m0 : Method := { name := "<init>", desc := "()V", sig := { parameters := [], returnType := none }, accessFlags := 1, code := none }
/-- java/lang/String -/
def k8 : Class := { plain "java/lang/String" (some 0) with
  accessFlags := 49
  interfaces := #[3, 4, 5, 6, 7]
  cf := some (fileOf pool8 10 #[.nestMembers #[1103]] #[{ accessFlags := 1, nameIndex := 5, descriptorIndex := 6, attributes := #[] }] 49 2 #[1106, 1108, 575, 1110, 1112] #[{ accessFlags := 18, nameIndex := 13, descriptorIndex := 14, attributes := #[] }, { accessFlags := 18, nameIndex := 17, descriptorIndex := 18, attributes := #[] }, { accessFlags := 2, nameIndex := 21, descriptorIndex := 22, attributes := #[] }, { accessFlags := 2, nameIndex := 25, descriptorIndex := 26, attributes := #[] }, { accessFlags := 26, nameIndex := 1116, descriptorIndex := 1117, attributes := #[] }, { accessFlags := 24, nameIndex := 40, descriptorIndex := 26, attributes := #[] }, { accessFlags := 26, nameIndex := 1101, descriptorIndex := 1102, attributes := #[] }, { accessFlags := 26, nameIndex := 1121, descriptorIndex := 1122, attributes := #[] }, { accessFlags := 25, nameIndex := 599, descriptorIndex := 600, attributes := #[] }, { accessFlags := 24, nameIndex := 1125, descriptorIndex := 18, attributes := #[] }, { accessFlags := 24, nameIndex := 1127, descriptorIndex := 18, attributes := #[] }])
  fields := #[{ name := "value", type := (.array .byte), accessFlags := 18, slot := 0, constantValue := 0 }, { name := "coder", type := .byte, accessFlags := 18, slot := 1, constantValue := 0 }, { name := "hash", type := .int, accessFlags := 2, slot := 2, constantValue := 0 }, { name := "hashIsZero", type := .boolean, accessFlags := 2, slot := 3, constantValue := 0 }, { name := "serialVersionUID", type := .long, accessFlags := 26, slot := 0, constantValue := 0 }, { name := "COMPACT_STRINGS", type := .boolean, accessFlags := 24, slot := 1, constantValue := 0 }, { name := "serialPersistentFields", type := (.array (.object "java/io/ObjectStreamField")), accessFlags := 26, slot := 2, constantValue := 0 }, { name := "REPL", type := .char, accessFlags := 26, slot := 3, constantValue := 0 }, { name := "CASE_INSENSITIVE_ORDER", type := (.object "java/util/Comparator"), accessFlags := 25, slot := 4, constantValue := 0 }, { name := "LATIN1", type := .byte, accessFlags := 24, slot := 5, constantValue := 0 }, { name := "UTF16", type := .byte, accessFlags := 24, slot := 6, constantValue := 0 }]
  methods := #[k8m0]
  instanceTypes := #[(.array .byte), .byte, .int, .boolean]
  staticTypes := #[.long, .boolean, (.array (.object "java/io/ObjectStreamField")), .char, (.object "java/util/Comparator"), .byte, .byte]
  resolved := Array.replicate 1451 none
  statics := none }

def pool9 : Array CpInfo := pool [(2, .class_ 4), (1, u "java/util/Map"), (31, .class_ 37), (0, u "java/util/Map$Entry"), (43, .fieldref 82 83), (0, .class_ 84), (0, .nameAndType 85 86), (0, u "java/util/ImmutableCollections"), (0, u "EMPTY_MAP"), (0, u "Ljava/util/ImmutableCollections$MapN;"), (6, .class_ 94), (0, u "java/lang/Object"), (6, .class_ 102), (0, u "java/util/ImmutableCollections$AbstractImmutableMap"), (5, u "of"), (0, u "()Ljava/util/Map;"), (140, u "copyOf"), (0, u "(Ljava/util/Map;)Ljava/util/Map;")] 11

def k9c0 : Code := { maxStack := 1, maxLocals := 0, code := jdk_72_method_26_code, exceptionTable := #[], attributes := #[] }
def k9m0 : Method := { name := "of", desc := "()Ljava/util/Map;", sig := { parameters := [], returnType := some (.object "java/util/Map") }, accessFlags := 9, code := some k9c0 }
def k9c1 : Code := { maxStack := 2, maxLocals := 1, code := jdk_72_method_39_code, exceptionTable := #[], attributes := #[] }
def k9m1 : Method := { name := "copyOf", desc := "(Ljava/util/Map;)Ljava/util/Map;", sig := { parameters := [(.object "java/util/Map")], returnType := some (.object "java/util/Map") }, accessFlags := 9, code := some k9c1 }
/-- java/util/Map -/
def k9 : Class := { plain "java/util/Map" (some 0) with
  accessFlags := 1537
  interfaces := #[]
  cf := some (fileOf pool9 2 #[.nestMembers #[36]] #[{ accessFlags := 9, nameIndex := 108, descriptorIndex := 109, attributes := #[] }, { accessFlags := 9, nameIndex := 250, descriptorIndex := 251, attributes := #[] }] 1537 93 #[] #[])
  fields := #[]
  methods := #[k9m0, k9m1]
  instanceTypes := #[]
  staticTypes := #[]
  resolved := Array.replicate 263 none
  statics := none }

def pool10 : Array CpInfo := pool [(2, .class_ 4), (1, u "java/lang/Object"), (0, u "<init>"), (0, u "()V"), (3, .class_ 11), (0, u "java/util/ImmutableCollections$List12"), (0, .class_ 13), (0, u "java/util/ImmutableCollections$ListN"), (3, u "Z"), (29, .class_ 49), (1, u "java/util/ImmutableCollections"), (0, u "$assertionsDisabled"), (5, u "[Ljava/lang/Object;"), (5, u "EMPTY_LIST"), (0, u "Ljava/util/ImmutableCollections$ListN;"), (8, u "EMPTY_LIST_NULLS"), (22, u "SALT32L"), (0, u "J"), (2, u "REVERSE"), (6, u "archivedObjects"), (2, u "EMPTY"), (0, u "Ljava/lang/Object;"), (0, .class_ 112), (0, u "java/util/ImmutableCollections$SetN"), (5, u "EMPTY_SET"), (0, u "Ljava/util/ImmutableCollections$SetN;"), (0, .class_ 121), (0, u "java/util/ImmutableCollections$MapN"), (3, u "EMPTY_MAP"), (0, u "Ljava/util/ImmutableCollections$MapN;"), (4, u "EXPAND_FACTOR"), (0, u "I"), (36, .class_ 170), (0, u "java/util/ImmutableCollections$MapN$MapNIterator"), (0, .class_ 172), (0, u "java/util/ImmutableCollections$MapN$1"), (0, .class_ 174), (0, u "java/util/ImmutableCollections$Map1"), (0, .class_ 176), (0, u "java/util/ImmutableCollections$AbstractImmutableMap"), (0, .class_ 178), (0, u "java/util/ImmutableCollections$SetN$SetNIterator"), (0, .class_ 180), (0, u "java/util/ImmutableCollections$Set12"), (0, .class_ 182), (0, u "java/util/ImmutableCollections$Set12$1"), (0, .class_ 184), (0, u "java/util/ImmutableCollections$AbstractImmutableSet"), (0, .class_ 186), (0, u "java/util/ImmutableCollections$SubList"), (0, .class_ 188), (0, u "java/util/ImmutableCollections$ListItr"), (0, .class_ 190), (0, u "java/util/ImmutableCollections$AbstractImmutableList"), (0, .class_ 192), (0, u "java/util/ImmutableCollections$AbstractImmutableCollection"), (0, .class_ 194), (0, u "java/util/ImmutableCollections$Access"), (0, .class_ 196), (0, u "java/util/ImmutableCollections$Access$1")] 16

def k10m0 : Method := { name := "<init>", desc := "()V", sig := { parameters := [], returnType := none }, accessFlags := 2, code := none }
/-- java/util/ImmutableCollections -/
def k10 : Class := { plain "java/util/ImmutableCollections" (some 0) with
  accessFlags := 32
  interfaces := #[]
  cf := some (fileOf pool10 47 #[.nestMembers #[120, 169, 171, 173, 175, 111, 177, 179, 181, 183, 12, 10, 185, 187, 189, 191, 193, 195]] #[{ accessFlags := 2, nameIndex := 5, descriptorIndex := 6, attributes := #[] }] 32 2 #[] #[{ accessFlags := 26, nameIndex := 95, descriptorIndex := 96, attributes := #[] }, { accessFlags := 26, nameIndex := 99, descriptorIndex := 17, attributes := #[] }, { accessFlags := 10, nameIndex := 106, descriptorIndex := 56, attributes := #[] }, { accessFlags := 26, nameIndex := 109, descriptorIndex := 110, attributes := #[] }, { accessFlags := 24, nameIndex := 62, descriptorIndex := 63, attributes := #[] }, { accessFlags := 24, nameIndex := 72, descriptorIndex := 63, attributes := #[] }, { accessFlags := 24, nameIndex := 118, descriptorIndex := 119, attributes := #[] }, { accessFlags := 24, nameIndex := 125, descriptorIndex := 126, attributes := #[] }, { accessFlags := 24, nameIndex := 131, descriptorIndex := 132, attributes := #[] }, { accessFlags := 4120, nameIndex := 50, descriptorIndex := 17, attributes := #[] }])
  fields := #[{ name := "SALT32L", type := .long, accessFlags := 26, slot := 0, constantValue := 0 }, { name := "REVERSE", type := .boolean, accessFlags := 26, slot := 1, constantValue := 0 }, { name := "archivedObjects", type := (.array (.object "java/lang/Object")), accessFlags := 10, slot := 2, constantValue := 0 }, { name := "EMPTY", type := (.object "java/lang/Object"), accessFlags := 26, slot := 3, constantValue := 0 }, { name := "EMPTY_LIST", type := (.object "java/util/ImmutableCollections$ListN"), accessFlags := 24, slot := 4, constantValue := 0 }, { name := "EMPTY_LIST_NULLS", type := (.object "java/util/ImmutableCollections$ListN"), accessFlags := 24, slot := 5, constantValue := 0 }, { name := "EMPTY_SET", type := (.object "java/util/ImmutableCollections$SetN"), accessFlags := 24, slot := 6, constantValue := 0 }, { name := "EMPTY_MAP", type := (.object "java/util/ImmutableCollections$MapN"), accessFlags := 24, slot := 7, constantValue := 0 }, { name := "EXPAND_FACTOR", type := .int, accessFlags := 24, slot := 8, constantValue := 0 }, { name := "$assertionsDisabled", type := .boolean, accessFlags := 4120, slot := 9, constantValue := 0 }]
  methods := #[k10m0]
  instanceTypes := #[]
  staticTypes := #[.long, .boolean, (.array (.object "java/lang/Object")), (.object "java/lang/Object"), (.object "java/util/ImmutableCollections$ListN"), (.object "java/util/ImmutableCollections$ListN"), (.object "java/util/ImmutableCollections$SetN"), (.object "java/util/ImmutableCollections$MapN"), .int, .boolean]
  resolved := Array.replicate 213 none
  statics := some 0 }

def pool11 : Array CpInfo := pool [(2, .class_ 4), (1, u "java/lang/Object"), (0, u "<init>"), (0, u "()V"), (1, .class_ 10), (1, u "java/util/AbstractMap"), (42, .class_ 54), (0, u "java/util/Map"), (9, u "keySet"), (0, u "Ljava/util/Set;"), (0, .class_ 67), (0, u "java/util/AbstractMap$1"), (5, u "values"), (0, u "Ljava/util/Collection;"), (0, .class_ 76), (0, u "java/util/AbstractMap$2"), (104, .class_ 182), (0, u "java/util/AbstractMap$ViewCollection"), (0, .class_ 184), (0, u "java/util/AbstractMap$SimpleImmutableEntry"), (0, .class_ 186), (0, u "java/util/AbstractMap$SimpleEntry"), (0, .class_ 188), (0, u "java/util/AbstractMap$2$1"), (0, .class_ 190), (0, u "java/util/AbstractMap$1$1")] 5

def k11m0 : Method := { name := "<init>", desc := "()V", sig := { parameters := [], returnType := none }, accessFlags := 4, code := none }
/-- java/util/AbstractMap -/
def k11 : Class := { plain "java/util/AbstractMap" (some 0) with
  accessFlags := 1057
  interfaces := #[9]
  cf := some (fileOf pool11 8 #[.nestMembers #[181, 183, 185, 75, 187, 66, 189]] #[{ accessFlags := 4, nameIndex := 5, descriptorIndex := 6, attributes := #[] }] 1057 2 #[53] #[{ accessFlags := 128, nameIndex := 64, descriptorIndex := 65, attributes := #[] }, { accessFlags := 128, nameIndex := 73, descriptorIndex := 74, attributes := #[] }])
  fields := #[{ name := "keySet", type := (.object "java/util/Set"), accessFlags := 128, slot := 0, constantValue := 0 }, { name := "values", type := (.object "java/util/Collection"), accessFlags := 128, slot := 1, constantValue := 0 }]
  methods := #[k11m0]
  instanceTypes := #[(.object "java/util/Set"), (.object "java/util/Collection")]
  staticTypes := #[]
  resolved := Array.replicate 196 none
  statics := none }

def pool12 : Array CpInfo := pool [(2, .class_ 4), (1, u "java/util/AbstractMap"), (0, u "<init>"), (0, u "()V"), (1, .class_ 10), (1, u "java/util/ImmutableCollections"), (3, .class_ 16), (1, u "java/util/ImmutableCollections$AbstractImmutableMap"), (2, .class_ 20), (0, u "java/io/Serializable")] 66

def k12m0 : Method := { name := "<init>", desc := "()V", sig := { parameters := [], returnType := none }, accessFlags := 0, code := none }
/-- java/util/ImmutableCollections$AbstractImmutableMap -/
def k12 : Class := { plain "java/util/ImmutableCollections$AbstractImmutableMap" (some 11) with
  accessFlags := 1056
  interfaces := #[3]
  cf := some (fileOf pool12 14 #[.nestHost 8] #[{ accessFlags := 0, nameIndex := 5, descriptorIndex := 6, attributes := #[] }] 1056 2 #[19] #[])
  fields := #[]
  methods := #[k12m0]
  instanceTypes := #[(.object "java/util/Set"), (.object "java/util/Collection")]
  staticTypes := #[]
  resolved := Array.replicate 87 none
  statics := none }

def pool13 : Array CpInfo := pool [(1, .class_ 2), (0, u "java/util/ImmutableCollections"), (1, .class_ 6), (1, u "java/util/ImmutableCollections$AbstractImmutableMap"), (10, .class_ 19), (1, u "java/util/ImmutableCollections$MapN"), (0, u "size"), (0, u "I"), (4, u "table"), (0, u "[Ljava/lang/Object;")] 121

/-- java/util/ImmutableCollections$MapN -/
def k13 : Class := { plain "java/util/ImmutableCollections$MapN" (some 12) with
  accessFlags := 48
  interfaces := #[]
  cf := some (fileOf pool13 17 #[.nestHost 1] #[] 48 4 #[] #[{ accessFlags := 16, nameIndex := 26, descriptorIndex := 27, attributes := #[] }, { accessFlags := 16, nameIndex := 20, descriptorIndex := 21, attributes := #[] }])
  fields := #[{ name := "table", type := (.array (.object "java/lang/Object")), accessFlags := 16, slot := 2, constantValue := 0 }, { name := "size", type := .int, accessFlags := 16, slot := 3, constantValue := 0 }]
  methods := #[]
  instanceTypes := #[(.object "java/util/Set"), (.object "java/util/Collection"), (.array (.object "java/lang/Object")), .int]
  staticTypes := #[]
  resolved := Array.replicate 149 none
  statics := none }

def pool14 : Array CpInfo := pool [(1, u "java/lang/Cloneable"), (0, .class_ 1), (0, u "java/lang/Object"), (0, .class_ 3)] 3

/-- java/lang/Cloneable -/
def k14 : Class := { plain "java/lang/Cloneable" (some 0) with
  accessFlags := 1537
  interfaces := #[]
  cf := some (fileOf pool14 2 #[] #[] 1537 4 #[] #[])
  fields := #[]
  methods := #[]
  instanceTypes := #[]
  staticTypes := #[]
  resolved := Array.replicate 8 none
  statics := none }

/-- the primitive byte -/
def k15 : Class := { plain "byte" none with kind := .primitive 'B', accessFlags := 0x411 }
/-- [B -/
def k16 : Class := { plain "[B" (some 0) with kind := .array 15 .byte, interfaces := #[14, 3], accessFlags := 1041 }

/-- the primitive int -/
def k17 : Class := { plain "int" none with kind := .primitive 'I', accessFlags := 0x411 }
/-- [I -/
def k18 : Class := { plain "[I" (some 0) with kind := .array 17 .int, interfaces := #[14, 3], accessFlags := 1041 }

/-- [Ljava/lang/Object; -/
def k19 : Class := { plain "[Ljava/lang/Object;" (some 0) with kind := .array 0 (.object "java/lang/Object"), interfaces := #[14, 3], accessFlags := 1041 }

def heap : Heap := #[{ cls := 10, slots := #[.long 0, .int 0, .null, .null, .null, .null, .null, .ref 2, .int 0, .int 0], vm := .statics 10 },
  { cls := 19, slots := #[], vm := .none },
  { cls := 13, slots := #[.null, .null, .ref 1, .int 0], vm := .none }]
def classes : Array Class := #[k0, k1, k2, k3, k4, k5, k6, k7, k8, k9, k10, k11, k12, k13, k14, k15, k16, k17, k18, k19]
def interned : List (Array UInt16 × Addr) := []
def slotsUsed : Nat := 14
def theMethod : MethodId := ⟨1, 1⟩
def args0 : Array Value := #[.int 1, .int 2, .int 3, .int 4]
def aboutOver (below : List Frame) : State where
  vm := { classes := classes, interned := interned.toArray }
  heap := heap
  slotsUsed := slotsUsed
  threads := #[{ frames := .invoking theMethod args0 :: below }]
def below0 : List Frame := [.native { method := ⟨0, 0⟩, args := #[] }]
def about1 : State := aboutOver below0
def p0 : Program := .bare "" "" ""
def e0 : Env := launch0.env 0 0 0
theorem w_frames : about1.frames = Frame.invoking theMethod args0 :: below0 := rfl
set_option maxRecDepth 65536 in
theorem w_args : argsFit about1.vm theMethod args0 = true := by decide +kernel
set_option maxRecDepth 65536 in
theorem w_heap : heapFits about1 = true := by decide +kernel
set_option maxRecDepth 65536 in
theorem w_runnable : about1.curStatus? = some .runnable := by decide +kernel
set_option maxRecDepth 65536 in
theorem w_alone : about1.alone = true := by decide +kernel
set_option maxRecDepth 65536 in
theorem w_named : about1.methodNamed? x = some theMethod := by decide +kernel
set_option maxRecDepth 65536 in
theorem w_hears : about1.hears theMethod below0 = true := by decide +kernel
set_option maxRecDepth 65536 in
theorem w_ripe : about1.ripe theMethod args0 below0 = true := by decide +kernel
theorem w_running : about1.status = .running := rfl
set_option maxRecDepth 65536 in
theorem w_room : about1.hasRoom e0.platform room_1 = true :=
  launch0.hasRoom_least _ room_1 (by decide +kernel) (by decide +kernel) (by decide +kernel) (by decide +kernel) (by decide +kernel) (by decide +kernel)
theorem allAtoms_all (ts : List Jvm.Cond) (a : Array Jvm.Value) (st : Jvm.State) : (allAtoms ts).before a st = ts.all (fun c => c.before a st) := by
  induction ts with
  | nil => rfl
  | cons c t ih =>
    show (Jvm.Cond.and c (allAtoms t)).before a st = _
    rw [Jvm.Cond.before_and, ih, List.all_cons]
def words1 : List Jvm.Cond := Jvm.Cond.code x code maxLocals ret :: tables_1
/-- a 'code' word, met by the world's own term for the bytes: nothing is compared byte by byte -/
theorem code_word {y : MethodName} {bytes : ByteArray} {mx : Nat} {rt : Option FieldType} {a : Array Value} {s : State} {m : MethodId} {meth : Method} {c : Code} (h1 : s.methodNamed? y = some m) (h2 : s.vm.method? m = some meth) (h3 : meth.code = some c) (h4 : c.code = bytes)
    (h5 : (c.maxLocals == mx && c.exceptionTable.isEmpty && decide (c.maxStack ≤ mostOperands) && decide (meth.sig.returnType = rt) && !meth.locks && decide (parseMethodDescriptor y.desc = some meth.sig)) = true) : (Jvm.Cond.code y bytes mx rt).before a s = true := by
  simp only [Bool.and_eq_true, beq_iff_eq, Bool.not_eq_true', decide_eq_true_eq] at h5
  obtain ⟨⟨⟨⟨⟨g1, g2⟩, g3⟩, g4⟩, g5⟩, g6⟩ := h5
  simp [Cond.before, Cond.holds, Cond.value, h1, h2, h3, h4, g1, g2, g3, g4, g5, g6]
def isCode : Jvm.Cond → Bool
  | .code _ _ _ _ => true
  | _ => false
theorem all_split {L : List Jvm.Cond} {P : Jvm.Cond → Bool} (h1 : L.all (fun c => isCode c || P c) = true) (h2 : ∀ c ∈ L.filter isCode, P c = true) : L.all P = true := by
  refine List.all_eq_true.mpr fun c hc => ?_
  have h := List.all_eq_true.mp h1 c hc
  rcases Bool.eq_false_or_eq_true (isCode c) with hi | hi
  · exact h2 c (List.mem_filter.mpr ⟨hc, hi⟩)
  · simpa [hi] using h
set_option maxRecDepth 65536 in
theorem w_c0 : (Jvm.Cond.code x code maxLocals ret).before args0 about1 = true := code_word (m := ⟨1, 1⟩) (meth := k1m1) (c := k1c1) (by decide +kernel) rfl rfl rfl (by decide +kernel)
set_option maxRecDepth 65536 in
theorem w_c1 : (Jvm.Cond.code ({ cls := "java/util/Map", name := "of", desc := "()Ljava/util/Map;" } : Jvm.MethodName) jdk_72_method_26_code (0 : Nat) (Option.some (Jvm.ClassFile.FieldType.object "java/util/Map"))).before args0 about1 = true := code_word (m := ⟨9, 0⟩) (meth := k9m0) (c := k9c0) (by decide +kernel) rfl rfl rfl (by decide +kernel)
set_option maxRecDepth 65536 in
theorem w_c2 : (Jvm.Cond.code ({ cls := "com/example/planaria/planaria/remoting/RemotingCommand", name := "<init>", desc := "(ILjava/lang/String;IIILjava/lang/String;Ljava/util/Map;[B)V" } : Jvm.MethodName) prog_11_method_1_code (9 : Nat) (Option.none : Option Jvm.ClassFile.FieldType)).before args0 about1 = true := code_word (m := ⟨2, 0⟩) (meth := k2m0) (c := k2c0) (by decide +kernel) rfl rfl rfl (by decide +kernel)
set_option maxRecDepth 65536 in
theorem w_c3 : (Jvm.Cond.code ({ cls := "java/lang/Object", name := "<init>", desc := "()V" } : Jvm.MethodName) object_method_1_code (1 : Nat) (Option.none : Option Jvm.ClassFile.FieldType)).before args0 about1 = true := code_word (m := ⟨0, 0⟩) (meth := k0m0) (c := k0c0) (by decide +kernel) rfl rfl rfl (by decide +kernel)
set_option maxRecDepth 65536 in
theorem w_c4 : (Jvm.Cond.code ({ cls := "java/util/Map", name := "copyOf", desc := "(Ljava/util/Map;)Ljava/util/Map;" } : Jvm.MethodName) jdk_72_method_39_code (1 : Nat) (Option.some (Jvm.ClassFile.FieldType.object "java/util/Map"))).before args0 about1 = true := code_word (m := ⟨9, 1⟩) (meth := k9m1) (c := k9c1) (by decide +kernel) rfl rfl rfl (by decide +kernel)
set_option maxRecDepth 65536 in
theorem w_c5 : (Jvm.Cond.code ({ cls := "com/example/planaria/planaria/remoting/RemotingCommand", name := "isReply", desc := "()Z" } : Jvm.MethodName) prog_11_method_12_code (1 : Nat) (Option.some Jvm.ClassFile.FieldType.boolean)).before args0 about1 = true := code_word (m := ⟨2, 3⟩) (meth := k2m3) (c := k2c3) (by decide +kernel) rfl rfl rfl (by decide +kernel)
set_option maxRecDepth 65536 in
theorem w_c6 : (Jvm.Cond.code ({ cls := "com/example/planaria/planaria/remoting/RemotingCommand", name := "replyTo", desc := "(Lcom/example/planaria/planaria/remoting/RemotingCommand;ILjava/lang/String;)Lcom/example/planaria/planaria/remoting/RemotingCommand;" } : Jvm.MethodName) prog_11_method_3_code (3 : Nat) (Option.some (Jvm.ClassFile.FieldType.object "com/example/planaria/planaria/remoting/RemotingCommand"))).before args0 about1 = true := code_word (m := ⟨2, 2⟩) (meth := k2m2) (c := k2c2) (by decide +kernel) rfl rfl rfl (by decide +kernel)
set_option maxRecDepth 65536 in
theorem w_c7 : (Jvm.Cond.code ({ cls := "com/example/planaria/planaria/remoting/RemotingCommand", name := "replyTo", desc := "(Lcom/example/planaria/planaria/remoting/RemotingCommand;ILjava/lang/String;Ljava/util/Map;[B)Lcom/example/planaria/planaria/remoting/RemotingCommand;" } : Jvm.MethodName) prog_11_method_2_code (5 : Nat) (Option.some (Jvm.ClassFile.FieldType.object "com/example/planaria/planaria/remoting/RemotingCommand"))).before args0 about1 = true := code_word (m := ⟨2, 1⟩) (meth := k2m1) (c := k2c1) (by decide +kernel) rfl rfl rfl (by decide +kernel)
def codes1 : List Jvm.Cond := [Jvm.Cond.code x code maxLocals ret, Jvm.Cond.code ({ cls := "java/util/Map", name := "of", desc := "()Ljava/util/Map;" } : Jvm.MethodName) jdk_72_method_26_code (0 : Nat) (Option.some (Jvm.ClassFile.FieldType.object "java/util/Map")), Jvm.Cond.code ({ cls := "com/example/planaria/planaria/remoting/RemotingCommand", name := "<init>", desc := "(ILjava/lang/String;IIILjava/lang/String;Ljava/util/Map;[B)V" } : Jvm.MethodName) prog_11_method_1_code (9 : Nat) (Option.none : Option Jvm.ClassFile.FieldType), Jvm.Cond.code ({ cls := "java/lang/Object", name := "<init>", desc := "()V" } : Jvm.MethodName) object_method_1_code (1 : Nat) (Option.none : Option Jvm.ClassFile.FieldType), Jvm.Cond.code ({ cls := "java/util/Map", name := "copyOf", desc := "(Ljava/util/Map;)Ljava/util/Map;" } : Jvm.MethodName) jdk_72_method_39_code (1 : Nat) (Option.some (Jvm.ClassFile.FieldType.object "java/util/Map")), Jvm.Cond.code ({ cls := "com/example/planaria/planaria/remoting/RemotingCommand", name := "isReply", desc := "()Z" } : Jvm.MethodName) prog_11_method_12_code (1 : Nat) (Option.some Jvm.ClassFile.FieldType.boolean), Jvm.Cond.code ({ cls := "com/example/planaria/planaria/remoting/RemotingCommand", name := "replyTo", desc := "(Lcom/example/planaria/planaria/remoting/RemotingCommand;ILjava/lang/String;)Lcom/example/planaria/planaria/remoting/RemotingCommand;" } : Jvm.MethodName) prog_11_method_3_code (3 : Nat) (Option.some (Jvm.ClassFile.FieldType.object "com/example/planaria/planaria/remoting/RemotingCommand")), Jvm.Cond.code ({ cls := "com/example/planaria/planaria/remoting/RemotingCommand", name := "replyTo", desc := "(Lcom/example/planaria/planaria/remoting/RemotingCommand;ILjava/lang/String;Ljava/util/Map;[B)Lcom/example/planaria/planaria/remoting/RemotingCommand;" } : Jvm.MethodName) prog_11_method_2_code (5 : Nat) (Option.some (Jvm.ClassFile.FieldType.object "com/example/planaria/planaria/remoting/RemotingCommand"))]
set_option maxRecDepth 65536 in
theorem codes_eq : words1.filter isCode = codes1 := rfl
theorem w_codes : ∀ c ∈ words1.filter isCode, c.before args0 about1 = true := by
  rw [codes_eq]
  intro c hc
  simp only [codes1, List.mem_cons, List.not_mem_nil, or_false] at hc
  rcases hc with rfl | rfl | rfl | rfl | rfl | rfl | rfl | rfl
  · exact w_c0
  · exact w_c1
  · exact w_c2
  · exact w_c3
  · exact w_c4
  · exact w_c5
  · exact w_c6
  · exact w_c7
set_option maxRecDepth 65536 in
theorem w_t1 : (words1.take 24).all (fun c => isCode c || c.before args0 about1) = true := by decide +kernel
set_option maxRecDepth 65536 in
theorem w_t2 : ((words1.drop 24).take 24).all (fun c => isCode c || c.before args0 about1) = true := by decide +kernel
set_option maxRecDepth 65536 in
theorem w_t3 : ((words1.drop 24).drop 24).all (fun c => isCode c || c.before args0 about1) = true := by decide +kernel
theorem w_tables : (allAtoms (Jvm.Cond.code x code maxLocals ret :: tables_1)).before args0 about1 = true := by
  rw [allAtoms_all]
  show words1.all (fun c => c.before args0 about1) = true
  refine all_split ?_ w_codes
  rw [← List.take_append_drop 24 words1, List.all_append, w_t1, ← List.take_append_drop 24 (words1.drop 24), List.all_append, w_t2, w_t3]
  rfl
set_option maxRecDepth 65536 in
theorem w_rest : rest_1_c.before args0 about1 = true := by decide +kernel
set_option maxRecDepth 65536 in
theorem w_case : (Jvm.Cond.and given_1 narrow_1).before args0 about1 = true := by decide +kernel
theorem w_applies : (headSpec (Jvm.Cond.code x code maxLocals ret :: tables_1) room_1).applies x e0.platform about1 = true :=
  (Spec.applies_iff w_frames).mpr ⟨w_running, w_runnable, w_alone, w_named, w_hears, w_ripe, w_room, w_tables⟩
theorem atStart : AtStart classFile x code maxLocals ret World_1 tables_1 room_1 Calls_1 rest_1 Pre_1 launch0 p0 e0 about1 theMethod args0 below0 :=
  ⟨lists_1, trivial, launch0.admits_env _ _ _, launch0.least_env, fairChoices_fair.cas, fairChoices_fair.clock, w_frames, w_args, w_heap, w_applies, trivial, w_rest, w_case⟩
end start1
theorem witness_1 : WitnessClaimed_1 := ⟨start1.p0, start1.e0, start1.about1, start1.theMethod, start1.args0, start1.below0, start1.atStart⟩
end Jvm.Pilot.@@N@@
