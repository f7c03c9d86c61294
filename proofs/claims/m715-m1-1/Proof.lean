import JvmDerived
import JvmDerived.Pilot.@@N@@Statement
import JvmDerived.Pilot.@@N@@Code
set_option linter.unusedVariables false
set_option linter.unusedSimpArgs false
namespace Jvm.Pilot.@@N@@
open Jvm Jvm.ClassFile Sem Op Lib Jvm.Free Jvm.Stand Jvm.LawKit Jvm.RoadKit Bundle Jvm.Pilot.@@N@@.Jvm.D Jvm.Free.Fl
/-! own_: the walk's goal, said once: from the frame g at T the run comes to an end that Fin holds of -/
def own_Go (p : Program) (e : Env) (below : List Frame) (Fin : Outcome → State → Prop) (T : State) (g : JFrame) : Prop :=
  ∃ s₂ o, Steps p.tables e below (T.setTop g) s₂ ∧ s₂.status = .running ∧ Ended s₂ below o ∧ Fin o s₂
def own_Fin (s : State) (Q : Option Value → Heap → List Loc → Prop) (k n : Nat) (o : Outcome) (t : State) : Prop :=
  ∃ v L, o = .returned v ∧ Q v t.heap L ∧ FrameEnd s o t L k n
section OwnGo
variable {p : Program} {l : Launch} {e : Env} {R : Room} {s : State} {m : MethodId} {args : Array Value} {below : List Frame} {meth : Method} {c : Code} {T T' : State} {locs : List Loc} {cells slots : Nat} {Z : State} {a0 : Array Value} {h : Heap} {g g' : JFrame} {Fin : Outcome → State → Prop} {k n : Nat} {Q : Option Value → Heap → List Loc → Prop}
theorem own_go (st : ∀ target, Steps p.tables e below (T'.setTop g') target → Steps p.tables e below (T.setTop g) target) (G : own_Go p e below Fin T' g') : own_Go p e below Fin T g := by
  obtain ⟨s₂, o, h, r⟩ := G
  exact ⟨s₂, o, st _ h, r⟩
theorem own_end (X : Stand p l e R s m args below meth c T locs cells slots) (hlk : meth.locks = false) {v : Option Value} (hv : meth.sig.returnType = none → v = none)
    (hr : ∀ fs, (∀ (f : JFrame) (acts : List Action), f.method = m → f.locked = none → f.entered = [] → (doReturn e (T.setTop f) acts v).1 = T.setFrames fs) → Steps p.tables e below (T.setTop g) (T.setFrames fs))
    (hQ : Q v T.heap locs) (hc : cells ≤ k) (hn : slots ≤ n) : own_Go p e below (own_Fin s Q k n) T g := by
  obtain ⟨fs, h1, hrun, hended, hW, hsame⟩ := X.leave hv hlk
  exact ⟨_, _, hr fs h1, hrun, hended, v, locs, rfl, hQ, ⟨_, rfl⟩, hW, hsame.mono hc hn⟩
theorem own_dia {α : Type} {C : Prop} [Decidable C] {v1 v0 : α} {f : α → JFrame} (h1 : C → own_Go p e below Fin T' (f v1) → own_Go p e below Fin T g) (h0 : ¬ C → own_Go p e below Fin T' (f v0) → own_Go p e below Fin T g) (G : own_Go p e below Fin T' (f (if C then v1 else v0))) : own_Go p e below Fin T g := by
  by_cases hC : C
  · rw [if_pos hC] at G; exact h1 hC G
  · rw [if_neg hC] at G; exact h0 hC G
end OwnGo
def own_Met (l : Launch) (Z : State) (y : MethodName) (bytes : ByteArray) (maxL : Nat) (ret : Option FieldType) (ws : List Jvm.Cond) (rm : Room) (as : Array Value) (h0 : Heap) (Q : Option Value → Heap → List Loc → Prop) : Prop :=
  MetFree l y (head1 (Jvm.Cond.code y bytes maxL ret :: ws) rm) (fun a U => a = as ∧ Z.Warmed39 U.vm ∧ U.heap = h0) (fun _ _ _ _ _ => True) (fun _ U o U' => ∃ v L, o = .returned v ∧ Q v U'.heap L ∧ FrameEnd U o U' L rm.cells rm.slots)
theorem own_met {l : Launch} {Z : State} {y : MethodName} {bytes : ByteArray} {maxL : Nat} {ret : Option FieldType} {ws : List Jvm.Cond} {rm : Room} {as : Array Value} {h0 : Heap} {Q : Option Value → Heap → List Loc → Prop} (hp : plainFor y = true)
    (body : ∀ (p : Program) (e : Env) (s : State) (m : MethodId) (below : List Frame) (meth : Method) (c : Code) (s₁ : State), Stand p l e rm s m as below meth c s₁ [] 0 0 → p.tables.exec = Jvm.exec → Z.Warmed39 s.vm → c.code = bytes → c.maxLocals = maxL → s.vm.findClass y.cls = some m.cls → meth.name = y.name → meth.sig.returnType = ret → meth.locks = false → s₁.heap = h0 →
      own_Go p e below (own_Fin s Q rm.cells rm.slots) s₁ (entryFrame m as maxL)) : own_Met l Z y bytes maxL ret ws rm as h0 Q := by
  refine MetFree.of_bodySF hp hisR ?_
  intro p e s m args below meth c s₁ Bd hml0 hP hK
  obtain ⟨rfl, hZ, hh⟩ := hP
  exact body p e s m below meth c s₁ (Stand.of_body Bd) Bd.exec hZ Bd.bytes hml0 (findClass_of_methodNamed Bd.named) (name_of_methodNamed Bd.named Bd.method).1 Bd.returns Bd.notSynchronized (by rw [← hh, Bd.state]; rfl)
section OwnCall
variable {p : Program} {l : Launch} {e : Env} {R : Room} {s : State} {m : MethodId} {args : Array Value} {below : List Frame} {meth : Method} {c : Code} {T : State} {locs : List Loc} {cells slots : Nat} {Z : State} {a0 : Array Value} {h : Heap} {g : JFrame} {Q : Option Value → Heap → List Loc → Prop} {own : String} {index : Nat} {y z : MethodName} {bytes : ByteArray} {maxL W : Nat} {ret r0 : Option FieldType} {rm : Room} {argsL rest : List Value} {ps : List FieldType} {b : Addr} {C : String}
theorem own_callS (X : Stand p l e R s m args below meth c T locs cells slots) (hx : p.tables.exec = Jvm.exec) (hZ : Z.Warmed39 s.vm) (hown : s.vm.findClass own = some m.cls) (wl : (Cond.methodLink own index y).before a0 Z = true) (ws : (Cond.static y).before a0 Z = true) (wi : (Cond.initialized y.cls).before a0 Z = true) (wc : (Cond.code y bytes maxL ret).before a0 Z = true)
    (hy : y.cls ≠ "java/lang/invoke/MethodHandle" ∧ y.cls ≠ "java/lang/invoke/VarHandle") (eT : T.heap = h) (hM : own_Met l Z y bytes maxL ret [] rm argsL.toArray h Q) (hf : rm.frames + 1 ≤ R.frames) (hl : W + (maxL + 11) + rm.locals ≤ R.locals) (hc : cells + rm.cells ≤ R.cells) (hn : slots + rm.slots ≤ R.slots)
    (hpd : parseMethodDescriptor y.desc = some ⟨ps, r0⟩) (hlen : argsL.length = ps.length) (hg : g.method = m) (hsize : g.locals.size = c.maxLocals) (hstack : g.stack = argsL.reverse ++ rest) (hW : 2 * g.monitorRoom + (rest.map fun v => v.category).sum ≤ W) (hd : decode c.code g.pc = .ok (.invokestatic index, 3)) :
    ∃ (v : Option Value) (T' : State) (L : List Loc), Stand p l e R s m args below meth c T' (locs ++ L) (cells + rm.cells) (slots + rm.slots) ∧ Q v T'.heap L ∧ ∀ target, Steps p.tables e below (T'.setTop { g with pc := g.pc + 3, stack := v.toList ++ rest }) target → Steps p.tables e below (T.setTop g) target := by
  obtain ⟨v, vm₁, ⟨T1, L1, k1, n1⟩, -, X1, ⟨Lc, hQ, l1, y1, z1⟩, st⟩ := Jvm.LawKit.callS X hx (y := y) hown (mvT hZ wl) (mvT hZ ws) (mvT hZ wi) (mvT hZ wc) hy (backOf (W := W) hM hZ wc wi hf hl) hg hsize (lenOf hpd hlen) hstack hW hd (fun _ _ => ⟨rfl, eT, hc, hn⟩)
  dsimp only [Pt.U, Pt.locs, Pt.cells, Pt.slots] at X1 l1 y1 z1 st hQ
  subst l1 y1 z1
  exact ⟨v, T1, Lc, X1, hQ, st⟩
theorem own_callI (X : Stand p l e R s m args below meth c T locs cells slots) (hx : p.tables.exec = Jvm.exec) (hZ : Z.Warmed39 s.vm) (hy1 : y.name = "<init>") (hown : s.vm.findClass own = some m.cls) (wl : (Cond.methodLink own index y).before a0 Z = true) (ws : (Cond.instanceMethod y).before a0 Z = true) (wi : (Cond.initialized y.cls).before a0 Z = true) (wc : (Cond.code y bytes maxL none).before a0 Z = true)
    (hy : y.cls ≠ "java/lang/invoke/MethodHandle" ∧ y.cls ≠ "java/lang/invoke/VarHandle") (eT : T.heap = h) (hM : own_Met l Z y bytes maxL none [] rm (.ref b :: argsL).toArray h Q) (hf : rm.frames + 1 ≤ R.frames) (hl : W + (maxL + 11) + rm.locals ≤ R.locals) (hc : cells + rm.cells ≤ R.cells) (hn : slots + rm.slots ≤ R.slots)
    (hpd : parseMethodDescriptor y.desc = some ⟨ps, r0⟩) (hlen : argsL.length = ps.length) (hg : g.method = m) (hsize : g.locals.size = c.maxLocals) (hstack : g.stack = argsL.reverse ++ .ref b :: rest) (hW : 2 * g.monitorRoom + (rest.map fun v => v.category).sum ≤ W) (hd : decode c.code g.pc = .ok (.invokespecial index, 3)) :
    ∃ (v : Option Value) (T' : State) (L : List Loc), Stand p l e R s m args below meth c T' (locs ++ L) (cells + rm.cells) (slots + rm.slots) ∧ Q v T'.heap L ∧ ∀ target, Steps p.tables e below (T'.setTop { g with pc := g.pc + 3, stack := v.toList ++ rest }) target → Steps p.tables e below (T.setTop g) target := by
  obtain ⟨v, vm₁, ⟨T1, L1, k1, n1⟩, -, X1, ⟨Lc, hQ, l1, y1, z1⟩, st⟩ := X.specialBack hx (y := y) hy1 hown (mvT hZ wl) (mvT hZ ws) (mvT hZ wc) hy (backOf (W := W) hM hZ wc wi hf hl) hg hsize (Steps.refl _) (lenOf hpd hlen) hstack hW hd (fun _ _ => ⟨rfl, eT, hc, hn⟩)
  dsimp only [Pt.U, Pt.locs, Pt.cells, Pt.slots] at X1 l1 y1 z1 st hQ
  subst l1 y1 z1
  exact ⟨v, T1, Lc, X1, hQ, fun _ k => st.trans k⟩
theorem own_callV (X : Stand p l e R s m args below meth c T locs cells slots) (hx : p.tables.exec = Jvm.exec) (hZ : Z.Warmed39 s.vm) (hown : s.vm.findClass own = some m.cls) (wl : (Cond.methodLink own index y).before a0 Z = true) (wd : (Cond.declares y).before a0 Z = true) (wsel : (Cond.selects C y y).before a0 Z = true) (ws : (Cond.instanceMethod y).before a0 Z = true) (wi : (Cond.initialized y.cls).before a0 Z = true) (wc : (Cond.code y bytes maxL ret).before a0 Z = true)
    (hy : y.cls ≠ "java/lang/invoke/MethodHandle" ∧ y.cls ≠ "java/lang/invoke/VarHandle") (eT : T.heap = h) (E : Exa Z h b C) (hM : own_Met l Z y bytes maxL ret [] rm (.ref b :: argsL).toArray h Q) (hf : rm.frames + 1 ≤ R.frames) (hl : W + (maxL + 11) + rm.locals ≤ R.locals) (hc : cells + rm.cells ≤ R.cells) (hn : slots + rm.slots ≤ R.slots)
    (hpd : parseMethodDescriptor y.desc = some ⟨ps, r0⟩) (hlen : argsL.length = ps.length) (hg : g.method = m) (hsize : g.locals.size = c.maxLocals) (hstack : g.stack = argsL.reverse ++ .ref b :: rest) (hW : 2 * g.monitorRoom + (rest.map fun v => v.category).sum ≤ W) (hd : decode c.code g.pc = .ok (.invokevirtual index, 3)) :
    ∃ (v : Option Value) (T' : State) (L : List Loc), Stand p l e R s m args below meth c T' (locs ++ L) (cells + rm.cells) (slots + rm.slots) ∧ Q v T'.heap L ∧ ∀ target, Steps p.tables e below (T'.setTop { g with pc := g.pc + 3, stack := v.toList ++ rest }) target → Steps p.tables e below (T.setTop g) target := by
  obtain ⟨cq, kq, qa, qb, qc⟩ := isOf hZ eT E
  obtain ⟨v, vm₁, ⟨T1, L1, k1, n1⟩, -, X1, ⟨Lc, hQ, l1, y1, z1⟩, st⟩ := X.virtualBack hx (y := y) (z := y) hown (mvT hZ wl) (mvT hZ wd) (notFace_of_selects (args := #[]) (mvT hZ wsel)) (mvT hZ wsel) (mvT hZ ws) hy (backOf (W := W) hM hZ wc wi hf hl) qa qc hg hsize (Steps.refl _) (lenOf hpd hlen) hstack hW hd (fun _ _ => ⟨rfl, eT, hc, hn⟩)
  dsimp only [Pt.U, Pt.locs, Pt.cells, Pt.slots] at X1 l1 y1 z1 st hQ
  subst l1 y1 z1
  exact ⟨v, T1, Lc, X1, hQ, fun _ k => st.trans k⟩
end OwnCall
theorem own_getR {p : Program} {l : Launch} {e : Env} {R : Room} {s : State} {m : MethodId} {args : Array Value} {below : List Frame} {meth : Method} {c : Code} {T : State} {locs : List Loc} {cells slots : Nat} {Z : State} {a0 : Array Value} {h : Heap}
    (X : Stand p l e R s m args below meth c T locs cells slots) (hx : p.tables.exec = Jvm.exec) (hZ : Z.Warmed39 s.vm) {own O n d : String} {index : Nat} (hown : s.vm.findClass own = some m.cls) (w : (Cond.fieldRef own index O n d).before a0 Z = true)
    (eT : T.heap = h) {a : Addr} {v : Value} (F : Fld Z h a O n d v) {g : JFrame} (hg : g.method = m) {rest : List Value} (hs : g.stack = .ref a :: rest) (hd : decode c.code g.pc = .ok (.getfield index, 3)) :
    ∀ target, Steps p.tables e below (T.setTop { g with pc := g.pc + 3, stack := v :: rest }) target → Steps p.tables e below (T.setTop g) target := by
  obtain ⟨cell, cf, k, i, f, h1, h2, h3, h4, -, -, h7⟩ := F
  have hW : Z.Warmed39 T.vm := wtrans hZ X.warmed
  have w' := Cond.fieldRef_warmed39 (vm' := T.vm) hW w
  obtain ⟨c', k', i', f', q1, q2⟩ := Cond.fieldRef_spec (s := Z.setVm T.vm) (cur := m.cls) (by show T.vm.findClass own = _; rw [X.warmed.alike.findClass]; exact hown) w'
  obtain ⟨k'', hi, -⟩ := State.fieldFound?_setVm (s := Z) hW.alike h2
  cases q1.symm.trans hi
  intro target kt
  subst hg
  obtain ⟨gm, gp, gl, gs, gk, ge, gr⟩ := g
  simp only at hs hd
  subst hs
  jvm_step X.here [X.here.top, hx, hd, getfield.wp_ready (e := e) (s := T) (f := { method := gm, pc := gp, locals := gl, stack := .ref a :: rest, locked := gk, entered := ge, monitorRoom := gr }) X.here.top q2 h3 rfl (by rw [eT]; exact h1) h4 h7]
  exact kt
theorem own_callP {p : Program} {l : Launch} {e : Env} {R : Room} {s : State} {m : MethodId} {args : Array Value} {below : List Frame} {meth : Method} {c : Code} {T : State} {locs : List Loc} {cells slots : Nat} {Z : State} {a0 : Array Value} {h : Heap} {g : JFrame} {Q : Option Value → Heap → List Loc → Prop} {own : String} {index nn : Nat} {y : MethodName} {bytes : ByteArray} {maxL W : Nat} {ret r0 : Option FieldType} {rm : Room} {argsL rest : List Value} {ps : List FieldType} {b : Addr} {C : String}
    (X : Stand p l e R s m args below meth c T locs cells slots) (hx : p.tables.exec = Jvm.exec) (hZ : Z.Warmed39 s.vm) (hown : s.vm.findClass own = some m.cls) (wl : (Cond.methodLink own index y).before a0 Z = true) (ws : (Cond.instanceMethod y).before a0 Z = true) (wp : (Cond.privateMethod y).before a0 Z = true) (wk : (Cond.instantiable y.cls nn).before a0 Z = true) (wi : (Cond.initialized y.cls).before a0 Z = true) (wc : (Cond.code y bytes maxL ret).before a0 Z = true)
    (hy : y.cls ≠ "java/lang/invoke/MethodHandle" ∧ y.cls ≠ "java/lang/invoke/VarHandle") (eT : T.heap = h) (E : Exa Z h b C) (hM : own_Met l Z y bytes maxL ret [] rm (.ref b :: argsL).toArray h Q) (hf : rm.frames + 1 ≤ R.frames) (hl : W + (maxL + 11) + rm.locals ≤ R.locals) (hc : cells + rm.cells ≤ R.cells) (hn : slots + rm.slots ≤ R.slots)
    (hpd : parseMethodDescriptor y.desc = some ⟨ps, r0⟩) (hlen : argsL.length = ps.length) (hg : g.method = m) (hsize : g.locals.size = c.maxLocals) (hstack : g.stack = argsL.reverse ++ .ref b :: rest) (hW : 2 * g.monitorRoom + (rest.map fun v => v.category).sum ≤ W) (hd : decode c.code g.pc = .ok (.invokevirtual index, 3)) :
    ∃ (v : Option Value) (T' : State) (L : List Loc), Stand p l e R s m args below meth c T' (locs ++ L) (cells + rm.cells) (slots + rm.slots) ∧ Q v T'.heap L ∧ ∀ target, Steps p.tables e below (T'.setTop { g with pc := g.pc + 3, stack := v.toList ++ rest }) target → Steps p.tables e below (T.setTop g) target := by
  have hinst : (Cond.instanceMethod y).before args s = true := mvT hZ ws
  have hpriv : s.PrivateAt y := Cond.privateMethod_at (mvP hZ wp (args := #[]))
  obtain ⟨cc, kk, f1, f2, f3, f4, -⟩ := Cond.instantiable_spec (mvT hZ wk : (Cond.instantiable y.cls nn).before args s = true)
  have f5 : kk.isInterface = false := by simp only [Bool.or_eq_false_iff] at f4; exact f4.1
  have hsel := selects_self_of_private f1 f2 f5 hpriv hinst hy
  obtain ⟨cell, q, q'⟩ := E.cell
  obtain ⟨v, vm₁, ⟨T1, L1, k1, n1⟩, -, X1, ⟨Lc, hQ, l1, y1, z1⟩, st⟩ := X.privateBack hx hown (mvT hZ wl) hinst hsel hpriv (mvT hZ wc) hy (backOf (W := W) hM hZ wc wi hf hl) hg hsize (Steps.refl _) (by rw [eT]; exact q) q' (lenOf hpd hlen) hstack hW hd (fun _ _ => ⟨rfl, eT, hc, hn⟩)
  dsimp only [Pt.U, Pt.locs, Pt.cells, Pt.slots] at X1 l1 y1 z1 st hQ
  subst l1 y1 z1
  exact ⟨v, T1, Lc, X1, hQ, fun _ k => st.trans k⟩
theorem own_pop2D {tb : Tables} [Ours tb] {e : Env} {below : List Frame} {T target : State} {m : MethodId} {c : Code} {g : JFrame} (h : At T m c below) (hx : tb.exec = Jvm.exec) (hg : g.method = m) {x : UInt64} {rest : List Value} (hd : decode c.code g.pc = .ok (.pop2, 1)) (hs : g.stack = .double x :: rest)
    (hr : Steps tb e below (T.setTop { g with pc := g.pc + 1, stack := rest }) target) : Steps tb e below (T.setTop g) target := by
  subst hg
  jvm_step h [h.top, hx, hd, hs, Value.category]
  exact hr
theorem own_dup2 {tb : Tables} [Ours tb] {e : Env} {below : List Frame} {T target : State} {m : MethodId} {c : Code} {g : JFrame} (h : At T m c below) (hx : tb.exec = Jvm.exec) (hg : g.method = m) {x : Int32} {y : Addr} {rest : List Value} (hd : decode c.code g.pc = .ok (.dup2, 1)) (hs : g.stack = .int x :: .ref y :: rest)
    (hr : Steps tb e below (T.setTop { g with pc := g.pc + 1, stack := .int x :: .ref y :: .int x :: .ref y :: rest }) target) : Steps tb e below (T.setTop g) target := by
  subst hg
  jvm_step h [h.top, hx, hd, hs, Value.category]
  exact hr
abbrev oC : UInt64 := 4625196817309499392
abbrev oR (a : Addr) : Slot := .val (.ref a)
abbrev oI (x : Int32) : Slot := .val (.int x)
abbrev oD (x : UInt64) : Slot := .val (.double x)
abbrev oU : Slot := .unset
abbrev oS : Slot := .second
theorem own_sl {Z : State} {a0 : Array Value} (hw : ∀ d ∈ tables_1, d.before a0 Z = true) (i j : Nat) {q : Prop} {C O n d O' n' d' : String}
    (hi : tables_1[i]? = some (.lays C O n d) ∨ tables_1[i]? = some (.laysFinal C O n d)) (hj : tables_1[j]? = some (.lays C O' n' d') ∨ tables_1[j]? = some (.laysFinal C O' n' d'))
    (h : n ≠ n' ∧ (parseFieldDescriptor d).isSome = true ∧ (parseFieldDescriptor d').isSome = true) : q ∨ Jvm.RoadKit.slotOf Z O n d ≠ Jvm.RoadKit.slotOf Z O' n' d' := by
  obtain ⟨hn, h1, h2⟩ := h
  obtain ⟨t, ht⟩ := Option.isSome_iff_exists.mp h1
  obtain ⟨t', ht'⟩ := Option.isSome_iff_exists.mp h2
  refine Or.inr (slot_ne (hi.imp (fun z => hw _ (List.mem_of_getElem? z)) (fun z => hw _ (List.mem_of_getElem? z))) (hj.imp (fun z => hw _ (List.mem_of_getElem? z)) (fun z => hw _ (List.mem_of_getElem? z))) hn ht ht')
theorem own_o1 {a b : Nat} {q : Prop} (h : a < b) : a ≠ b ∨ q := Or.inl (by omega)
theorem own_o2 {a b : Nat} {q : Prop} (h : b < a) : a ≠ b ∨ q := Or.inl (by omega)
theorem own_dc0 : FP.dconst0 = 0 := by decide
theorem own_c16 : FP.l2d 16 = 4625196817309499392 := by decide +kernel
def own_pmx (a b : UInt64) : UInt64 := Native.java_lang_Math.nans.pick64 true a b
def own_fx (m v : Nat) : UInt64 := FP.ddiv (FP.i2d (Int32.ofNat (m * v))) 4625196817309499392
theorem own_f1 : ∀ m : Fin 17, ∀ v : Fin 17, FP.dmul (FP.ddiv (FP.i2d (Int32.ofNat m.1)) 4625196817309499392) (FP.i2d (Int32.ofNat v.1)) = own_fx m.1 v.1 := by decide +kernel
theorem own_f2 : ∀ m : Fin 17, ∀ v : Fin 17, FP.dadd 0 (own_fx m.1 v.1) = own_fx m.1 v.1 ∧ Native.java_lang_Math.nans.pick64 true 0 (own_fx m.1 v.1) = own_fx m.1 v.1 ∧ FP.dmul 4607182418800017408 (own_fx m.1 v.1) = own_fx m.1 v.1 := by decide +kernel
theorem own_f3 : ∀ m : Fin 17, ∀ v : Fin 17, FP.dadd (own_fx m.1 v.1) (own_fx m.1 (16 - v.1)) = FP.i2d (Int32.ofNat m.1) := by decide +kernel
theorem own_f4 : ∀ m : Fin 17, 1 ≤ m.1 → FP.ddiv (FP.i2d (Int32.ofNat m.1)) (FP.i2d (Int32.ofNat m.1)) = 4607182418800017408 := by decide +kernel
theorem own_f5 : ∀ m : Fin 17, ∀ v : Fin 17, own_fx m.1 v.1 &&& 0x7fffffffffffffff < 0x7ff0000000000000 := by decide +kernel
theorem own_f6 : ∀ m : Fin 17, FP.dsub (FP.i2d (Int32.ofNat m.1)) 0 = FP.i2d (Int32.ofNat m.1) ∧ FP.dadd 0 (FP.i2d (Int32.ofNat m.1)) = FP.i2d (Int32.ofNat m.1) ∧ Native.java_lang_Math.nans.pick64 true 0 (FP.i2d (Int32.ofNat m.1)) = FP.i2d (Int32.ofNat m.1) ∧ Native.java_lang_Math.nans.pick64 true 0 (FP.ddiv (FP.i2d (Int32.ofNat m.1)) 4625196817309499392) = FP.ddiv (FP.i2d (Int32.ofNat m.1)) 4625196817309499392 := by decide +kernel
theorem own_f7 : ∀ v : Fin 17, FP.dadd (FP.i2d (Int32.ofNat v.1)) (FP.i2d (Int32.ofNat (16 - v.1))) = 4625196817309499392 := by decide +kernel
theorem own_f8 : ∀ m : Fin 17, 1 ≤ m.1 → (0 : Int32) < cmpValue (FP.dcmp (FP.i2d (Int32.ofNat m.1)) 0) .l := by decide +kernel
theorem own_f9 : ∀ m : Fin 16, (0 : Int32) < cmpValue (FP.dcmp 4625196817309499392 (FP.i2d (Int32.ofNat m.1))) .g := by decide +kernel
theorem own_f10 : ∀ m : Fin 17, Native.java_lang_Math.nans.pick64 false (FP.i2d (Int32.ofNat m.1)) (FP.i2d (Int32.ofNat m.1)) = FP.i2d (Int32.ofNat m.1) ∧ Native.java_lang_Math.nans.pick64 false (FP.i2d (Int32.ofNat m.1)) 4625196817309499392 = FP.i2d (Int32.ofNat m.1) := by decide +kernel
theorem own_nn0 : NoNaN64 0 := by unfold NoNaN64; decide
theorem own_nn16 : NoNaN64 4625196817309499392 := by unfold NoNaN64; decide
theorem own_fn1 : Fin64 4607182418800017408 := by unfold Fin64; decide
theorem own_z00 : FP.dsub 0 0 = 0 ∧ FP.dadd 0 0 = 0 ∧ FP.dadd 0 4625196817309499392 = 4625196817309499392 ∧ FP.dsub 4625196817309499392 0 = 4625196817309499392 ∧ FP.ddiv 4625196817309499392 4625196817309499392 = 4607182418800017408 := by decide +kernel
def own_el (i e0 e1 : Int32) (b d0 d1 : UInt64) : UInt64 := if e1 = i then FP.dadd (if e0 = i then FP.dadd b d0 else b) d1 else (if e0 = i then FP.dadd b d0 else b)
theorem own_elN (i e0 e1 : Int32) {b d0 d1 : UInt64} (hb : NoNaN64 b) (h0 : Fin64 d0) (h1 : Fin64 d1) : NoNaN64 (own_el i e0 e1 b d0 d1) := by
  have q : NoNaN64 (if e0 = i then FP.dadd b d0 else b) := by
    split
    · exact dadd_out hb h0
    · exact hb
  unfold own_el
  split
  · exact dadd_out q h1
  · exact q
theorem own_ef1 (m : MethodId) (le : Addr) (ex : Addr) : entryFrame m #[(.ref le), (.ref ex)] 2 = mkF m 0 #[oR le, oR ex] [] := by first | (simp [entryFrame, mkF, argsToLocals, Value.category]; done) | rfl
theorem own_d1_0 : decode prog_13_method_1_code 0 = .ok (.aload_n 0, 1) := by decide +kernel
theorem own_d1_1 : decode prog_13_method_1_code 1 = .ok (.invokespecial 1, 3) := by decide +kernel
theorem own_d1_4 : decode prog_13_method_1_code 4 = .ok (.aload_n 0, 1) := by decide +kernel
theorem own_d1_5 : decode prog_13_method_1_code 5 = .ok (.aload_n 1, 1) := by decide +kernel
theorem own_d1_6 : decode prog_13_method_1_code 6 = .ok (.putfield 7, 3) := by decide +kernel
theorem own_d1_9 : decode prog_13_method_1_code 9 = .ok (.aload_n 0, 1) := by decide +kernel
theorem own_d1_10 : decode prog_13_method_1_code 10 = .ok (.aload_n 1, 1) := by decide +kernel
theorem own_d1_11 : decode prog_13_method_1_code 11 = .ok (.arraylength, 1) := by decide +kernel
theorem own_d1_12 : decode prog_13_method_1_code 12 = .ok (.newarray .double, 2) := by decide +kernel
theorem own_d1_14 : decode prog_13_method_1_code 14 = .ok (.putfield 13, 3) := by decide +kernel
theorem own_d1_17 : decode prog_13_method_1_code 17 = .ok (.aload_n 0, 1) := by decide +kernel
theorem own_d1_18 : decode prog_13_method_1_code 18 = .ok (.aload_n 1, 1) := by decide +kernel
theorem own_d1_19 : decode prog_13_method_1_code 19 = .ok (.arraylength, 1) := by decide +kernel
theorem own_d1_20 : decode prog_13_method_1_code 20 = .ok (.newarray .double, 2) := by decide +kernel
theorem own_d1_22 : decode prog_13_method_1_code 22 = .ok (.putfield 17, 3) := by decide +kernel
theorem own_d1_25 : decode prog_13_method_1_code 25 = .ok (.aload_n 0, 1) := by decide +kernel
theorem own_d1_26 : decode prog_13_method_1_code 26 = .ok (.aload_n 1, 1) := by decide +kernel
theorem own_d1_27 : decode prog_13_method_1_code 27 = .ok (.arraylength, 1) := by decide +kernel
theorem own_d1_28 : decode prog_13_method_1_code 28 = .ok (.newarray .double, 2) := by decide +kernel
theorem own_d1_30 : decode prog_13_method_1_code 30 = .ok (.putfield 20, 3) := by decide +kernel
theorem own_d1_33 : decode prog_13_method_1_code 33 = .ok (.aload_n 0, 1) := by decide +kernel
theorem own_d1_34 : decode prog_13_method_1_code 34 = .ok (.aload_n 1, 1) := by decide +kernel
theorem own_d1_35 : decode prog_13_method_1_code 35 = .ok (.arraylength, 1) := by decide +kernel
theorem own_d1_36 : decode prog_13_method_1_code 36 = .ok (.newarray .boolean, 2) := by decide +kernel
theorem own_d1_38 : decode prog_13_method_1_code 38 = .ok (.putfield 23, 3) := by decide +kernel
theorem own_d1_41 : decode prog_13_method_1_code 41 = .ok (.return_, 1) := by decide +kernel
theorem own_pn0 : plainName "com/example/spillback/spillback/Fifo$Legs" = true := by first | (simp [plainName, overriddenIn]; done) | decide +kernel
def own_Q1 (Z : State) (le : Addr) (ex : Addr) (kex : ClassId) (e0 : Int32) (e1 : Int32) (h0 : Heap) (n0 : Nat) (v : Option Value) (h : Heap) (L : List Loc) : Prop := ∃ (jo go pe li : Addr) (kjo kgo kpe kli : ClassId), v = none ∧ Fr n0 L ∧ Keep h0 h [le] ∧ @LT.lt Nat _ ex jo ∧ @LT.lt Nat _ jo go ∧ @LT.lt Nat _ go pe ∧ @LT.lt Nat _ pe li ∧ Fld Z h le "com/example/spillback/spillback/Fifo$Legs" "exits" "[I" (.ref ex) ∧ Fld Z h le "com/example/spillback/spillback/Fifo$Legs" "joined" "[D" (.ref jo) ∧ Fld Z h le "com/example/spillback/spillback/Fifo$Legs" "gone" "[D" (.ref go) ∧ Fld Z h le "com/example/spillback/spillback/Fifo$Legs" "pending" "[D" (.ref pe) ∧ Fld Z h le "com/example/spillback/spillback/Fifo$Legs" "listed" "[Z" (.ref li) ∧ Arv Z h ex kex .int 2 [(.int e0), (.int e1)] (.int 0) ∧ Arv Z h jo kjo .double (2 : Int32) [(.double 0), (.double 0)] (.double 0) ∧ Arv Z h go kgo .double (2 : Int32) [(.double 0), (.double 0)] (.double 0) ∧ Arv Z h pe kpe .double (2 : Int32) [(.double 0), (.double 0)] (.double 0) ∧ Arv Z h li kli .boolean (2 : Int32) [(.int 0), (.int 0)] (.int 0)
set_option maxRecDepth 65536 in
set_option maxHeartbeats 40000000 in
theorem own_rm1 (l : Launch) (Z : State) (a0 : Array Value) (hw : ∀ d ∈ tables_1, d.before a0 Z = true) (ws : List Jvm.Cond) (le : Addr) (ex : Addr) (h0 : Heap) (n0 : Nat) (kex : ClassId) (e0 e1 : Int32) (hc0 : n0 ≤ le) (hc1 : @LT.lt Nat _ le ex) (E_le : Exa Z h0 le "com/example/spillback/spillback/Fifo$Legs") (F4 : Fld Z h0 le "com/example/spillback/spillback/Fifo$Legs" "exits" "[I" .null) (F14 : Fld Z h0 le "com/example/spillback/spillback/Fifo$Legs" "joined" "[D" .null) (F8 : Fld Z h0 le "com/example/spillback/spillback/Fifo$Legs" "gone" "[D" .null) (F28 : Fld Z h0 le "com/example/spillback/spillback/Fifo$Legs" "pending" "[D" .null) (F24 : Fld Z h0 le "com/example/spillback/spillback/Fifo$Legs" "listed" "[Z" .null) (V_ex : Arv Z h0 ex kex .int 2 [(.int e0), (.int e1)] (.int 0)) :
    own_Met l Z (⟨"com/example/spillback/spillback/Fifo$Legs", "<init>", "([I)V"⟩ : MethodName) prog_13_method_1_code 2 none ws ({ frames := 1, cells := 4, slots := 8, locals := 12 } : Room) #[(.ref le), (.ref ex)] h0 (own_Q1 Z le ex kex e0 e1 h0 n0) := by
  refine own_met (plainFor_of_name own_pn0) ?_
  intro p e s m below meth c s₁ X0 hx hZ hby hml hown hnm hret hlk e0
  have N0 := Fr.nil n0
  refine own_go (fun t k => castTop (own_ef1 m le ex) k) ?_
  have g_le : @LE.le Nat _ n0 le := by omega
  have lt_le_ex : @LT.lt Nat _ le ex := by omega
  have K := Keep.refl h0 [le]
  show own_Go _ _ _ _ s₁ (mkF m 0 #[oR le, oR ex] [])
  refine own_go (fun _ k => XS.aloadN X0.here hx rfl (hb hby own_d1_0) rfl rfl k) ?_
  show own_Go _ _ _ _ s₁ (mkF m 1 #[oR le, oR ex] [(.ref le)])
  obtain ⟨Tz1, Xz1, ez1, stz1⟩ := initO X0 hx hZ hown (hw _ (List.mem_of_getElem? (i := 7) rfl)) (hw _ (List.mem_of_getElem? (i := 8) rfl)) (hw _ (List.mem_of_getElem? (i := 9) rfl)) e0 (g := (mkF m 1 #[oR le, oR ex] [(.ref le)])) rfl (by rw [hml]; rfl) rfl (hb hby own_d1_1) (by decide) (W := 0) (by show 2 * 0 + _ ≤ _; exact Nat.le_of_eq rfl) (by decide)
  refine own_go stz1 ?_
  show own_Go _ _ _ _ Tz1 (mkF m 4 #[oR le, oR ex] [])
  refine own_go (fun _ k => XS.aloadN Xz1.here hx rfl (hb hby own_d1_4) rfl rfl k) ?_
  show own_Go _ _ _ _ Tz1 (mkF m 5 #[oR le, oR ex] [(.ref le)])
  refine own_go (fun _ k => XS.aloadN Xz1.here hx rfl (hb hby own_d1_5) rfl rfl k) ?_
  show own_Go _ _ _ _ Tz1 (mkF m 6 #[oR le, oR ex] [(.ref ex), (.ref le)])
  obtain ⟨Tz2, hz2, Xz2, ez2, Wz2, stz2⟩ := putF Xz1 hx hZ hown (host := "") (Or.inl (hw _ (List.mem_of_getElem? (i := 10) rfl))) Via.refl ez1 F4 E_le (Or.inr ⟨(hw _ (List.mem_of_getElem? (i := 11) rfl)), rfl, hnm⟩) (hw _ (List.mem_of_getElem? (i := 1) rfl)) (ty := (.array .int)) (by decide) rfl rfl (g := (mkF m 6 #[oR le, oR ex] [(.ref ex), (.ref le)])) rfl rfl (hb hby own_d1_6)
  refine own_go stz2 ?_
  have Nz2 := Fr.snoc Xz2 N0 g_le
  have F5 := F4.same Wz2
  have E_le := E_le.wr Wz2
  have F14 := F14.other Wz2 (own_sl hw 14 11 (Or.inr rfl) (Or.inr rfl) (by decide))
  have F8 := F8.other Wz2 (own_sl hw 16 11 (Or.inr rfl) (Or.inr rfl) (by decide))
  have F28 := F28.other Wz2 (own_sl hw 18 11 (Or.inr rfl) (Or.inr rfl) (by decide))
  have F24 := F24.other Wz2 (own_sl hw 21 11 (Or.inr rfl) (Or.inr rfl) (by decide))
  have V_ex := V_ex.other Wz2 (Nat.ne_of_gt lt_le_ex)
  have K := K.wr Wz2 (Or.inl (List.mem_of_getElem? (i := 0) rfl))
  have F4 := F5
  show own_Go _ _ _ _ Tz2 (mkF m 9 #[oR le, oR ex] [])
  refine own_go (fun _ k => XS.aloadN Xz2.here hx rfl (hb hby own_d1_9) rfl rfl k) ?_
  show own_Go _ _ _ _ Tz2 (mkF m 10 #[oR le, oR ex] [(.ref le)])
  refine own_go (fun _ k => XS.aloadN Xz2.here hx rfl (hb hby own_d1_10) rfl rfl k) ?_
  show own_Go _ _ _ _ Tz2 (mkF m 11 #[oR le, oR ex] [(.ref ex), (.ref le)])
  obtain ⟨clz3, Arz3, qz3, Sz3, Mz3, HHz3, Gz3⟩ := id V_ex
  refine own_go (fun _ k => Xz2.arraylength hx (by rw [ez2]; exact Arz3.1) (State.isArrayOf_alike hZ.alike Arz3.2.1) (g := (mkF m 11 #[oR le, oR ex] [(.ref ex), (.ref le)])) rfl rfl (hb hby own_d1_11) _ k) ?_
  rw [len_of Sz3 Mz3]
  show own_Go _ _ _ _ Tz2 (mkF m 12 #[oR le, oR ex] [(.int 2), (.ref le)])
  obtain ⟨Tz4, hz4, kz4, Xz4, ez4, Ez4, Az4, stz4⟩ := newP Xz2 hx hZ (hw _ (List.mem_of_getElem? (i := 12) rfl)) ez2 (g := (mkF m 12 #[oR le, oR ex] [(.int 2), (.ref le)])) rfl (hb hby own_d1_12) rfl (by decide) (cap := 2) (by decide) (by decide) (by decide) (by decide)
  obtain ⟨jo, gz4⟩ : ∃ z, z = hz2.size := ⟨_, rfl⟩
  rw [← gz4] at Az4 stz4
  have lt_le_jo : @LT.lt Nat _ le jo := Nat.lt_of_lt_of_le E_le.lt (Nat.le_of_eq gz4.symm)
  have lt_ex_jo : @LT.lt Nat _ ex jo := Nat.lt_of_lt_of_le V_ex.lt (Nat.le_of_eq gz4.symm)
  have sz_jo : h0.size ≤ jo := by rw [gz4]; exact K.1
  have E_le := E_le.ext Ez4
  have F14 := F14.ext Ez4
  have F8 := F8.ext Ez4
  have F28 := F28.ext Ez4
  have F24 := F24.ext Ez4
  have V_ex := V_ex.ext Ez4
  have K := K.ext Ez4
  have F4 := F4.ext Ez4
  refine own_go stz4 ?_
  have V_jo : Arv Z hz4 jo kz4 .double (2 : Int32) [(.double 0), (.double 0)] (.double 0) := (Arv.new Az4 (by decide)).pad (pad_rep [] (.double 0) 2)
  show own_Go _ _ _ _ Tz4 (mkF m 14 #[oR le, oR ex] [(.ref jo), (.ref le)])
  obtain ⟨Tz5, hz5, Xz5, ez5, Wz5, stz5⟩ := putF Xz4 hx hZ hown (host := "") (Or.inl (hw _ (List.mem_of_getElem? (i := 13) rfl))) Via.refl ez4 F14 E_le (Or.inr ⟨(hw _ (List.mem_of_getElem? (i := 14) rfl)), rfl, hnm⟩) (hw _ (List.mem_of_getElem? (i := 1) rfl)) (ty := (.array .double)) (by decide) rfl rfl (g := (mkF m 14 #[oR le, oR ex] [(.ref jo), (.ref le)])) rfl rfl (hb hby own_d1_14)
  refine own_go stz5 ?_
  have Nz5 := Fr.snoc Xz5 Nz2 g_le
  have F15 := F14.same Wz5
  have E_le := E_le.wr Wz5
  have F8 := F8.other Wz5 (own_sl hw 16 14 (Or.inr rfl) (Or.inr rfl) (by decide))
  have F28 := F28.other Wz5 (own_sl hw 18 14 (Or.inr rfl) (Or.inr rfl) (by decide))
  have F24 := F24.other Wz5 (own_sl hw 21 14 (Or.inr rfl) (Or.inr rfl) (by decide))
  have V_ex := V_ex.other Wz5 (Nat.ne_of_gt lt_le_ex)
  have K := K.wr Wz5 (Or.inl (List.mem_of_getElem? (i := 0) rfl))
  have F4 := F4.other Wz5 (own_sl hw 11 14 (Or.inr rfl) (Or.inr rfl) (by decide))
  have V_jo := V_jo.other Wz5 (Nat.ne_of_gt lt_le_jo)
  have F14 := F15
  show own_Go _ _ _ _ Tz5 (mkF m 17 #[oR le, oR ex] [])
  refine own_go (fun _ k => XS.aloadN Xz5.here hx rfl (hb hby own_d1_17) rfl rfl k) ?_
  show own_Go _ _ _ _ Tz5 (mkF m 18 #[oR le, oR ex] [(.ref le)])
  refine own_go (fun _ k => XS.aloadN Xz5.here hx rfl (hb hby own_d1_18) rfl rfl k) ?_
  show own_Go _ _ _ _ Tz5 (mkF m 19 #[oR le, oR ex] [(.ref ex), (.ref le)])
  obtain ⟨clz6, Arz6, qz6, Sz6, Mz6, HHz6, Gz6⟩ := id V_ex
  refine own_go (fun _ k => Xz5.arraylength hx (by rw [ez5]; exact Arz6.1) (State.isArrayOf_alike hZ.alike Arz6.2.1) (g := (mkF m 19 #[oR le, oR ex] [(.ref ex), (.ref le)])) rfl rfl (hb hby own_d1_19) _ k) ?_
  rw [len_of Sz6 Mz6]
  show own_Go _ _ _ _ Tz5 (mkF m 20 #[oR le, oR ex] [(.int 2), (.ref le)])
  obtain ⟨Tz7, hz7, kz7, Xz7, ez7, Ez7, Az7, stz7⟩ := newP Xz5 hx hZ (hw _ (List.mem_of_getElem? (i := 12) rfl)) ez5 (g := (mkF m 20 #[oR le, oR ex] [(.int 2), (.ref le)])) rfl (hb hby own_d1_20) rfl (by decide) (cap := 2) (by decide) (by decide) (by decide) (by decide)
  obtain ⟨go, gz7⟩ : ∃ z, z = hz5.size := ⟨_, rfl⟩
  rw [← gz7] at Az7 stz7
  have lt_le_go : @LT.lt Nat _ le go := Nat.lt_of_lt_of_le E_le.lt (Nat.le_of_eq gz7.symm)
  have lt_ex_go : @LT.lt Nat _ ex go := Nat.lt_of_lt_of_le V_ex.lt (Nat.le_of_eq gz7.symm)
  have lt_jo_go : @LT.lt Nat _ jo go := Nat.lt_of_lt_of_le V_jo.lt (Nat.le_of_eq gz7.symm)
  have sz_go : h0.size ≤ go := by rw [gz7]; exact K.1
  have E_le := E_le.ext Ez7
  have F8 := F8.ext Ez7
  have F28 := F28.ext Ez7
  have F24 := F24.ext Ez7
  have V_ex := V_ex.ext Ez7
  have K := K.ext Ez7
  have F4 := F4.ext Ez7
  have V_jo := V_jo.ext Ez7
  have F14 := F14.ext Ez7
  refine own_go stz7 ?_
  have V_go : Arv Z hz7 go kz7 .double (2 : Int32) [(.double 0), (.double 0)] (.double 0) := (Arv.new Az7 (by decide)).pad (pad_rep [] (.double 0) 2)
  show own_Go _ _ _ _ Tz7 (mkF m 22 #[oR le, oR ex] [(.ref go), (.ref le)])
  obtain ⟨Tz8, hz8, Xz8, ez8, Wz8, stz8⟩ := putF Xz7 hx hZ hown (host := "") (Or.inl (hw _ (List.mem_of_getElem? (i := 15) rfl))) Via.refl ez7 F8 E_le (Or.inr ⟨(hw _ (List.mem_of_getElem? (i := 16) rfl)), rfl, hnm⟩) (hw _ (List.mem_of_getElem? (i := 1) rfl)) (ty := (.array .double)) (by decide) rfl rfl (g := (mkF m 22 #[oR le, oR ex] [(.ref go), (.ref le)])) rfl rfl (hb hby own_d1_22)
  refine own_go stz8 ?_
  have Nz8 := Fr.snoc Xz8 Nz5 g_le
  have F9 := F8.same Wz8
  have E_le := E_le.wr Wz8
  have F28 := F28.other Wz8 (own_sl hw 18 16 (Or.inr rfl) (Or.inr rfl) (by decide))
  have F24 := F24.other Wz8 (own_sl hw 21 16 (Or.inr rfl) (Or.inr rfl) (by decide))
  have V_ex := V_ex.other Wz8 (Nat.ne_of_gt lt_le_ex)
  have K := K.wr Wz8 (Or.inl (List.mem_of_getElem? (i := 0) rfl))
  have F4 := F4.other Wz8 (own_sl hw 11 16 (Or.inr rfl) (Or.inr rfl) (by decide))
  have V_jo := V_jo.other Wz8 (Nat.ne_of_gt lt_le_jo)
  have F14 := F14.other Wz8 (own_sl hw 14 16 (Or.inr rfl) (Or.inr rfl) (by decide))
  have V_go := V_go.other Wz8 (Nat.ne_of_gt lt_le_go)
  have F8 := F9
  show own_Go _ _ _ _ Tz8 (mkF m 25 #[oR le, oR ex] [])
  refine own_go (fun _ k => XS.aloadN Xz8.here hx rfl (hb hby own_d1_25) rfl rfl k) ?_
  show own_Go _ _ _ _ Tz8 (mkF m 26 #[oR le, oR ex] [(.ref le)])
  refine own_go (fun _ k => XS.aloadN Xz8.here hx rfl (hb hby own_d1_26) rfl rfl k) ?_
  show own_Go _ _ _ _ Tz8 (mkF m 27 #[oR le, oR ex] [(.ref ex), (.ref le)])
  obtain ⟨clz9, Arz9, qz9, Sz9, Mz9, HHz9, Gz9⟩ := id V_ex
  refine own_go (fun _ k => Xz8.arraylength hx (by rw [ez8]; exact Arz9.1) (State.isArrayOf_alike hZ.alike Arz9.2.1) (g := (mkF m 27 #[oR le, oR ex] [(.ref ex), (.ref le)])) rfl rfl (hb hby own_d1_27) _ k) ?_
  rw [len_of Sz9 Mz9]
  show own_Go _ _ _ _ Tz8 (mkF m 28 #[oR le, oR ex] [(.int 2), (.ref le)])
  obtain ⟨Tz10, hz10, kz10, Xz10, ez10, Ez10, Az10, stz10⟩ := newP Xz8 hx hZ (hw _ (List.mem_of_getElem? (i := 12) rfl)) ez8 (g := (mkF m 28 #[oR le, oR ex] [(.int 2), (.ref le)])) rfl (hb hby own_d1_28) rfl (by decide) (cap := 2) (by decide) (by decide) (by decide) (by decide)
  obtain ⟨pe, gz10⟩ : ∃ z, z = hz8.size := ⟨_, rfl⟩
  rw [← gz10] at Az10 stz10
  have lt_le_pe : @LT.lt Nat _ le pe := Nat.lt_of_lt_of_le E_le.lt (Nat.le_of_eq gz10.symm)
  have lt_ex_pe : @LT.lt Nat _ ex pe := Nat.lt_of_lt_of_le V_ex.lt (Nat.le_of_eq gz10.symm)
  have lt_jo_pe : @LT.lt Nat _ jo pe := Nat.lt_of_lt_of_le V_jo.lt (Nat.le_of_eq gz10.symm)
  have lt_go_pe : @LT.lt Nat _ go pe := Nat.lt_of_lt_of_le V_go.lt (Nat.le_of_eq gz10.symm)
  have sz_pe : h0.size ≤ pe := by rw [gz10]; exact K.1
  have E_le := E_le.ext Ez10
  have F28 := F28.ext Ez10
  have F24 := F24.ext Ez10
  have V_ex := V_ex.ext Ez10
  have K := K.ext Ez10
  have F4 := F4.ext Ez10
  have V_jo := V_jo.ext Ez10
  have F14 := F14.ext Ez10
  have V_go := V_go.ext Ez10
  have F8 := F8.ext Ez10
  refine own_go stz10 ?_
  have V_pe : Arv Z hz10 pe kz10 .double (2 : Int32) [(.double 0), (.double 0)] (.double 0) := (Arv.new Az10 (by decide)).pad (pad_rep [] (.double 0) 2)
  show own_Go _ _ _ _ Tz10 (mkF m 30 #[oR le, oR ex] [(.ref pe), (.ref le)])
  obtain ⟨Tz11, hz11, Xz11, ez11, Wz11, stz11⟩ := putF Xz10 hx hZ hown (host := "") (Or.inl (hw _ (List.mem_of_getElem? (i := 17) rfl))) Via.refl ez10 F28 E_le (Or.inr ⟨(hw _ (List.mem_of_getElem? (i := 18) rfl)), rfl, hnm⟩) (hw _ (List.mem_of_getElem? (i := 1) rfl)) (ty := (.array .double)) (by decide) rfl rfl (g := (mkF m 30 #[oR le, oR ex] [(.ref pe), (.ref le)])) rfl rfl (hb hby own_d1_30)
  refine own_go stz11 ?_
  have Nz11 := Fr.snoc Xz11 Nz8 g_le
  have F29 := F28.same Wz11
  have E_le := E_le.wr Wz11
  have F24 := F24.other Wz11 (own_sl hw 21 18 (Or.inr rfl) (Or.inr rfl) (by decide))
  have V_ex := V_ex.other Wz11 (Nat.ne_of_gt lt_le_ex)
  have K := K.wr Wz11 (Or.inl (List.mem_of_getElem? (i := 0) rfl))
  have F4 := F4.other Wz11 (own_sl hw 11 18 (Or.inr rfl) (Or.inr rfl) (by decide))
  have V_jo := V_jo.other Wz11 (Nat.ne_of_gt lt_le_jo)
  have F14 := F14.other Wz11 (own_sl hw 14 18 (Or.inr rfl) (Or.inr rfl) (by decide))
  have V_go := V_go.other Wz11 (Nat.ne_of_gt lt_le_go)
  have F8 := F8.other Wz11 (own_sl hw 16 18 (Or.inr rfl) (Or.inr rfl) (by decide))
  have V_pe := V_pe.other Wz11 (Nat.ne_of_gt lt_le_pe)
  have F28 := F29
  show own_Go _ _ _ _ Tz11 (mkF m 33 #[oR le, oR ex] [])
  refine own_go (fun _ k => XS.aloadN Xz11.here hx rfl (hb hby own_d1_33) rfl rfl k) ?_
  show own_Go _ _ _ _ Tz11 (mkF m 34 #[oR le, oR ex] [(.ref le)])
  refine own_go (fun _ k => XS.aloadN Xz11.here hx rfl (hb hby own_d1_34) rfl rfl k) ?_
  show own_Go _ _ _ _ Tz11 (mkF m 35 #[oR le, oR ex] [(.ref ex), (.ref le)])
  obtain ⟨clz12, Arz12, qz12, Sz12, Mz12, HHz12, Gz12⟩ := id V_ex
  refine own_go (fun _ k => Xz11.arraylength hx (by rw [ez11]; exact Arz12.1) (State.isArrayOf_alike hZ.alike Arz12.2.1) (g := (mkF m 35 #[oR le, oR ex] [(.ref ex), (.ref le)])) rfl rfl (hb hby own_d1_35) _ k) ?_
  rw [len_of Sz12 Mz12]
  show own_Go _ _ _ _ Tz11 (mkF m 36 #[oR le, oR ex] [(.int 2), (.ref le)])
  obtain ⟨Tz13, hz13, kz13, Xz13, ez13, Ez13, Az13, stz13⟩ := newP Xz11 hx hZ (hw _ (List.mem_of_getElem? (i := 19) rfl)) ez11 (g := (mkF m 36 #[oR le, oR ex] [(.int 2), (.ref le)])) rfl (hb hby own_d1_36) rfl (by decide) (cap := 2) (by decide) (by decide) (by decide) (by decide)
  obtain ⟨li, gz13⟩ : ∃ z, z = hz11.size := ⟨_, rfl⟩
  rw [← gz13] at Az13 stz13
  have lt_le_li : @LT.lt Nat _ le li := Nat.lt_of_lt_of_le E_le.lt (Nat.le_of_eq gz13.symm)
  have lt_ex_li : @LT.lt Nat _ ex li := Nat.lt_of_lt_of_le V_ex.lt (Nat.le_of_eq gz13.symm)
  have lt_jo_li : @LT.lt Nat _ jo li := Nat.lt_of_lt_of_le V_jo.lt (Nat.le_of_eq gz13.symm)
  have lt_go_li : @LT.lt Nat _ go li := Nat.lt_of_lt_of_le V_go.lt (Nat.le_of_eq gz13.symm)
  have lt_pe_li : @LT.lt Nat _ pe li := Nat.lt_of_lt_of_le V_pe.lt (Nat.le_of_eq gz13.symm)
  have sz_li : h0.size ≤ li := by rw [gz13]; exact K.1
  have E_le := E_le.ext Ez13
  have F24 := F24.ext Ez13
  have V_ex := V_ex.ext Ez13
  have K := K.ext Ez13
  have F4 := F4.ext Ez13
  have V_jo := V_jo.ext Ez13
  have F14 := F14.ext Ez13
  have V_go := V_go.ext Ez13
  have F8 := F8.ext Ez13
  have V_pe := V_pe.ext Ez13
  have F28 := F28.ext Ez13
  refine own_go stz13 ?_
  have V_li : Arv Z hz13 li kz13 .boolean (2 : Int32) [(.int 0), (.int 0)] (.int 0) := (Arv.new Az13 (by decide)).pad (pad_rep [] (.int 0) 2)
  show own_Go _ _ _ _ Tz13 (mkF m 38 #[oR le, oR ex] [(.ref li), (.ref le)])
  obtain ⟨Tz14, hz14, Xz14, ez14, Wz14, stz14⟩ := putF Xz13 hx hZ hown (host := "") (Or.inl (hw _ (List.mem_of_getElem? (i := 20) rfl))) Via.refl ez13 F24 E_le (Or.inr ⟨(hw _ (List.mem_of_getElem? (i := 21) rfl)), rfl, hnm⟩) (hw _ (List.mem_of_getElem? (i := 1) rfl)) (ty := (.array .boolean)) (by decide) rfl rfl (g := (mkF m 38 #[oR le, oR ex] [(.ref li), (.ref le)])) rfl rfl (hb hby own_d1_38)
  refine own_go stz14 ?_
  have Nz14 := Fr.snoc Xz14 Nz11 g_le
  have F25 := F24.same Wz14
  have E_le := E_le.wr Wz14
  have V_ex := V_ex.other Wz14 (Nat.ne_of_gt lt_le_ex)
  have K := K.wr Wz14 (Or.inl (List.mem_of_getElem? (i := 0) rfl))
  have F4 := F4.other Wz14 (own_sl hw 11 21 (Or.inr rfl) (Or.inr rfl) (by decide))
  have V_jo := V_jo.other Wz14 (Nat.ne_of_gt lt_le_jo)
  have F14 := F14.other Wz14 (own_sl hw 14 21 (Or.inr rfl) (Or.inr rfl) (by decide))
  have V_go := V_go.other Wz14 (Nat.ne_of_gt lt_le_go)
  have F8 := F8.other Wz14 (own_sl hw 16 21 (Or.inr rfl) (Or.inr rfl) (by decide))
  have V_pe := V_pe.other Wz14 (Nat.ne_of_gt lt_le_pe)
  have F28 := F28.other Wz14 (own_sl hw 18 21 (Or.inr rfl) (Or.inr rfl) (by decide))
  have V_li := V_li.other Wz14 (Nat.ne_of_gt lt_le_li)
  have F24 := F25
  show own_Go _ _ _ _ Tz14 (mkF m 41 #[oR le, oR ex] [])
  exact own_end Xz14 hlk (v := none) (fun _ => rfl) (fun fs hr => Xz14.returnOut hx hret (hb hby own_d1_41) hr) (by rw [ez14]; exact ⟨jo, go, pe, li, kz4, kz7, kz10, kz13, rfl, Nz14, K, lt_ex_jo, lt_jo_go, lt_go_pe, lt_pe_li, F4, F14, F8, F28, F24, V_ex, V_jo, V_go, V_pe, V_li⟩) (by decide) (by decide)
theorem own_ef3 (m : MethodId) (fi : Addr) (le : Addr) (in_ : Addr) (ou : Addr) : entryFrame m #[(.ref fi), (.ref le), (.ref in_), (.ref ou)] 4 = mkF m 0 #[oR fi, oR le, oR in_, oR ou] [] := by first | (simp [entryFrame, mkF, argsToLocals, Value.category]; done) | rfl
theorem own_d3_0 : decode prog_12_method_1_code 0 = .ok (.aload_n 0, 1) := by decide +kernel
theorem own_d3_1 : decode prog_12_method_1_code 1 = .ok (.invokespecial 1, 3) := by decide +kernel
theorem own_d3_4 : decode prog_12_method_1_code 4 = .ok (.aload_n 0, 1) := by decide +kernel
theorem own_d3_5 : decode prog_12_method_1_code 5 = .ok (.iconst 4, 1) := by decide +kernel
theorem own_d3_6 : decode prog_12_method_1_code 6 = .ok (.newarray .int, 2) := by decide +kernel
theorem own_d3_8 : decode prog_12_method_1_code 8 = .ok (.putfield 7, 3) := by decide +kernel
theorem own_d3_11 : decode prog_12_method_1_code 11 = .ok (.aload_n 0, 1) := by decide +kernel
theorem own_d3_12 : decode prog_12_method_1_code 12 = .ok (.bipush 16, 2) := by decide +kernel
theorem own_d3_14 : decode prog_12_method_1_code 14 = .ok (.newarray .int, 2) := by decide +kernel
theorem own_d3_16 : decode prog_12_method_1_code 16 = .ok (.putfield 13, 3) := by decide +kernel
theorem own_d3_19 : decode prog_12_method_1_code 19 = .ok (.aload_n 0, 1) := by decide +kernel
theorem own_d3_20 : decode prog_12_method_1_code 20 = .ok (.bipush 16, 2) := by decide +kernel
theorem own_d3_22 : decode prog_12_method_1_code 22 = .ok (.newarray .double, 2) := by decide +kernel
theorem own_d3_24 : decode prog_12_method_1_code 24 = .ok (.putfield 16, 3) := by decide +kernel
theorem own_d3_27 : decode prog_12_method_1_code 27 = .ok (.aload_n 0, 1) := by decide +kernel
theorem own_d3_28 : decode prog_12_method_1_code 28 = .ok (.bipush 16, 2) := by decide +kernel
theorem own_d3_30 : decode prog_12_method_1_code 30 = .ok (.newarray .int, 2) := by decide +kernel
theorem own_d3_32 : decode prog_12_method_1_code 32 = .ok (.putfield 20, 3) := by decide +kernel
theorem own_d3_35 : decode prog_12_method_1_code 35 = .ok (.aload_n 0, 1) := by decide +kernel
theorem own_d3_36 : decode prog_12_method_1_code 36 = .ok (.bipush 16, 2) := by decide +kernel
theorem own_d3_38 : decode prog_12_method_1_code 38 = .ok (.newarray .int, 2) := by decide +kernel
theorem own_d3_40 : decode prog_12_method_1_code 40 = .ok (.putfield 23, 3) := by decide +kernel
theorem own_d3_43 : decode prog_12_method_1_code 43 = .ok (.aload_n 0, 1) := by decide +kernel
theorem own_d3_44 : decode prog_12_method_1_code 44 = .ok (.aload_n 1, 1) := by decide +kernel
theorem own_d3_45 : decode prog_12_method_1_code 45 = .ok (.putfield 26, 3) := by decide +kernel
theorem own_d3_48 : decode prog_12_method_1_code 48 = .ok (.aload_n 0, 1) := by decide +kernel
theorem own_d3_49 : decode prog_12_method_1_code 49 = .ok (.aload_n 2, 1) := by decide +kernel
theorem own_d3_50 : decode prog_12_method_1_code 50 = .ok (.putfield 30, 3) := by decide +kernel
theorem own_d3_53 : decode prog_12_method_1_code 53 = .ok (.aload_n 0, 1) := by decide +kernel
theorem own_d3_54 : decode prog_12_method_1_code 54 = .ok (.aload_n 3, 1) := by decide +kernel
theorem own_d3_55 : decode prog_12_method_1_code 55 = .ok (.putfield 33, 3) := by decide +kernel
theorem own_d3_58 : decode prog_12_method_1_code 58 = .ok (.return_, 1) := by decide +kernel
theorem own_pn1 : plainName "com/example/spillback/spillback/Fifo" = true := by first | (simp [plainName, overriddenIn]; done) | decide +kernel
def own_Q3 (Z : State) (fi : Addr) (le : Addr) (in_ : Addr) (ou : Addr) (h0 : Heap) (n0 : Nat) (v : Option Value) (h : Heap) (L : List Loc) : Prop := ∃ (fl el ev st se : Addr) (kfl kel kev kst kse : ClassId), v = none ∧ Fr n0 L ∧ Keep h0 h [fi] ∧ @LT.lt Nat _ ou fl ∧ @LT.lt Nat _ fl el ∧ @LT.lt Nat _ el ev ∧ @LT.lt Nat _ ev st ∧ @LT.lt Nat _ st se ∧ Exa Z h fi "com/example/spillback/spillback/Fifo" ∧ Fld Z h fi "com/example/spillback/spillback/Fifo" "listed" "[I" (.ref fl) ∧ Fld Z h fi "com/example/spillback/spillback/Fifo" "entryLegs" "[I" (.ref el) ∧ Fld Z h fi "com/example/spillback/spillback/Fifo" "entryVehicles" "[D" (.ref ev) ∧ Fld Z h fi "com/example/spillback/spillback/Fifo" "steps" "[I" (.ref st) ∧ Fld Z h fi "com/example/spillback/spillback/Fifo" "stepEnds" "[I" (.ref se) ∧ Fld Z h fi "com/example/spillback/spillback/Fifo" "legs" "Lcom/example/spillback/spillback/Fifo$Legs;" (.ref le) ∧ Fld Z h fi "com/example/spillback/spillback/Fifo" "in" "[D" (.ref in_) ∧ Fld Z h fi "com/example/spillback/spillback/Fifo" "out" "[D" (.ref ou) ∧ Fld Z h fi "com/example/spillback/spillback/Fifo" "tail" "I" (.int 0) ∧ Fld Z h fi "com/example/spillback/spillback/Fifo" "joiningStart" "I" (.int 0) ∧ Fld Z h fi "com/example/spillback/spillback/Fifo" "firstStep" "I" (.int 0) ∧ Fld Z h fi "com/example/spillback/spillback/Fifo" "stepCount" "I" (.int 0) ∧ Fld Z h fi "com/example/spillback/spillback/Fifo" "listedCount" "I" (.int 0) ∧ Fld Z h fi "com/example/spillback/spillback/Fifo" "head" "I" (.int 0) ∧ Fld Z h fi "com/example/spillback/spillback/Fifo" "sliceTotal" "D" (.double 0) ∧ Fld Z h fi "com/example/spillback/spillback/Fifo" "sliceVehicles" "D" (.double 0) ∧ Arv Z h fl kfl .int 4 [(.int 0), (.int 0)] (.int 0) ∧ Arv Z h el kel .int 16 [(.int 0), (.int 0)] (.int 0) ∧ Arv Z h ev kev .double (16 : Int32) [(.double 0), (.double 0)] (.double 0) ∧ Arv Z h st kst .int 16 [(.int 0)] (.int 0) ∧ Arv Z h se kse .int 16 [(.int 0)] (.int 0)
set_option maxRecDepth 65536 in
set_option maxHeartbeats 40000000 in
theorem own_rm3 (l : Launch) (Z : State) (a0 : Array Value) (hw : ∀ d ∈ tables_1, d.before a0 Z = true) (ws : List Jvm.Cond) (fi : Addr) (le : Addr) (in_ : Addr) (ou : Addr) (h0 : Heap) (n0 : Nat) (kin_ kou : ClassId) (hc6 : n0 ≤ fi) (hc7 : @LT.lt Nat _ fi in_) (hc8 : @LT.lt Nat _ in_ ou) (E_fi : Exa Z h0 fi "com/example/spillback/spillback/Fifo") (F22 : Fld Z h0 fi "com/example/spillback/spillback/Fifo" "listed" "[I" .null) (F0 : Fld Z h0 fi "com/example/spillback/spillback/Fifo" "entryLegs" "[I" .null) (F2 : Fld Z h0 fi "com/example/spillback/spillback/Fifo" "entryVehicles" "[D" .null) (F38 : Fld Z h0 fi "com/example/spillback/spillback/Fifo" "steps" "[I" .null) (F36 : Fld Z h0 fi "com/example/spillback/spillback/Fifo" "stepEnds" "[I" .null) (F18 : Fld Z h0 fi "com/example/spillback/spillback/Fifo" "legs" "Lcom/example/spillback/spillback/Fifo$Legs;" .null) (F12 : Fld Z h0 fi "com/example/spillback/spillback/Fifo" "in" "[D" .null) (F26 : Fld Z h0 fi "com/example/spillback/spillback/Fifo" "out" "[D" .null) (F40 : Fld Z h0 fi "com/example/spillback/spillback/Fifo" "tail" "I" (.int 0)) (F16 : Fld Z h0 fi "com/example/spillback/spillback/Fifo" "joiningStart" "I" (.int 0)) (F6 : Fld Z h0 fi "com/example/spillback/spillback/Fifo" "firstStep" "I" (.int 0)) (F34 : Fld Z h0 fi "com/example/spillback/spillback/Fifo" "stepCount" "I" (.int 0)) (F20 : Fld Z h0 fi "com/example/spillback/spillback/Fifo" "listedCount" "I" (.int 0)) (F10 : Fld Z h0 fi "com/example/spillback/spillback/Fifo" "head" "I" (.int 0)) (F30 : Fld Z h0 fi "com/example/spillback/spillback/Fifo" "sliceTotal" "D" (.double 0)) (F32 : Fld Z h0 fi "com/example/spillback/spillback/Fifo" "sliceVehicles" "D" (.double 0)) (V_in_ : Arv Z h0 in_ kin_ .double (2 : Int32) [(.double 0), (.double 0)] (.double 0)) (V_ou : Arv Z h0 ou kou .double (2 : Int32) [(.double 0), (.double 0)] (.double 0)) :
    own_Met l Z (⟨"com/example/spillback/spillback/Fifo", "<init>", "(Lcom/example/spillback/spillback/Fifo$Legs;[D[D)V"⟩ : MethodName) prog_12_method_1_code 4 none ws ({ frames := 1, cells := 5, slots := 68, locals := 12 } : Room) #[(.ref fi), (.ref le), (.ref in_), (.ref ou)] h0 (own_Q3 Z fi le in_ ou h0 n0) := by
  refine own_met (plainFor_of_name own_pn1) ?_
  intro p e s m below meth c s₁ X0 hx hZ hby hml hown hnm hret hlk e0
  have N0 := Fr.nil n0
  refine own_go (fun t k => castTop (own_ef3 m fi le in_ ou) k) ?_
  have g_fi : @LE.le Nat _ n0 fi := by omega
  have lt_fi_in_ : @LT.lt Nat _ fi in_ := by omega
  have lt_fi_ou : @LT.lt Nat _ fi ou := by omega
  have K := Keep.refl h0 [fi]
  show own_Go _ _ _ _ s₁ (mkF m 0 #[oR fi, oR le, oR in_, oR ou] [])
  refine own_go (fun _ k => XS.aloadN X0.here hx rfl (hb hby own_d3_0) rfl rfl k) ?_
  show own_Go _ _ _ _ s₁ (mkF m 1 #[oR fi, oR le, oR in_, oR ou] [(.ref fi)])
  obtain ⟨Tz15, Xz15, ez15, stz15⟩ := initO X0 hx hZ hown (hw _ (List.mem_of_getElem? (i := 28) rfl)) (hw _ (List.mem_of_getElem? (i := 8) rfl)) (hw _ (List.mem_of_getElem? (i := 9) rfl)) e0 (g := (mkF m 1 #[oR fi, oR le, oR in_, oR ou] [(.ref fi)])) rfl (by rw [hml]; rfl) rfl (hb hby own_d3_1) (by decide) (W := 0) (by show 2 * 0 + _ ≤ _; exact Nat.le_of_eq rfl) (by decide)
  refine own_go stz15 ?_
  show own_Go _ _ _ _ Tz15 (mkF m 4 #[oR fi, oR le, oR in_, oR ou] [])
  refine own_go (fun _ k => XS.aloadN Xz15.here hx rfl (hb hby own_d3_4) rfl rfl k) ?_
  show own_Go _ _ _ _ Tz15 (mkF m 5 #[oR fi, oR le, oR in_, oR ou] [(.ref fi)])
  refine own_go (fun _ k => XS.iconst Xz15.here hx rfl (hb hby own_d3_5) k) ?_
  show own_Go _ _ _ _ Tz15 (mkF m 6 #[oR fi, oR le, oR in_, oR ou] [(.int 4), (.ref fi)])
  obtain ⟨Tz16, hz16, kz16, Xz16, ez16, Ez16, Az16, stz16⟩ := newP Xz15 hx hZ (hw _ (List.mem_of_getElem? (i := 3) rfl)) ez15 (g := (mkF m 6 #[oR fi, oR le, oR in_, oR ou] [(.int 4), (.ref fi)])) rfl (hb hby own_d3_6) rfl (by decide) (cap := 4) (by decide) (by decide) (by decide) (by decide)
  obtain ⟨fl, gz16⟩ : ∃ z, z = h0.size := ⟨_, rfl⟩
  rw [← gz16] at Az16 stz16
  have lt_fi_fl : @LT.lt Nat _ fi fl := Nat.lt_of_lt_of_le E_fi.lt (Nat.le_of_eq gz16.symm)
  have lt_in__fl : @LT.lt Nat _ in_ fl := Nat.lt_of_lt_of_le V_in_.lt (Nat.le_of_eq gz16.symm)
  have lt_ou_fl : @LT.lt Nat _ ou fl := Nat.lt_of_lt_of_le V_ou.lt (Nat.le_of_eq gz16.symm)
  have sz_fl : h0.size ≤ fl := by rw [gz16]; exact K.1
  have E_fi := E_fi.ext Ez16
  have F22 := F22.ext Ez16
  have F0 := F0.ext Ez16
  have F2 := F2.ext Ez16
  have F38 := F38.ext Ez16
  have F36 := F36.ext Ez16
  have F18 := F18.ext Ez16
  have F12 := F12.ext Ez16
  have F26 := F26.ext Ez16
  have F40 := F40.ext Ez16
  have F16 := F16.ext Ez16
  have F6 := F6.ext Ez16
  have F34 := F34.ext Ez16
  have F20 := F20.ext Ez16
  have F10 := F10.ext Ez16
  have F30 := F30.ext Ez16
  have F32 := F32.ext Ez16
  have V_in_ := V_in_.ext Ez16
  have V_ou := V_ou.ext Ez16
  have K := K.ext Ez16
  refine own_go stz16 ?_
  have V_fl : Arv Z hz16 fl kz16 .int 4 [(.int 0), (.int 0)] (.int 0) := (Arv.new Az16 (by decide)).pad (pad_rep [] (.int 0) 2)
  show own_Go _ _ _ _ Tz16 (mkF m 8 #[oR fi, oR le, oR in_, oR ou] [(.ref fl), (.ref fi)])
  obtain ⟨Tz17, hz17, Xz17, ez17, Wz17, stz17⟩ := putF Xz16 hx hZ hown (host := "") (Or.inl (hw _ (List.mem_of_getElem? (i := 29) rfl))) Via.refl ez16 F22 E_fi (Or.inl (hw _ (List.mem_of_getElem? (i := 30) rfl))) (hw _ (List.mem_of_getElem? (i := 23) rfl)) (ty := (.array .int)) (by decide) rfl rfl (g := (mkF m 8 #[oR fi, oR le, oR in_, oR ou] [(.ref fl), (.ref fi)])) rfl rfl (hb hby own_d3_8)
  refine own_go stz17 ?_
  have Nz17 := Fr.snoc Xz17 N0 g_fi
  have F23 := F22.same Wz17
  have E_fi := E_fi.wr Wz17
  have F0 := F0.other Wz17 (own_sl hw 32 30 (Or.inl rfl) (Or.inl rfl) (by decide))
  have F2 := F2.other Wz17 (own_sl hw 34 30 (Or.inl rfl) (Or.inl rfl) (by decide))
  have F38 := F38.other Wz17 (own_sl hw 36 30 (Or.inl rfl) (Or.inl rfl) (by decide))
  have F36 := F36.other Wz17 (own_sl hw 38 30 (Or.inl rfl) (Or.inl rfl) (by decide))
  have F18 := F18.other Wz17 (own_sl hw 40 30 (Or.inr rfl) (Or.inl rfl) (by decide))
  have F12 := F12.other Wz17 (own_sl hw 42 30 (Or.inr rfl) (Or.inl rfl) (by decide))
  have F26 := F26.other Wz17 (own_sl hw 44 30 (Or.inr rfl) (Or.inl rfl) (by decide))
  have F40 := F40.other Wz17 (own_sl hw 51 30 (Or.inl rfl) (Or.inl rfl) (by decide))
  have F16 := F16.other Wz17 (own_sl hw 58 30 (Or.inl rfl) (Or.inl rfl) (by decide))
  have F6 := F6.other Wz17 (own_sl hw 60 30 (Or.inl rfl) (Or.inl rfl) (by decide))
  have F34 := F34.other Wz17 (own_sl hw 62 30 (Or.inl rfl) (Or.inl rfl) (by decide))
  have F20 := F20.other Wz17 (own_sl hw 73 30 (Or.inl rfl) (Or.inl rfl) (by decide))
  have F10 := F10.other Wz17 (own_sl hw 79 30 (Or.inl rfl) (Or.inl rfl) (by decide))
  have F30 := F30.other Wz17 (own_sl hw 69 30 (Or.inl rfl) (Or.inl rfl) (by decide))
  have F32 := F32.other Wz17 (own_sl hw 71 30 (Or.inl rfl) (Or.inl rfl) (by decide))
  have V_in_ := V_in_.other Wz17 (Nat.ne_of_gt lt_fi_in_)
  have V_ou := V_ou.other Wz17 (Nat.ne_of_gt lt_fi_ou)
  have K := K.wr Wz17 (Or.inl (List.mem_of_getElem? (i := 0) rfl))
  have V_fl := V_fl.other Wz17 (Nat.ne_of_gt lt_fi_fl)
  have F22 := F23
  show own_Go _ _ _ _ Tz17 (mkF m 11 #[oR fi, oR le, oR in_, oR ou] [])
  refine own_go (fun _ k => XS.aloadN Xz17.here hx rfl (hb hby own_d3_11) rfl rfl k) ?_
  show own_Go _ _ _ _ Tz17 (mkF m 12 #[oR fi, oR le, oR in_, oR ou] [(.ref fi)])
  refine own_go (fun _ k => XS.bipush Xz17.here hx rfl (hb hby own_d3_12) k) ?_
  show own_Go _ _ _ _ Tz17 (mkF m 14 #[oR fi, oR le, oR in_, oR ou] [(.int 16), (.ref fi)])
  obtain ⟨Tz18, hz18, kz18, Xz18, ez18, Ez18, Az18, stz18⟩ := newP Xz17 hx hZ (hw _ (List.mem_of_getElem? (i := 3) rfl)) ez17 (g := (mkF m 14 #[oR fi, oR le, oR in_, oR ou] [(.int 16), (.ref fi)])) rfl (hb hby own_d3_14) rfl (by decide) (cap := 16) (by decide) (by decide) (by decide) (by decide)
  obtain ⟨el, gz18⟩ : ∃ z, z = hz17.size := ⟨_, rfl⟩
  rw [← gz18] at Az18 stz18
  have lt_fi_el : @LT.lt Nat _ fi el := Nat.lt_of_lt_of_le E_fi.lt (Nat.le_of_eq gz18.symm)
  have lt_in__el : @LT.lt Nat _ in_ el := Nat.lt_of_lt_of_le V_in_.lt (Nat.le_of_eq gz18.symm)
  have lt_ou_el : @LT.lt Nat _ ou el := Nat.lt_of_lt_of_le V_ou.lt (Nat.le_of_eq gz18.symm)
  have lt_fl_el : @LT.lt Nat _ fl el := Nat.lt_of_lt_of_le V_fl.lt (Nat.le_of_eq gz18.symm)
  have sz_el : h0.size ≤ el := by rw [gz18]; exact K.1
  have E_fi := E_fi.ext Ez18
  have F0 := F0.ext Ez18
  have F2 := F2.ext Ez18
  have F38 := F38.ext Ez18
  have F36 := F36.ext Ez18
  have F18 := F18.ext Ez18
  have F12 := F12.ext Ez18
  have F26 := F26.ext Ez18
  have F40 := F40.ext Ez18
  have F16 := F16.ext Ez18
  have F6 := F6.ext Ez18
  have F34 := F34.ext Ez18
  have F20 := F20.ext Ez18
  have F10 := F10.ext Ez18
  have F30 := F30.ext Ez18
  have F32 := F32.ext Ez18
  have V_in_ := V_in_.ext Ez18
  have V_ou := V_ou.ext Ez18
  have K := K.ext Ez18
  have V_fl := V_fl.ext Ez18
  have F22 := F22.ext Ez18
  refine own_go stz18 ?_
  have V_el : Arv Z hz18 el kz18 .int 16 [(.int 0), (.int 0)] (.int 0) := (Arv.new Az18 (by decide)).pad (pad_rep [] (.int 0) 2)
  show own_Go _ _ _ _ Tz18 (mkF m 16 #[oR fi, oR le, oR in_, oR ou] [(.ref el), (.ref fi)])
  obtain ⟨Tz19, hz19, Xz19, ez19, Wz19, stz19⟩ := putF Xz18 hx hZ hown (host := "") (Or.inl (hw _ (List.mem_of_getElem? (i := 31) rfl))) Via.refl ez18 F0 E_fi (Or.inl (hw _ (List.mem_of_getElem? (i := 32) rfl))) (hw _ (List.mem_of_getElem? (i := 23) rfl)) (ty := (.array .int)) (by decide) rfl rfl (g := (mkF m 16 #[oR fi, oR le, oR in_, oR ou] [(.ref el), (.ref fi)])) rfl rfl (hb hby own_d3_16)
  refine own_go stz19 ?_
  have Nz19 := Fr.snoc Xz19 Nz17 g_fi
  have F1 := F0.same Wz19
  have E_fi := E_fi.wr Wz19
  have F2 := F2.other Wz19 (own_sl hw 34 32 (Or.inl rfl) (Or.inl rfl) (by decide))
  have F38 := F38.other Wz19 (own_sl hw 36 32 (Or.inl rfl) (Or.inl rfl) (by decide))
  have F36 := F36.other Wz19 (own_sl hw 38 32 (Or.inl rfl) (Or.inl rfl) (by decide))
  have F18 := F18.other Wz19 (own_sl hw 40 32 (Or.inr rfl) (Or.inl rfl) (by decide))
  have F12 := F12.other Wz19 (own_sl hw 42 32 (Or.inr rfl) (Or.inl rfl) (by decide))
  have F26 := F26.other Wz19 (own_sl hw 44 32 (Or.inr rfl) (Or.inl rfl) (by decide))
  have F40 := F40.other Wz19 (own_sl hw 51 32 (Or.inl rfl) (Or.inl rfl) (by decide))
  have F16 := F16.other Wz19 (own_sl hw 58 32 (Or.inl rfl) (Or.inl rfl) (by decide))
  have F6 := F6.other Wz19 (own_sl hw 60 32 (Or.inl rfl) (Or.inl rfl) (by decide))
  have F34 := F34.other Wz19 (own_sl hw 62 32 (Or.inl rfl) (Or.inl rfl) (by decide))
  have F20 := F20.other Wz19 (own_sl hw 73 32 (Or.inl rfl) (Or.inl rfl) (by decide))
  have F10 := F10.other Wz19 (own_sl hw 79 32 (Or.inl rfl) (Or.inl rfl) (by decide))
  have F30 := F30.other Wz19 (own_sl hw 69 32 (Or.inl rfl) (Or.inl rfl) (by decide))
  have F32 := F32.other Wz19 (own_sl hw 71 32 (Or.inl rfl) (Or.inl rfl) (by decide))
  have V_in_ := V_in_.other Wz19 (Nat.ne_of_gt lt_fi_in_)
  have V_ou := V_ou.other Wz19 (Nat.ne_of_gt lt_fi_ou)
  have K := K.wr Wz19 (Or.inl (List.mem_of_getElem? (i := 0) rfl))
  have V_fl := V_fl.other Wz19 (Nat.ne_of_gt lt_fi_fl)
  have F22 := F22.other Wz19 (own_sl hw 30 32 (Or.inl rfl) (Or.inl rfl) (by decide))
  have V_el := V_el.other Wz19 (Nat.ne_of_gt lt_fi_el)
  have F0 := F1
  show own_Go _ _ _ _ Tz19 (mkF m 19 #[oR fi, oR le, oR in_, oR ou] [])
  refine own_go (fun _ k => XS.aloadN Xz19.here hx rfl (hb hby own_d3_19) rfl rfl k) ?_
  show own_Go _ _ _ _ Tz19 (mkF m 20 #[oR fi, oR le, oR in_, oR ou] [(.ref fi)])
  refine own_go (fun _ k => XS.bipush Xz19.here hx rfl (hb hby own_d3_20) k) ?_
  show own_Go _ _ _ _ Tz19 (mkF m 22 #[oR fi, oR le, oR in_, oR ou] [(.int 16), (.ref fi)])
  obtain ⟨Tz20, hz20, kz20, Xz20, ez20, Ez20, Az20, stz20⟩ := newP Xz19 hx hZ (hw _ (List.mem_of_getElem? (i := 12) rfl)) ez19 (g := (mkF m 22 #[oR fi, oR le, oR in_, oR ou] [(.int 16), (.ref fi)])) rfl (hb hby own_d3_22) rfl (by decide) (cap := 16) (by decide) (by decide) (by decide) (by decide)
  obtain ⟨ev, gz20⟩ : ∃ z, z = hz19.size := ⟨_, rfl⟩
  rw [← gz20] at Az20 stz20
  have lt_fi_ev : @LT.lt Nat _ fi ev := Nat.lt_of_lt_of_le E_fi.lt (Nat.le_of_eq gz20.symm)
  have lt_in__ev : @LT.lt Nat _ in_ ev := Nat.lt_of_lt_of_le V_in_.lt (Nat.le_of_eq gz20.symm)
  have lt_ou_ev : @LT.lt Nat _ ou ev := Nat.lt_of_lt_of_le V_ou.lt (Nat.le_of_eq gz20.symm)
  have lt_fl_ev : @LT.lt Nat _ fl ev := Nat.lt_of_lt_of_le V_fl.lt (Nat.le_of_eq gz20.symm)
  have lt_el_ev : @LT.lt Nat _ el ev := Nat.lt_of_lt_of_le V_el.lt (Nat.le_of_eq gz20.symm)
  have sz_ev : h0.size ≤ ev := by rw [gz20]; exact K.1
  have E_fi := E_fi.ext Ez20
  have F2 := F2.ext Ez20
  have F38 := F38.ext Ez20
  have F36 := F36.ext Ez20
  have F18 := F18.ext Ez20
  have F12 := F12.ext Ez20
  have F26 := F26.ext Ez20
  have F40 := F40.ext Ez20
  have F16 := F16.ext Ez20
  have F6 := F6.ext Ez20
  have F34 := F34.ext Ez20
  have F20 := F20.ext Ez20
  have F10 := F10.ext Ez20
  have F30 := F30.ext Ez20
  have F32 := F32.ext Ez20
  have V_in_ := V_in_.ext Ez20
  have V_ou := V_ou.ext Ez20
  have K := K.ext Ez20
  have V_fl := V_fl.ext Ez20
  have F22 := F22.ext Ez20
  have V_el := V_el.ext Ez20
  have F0 := F0.ext Ez20
  refine own_go stz20 ?_
  have V_ev : Arv Z hz20 ev kz20 .double (16 : Int32) [(.double 0), (.double 0)] (.double 0) := (Arv.new Az20 (by decide)).pad (pad_rep [] (.double 0) 2)
  show own_Go _ _ _ _ Tz20 (mkF m 24 #[oR fi, oR le, oR in_, oR ou] [(.ref ev), (.ref fi)])
  obtain ⟨Tz21, hz21, Xz21, ez21, Wz21, stz21⟩ := putF Xz20 hx hZ hown (host := "") (Or.inl (hw _ (List.mem_of_getElem? (i := 33) rfl))) Via.refl ez20 F2 E_fi (Or.inl (hw _ (List.mem_of_getElem? (i := 34) rfl))) (hw _ (List.mem_of_getElem? (i := 23) rfl)) (ty := (.array .double)) (by decide) rfl rfl (g := (mkF m 24 #[oR fi, oR le, oR in_, oR ou] [(.ref ev), (.ref fi)])) rfl rfl (hb hby own_d3_24)
  refine own_go stz21 ?_
  have Nz21 := Fr.snoc Xz21 Nz19 g_fi
  have F3 := F2.same Wz21
  have E_fi := E_fi.wr Wz21
  have F38 := F38.other Wz21 (own_sl hw 36 34 (Or.inl rfl) (Or.inl rfl) (by decide))
  have F36 := F36.other Wz21 (own_sl hw 38 34 (Or.inl rfl) (Or.inl rfl) (by decide))
  have F18 := F18.other Wz21 (own_sl hw 40 34 (Or.inr rfl) (Or.inl rfl) (by decide))
  have F12 := F12.other Wz21 (own_sl hw 42 34 (Or.inr rfl) (Or.inl rfl) (by decide))
  have F26 := F26.other Wz21 (own_sl hw 44 34 (Or.inr rfl) (Or.inl rfl) (by decide))
  have F40 := F40.other Wz21 (own_sl hw 51 34 (Or.inl rfl) (Or.inl rfl) (by decide))
  have F16 := F16.other Wz21 (own_sl hw 58 34 (Or.inl rfl) (Or.inl rfl) (by decide))
  have F6 := F6.other Wz21 (own_sl hw 60 34 (Or.inl rfl) (Or.inl rfl) (by decide))
  have F34 := F34.other Wz21 (own_sl hw 62 34 (Or.inl rfl) (Or.inl rfl) (by decide))
  have F20 := F20.other Wz21 (own_sl hw 73 34 (Or.inl rfl) (Or.inl rfl) (by decide))
  have F10 := F10.other Wz21 (own_sl hw 79 34 (Or.inl rfl) (Or.inl rfl) (by decide))
  have F30 := F30.other Wz21 (own_sl hw 69 34 (Or.inl rfl) (Or.inl rfl) (by decide))
  have F32 := F32.other Wz21 (own_sl hw 71 34 (Or.inl rfl) (Or.inl rfl) (by decide))
  have V_in_ := V_in_.other Wz21 (Nat.ne_of_gt lt_fi_in_)
  have V_ou := V_ou.other Wz21 (Nat.ne_of_gt lt_fi_ou)
  have K := K.wr Wz21 (Or.inl (List.mem_of_getElem? (i := 0) rfl))
  have V_fl := V_fl.other Wz21 (Nat.ne_of_gt lt_fi_fl)
  have F22 := F22.other Wz21 (own_sl hw 30 34 (Or.inl rfl) (Or.inl rfl) (by decide))
  have V_el := V_el.other Wz21 (Nat.ne_of_gt lt_fi_el)
  have F0 := F0.other Wz21 (own_sl hw 32 34 (Or.inl rfl) (Or.inl rfl) (by decide))
  have V_ev := V_ev.other Wz21 (Nat.ne_of_gt lt_fi_ev)
  have F2 := F3
  show own_Go _ _ _ _ Tz21 (mkF m 27 #[oR fi, oR le, oR in_, oR ou] [])
  refine own_go (fun _ k => XS.aloadN Xz21.here hx rfl (hb hby own_d3_27) rfl rfl k) ?_
  show own_Go _ _ _ _ Tz21 (mkF m 28 #[oR fi, oR le, oR in_, oR ou] [(.ref fi)])
  refine own_go (fun _ k => XS.bipush Xz21.here hx rfl (hb hby own_d3_28) k) ?_
  show own_Go _ _ _ _ Tz21 (mkF m 30 #[oR fi, oR le, oR in_, oR ou] [(.int 16), (.ref fi)])
  obtain ⟨Tz22, hz22, kz22, Xz22, ez22, Ez22, Az22, stz22⟩ := newP Xz21 hx hZ (hw _ (List.mem_of_getElem? (i := 3) rfl)) ez21 (g := (mkF m 30 #[oR fi, oR le, oR in_, oR ou] [(.int 16), (.ref fi)])) rfl (hb hby own_d3_30) rfl (by decide) (cap := 16) (by decide) (by decide) (by decide) (by decide)
  obtain ⟨st, gz22⟩ : ∃ z, z = hz21.size := ⟨_, rfl⟩
  rw [← gz22] at Az22 stz22
  have lt_fi_st : @LT.lt Nat _ fi st := Nat.lt_of_lt_of_le E_fi.lt (Nat.le_of_eq gz22.symm)
  have lt_in__st : @LT.lt Nat _ in_ st := Nat.lt_of_lt_of_le V_in_.lt (Nat.le_of_eq gz22.symm)
  have lt_ou_st : @LT.lt Nat _ ou st := Nat.lt_of_lt_of_le V_ou.lt (Nat.le_of_eq gz22.symm)
  have lt_fl_st : @LT.lt Nat _ fl st := Nat.lt_of_lt_of_le V_fl.lt (Nat.le_of_eq gz22.symm)
  have lt_el_st : @LT.lt Nat _ el st := Nat.lt_of_lt_of_le V_el.lt (Nat.le_of_eq gz22.symm)
  have lt_ev_st : @LT.lt Nat _ ev st := Nat.lt_of_lt_of_le V_ev.lt (Nat.le_of_eq gz22.symm)
  have sz_st : h0.size ≤ st := by rw [gz22]; exact K.1
  have E_fi := E_fi.ext Ez22
  have F38 := F38.ext Ez22
  have F36 := F36.ext Ez22
  have F18 := F18.ext Ez22
  have F12 := F12.ext Ez22
  have F26 := F26.ext Ez22
  have F40 := F40.ext Ez22
  have F16 := F16.ext Ez22
  have F6 := F6.ext Ez22
  have F34 := F34.ext Ez22
  have F20 := F20.ext Ez22
  have F10 := F10.ext Ez22
  have F30 := F30.ext Ez22
  have F32 := F32.ext Ez22
  have V_in_ := V_in_.ext Ez22
  have V_ou := V_ou.ext Ez22
  have K := K.ext Ez22
  have V_fl := V_fl.ext Ez22
  have F22 := F22.ext Ez22
  have V_el := V_el.ext Ez22
  have F0 := F0.ext Ez22
  have V_ev := V_ev.ext Ez22
  have F2 := F2.ext Ez22
  refine own_go stz22 ?_
  have V_st : Arv Z hz22 st kz22 .int 16 [(.int 0)] (.int 0) := (Arv.new Az22 (by decide)).pad (pad_rep [] (.int 0) 1)
  show own_Go _ _ _ _ Tz22 (mkF m 32 #[oR fi, oR le, oR in_, oR ou] [(.ref st), (.ref fi)])
  obtain ⟨Tz23, hz23, Xz23, ez23, Wz23, stz23⟩ := putF Xz22 hx hZ hown (host := "") (Or.inl (hw _ (List.mem_of_getElem? (i := 35) rfl))) Via.refl ez22 F38 E_fi (Or.inl (hw _ (List.mem_of_getElem? (i := 36) rfl))) (hw _ (List.mem_of_getElem? (i := 23) rfl)) (ty := (.array .int)) (by decide) rfl rfl (g := (mkF m 32 #[oR fi, oR le, oR in_, oR ou] [(.ref st), (.ref fi)])) rfl rfl (hb hby own_d3_32)
  refine own_go stz23 ?_
  have Nz23 := Fr.snoc Xz23 Nz21 g_fi
  have F39 := F38.same Wz23
  have E_fi := E_fi.wr Wz23
  have F36 := F36.other Wz23 (own_sl hw 38 36 (Or.inl rfl) (Or.inl rfl) (by decide))
  have F18 := F18.other Wz23 (own_sl hw 40 36 (Or.inr rfl) (Or.inl rfl) (by decide))
  have F12 := F12.other Wz23 (own_sl hw 42 36 (Or.inr rfl) (Or.inl rfl) (by decide))
  have F26 := F26.other Wz23 (own_sl hw 44 36 (Or.inr rfl) (Or.inl rfl) (by decide))
  have F40 := F40.other Wz23 (own_sl hw 51 36 (Or.inl rfl) (Or.inl rfl) (by decide))
  have F16 := F16.other Wz23 (own_sl hw 58 36 (Or.inl rfl) (Or.inl rfl) (by decide))
  have F6 := F6.other Wz23 (own_sl hw 60 36 (Or.inl rfl) (Or.inl rfl) (by decide))
  have F34 := F34.other Wz23 (own_sl hw 62 36 (Or.inl rfl) (Or.inl rfl) (by decide))
  have F20 := F20.other Wz23 (own_sl hw 73 36 (Or.inl rfl) (Or.inl rfl) (by decide))
  have F10 := F10.other Wz23 (own_sl hw 79 36 (Or.inl rfl) (Or.inl rfl) (by decide))
  have F30 := F30.other Wz23 (own_sl hw 69 36 (Or.inl rfl) (Or.inl rfl) (by decide))
  have F32 := F32.other Wz23 (own_sl hw 71 36 (Or.inl rfl) (Or.inl rfl) (by decide))
  have V_in_ := V_in_.other Wz23 (Nat.ne_of_gt lt_fi_in_)
  have V_ou := V_ou.other Wz23 (Nat.ne_of_gt lt_fi_ou)
  have K := K.wr Wz23 (Or.inl (List.mem_of_getElem? (i := 0) rfl))
  have V_fl := V_fl.other Wz23 (Nat.ne_of_gt lt_fi_fl)
  have F22 := F22.other Wz23 (own_sl hw 30 36 (Or.inl rfl) (Or.inl rfl) (by decide))
  have V_el := V_el.other Wz23 (Nat.ne_of_gt lt_fi_el)
  have F0 := F0.other Wz23 (own_sl hw 32 36 (Or.inl rfl) (Or.inl rfl) (by decide))
  have V_ev := V_ev.other Wz23 (Nat.ne_of_gt lt_fi_ev)
  have F2 := F2.other Wz23 (own_sl hw 34 36 (Or.inl rfl) (Or.inl rfl) (by decide))
  have V_st := V_st.other Wz23 (Nat.ne_of_gt lt_fi_st)
  have F38 := F39
  show own_Go _ _ _ _ Tz23 (mkF m 35 #[oR fi, oR le, oR in_, oR ou] [])
  refine own_go (fun _ k => XS.aloadN Xz23.here hx rfl (hb hby own_d3_35) rfl rfl k) ?_
  show own_Go _ _ _ _ Tz23 (mkF m 36 #[oR fi, oR le, oR in_, oR ou] [(.ref fi)])
  refine own_go (fun _ k => XS.bipush Xz23.here hx rfl (hb hby own_d3_36) k) ?_
  show own_Go _ _ _ _ Tz23 (mkF m 38 #[oR fi, oR le, oR in_, oR ou] [(.int 16), (.ref fi)])
  obtain ⟨Tz24, hz24, kz24, Xz24, ez24, Ez24, Az24, stz24⟩ := newP Xz23 hx hZ (hw _ (List.mem_of_getElem? (i := 3) rfl)) ez23 (g := (mkF m 38 #[oR fi, oR le, oR in_, oR ou] [(.int 16), (.ref fi)])) rfl (hb hby own_d3_38) rfl (by decide) (cap := 16) (by decide) (by decide) (by decide) (by decide)
  obtain ⟨se, gz24⟩ : ∃ z, z = hz23.size := ⟨_, rfl⟩
  rw [← gz24] at Az24 stz24
  have lt_fi_se : @LT.lt Nat _ fi se := Nat.lt_of_lt_of_le E_fi.lt (Nat.le_of_eq gz24.symm)
  have lt_in__se : @LT.lt Nat _ in_ se := Nat.lt_of_lt_of_le V_in_.lt (Nat.le_of_eq gz24.symm)
  have lt_ou_se : @LT.lt Nat _ ou se := Nat.lt_of_lt_of_le V_ou.lt (Nat.le_of_eq gz24.symm)
  have lt_fl_se : @LT.lt Nat _ fl se := Nat.lt_of_lt_of_le V_fl.lt (Nat.le_of_eq gz24.symm)
  have lt_el_se : @LT.lt Nat _ el se := Nat.lt_of_lt_of_le V_el.lt (Nat.le_of_eq gz24.symm)
  have lt_ev_se : @LT.lt Nat _ ev se := Nat.lt_of_lt_of_le V_ev.lt (Nat.le_of_eq gz24.symm)
  have lt_st_se : @LT.lt Nat _ st se := Nat.lt_of_lt_of_le V_st.lt (Nat.le_of_eq gz24.symm)
  have sz_se : h0.size ≤ se := by rw [gz24]; exact K.1
  have E_fi := E_fi.ext Ez24
  have F36 := F36.ext Ez24
  have F18 := F18.ext Ez24
  have F12 := F12.ext Ez24
  have F26 := F26.ext Ez24
  have F40 := F40.ext Ez24
  have F16 := F16.ext Ez24
  have F6 := F6.ext Ez24
  have F34 := F34.ext Ez24
  have F20 := F20.ext Ez24
  have F10 := F10.ext Ez24
  have F30 := F30.ext Ez24
  have F32 := F32.ext Ez24
  have V_in_ := V_in_.ext Ez24
  have V_ou := V_ou.ext Ez24
  have K := K.ext Ez24
  have V_fl := V_fl.ext Ez24
  have F22 := F22.ext Ez24
  have V_el := V_el.ext Ez24
  have F0 := F0.ext Ez24
  have V_ev := V_ev.ext Ez24
  have F2 := F2.ext Ez24
  have V_st := V_st.ext Ez24
  have F38 := F38.ext Ez24
  refine own_go stz24 ?_
  have V_se : Arv Z hz24 se kz24 .int 16 [(.int 0)] (.int 0) := (Arv.new Az24 (by decide)).pad (pad_rep [] (.int 0) 1)
  show own_Go _ _ _ _ Tz24 (mkF m 40 #[oR fi, oR le, oR in_, oR ou] [(.ref se), (.ref fi)])
  obtain ⟨Tz25, hz25, Xz25, ez25, Wz25, stz25⟩ := putF Xz24 hx hZ hown (host := "") (Or.inl (hw _ (List.mem_of_getElem? (i := 37) rfl))) Via.refl ez24 F36 E_fi (Or.inl (hw _ (List.mem_of_getElem? (i := 38) rfl))) (hw _ (List.mem_of_getElem? (i := 23) rfl)) (ty := (.array .int)) (by decide) rfl rfl (g := (mkF m 40 #[oR fi, oR le, oR in_, oR ou] [(.ref se), (.ref fi)])) rfl rfl (hb hby own_d3_40)
  refine own_go stz25 ?_
  have Nz25 := Fr.snoc Xz25 Nz23 g_fi
  have F37 := F36.same Wz25
  have E_fi := E_fi.wr Wz25
  have F18 := F18.other Wz25 (own_sl hw 40 38 (Or.inr rfl) (Or.inl rfl) (by decide))
  have F12 := F12.other Wz25 (own_sl hw 42 38 (Or.inr rfl) (Or.inl rfl) (by decide))
  have F26 := F26.other Wz25 (own_sl hw 44 38 (Or.inr rfl) (Or.inl rfl) (by decide))
  have F40 := F40.other Wz25 (own_sl hw 51 38 (Or.inl rfl) (Or.inl rfl) (by decide))
  have F16 := F16.other Wz25 (own_sl hw 58 38 (Or.inl rfl) (Or.inl rfl) (by decide))
  have F6 := F6.other Wz25 (own_sl hw 60 38 (Or.inl rfl) (Or.inl rfl) (by decide))
  have F34 := F34.other Wz25 (own_sl hw 62 38 (Or.inl rfl) (Or.inl rfl) (by decide))
  have F20 := F20.other Wz25 (own_sl hw 73 38 (Or.inl rfl) (Or.inl rfl) (by decide))
  have F10 := F10.other Wz25 (own_sl hw 79 38 (Or.inl rfl) (Or.inl rfl) (by decide))
  have F30 := F30.other Wz25 (own_sl hw 69 38 (Or.inl rfl) (Or.inl rfl) (by decide))
  have F32 := F32.other Wz25 (own_sl hw 71 38 (Or.inl rfl) (Or.inl rfl) (by decide))
  have V_in_ := V_in_.other Wz25 (Nat.ne_of_gt lt_fi_in_)
  have V_ou := V_ou.other Wz25 (Nat.ne_of_gt lt_fi_ou)
  have K := K.wr Wz25 (Or.inl (List.mem_of_getElem? (i := 0) rfl))
  have V_fl := V_fl.other Wz25 (Nat.ne_of_gt lt_fi_fl)
  have F22 := F22.other Wz25 (own_sl hw 30 38 (Or.inl rfl) (Or.inl rfl) (by decide))
  have V_el := V_el.other Wz25 (Nat.ne_of_gt lt_fi_el)
  have F0 := F0.other Wz25 (own_sl hw 32 38 (Or.inl rfl) (Or.inl rfl) (by decide))
  have V_ev := V_ev.other Wz25 (Nat.ne_of_gt lt_fi_ev)
  have F2 := F2.other Wz25 (own_sl hw 34 38 (Or.inl rfl) (Or.inl rfl) (by decide))
  have V_st := V_st.other Wz25 (Nat.ne_of_gt lt_fi_st)
  have F38 := F38.other Wz25 (own_sl hw 36 38 (Or.inl rfl) (Or.inl rfl) (by decide))
  have V_se := V_se.other Wz25 (Nat.ne_of_gt lt_fi_se)
  have F36 := F37
  show own_Go _ _ _ _ Tz25 (mkF m 43 #[oR fi, oR le, oR in_, oR ou] [])
  refine own_go (fun _ k => XS.aloadN Xz25.here hx rfl (hb hby own_d3_43) rfl rfl k) ?_
  show own_Go _ _ _ _ Tz25 (mkF m 44 #[oR fi, oR le, oR in_, oR ou] [(.ref fi)])
  refine own_go (fun _ k => XS.aloadN Xz25.here hx rfl (hb hby own_d3_44) rfl rfl k) ?_
  show own_Go _ _ _ _ Tz25 (mkF m 45 #[oR fi, oR le, oR in_, oR ou] [(.ref le), (.ref fi)])
  obtain ⟨Tz26, hz26, Xz26, ez26, Wz26, stz26⟩ := putF Xz25 hx hZ hown (host := "") (Or.inl (hw _ (List.mem_of_getElem? (i := 39) rfl))) Via.refl ez25 F18 E_fi (Or.inr ⟨(hw _ (List.mem_of_getElem? (i := 40) rfl)), rfl, hnm⟩) (hw _ (List.mem_of_getElem? (i := 23) rfl)) (ty := (.object "com/example/spillback/spillback/Fifo$Legs")) (by decide) rfl rfl (g := (mkF m 45 #[oR fi, oR le, oR in_, oR ou] [(.ref le), (.ref fi)])) rfl rfl (hb hby own_d3_45)
  refine own_go stz26 ?_
  have Nz26 := Fr.snoc Xz26 Nz25 g_fi
  have F19 := F18.same Wz26
  have E_fi := E_fi.wr Wz26
  have F12 := F12.other Wz26 (own_sl hw 42 40 (Or.inr rfl) (Or.inr rfl) (by decide))
  have F26 := F26.other Wz26 (own_sl hw 44 40 (Or.inr rfl) (Or.inr rfl) (by decide))
  have F40 := F40.other Wz26 (own_sl hw 51 40 (Or.inl rfl) (Or.inr rfl) (by decide))
  have F16 := F16.other Wz26 (own_sl hw 58 40 (Or.inl rfl) (Or.inr rfl) (by decide))
  have F6 := F6.other Wz26 (own_sl hw 60 40 (Or.inl rfl) (Or.inr rfl) (by decide))
  have F34 := F34.other Wz26 (own_sl hw 62 40 (Or.inl rfl) (Or.inr rfl) (by decide))
  have F20 := F20.other Wz26 (own_sl hw 73 40 (Or.inl rfl) (Or.inr rfl) (by decide))
  have F10 := F10.other Wz26 (own_sl hw 79 40 (Or.inl rfl) (Or.inr rfl) (by decide))
  have F30 := F30.other Wz26 (own_sl hw 69 40 (Or.inl rfl) (Or.inr rfl) (by decide))
  have F32 := F32.other Wz26 (own_sl hw 71 40 (Or.inl rfl) (Or.inr rfl) (by decide))
  have V_in_ := V_in_.other Wz26 (Nat.ne_of_gt lt_fi_in_)
  have V_ou := V_ou.other Wz26 (Nat.ne_of_gt lt_fi_ou)
  have K := K.wr Wz26 (Or.inl (List.mem_of_getElem? (i := 0) rfl))
  have V_fl := V_fl.other Wz26 (Nat.ne_of_gt lt_fi_fl)
  have F22 := F22.other Wz26 (own_sl hw 30 40 (Or.inl rfl) (Or.inr rfl) (by decide))
  have V_el := V_el.other Wz26 (Nat.ne_of_gt lt_fi_el)
  have F0 := F0.other Wz26 (own_sl hw 32 40 (Or.inl rfl) (Or.inr rfl) (by decide))
  have V_ev := V_ev.other Wz26 (Nat.ne_of_gt lt_fi_ev)
  have F2 := F2.other Wz26 (own_sl hw 34 40 (Or.inl rfl) (Or.inr rfl) (by decide))
  have V_st := V_st.other Wz26 (Nat.ne_of_gt lt_fi_st)
  have F38 := F38.other Wz26 (own_sl hw 36 40 (Or.inl rfl) (Or.inr rfl) (by decide))
  have V_se := V_se.other Wz26 (Nat.ne_of_gt lt_fi_se)
  have F36 := F36.other Wz26 (own_sl hw 38 40 (Or.inl rfl) (Or.inr rfl) (by decide))
  have F18 := F19
  show own_Go _ _ _ _ Tz26 (mkF m 48 #[oR fi, oR le, oR in_, oR ou] [])
  refine own_go (fun _ k => XS.aloadN Xz26.here hx rfl (hb hby own_d3_48) rfl rfl k) ?_
  show own_Go _ _ _ _ Tz26 (mkF m 49 #[oR fi, oR le, oR in_, oR ou] [(.ref fi)])
  refine own_go (fun _ k => XS.aloadN Xz26.here hx rfl (hb hby own_d3_49) rfl rfl k) ?_
  show own_Go _ _ _ _ Tz26 (mkF m 50 #[oR fi, oR le, oR in_, oR ou] [(.ref in_), (.ref fi)])
  obtain ⟨Tz27, hz27, Xz27, ez27, Wz27, stz27⟩ := putF Xz26 hx hZ hown (host := "") (Or.inl (hw _ (List.mem_of_getElem? (i := 41) rfl))) Via.refl ez26 F12 E_fi (Or.inr ⟨(hw _ (List.mem_of_getElem? (i := 42) rfl)), rfl, hnm⟩) (hw _ (List.mem_of_getElem? (i := 23) rfl)) (ty := (.array .double)) (by decide) rfl rfl (g := (mkF m 50 #[oR fi, oR le, oR in_, oR ou] [(.ref in_), (.ref fi)])) rfl rfl (hb hby own_d3_50)
  refine own_go stz27 ?_
  have Nz27 := Fr.snoc Xz27 Nz26 g_fi
  have F13 := F12.same Wz27
  have E_fi := E_fi.wr Wz27
  have F26 := F26.other Wz27 (own_sl hw 44 42 (Or.inr rfl) (Or.inr rfl) (by decide))
  have F40 := F40.other Wz27 (own_sl hw 51 42 (Or.inl rfl) (Or.inr rfl) (by decide))
  have F16 := F16.other Wz27 (own_sl hw 58 42 (Or.inl rfl) (Or.inr rfl) (by decide))
  have F6 := F6.other Wz27 (own_sl hw 60 42 (Or.inl rfl) (Or.inr rfl) (by decide))
  have F34 := F34.other Wz27 (own_sl hw 62 42 (Or.inl rfl) (Or.inr rfl) (by decide))
  have F20 := F20.other Wz27 (own_sl hw 73 42 (Or.inl rfl) (Or.inr rfl) (by decide))
  have F10 := F10.other Wz27 (own_sl hw 79 42 (Or.inl rfl) (Or.inr rfl) (by decide))
  have F30 := F30.other Wz27 (own_sl hw 69 42 (Or.inl rfl) (Or.inr rfl) (by decide))
  have F32 := F32.other Wz27 (own_sl hw 71 42 (Or.inl rfl) (Or.inr rfl) (by decide))
  have V_in_ := V_in_.other Wz27 (Nat.ne_of_gt lt_fi_in_)
  have V_ou := V_ou.other Wz27 (Nat.ne_of_gt lt_fi_ou)
  have K := K.wr Wz27 (Or.inl (List.mem_of_getElem? (i := 0) rfl))
  have V_fl := V_fl.other Wz27 (Nat.ne_of_gt lt_fi_fl)
  have F22 := F22.other Wz27 (own_sl hw 30 42 (Or.inl rfl) (Or.inr rfl) (by decide))
  have V_el := V_el.other Wz27 (Nat.ne_of_gt lt_fi_el)
  have F0 := F0.other Wz27 (own_sl hw 32 42 (Or.inl rfl) (Or.inr rfl) (by decide))
  have V_ev := V_ev.other Wz27 (Nat.ne_of_gt lt_fi_ev)
  have F2 := F2.other Wz27 (own_sl hw 34 42 (Or.inl rfl) (Or.inr rfl) (by decide))
  have V_st := V_st.other Wz27 (Nat.ne_of_gt lt_fi_st)
  have F38 := F38.other Wz27 (own_sl hw 36 42 (Or.inl rfl) (Or.inr rfl) (by decide))
  have V_se := V_se.other Wz27 (Nat.ne_of_gt lt_fi_se)
  have F36 := F36.other Wz27 (own_sl hw 38 42 (Or.inl rfl) (Or.inr rfl) (by decide))
  have F18 := F18.other Wz27 (own_sl hw 40 42 (Or.inr rfl) (Or.inr rfl) (by decide))
  have F12 := F13
  show own_Go _ _ _ _ Tz27 (mkF m 53 #[oR fi, oR le, oR in_, oR ou] [])
  refine own_go (fun _ k => XS.aloadN Xz27.here hx rfl (hb hby own_d3_53) rfl rfl k) ?_
  show own_Go _ _ _ _ Tz27 (mkF m 54 #[oR fi, oR le, oR in_, oR ou] [(.ref fi)])
  refine own_go (fun _ k => XS.aloadN Xz27.here hx rfl (hb hby own_d3_54) rfl rfl k) ?_
  show own_Go _ _ _ _ Tz27 (mkF m 55 #[oR fi, oR le, oR in_, oR ou] [(.ref ou), (.ref fi)])
  obtain ⟨Tz28, hz28, Xz28, ez28, Wz28, stz28⟩ := putF Xz27 hx hZ hown (host := "") (Or.inl (hw _ (List.mem_of_getElem? (i := 43) rfl))) Via.refl ez27 F26 E_fi (Or.inr ⟨(hw _ (List.mem_of_getElem? (i := 44) rfl)), rfl, hnm⟩) (hw _ (List.mem_of_getElem? (i := 23) rfl)) (ty := (.array .double)) (by decide) rfl rfl (g := (mkF m 55 #[oR fi, oR le, oR in_, oR ou] [(.ref ou), (.ref fi)])) rfl rfl (hb hby own_d3_55)
  refine own_go stz28 ?_
  have Nz28 := Fr.snoc Xz28 Nz27 g_fi
  have F27 := F26.same Wz28
  have E_fi := E_fi.wr Wz28
  have F40 := F40.other Wz28 (own_sl hw 51 44 (Or.inl rfl) (Or.inr rfl) (by decide))
  have F16 := F16.other Wz28 (own_sl hw 58 44 (Or.inl rfl) (Or.inr rfl) (by decide))
  have F6 := F6.other Wz28 (own_sl hw 60 44 (Or.inl rfl) (Or.inr rfl) (by decide))
  have F34 := F34.other Wz28 (own_sl hw 62 44 (Or.inl rfl) (Or.inr rfl) (by decide))
  have F20 := F20.other Wz28 (own_sl hw 73 44 (Or.inl rfl) (Or.inr rfl) (by decide))
  have F10 := F10.other Wz28 (own_sl hw 79 44 (Or.inl rfl) (Or.inr rfl) (by decide))
  have F30 := F30.other Wz28 (own_sl hw 69 44 (Or.inl rfl) (Or.inr rfl) (by decide))
  have F32 := F32.other Wz28 (own_sl hw 71 44 (Or.inl rfl) (Or.inr rfl) (by decide))
  have V_in_ := V_in_.other Wz28 (Nat.ne_of_gt lt_fi_in_)
  have V_ou := V_ou.other Wz28 (Nat.ne_of_gt lt_fi_ou)
  have K := K.wr Wz28 (Or.inl (List.mem_of_getElem? (i := 0) rfl))
  have V_fl := V_fl.other Wz28 (Nat.ne_of_gt lt_fi_fl)
  have F22 := F22.other Wz28 (own_sl hw 30 44 (Or.inl rfl) (Or.inr rfl) (by decide))
  have V_el := V_el.other Wz28 (Nat.ne_of_gt lt_fi_el)
  have F0 := F0.other Wz28 (own_sl hw 32 44 (Or.inl rfl) (Or.inr rfl) (by decide))
  have V_ev := V_ev.other Wz28 (Nat.ne_of_gt lt_fi_ev)
  have F2 := F2.other Wz28 (own_sl hw 34 44 (Or.inl rfl) (Or.inr rfl) (by decide))
  have V_st := V_st.other Wz28 (Nat.ne_of_gt lt_fi_st)
  have F38 := F38.other Wz28 (own_sl hw 36 44 (Or.inl rfl) (Or.inr rfl) (by decide))
  have V_se := V_se.other Wz28 (Nat.ne_of_gt lt_fi_se)
  have F36 := F36.other Wz28 (own_sl hw 38 44 (Or.inl rfl) (Or.inr rfl) (by decide))
  have F18 := F18.other Wz28 (own_sl hw 40 44 (Or.inr rfl) (Or.inr rfl) (by decide))
  have F12 := F12.other Wz28 (own_sl hw 42 44 (Or.inr rfl) (Or.inr rfl) (by decide))
  have F26 := F27
  show own_Go _ _ _ _ Tz28 (mkF m 58 #[oR fi, oR le, oR in_, oR ou] [])
  exact own_end Xz28 hlk (v := none) (fun _ => rfl) (fun fs hr => Xz28.returnOut hx hret (hb hby own_d3_58) hr) (by rw [ez28]; exact ⟨fl, el, ev, st, se, kz16, kz18, kz20, kz22, kz24, rfl, Nz28, K, lt_ou_fl, lt_fl_el, lt_el_ev, lt_ev_st, lt_st_se, E_fi, F22, F0, F2, F38, F36, F18, F12, F26, F40, F16, F6, F34, F20, F10, F30, F32, V_fl, V_el, V_ev, V_st, V_se⟩) (by decide) (by decide)
theorem own_efjoin0 (m : MethodId) (fi : Addr) (pn : Int32) (V0 : UInt64) : entryFrame m #[(.ref fi), (.int pn), (.double V0)] 4 = mkF m 0 #[oR fi, oI pn, oD V0, oS] [] := by first | (simp [entryFrame, mkF, argsToLocals, Value.category]; done) | rfl
theorem own_d4_0 : decode prog_12_method_2_code 0 = .ok (.aload_n 0, 1) := by decide +kernel
theorem own_d4_1 : decode prog_12_method_2_code 1 = .ok (.getfield 36, 3) := by decide +kernel
theorem own_d4_4 : decode prog_12_method_2_code 4 = .ok (.aload_n 0, 1) := by decide +kernel
theorem own_d4_5 : decode prog_12_method_2_code 5 = .ok (.getfield 13, 3) := by decide +kernel
theorem own_d4_8 : decode prog_12_method_2_code 8 = .ok (.arraylength, 1) := by decide +kernel
theorem own_d4_9 : decode prog_12_method_2_code 9 = .ok (.if_icmp .ne 7, 3) := by decide +kernel
theorem own_d4_16 : decode prog_12_method_2_code 16 = .ok (.aload_n 0, 1) := by decide +kernel
theorem own_d4_17 : decode prog_12_method_2_code 17 = .ok (.getfield 13, 3) := by decide +kernel
theorem own_d4_20 : decode prog_12_method_2_code 20 = .ok (.aload_n 0, 1) := by decide +kernel
theorem own_d4_21 : decode prog_12_method_2_code 21 = .ok (.getfield 36, 3) := by decide +kernel
theorem own_d4_24 : decode prog_12_method_2_code 24 = .ok (.iload_n 1, 1) := by decide +kernel
theorem own_d4_25 : decode prog_12_method_2_code 25 = .ok (.iastore, 1) := by decide +kernel
theorem own_d4_26 : decode prog_12_method_2_code 26 = .ok (.aload_n 0, 1) := by decide +kernel
theorem own_d4_27 : decode prog_12_method_2_code 27 = .ok (.getfield 16, 3) := by decide +kernel
theorem own_d4_30 : decode prog_12_method_2_code 30 = .ok (.aload_n 0, 1) := by decide +kernel
theorem own_d4_31 : decode prog_12_method_2_code 31 = .ok (.getfield 36, 3) := by decide +kernel
theorem own_d4_34 : decode prog_12_method_2_code 34 = .ok (.dload_n 2, 1) := by decide +kernel
theorem own_d4_35 : decode prog_12_method_2_code 35 = .ok (.dastore, 1) := by decide +kernel
theorem own_d4_36 : decode prog_12_method_2_code 36 = .ok (.aload_n 0, 1) := by decide +kernel
theorem own_d4_37 : decode prog_12_method_2_code 37 = .ok (.dup, 1) := by decide +kernel
theorem own_d4_38 : decode prog_12_method_2_code 38 = .ok (.getfield 36, 3) := by decide +kernel
theorem own_d4_41 : decode prog_12_method_2_code 41 = .ok (.iconst 1, 1) := by decide +kernel
theorem own_d4_42 : decode prog_12_method_2_code 42 = .ok (.iadd, 1) := by decide +kernel
theorem own_d4_43 : decode prog_12_method_2_code 43 = .ok (.putfield 36, 3) := by decide +kernel
theorem own_d4_46 : decode prog_12_method_2_code 46 = .ok (.return_, 1) := by decide +kernel
def own_Qjoin0 (Z : State) (le : Addr) (ex : Addr) (jo : Addr) (go : Addr) (pe : Addr) (li : Addr) (fi : Addr) (in_ : Addr) (ou : Addr) (fl : Addr) (el : Addr) (ev : Addr) (st : Addr) (se : Addr) (kex : ClassId) (kjo : ClassId) (kgo : ClassId) (kpe : ClassId) (kli : ClassId) (kin_ : ClassId) (kou : ClassId) (kfl : ClassId) (kel : ClassId) (kev : ClassId) (kst : ClassId) (kse : ClassId) (V0 : UInt64) (h0 : Heap) (n0 : Nat) (v : Option Value) (h : Heap) (L : List Loc) : Prop := v = none ∧ Fr n0 L ∧ Keep h0 h [fi, el, ev] ∧ Exa Z h fi "com/example/spillback/spillback/Fifo" ∧ Fld Z h fi "com/example/spillback/spillback/Fifo" "listed" "[I" (.ref fl) ∧ Fld Z h fi "com/example/spillback/spillback/Fifo" "entryLegs" "[I" (.ref el) ∧ Fld Z h fi "com/example/spillback/spillback/Fifo" "entryVehicles" "[D" (.ref ev) ∧ Fld Z h fi "com/example/spillback/spillback/Fifo" "steps" "[I" (.ref st) ∧ Fld Z h fi "com/example/spillback/spillback/Fifo" "stepEnds" "[I" (.ref se) ∧ Fld Z h fi "com/example/spillback/spillback/Fifo" "legs" "Lcom/example/spillback/spillback/Fifo$Legs;" (.ref le) ∧ Fld Z h fi "com/example/spillback/spillback/Fifo" "in" "[D" (.ref in_) ∧ Fld Z h fi "com/example/spillback/spillback/Fifo" "out" "[D" (.ref ou) ∧ Fld Z h fi "com/example/spillback/spillback/Fifo" "tail" "I" (.int 1) ∧ Fld Z h fi "com/example/spillback/spillback/Fifo" "joiningStart" "I" (.int 0) ∧ Fld Z h fi "com/example/spillback/spillback/Fifo" "firstStep" "I" (.int 0) ∧ Fld Z h fi "com/example/spillback/spillback/Fifo" "stepCount" "I" (.int 0) ∧ Fld Z h fi "com/example/spillback/spillback/Fifo" "listedCount" "I" (.int 0) ∧ Fld Z h fi "com/example/spillback/spillback/Fifo" "head" "I" (.int 0) ∧ Fld Z h fi "com/example/spillback/spillback/Fifo" "sliceTotal" "D" (.double 0) ∧ Fld Z h fi "com/example/spillback/spillback/Fifo" "sliceVehicles" "D" (.double 0) ∧ Arv Z h el kel .int 16 [(.int 0), (.int 0)] (.int 0) ∧ Arv Z h ev kev .double (16 : Int32) [(.double V0), (.double 0)] (.double 0)
set_option maxRecDepth 65536 in
set_option maxHeartbeats 40000000 in
theorem own_rmjoin0 (l : Launch) (Z : State) (a0 : Array Value) (hw : ∀ d ∈ tables_1, d.before a0 Z = true) (ws : List Jvm.Cond) (fi : Addr) (pn : Int32) (V0 : UInt64) (h0 : Heap) (n0 : Nat) (le ex jo go pe li in_ ou fl el ev st se : Addr) (kex kjo kgo kpe kli kin_ kou kfl kel kev kst kse : ClassId) (hc0 : n0 ≤ le) (hc1 : @LT.lt Nat _ le ex) (hc2 : @LT.lt Nat _ ex jo) (hc3 : @LT.lt Nat _ jo go) (hc4 : @LT.lt Nat _ go pe) (hc5 : @LT.lt Nat _ pe li) (hc6 : @LT.lt Nat _ li fi) (hc7 : @LT.lt Nat _ fi in_) (hc8 : @LT.lt Nat _ in_ ou) (hc9 : @LT.lt Nat _ ou fl) (hc10 : @LT.lt Nat _ fl el) (hc11 : @LT.lt Nat _ el ev) (hc12 : @LT.lt Nat _ ev st) (hc13 : @LT.lt Nat _ st se) (hp : pn = (0 : Int32)) (E_fi : Exa Z h0 fi "com/example/spillback/spillback/Fifo") (F22 : Fld Z h0 fi "com/example/spillback/spillback/Fifo" "listed" "[I" (.ref fl)) (F0 : Fld Z h0 fi "com/example/spillback/spillback/Fifo" "entryLegs" "[I" (.ref el)) (F2 : Fld Z h0 fi "com/example/spillback/spillback/Fifo" "entryVehicles" "[D" (.ref ev)) (F38 : Fld Z h0 fi "com/example/spillback/spillback/Fifo" "steps" "[I" (.ref st)) (F36 : Fld Z h0 fi "com/example/spillback/spillback/Fifo" "stepEnds" "[I" (.ref se)) (F18 : Fld Z h0 fi "com/example/spillback/spillback/Fifo" "legs" "Lcom/example/spillback/spillback/Fifo$Legs;" (.ref le)) (F12 : Fld Z h0 fi "com/example/spillback/spillback/Fifo" "in" "[D" (.ref in_)) (F26 : Fld Z h0 fi "com/example/spillback/spillback/Fifo" "out" "[D" (.ref ou)) (F40 : Fld Z h0 fi "com/example/spillback/spillback/Fifo" "tail" "I" (.int 0)) (F16 : Fld Z h0 fi "com/example/spillback/spillback/Fifo" "joiningStart" "I" (.int 0)) (F6 : Fld Z h0 fi "com/example/spillback/spillback/Fifo" "firstStep" "I" (.int 0)) (F34 : Fld Z h0 fi "com/example/spillback/spillback/Fifo" "stepCount" "I" (.int 0)) (F20 : Fld Z h0 fi "com/example/spillback/spillback/Fifo" "listedCount" "I" (.int 0)) (F10 : Fld Z h0 fi "com/example/spillback/spillback/Fifo" "head" "I" (.int 0)) (F30 : Fld Z h0 fi "com/example/spillback/spillback/Fifo" "sliceTotal" "D" (.double 0)) (F32 : Fld Z h0 fi "com/example/spillback/spillback/Fifo" "sliceVehicles" "D" (.double 0)) (V_el : Arv Z h0 el kel .int 16 [(.int 0), (.int 0)] (.int 0)) (V_ev : Arv Z h0 ev kev .double (16 : Int32) [(.double 0), (.double 0)] (.double 0)) :
    own_Met l Z (⟨"com/example/spillback/spillback/Fifo", "join", "(ID)V"⟩ : MethodName) prog_12_method_2_code 4 none ws ({ frames := 0, cells := 0, slots := 0, locals := 0 } : Room) #[(.ref fi), (.int pn), (.double V0)] h0 (own_Qjoin0 Z le ex jo go pe li fi in_ ou fl el ev st se kex kjo kgo kpe kli kin_ kou kfl kel kev kst kse V0 h0 n0) := by
  refine own_met (plainFor_of_name own_pn1) ?_
  intro p e s m below meth c s₁ X0 hx hZ hby hml hown hnm hret hlk e0
  have N0 := Fr.nil n0
  refine own_go (fun t k => castTop (own_efjoin0 m fi pn V0) k) ?_
  have g_el : @LE.le Nat _ n0 el := by omega
  have lt_fi_el : @LT.lt Nat _ fi el := by omega
  have lt_el_ev : @LT.lt Nat _ el ev := by omega
  have g_ev : @LE.le Nat _ n0 ev := by omega
  have lt_fi_ev : @LT.lt Nat _ fi ev := by omega
  have g_fi : @LE.le Nat _ n0 fi := by omega
  have K := Keep.refl h0 [fi, el, ev]
  show own_Go _ _ _ _ s₁ (mkF m 0 #[oR fi, oI pn, oD V0, oS] [])
  refine own_go (fun _ k => XS.aloadN X0.here hx rfl (hb hby own_d4_0) rfl rfl k) ?_
  show own_Go _ _ _ _ s₁ (mkF m 1 #[oR fi, oI pn, oD V0, oS] [(.ref fi)])
  obtain ⟨Tz29, Xz29, ez29, stz29⟩ := getF X0 hx hZ hown (host := "") (Or.inl (hw _ (List.mem_of_getElem? (i := 50) rfl))) Via.refl e0 F40 (g := (mkF m 1 #[oR fi, oI pn, oD V0, oS] [(.ref fi)])) rfl rfl (hb hby own_d4_1)
  refine own_go stz29 ?_
  show own_Go _ _ _ _ Tz29 (mkF m 4 #[oR fi, oI pn, oD V0, oS] [(.int 0)])
  refine own_go (fun _ k => XS.aloadN Xz29.here hx rfl (hb hby own_d4_4) rfl rfl k) ?_
  show own_Go _ _ _ _ Tz29 (mkF m 5 #[oR fi, oI pn, oD V0, oS] [(.ref fi), (.int 0)])
  obtain ⟨Tz30, Xz30, ez30, stz30⟩ := getF Xz29 hx hZ hown (host := "") (Or.inl (hw _ (List.mem_of_getElem? (i := 31) rfl))) Via.refl ez29 F0 (g := (mkF m 5 #[oR fi, oI pn, oD V0, oS] [(.ref fi), (.int 0)])) rfl rfl (hb hby own_d4_5)
  refine own_go stz30 ?_
  show own_Go _ _ _ _ Tz30 (mkF m 8 #[oR fi, oI pn, oD V0, oS] [(.ref el), (.int 0)])
  obtain ⟨clz31, Arz31, qz31, Sz31, Mz31, HHz31, Gz31⟩ := id V_el
  refine own_go (fun _ k => Xz30.arraylength hx (by rw [ez30]; exact Arz31.1) (State.isArrayOf_alike hZ.alike Arz31.2.1) (g := (mkF m 8 #[oR fi, oI pn, oD V0, oS] [(.ref el), (.int 0)])) rfl rfl (hb hby own_d4_8) _ k) ?_
  rw [len_of Sz31 Mz31]
  show own_Go _ _ _ _ Tz30 (mkF m 9 #[oR fi, oI pn, oD V0, oS] [(.int 16), (.int 0)])
  refine own_go (fun _ k => XS.icmpYes Xz30.here hx rfl (pc0 := 9) (pc' := 16) rfl (hb hby own_d4_9) rfl (feq (by decide : ¬ ((0 : Int32) = (16 : Int32)))).2 (by decide) (by decide) k) ?_
  show own_Go _ _ _ _ Tz30 (mkF m 16 #[oR fi, oI pn, oD V0, oS] [])
  refine own_go (fun _ k => XS.aloadN Xz30.here hx rfl (hb hby own_d4_16) rfl rfl k) ?_
  show own_Go _ _ _ _ Tz30 (mkF m 17 #[oR fi, oI pn, oD V0, oS] [(.ref fi)])
  obtain ⟨Tz32, Xz32, ez32, stz32⟩ := getF Xz30 hx hZ hown (host := "") (Or.inl (hw _ (List.mem_of_getElem? (i := 31) rfl))) Via.refl ez30 F0 (g := (mkF m 17 #[oR fi, oI pn, oD V0, oS] [(.ref fi)])) rfl rfl (hb hby own_d4_17)
  refine own_go stz32 ?_
  show own_Go _ _ _ _ Tz32 (mkF m 20 #[oR fi, oI pn, oD V0, oS] [(.ref el)])
  refine own_go (fun _ k => XS.aloadN Xz32.here hx rfl (hb hby own_d4_20) rfl rfl k) ?_
  show own_Go _ _ _ _ Tz32 (mkF m 21 #[oR fi, oI pn, oD V0, oS] [(.ref fi), (.ref el)])
  obtain ⟨Tz33, Xz33, ez33, stz33⟩ := getF Xz32 hx hZ hown (host := "") (Or.inl (hw _ (List.mem_of_getElem? (i := 50) rfl))) Via.refl ez32 F40 (g := (mkF m 21 #[oR fi, oI pn, oD V0, oS] [(.ref fi), (.ref el)])) rfl rfl (hb hby own_d4_21)
  refine own_go stz33 ?_
  show own_Go _ _ _ _ Tz33 (mkF m 24 #[oR fi, oI pn, oD V0, oS] [(.int 0), (.ref el)])
  refine own_go (fun _ k => XS.iloadN Xz33.here hx rfl (hb hby own_d4_24) rfl k) ?_
  show own_Go _ _ _ _ Tz33 (mkF m 25 #[oR fi, oI pn, oD V0, oS] [(.int pn), (.int 0), (.ref el)])
  subst hp
  show own_Go _ _ _ _ Tz33 (mkF m 25 #[oR fi, oI 0, oD V0, oS] [(.int 0), (.int 0), (.ref el)])
  obtain ⟨clz34, Arz34, qz34, Sz34, Mz34, HHz34, Gz34⟩ := V_el
  have hinz34 : ¬ ((0 : Int32) < 0 ∨ clz34.slots.size ≤ ((0 : Int32)).toNatClampNeg) := inb_of Sz34 ⟨(by decide), (by decide)⟩
  obtain ⟨Tz34, hz34, Xz34, ez34, Wz34, stz34⟩ := stI Xz33 hx hZ ez33 Arz34 (j := (0 : Int32)) hinz34 (g := (mkF m 25 #[oR fi, oI 0, oD V0, oS] [(.int 0), (.int 0), (.ref el)])) rfl rfl (hb hby own_d4_25)
  refine own_go stz34 ?_
  have V_el_ : Arv Z hz34 el kel .int 16 [(.int 0), (.int 0)] (.int 0) := Arv.set Arz34 qz34 Sz34 Mz34 HHz34 Gz34 rfl Wz34 0 rfl (Nat.le_of_ble_eq_true rfl)
  have Nz34 := Fr.snoc Xz34 N0 g_el
  have E_fi := E_fi.wr Wz34
  have F22 := F22.other Wz34 (own_o1 lt_fi_el)
  have F0 := F0.other Wz34 (own_o1 lt_fi_el)
  have F2 := F2.other Wz34 (own_o1 lt_fi_el)
  have F38 := F38.other Wz34 (own_o1 lt_fi_el)
  have F36 := F36.other Wz34 (own_o1 lt_fi_el)
  have F18 := F18.other Wz34 (own_o1 lt_fi_el)
  have F12 := F12.other Wz34 (own_o1 lt_fi_el)
  have F26 := F26.other Wz34 (own_o1 lt_fi_el)
  have F40 := F40.other Wz34 (own_o1 lt_fi_el)
  have F16 := F16.other Wz34 (own_o1 lt_fi_el)
  have F6 := F6.other Wz34 (own_o1 lt_fi_el)
  have F34 := F34.other Wz34 (own_o1 lt_fi_el)
  have F20 := F20.other Wz34 (own_o1 lt_fi_el)
  have F10 := F10.other Wz34 (own_o1 lt_fi_el)
  have F30 := F30.other Wz34 (own_o1 lt_fi_el)
  have F32 := F32.other Wz34 (own_o1 lt_fi_el)
  have V_ev := V_ev.other Wz34 (Nat.ne_of_gt lt_el_ev)
  have K := K.wr Wz34 (Or.inl (List.mem_of_getElem? (i := 1) rfl))
  have V_el := V_el_
  show own_Go _ _ _ _ Tz34 (mkF m 26 #[oR fi, oI 0, oD V0, oS] [])
  refine own_go (fun _ k => XS.aloadN Xz34.here hx rfl (hb hby own_d4_26) rfl rfl k) ?_
  show own_Go _ _ _ _ Tz34 (mkF m 27 #[oR fi, oI 0, oD V0, oS] [(.ref fi)])
  obtain ⟨Tz35, Xz35, ez35, stz35⟩ := getF Xz34 hx hZ hown (host := "") (Or.inl (hw _ (List.mem_of_getElem? (i := 33) rfl))) Via.refl ez34 F2 (g := (mkF m 27 #[oR fi, oI 0, oD V0, oS] [(.ref fi)])) rfl rfl (hb hby own_d4_27)
  refine own_go stz35 ?_
  show own_Go _ _ _ _ Tz35 (mkF m 30 #[oR fi, oI 0, oD V0, oS] [(.ref ev)])
  refine own_go (fun _ k => XS.aloadN Xz35.here hx rfl (hb hby own_d4_30) rfl rfl k) ?_
  show own_Go _ _ _ _ Tz35 (mkF m 31 #[oR fi, oI 0, oD V0, oS] [(.ref fi), (.ref ev)])
  obtain ⟨Tz36, Xz36, ez36, stz36⟩ := getF Xz35 hx hZ hown (host := "") (Or.inl (hw _ (List.mem_of_getElem? (i := 50) rfl))) Via.refl ez35 F40 (g := (mkF m 31 #[oR fi, oI 0, oD V0, oS] [(.ref fi), (.ref ev)])) rfl rfl (hb hby own_d4_31)
  refine own_go stz36 ?_
  show own_Go _ _ _ _ Tz36 (mkF m 34 #[oR fi, oI 0, oD V0, oS] [(.int 0), (.ref ev)])
  refine own_go (fun _ k => XS.dloadN Xz36.here hx rfl (hb hby own_d4_34) rfl k) ?_
  show own_Go _ _ _ _ Tz36 (mkF m 35 #[oR fi, oI 0, oD V0, oS] [(.double V0), (.int 0), (.ref ev)])
  obtain ⟨clz37, Arz37, qz37, Sz37, Mz37, HHz37, Gz37⟩ := V_ev
  have hinz37 : ¬ ((0 : Int32) < 0 ∨ clz37.slots.size ≤ ((0 : Int32)).toNatClampNeg) := inb_of Sz37 ⟨(by decide), (by decide)⟩
  obtain ⟨Tz37, hz37, Xz37, ez37, Wz37, stz37⟩ := stD Xz36 hx hZ ez36 Arz37 (j := (0 : Int32)) hinz37 (g := (mkF m 35 #[oR fi, oI 0, oD V0, oS] [(.double V0), (.int 0), (.ref ev)])) rfl rfl (hb hby own_d4_35)
  refine own_go stz37 ?_
  have V_ev_ : Arv Z hz37 ev kev .double (16 : Int32) [(.double V0), (.double 0)] (.double 0) := Arv.set Arz37 qz37 Sz37 Mz37 HHz37 Gz37 rfl Wz37 0 rfl (Nat.le_of_ble_eq_true rfl)
  have Nz37 := Fr.snoc Xz37 Nz34 g_ev
  have E_fi := E_fi.wr Wz37
  have F22 := F22.other Wz37 (own_o1 lt_fi_ev)
  have F0 := F0.other Wz37 (own_o1 lt_fi_ev)
  have F2 := F2.other Wz37 (own_o1 lt_fi_ev)
  have F38 := F38.other Wz37 (own_o1 lt_fi_ev)
  have F36 := F36.other Wz37 (own_o1 lt_fi_ev)
  have F18 := F18.other Wz37 (own_o1 lt_fi_ev)
  have F12 := F12.other Wz37 (own_o1 lt_fi_ev)
  have F26 := F26.other Wz37 (own_o1 lt_fi_ev)
  have F40 := F40.other Wz37 (own_o1 lt_fi_ev)
  have F16 := F16.other Wz37 (own_o1 lt_fi_ev)
  have F6 := F6.other Wz37 (own_o1 lt_fi_ev)
  have F34 := F34.other Wz37 (own_o1 lt_fi_ev)
  have F20 := F20.other Wz37 (own_o1 lt_fi_ev)
  have F10 := F10.other Wz37 (own_o1 lt_fi_ev)
  have F30 := F30.other Wz37 (own_o1 lt_fi_ev)
  have F32 := F32.other Wz37 (own_o1 lt_fi_ev)
  have K := K.wr Wz37 (Or.inl (List.mem_of_getElem? (i := 2) rfl))
  have V_el := V_el.other Wz37 (Nat.ne_of_lt lt_el_ev)
  have V_ev := V_ev_
  show own_Go _ _ _ _ Tz37 (mkF m 36 #[oR fi, oI 0, oD V0, oS] [])
  refine own_go (fun _ k => XS.aloadN Xz37.here hx rfl (hb hby own_d4_36) rfl rfl k) ?_
  show own_Go _ _ _ _ Tz37 (mkF m 37 #[oR fi, oI 0, oD V0, oS] [(.ref fi)])
  refine own_go (fun _ k => XS.dup Xz37.here hx rfl (hb hby own_d4_37) rfl rfl k) ?_
  show own_Go _ _ _ _ Tz37 (mkF m 38 #[oR fi, oI 0, oD V0, oS] [(.ref fi), (.ref fi)])
  obtain ⟨Tz38, Xz38, ez38, stz38⟩ := getF Xz37 hx hZ hown (host := "") (Or.inl (hw _ (List.mem_of_getElem? (i := 50) rfl))) Via.refl ez37 F40 (g := (mkF m 38 #[oR fi, oI 0, oD V0, oS] [(.ref fi), (.ref fi)])) rfl rfl (hb hby own_d4_38)
  refine own_go stz38 ?_
  show own_Go _ _ _ _ Tz38 (mkF m 41 #[oR fi, oI 0, oD V0, oS] [(.int 0), (.ref fi)])
  refine own_go (fun _ k => XS.iconst Xz38.here hx rfl (hb hby own_d4_41) k) ?_
  show own_Go _ _ _ _ Tz38 (mkF m 42 #[oR fi, oI 0, oD V0, oS] [(.int 1), (.int 0), (.ref fi)])
  refine own_go (fun _ k => XS.iadd Xz38.here hx rfl (hb hby own_d4_42) rfl k) ?_
  show own_Go _ _ _ _ Tz38 (mkF m 43 #[oR fi, oI 0, oD V0, oS] [(.int ((0 : Int32) + (1 : Int32))), (.ref fi)])
  obtain ⟨Tz39, hz39, Xz39, ez39, Wz39, stz39⟩ := putF Xz38 hx hZ hown (host := "") (Or.inl (hw _ (List.mem_of_getElem? (i := 50) rfl))) Via.refl ez38 F40 E_fi (Or.inl (hw _ (List.mem_of_getElem? (i := 51) rfl))) (hw _ (List.mem_of_getElem? (i := 23) rfl)) (ty := .int) (by decide) rfl rfl (g := (mkF m 43 #[oR fi, oI 0, oD V0, oS] [(.int ((0 : Int32) + (1 : Int32))), (.ref fi)])) rfl rfl (hb hby own_d4_43)
  refine own_go stz39 ?_
  have Nz39 := Fr.snoc Xz39 Nz37 g_fi
  have F41 := F40.same Wz39
  have E_fi := E_fi.wr Wz39
  have F22 := F22.other Wz39 (own_sl hw 30 51 (Or.inl rfl) (Or.inl rfl) (by decide))
  have F0 := F0.other Wz39 (own_sl hw 32 51 (Or.inl rfl) (Or.inl rfl) (by decide))
  have F2 := F2.other Wz39 (own_sl hw 34 51 (Or.inl rfl) (Or.inl rfl) (by decide))
  have F38 := F38.other Wz39 (own_sl hw 36 51 (Or.inl rfl) (Or.inl rfl) (by decide))
  have F36 := F36.other Wz39 (own_sl hw 38 51 (Or.inl rfl) (Or.inl rfl) (by decide))
  have F18 := F18.other Wz39 (own_sl hw 40 51 (Or.inr rfl) (Or.inl rfl) (by decide))
  have F12 := F12.other Wz39 (own_sl hw 42 51 (Or.inr rfl) (Or.inl rfl) (by decide))
  have F26 := F26.other Wz39 (own_sl hw 44 51 (Or.inr rfl) (Or.inl rfl) (by decide))
  have F16 := F16.other Wz39 (own_sl hw 58 51 (Or.inl rfl) (Or.inl rfl) (by decide))
  have F6 := F6.other Wz39 (own_sl hw 60 51 (Or.inl rfl) (Or.inl rfl) (by decide))
  have F34 := F34.other Wz39 (own_sl hw 62 51 (Or.inl rfl) (Or.inl rfl) (by decide))
  have F20 := F20.other Wz39 (own_sl hw 73 51 (Or.inl rfl) (Or.inl rfl) (by decide))
  have F10 := F10.other Wz39 (own_sl hw 79 51 (Or.inl rfl) (Or.inl rfl) (by decide))
  have F30 := F30.other Wz39 (own_sl hw 69 51 (Or.inl rfl) (Or.inl rfl) (by decide))
  have F32 := F32.other Wz39 (own_sl hw 71 51 (Or.inl rfl) (Or.inl rfl) (by decide))
  have K := K.wr Wz39 (Or.inl (List.mem_of_getElem? (i := 0) rfl))
  have V_el := V_el.other Wz39 (Nat.ne_of_gt lt_fi_el)
  have V_ev := V_ev.other Wz39 (Nat.ne_of_gt lt_fi_ev)
  have F40 := F41
  show own_Go _ _ _ _ Tz39 (mkF m 46 #[oR fi, oI 0, oD V0, oS] [])
  exact own_end Xz39 hlk (v := none) (fun _ => rfl) (fun fs hr => Xz39.returnOut hx hret (hb hby own_d4_46) hr) (by rw [ez39]; exact ⟨rfl, Nz39, K, E_fi, F22, F0, F2, F38, F36, F18, F12, F26, F40, F16, F6, F34, F20, F10, F30, F32, V_el, V_ev⟩) (by decide) (by decide)
theorem own_efjoin1 (m : MethodId) (fi : Addr) (pn : Int32) (V1 : UInt64) : entryFrame m #[(.ref fi), (.int pn), (.double V1)] 4 = mkF m 0 #[oR fi, oI pn, oD V1, oS] [] := by first | (simp [entryFrame, mkF, argsToLocals, Value.category]; done) | rfl
def own_Qjoin1 (Z : State) (le : Addr) (ex : Addr) (jo : Addr) (go : Addr) (pe : Addr) (li : Addr) (fi : Addr) (in_ : Addr) (ou : Addr) (fl : Addr) (el : Addr) (ev : Addr) (st : Addr) (se : Addr) (kex : ClassId) (kjo : ClassId) (kgo : ClassId) (kpe : ClassId) (kli : ClassId) (kin_ : ClassId) (kou : ClassId) (kfl : ClassId) (kel : ClassId) (kev : ClassId) (kst : ClassId) (kse : ClassId) (V0 : UInt64) (V1 : UInt64) (h0 : Heap) (n0 : Nat) (v : Option Value) (h : Heap) (L : List Loc) : Prop := v = none ∧ Fr n0 L ∧ Keep h0 h [fi, el, ev] ∧ Exa Z h fi "com/example/spillback/spillback/Fifo" ∧ Fld Z h fi "com/example/spillback/spillback/Fifo" "listed" "[I" (.ref fl) ∧ Fld Z h fi "com/example/spillback/spillback/Fifo" "entryLegs" "[I" (.ref el) ∧ Fld Z h fi "com/example/spillback/spillback/Fifo" "entryVehicles" "[D" (.ref ev) ∧ Fld Z h fi "com/example/spillback/spillback/Fifo" "steps" "[I" (.ref st) ∧ Fld Z h fi "com/example/spillback/spillback/Fifo" "stepEnds" "[I" (.ref se) ∧ Fld Z h fi "com/example/spillback/spillback/Fifo" "legs" "Lcom/example/spillback/spillback/Fifo$Legs;" (.ref le) ∧ Fld Z h fi "com/example/spillback/spillback/Fifo" "in" "[D" (.ref in_) ∧ Fld Z h fi "com/example/spillback/spillback/Fifo" "out" "[D" (.ref ou) ∧ Fld Z h fi "com/example/spillback/spillback/Fifo" "tail" "I" (.int 2) ∧ Fld Z h fi "com/example/spillback/spillback/Fifo" "joiningStart" "I" (.int 0) ∧ Fld Z h fi "com/example/spillback/spillback/Fifo" "firstStep" "I" (.int 0) ∧ Fld Z h fi "com/example/spillback/spillback/Fifo" "stepCount" "I" (.int 0) ∧ Fld Z h fi "com/example/spillback/spillback/Fifo" "listedCount" "I" (.int 0) ∧ Fld Z h fi "com/example/spillback/spillback/Fifo" "head" "I" (.int 0) ∧ Fld Z h fi "com/example/spillback/spillback/Fifo" "sliceTotal" "D" (.double 0) ∧ Fld Z h fi "com/example/spillback/spillback/Fifo" "sliceVehicles" "D" (.double 0) ∧ Arv Z h el kel .int 16 [(.int 0), (.int 1)] (.int 0) ∧ Arv Z h ev kev .double (16 : Int32) [(.double V0), (.double V1)] (.double 0)
set_option maxRecDepth 65536 in
set_option maxHeartbeats 40000000 in
theorem own_rmjoin1 (l : Launch) (Z : State) (a0 : Array Value) (hw : ∀ d ∈ tables_1, d.before a0 Z = true) (ws : List Jvm.Cond) (fi : Addr) (pn : Int32) (V1 : UInt64) (h0 : Heap) (n0 : Nat) (le ex jo go pe li in_ ou fl el ev st se : Addr) (kex kjo kgo kpe kli kin_ kou kfl kel kev kst kse : ClassId) (hc0 : n0 ≤ le) (hc1 : @LT.lt Nat _ le ex) (hc2 : @LT.lt Nat _ ex jo) (hc3 : @LT.lt Nat _ jo go) (hc4 : @LT.lt Nat _ go pe) (hc5 : @LT.lt Nat _ pe li) (hc6 : @LT.lt Nat _ li fi) (hc7 : @LT.lt Nat _ fi in_) (hc8 : @LT.lt Nat _ in_ ou) (hc9 : @LT.lt Nat _ ou fl) (hc10 : @LT.lt Nat _ fl el) (hc11 : @LT.lt Nat _ el ev) (hc12 : @LT.lt Nat _ ev st) (hc13 : @LT.lt Nat _ st se) (hp : pn = (1 : Int32)) (V0 : UInt64) (E_fi : Exa Z h0 fi "com/example/spillback/spillback/Fifo") (F22 : Fld Z h0 fi "com/example/spillback/spillback/Fifo" "listed" "[I" (.ref fl)) (F0 : Fld Z h0 fi "com/example/spillback/spillback/Fifo" "entryLegs" "[I" (.ref el)) (F2 : Fld Z h0 fi "com/example/spillback/spillback/Fifo" "entryVehicles" "[D" (.ref ev)) (F38 : Fld Z h0 fi "com/example/spillback/spillback/Fifo" "steps" "[I" (.ref st)) (F36 : Fld Z h0 fi "com/example/spillback/spillback/Fifo" "stepEnds" "[I" (.ref se)) (F18 : Fld Z h0 fi "com/example/spillback/spillback/Fifo" "legs" "Lcom/example/spillback/spillback/Fifo$Legs;" (.ref le)) (F12 : Fld Z h0 fi "com/example/spillback/spillback/Fifo" "in" "[D" (.ref in_)) (F26 : Fld Z h0 fi "com/example/spillback/spillback/Fifo" "out" "[D" (.ref ou)) (F40 : Fld Z h0 fi "com/example/spillback/spillback/Fifo" "tail" "I" (.int 1)) (F16 : Fld Z h0 fi "com/example/spillback/spillback/Fifo" "joiningStart" "I" (.int 0)) (F6 : Fld Z h0 fi "com/example/spillback/spillback/Fifo" "firstStep" "I" (.int 0)) (F34 : Fld Z h0 fi "com/example/spillback/spillback/Fifo" "stepCount" "I" (.int 0)) (F20 : Fld Z h0 fi "com/example/spillback/spillback/Fifo" "listedCount" "I" (.int 0)) (F10 : Fld Z h0 fi "com/example/spillback/spillback/Fifo" "head" "I" (.int 0)) (F30 : Fld Z h0 fi "com/example/spillback/spillback/Fifo" "sliceTotal" "D" (.double 0)) (F32 : Fld Z h0 fi "com/example/spillback/spillback/Fifo" "sliceVehicles" "D" (.double 0)) (V_el : Arv Z h0 el kel .int 16 [(.int 0), (.int 0)] (.int 0)) (V_ev : Arv Z h0 ev kev .double (16 : Int32) [(.double V0), (.double 0)] (.double 0)) :
    own_Met l Z (⟨"com/example/spillback/spillback/Fifo", "join", "(ID)V"⟩ : MethodName) prog_12_method_2_code 4 none ws ({ frames := 0, cells := 0, slots := 0, locals := 0 } : Room) #[(.ref fi), (.int pn), (.double V1)] h0 (own_Qjoin1 Z le ex jo go pe li fi in_ ou fl el ev st se kex kjo kgo kpe kli kin_ kou kfl kel kev kst kse V0 V1 h0 n0) := by
  refine own_met (plainFor_of_name own_pn1) ?_
  intro p e s m below meth c s₁ X0 hx hZ hby hml hown hnm hret hlk e0
  have N0 := Fr.nil n0
  refine own_go (fun t k => castTop (own_efjoin1 m fi pn V1) k) ?_
  have g_el : @LE.le Nat _ n0 el := by omega
  have lt_fi_el : @LT.lt Nat _ fi el := by omega
  have lt_el_ev : @LT.lt Nat _ el ev := by omega
  have g_ev : @LE.le Nat _ n0 ev := by omega
  have lt_fi_ev : @LT.lt Nat _ fi ev := by omega
  have g_fi : @LE.le Nat _ n0 fi := by omega
  have K := Keep.refl h0 [fi, el, ev]
  show own_Go _ _ _ _ s₁ (mkF m 0 #[oR fi, oI pn, oD V1, oS] [])
  refine own_go (fun _ k => XS.aloadN X0.here hx rfl (hb hby own_d4_0) rfl rfl k) ?_
  show own_Go _ _ _ _ s₁ (mkF m 1 #[oR fi, oI pn, oD V1, oS] [(.ref fi)])
  obtain ⟨Tz40, Xz40, ez40, stz40⟩ := getF X0 hx hZ hown (host := "") (Or.inl (hw _ (List.mem_of_getElem? (i := 50) rfl))) Via.refl e0 F40 (g := (mkF m 1 #[oR fi, oI pn, oD V1, oS] [(.ref fi)])) rfl rfl (hb hby own_d4_1)
  refine own_go stz40 ?_
  show own_Go _ _ _ _ Tz40 (mkF m 4 #[oR fi, oI pn, oD V1, oS] [(.int 1)])
  refine own_go (fun _ k => XS.aloadN Xz40.here hx rfl (hb hby own_d4_4) rfl rfl k) ?_
  show own_Go _ _ _ _ Tz40 (mkF m 5 #[oR fi, oI pn, oD V1, oS] [(.ref fi), (.int 1)])
  obtain ⟨Tz41, Xz41, ez41, stz41⟩ := getF Xz40 hx hZ hown (host := "") (Or.inl (hw _ (List.mem_of_getElem? (i := 31) rfl))) Via.refl ez40 F0 (g := (mkF m 5 #[oR fi, oI pn, oD V1, oS] [(.ref fi), (.int 1)])) rfl rfl (hb hby own_d4_5)
  refine own_go stz41 ?_
  show own_Go _ _ _ _ Tz41 (mkF m 8 #[oR fi, oI pn, oD V1, oS] [(.ref el), (.int 1)])
  obtain ⟨clz42, Arz42, qz42, Sz42, Mz42, HHz42, Gz42⟩ := id V_el
  refine own_go (fun _ k => Xz41.arraylength hx (by rw [ez41]; exact Arz42.1) (State.isArrayOf_alike hZ.alike Arz42.2.1) (g := (mkF m 8 #[oR fi, oI pn, oD V1, oS] [(.ref el), (.int 1)])) rfl rfl (hb hby own_d4_8) _ k) ?_
  rw [len_of Sz42 Mz42]
  show own_Go _ _ _ _ Tz41 (mkF m 9 #[oR fi, oI pn, oD V1, oS] [(.int 16), (.int 1)])
  refine own_go (fun _ k => XS.icmpYes Xz41.here hx rfl (pc0 := 9) (pc' := 16) rfl (hb hby own_d4_9) rfl (feq (by decide : ¬ ((1 : Int32) = (16 : Int32)))).2 (by decide) (by decide) k) ?_
  show own_Go _ _ _ _ Tz41 (mkF m 16 #[oR fi, oI pn, oD V1, oS] [])
  refine own_go (fun _ k => XS.aloadN Xz41.here hx rfl (hb hby own_d4_16) rfl rfl k) ?_
  show own_Go _ _ _ _ Tz41 (mkF m 17 #[oR fi, oI pn, oD V1, oS] [(.ref fi)])
  obtain ⟨Tz43, Xz43, ez43, stz43⟩ := getF Xz41 hx hZ hown (host := "") (Or.inl (hw _ (List.mem_of_getElem? (i := 31) rfl))) Via.refl ez41 F0 (g := (mkF m 17 #[oR fi, oI pn, oD V1, oS] [(.ref fi)])) rfl rfl (hb hby own_d4_17)
  refine own_go stz43 ?_
  show own_Go _ _ _ _ Tz43 (mkF m 20 #[oR fi, oI pn, oD V1, oS] [(.ref el)])
  refine own_go (fun _ k => XS.aloadN Xz43.here hx rfl (hb hby own_d4_20) rfl rfl k) ?_
  show own_Go _ _ _ _ Tz43 (mkF m 21 #[oR fi, oI pn, oD V1, oS] [(.ref fi), (.ref el)])
  obtain ⟨Tz44, Xz44, ez44, stz44⟩ := getF Xz43 hx hZ hown (host := "") (Or.inl (hw _ (List.mem_of_getElem? (i := 50) rfl))) Via.refl ez43 F40 (g := (mkF m 21 #[oR fi, oI pn, oD V1, oS] [(.ref fi), (.ref el)])) rfl rfl (hb hby own_d4_21)
  refine own_go stz44 ?_
  show own_Go _ _ _ _ Tz44 (mkF m 24 #[oR fi, oI pn, oD V1, oS] [(.int 1), (.ref el)])
  refine own_go (fun _ k => XS.iloadN Xz44.here hx rfl (hb hby own_d4_24) rfl k) ?_
  show own_Go _ _ _ _ Tz44 (mkF m 25 #[oR fi, oI pn, oD V1, oS] [(.int pn), (.int 1), (.ref el)])
  subst hp
  show own_Go _ _ _ _ Tz44 (mkF m 25 #[oR fi, oI 1, oD V1, oS] [(.int 1), (.int 1), (.ref el)])
  obtain ⟨clz45, Arz45, qz45, Sz45, Mz45, HHz45, Gz45⟩ := V_el
  have hinz45 : ¬ ((1 : Int32) < 0 ∨ clz45.slots.size ≤ ((1 : Int32)).toNatClampNeg) := inb_of Sz45 ⟨(by decide), (by decide)⟩
  obtain ⟨Tz45, hz45, Xz45, ez45, Wz45, stz45⟩ := stI Xz44 hx hZ ez44 Arz45 (j := (1 : Int32)) hinz45 (g := (mkF m 25 #[oR fi, oI 1, oD V1, oS] [(.int 1), (.int 1), (.ref el)])) rfl rfl (hb hby own_d4_25)
  refine own_go stz45 ?_
  have V_el_ : Arv Z hz45 el kel .int 16 [(.int 0), (.int 1)] (.int 0) := Arv.set Arz45 qz45 Sz45 Mz45 HHz45 Gz45 rfl Wz45 1 rfl (Nat.le_of_ble_eq_true rfl)
  have Nz45 := Fr.snoc Xz45 N0 g_el
  have E_fi := E_fi.wr Wz45
  have F22 := F22.other Wz45 (own_o1 lt_fi_el)
  have F0 := F0.other Wz45 (own_o1 lt_fi_el)
  have F2 := F2.other Wz45 (own_o1 lt_fi_el)
  have F38 := F38.other Wz45 (own_o1 lt_fi_el)
  have F36 := F36.other Wz45 (own_o1 lt_fi_el)
  have F18 := F18.other Wz45 (own_o1 lt_fi_el)
  have F12 := F12.other Wz45 (own_o1 lt_fi_el)
  have F26 := F26.other Wz45 (own_o1 lt_fi_el)
  have F40 := F40.other Wz45 (own_o1 lt_fi_el)
  have F16 := F16.other Wz45 (own_o1 lt_fi_el)
  have F6 := F6.other Wz45 (own_o1 lt_fi_el)
  have F34 := F34.other Wz45 (own_o1 lt_fi_el)
  have F20 := F20.other Wz45 (own_o1 lt_fi_el)
  have F10 := F10.other Wz45 (own_o1 lt_fi_el)
  have F30 := F30.other Wz45 (own_o1 lt_fi_el)
  have F32 := F32.other Wz45 (own_o1 lt_fi_el)
  have V_ev := V_ev.other Wz45 (Nat.ne_of_gt lt_el_ev)
  have K := K.wr Wz45 (Or.inl (List.mem_of_getElem? (i := 1) rfl))
  have V_el := V_el_
  show own_Go _ _ _ _ Tz45 (mkF m 26 #[oR fi, oI 1, oD V1, oS] [])
  refine own_go (fun _ k => XS.aloadN Xz45.here hx rfl (hb hby own_d4_26) rfl rfl k) ?_
  show own_Go _ _ _ _ Tz45 (mkF m 27 #[oR fi, oI 1, oD V1, oS] [(.ref fi)])
  obtain ⟨Tz46, Xz46, ez46, stz46⟩ := getF Xz45 hx hZ hown (host := "") (Or.inl (hw _ (List.mem_of_getElem? (i := 33) rfl))) Via.refl ez45 F2 (g := (mkF m 27 #[oR fi, oI 1, oD V1, oS] [(.ref fi)])) rfl rfl (hb hby own_d4_27)
  refine own_go stz46 ?_
  show own_Go _ _ _ _ Tz46 (mkF m 30 #[oR fi, oI 1, oD V1, oS] [(.ref ev)])
  refine own_go (fun _ k => XS.aloadN Xz46.here hx rfl (hb hby own_d4_30) rfl rfl k) ?_
  show own_Go _ _ _ _ Tz46 (mkF m 31 #[oR fi, oI 1, oD V1, oS] [(.ref fi), (.ref ev)])
  obtain ⟨Tz47, Xz47, ez47, stz47⟩ := getF Xz46 hx hZ hown (host := "") (Or.inl (hw _ (List.mem_of_getElem? (i := 50) rfl))) Via.refl ez46 F40 (g := (mkF m 31 #[oR fi, oI 1, oD V1, oS] [(.ref fi), (.ref ev)])) rfl rfl (hb hby own_d4_31)
  refine own_go stz47 ?_
  show own_Go _ _ _ _ Tz47 (mkF m 34 #[oR fi, oI 1, oD V1, oS] [(.int 1), (.ref ev)])
  refine own_go (fun _ k => XS.dloadN Xz47.here hx rfl (hb hby own_d4_34) rfl k) ?_
  show own_Go _ _ _ _ Tz47 (mkF m 35 #[oR fi, oI 1, oD V1, oS] [(.double V1), (.int 1), (.ref ev)])
  obtain ⟨clz48, Arz48, qz48, Sz48, Mz48, HHz48, Gz48⟩ := V_ev
  have hinz48 : ¬ ((1 : Int32) < 0 ∨ clz48.slots.size ≤ ((1 : Int32)).toNatClampNeg) := inb_of Sz48 ⟨(by decide), (by decide)⟩
  obtain ⟨Tz48, hz48, Xz48, ez48, Wz48, stz48⟩ := stD Xz47 hx hZ ez47 Arz48 (j := (1 : Int32)) hinz48 (g := (mkF m 35 #[oR fi, oI 1, oD V1, oS] [(.double V1), (.int 1), (.ref ev)])) rfl rfl (hb hby own_d4_35)
  refine own_go stz48 ?_
  have V_ev_ : Arv Z hz48 ev kev .double (16 : Int32) [(.double V0), (.double V1)] (.double 0) := Arv.set Arz48 qz48 Sz48 Mz48 HHz48 Gz48 rfl Wz48 1 rfl (Nat.le_of_ble_eq_true rfl)
  have Nz48 := Fr.snoc Xz48 Nz45 g_ev
  have E_fi := E_fi.wr Wz48
  have F22 := F22.other Wz48 (own_o1 lt_fi_ev)
  have F0 := F0.other Wz48 (own_o1 lt_fi_ev)
  have F2 := F2.other Wz48 (own_o1 lt_fi_ev)
  have F38 := F38.other Wz48 (own_o1 lt_fi_ev)
  have F36 := F36.other Wz48 (own_o1 lt_fi_ev)
  have F18 := F18.other Wz48 (own_o1 lt_fi_ev)
  have F12 := F12.other Wz48 (own_o1 lt_fi_ev)
  have F26 := F26.other Wz48 (own_o1 lt_fi_ev)
  have F40 := F40.other Wz48 (own_o1 lt_fi_ev)
  have F16 := F16.other Wz48 (own_o1 lt_fi_ev)
  have F6 := F6.other Wz48 (own_o1 lt_fi_ev)
  have F34 := F34.other Wz48 (own_o1 lt_fi_ev)
  have F20 := F20.other Wz48 (own_o1 lt_fi_ev)
  have F10 := F10.other Wz48 (own_o1 lt_fi_ev)
  have F30 := F30.other Wz48 (own_o1 lt_fi_ev)
  have F32 := F32.other Wz48 (own_o1 lt_fi_ev)
  have K := K.wr Wz48 (Or.inl (List.mem_of_getElem? (i := 2) rfl))
  have V_el := V_el.other Wz48 (Nat.ne_of_lt lt_el_ev)
  have V_ev := V_ev_
  show own_Go _ _ _ _ Tz48 (mkF m 36 #[oR fi, oI 1, oD V1, oS] [])
  refine own_go (fun _ k => XS.aloadN Xz48.here hx rfl (hb hby own_d4_36) rfl rfl k) ?_
  show own_Go _ _ _ _ Tz48 (mkF m 37 #[oR fi, oI 1, oD V1, oS] [(.ref fi)])
  refine own_go (fun _ k => XS.dup Xz48.here hx rfl (hb hby own_d4_37) rfl rfl k) ?_
  show own_Go _ _ _ _ Tz48 (mkF m 38 #[oR fi, oI 1, oD V1, oS] [(.ref fi), (.ref fi)])
  obtain ⟨Tz49, Xz49, ez49, stz49⟩ := getF Xz48 hx hZ hown (host := "") (Or.inl (hw _ (List.mem_of_getElem? (i := 50) rfl))) Via.refl ez48 F40 (g := (mkF m 38 #[oR fi, oI 1, oD V1, oS] [(.ref fi), (.ref fi)])) rfl rfl (hb hby own_d4_38)
  refine own_go stz49 ?_
  show own_Go _ _ _ _ Tz49 (mkF m 41 #[oR fi, oI 1, oD V1, oS] [(.int 1), (.ref fi)])
  refine own_go (fun _ k => XS.iconst Xz49.here hx rfl (hb hby own_d4_41) k) ?_
  show own_Go _ _ _ _ Tz49 (mkF m 42 #[oR fi, oI 1, oD V1, oS] [(.int 1), (.int 1), (.ref fi)])
  refine own_go (fun _ k => XS.iadd Xz49.here hx rfl (hb hby own_d4_42) rfl k) ?_
  show own_Go _ _ _ _ Tz49 (mkF m 43 #[oR fi, oI 1, oD V1, oS] [(.int ((1 : Int32) + (1 : Int32))), (.ref fi)])
  obtain ⟨Tz50, hz50, Xz50, ez50, Wz50, stz50⟩ := putF Xz49 hx hZ hown (host := "") (Or.inl (hw _ (List.mem_of_getElem? (i := 50) rfl))) Via.refl ez49 F40 E_fi (Or.inl (hw _ (List.mem_of_getElem? (i := 51) rfl))) (hw _ (List.mem_of_getElem? (i := 23) rfl)) (ty := .int) (by decide) rfl rfl (g := (mkF m 43 #[oR fi, oI 1, oD V1, oS] [(.int ((1 : Int32) + (1 : Int32))), (.ref fi)])) rfl rfl (hb hby own_d4_43)
  refine own_go stz50 ?_
  have Nz50 := Fr.snoc Xz50 Nz48 g_fi
  have F41 := F40.same Wz50
  have E_fi := E_fi.wr Wz50
  have F22 := F22.other Wz50 (own_sl hw 30 51 (Or.inl rfl) (Or.inl rfl) (by decide))
  have F0 := F0.other Wz50 (own_sl hw 32 51 (Or.inl rfl) (Or.inl rfl) (by decide))
  have F2 := F2.other Wz50 (own_sl hw 34 51 (Or.inl rfl) (Or.inl rfl) (by decide))
  have F38 := F38.other Wz50 (own_sl hw 36 51 (Or.inl rfl) (Or.inl rfl) (by decide))
  have F36 := F36.other Wz50 (own_sl hw 38 51 (Or.inl rfl) (Or.inl rfl) (by decide))
  have F18 := F18.other Wz50 (own_sl hw 40 51 (Or.inr rfl) (Or.inl rfl) (by decide))
  have F12 := F12.other Wz50 (own_sl hw 42 51 (Or.inr rfl) (Or.inl rfl) (by decide))
  have F26 := F26.other Wz50 (own_sl hw 44 51 (Or.inr rfl) (Or.inl rfl) (by decide))
  have F16 := F16.other Wz50 (own_sl hw 58 51 (Or.inl rfl) (Or.inl rfl) (by decide))
  have F6 := F6.other Wz50 (own_sl hw 60 51 (Or.inl rfl) (Or.inl rfl) (by decide))
  have F34 := F34.other Wz50 (own_sl hw 62 51 (Or.inl rfl) (Or.inl rfl) (by decide))
  have F20 := F20.other Wz50 (own_sl hw 73 51 (Or.inl rfl) (Or.inl rfl) (by decide))
  have F10 := F10.other Wz50 (own_sl hw 79 51 (Or.inl rfl) (Or.inl rfl) (by decide))
  have F30 := F30.other Wz50 (own_sl hw 69 51 (Or.inl rfl) (Or.inl rfl) (by decide))
  have F32 := F32.other Wz50 (own_sl hw 71 51 (Or.inl rfl) (Or.inl rfl) (by decide))
  have K := K.wr Wz50 (Or.inl (List.mem_of_getElem? (i := 0) rfl))
  have V_el := V_el.other Wz50 (Nat.ne_of_gt lt_fi_el)
  have V_ev := V_ev.other Wz50 (Nat.ne_of_gt lt_fi_ev)
  have F40 := F41
  show own_Go _ _ _ _ Tz50 (mkF m 46 #[oR fi, oI 1, oD V1, oS] [])
  exact own_end Xz50 hlk (v := none) (fun _ => rfl) (fun fs hr => Xz50.returnOut hx hret (hb hby own_d4_46) hr) (by rw [ez50]; exact ⟨rfl, Nz50, K, E_fi, F22, F0, F2, F38, F36, F18, F12, F26, F40, F16, F6, F34, F20, F10, F30, F32, V_el, V_ev⟩) (by decide) (by decide)
theorem own_efclose (m : MethodId) (fi : Addr) (pn : Int32) : entryFrame m #[(.ref fi), (.int pn)] 5 = mkF m 0 #[oR fi, oI pn, oU, oU, oU] [] := by first | (simp [entryFrame, mkF, argsToLocals, Value.category]; done) | rfl
theorem own_d5_0 : decode prog_12_method_3_code 0 = .ok (.dconst 0, 1) := by decide +kernel
theorem own_d5_1 : decode prog_12_method_3_code 1 = .ok (.dstore_n 2, 1) := by decide +kernel
theorem own_d5_2 : decode prog_12_method_3_code 2 = .ok (.aload_n 0, 1) := by decide +kernel
theorem own_d5_3 : decode prog_12_method_3_code 3 = .ok (.getfield 43, 3) := by decide +kernel
theorem own_d5_6 : decode prog_12_method_3_code 6 = .ok (.istore 4, 2) := by decide +kernel
theorem own_d5_8 : decode prog_12_method_3_code 8 = .ok (.iload 4, 2) := by decide +kernel
theorem own_d5_10 : decode prog_12_method_3_code 10 = .ok (.aload_n 0, 1) := by decide +kernel
theorem own_d5_11 : decode prog_12_method_3_code 11 = .ok (.getfield 36, 3) := by decide +kernel
theorem own_d5_14 : decode prog_12_method_3_code 14 = .ok (.if_icmp .ge 19, 3) := by decide +kernel
theorem own_d5_17 : decode prog_12_method_3_code 17 = .ok (.dload_n 2, 1) := by decide +kernel
theorem own_d5_18 : decode prog_12_method_3_code 18 = .ok (.aload_n 0, 1) := by decide +kernel
theorem own_d5_19 : decode prog_12_method_3_code 19 = .ok (.getfield 16, 3) := by decide +kernel
theorem own_d5_22 : decode prog_12_method_3_code 22 = .ok (.iload 4, 2) := by decide +kernel
theorem own_d5_24 : decode prog_12_method_3_code 24 = .ok (.daload, 1) := by decide +kernel
theorem own_d5_25 : decode prog_12_method_3_code 25 = .ok (.dadd, 1) := by decide +kernel
theorem own_d5_26 : decode prog_12_method_3_code 26 = .ok (.dstore_n 2, 1) := by decide +kernel
theorem own_d5_27 : decode prog_12_method_3_code 27 = .ok (.iinc 4 1, 3) := by decide +kernel
theorem own_d5_30 : decode prog_12_method_3_code 30 = .ok (.goto (-22), 3) := by decide +kernel
theorem own_d5_33 : decode prog_12_method_3_code 33 = .ok (.aload_n 0, 1) := by decide +kernel
theorem own_d5_34 : decode prog_12_method_3_code 34 = .ok (.getfield 30, 3) := by decide +kernel
theorem own_d5_37 : decode prog_12_method_3_code 37 = .ok (.iload_n 1, 1) := by decide +kernel
theorem own_d5_38 : decode prog_12_method_3_code 38 = .ok (.iconst 1, 1) := by decide +kernel
theorem own_d5_39 : decode prog_12_method_3_code 39 = .ok (.iadd, 1) := by decide +kernel
theorem own_d5_40 : decode prog_12_method_3_code 40 = .ok (.aload_n 0, 1) := by decide +kernel
theorem own_d5_41 : decode prog_12_method_3_code 41 = .ok (.getfield 30, 3) := by decide +kernel
theorem own_d5_44 : decode prog_12_method_3_code 44 = .ok (.iload_n 1, 1) := by decide +kernel
theorem own_d5_45 : decode prog_12_method_3_code 45 = .ok (.daload, 1) := by decide +kernel
theorem own_d5_46 : decode prog_12_method_3_code 46 = .ok (.dload_n 2, 1) := by decide +kernel
theorem own_d5_47 : decode prog_12_method_3_code 47 = .ok (.dadd, 1) := by decide +kernel
theorem own_d5_48 : decode prog_12_method_3_code 48 = .ok (.dastore, 1) := by decide +kernel
theorem own_d5_49 : decode prog_12_method_3_code 49 = .ok (.dload_n 2, 1) := by decide +kernel
theorem own_d5_50 : decode prog_12_method_3_code 50 = .ok (.dconst 0, 1) := by decide +kernel
theorem own_d5_51 : decode prog_12_method_3_code 51 = .ok (.dcmp .l, 1) := by decide +kernel
theorem own_d5_52 : decode prog_12_method_3_code 52 = .ok (.ifCond .le 67, 3) := by decide +kernel
theorem own_d5_55 : decode prog_12_method_3_code 55 = .ok (.aload_n 0, 1) := by decide +kernel
theorem own_d5_56 : decode prog_12_method_3_code 56 = .ok (.getfield 46, 3) := by decide +kernel
theorem own_d5_59 : decode prog_12_method_3_code 59 = .ok (.aload_n 0, 1) := by decide +kernel
theorem own_d5_60 : decode prog_12_method_3_code 60 = .ok (.getfield 49, 3) := by decide +kernel
theorem own_d5_63 : decode prog_12_method_3_code 63 = .ok (.iadd, 1) := by decide +kernel
theorem own_d5_64 : decode prog_12_method_3_code 64 = .ok (.aload_n 0, 1) := by decide +kernel
theorem own_d5_65 : decode prog_12_method_3_code 65 = .ok (.getfield 20, 3) := by decide +kernel
theorem own_d5_68 : decode prog_12_method_3_code 68 = .ok (.arraylength, 1) := by decide +kernel
theorem own_d5_69 : decode prog_12_method_3_code 69 = .ok (.if_icmp .ne 7, 3) := by decide +kernel
theorem own_d5_76 : decode prog_12_method_3_code 76 = .ok (.aload_n 0, 1) := by decide +kernel
theorem own_d5_77 : decode prog_12_method_3_code 77 = .ok (.getfield 20, 3) := by decide +kernel
theorem own_d5_80 : decode prog_12_method_3_code 80 = .ok (.aload_n 0, 1) := by decide +kernel
theorem own_d5_81 : decode prog_12_method_3_code 81 = .ok (.getfield 46, 3) := by decide +kernel
theorem own_d5_84 : decode prog_12_method_3_code 84 = .ok (.aload_n 0, 1) := by decide +kernel
theorem own_d5_85 : decode prog_12_method_3_code 85 = .ok (.getfield 49, 3) := by decide +kernel
theorem own_d5_88 : decode prog_12_method_3_code 88 = .ok (.iadd, 1) := by decide +kernel
theorem own_d5_89 : decode prog_12_method_3_code 89 = .ok (.iload_n 1, 1) := by decide +kernel
theorem own_d5_90 : decode prog_12_method_3_code 90 = .ok (.iastore, 1) := by decide +kernel
theorem own_d5_91 : decode prog_12_method_3_code 91 = .ok (.aload_n 0, 1) := by decide +kernel
theorem own_d5_92 : decode prog_12_method_3_code 92 = .ok (.getfield 23, 3) := by decide +kernel
theorem own_d5_95 : decode prog_12_method_3_code 95 = .ok (.aload_n 0, 1) := by decide +kernel
theorem own_d5_96 : decode prog_12_method_3_code 96 = .ok (.getfield 46, 3) := by decide +kernel
theorem own_d5_99 : decode prog_12_method_3_code 99 = .ok (.aload_n 0, 1) := by decide +kernel
theorem own_d5_100 : decode prog_12_method_3_code 100 = .ok (.getfield 49, 3) := by decide +kernel
theorem own_d5_103 : decode prog_12_method_3_code 103 = .ok (.iadd, 1) := by decide +kernel
theorem own_d5_104 : decode prog_12_method_3_code 104 = .ok (.aload_n 0, 1) := by decide +kernel
theorem own_d5_105 : decode prog_12_method_3_code 105 = .ok (.getfield 36, 3) := by decide +kernel
theorem own_d5_108 : decode prog_12_method_3_code 108 = .ok (.iastore, 1) := by decide +kernel
theorem own_d5_109 : decode prog_12_method_3_code 109 = .ok (.aload_n 0, 1) := by decide +kernel
theorem own_d5_110 : decode prog_12_method_3_code 110 = .ok (.dup, 1) := by decide +kernel
theorem own_d5_111 : decode prog_12_method_3_code 111 = .ok (.getfield 49, 3) := by decide +kernel
theorem own_d5_114 : decode prog_12_method_3_code 114 = .ok (.iconst 1, 1) := by decide +kernel
theorem own_d5_115 : decode prog_12_method_3_code 115 = .ok (.iadd, 1) := by decide +kernel
theorem own_d5_116 : decode prog_12_method_3_code 116 = .ok (.putfield 49, 3) := by decide +kernel
theorem own_d5_119 : decode prog_12_method_3_code 119 = .ok (.aload_n 0, 1) := by decide +kernel
theorem own_d5_120 : decode prog_12_method_3_code 120 = .ok (.aload_n 0, 1) := by decide +kernel
theorem own_d5_121 : decode prog_12_method_3_code 121 = .ok (.getfield 36, 3) := by decide +kernel
theorem own_d5_124 : decode prog_12_method_3_code 124 = .ok (.putfield 43, 3) := by decide +kernel
theorem own_d5_127 : decode prog_12_method_3_code 127 = .ok (.return_, 1) := by decide +kernel
def own_Qclose (Z : State) (le : Addr) (ex : Addr) (jo : Addr) (go : Addr) (pe : Addr) (li : Addr) (fi : Addr) (in_ : Addr) (ou : Addr) (fl : Addr) (el : Addr) (ev : Addr) (st : Addr) (se : Addr) (kex : ClassId) (kjo : ClassId) (kgo : ClassId) (kpe : ClassId) (kli : ClassId) (kin_ : ClassId) (kou : ClassId) (kfl : ClassId) (kel : ClassId) (kev : ClassId) (kst : ClassId) (kse : ClassId) (V0 : UInt64) (V1 : UInt64) (h0 : Heap) (n0 : Nat) (v : Option Value) (h : Heap) (L : List Loc) : Prop := v = none ∧ Fr n0 L ∧ Keep h0 h [fi, in_, st, se] ∧ Exa Z h fi "com/example/spillback/spillback/Fifo" ∧ Fld Z h fi "com/example/spillback/spillback/Fifo" "listed" "[I" (.ref fl) ∧ Fld Z h fi "com/example/spillback/spillback/Fifo" "entryLegs" "[I" (.ref el) ∧ Fld Z h fi "com/example/spillback/spillback/Fifo" "entryVehicles" "[D" (.ref ev) ∧ Fld Z h fi "com/example/spillback/spillback/Fifo" "steps" "[I" (.ref st) ∧ Fld Z h fi "com/example/spillback/spillback/Fifo" "stepEnds" "[I" (.ref se) ∧ Fld Z h fi "com/example/spillback/spillback/Fifo" "legs" "Lcom/example/spillback/spillback/Fifo$Legs;" (.ref le) ∧ Fld Z h fi "com/example/spillback/spillback/Fifo" "in" "[D" (.ref in_) ∧ Fld Z h fi "com/example/spillback/spillback/Fifo" "out" "[D" (.ref ou) ∧ Fld Z h fi "com/example/spillback/spillback/Fifo" "tail" "I" (.int 2) ∧ Fld Z h fi "com/example/spillback/spillback/Fifo" "joiningStart" "I" (.int 2) ∧ Fld Z h fi "com/example/spillback/spillback/Fifo" "firstStep" "I" (.int 0) ∧ Fld Z h fi "com/example/spillback/spillback/Fifo" "stepCount" "I" (.int 1) ∧ Fld Z h fi "com/example/spillback/spillback/Fifo" "listedCount" "I" (.int 0) ∧ Fld Z h fi "com/example/spillback/spillback/Fifo" "head" "I" (.int 0) ∧ Fld Z h fi "com/example/spillback/spillback/Fifo" "sliceTotal" "D" (.double 0) ∧ Fld Z h fi "com/example/spillback/spillback/Fifo" "sliceVehicles" "D" (.double 0) ∧ Arv Z h ev kev .double (16 : Int32) [(.double V0), (.double V1)] (.double 0) ∧ Arv Z h in_ kin_ .double (2 : Int32) [(.double 0), (.double oC)] (.double 0) ∧ Arv Z h st kst .int 16 [(.int 0)] (.int 0) ∧ Arv Z h se kse .int 16 [(.int 2)] (.int 0)
set_option maxRecDepth 65536 in
set_option maxHeartbeats 40000000 in
theorem own_rmclose (l : Launch) (Z : State) (a0 : Array Value) (hw : ∀ d ∈ tables_1, d.before a0 Z = true) (ws : List Jvm.Cond) (fi : Addr) (pn : Int32) (h0 : Heap) (n0 : Nat) (le ex jo go pe li in_ ou fl el ev st se : Addr) (kex kjo kgo kpe kli kin_ kou kfl kel kev kst kse : ClassId) (hc0 : n0 ≤ le) (hc1 : @LT.lt Nat _ le ex) (hc2 : @LT.lt Nat _ ex jo) (hc3 : @LT.lt Nat _ jo go) (hc4 : @LT.lt Nat _ go pe) (hc5 : @LT.lt Nat _ pe li) (hc6 : @LT.lt Nat _ li fi) (hc7 : @LT.lt Nat _ fi in_) (hc8 : @LT.lt Nat _ in_ ou) (hc9 : @LT.lt Nat _ ou fl) (hc10 : @LT.lt Nat _ fl el) (hc11 : @LT.lt Nat _ el ev) (hc12 : @LT.lt Nat _ ev st) (hc13 : @LT.lt Nat _ st se) (V0 V1 : UInt64) (hp : pn = (0 : Int32)) (hn0 : NoNaN64 V0) (ha0 : FP.dadd (0 : UInt64) V0 = V0) (ha1 : FP.dadd V0 V1 = (4625196817309499392 : UInt64)) (E_fi : Exa Z h0 fi "com/example/spillback/spillback/Fifo") (F22 : Fld Z h0 fi "com/example/spillback/spillback/Fifo" "listed" "[I" (.ref fl)) (F0 : Fld Z h0 fi "com/example/spillback/spillback/Fifo" "entryLegs" "[I" (.ref el)) (F2 : Fld Z h0 fi "com/example/spillback/spillback/Fifo" "entryVehicles" "[D" (.ref ev)) (F38 : Fld Z h0 fi "com/example/spillback/spillback/Fifo" "steps" "[I" (.ref st)) (F36 : Fld Z h0 fi "com/example/spillback/spillback/Fifo" "stepEnds" "[I" (.ref se)) (F18 : Fld Z h0 fi "com/example/spillback/spillback/Fifo" "legs" "Lcom/example/spillback/spillback/Fifo$Legs;" (.ref le)) (F12 : Fld Z h0 fi "com/example/spillback/spillback/Fifo" "in" "[D" (.ref in_)) (F26 : Fld Z h0 fi "com/example/spillback/spillback/Fifo" "out" "[D" (.ref ou)) (F40 : Fld Z h0 fi "com/example/spillback/spillback/Fifo" "tail" "I" (.int 2)) (F16 : Fld Z h0 fi "com/example/spillback/spillback/Fifo" "joiningStart" "I" (.int 0)) (F6 : Fld Z h0 fi "com/example/spillback/spillback/Fifo" "firstStep" "I" (.int 0)) (F34 : Fld Z h0 fi "com/example/spillback/spillback/Fifo" "stepCount" "I" (.int 0)) (F20 : Fld Z h0 fi "com/example/spillback/spillback/Fifo" "listedCount" "I" (.int 0)) (F10 : Fld Z h0 fi "com/example/spillback/spillback/Fifo" "head" "I" (.int 0)) (F30 : Fld Z h0 fi "com/example/spillback/spillback/Fifo" "sliceTotal" "D" (.double 0)) (F32 : Fld Z h0 fi "com/example/spillback/spillback/Fifo" "sliceVehicles" "D" (.double 0)) (V_ev : Arv Z h0 ev kev .double (16 : Int32) [(.double V0), (.double V1)] (.double 0)) (V_in_ : Arv Z h0 in_ kin_ .double (2 : Int32) [(.double 0), (.double 0)] (.double 0)) (V_st : Arv Z h0 st kst .int 16 [(.int 0)] (.int 0)) (V_se : Arv Z h0 se kse .int 16 [(.int 0)] (.int 0)) :
    own_Met l Z (⟨"com/example/spillback/spillback/Fifo", "close", "(I)V"⟩ : MethodName) prog_12_method_3_code 5 none ws ({ frames := 0, cells := 0, slots := 0, locals := 0 } : Room) #[(.ref fi), (.int pn)] h0 (own_Qclose Z le ex jo go pe li fi in_ ou fl el ev st se kex kjo kgo kpe kli kin_ kou kfl kel kev kst kse V0 V1 h0 n0) := by
  refine own_met (plainFor_of_name own_pn1) ?_
  intro p e s m below meth c s₁ X0 hx hZ hby hml hown hnm hret hlk e0
  have N0 := Fr.nil n0
  refine own_go (fun t k => castTop (own_efclose m fi pn) k) ?_
  have g_in_ : @LE.le Nat _ n0 in_ := by omega
  have lt_fi_in_ : @LT.lt Nat _ fi in_ := by omega
  have lt_in__ev : @LT.lt Nat _ in_ ev := by omega
  have lt_in__st : @LT.lt Nat _ in_ st := by omega
  have lt_in__se : @LT.lt Nat _ in_ se := by omega
  have g_st : @LE.le Nat _ n0 st := by omega
  have lt_fi_st : @LT.lt Nat _ fi st := by omega
  have lt_ev_st : @LT.lt Nat _ ev st := by omega
  have lt_st_se : @LT.lt Nat _ st se := by omega
  have g_se : @LE.le Nat _ n0 se := by omega
  have lt_fi_se : @LT.lt Nat _ fi se := by omega
  have lt_ev_se : @LT.lt Nat _ ev se := by omega
  have g_fi : @LE.le Nat _ n0 fi := by omega
  have lt_fi_ev : @LT.lt Nat _ fi ev := by omega
  have K := Keep.refl h0 [fi, in_, st, se]
  show own_Go _ _ _ _ s₁ (mkF m 0 #[oR fi, oI pn, oU, oU, oU] [])
  subst hp
  show own_Go _ _ _ _ s₁ (mkF m 0 #[oR fi, oI 0, oU, oU, oU] [])
  refine own_go (fun _ k => XS.dconst0 X0.here hx rfl (hb hby own_d5_0) own_dc0 k) ?_
  show own_Go _ _ _ _ s₁ (mkF m 1 #[oR fi, oI 0, oU, oU, oU] [(.double 0)])
  refine own_go (fun _ k => XS.dstoreN X0.here hx rfl (hb hby own_d5_1) rfl (l' := #[oR fi, oI 0, oD 0, oS, oU]) rfl k) ?_
  show own_Go _ _ _ _ s₁ (mkF m 2 #[oR fi, oI 0, oD 0, oS, oU] [])
  refine own_go (fun _ k => XS.aloadN X0.here hx rfl (hb hby own_d5_2) rfl rfl k) ?_
  show own_Go _ _ _ _ s₁ (mkF m 3 #[oR fi, oI 0, oD 0, oS, oU] [(.ref fi)])
  obtain ⟨Tz51, Xz51, ez51, stz51⟩ := getF X0 hx hZ hown (host := "") (Or.inl (hw _ (List.mem_of_getElem? (i := 57) rfl))) Via.refl e0 F16 (g := (mkF m 3 #[oR fi, oI 0, oD 0, oS, oU] [(.ref fi)])) rfl rfl (hb hby own_d5_3)
  refine own_go stz51 ?_
  show own_Go _ _ _ _ Tz51 (mkF m 6 #[oR fi, oI 0, oD 0, oS, oU] [(.int 0)])
  refine own_go (fun _ k => XS.istore Xz51.here hx rfl (hb hby own_d5_6) rfl (l' := #[oR fi, oI 0, oD 0, oS, oI 0]) rfl k) ?_
  show own_Go _ _ _ _ Tz51 (mkF m 8 #[oR fi, oI 0, oD 0, oS, oI 0] [])
  refine own_go (fun _ k => XS.iload Xz51.here hx rfl (hb hby own_d5_8) rfl k) ?_
  show own_Go _ _ _ _ Tz51 (mkF m 10 #[oR fi, oI 0, oD 0, oS, oI 0] [(.int 0)])
  refine own_go (fun _ k => XS.aloadN Xz51.here hx rfl (hb hby own_d5_10) rfl rfl k) ?_
  show own_Go _ _ _ _ Tz51 (mkF m 11 #[oR fi, oI 0, oD 0, oS, oI 0] [(.ref fi), (.int 0)])
  obtain ⟨Tz52, Xz52, ez52, stz52⟩ := getF Xz51 hx hZ hown (host := "") (Or.inl (hw _ (List.mem_of_getElem? (i := 50) rfl))) Via.refl ez51 F40 (g := (mkF m 11 #[oR fi, oI 0, oD 0, oS, oI 0] [(.ref fi), (.int 0)])) rfl rfl (hb hby own_d5_11)
  refine own_go stz52 ?_
  show own_Go _ _ _ _ Tz52 (mkF m 14 #[oR fi, oI 0, oD 0, oS, oI 0] [(.int 2), (.int 0)])
  refine own_go (fun _ k => XS.icmpNo Xz52.here hx rfl (hb hby own_d5_14) rfl (tlt (by decide : (0 : Int32) < (2 : Int32))).2.1 k) ?_
  show own_Go _ _ _ _ Tz52 (mkF m 17 #[oR fi, oI 0, oD 0, oS, oI 0] [])
  refine own_go (fun _ k => XS.dloadN Xz52.here hx rfl (hb hby own_d5_17) rfl k) ?_
  show own_Go _ _ _ _ Tz52 (mkF m 18 #[oR fi, oI 0, oD 0, oS, oI 0] [(.double 0)])
  refine own_go (fun _ k => XS.aloadN Xz52.here hx rfl (hb hby own_d5_18) rfl rfl k) ?_
  show own_Go _ _ _ _ Tz52 (mkF m 19 #[oR fi, oI 0, oD 0, oS, oI 0] [(.ref fi), (.double 0)])
  obtain ⟨Tz53, Xz53, ez53, stz53⟩ := getF Xz52 hx hZ hown (host := "") (Or.inl (hw _ (List.mem_of_getElem? (i := 33) rfl))) Via.refl ez52 F2 (g := (mkF m 19 #[oR fi, oI 0, oD 0, oS, oI 0] [(.ref fi), (.double 0)])) rfl rfl (hb hby own_d5_19)
  refine own_go stz53 ?_
  show own_Go _ _ _ _ Tz53 (mkF m 22 #[oR fi, oI 0, oD 0, oS, oI 0] [(.ref ev), (.double 0)])
  refine own_go (fun _ k => XS.iload Xz53.here hx rfl (hb hby own_d5_22) rfl k) ?_
  show own_Go _ _ _ _ Tz53 (mkF m 24 #[oR fi, oI 0, oD 0, oS, oI 0] [(.int 0), (.ref ev), (.double 0)])
  obtain ⟨clz54, Arz54, qz54, Sz54, Mz54, HHz54, Gz54⟩ := id V_ev
  have hinz54 : ¬ ((0 : Int32) < 0 ∨ clz54.slots.size ≤ ((0 : Int32)).toNatClampNeg) := inb_of Sz54 ⟨(by decide), (by decide)⟩
  have hatz54 : clz54.slots[((0 : Int32)).toNatClampNeg]? = some (.double V0) := HHz54.at hinz54 (rfl)
  refine own_go (fun _ k => Xz53.daload hx (j := (0 : Int32)) (v := (.double V0)) (by rw [ez53]; exact Arz54.1) (State.isArrayOf_alike hZ.alike Arz54.2.1) Arz54.2.2 hinz54 hatz54 (g := (mkF m 24 #[oR fi, oI 0, oD 0, oS, oI 0] [(.int 0), (.ref ev), (.double 0)])) rfl rfl (hb hby own_d5_24) _ k) ?_
  show own_Go _ _ _ _ Tz53 (mkF m 25 #[oR fi, oI 0, oD 0, oS, oI 0] [(.double V0), (.double 0)])
  refine own_go (fun _ k => XS.daddS Xz53.here hx rfl (hb hby own_d5_25) rfl (by rw [ha0]; exact hn0) ha0 k) ?_
  show own_Go _ _ _ _ Tz53 (mkF m 26 #[oR fi, oI 0, oD 0, oS, oI 0] [(.double V0)])
  refine own_go (fun _ k => XS.dstoreN Xz53.here hx rfl (hb hby own_d5_26) rfl (l' := #[oR fi, oI 0, oD V0, oS, oI 0]) rfl k) ?_
  show own_Go _ _ _ _ Tz53 (mkF m 27 #[oR fi, oI 0, oD V0, oS, oI 0] [])
  refine own_go (fun _ k => XS.iinc Xz53.here hx rfl (hb hby own_d5_27) rfl (l' := #[oR fi, oI 0, oD V0, oS, oI ((0 : Int32) + (1 : Int32))]) rfl k) ?_
  show own_Go _ _ _ _ Tz53 (mkF m 30 #[oR fi, oI 0, oD V0, oS, oI ((0 : Int32) + (1 : Int32))] [])
  refine own_go (fun _ k => XS.goto Xz53.here hx rfl (pc0 := 30) (pc' := 8) rfl (hb hby own_d5_30) (by decide) (by decide) k) ?_
  show own_Go _ _ _ _ Tz53 (mkF m 8 #[oR fi, oI 0, oD V0, oS, oI ((0 : Int32) + (1 : Int32))] [])
  show own_Go _ _ _ _ Tz53 (mkF m 8 #[oR fi, oI 0, oD V0, oS, oI 1] [])
  refine own_go (fun _ k => XS.iload Xz53.here hx rfl (hb hby own_d5_8) rfl k) ?_
  show own_Go _ _ _ _ Tz53 (mkF m 10 #[oR fi, oI 0, oD V0, oS, oI 1] [(.int 1)])
  refine own_go (fun _ k => XS.aloadN Xz53.here hx rfl (hb hby own_d5_10) rfl rfl k) ?_
  show own_Go _ _ _ _ Tz53 (mkF m 11 #[oR fi, oI 0, oD V0, oS, oI 1] [(.ref fi), (.int 1)])
  obtain ⟨Tz55, Xz55, ez55, stz55⟩ := getF Xz53 hx hZ hown (host := "") (Or.inl (hw _ (List.mem_of_getElem? (i := 50) rfl))) Via.refl ez53 F40 (g := (mkF m 11 #[oR fi, oI 0, oD V0, oS, oI 1] [(.ref fi), (.int 1)])) rfl rfl (hb hby own_d5_11)
  refine own_go stz55 ?_
  show own_Go _ _ _ _ Tz55 (mkF m 14 #[oR fi, oI 0, oD V0, oS, oI 1] [(.int 2), (.int 1)])
  refine own_go (fun _ k => XS.icmpNo Xz55.here hx rfl (hb hby own_d5_14) rfl (tlt (by decide : (1 : Int32) < (2 : Int32))).2.1 k) ?_
  show own_Go _ _ _ _ Tz55 (mkF m 17 #[oR fi, oI 0, oD V0, oS, oI 1] [])
  refine own_go (fun _ k => XS.dloadN Xz55.here hx rfl (hb hby own_d5_17) rfl k) ?_
  show own_Go _ _ _ _ Tz55 (mkF m 18 #[oR fi, oI 0, oD V0, oS, oI 1] [(.double V0)])
  refine own_go (fun _ k => XS.aloadN Xz55.here hx rfl (hb hby own_d5_18) rfl rfl k) ?_
  show own_Go _ _ _ _ Tz55 (mkF m 19 #[oR fi, oI 0, oD V0, oS, oI 1] [(.ref fi), (.double V0)])
  obtain ⟨Tz56, Xz56, ez56, stz56⟩ := getF Xz55 hx hZ hown (host := "") (Or.inl (hw _ (List.mem_of_getElem? (i := 33) rfl))) Via.refl ez55 F2 (g := (mkF m 19 #[oR fi, oI 0, oD V0, oS, oI 1] [(.ref fi), (.double V0)])) rfl rfl (hb hby own_d5_19)
  refine own_go stz56 ?_
  show own_Go _ _ _ _ Tz56 (mkF m 22 #[oR fi, oI 0, oD V0, oS, oI 1] [(.ref ev), (.double V0)])
  refine own_go (fun _ k => XS.iload Xz56.here hx rfl (hb hby own_d5_22) rfl k) ?_
  show own_Go _ _ _ _ Tz56 (mkF m 24 #[oR fi, oI 0, oD V0, oS, oI 1] [(.int 1), (.ref ev), (.double V0)])
  obtain ⟨clz57, Arz57, qz57, Sz57, Mz57, HHz57, Gz57⟩ := id V_ev
  have hinz57 : ¬ ((1 : Int32) < 0 ∨ clz57.slots.size ≤ ((1 : Int32)).toNatClampNeg) := inb_of Sz57 ⟨(by decide), (by decide)⟩
  have hatz57 : clz57.slots[((1 : Int32)).toNatClampNeg]? = some (.double V1) := HHz57.at hinz57 (rfl)
  refine own_go (fun _ k => Xz56.daload hx (j := (1 : Int32)) (v := (.double V1)) (by rw [ez56]; exact Arz57.1) (State.isArrayOf_alike hZ.alike Arz57.2.1) Arz57.2.2 hinz57 hatz57 (g := (mkF m 24 #[oR fi, oI 0, oD V0, oS, oI 1] [(.int 1), (.ref ev), (.double V0)])) rfl rfl (hb hby own_d5_24) _ k) ?_
  show own_Go _ _ _ _ Tz56 (mkF m 25 #[oR fi, oI 0, oD V0, oS, oI 1] [(.double V1), (.double V0)])
  refine own_go (fun _ k => XS.daddS Xz56.here hx rfl (hb hby own_d5_25) rfl (by rw [ha1]; exact own_nn16) ha1 k) ?_
  show own_Go _ _ _ _ Tz56 (mkF m 26 #[oR fi, oI 0, oD V0, oS, oI 1] [(.double oC)])
  refine own_go (fun _ k => XS.dstoreN Xz56.here hx rfl (hb hby own_d5_26) rfl (l' := #[oR fi, oI 0, oD oC, oS, oI 1]) rfl k) ?_
  show own_Go _ _ _ _ Tz56 (mkF m 27 #[oR fi, oI 0, oD oC, oS, oI 1] [])
  refine own_go (fun _ k => XS.iinc Xz56.here hx rfl (hb hby own_d5_27) rfl (l' := #[oR fi, oI 0, oD oC, oS, oI ((1 : Int32) + (1 : Int32))]) rfl k) ?_
  show own_Go _ _ _ _ Tz56 (mkF m 30 #[oR fi, oI 0, oD oC, oS, oI ((1 : Int32) + (1 : Int32))] [])
  refine own_go (fun _ k => XS.goto Xz56.here hx rfl (pc0 := 30) (pc' := 8) rfl (hb hby own_d5_30) (by decide) (by decide) k) ?_
  show own_Go _ _ _ _ Tz56 (mkF m 8 #[oR fi, oI 0, oD oC, oS, oI ((1 : Int32) + (1 : Int32))] [])
  show own_Go _ _ _ _ Tz56 (mkF m 8 #[oR fi, oI 0, oD oC, oS, oI 2] [])
  refine own_go (fun _ k => XS.iload Xz56.here hx rfl (hb hby own_d5_8) rfl k) ?_
  show own_Go _ _ _ _ Tz56 (mkF m 10 #[oR fi, oI 0, oD oC, oS, oI 2] [(.int 2)])
  refine own_go (fun _ k => XS.aloadN Xz56.here hx rfl (hb hby own_d5_10) rfl rfl k) ?_
  show own_Go _ _ _ _ Tz56 (mkF m 11 #[oR fi, oI 0, oD oC, oS, oI 2] [(.ref fi), (.int 2)])
  obtain ⟨Tz58, Xz58, ez58, stz58⟩ := getF Xz56 hx hZ hown (host := "") (Or.inl (hw _ (List.mem_of_getElem? (i := 50) rfl))) Via.refl ez56 F40 (g := (mkF m 11 #[oR fi, oI 0, oD oC, oS, oI 2] [(.ref fi), (.int 2)])) rfl rfl (hb hby own_d5_11)
  refine own_go stz58 ?_
  show own_Go _ _ _ _ Tz58 (mkF m 14 #[oR fi, oI 0, oD oC, oS, oI 2] [(.int 2), (.int 2)])
  refine own_go (fun _ k => XS.icmpYes Xz58.here hx rfl (pc0 := 14) (pc' := 33) rfl (hb hby own_d5_14) rfl (flt (by decide : ¬ ((2 : Int32) < (2 : Int32)))).2.1 (by decide) (by decide) k) ?_
  show own_Go _ _ _ _ Tz58 (mkF m 33 #[oR fi, oI 0, oD oC, oS, oI 2] [])
  refine own_go (fun _ k => XS.aloadN Xz58.here hx rfl (hb hby own_d5_33) rfl rfl k) ?_
  show own_Go _ _ _ _ Tz58 (mkF m 34 #[oR fi, oI 0, oD oC, oS, oI 2] [(.ref fi)])
  obtain ⟨Tz59, Xz59, ez59, stz59⟩ := getF Xz58 hx hZ hown (host := "") (Or.inl (hw _ (List.mem_of_getElem? (i := 41) rfl))) Via.refl ez58 F12 (g := (mkF m 34 #[oR fi, oI 0, oD oC, oS, oI 2] [(.ref fi)])) rfl rfl (hb hby own_d5_34)
  refine own_go stz59 ?_
  show own_Go _ _ _ _ Tz59 (mkF m 37 #[oR fi, oI 0, oD oC, oS, oI 2] [(.ref in_)])
  refine own_go (fun _ k => XS.iloadN Xz59.here hx rfl (hb hby own_d5_37) rfl k) ?_
  show own_Go _ _ _ _ Tz59 (mkF m 38 #[oR fi, oI 0, oD oC, oS, oI 2] [(.int 0), (.ref in_)])
  refine own_go (fun _ k => XS.iconst Xz59.here hx rfl (hb hby own_d5_38) k) ?_
  show own_Go _ _ _ _ Tz59 (mkF m 39 #[oR fi, oI 0, oD oC, oS, oI 2] [(.int 1), (.int 0), (.ref in_)])
  refine own_go (fun _ k => XS.iadd Xz59.here hx rfl (hb hby own_d5_39) rfl k) ?_
  show own_Go _ _ _ _ Tz59 (mkF m 40 #[oR fi, oI 0, oD oC, oS, oI 2] [(.int ((0 : Int32) + (1 : Int32))), (.ref in_)])
  refine own_go (fun _ k => XS.aloadN Xz59.here hx rfl (hb hby own_d5_40) rfl rfl k) ?_
  show own_Go _ _ _ _ Tz59 (mkF m 41 #[oR fi, oI 0, oD oC, oS, oI 2] [(.ref fi), (.int ((0 : Int32) + (1 : Int32))), (.ref in_)])
  obtain ⟨Tz60, Xz60, ez60, stz60⟩ := getF Xz59 hx hZ hown (host := "") (Or.inl (hw _ (List.mem_of_getElem? (i := 41) rfl))) Via.refl ez59 F12 (g := (mkF m 41 #[oR fi, oI 0, oD oC, oS, oI 2] [(.ref fi), (.int ((0 : Int32) + (1 : Int32))), (.ref in_)])) rfl rfl (hb hby own_d5_41)
  refine own_go stz60 ?_
  show own_Go _ _ _ _ Tz60 (mkF m 44 #[oR fi, oI 0, oD oC, oS, oI 2] [(.ref in_), (.int ((0 : Int32) + (1 : Int32))), (.ref in_)])
  refine own_go (fun _ k => XS.iloadN Xz60.here hx rfl (hb hby own_d5_44) rfl k) ?_
  show own_Go _ _ _ _ Tz60 (mkF m 45 #[oR fi, oI 0, oD oC, oS, oI 2] [(.int 0), (.ref in_), (.int ((0 : Int32) + (1 : Int32))), (.ref in_)])
  obtain ⟨clz61, Arz61, qz61, Sz61, Mz61, HHz61, Gz61⟩ := id V_in_
  have hinz61 : ¬ ((0 : Int32) < 0 ∨ clz61.slots.size ≤ ((0 : Int32)).toNatClampNeg) := inb_of Sz61 ⟨(by decide), (by decide)⟩
  have hatz61 : clz61.slots[((0 : Int32)).toNatClampNeg]? = some (.double 0) := HHz61.at hinz61 (rfl)
  refine own_go (fun _ k => Xz60.daload hx (j := (0 : Int32)) (v := (.double 0)) (by rw [ez60]; exact Arz61.1) (State.isArrayOf_alike hZ.alike Arz61.2.1) Arz61.2.2 hinz61 hatz61 (g := (mkF m 45 #[oR fi, oI 0, oD oC, oS, oI 2] [(.int 0), (.ref in_), (.int ((0 : Int32) + (1 : Int32))), (.ref in_)])) rfl rfl (hb hby own_d5_45) _ k) ?_
  show own_Go _ _ _ _ Tz60 (mkF m 46 #[oR fi, oI 0, oD oC, oS, oI 2] [(.double 0), (.int ((0 : Int32) + (1 : Int32))), (.ref in_)])
  refine own_go (fun _ k => XS.dloadN Xz60.here hx rfl (hb hby own_d5_46) rfl k) ?_
  show own_Go _ _ _ _ Tz60 (mkF m 47 #[oR fi, oI 0, oD oC, oS, oI 2] [(.double oC), (.double 0), (.int ((0 : Int32) + (1 : Int32))), (.ref in_)])
  refine own_go (fun _ k => XS.daddS Xz60.here hx rfl (hb hby own_d5_47) rfl (by rw [own_z00.2.2.1]; exact own_nn16) own_z00.2.2.1 k) ?_
  show own_Go _ _ _ _ Tz60 (mkF m 48 #[oR fi, oI 0, oD oC, oS, oI 2] [(.double oC), (.int ((0 : Int32) + (1 : Int32))), (.ref in_)])
  obtain ⟨clz62, Arz62, qz62, Sz62, Mz62, HHz62, Gz62⟩ := V_in_
  have hinz62 : ¬ (((0 : Int32) + (1 : Int32)) < 0 ∨ clz62.slots.size ≤ (((0 : Int32) + (1 : Int32))).toNatClampNeg) := inb_of Sz62 ⟨(by decide), (by decide)⟩
  obtain ⟨Tz62, hz62, Xz62, ez62, Wz62, stz62⟩ := stD Xz60 hx hZ ez60 Arz62 (j := ((0 : Int32) + (1 : Int32))) hinz62 (g := (mkF m 48 #[oR fi, oI 0, oD oC, oS, oI 2] [(.double oC), (.int ((0 : Int32) + (1 : Int32))), (.ref in_)])) rfl rfl (hb hby own_d5_48)
  refine own_go stz62 ?_
  have V_in__ : Arv Z hz62 in_ kin_ .double (2 : Int32) [(.double 0), (.double oC)] (.double 0) := Arv.set Arz62 qz62 Sz62 Mz62 HHz62 Gz62 rfl Wz62 1 rfl (Nat.le_of_ble_eq_true rfl)
  have Nz62 := Fr.snoc Xz62 N0 g_in_
  have E_fi := E_fi.wr Wz62
  have F22 := F22.other Wz62 (own_o1 lt_fi_in_)
  have F0 := F0.other Wz62 (own_o1 lt_fi_in_)
  have F2 := F2.other Wz62 (own_o1 lt_fi_in_)
  have F38 := F38.other Wz62 (own_o1 lt_fi_in_)
  have F36 := F36.other Wz62 (own_o1 lt_fi_in_)
  have F18 := F18.other Wz62 (own_o1 lt_fi_in_)
  have F12 := F12.other Wz62 (own_o1 lt_fi_in_)
  have F26 := F26.other Wz62 (own_o1 lt_fi_in_)
  have F40 := F40.other Wz62 (own_o1 lt_fi_in_)
  have F16 := F16.other Wz62 (own_o1 lt_fi_in_)
  have F6 := F6.other Wz62 (own_o1 lt_fi_in_)
  have F34 := F34.other Wz62 (own_o1 lt_fi_in_)
  have F20 := F20.other Wz62 (own_o1 lt_fi_in_)
  have F10 := F10.other Wz62 (own_o1 lt_fi_in_)
  have F30 := F30.other Wz62 (own_o1 lt_fi_in_)
  have F32 := F32.other Wz62 (own_o1 lt_fi_in_)
  have V_ev := V_ev.other Wz62 (Nat.ne_of_gt lt_in__ev)
  have V_st := V_st.other Wz62 (Nat.ne_of_gt lt_in__st)
  have V_se := V_se.other Wz62 (Nat.ne_of_gt lt_in__se)
  have K := K.wr Wz62 (Or.inl (List.mem_of_getElem? (i := 1) rfl))
  have V_in_ := V_in__
  show own_Go _ _ _ _ Tz62 (mkF m 49 #[oR fi, oI 0, oD oC, oS, oI 2] [])
  refine own_go (fun _ k => XS.dloadN Xz62.here hx rfl (hb hby own_d5_49) rfl k) ?_
  show own_Go _ _ _ _ Tz62 (mkF m 50 #[oR fi, oI 0, oD oC, oS, oI 2] [(.double oC)])
  refine own_go (fun _ k => XS.dconst0 Xz62.here hx rfl (hb hby own_d5_50) own_dc0 k) ?_
  show own_Go _ _ _ _ Tz62 (mkF m 51 #[oR fi, oI 0, oD oC, oS, oI 2] [(.double 0), (.double oC)])
  refine own_go (fun _ k => XS.dcmpS Xz62.here hx rfl (hb hby own_d5_51) rfl rfl k) ?_
  show own_Go _ _ _ _ Tz62 (mkF m 52 #[oR fi, oI 0, oD oC, oS, oI 2] [(.int (cmpValue (FP.dcmp (4625196817309499392 : UInt64) (0 : UInt64)) .l))])
  refine own_go (fun _ k => XS.ifNo Xz62.here hx rfl (hb hby own_d5_52) rfl ((if0 _ _).trans (tlt (by decide +kernel)).2.2.2) k) ?_
  show own_Go _ _ _ _ Tz62 (mkF m 55 #[oR fi, oI 0, oD oC, oS, oI 2] [])
  refine own_go (fun _ k => XS.aloadN Xz62.here hx rfl (hb hby own_d5_55) rfl rfl k) ?_
  show own_Go _ _ _ _ Tz62 (mkF m 56 #[oR fi, oI 0, oD oC, oS, oI 2] [(.ref fi)])
  obtain ⟨Tz63, Xz63, ez63, stz63⟩ := getF Xz62 hx hZ hown (host := "") (Or.inl (hw _ (List.mem_of_getElem? (i := 59) rfl))) Via.refl ez62 F6 (g := (mkF m 56 #[oR fi, oI 0, oD oC, oS, oI 2] [(.ref fi)])) rfl rfl (hb hby own_d5_56)
  refine own_go stz63 ?_
  show own_Go _ _ _ _ Tz63 (mkF m 59 #[oR fi, oI 0, oD oC, oS, oI 2] [(.int 0)])
  refine own_go (fun _ k => XS.aloadN Xz63.here hx rfl (hb hby own_d5_59) rfl rfl k) ?_
  show own_Go _ _ _ _ Tz63 (mkF m 60 #[oR fi, oI 0, oD oC, oS, oI 2] [(.ref fi), (.int 0)])
  obtain ⟨Tz64, Xz64, ez64, stz64⟩ := getF Xz63 hx hZ hown (host := "") (Or.inl (hw _ (List.mem_of_getElem? (i := 61) rfl))) Via.refl ez63 F34 (g := (mkF m 60 #[oR fi, oI 0, oD oC, oS, oI 2] [(.ref fi), (.int 0)])) rfl rfl (hb hby own_d5_60)
  refine own_go stz64 ?_
  show own_Go _ _ _ _ Tz64 (mkF m 63 #[oR fi, oI 0, oD oC, oS, oI 2] [(.int 0), (.int 0)])
  refine own_go (fun _ k => XS.iadd Xz64.here hx rfl (hb hby own_d5_63) rfl k) ?_
  show own_Go _ _ _ _ Tz64 (mkF m 64 #[oR fi, oI 0, oD oC, oS, oI 2] [(.int ((0 : Int32) + (0 : Int32)))])
  refine own_go (fun _ k => XS.aloadN Xz64.here hx rfl (hb hby own_d5_64) rfl rfl k) ?_
  show own_Go _ _ _ _ Tz64 (mkF m 65 #[oR fi, oI 0, oD oC, oS, oI 2] [(.ref fi), (.int ((0 : Int32) + (0 : Int32)))])
  obtain ⟨Tz65, Xz65, ez65, stz65⟩ := getF Xz64 hx hZ hown (host := "") (Or.inl (hw _ (List.mem_of_getElem? (i := 35) rfl))) Via.refl ez64 F38 (g := (mkF m 65 #[oR fi, oI 0, oD oC, oS, oI 2] [(.ref fi), (.int ((0 : Int32) + (0 : Int32)))])) rfl rfl (hb hby own_d5_65)
  refine own_go stz65 ?_
  show own_Go _ _ _ _ Tz65 (mkF m 68 #[oR fi, oI 0, oD oC, oS, oI 2] [(.ref st), (.int ((0 : Int32) + (0 : Int32)))])
  obtain ⟨clz66, Arz66, qz66, Sz66, Mz66, HHz66, Gz66⟩ := id V_st
  refine own_go (fun _ k => Xz65.arraylength hx (by rw [ez65]; exact Arz66.1) (State.isArrayOf_alike hZ.alike Arz66.2.1) (g := (mkF m 68 #[oR fi, oI 0, oD oC, oS, oI 2] [(.ref st), (.int ((0 : Int32) + (0 : Int32)))])) rfl rfl (hb hby own_d5_68) _ k) ?_
  rw [len_of Sz66 Mz66]
  show own_Go _ _ _ _ Tz65 (mkF m 69 #[oR fi, oI 0, oD oC, oS, oI 2] [(.int 16), (.int ((0 : Int32) + (0 : Int32)))])
  refine own_go (fun _ k => XS.icmpYes Xz65.here hx rfl (pc0 := 69) (pc' := 76) rfl (hb hby own_d5_69) rfl (feq (by decide : ¬ (((0 : Int32) + (0 : Int32)) = (16 : Int32)))).2 (by decide) (by decide) k) ?_
  show own_Go _ _ _ _ Tz65 (mkF m 76 #[oR fi, oI 0, oD oC, oS, oI 2] [])
  refine own_go (fun _ k => XS.aloadN Xz65.here hx rfl (hb hby own_d5_76) rfl rfl k) ?_
  show own_Go _ _ _ _ Tz65 (mkF m 77 #[oR fi, oI 0, oD oC, oS, oI 2] [(.ref fi)])
  obtain ⟨Tz67, Xz67, ez67, stz67⟩ := getF Xz65 hx hZ hown (host := "") (Or.inl (hw _ (List.mem_of_getElem? (i := 35) rfl))) Via.refl ez65 F38 (g := (mkF m 77 #[oR fi, oI 0, oD oC, oS, oI 2] [(.ref fi)])) rfl rfl (hb hby own_d5_77)
  refine own_go stz67 ?_
  show own_Go _ _ _ _ Tz67 (mkF m 80 #[oR fi, oI 0, oD oC, oS, oI 2] [(.ref st)])
  refine own_go (fun _ k => XS.aloadN Xz67.here hx rfl (hb hby own_d5_80) rfl rfl k) ?_
  show own_Go _ _ _ _ Tz67 (mkF m 81 #[oR fi, oI 0, oD oC, oS, oI 2] [(.ref fi), (.ref st)])
  obtain ⟨Tz68, Xz68, ez68, stz68⟩ := getF Xz67 hx hZ hown (host := "") (Or.inl (hw _ (List.mem_of_getElem? (i := 59) rfl))) Via.refl ez67 F6 (g := (mkF m 81 #[oR fi, oI 0, oD oC, oS, oI 2] [(.ref fi), (.ref st)])) rfl rfl (hb hby own_d5_81)
  refine own_go stz68 ?_
  show own_Go _ _ _ _ Tz68 (mkF m 84 #[oR fi, oI 0, oD oC, oS, oI 2] [(.int 0), (.ref st)])
  refine own_go (fun _ k => XS.aloadN Xz68.here hx rfl (hb hby own_d5_84) rfl rfl k) ?_
  show own_Go _ _ _ _ Tz68 (mkF m 85 #[oR fi, oI 0, oD oC, oS, oI 2] [(.ref fi), (.int 0), (.ref st)])
  obtain ⟨Tz69, Xz69, ez69, stz69⟩ := getF Xz68 hx hZ hown (host := "") (Or.inl (hw _ (List.mem_of_getElem? (i := 61) rfl))) Via.refl ez68 F34 (g := (mkF m 85 #[oR fi, oI 0, oD oC, oS, oI 2] [(.ref fi), (.int 0), (.ref st)])) rfl rfl (hb hby own_d5_85)
  refine own_go stz69 ?_
  show own_Go _ _ _ _ Tz69 (mkF m 88 #[oR fi, oI 0, oD oC, oS, oI 2] [(.int 0), (.int 0), (.ref st)])
  refine own_go (fun _ k => XS.iadd Xz69.here hx rfl (hb hby own_d5_88) rfl k) ?_
  show own_Go _ _ _ _ Tz69 (mkF m 89 #[oR fi, oI 0, oD oC, oS, oI 2] [(.int ((0 : Int32) + (0 : Int32))), (.ref st)])
  refine own_go (fun _ k => XS.iloadN Xz69.here hx rfl (hb hby own_d5_89) rfl k) ?_
  show own_Go _ _ _ _ Tz69 (mkF m 90 #[oR fi, oI 0, oD oC, oS, oI 2] [(.int 0), (.int ((0 : Int32) + (0 : Int32))), (.ref st)])
  obtain ⟨clz70, Arz70, qz70, Sz70, Mz70, HHz70, Gz70⟩ := V_st
  have hinz70 : ¬ (((0 : Int32) + (0 : Int32)) < 0 ∨ clz70.slots.size ≤ (((0 : Int32) + (0 : Int32))).toNatClampNeg) := inb_of Sz70 ⟨(by decide), (by decide)⟩
  obtain ⟨Tz70, hz70, Xz70, ez70, Wz70, stz70⟩ := stI Xz69 hx hZ ez69 Arz70 (j := ((0 : Int32) + (0 : Int32))) hinz70 (g := (mkF m 90 #[oR fi, oI 0, oD oC, oS, oI 2] [(.int 0), (.int ((0 : Int32) + (0 : Int32))), (.ref st)])) rfl rfl (hb hby own_d5_90)
  refine own_go stz70 ?_
  have V_st_ : Arv Z hz70 st kst .int 16 [(.int 0)] (.int 0) := Arv.set Arz70 qz70 Sz70 Mz70 HHz70 Gz70 rfl Wz70 0 rfl (Nat.le_of_ble_eq_true rfl)
  have Nz70 := Fr.snoc Xz70 Nz62 g_st
  have E_fi := E_fi.wr Wz70
  have F22 := F22.other Wz70 (own_o1 lt_fi_st)
  have F0 := F0.other Wz70 (own_o1 lt_fi_st)
  have F2 := F2.other Wz70 (own_o1 lt_fi_st)
  have F38 := F38.other Wz70 (own_o1 lt_fi_st)
  have F36 := F36.other Wz70 (own_o1 lt_fi_st)
  have F18 := F18.other Wz70 (own_o1 lt_fi_st)
  have F12 := F12.other Wz70 (own_o1 lt_fi_st)
  have F26 := F26.other Wz70 (own_o1 lt_fi_st)
  have F40 := F40.other Wz70 (own_o1 lt_fi_st)
  have F16 := F16.other Wz70 (own_o1 lt_fi_st)
  have F6 := F6.other Wz70 (own_o1 lt_fi_st)
  have F34 := F34.other Wz70 (own_o1 lt_fi_st)
  have F20 := F20.other Wz70 (own_o1 lt_fi_st)
  have F10 := F10.other Wz70 (own_o1 lt_fi_st)
  have F30 := F30.other Wz70 (own_o1 lt_fi_st)
  have F32 := F32.other Wz70 (own_o1 lt_fi_st)
  have V_ev := V_ev.other Wz70 (Nat.ne_of_lt lt_ev_st)
  have V_se := V_se.other Wz70 (Nat.ne_of_gt lt_st_se)
  have K := K.wr Wz70 (Or.inl (List.mem_of_getElem? (i := 2) rfl))
  have V_in_ := V_in_.other Wz70 (Nat.ne_of_lt lt_in__st)
  have V_st := V_st_
  show own_Go _ _ _ _ Tz70 (mkF m 91 #[oR fi, oI 0, oD oC, oS, oI 2] [])
  refine own_go (fun _ k => XS.aloadN Xz70.here hx rfl (hb hby own_d5_91) rfl rfl k) ?_
  show own_Go _ _ _ _ Tz70 (mkF m 92 #[oR fi, oI 0, oD oC, oS, oI 2] [(.ref fi)])
  obtain ⟨Tz71, Xz71, ez71, stz71⟩ := getF Xz70 hx hZ hown (host := "") (Or.inl (hw _ (List.mem_of_getElem? (i := 37) rfl))) Via.refl ez70 F36 (g := (mkF m 92 #[oR fi, oI 0, oD oC, oS, oI 2] [(.ref fi)])) rfl rfl (hb hby own_d5_92)
  refine own_go stz71 ?_
  show own_Go _ _ _ _ Tz71 (mkF m 95 #[oR fi, oI 0, oD oC, oS, oI 2] [(.ref se)])
  refine own_go (fun _ k => XS.aloadN Xz71.here hx rfl (hb hby own_d5_95) rfl rfl k) ?_
  show own_Go _ _ _ _ Tz71 (mkF m 96 #[oR fi, oI 0, oD oC, oS, oI 2] [(.ref fi), (.ref se)])
  obtain ⟨Tz72, Xz72, ez72, stz72⟩ := getF Xz71 hx hZ hown (host := "") (Or.inl (hw _ (List.mem_of_getElem? (i := 59) rfl))) Via.refl ez71 F6 (g := (mkF m 96 #[oR fi, oI 0, oD oC, oS, oI 2] [(.ref fi), (.ref se)])) rfl rfl (hb hby own_d5_96)
  refine own_go stz72 ?_
  show own_Go _ _ _ _ Tz72 (mkF m 99 #[oR fi, oI 0, oD oC, oS, oI 2] [(.int 0), (.ref se)])
  refine own_go (fun _ k => XS.aloadN Xz72.here hx rfl (hb hby own_d5_99) rfl rfl k) ?_
  show own_Go _ _ _ _ Tz72 (mkF m 100 #[oR fi, oI 0, oD oC, oS, oI 2] [(.ref fi), (.int 0), (.ref se)])
  obtain ⟨Tz73, Xz73, ez73, stz73⟩ := getF Xz72 hx hZ hown (host := "") (Or.inl (hw _ (List.mem_of_getElem? (i := 61) rfl))) Via.refl ez72 F34 (g := (mkF m 100 #[oR fi, oI 0, oD oC, oS, oI 2] [(.ref fi), (.int 0), (.ref se)])) rfl rfl (hb hby own_d5_100)
  refine own_go stz73 ?_
  show own_Go _ _ _ _ Tz73 (mkF m 103 #[oR fi, oI 0, oD oC, oS, oI 2] [(.int 0), (.int 0), (.ref se)])
  refine own_go (fun _ k => XS.iadd Xz73.here hx rfl (hb hby own_d5_103) rfl k) ?_
  show own_Go _ _ _ _ Tz73 (mkF m 104 #[oR fi, oI 0, oD oC, oS, oI 2] [(.int ((0 : Int32) + (0 : Int32))), (.ref se)])
  refine own_go (fun _ k => XS.aloadN Xz73.here hx rfl (hb hby own_d5_104) rfl rfl k) ?_
  show own_Go _ _ _ _ Tz73 (mkF m 105 #[oR fi, oI 0, oD oC, oS, oI 2] [(.ref fi), (.int ((0 : Int32) + (0 : Int32))), (.ref se)])
  obtain ⟨Tz74, Xz74, ez74, stz74⟩ := getF Xz73 hx hZ hown (host := "") (Or.inl (hw _ (List.mem_of_getElem? (i := 50) rfl))) Via.refl ez73 F40 (g := (mkF m 105 #[oR fi, oI 0, oD oC, oS, oI 2] [(.ref fi), (.int ((0 : Int32) + (0 : Int32))), (.ref se)])) rfl rfl (hb hby own_d5_105)
  refine own_go stz74 ?_
  show own_Go _ _ _ _ Tz74 (mkF m 108 #[oR fi, oI 0, oD oC, oS, oI 2] [(.int 2), (.int ((0 : Int32) + (0 : Int32))), (.ref se)])
  obtain ⟨clz75, Arz75, qz75, Sz75, Mz75, HHz75, Gz75⟩ := V_se
  have hinz75 : ¬ (((0 : Int32) + (0 : Int32)) < 0 ∨ clz75.slots.size ≤ (((0 : Int32) + (0 : Int32))).toNatClampNeg) := inb_of Sz75 ⟨(by decide), (by decide)⟩
  obtain ⟨Tz75, hz75, Xz75, ez75, Wz75, stz75⟩ := stI Xz74 hx hZ ez74 Arz75 (j := ((0 : Int32) + (0 : Int32))) hinz75 (g := (mkF m 108 #[oR fi, oI 0, oD oC, oS, oI 2] [(.int 2), (.int ((0 : Int32) + (0 : Int32))), (.ref se)])) rfl rfl (hb hby own_d5_108)
  refine own_go stz75 ?_
  have V_se_ : Arv Z hz75 se kse .int 16 [(.int 2)] (.int 0) := Arv.set Arz75 qz75 Sz75 Mz75 HHz75 Gz75 rfl Wz75 0 rfl (Nat.le_of_ble_eq_true rfl)
  have Nz75 := Fr.snoc Xz75 Nz70 g_se
  have E_fi := E_fi.wr Wz75
  have F22 := F22.other Wz75 (own_o1 lt_fi_se)
  have F0 := F0.other Wz75 (own_o1 lt_fi_se)
  have F2 := F2.other Wz75 (own_o1 lt_fi_se)
  have F38 := F38.other Wz75 (own_o1 lt_fi_se)
  have F36 := F36.other Wz75 (own_o1 lt_fi_se)
  have F18 := F18.other Wz75 (own_o1 lt_fi_se)
  have F12 := F12.other Wz75 (own_o1 lt_fi_se)
  have F26 := F26.other Wz75 (own_o1 lt_fi_se)
  have F40 := F40.other Wz75 (own_o1 lt_fi_se)
  have F16 := F16.other Wz75 (own_o1 lt_fi_se)
  have F6 := F6.other Wz75 (own_o1 lt_fi_se)
  have F34 := F34.other Wz75 (own_o1 lt_fi_se)
  have F20 := F20.other Wz75 (own_o1 lt_fi_se)
  have F10 := F10.other Wz75 (own_o1 lt_fi_se)
  have F30 := F30.other Wz75 (own_o1 lt_fi_se)
  have F32 := F32.other Wz75 (own_o1 lt_fi_se)
  have V_ev := V_ev.other Wz75 (Nat.ne_of_lt lt_ev_se)
  have K := K.wr Wz75 (Or.inl (List.mem_of_getElem? (i := 3) rfl))
  have V_in_ := V_in_.other Wz75 (Nat.ne_of_lt lt_in__se)
  have V_st := V_st.other Wz75 (Nat.ne_of_lt lt_st_se)
  have V_se := V_se_
  show own_Go _ _ _ _ Tz75 (mkF m 109 #[oR fi, oI 0, oD oC, oS, oI 2] [])
  refine own_go (fun _ k => XS.aloadN Xz75.here hx rfl (hb hby own_d5_109) rfl rfl k) ?_
  show own_Go _ _ _ _ Tz75 (mkF m 110 #[oR fi, oI 0, oD oC, oS, oI 2] [(.ref fi)])
  refine own_go (fun _ k => XS.dup Xz75.here hx rfl (hb hby own_d5_110) rfl rfl k) ?_
  show own_Go _ _ _ _ Tz75 (mkF m 111 #[oR fi, oI 0, oD oC, oS, oI 2] [(.ref fi), (.ref fi)])
  obtain ⟨Tz76, Xz76, ez76, stz76⟩ := getF Xz75 hx hZ hown (host := "") (Or.inl (hw _ (List.mem_of_getElem? (i := 61) rfl))) Via.refl ez75 F34 (g := (mkF m 111 #[oR fi, oI 0, oD oC, oS, oI 2] [(.ref fi), (.ref fi)])) rfl rfl (hb hby own_d5_111)
  refine own_go stz76 ?_
  show own_Go _ _ _ _ Tz76 (mkF m 114 #[oR fi, oI 0, oD oC, oS, oI 2] [(.int 0), (.ref fi)])
  refine own_go (fun _ k => XS.iconst Xz76.here hx rfl (hb hby own_d5_114) k) ?_
  show own_Go _ _ _ _ Tz76 (mkF m 115 #[oR fi, oI 0, oD oC, oS, oI 2] [(.int 1), (.int 0), (.ref fi)])
  refine own_go (fun _ k => XS.iadd Xz76.here hx rfl (hb hby own_d5_115) rfl k) ?_
  show own_Go _ _ _ _ Tz76 (mkF m 116 #[oR fi, oI 0, oD oC, oS, oI 2] [(.int ((0 : Int32) + (1 : Int32))), (.ref fi)])
  obtain ⟨Tz77, hz77, Xz77, ez77, Wz77, stz77⟩ := putF Xz76 hx hZ hown (host := "") (Or.inl (hw _ (List.mem_of_getElem? (i := 61) rfl))) Via.refl ez76 F34 E_fi (Or.inl (hw _ (List.mem_of_getElem? (i := 62) rfl))) (hw _ (List.mem_of_getElem? (i := 23) rfl)) (ty := .int) (by decide) rfl rfl (g := (mkF m 116 #[oR fi, oI 0, oD oC, oS, oI 2] [(.int ((0 : Int32) + (1 : Int32))), (.ref fi)])) rfl rfl (hb hby own_d5_116)
  refine own_go stz77 ?_
  have Nz77 := Fr.snoc Xz77 Nz75 g_fi
  have F35 := F34.same Wz77
  have E_fi := E_fi.wr Wz77
  have F22 := F22.other Wz77 (own_sl hw 30 62 (Or.inl rfl) (Or.inl rfl) (by decide))
  have F0 := F0.other Wz77 (own_sl hw 32 62 (Or.inl rfl) (Or.inl rfl) (by decide))
  have F2 := F2.other Wz77 (own_sl hw 34 62 (Or.inl rfl) (Or.inl rfl) (by decide))
  have F38 := F38.other Wz77 (own_sl hw 36 62 (Or.inl rfl) (Or.inl rfl) (by decide))
  have F36 := F36.other Wz77 (own_sl hw 38 62 (Or.inl rfl) (Or.inl rfl) (by decide))
  have F18 := F18.other Wz77 (own_sl hw 40 62 (Or.inr rfl) (Or.inl rfl) (by decide))
  have F12 := F12.other Wz77 (own_sl hw 42 62 (Or.inr rfl) (Or.inl rfl) (by decide))
  have F26 := F26.other Wz77 (own_sl hw 44 62 (Or.inr rfl) (Or.inl rfl) (by decide))
  have F40 := F40.other Wz77 (own_sl hw 51 62 (Or.inl rfl) (Or.inl rfl) (by decide))
  have F16 := F16.other Wz77 (own_sl hw 58 62 (Or.inl rfl) (Or.inl rfl) (by decide))
  have F6 := F6.other Wz77 (own_sl hw 60 62 (Or.inl rfl) (Or.inl rfl) (by decide))
  have F20 := F20.other Wz77 (own_sl hw 73 62 (Or.inl rfl) (Or.inl rfl) (by decide))
  have F10 := F10.other Wz77 (own_sl hw 79 62 (Or.inl rfl) (Or.inl rfl) (by decide))
  have F30 := F30.other Wz77 (own_sl hw 69 62 (Or.inl rfl) (Or.inl rfl) (by decide))
  have F32 := F32.other Wz77 (own_sl hw 71 62 (Or.inl rfl) (Or.inl rfl) (by decide))
  have V_ev := V_ev.other Wz77 (Nat.ne_of_gt lt_fi_ev)
  have K := K.wr Wz77 (Or.inl (List.mem_of_getElem? (i := 0) rfl))
  have V_in_ := V_in_.other Wz77 (Nat.ne_of_gt lt_fi_in_)
  have V_st := V_st.other Wz77 (Nat.ne_of_gt lt_fi_st)
  have V_se := V_se.other Wz77 (Nat.ne_of_gt lt_fi_se)
  have F34 := F35
  show own_Go _ _ _ _ Tz77 (mkF m 119 #[oR fi, oI 0, oD oC, oS, oI 2] [])
  refine own_go (fun _ k => XS.aloadN Xz77.here hx rfl (hb hby own_d5_119) rfl rfl k) ?_
  show own_Go _ _ _ _ Tz77 (mkF m 120 #[oR fi, oI 0, oD oC, oS, oI 2] [(.ref fi)])
  refine own_go (fun _ k => XS.aloadN Xz77.here hx rfl (hb hby own_d5_120) rfl rfl k) ?_
  show own_Go _ _ _ _ Tz77 (mkF m 121 #[oR fi, oI 0, oD oC, oS, oI 2] [(.ref fi), (.ref fi)])
  obtain ⟨Tz78, Xz78, ez78, stz78⟩ := getF Xz77 hx hZ hown (host := "") (Or.inl (hw _ (List.mem_of_getElem? (i := 50) rfl))) Via.refl ez77 F40 (g := (mkF m 121 #[oR fi, oI 0, oD oC, oS, oI 2] [(.ref fi), (.ref fi)])) rfl rfl (hb hby own_d5_121)
  refine own_go stz78 ?_
  show own_Go _ _ _ _ Tz78 (mkF m 124 #[oR fi, oI 0, oD oC, oS, oI 2] [(.int 2), (.ref fi)])
  obtain ⟨Tz79, hz79, Xz79, ez79, Wz79, stz79⟩ := putF Xz78 hx hZ hown (host := "") (Or.inl (hw _ (List.mem_of_getElem? (i := 57) rfl))) Via.refl ez78 F16 E_fi (Or.inl (hw _ (List.mem_of_getElem? (i := 58) rfl))) (hw _ (List.mem_of_getElem? (i := 23) rfl)) (ty := .int) (by decide) rfl rfl (g := (mkF m 124 #[oR fi, oI 0, oD oC, oS, oI 2] [(.int 2), (.ref fi)])) rfl rfl (hb hby own_d5_124)
  refine own_go stz79 ?_
  have Nz79 := Fr.snoc Xz79 Nz77 g_fi
  have F17 := F16.same Wz79
  have E_fi := E_fi.wr Wz79
  have F22 := F22.other Wz79 (own_sl hw 30 58 (Or.inl rfl) (Or.inl rfl) (by decide))
  have F0 := F0.other Wz79 (own_sl hw 32 58 (Or.inl rfl) (Or.inl rfl) (by decide))
  have F2 := F2.other Wz79 (own_sl hw 34 58 (Or.inl rfl) (Or.inl rfl) (by decide))
  have F38 := F38.other Wz79 (own_sl hw 36 58 (Or.inl rfl) (Or.inl rfl) (by decide))
  have F36 := F36.other Wz79 (own_sl hw 38 58 (Or.inl rfl) (Or.inl rfl) (by decide))
  have F18 := F18.other Wz79 (own_sl hw 40 58 (Or.inr rfl) (Or.inl rfl) (by decide))
  have F12 := F12.other Wz79 (own_sl hw 42 58 (Or.inr rfl) (Or.inl rfl) (by decide))
  have F26 := F26.other Wz79 (own_sl hw 44 58 (Or.inr rfl) (Or.inl rfl) (by decide))
  have F40 := F40.other Wz79 (own_sl hw 51 58 (Or.inl rfl) (Or.inl rfl) (by decide))
  have F6 := F6.other Wz79 (own_sl hw 60 58 (Or.inl rfl) (Or.inl rfl) (by decide))
  have F20 := F20.other Wz79 (own_sl hw 73 58 (Or.inl rfl) (Or.inl rfl) (by decide))
  have F10 := F10.other Wz79 (own_sl hw 79 58 (Or.inl rfl) (Or.inl rfl) (by decide))
  have F30 := F30.other Wz79 (own_sl hw 69 58 (Or.inl rfl) (Or.inl rfl) (by decide))
  have F32 := F32.other Wz79 (own_sl hw 71 58 (Or.inl rfl) (Or.inl rfl) (by decide))
  have V_ev := V_ev.other Wz79 (Nat.ne_of_gt lt_fi_ev)
  have K := K.wr Wz79 (Or.inl (List.mem_of_getElem? (i := 0) rfl))
  have V_in_ := V_in_.other Wz79 (Nat.ne_of_gt lt_fi_in_)
  have V_st := V_st.other Wz79 (Nat.ne_of_gt lt_fi_st)
  have V_se := V_se.other Wz79 (Nat.ne_of_gt lt_fi_se)
  have F34 := F34.other Wz79 (own_sl hw 62 58 (Or.inl rfl) (Or.inl rfl) (by decide))
  have F16 := F17
  show own_Go _ _ _ _ Tz79 (mkF m 127 #[oR fi, oI 0, oD oC, oS, oI 2] [])
  exact own_end Xz79 hlk (v := none) (fun _ => rfl) (fun fs hr => Xz79.returnOut hx hret (hb hby own_d5_127) hr) (by rw [ez79]; exact ⟨rfl, Nz79, K, E_fi, F22, F0, F2, F38, F36, F18, F12, F26, F40, F16, F6, F34, F20, F10, F30, F32, V_ev, V_in_, V_st, V_se⟩) (by decide) (by decide)
theorem own_eflist0 (m : MethodId) (fi : Addr) (pn : Int32) : entryFrame m #[(.ref fi), (.int pn)] 2 = mkF m 0 #[oR fi, oI pn] [] := by first | (simp [entryFrame, mkF, argsToLocals, Value.category]; done) | rfl
theorem own_d8_0 : decode prog_12_method_7_code 0 = .ok (.aload_n 0, 1) := by decide +kernel
theorem own_d8_1 : decode prog_12_method_7_code 1 = .ok (.getfield 26, 3) := by decide +kernel
theorem own_d8_4 : decode prog_12_method_7_code 4 = .ok (.getfield 105, 3) := by decide +kernel
theorem own_d8_7 : decode prog_12_method_7_code 7 = .ok (.iload_n 1, 1) := by decide +kernel
theorem own_d8_8 : decode prog_12_method_7_code 8 = .ok (.baload, 1) := by decide +kernel
theorem own_d8_9 : decode prog_12_method_7_code 9 = .ok (.ifCond .eq 5, 3) := by decide +kernel
theorem own_d8_14 : decode prog_12_method_7_code 14 = .ok (.aload_n 0, 1) := by decide +kernel
theorem own_d8_15 : decode prog_12_method_7_code 15 = .ok (.getfield 74, 3) := by decide +kernel
theorem own_d8_18 : decode prog_12_method_7_code 18 = .ok (.aload_n 0, 1) := by decide +kernel
theorem own_d8_19 : decode prog_12_method_7_code 19 = .ok (.getfield 7, 3) := by decide +kernel
theorem own_d8_22 : decode prog_12_method_7_code 22 = .ok (.arraylength, 1) := by decide +kernel
theorem own_d8_23 : decode prog_12_method_7_code 23 = .ok (.if_icmp .ne 20, 3) := by decide +kernel
theorem own_d8_43 : decode prog_12_method_7_code 43 = .ok (.aload_n 0, 1) := by decide +kernel
theorem own_d8_44 : decode prog_12_method_7_code 44 = .ok (.getfield 7, 3) := by decide +kernel
theorem own_d8_47 : decode prog_12_method_7_code 47 = .ok (.aload_n 0, 1) := by decide +kernel
theorem own_d8_48 : decode prog_12_method_7_code 48 = .ok (.dup, 1) := by decide +kernel
theorem own_d8_49 : decode prog_12_method_7_code 49 = .ok (.getfield 74, 3) := by decide +kernel
theorem own_d8_52 : decode prog_12_method_7_code 52 = .ok (.dup_x1, 1) := by decide +kernel
theorem own_d8_53 : decode prog_12_method_7_code 53 = .ok (.iconst 1, 1) := by decide +kernel
theorem own_d8_54 : decode prog_12_method_7_code 54 = .ok (.iadd, 1) := by decide +kernel
theorem own_d8_55 : decode prog_12_method_7_code 55 = .ok (.putfield 74, 3) := by decide +kernel
theorem own_d8_58 : decode prog_12_method_7_code 58 = .ok (.iload_n 1, 1) := by decide +kernel
theorem own_d8_59 : decode prog_12_method_7_code 59 = .ok (.iastore, 1) := by decide +kernel
theorem own_d8_60 : decode prog_12_method_7_code 60 = .ok (.aload_n 0, 1) := by decide +kernel
theorem own_d8_61 : decode prog_12_method_7_code 61 = .ok (.getfield 26, 3) := by decide +kernel
theorem own_d8_64 : decode prog_12_method_7_code 64 = .ok (.getfield 105, 3) := by decide +kernel
theorem own_d8_67 : decode prog_12_method_7_code 67 = .ok (.iload_n 1, 1) := by decide +kernel
theorem own_d8_68 : decode prog_12_method_7_code 68 = .ok (.iconst 1, 1) := by decide +kernel
theorem own_d8_69 : decode prog_12_method_7_code 69 = .ok (.bastore, 1) := by decide +kernel
theorem own_d8_70 : decode prog_12_method_7_code 70 = .ok (.iconst 1, 1) := by decide +kernel
theorem own_d8_71 : decode prog_12_method_7_code 71 = .ok (.ireturn, 1) := by decide +kernel
def own_Qlist0 (Z : State) (le : Addr) (ex : Addr) (jo : Addr) (go : Addr) (pe : Addr) (li : Addr) (fi : Addr) (in_ : Addr) (ou : Addr) (fl : Addr) (el : Addr) (ev : Addr) (st : Addr) (se : Addr) (kex : ClassId) (kjo : ClassId) (kgo : ClassId) (kpe : ClassId) (kli : ClassId) (kin_ : ClassId) (kou : ClassId) (kfl : ClassId) (kel : ClassId) (kev : ClassId) (kst : ClassId) (kse : ClassId) (vt : Int32) (vj : Int32) (vf : Int32) (vs : Int32) (vh : Int32) (tt : UInt64) (tv : UInt64) (h0 : Heap) (n0 : Nat) (v : Option Value) (h : Heap) (L : List Loc) : Prop := v = some (.int 1) ∧ Fr n0 L ∧ Keep h0 h [fi, fl, li] ∧ Exa Z h fi "com/example/spillback/spillback/Fifo" ∧ Fld Z h fi "com/example/spillback/spillback/Fifo" "listed" "[I" (.ref fl) ∧ Fld Z h fi "com/example/spillback/spillback/Fifo" "entryLegs" "[I" (.ref el) ∧ Fld Z h fi "com/example/spillback/spillback/Fifo" "entryVehicles" "[D" (.ref ev) ∧ Fld Z h fi "com/example/spillback/spillback/Fifo" "steps" "[I" (.ref st) ∧ Fld Z h fi "com/example/spillback/spillback/Fifo" "stepEnds" "[I" (.ref se) ∧ Fld Z h fi "com/example/spillback/spillback/Fifo" "legs" "Lcom/example/spillback/spillback/Fifo$Legs;" (.ref le) ∧ Fld Z h fi "com/example/spillback/spillback/Fifo" "in" "[D" (.ref in_) ∧ Fld Z h fi "com/example/spillback/spillback/Fifo" "out" "[D" (.ref ou) ∧ Fld Z h fi "com/example/spillback/spillback/Fifo" "tail" "I" (.int vt) ∧ Fld Z h fi "com/example/spillback/spillback/Fifo" "joiningStart" "I" (.int vj) ∧ Fld Z h fi "com/example/spillback/spillback/Fifo" "firstStep" "I" (.int vf) ∧ Fld Z h fi "com/example/spillback/spillback/Fifo" "stepCount" "I" (.int vs) ∧ Fld Z h fi "com/example/spillback/spillback/Fifo" "listedCount" "I" (.int 1) ∧ Fld Z h fi "com/example/spillback/spillback/Fifo" "head" "I" (.int vh) ∧ Fld Z h fi "com/example/spillback/spillback/Fifo" "sliceTotal" "D" (.double tt) ∧ Fld Z h fi "com/example/spillback/spillback/Fifo" "sliceVehicles" "D" (.double tv) ∧ Arv Z h fl kfl .int 4 [(.int 0), (.int 0)] (.int 0) ∧ Arv Z h li kli .boolean (2 : Int32) [(.int 1), (.int 0)] (.int 0)
set_option maxRecDepth 65536 in
set_option maxHeartbeats 40000000 in
theorem own_rmlist0 (l : Launch) (Z : State) (a0 : Array Value) (hw : ∀ d ∈ tables_1, d.before a0 Z = true) (ws : List Jvm.Cond) (fi : Addr) (pn : Int32) (h0 : Heap) (n0 : Nat) (le ex jo go pe li in_ ou fl el ev st se : Addr) (kex kjo kgo kpe kli kin_ kou kfl kel kev kst kse : ClassId) (hc0 : n0 ≤ le) (hc1 : @LT.lt Nat _ le ex) (hc2 : @LT.lt Nat _ ex jo) (hc3 : @LT.lt Nat _ jo go) (hc4 : @LT.lt Nat _ go pe) (hc5 : @LT.lt Nat _ pe li) (hc6 : @LT.lt Nat _ li fi) (hc7 : @LT.lt Nat _ fi in_) (hc8 : @LT.lt Nat _ in_ ou) (hc9 : @LT.lt Nat _ ou fl) (hc10 : @LT.lt Nat _ fl el) (hc11 : @LT.lt Nat _ el ev) (hc12 : @LT.lt Nat _ ev st) (hc13 : @LT.lt Nat _ st se) (vt vj vf vs vh : Int32) (tt tv : UInt64) (hp : pn = (0 : Int32)) (E_fi : Exa Z h0 fi "com/example/spillback/spillback/Fifo") (F22 : Fld Z h0 fi "com/example/spillback/spillback/Fifo" "listed" "[I" (.ref fl)) (F0 : Fld Z h0 fi "com/example/spillback/spillback/Fifo" "entryLegs" "[I" (.ref el)) (F2 : Fld Z h0 fi "com/example/spillback/spillback/Fifo" "entryVehicles" "[D" (.ref ev)) (F38 : Fld Z h0 fi "com/example/spillback/spillback/Fifo" "steps" "[I" (.ref st)) (F36 : Fld Z h0 fi "com/example/spillback/spillback/Fifo" "stepEnds" "[I" (.ref se)) (F18 : Fld Z h0 fi "com/example/spillback/spillback/Fifo" "legs" "Lcom/example/spillback/spillback/Fifo$Legs;" (.ref le)) (F12 : Fld Z h0 fi "com/example/spillback/spillback/Fifo" "in" "[D" (.ref in_)) (F26 : Fld Z h0 fi "com/example/spillback/spillback/Fifo" "out" "[D" (.ref ou)) (F40 : Fld Z h0 fi "com/example/spillback/spillback/Fifo" "tail" "I" (.int vt)) (F16 : Fld Z h0 fi "com/example/spillback/spillback/Fifo" "joiningStart" "I" (.int vj)) (F6 : Fld Z h0 fi "com/example/spillback/spillback/Fifo" "firstStep" "I" (.int vf)) (F34 : Fld Z h0 fi "com/example/spillback/spillback/Fifo" "stepCount" "I" (.int vs)) (F20 : Fld Z h0 fi "com/example/spillback/spillback/Fifo" "listedCount" "I" (.int 0)) (F10 : Fld Z h0 fi "com/example/spillback/spillback/Fifo" "head" "I" (.int vh)) (F30 : Fld Z h0 fi "com/example/spillback/spillback/Fifo" "sliceTotal" "D" (.double tt)) (F32 : Fld Z h0 fi "com/example/spillback/spillback/Fifo" "sliceVehicles" "D" (.double tv)) (F24 : Fld Z h0 le "com/example/spillback/spillback/Fifo$Legs" "listed" "[Z" (.ref li)) (V_fl : Arv Z h0 fl kfl .int 4 [(.int 0), (.int 0)] (.int 0)) (V_li : Arv Z h0 li kli .boolean (2 : Int32) [(.int 0), (.int 0)] (.int 0)) :
    own_Met l Z (⟨"com/example/spillback/spillback/Fifo", "list", "(I)Z"⟩ : MethodName) prog_12_method_7_code 2 (some .boolean) ws ({ frames := 0, cells := 0, slots := 0, locals := 0 } : Room) #[(.ref fi), (.int pn)] h0 (own_Qlist0 Z le ex jo go pe li fi in_ ou fl el ev st se kex kjo kgo kpe kli kin_ kou kfl kel kev kst kse vt vj vf vs vh tt tv h0 n0) := by
  refine own_met (plainFor_of_name own_pn1) ?_
  intro p e s m below meth c s₁ X0 hx hZ hby hml hown hnm hret hlk e0
  have N0 := Fr.nil n0
  refine own_go (fun t k => castTop (own_eflist0 m fi pn) k) ?_
  have g_fi : @LE.le Nat _ n0 fi := by omega
  have lt_le_fi : @LT.lt Nat _ le fi := by omega
  have lt_fi_fl : @LT.lt Nat _ fi fl := by omega
  have lt_li_fi : @LT.lt Nat _ li fi := by omega
  have g_fl : @LE.le Nat _ n0 fl := by omega
  have lt_le_fl : @LT.lt Nat _ le fl := by omega
  have lt_li_fl : @LT.lt Nat _ li fl := by omega
  have g_li : @LE.le Nat _ n0 li := by omega
  have lt_le_li : @LT.lt Nat _ le li := by omega
  have K := Keep.refl h0 [fi, fl, li]
  show own_Go _ _ _ _ s₁ (mkF m 0 #[oR fi, oI pn] [])
  subst hp
  show own_Go _ _ _ _ s₁ (mkF m 0 #[oR fi, oI 0] [])
  refine own_go (fun _ k => XS.aloadN X0.here hx rfl (hb hby own_d8_0) rfl rfl k) ?_
  show own_Go _ _ _ _ s₁ (mkF m 1 #[oR fi, oI 0] [(.ref fi)])
  obtain ⟨Tz80, Xz80, ez80, stz80⟩ := getF X0 hx hZ hown (host := "") (Or.inl (hw _ (List.mem_of_getElem? (i := 39) rfl))) Via.refl e0 F18 (g := (mkF m 1 #[oR fi, oI 0] [(.ref fi)])) rfl rfl (hb hby own_d8_1)
  refine own_go stz80 ?_
  show own_Go _ _ _ _ Tz80 (mkF m 4 #[oR fi, oI 0] [(.ref le)])
  refine own_go (fun _ k => own_getR Xz80 hx hZ hown (hw _ (List.mem_of_getElem? (i := 84) rfl)) ez80 F24 (g := (mkF m 4 #[oR fi, oI 0] [(.ref le)])) rfl rfl (hb hby own_d8_4) _ k) ?_
  show own_Go _ _ _ _ Tz80 (mkF m 7 #[oR fi, oI 0] [(.ref li)])
  refine own_go (fun _ k => XS.iloadN Xz80.here hx rfl (hb hby own_d8_7) rfl k) ?_
  show own_Go _ _ _ _ Tz80 (mkF m 8 #[oR fi, oI 0] [(.int 0), (.ref li)])
  obtain ⟨clz82, Arz82, qz82, Sz82, Mz82, HHz82, Gz82⟩ := id V_li
  have hinz82 : ¬ ((0 : Int32) < 0 ∨ clz82.slots.size ≤ ((0 : Int32)).toNatClampNeg) := inb_of Sz82 ⟨(by decide), (by decide)⟩
  have hatz82 : clz82.slots[((0 : Int32)).toNatClampNeg]? = some (.int 0) := HHz82.at hinz82 (rfl)
  refine own_go (fun _ k => Xz80.baloadBooleans hx (j := (0 : Int32)) (v := (.int 0)) (by rw [ez80]; exact Arz82.1) (State.isArrayOf_alike hZ.alike Arz82.2.1) Arz82.2.2 hinz82 hatz82 (g := (mkF m 8 #[oR fi, oI 0] [(.int 0), (.ref li)])) rfl rfl (hb hby own_d8_8) _ k) ?_
  show own_Go _ _ _ _ Tz80 (mkF m 9 #[oR fi, oI 0] [(.int 0)])
  refine own_go (fun _ k => XS.ifYes Xz80.here hx rfl (pc0 := 9) (pc' := 14) rfl (hb hby own_d8_9) rfl ((if0 _ _).trans (teq (by decide : (0 : Int32) = (0 : Int32))).1) (by decide) (by decide) k) ?_
  show own_Go _ _ _ _ Tz80 (mkF m 14 #[oR fi, oI 0] [])
  refine own_go (fun _ k => XS.aloadN Xz80.here hx rfl (hb hby own_d8_14) rfl rfl k) ?_
  show own_Go _ _ _ _ Tz80 (mkF m 15 #[oR fi, oI 0] [(.ref fi)])
  obtain ⟨Tz83, Xz83, ez83, stz83⟩ := getF Xz80 hx hZ hown (host := "") (Or.inl (hw _ (List.mem_of_getElem? (i := 72) rfl))) Via.refl ez80 F20 (g := (mkF m 15 #[oR fi, oI 0] [(.ref fi)])) rfl rfl (hb hby own_d8_15)
  refine own_go stz83 ?_
  show own_Go _ _ _ _ Tz83 (mkF m 18 #[oR fi, oI 0] [(.int 0)])
  refine own_go (fun _ k => XS.aloadN Xz83.here hx rfl (hb hby own_d8_18) rfl rfl k) ?_
  show own_Go _ _ _ _ Tz83 (mkF m 19 #[oR fi, oI 0] [(.ref fi), (.int 0)])
  obtain ⟨Tz84, Xz84, ez84, stz84⟩ := getF Xz83 hx hZ hown (host := "") (Or.inl (hw _ (List.mem_of_getElem? (i := 29) rfl))) Via.refl ez83 F22 (g := (mkF m 19 #[oR fi, oI 0] [(.ref fi), (.int 0)])) rfl rfl (hb hby own_d8_19)
  refine own_go stz84 ?_
  show own_Go _ _ _ _ Tz84 (mkF m 22 #[oR fi, oI 0] [(.ref fl), (.int 0)])
  obtain ⟨clz85, Arz85, qz85, Sz85, Mz85, HHz85, Gz85⟩ := id V_fl
  refine own_go (fun _ k => Xz84.arraylength hx (by rw [ez84]; exact Arz85.1) (State.isArrayOf_alike hZ.alike Arz85.2.1) (g := (mkF m 22 #[oR fi, oI 0] [(.ref fl), (.int 0)])) rfl rfl (hb hby own_d8_22) _ k) ?_
  rw [len_of Sz85 Mz85]
  show own_Go _ _ _ _ Tz84 (mkF m 23 #[oR fi, oI 0] [(.int 4), (.int 0)])
  refine own_go (fun _ k => XS.icmpYes Xz84.here hx rfl (pc0 := 23) (pc' := 43) rfl (hb hby own_d8_23) rfl (feq (by decide : ¬ ((0 : Int32) = (4 : Int32)))).2 (by decide) (by decide) k) ?_
  show own_Go _ _ _ _ Tz84 (mkF m 43 #[oR fi, oI 0] [])
  refine own_go (fun _ k => XS.aloadN Xz84.here hx rfl (hb hby own_d8_43) rfl rfl k) ?_
  show own_Go _ _ _ _ Tz84 (mkF m 44 #[oR fi, oI 0] [(.ref fi)])
  obtain ⟨Tz86, Xz86, ez86, stz86⟩ := getF Xz84 hx hZ hown (host := "") (Or.inl (hw _ (List.mem_of_getElem? (i := 29) rfl))) Via.refl ez84 F22 (g := (mkF m 44 #[oR fi, oI 0] [(.ref fi)])) rfl rfl (hb hby own_d8_44)
  refine own_go stz86 ?_
  show own_Go _ _ _ _ Tz86 (mkF m 47 #[oR fi, oI 0] [(.ref fl)])
  refine own_go (fun _ k => XS.aloadN Xz86.here hx rfl (hb hby own_d8_47) rfl rfl k) ?_
  show own_Go _ _ _ _ Tz86 (mkF m 48 #[oR fi, oI 0] [(.ref fi), (.ref fl)])
  refine own_go (fun _ k => XS.dup Xz86.here hx rfl (hb hby own_d8_48) rfl rfl k) ?_
  show own_Go _ _ _ _ Tz86 (mkF m 49 #[oR fi, oI 0] [(.ref fi), (.ref fi), (.ref fl)])
  obtain ⟨Tz87, Xz87, ez87, stz87⟩ := getF Xz86 hx hZ hown (host := "") (Or.inl (hw _ (List.mem_of_getElem? (i := 72) rfl))) Via.refl ez86 F20 (g := (mkF m 49 #[oR fi, oI 0] [(.ref fi), (.ref fi), (.ref fl)])) rfl rfl (hb hby own_d8_49)
  refine own_go stz87 ?_
  show own_Go _ _ _ _ Tz87 (mkF m 52 #[oR fi, oI 0] [(.int 0), (.ref fi), (.ref fl)])
  refine own_go (fun _ k => XS.dupX1 Xz87.here hx rfl (hb hby own_d8_52) rfl rfl rfl k) ?_
  show own_Go _ _ _ _ Tz87 (mkF m 53 #[oR fi, oI 0] [(.int 0), (.ref fi), (.int 0), (.ref fl)])
  refine own_go (fun _ k => XS.iconst Xz87.here hx rfl (hb hby own_d8_53) k) ?_
  show own_Go _ _ _ _ Tz87 (mkF m 54 #[oR fi, oI 0] [(.int 1), (.int 0), (.ref fi), (.int 0), (.ref fl)])
  refine own_go (fun _ k => XS.iadd Xz87.here hx rfl (hb hby own_d8_54) rfl k) ?_
  show own_Go _ _ _ _ Tz87 (mkF m 55 #[oR fi, oI 0] [(.int ((0 : Int32) + (1 : Int32))), (.ref fi), (.int 0), (.ref fl)])
  obtain ⟨Tz88, hz88, Xz88, ez88, Wz88, stz88⟩ := putF Xz87 hx hZ hown (host := "") (Or.inl (hw _ (List.mem_of_getElem? (i := 72) rfl))) Via.refl ez87 F20 E_fi (Or.inl (hw _ (List.mem_of_getElem? (i := 73) rfl))) (hw _ (List.mem_of_getElem? (i := 23) rfl)) (ty := .int) (by decide) rfl rfl (g := (mkF m 55 #[oR fi, oI 0] [(.int ((0 : Int32) + (1 : Int32))), (.ref fi), (.int 0), (.ref fl)])) rfl rfl (hb hby own_d8_55)
  refine own_go stz88 ?_
  have Nz88 := Fr.snoc Xz88 N0 g_fi
  have F21 := F20.same Wz88
  have E_fi := E_fi.wr Wz88
  have F22 := F22.other Wz88 (own_sl hw 30 73 (Or.inl rfl) (Or.inl rfl) (by decide))
  have F0 := F0.other Wz88 (own_sl hw 32 73 (Or.inl rfl) (Or.inl rfl) (by decide))
  have F2 := F2.other Wz88 (own_sl hw 34 73 (Or.inl rfl) (Or.inl rfl) (by decide))
  have F38 := F38.other Wz88 (own_sl hw 36 73 (Or.inl rfl) (Or.inl rfl) (by decide))
  have F36 := F36.other Wz88 (own_sl hw 38 73 (Or.inl rfl) (Or.inl rfl) (by decide))
  have F18 := F18.other Wz88 (own_sl hw 40 73 (Or.inr rfl) (Or.inl rfl) (by decide))
  have F12 := F12.other Wz88 (own_sl hw 42 73 (Or.inr rfl) (Or.inl rfl) (by decide))
  have F26 := F26.other Wz88 (own_sl hw 44 73 (Or.inr rfl) (Or.inl rfl) (by decide))
  have F40 := F40.other Wz88 (own_sl hw 51 73 (Or.inl rfl) (Or.inl rfl) (by decide))
  have F16 := F16.other Wz88 (own_sl hw 58 73 (Or.inl rfl) (Or.inl rfl) (by decide))
  have F6 := F6.other Wz88 (own_sl hw 60 73 (Or.inl rfl) (Or.inl rfl) (by decide))
  have F34 := F34.other Wz88 (own_sl hw 62 73 (Or.inl rfl) (Or.inl rfl) (by decide))
  have F10 := F10.other Wz88 (own_sl hw 79 73 (Or.inl rfl) (Or.inl rfl) (by decide))
  have F30 := F30.other Wz88 (own_sl hw 69 73 (Or.inl rfl) (Or.inl rfl) (by decide))
  have F32 := F32.other Wz88 (own_sl hw 71 73 (Or.inl rfl) (Or.inl rfl) (by decide))
  have F24 := F24.other Wz88 (own_o1 lt_le_fi)
  have V_fl := V_fl.other Wz88 (Nat.ne_of_gt lt_fi_fl)
  have V_li := V_li.other Wz88 (Nat.ne_of_lt lt_li_fi)
  have K := K.wr Wz88 (Or.inl (List.mem_of_getElem? (i := 0) rfl))
  have F20 := F21
  show own_Go _ _ _ _ Tz88 (mkF m 58 #[oR fi, oI 0] [(.int 0), (.ref fl)])
  refine own_go (fun _ k => XS.iloadN Xz88.here hx rfl (hb hby own_d8_58) rfl k) ?_
  show own_Go _ _ _ _ Tz88 (mkF m 59 #[oR fi, oI 0] [(.int 0), (.int 0), (.ref fl)])
  obtain ⟨clz89, Arz89, qz89, Sz89, Mz89, HHz89, Gz89⟩ := V_fl
  have hinz89 : ¬ ((0 : Int32) < 0 ∨ clz89.slots.size ≤ ((0 : Int32)).toNatClampNeg) := inb_of Sz89 ⟨(by decide), (by decide)⟩
  obtain ⟨Tz89, hz89, Xz89, ez89, Wz89, stz89⟩ := stI Xz88 hx hZ ez88 Arz89 (j := (0 : Int32)) hinz89 (g := (mkF m 59 #[oR fi, oI 0] [(.int 0), (.int 0), (.ref fl)])) rfl rfl (hb hby own_d8_59)
  refine own_go stz89 ?_
  have V_fl_ : Arv Z hz89 fl kfl .int 4 [(.int 0), (.int 0)] (.int 0) := Arv.set Arz89 qz89 Sz89 Mz89 HHz89 Gz89 rfl Wz89 0 rfl (Nat.le_of_ble_eq_true rfl)
  have Nz89 := Fr.snoc Xz89 Nz88 g_fl
  have E_fi := E_fi.wr Wz89
  have F22 := F22.other Wz89 (own_o1 lt_fi_fl)
  have F0 := F0.other Wz89 (own_o1 lt_fi_fl)
  have F2 := F2.other Wz89 (own_o1 lt_fi_fl)
  have F38 := F38.other Wz89 (own_o1 lt_fi_fl)
  have F36 := F36.other Wz89 (own_o1 lt_fi_fl)
  have F18 := F18.other Wz89 (own_o1 lt_fi_fl)
  have F12 := F12.other Wz89 (own_o1 lt_fi_fl)
  have F26 := F26.other Wz89 (own_o1 lt_fi_fl)
  have F40 := F40.other Wz89 (own_o1 lt_fi_fl)
  have F16 := F16.other Wz89 (own_o1 lt_fi_fl)
  have F6 := F6.other Wz89 (own_o1 lt_fi_fl)
  have F34 := F34.other Wz89 (own_o1 lt_fi_fl)
  have F10 := F10.other Wz89 (own_o1 lt_fi_fl)
  have F30 := F30.other Wz89 (own_o1 lt_fi_fl)
  have F32 := F32.other Wz89 (own_o1 lt_fi_fl)
  have F24 := F24.other Wz89 (own_o1 lt_le_fl)
  have V_li := V_li.other Wz89 (Nat.ne_of_lt lt_li_fl)
  have K := K.wr Wz89 (Or.inl (List.mem_of_getElem? (i := 1) rfl))
  have F20 := F20.other Wz89 (own_o1 lt_fi_fl)
  have V_fl := V_fl_
  show own_Go _ _ _ _ Tz89 (mkF m 60 #[oR fi, oI 0] [])
  refine own_go (fun _ k => XS.aloadN Xz89.here hx rfl (hb hby own_d8_60) rfl rfl k) ?_
  show own_Go _ _ _ _ Tz89 (mkF m 61 #[oR fi, oI 0] [(.ref fi)])
  obtain ⟨Tz90, Xz90, ez90, stz90⟩ := getF Xz89 hx hZ hown (host := "") (Or.inl (hw _ (List.mem_of_getElem? (i := 39) rfl))) Via.refl ez89 F18 (g := (mkF m 61 #[oR fi, oI 0] [(.ref fi)])) rfl rfl (hb hby own_d8_61)
  refine own_go stz90 ?_
  show own_Go _ _ _ _ Tz90 (mkF m 64 #[oR fi, oI 0] [(.ref le)])
  refine own_go (fun _ k => own_getR Xz90 hx hZ hown (hw _ (List.mem_of_getElem? (i := 84) rfl)) ez90 F24 (g := (mkF m 64 #[oR fi, oI 0] [(.ref le)])) rfl rfl (hb hby own_d8_64) _ k) ?_
  show own_Go _ _ _ _ Tz90 (mkF m 67 #[oR fi, oI 0] [(.ref li)])
  refine own_go (fun _ k => XS.iloadN Xz90.here hx rfl (hb hby own_d8_67) rfl k) ?_
  show own_Go _ _ _ _ Tz90 (mkF m 68 #[oR fi, oI 0] [(.int 0), (.ref li)])
  refine own_go (fun _ k => XS.iconst Xz90.here hx rfl (hb hby own_d8_68) k) ?_
  show own_Go _ _ _ _ Tz90 (mkF m 69 #[oR fi, oI 0] [(.int 1), (.int 0), (.ref li)])
  obtain ⟨clz92, Arz92, qz92, Sz92, Mz92, HHz92, Gz92⟩ := V_li
  have hinz92 : ¬ ((0 : Int32) < 0 ∨ clz92.slots.size ≤ ((0 : Int32)).toNatClampNeg) := inb_of Sz92 ⟨(by decide), (by decide)⟩
  obtain ⟨Tz92, hz92, Xz92, ez92, Wz92, stz92⟩ := stZ Xz90 hx hZ ez90 Arz92 (j := (0 : Int32)) hinz92 (g := (mkF m 69 #[oR fi, oI 0] [(.int 1), (.int 0), (.ref li)])) rfl rfl (hb hby own_d8_69)
  refine own_go stz92 ?_
  have V_li_ : Arv Z hz92 li kli .boolean (2 : Int32) [(.int 1), (.int 0)] (.int 0) := Arv.set Arz92 qz92 Sz92 Mz92 HHz92 Gz92 (fits_nar_bool _) Wz92 0 rfl (Nat.le_of_ble_eq_true rfl)
  have Nz92 := Fr.snoc Xz92 Nz89 g_li
  have E_fi := E_fi.wr Wz92
  have F22 := F22.other Wz92 (own_o2 lt_li_fi)
  have F0 := F0.other Wz92 (own_o2 lt_li_fi)
  have F2 := F2.other Wz92 (own_o2 lt_li_fi)
  have F38 := F38.other Wz92 (own_o2 lt_li_fi)
  have F36 := F36.other Wz92 (own_o2 lt_li_fi)
  have F18 := F18.other Wz92 (own_o2 lt_li_fi)
  have F12 := F12.other Wz92 (own_o2 lt_li_fi)
  have F26 := F26.other Wz92 (own_o2 lt_li_fi)
  have F40 := F40.other Wz92 (own_o2 lt_li_fi)
  have F16 := F16.other Wz92 (own_o2 lt_li_fi)
  have F6 := F6.other Wz92 (own_o2 lt_li_fi)
  have F34 := F34.other Wz92 (own_o2 lt_li_fi)
  have F10 := F10.other Wz92 (own_o2 lt_li_fi)
  have F30 := F30.other Wz92 (own_o2 lt_li_fi)
  have F32 := F32.other Wz92 (own_o2 lt_li_fi)
  have F24 := F24.other Wz92 (own_o1 lt_le_li)
  have K := K.wr Wz92 (Or.inl (List.mem_of_getElem? (i := 2) rfl))
  have F20 := F20.other Wz92 (own_o2 lt_li_fi)
  have V_fl := V_fl.other Wz92 (Nat.ne_of_gt lt_li_fl)
  have V_li := V_li_
  show own_Go _ _ _ _ Tz92 (mkF m 70 #[oR fi, oI 0] [])
  refine own_go (fun _ k => XS.iconst Xz92.here hx rfl (hb hby own_d8_70) k) ?_
  show own_Go _ _ _ _ Tz92 (mkF m 71 #[oR fi, oI 0] [(.int 1)])
  exact own_end Xz92 hlk (v := (some (.int 1))) (fun h => by rw [hret] at h; cases h) (fun fs hr => retN Xz92 hx (t := .boolean) hret (by simp) (hb hby own_d8_71) hr) (by rw [ez92]; exact ⟨rfl, Nz92, K, E_fi, F22, F0, F2, F38, F36, F18, F12, F26, F40, F16, F6, F34, F20, F10, F30, F32, V_fl, V_li⟩) (by decide) (by decide)
theorem own_eflist1 (m : MethodId) (fi : Addr) (pn : Int32) : entryFrame m #[(.ref fi), (.int pn)] 2 = mkF m 0 #[oR fi, oI pn] [] := by first | (simp [entryFrame, mkF, argsToLocals, Value.category]; done) | rfl
def own_Qlist1 (Z : State) (le : Addr) (ex : Addr) (jo : Addr) (go : Addr) (pe : Addr) (li : Addr) (fi : Addr) (in_ : Addr) (ou : Addr) (fl : Addr) (el : Addr) (ev : Addr) (st : Addr) (se : Addr) (kex : ClassId) (kjo : ClassId) (kgo : ClassId) (kpe : ClassId) (kli : ClassId) (kin_ : ClassId) (kou : ClassId) (kfl : ClassId) (kel : ClassId) (kev : ClassId) (kst : ClassId) (kse : ClassId) (vt : Int32) (vj : Int32) (vf : Int32) (vs : Int32) (vh : Int32) (tt : UInt64) (tv : UInt64) (h0 : Heap) (n0 : Nat) (v : Option Value) (h : Heap) (L : List Loc) : Prop := v = some (.int 1) ∧ Fr n0 L ∧ Keep h0 h [fi, fl, li] ∧ Exa Z h fi "com/example/spillback/spillback/Fifo" ∧ Fld Z h fi "com/example/spillback/spillback/Fifo" "listed" "[I" (.ref fl) ∧ Fld Z h fi "com/example/spillback/spillback/Fifo" "entryLegs" "[I" (.ref el) ∧ Fld Z h fi "com/example/spillback/spillback/Fifo" "entryVehicles" "[D" (.ref ev) ∧ Fld Z h fi "com/example/spillback/spillback/Fifo" "steps" "[I" (.ref st) ∧ Fld Z h fi "com/example/spillback/spillback/Fifo" "stepEnds" "[I" (.ref se) ∧ Fld Z h fi "com/example/spillback/spillback/Fifo" "legs" "Lcom/example/spillback/spillback/Fifo$Legs;" (.ref le) ∧ Fld Z h fi "com/example/spillback/spillback/Fifo" "in" "[D" (.ref in_) ∧ Fld Z h fi "com/example/spillback/spillback/Fifo" "out" "[D" (.ref ou) ∧ Fld Z h fi "com/example/spillback/spillback/Fifo" "tail" "I" (.int vt) ∧ Fld Z h fi "com/example/spillback/spillback/Fifo" "joiningStart" "I" (.int vj) ∧ Fld Z h fi "com/example/spillback/spillback/Fifo" "firstStep" "I" (.int vf) ∧ Fld Z h fi "com/example/spillback/spillback/Fifo" "stepCount" "I" (.int vs) ∧ Fld Z h fi "com/example/spillback/spillback/Fifo" "listedCount" "I" (.int 2) ∧ Fld Z h fi "com/example/spillback/spillback/Fifo" "head" "I" (.int vh) ∧ Fld Z h fi "com/example/spillback/spillback/Fifo" "sliceTotal" "D" (.double tt) ∧ Fld Z h fi "com/example/spillback/spillback/Fifo" "sliceVehicles" "D" (.double tv) ∧ Arv Z h fl kfl .int 4 [(.int 0), (.int 1)] (.int 0) ∧ Arv Z h li kli .boolean (2 : Int32) [(.int 1), (.int 1)] (.int 0)
set_option maxRecDepth 65536 in
set_option maxHeartbeats 40000000 in
theorem own_rmlist1 (l : Launch) (Z : State) (a0 : Array Value) (hw : ∀ d ∈ tables_1, d.before a0 Z = true) (ws : List Jvm.Cond) (fi : Addr) (pn : Int32) (h0 : Heap) (n0 : Nat) (le ex jo go pe li in_ ou fl el ev st se : Addr) (kex kjo kgo kpe kli kin_ kou kfl kel kev kst kse : ClassId) (hc0 : n0 ≤ le) (hc1 : @LT.lt Nat _ le ex) (hc2 : @LT.lt Nat _ ex jo) (hc3 : @LT.lt Nat _ jo go) (hc4 : @LT.lt Nat _ go pe) (hc5 : @LT.lt Nat _ pe li) (hc6 : @LT.lt Nat _ li fi) (hc7 : @LT.lt Nat _ fi in_) (hc8 : @LT.lt Nat _ in_ ou) (hc9 : @LT.lt Nat _ ou fl) (hc10 : @LT.lt Nat _ fl el) (hc11 : @LT.lt Nat _ el ev) (hc12 : @LT.lt Nat _ ev st) (hc13 : @LT.lt Nat _ st se) (vt vj vf vs vh : Int32) (tt tv : UInt64) (hp : pn = (1 : Int32)) (E_fi : Exa Z h0 fi "com/example/spillback/spillback/Fifo") (F22 : Fld Z h0 fi "com/example/spillback/spillback/Fifo" "listed" "[I" (.ref fl)) (F0 : Fld Z h0 fi "com/example/spillback/spillback/Fifo" "entryLegs" "[I" (.ref el)) (F2 : Fld Z h0 fi "com/example/spillback/spillback/Fifo" "entryVehicles" "[D" (.ref ev)) (F38 : Fld Z h0 fi "com/example/spillback/spillback/Fifo" "steps" "[I" (.ref st)) (F36 : Fld Z h0 fi "com/example/spillback/spillback/Fifo" "stepEnds" "[I" (.ref se)) (F18 : Fld Z h0 fi "com/example/spillback/spillback/Fifo" "legs" "Lcom/example/spillback/spillback/Fifo$Legs;" (.ref le)) (F12 : Fld Z h0 fi "com/example/spillback/spillback/Fifo" "in" "[D" (.ref in_)) (F26 : Fld Z h0 fi "com/example/spillback/spillback/Fifo" "out" "[D" (.ref ou)) (F40 : Fld Z h0 fi "com/example/spillback/spillback/Fifo" "tail" "I" (.int vt)) (F16 : Fld Z h0 fi "com/example/spillback/spillback/Fifo" "joiningStart" "I" (.int vj)) (F6 : Fld Z h0 fi "com/example/spillback/spillback/Fifo" "firstStep" "I" (.int vf)) (F34 : Fld Z h0 fi "com/example/spillback/spillback/Fifo" "stepCount" "I" (.int vs)) (F20 : Fld Z h0 fi "com/example/spillback/spillback/Fifo" "listedCount" "I" (.int 1)) (F10 : Fld Z h0 fi "com/example/spillback/spillback/Fifo" "head" "I" (.int vh)) (F30 : Fld Z h0 fi "com/example/spillback/spillback/Fifo" "sliceTotal" "D" (.double tt)) (F32 : Fld Z h0 fi "com/example/spillback/spillback/Fifo" "sliceVehicles" "D" (.double tv)) (F24 : Fld Z h0 le "com/example/spillback/spillback/Fifo$Legs" "listed" "[Z" (.ref li)) (V_fl : Arv Z h0 fl kfl .int 4 [(.int 0), (.int 0)] (.int 0)) (V_li : Arv Z h0 li kli .boolean (2 : Int32) [(.int 1), (.int 0)] (.int 0)) :
    own_Met l Z (⟨"com/example/spillback/spillback/Fifo", "list", "(I)Z"⟩ : MethodName) prog_12_method_7_code 2 (some .boolean) ws ({ frames := 0, cells := 0, slots := 0, locals := 0 } : Room) #[(.ref fi), (.int pn)] h0 (own_Qlist1 Z le ex jo go pe li fi in_ ou fl el ev st se kex kjo kgo kpe kli kin_ kou kfl kel kev kst kse vt vj vf vs vh tt tv h0 n0) := by
  refine own_met (plainFor_of_name own_pn1) ?_
  intro p e s m below meth c s₁ X0 hx hZ hby hml hown hnm hret hlk e0
  have N0 := Fr.nil n0
  refine own_go (fun t k => castTop (own_eflist1 m fi pn) k) ?_
  have g_fi : @LE.le Nat _ n0 fi := by omega
  have lt_le_fi : @LT.lt Nat _ le fi := by omega
  have lt_fi_fl : @LT.lt Nat _ fi fl := by omega
  have lt_li_fi : @LT.lt Nat _ li fi := by omega
  have g_fl : @LE.le Nat _ n0 fl := by omega
  have lt_le_fl : @LT.lt Nat _ le fl := by omega
  have lt_li_fl : @LT.lt Nat _ li fl := by omega
  have g_li : @LE.le Nat _ n0 li := by omega
  have lt_le_li : @LT.lt Nat _ le li := by omega
  have K := Keep.refl h0 [fi, fl, li]
  show own_Go _ _ _ _ s₁ (mkF m 0 #[oR fi, oI pn] [])
  subst hp
  show own_Go _ _ _ _ s₁ (mkF m 0 #[oR fi, oI 1] [])
  refine own_go (fun _ k => XS.aloadN X0.here hx rfl (hb hby own_d8_0) rfl rfl k) ?_
  show own_Go _ _ _ _ s₁ (mkF m 1 #[oR fi, oI 1] [(.ref fi)])
  obtain ⟨Tz93, Xz93, ez93, stz93⟩ := getF X0 hx hZ hown (host := "") (Or.inl (hw _ (List.mem_of_getElem? (i := 39) rfl))) Via.refl e0 F18 (g := (mkF m 1 #[oR fi, oI 1] [(.ref fi)])) rfl rfl (hb hby own_d8_1)
  refine own_go stz93 ?_
  show own_Go _ _ _ _ Tz93 (mkF m 4 #[oR fi, oI 1] [(.ref le)])
  refine own_go (fun _ k => own_getR Xz93 hx hZ hown (hw _ (List.mem_of_getElem? (i := 84) rfl)) ez93 F24 (g := (mkF m 4 #[oR fi, oI 1] [(.ref le)])) rfl rfl (hb hby own_d8_4) _ k) ?_
  show own_Go _ _ _ _ Tz93 (mkF m 7 #[oR fi, oI 1] [(.ref li)])
  refine own_go (fun _ k => XS.iloadN Xz93.here hx rfl (hb hby own_d8_7) rfl k) ?_
  show own_Go _ _ _ _ Tz93 (mkF m 8 #[oR fi, oI 1] [(.int 1), (.ref li)])
  obtain ⟨clz95, Arz95, qz95, Sz95, Mz95, HHz95, Gz95⟩ := id V_li
  have hinz95 : ¬ ((1 : Int32) < 0 ∨ clz95.slots.size ≤ ((1 : Int32)).toNatClampNeg) := inb_of Sz95 ⟨(by decide), (by decide)⟩
  have hatz95 : clz95.slots[((1 : Int32)).toNatClampNeg]? = some (.int 0) := HHz95.at hinz95 (rfl)
  refine own_go (fun _ k => Xz93.baloadBooleans hx (j := (1 : Int32)) (v := (.int 0)) (by rw [ez93]; exact Arz95.1) (State.isArrayOf_alike hZ.alike Arz95.2.1) Arz95.2.2 hinz95 hatz95 (g := (mkF m 8 #[oR fi, oI 1] [(.int 1), (.ref li)])) rfl rfl (hb hby own_d8_8) _ k) ?_
  show own_Go _ _ _ _ Tz93 (mkF m 9 #[oR fi, oI 1] [(.int 0)])
  refine own_go (fun _ k => XS.ifYes Xz93.here hx rfl (pc0 := 9) (pc' := 14) rfl (hb hby own_d8_9) rfl ((if0 _ _).trans (teq (by decide : (0 : Int32) = (0 : Int32))).1) (by decide) (by decide) k) ?_
  show own_Go _ _ _ _ Tz93 (mkF m 14 #[oR fi, oI 1] [])
  refine own_go (fun _ k => XS.aloadN Xz93.here hx rfl (hb hby own_d8_14) rfl rfl k) ?_
  show own_Go _ _ _ _ Tz93 (mkF m 15 #[oR fi, oI 1] [(.ref fi)])
  obtain ⟨Tz96, Xz96, ez96, stz96⟩ := getF Xz93 hx hZ hown (host := "") (Or.inl (hw _ (List.mem_of_getElem? (i := 72) rfl))) Via.refl ez93 F20 (g := (mkF m 15 #[oR fi, oI 1] [(.ref fi)])) rfl rfl (hb hby own_d8_15)
  refine own_go stz96 ?_
  show own_Go _ _ _ _ Tz96 (mkF m 18 #[oR fi, oI 1] [(.int 1)])
  refine own_go (fun _ k => XS.aloadN Xz96.here hx rfl (hb hby own_d8_18) rfl rfl k) ?_
  show own_Go _ _ _ _ Tz96 (mkF m 19 #[oR fi, oI 1] [(.ref fi), (.int 1)])
  obtain ⟨Tz97, Xz97, ez97, stz97⟩ := getF Xz96 hx hZ hown (host := "") (Or.inl (hw _ (List.mem_of_getElem? (i := 29) rfl))) Via.refl ez96 F22 (g := (mkF m 19 #[oR fi, oI 1] [(.ref fi), (.int 1)])) rfl rfl (hb hby own_d8_19)
  refine own_go stz97 ?_
  show own_Go _ _ _ _ Tz97 (mkF m 22 #[oR fi, oI 1] [(.ref fl), (.int 1)])
  obtain ⟨clz98, Arz98, qz98, Sz98, Mz98, HHz98, Gz98⟩ := id V_fl
  refine own_go (fun _ k => Xz97.arraylength hx (by rw [ez97]; exact Arz98.1) (State.isArrayOf_alike hZ.alike Arz98.2.1) (g := (mkF m 22 #[oR fi, oI 1] [(.ref fl), (.int 1)])) rfl rfl (hb hby own_d8_22) _ k) ?_
  rw [len_of Sz98 Mz98]
  show own_Go _ _ _ _ Tz97 (mkF m 23 #[oR fi, oI 1] [(.int 4), (.int 1)])
  refine own_go (fun _ k => XS.icmpYes Xz97.here hx rfl (pc0 := 23) (pc' := 43) rfl (hb hby own_d8_23) rfl (feq (by decide : ¬ ((1 : Int32) = (4 : Int32)))).2 (by decide) (by decide) k) ?_
  show own_Go _ _ _ _ Tz97 (mkF m 43 #[oR fi, oI 1] [])
  refine own_go (fun _ k => XS.aloadN Xz97.here hx rfl (hb hby own_d8_43) rfl rfl k) ?_
  show own_Go _ _ _ _ Tz97 (mkF m 44 #[oR fi, oI 1] [(.ref fi)])
  obtain ⟨Tz99, Xz99, ez99, stz99⟩ := getF Xz97 hx hZ hown (host := "") (Or.inl (hw _ (List.mem_of_getElem? (i := 29) rfl))) Via.refl ez97 F22 (g := (mkF m 44 #[oR fi, oI 1] [(.ref fi)])) rfl rfl (hb hby own_d8_44)
  refine own_go stz99 ?_
  show own_Go _ _ _ _ Tz99 (mkF m 47 #[oR fi, oI 1] [(.ref fl)])
  refine own_go (fun _ k => XS.aloadN Xz99.here hx rfl (hb hby own_d8_47) rfl rfl k) ?_
  show own_Go _ _ _ _ Tz99 (mkF m 48 #[oR fi, oI 1] [(.ref fi), (.ref fl)])
  refine own_go (fun _ k => XS.dup Xz99.here hx rfl (hb hby own_d8_48) rfl rfl k) ?_
  show own_Go _ _ _ _ Tz99 (mkF m 49 #[oR fi, oI 1] [(.ref fi), (.ref fi), (.ref fl)])
  obtain ⟨Tz100, Xz100, ez100, stz100⟩ := getF Xz99 hx hZ hown (host := "") (Or.inl (hw _ (List.mem_of_getElem? (i := 72) rfl))) Via.refl ez99 F20 (g := (mkF m 49 #[oR fi, oI 1] [(.ref fi), (.ref fi), (.ref fl)])) rfl rfl (hb hby own_d8_49)
  refine own_go stz100 ?_
  show own_Go _ _ _ _ Tz100 (mkF m 52 #[oR fi, oI 1] [(.int 1), (.ref fi), (.ref fl)])
  refine own_go (fun _ k => XS.dupX1 Xz100.here hx rfl (hb hby own_d8_52) rfl rfl rfl k) ?_
  show own_Go _ _ _ _ Tz100 (mkF m 53 #[oR fi, oI 1] [(.int 1), (.ref fi), (.int 1), (.ref fl)])
  refine own_go (fun _ k => XS.iconst Xz100.here hx rfl (hb hby own_d8_53) k) ?_
  show own_Go _ _ _ _ Tz100 (mkF m 54 #[oR fi, oI 1] [(.int 1), (.int 1), (.ref fi), (.int 1), (.ref fl)])
  refine own_go (fun _ k => XS.iadd Xz100.here hx rfl (hb hby own_d8_54) rfl k) ?_
  show own_Go _ _ _ _ Tz100 (mkF m 55 #[oR fi, oI 1] [(.int ((1 : Int32) + (1 : Int32))), (.ref fi), (.int 1), (.ref fl)])
  obtain ⟨Tz101, hz101, Xz101, ez101, Wz101, stz101⟩ := putF Xz100 hx hZ hown (host := "") (Or.inl (hw _ (List.mem_of_getElem? (i := 72) rfl))) Via.refl ez100 F20 E_fi (Or.inl (hw _ (List.mem_of_getElem? (i := 73) rfl))) (hw _ (List.mem_of_getElem? (i := 23) rfl)) (ty := .int) (by decide) rfl rfl (g := (mkF m 55 #[oR fi, oI 1] [(.int ((1 : Int32) + (1 : Int32))), (.ref fi), (.int 1), (.ref fl)])) rfl rfl (hb hby own_d8_55)
  refine own_go stz101 ?_
  have Nz101 := Fr.snoc Xz101 N0 g_fi
  have F21 := F20.same Wz101
  have E_fi := E_fi.wr Wz101
  have F22 := F22.other Wz101 (own_sl hw 30 73 (Or.inl rfl) (Or.inl rfl) (by decide))
  have F0 := F0.other Wz101 (own_sl hw 32 73 (Or.inl rfl) (Or.inl rfl) (by decide))
  have F2 := F2.other Wz101 (own_sl hw 34 73 (Or.inl rfl) (Or.inl rfl) (by decide))
  have F38 := F38.other Wz101 (own_sl hw 36 73 (Or.inl rfl) (Or.inl rfl) (by decide))
  have F36 := F36.other Wz101 (own_sl hw 38 73 (Or.inl rfl) (Or.inl rfl) (by decide))
  have F18 := F18.other Wz101 (own_sl hw 40 73 (Or.inr rfl) (Or.inl rfl) (by decide))
  have F12 := F12.other Wz101 (own_sl hw 42 73 (Or.inr rfl) (Or.inl rfl) (by decide))
  have F26 := F26.other Wz101 (own_sl hw 44 73 (Or.inr rfl) (Or.inl rfl) (by decide))
  have F40 := F40.other Wz101 (own_sl hw 51 73 (Or.inl rfl) (Or.inl rfl) (by decide))
  have F16 := F16.other Wz101 (own_sl hw 58 73 (Or.inl rfl) (Or.inl rfl) (by decide))
  have F6 := F6.other Wz101 (own_sl hw 60 73 (Or.inl rfl) (Or.inl rfl) (by decide))
  have F34 := F34.other Wz101 (own_sl hw 62 73 (Or.inl rfl) (Or.inl rfl) (by decide))
  have F10 := F10.other Wz101 (own_sl hw 79 73 (Or.inl rfl) (Or.inl rfl) (by decide))
  have F30 := F30.other Wz101 (own_sl hw 69 73 (Or.inl rfl) (Or.inl rfl) (by decide))
  have F32 := F32.other Wz101 (own_sl hw 71 73 (Or.inl rfl) (Or.inl rfl) (by decide))
  have F24 := F24.other Wz101 (own_o1 lt_le_fi)
  have V_fl := V_fl.other Wz101 (Nat.ne_of_gt lt_fi_fl)
  have V_li := V_li.other Wz101 (Nat.ne_of_lt lt_li_fi)
  have K := K.wr Wz101 (Or.inl (List.mem_of_getElem? (i := 0) rfl))
  have F20 := F21
  show own_Go _ _ _ _ Tz101 (mkF m 58 #[oR fi, oI 1] [(.int 1), (.ref fl)])
  refine own_go (fun _ k => XS.iloadN Xz101.here hx rfl (hb hby own_d8_58) rfl k) ?_
  show own_Go _ _ _ _ Tz101 (mkF m 59 #[oR fi, oI 1] [(.int 1), (.int 1), (.ref fl)])
  obtain ⟨clz102, Arz102, qz102, Sz102, Mz102, HHz102, Gz102⟩ := V_fl
  have hinz102 : ¬ ((1 : Int32) < 0 ∨ clz102.slots.size ≤ ((1 : Int32)).toNatClampNeg) := inb_of Sz102 ⟨(by decide), (by decide)⟩
  obtain ⟨Tz102, hz102, Xz102, ez102, Wz102, stz102⟩ := stI Xz101 hx hZ ez101 Arz102 (j := (1 : Int32)) hinz102 (g := (mkF m 59 #[oR fi, oI 1] [(.int 1), (.int 1), (.ref fl)])) rfl rfl (hb hby own_d8_59)
  refine own_go stz102 ?_
  have V_fl_ : Arv Z hz102 fl kfl .int 4 [(.int 0), (.int 1)] (.int 0) := Arv.set Arz102 qz102 Sz102 Mz102 HHz102 Gz102 rfl Wz102 1 rfl (Nat.le_of_ble_eq_true rfl)
  have Nz102 := Fr.snoc Xz102 Nz101 g_fl
  have E_fi := E_fi.wr Wz102
  have F22 := F22.other Wz102 (own_o1 lt_fi_fl)
  have F0 := F0.other Wz102 (own_o1 lt_fi_fl)
  have F2 := F2.other Wz102 (own_o1 lt_fi_fl)
  have F38 := F38.other Wz102 (own_o1 lt_fi_fl)
  have F36 := F36.other Wz102 (own_o1 lt_fi_fl)
  have F18 := F18.other Wz102 (own_o1 lt_fi_fl)
  have F12 := F12.other Wz102 (own_o1 lt_fi_fl)
  have F26 := F26.other Wz102 (own_o1 lt_fi_fl)
  have F40 := F40.other Wz102 (own_o1 lt_fi_fl)
  have F16 := F16.other Wz102 (own_o1 lt_fi_fl)
  have F6 := F6.other Wz102 (own_o1 lt_fi_fl)
  have F34 := F34.other Wz102 (own_o1 lt_fi_fl)
  have F10 := F10.other Wz102 (own_o1 lt_fi_fl)
  have F30 := F30.other Wz102 (own_o1 lt_fi_fl)
  have F32 := F32.other Wz102 (own_o1 lt_fi_fl)
  have F24 := F24.other Wz102 (own_o1 lt_le_fl)
  have V_li := V_li.other Wz102 (Nat.ne_of_lt lt_li_fl)
  have K := K.wr Wz102 (Or.inl (List.mem_of_getElem? (i := 1) rfl))
  have F20 := F20.other Wz102 (own_o1 lt_fi_fl)
  have V_fl := V_fl_
  show own_Go _ _ _ _ Tz102 (mkF m 60 #[oR fi, oI 1] [])
  refine own_go (fun _ k => XS.aloadN Xz102.here hx rfl (hb hby own_d8_60) rfl rfl k) ?_
  show own_Go _ _ _ _ Tz102 (mkF m 61 #[oR fi, oI 1] [(.ref fi)])
  obtain ⟨Tz103, Xz103, ez103, stz103⟩ := getF Xz102 hx hZ hown (host := "") (Or.inl (hw _ (List.mem_of_getElem? (i := 39) rfl))) Via.refl ez102 F18 (g := (mkF m 61 #[oR fi, oI 1] [(.ref fi)])) rfl rfl (hb hby own_d8_61)
  refine own_go stz103 ?_
  show own_Go _ _ _ _ Tz103 (mkF m 64 #[oR fi, oI 1] [(.ref le)])
  refine own_go (fun _ k => own_getR Xz103 hx hZ hown (hw _ (List.mem_of_getElem? (i := 84) rfl)) ez103 F24 (g := (mkF m 64 #[oR fi, oI 1] [(.ref le)])) rfl rfl (hb hby own_d8_64) _ k) ?_
  show own_Go _ _ _ _ Tz103 (mkF m 67 #[oR fi, oI 1] [(.ref li)])
  refine own_go (fun _ k => XS.iloadN Xz103.here hx rfl (hb hby own_d8_67) rfl k) ?_
  show own_Go _ _ _ _ Tz103 (mkF m 68 #[oR fi, oI 1] [(.int 1), (.ref li)])
  refine own_go (fun _ k => XS.iconst Xz103.here hx rfl (hb hby own_d8_68) k) ?_
  show own_Go _ _ _ _ Tz103 (mkF m 69 #[oR fi, oI 1] [(.int 1), (.int 1), (.ref li)])
  obtain ⟨clz105, Arz105, qz105, Sz105, Mz105, HHz105, Gz105⟩ := V_li
  have hinz105 : ¬ ((1 : Int32) < 0 ∨ clz105.slots.size ≤ ((1 : Int32)).toNatClampNeg) := inb_of Sz105 ⟨(by decide), (by decide)⟩
  obtain ⟨Tz105, hz105, Xz105, ez105, Wz105, stz105⟩ := stZ Xz103 hx hZ ez103 Arz105 (j := (1 : Int32)) hinz105 (g := (mkF m 69 #[oR fi, oI 1] [(.int 1), (.int 1), (.ref li)])) rfl rfl (hb hby own_d8_69)
  refine own_go stz105 ?_
  have V_li_ : Arv Z hz105 li kli .boolean (2 : Int32) [(.int 1), (.int 1)] (.int 0) := Arv.set Arz105 qz105 Sz105 Mz105 HHz105 Gz105 (fits_nar_bool _) Wz105 1 rfl (Nat.le_of_ble_eq_true rfl)
  have Nz105 := Fr.snoc Xz105 Nz102 g_li
  have E_fi := E_fi.wr Wz105
  have F22 := F22.other Wz105 (own_o2 lt_li_fi)
  have F0 := F0.other Wz105 (own_o2 lt_li_fi)
  have F2 := F2.other Wz105 (own_o2 lt_li_fi)
  have F38 := F38.other Wz105 (own_o2 lt_li_fi)
  have F36 := F36.other Wz105 (own_o2 lt_li_fi)
  have F18 := F18.other Wz105 (own_o2 lt_li_fi)
  have F12 := F12.other Wz105 (own_o2 lt_li_fi)
  have F26 := F26.other Wz105 (own_o2 lt_li_fi)
  have F40 := F40.other Wz105 (own_o2 lt_li_fi)
  have F16 := F16.other Wz105 (own_o2 lt_li_fi)
  have F6 := F6.other Wz105 (own_o2 lt_li_fi)
  have F34 := F34.other Wz105 (own_o2 lt_li_fi)
  have F10 := F10.other Wz105 (own_o2 lt_li_fi)
  have F30 := F30.other Wz105 (own_o2 lt_li_fi)
  have F32 := F32.other Wz105 (own_o2 lt_li_fi)
  have F24 := F24.other Wz105 (own_o1 lt_le_li)
  have K := K.wr Wz105 (Or.inl (List.mem_of_getElem? (i := 2) rfl))
  have F20 := F20.other Wz105 (own_o2 lt_li_fi)
  have V_fl := V_fl.other Wz105 (Nat.ne_of_gt lt_li_fl)
  have V_li := V_li_
  show own_Go _ _ _ _ Tz105 (mkF m 70 #[oR fi, oI 1] [])
  refine own_go (fun _ k => XS.iconst Xz105.here hx rfl (hb hby own_d8_70) k) ?_
  show own_Go _ _ _ _ Tz105 (mkF m 71 #[oR fi, oI 1] [(.int 1)])
  exact own_end Xz105 hlk (v := (some (.int 1))) (fun h => by rw [hret] at h; cases h) (fun fs hr => retN Xz105 hx (t := .boolean) hret (by simp) (hb hby own_d8_71) hr) (by rw [ez105]; exact ⟨rfl, Nz105, K, E_fi, F22, F0, F2, F38, F36, F18, F12, F26, F40, F16, F6, F34, F20, F10, F30, F32, V_fl, V_li⟩) (by decide) (by decide)
theorem own_efslA (m : MethodId) (fi : Addr) (pn : Int32) (X_ : UInt64) : entryFrame m #[(.ref fi), (.int pn), (.double X_)] 14 = mkF m 0 #[oR fi, oI pn, oD X_, oS, oU, oU, oU, oU, oU, oU, oU, oU, oU, oU] [] := by first | (simp [entryFrame, mkF, argsToLocals, Value.category]; done) | rfl
theorem own_d6_0 : decode prog_12_method_4_code 0 = .ok (.aload_n 0, 1) := by decide +kernel
theorem own_d6_1 : decode prog_12_method_4_code 1 = .ok (.dconst 0, 1) := by decide +kernel
theorem own_d6_2 : decode prog_12_method_4_code 2 = .ok (.putfield 55, 3) := by decide +kernel
theorem own_d6_5 : decode prog_12_method_4_code 5 = .ok (.aload_n 0, 1) := by decide +kernel
theorem own_d6_6 : decode prog_12_method_4_code 6 = .ok (.dconst 0, 1) := by decide +kernel
theorem own_d6_7 : decode prog_12_method_4_code 7 = .ok (.putfield 59, 3) := by decide +kernel
theorem own_d6_10 : decode prog_12_method_4_code 10 = .ok (.dload_n 2, 1) := by decide +kernel
theorem own_d6_11 : decode prog_12_method_4_code 11 = .ok (.dconst 0, 1) := by decide +kernel
theorem own_d6_12 : decode prog_12_method_4_code 12 = .ok (.dcmp .l, 1) := by decide +kernel
theorem own_d6_13 : decode prog_12_method_4_code 13 = .ok (.ifCond .gt 5, 3) := by decide +kernel
theorem own_d6_16 : decode prog_12_method_4_code 16 = .ok (.dconst 0, 1) := by decide +kernel
theorem own_d6_17 : decode prog_12_method_4_code 17 = .ok (.dreturn, 1) := by decide +kernel
def own_QslA (Z : State) (le : Addr) (ex : Addr) (jo : Addr) (go : Addr) (pe : Addr) (li : Addr) (fi : Addr) (in_ : Addr) (ou : Addr) (fl : Addr) (el : Addr) (ev : Addr) (st : Addr) (se : Addr) (kex : ClassId) (kjo : ClassId) (kgo : ClassId) (kpe : ClassId) (kli : ClassId) (kin_ : ClassId) (kou : ClassId) (kfl : ClassId) (kel : ClassId) (kev : ClassId) (kst : ClassId) (kse : ClassId) (vt : Int32) (vj : Int32) (vf : Int32) (vs : Int32) (vh : Int32) (tt : UInt64) (tv : UInt64) (vc : Int32) (h0 : Heap) (n0 : Nat) (v : Option Value) (h : Heap) (L : List Loc) : Prop := v = some (.double 0) ∧ Fr n0 L ∧ Keep h0 h [fi] ∧ Exa Z h fi "com/example/spillback/spillback/Fifo" ∧ Fld Z h fi "com/example/spillback/spillback/Fifo" "listed" "[I" (.ref fl) ∧ Fld Z h fi "com/example/spillback/spillback/Fifo" "entryLegs" "[I" (.ref el) ∧ Fld Z h fi "com/example/spillback/spillback/Fifo" "entryVehicles" "[D" (.ref ev) ∧ Fld Z h fi "com/example/spillback/spillback/Fifo" "steps" "[I" (.ref st) ∧ Fld Z h fi "com/example/spillback/spillback/Fifo" "stepEnds" "[I" (.ref se) ∧ Fld Z h fi "com/example/spillback/spillback/Fifo" "legs" "Lcom/example/spillback/spillback/Fifo$Legs;" (.ref le) ∧ Fld Z h fi "com/example/spillback/spillback/Fifo" "in" "[D" (.ref in_) ∧ Fld Z h fi "com/example/spillback/spillback/Fifo" "out" "[D" (.ref ou) ∧ Fld Z h fi "com/example/spillback/spillback/Fifo" "tail" "I" (.int vt) ∧ Fld Z h fi "com/example/spillback/spillback/Fifo" "joiningStart" "I" (.int vj) ∧ Fld Z h fi "com/example/spillback/spillback/Fifo" "firstStep" "I" (.int vf) ∧ Fld Z h fi "com/example/spillback/spillback/Fifo" "stepCount" "I" (.int vs) ∧ Fld Z h fi "com/example/spillback/spillback/Fifo" "listedCount" "I" (.int vc) ∧ Fld Z h fi "com/example/spillback/spillback/Fifo" "head" "I" (.int vh) ∧ Fld Z h fi "com/example/spillback/spillback/Fifo" "sliceTotal" "D" (.double 0) ∧ Fld Z h fi "com/example/spillback/spillback/Fifo" "sliceVehicles" "D" (.double 0)
set_option maxRecDepth 65536 in
set_option maxHeartbeats 40000000 in
theorem own_rmslA (l : Launch) (Z : State) (a0 : Array Value) (hw : ∀ d ∈ tables_1, d.before a0 Z = true) (ws : List Jvm.Cond) (fi : Addr) (pn : Int32) (X_ : UInt64) (h0 : Heap) (n0 : Nat) (le ex jo go pe li in_ ou fl el ev st se : Addr) (kex kjo kgo kpe kli kin_ kou kfl kel kev kst kse : ClassId) (hc0 : n0 ≤ le) (hc1 : @LT.lt Nat _ le ex) (hc2 : @LT.lt Nat _ ex jo) (hc3 : @LT.lt Nat _ jo go) (hc4 : @LT.lt Nat _ go pe) (hc5 : @LT.lt Nat _ pe li) (hc6 : @LT.lt Nat _ li fi) (hc7 : @LT.lt Nat _ fi in_) (hc8 : @LT.lt Nat _ in_ ou) (hc9 : @LT.lt Nat _ ou fl) (hc10 : @LT.lt Nat _ fl el) (hc11 : @LT.lt Nat _ el ev) (hc12 : @LT.lt Nat _ ev st) (hc13 : @LT.lt Nat _ st se) (vt vj vf vs vh : Int32) (tt tv : UInt64) (vc : Int32) (hp : pn = (0 : Int32)) (hx0 : ¬ ((0 : Int32) < cmpValue (FP.dcmp X_ (0 : UInt64)) .l)) (E_fi : Exa Z h0 fi "com/example/spillback/spillback/Fifo") (F22 : Fld Z h0 fi "com/example/spillback/spillback/Fifo" "listed" "[I" (.ref fl)) (F0 : Fld Z h0 fi "com/example/spillback/spillback/Fifo" "entryLegs" "[I" (.ref el)) (F2 : Fld Z h0 fi "com/example/spillback/spillback/Fifo" "entryVehicles" "[D" (.ref ev)) (F38 : Fld Z h0 fi "com/example/spillback/spillback/Fifo" "steps" "[I" (.ref st)) (F36 : Fld Z h0 fi "com/example/spillback/spillback/Fifo" "stepEnds" "[I" (.ref se)) (F18 : Fld Z h0 fi "com/example/spillback/spillback/Fifo" "legs" "Lcom/example/spillback/spillback/Fifo$Legs;" (.ref le)) (F12 : Fld Z h0 fi "com/example/spillback/spillback/Fifo" "in" "[D" (.ref in_)) (F26 : Fld Z h0 fi "com/example/spillback/spillback/Fifo" "out" "[D" (.ref ou)) (F40 : Fld Z h0 fi "com/example/spillback/spillback/Fifo" "tail" "I" (.int vt)) (F16 : Fld Z h0 fi "com/example/spillback/spillback/Fifo" "joiningStart" "I" (.int vj)) (F6 : Fld Z h0 fi "com/example/spillback/spillback/Fifo" "firstStep" "I" (.int vf)) (F34 : Fld Z h0 fi "com/example/spillback/spillback/Fifo" "stepCount" "I" (.int vs)) (F20 : Fld Z h0 fi "com/example/spillback/spillback/Fifo" "listedCount" "I" (.int vc)) (F10 : Fld Z h0 fi "com/example/spillback/spillback/Fifo" "head" "I" (.int vh)) (F30 : Fld Z h0 fi "com/example/spillback/spillback/Fifo" "sliceTotal" "D" (.double tt)) (F32 : Fld Z h0 fi "com/example/spillback/spillback/Fifo" "sliceVehicles" "D" (.double tv)) :
    own_Met l Z (⟨"com/example/spillback/spillback/Fifo", "slice", "(ID)D"⟩ : MethodName) prog_12_method_4_code 14 (some .double) ws ({ frames := 0, cells := 0, slots := 0, locals := 0 } : Room) #[(.ref fi), (.int pn), (.double X_)] h0 (own_QslA Z le ex jo go pe li fi in_ ou fl el ev st se kex kjo kgo kpe kli kin_ kou kfl kel kev kst kse vt vj vf vs vh tt tv vc h0 n0) := by
  refine own_met (plainFor_of_name own_pn1) ?_
  intro p e s m below meth c s₁ X0 hx hZ hby hml hown hnm hret hlk e0
  have N0 := Fr.nil n0
  refine own_go (fun t k => castTop (own_efslA m fi pn X_) k) ?_
  have g_fi : @LE.le Nat _ n0 fi := by omega
  have K := Keep.refl h0 [fi]
  show own_Go _ _ _ _ s₁ (mkF m 0 #[oR fi, oI pn, oD X_, oS, oU, oU, oU, oU, oU, oU, oU, oU, oU, oU] [])
  subst hp
  show own_Go _ _ _ _ s₁ (mkF m 0 #[oR fi, oI 0, oD X_, oS, oU, oU, oU, oU, oU, oU, oU, oU, oU, oU] [])
  refine own_go (fun _ k => XS.aloadN X0.here hx rfl (hb hby own_d6_0) rfl rfl k) ?_
  show own_Go _ _ _ _ s₁ (mkF m 1 #[oR fi, oI 0, oD X_, oS, oU, oU, oU, oU, oU, oU, oU, oU, oU, oU] [(.ref fi)])
  refine own_go (fun _ k => XS.dconst0 X0.here hx rfl (hb hby own_d6_1) own_dc0 k) ?_
  show own_Go _ _ _ _ s₁ (mkF m 2 #[oR fi, oI 0, oD X_, oS, oU, oU, oU, oU, oU, oU, oU, oU, oU, oU] [(.double 0), (.ref fi)])
  obtain ⟨Tz106, hz106, Xz106, ez106, Wz106, stz106⟩ := putF X0 hx hZ hown (host := "") (Or.inl (hw _ (List.mem_of_getElem? (i := 68) rfl))) Via.refl e0 F30 E_fi (Or.inl (hw _ (List.mem_of_getElem? (i := 69) rfl))) (hw _ (List.mem_of_getElem? (i := 23) rfl)) (ty := .double) (by decide) rfl rfl (g := (mkF m 2 #[oR fi, oI 0, oD X_, oS, oU, oU, oU, oU, oU, oU, oU, oU, oU, oU] [(.double 0), (.ref fi)])) rfl rfl (hb hby own_d6_2)
  refine own_go stz106 ?_
  have Nz106 := Fr.snoc Xz106 N0 g_fi
  have F31 := F30.same Wz106
  have E_fi := E_fi.wr Wz106
  have F22 := F22.other Wz106 (own_sl hw 30 69 (Or.inl rfl) (Or.inl rfl) (by decide))
  have F0 := F0.other Wz106 (own_sl hw 32 69 (Or.inl rfl) (Or.inl rfl) (by decide))
  have F2 := F2.other Wz106 (own_sl hw 34 69 (Or.inl rfl) (Or.inl rfl) (by decide))
  have F38 := F38.other Wz106 (own_sl hw 36 69 (Or.inl rfl) (Or.inl rfl) (by decide))
  have F36 := F36.other Wz106 (own_sl hw 38 69 (Or.inl rfl) (Or.inl rfl) (by decide))
  have F18 := F18.other Wz106 (own_sl hw 40 69 (Or.inr rfl) (Or.inl rfl) (by decide))
  have F12 := F12.other Wz106 (own_sl hw 42 69 (Or.inr rfl) (Or.inl rfl) (by decide))
  have F26 := F26.other Wz106 (own_sl hw 44 69 (Or.inr rfl) (Or.inl rfl) (by decide))
  have F40 := F40.other Wz106 (own_sl hw 51 69 (Or.inl rfl) (Or.inl rfl) (by decide))
  have F16 := F16.other Wz106 (own_sl hw 58 69 (Or.inl rfl) (Or.inl rfl) (by decide))
  have F6 := F6.other Wz106 (own_sl hw 60 69 (Or.inl rfl) (Or.inl rfl) (by decide))
  have F34 := F34.other Wz106 (own_sl hw 62 69 (Or.inl rfl) (Or.inl rfl) (by decide))
  have F20 := F20.other Wz106 (own_sl hw 73 69 (Or.inl rfl) (Or.inl rfl) (by decide))
  have F10 := F10.other Wz106 (own_sl hw 79 69 (Or.inl rfl) (Or.inl rfl) (by decide))
  have F32 := F32.other Wz106 (own_sl hw 71 69 (Or.inl rfl) (Or.inl rfl) (by decide))
  have K := K.wr Wz106 (Or.inl (List.mem_of_getElem? (i := 0) rfl))
  have F30 := F31
  show own_Go _ _ _ _ Tz106 (mkF m 5 #[oR fi, oI 0, oD X_, oS, oU, oU, oU, oU, oU, oU, oU, oU, oU, oU] [])
  refine own_go (fun _ k => XS.aloadN Xz106.here hx rfl (hb hby own_d6_5) rfl rfl k) ?_
  show own_Go _ _ _ _ Tz106 (mkF m 6 #[oR fi, oI 0, oD X_, oS, oU, oU, oU, oU, oU, oU, oU, oU, oU, oU] [(.ref fi)])
  refine own_go (fun _ k => XS.dconst0 Xz106.here hx rfl (hb hby own_d6_6) own_dc0 k) ?_
  show own_Go _ _ _ _ Tz106 (mkF m 7 #[oR fi, oI 0, oD X_, oS, oU, oU, oU, oU, oU, oU, oU, oU, oU, oU] [(.double 0), (.ref fi)])
  obtain ⟨Tz107, hz107, Xz107, ez107, Wz107, stz107⟩ := putF Xz106 hx hZ hown (host := "") (Or.inl (hw _ (List.mem_of_getElem? (i := 70) rfl))) Via.refl ez106 F32 E_fi (Or.inl (hw _ (List.mem_of_getElem? (i := 71) rfl))) (hw _ (List.mem_of_getElem? (i := 23) rfl)) (ty := .double) (by decide) rfl rfl (g := (mkF m 7 #[oR fi, oI 0, oD X_, oS, oU, oU, oU, oU, oU, oU, oU, oU, oU, oU] [(.double 0), (.ref fi)])) rfl rfl (hb hby own_d6_7)
  refine own_go stz107 ?_
  have Nz107 := Fr.snoc Xz107 Nz106 g_fi
  have F33 := F32.same Wz107
  have E_fi := E_fi.wr Wz107
  have F22 := F22.other Wz107 (own_sl hw 30 71 (Or.inl rfl) (Or.inl rfl) (by decide))
  have F0 := F0.other Wz107 (own_sl hw 32 71 (Or.inl rfl) (Or.inl rfl) (by decide))
  have F2 := F2.other Wz107 (own_sl hw 34 71 (Or.inl rfl) (Or.inl rfl) (by decide))
  have F38 := F38.other Wz107 (own_sl hw 36 71 (Or.inl rfl) (Or.inl rfl) (by decide))
  have F36 := F36.other Wz107 (own_sl hw 38 71 (Or.inl rfl) (Or.inl rfl) (by decide))
  have F18 := F18.other Wz107 (own_sl hw 40 71 (Or.inr rfl) (Or.inl rfl) (by decide))
  have F12 := F12.other Wz107 (own_sl hw 42 71 (Or.inr rfl) (Or.inl rfl) (by decide))
  have F26 := F26.other Wz107 (own_sl hw 44 71 (Or.inr rfl) (Or.inl rfl) (by decide))
  have F40 := F40.other Wz107 (own_sl hw 51 71 (Or.inl rfl) (Or.inl rfl) (by decide))
  have F16 := F16.other Wz107 (own_sl hw 58 71 (Or.inl rfl) (Or.inl rfl) (by decide))
  have F6 := F6.other Wz107 (own_sl hw 60 71 (Or.inl rfl) (Or.inl rfl) (by decide))
  have F34 := F34.other Wz107 (own_sl hw 62 71 (Or.inl rfl) (Or.inl rfl) (by decide))
  have F20 := F20.other Wz107 (own_sl hw 73 71 (Or.inl rfl) (Or.inl rfl) (by decide))
  have F10 := F10.other Wz107 (own_sl hw 79 71 (Or.inl rfl) (Or.inl rfl) (by decide))
  have K := K.wr Wz107 (Or.inl (List.mem_of_getElem? (i := 0) rfl))
  have F30 := F30.other Wz107 (own_sl hw 69 71 (Or.inl rfl) (Or.inl rfl) (by decide))
  have F32 := F33
  show own_Go _ _ _ _ Tz107 (mkF m 10 #[oR fi, oI 0, oD X_, oS, oU, oU, oU, oU, oU, oU, oU, oU, oU, oU] [])
  refine own_go (fun _ k => XS.dloadN Xz107.here hx rfl (hb hby own_d6_10) rfl k) ?_
  show own_Go _ _ _ _ Tz107 (mkF m 11 #[oR fi, oI 0, oD X_, oS, oU, oU, oU, oU, oU, oU, oU, oU, oU, oU] [(.double X_)])
  refine own_go (fun _ k => XS.dconst0 Xz107.here hx rfl (hb hby own_d6_11) own_dc0 k) ?_
  show own_Go _ _ _ _ Tz107 (mkF m 12 #[oR fi, oI 0, oD X_, oS, oU, oU, oU, oU, oU, oU, oU, oU, oU, oU] [(.double 0), (.double X_)])
  refine own_go (fun _ k => XS.dcmpS Xz107.here hx rfl (hb hby own_d6_12) rfl rfl k) ?_
  show own_Go _ _ _ _ Tz107 (mkF m 13 #[oR fi, oI 0, oD X_, oS, oU, oU, oU, oU, oU, oU, oU, oU, oU, oU] [(.int (cmpValue (FP.dcmp X_ (0 : UInt64)) .l))])
  refine own_go (fun _ k => XS.ifNo Xz107.here hx rfl (hb hby own_d6_13) rfl ((if0 _ _).trans (flt hx0).2.2.1) k) ?_
  show own_Go _ _ _ _ Tz107 (mkF m 16 #[oR fi, oI 0, oD X_, oS, oU, oU, oU, oU, oU, oU, oU, oU, oU, oU] [])
  refine own_go (fun _ k => XS.dconst0 Xz107.here hx rfl (hb hby own_d6_16) own_dc0 k) ?_
  show own_Go _ _ _ _ Tz107 (mkF m 17 #[oR fi, oI 0, oD X_, oS, oU, oU, oU, oU, oU, oU, oU, oU, oU, oU] [(.double 0)])
  exact own_end Xz107 hlk (v := (some (.double 0))) (fun h => by rw [hret] at h; cases h) (fun fs hr => retOut Xz107 hx hret rfl (Or.inr (Or.inr (Or.inl ⟨rfl, rfl, _, rfl⟩))) (hb hby own_d6_17) hr) (by rw [ez107]; exact ⟨rfl, Nz107, K, E_fi, F22, F0, F2, F38, F36, F18, F12, F26, F40, F16, F6, F34, F20, F10, F30, F32⟩) (by decide) (by decide)
theorem own_efslB (m : MethodId) (fi : Addr) (pn : Int32) (X_ : UInt64) : entryFrame m #[(.ref fi), (.int pn), (.double X_)] 14 = mkF m 0 #[oR fi, oI pn, oD X_, oS, oU, oU, oU, oU, oU, oU, oU, oU, oU, oU] [] := by first | (simp [entryFrame, mkF, argsToLocals, Value.category]; done) | rfl
theorem own_d6_18 : decode prog_12_method_4_code 18 = .ok (.aload_n 0, 1) := by decide +kernel
theorem own_d6_19 : decode prog_12_method_4_code 19 = .ok (.getfield 33, 3) := by decide +kernel
theorem own_d6_22 : decode prog_12_method_4_code 22 = .ok (.iload_n 1, 1) := by decide +kernel
theorem own_d6_23 : decode prog_12_method_4_code 23 = .ok (.daload, 1) := by decide +kernel
theorem own_d6_24 : decode prog_12_method_4_code 24 = .ok (.dload_n 2, 1) := by decide +kernel
theorem own_d6_25 : decode prog_12_method_4_code 25 = .ok (.dadd, 1) := by decide +kernel
theorem own_d6_26 : decode prog_12_method_4_code 26 = .ok (.dstore 4, 2) := by decide +kernel
theorem own_d6_28 : decode prog_12_method_4_code 28 = .ok (.aload_n 0, 1) := by decide +kernel
theorem own_d6_29 : decode prog_12_method_4_code 29 = .ok (.getfield 49, 3) := by decide +kernel
theorem own_d6_32 : decode prog_12_method_4_code 32 = .ok (.ifCond .le 121, 3) := by decide +kernel
theorem own_d6_35 : decode prog_12_method_4_code 35 = .ok (.aload_n 0, 1) := by decide +kernel
theorem own_d6_36 : decode prog_12_method_4_code 36 = .ok (.getfield 30, 3) := by decide +kernel
theorem own_d6_39 : decode prog_12_method_4_code 39 = .ok (.aload_n 0, 1) := by decide +kernel
theorem own_d6_40 : decode prog_12_method_4_code 40 = .ok (.getfield 20, 3) := by decide +kernel
theorem own_d6_43 : decode prog_12_method_4_code 43 = .ok (.aload_n 0, 1) := by decide +kernel
theorem own_d6_44 : decode prog_12_method_4_code 44 = .ok (.getfield 46, 3) := by decide +kernel
theorem own_d6_47 : decode prog_12_method_4_code 47 = .ok (.iaload, 1) := by decide +kernel
theorem own_d6_48 : decode prog_12_method_4_code 48 = .ok (.iconst 1, 1) := by decide +kernel
theorem own_d6_49 : decode prog_12_method_4_code 49 = .ok (.iadd, 1) := by decide +kernel
theorem own_d6_50 : decode prog_12_method_4_code 50 = .ok (.daload, 1) := by decide +kernel
theorem own_d6_51 : decode prog_12_method_4_code 51 = .ok (.dload 4, 2) := by decide +kernel
theorem own_d6_53 : decode prog_12_method_4_code 53 = .ok (.dcmp .g, 1) := by decide +kernel
theorem own_d6_54 : decode prog_12_method_4_code 54 = .ok (.ifCond .gt 99, 3) := by decide +kernel
theorem own_d6_57 : decode prog_12_method_4_code 57 = .ok (.aload_n 0, 1) := by decide +kernel
theorem own_d6_58 : decode prog_12_method_4_code 58 = .ok (.getfield 23, 3) := by decide +kernel
theorem own_d6_61 : decode prog_12_method_4_code 61 = .ok (.aload_n 0, 1) := by decide +kernel
theorem own_d6_62 : decode prog_12_method_4_code 62 = .ok (.getfield 46, 3) := by decide +kernel
theorem own_d6_65 : decode prog_12_method_4_code 65 = .ok (.iaload, 1) := by decide +kernel
theorem own_d6_66 : decode prog_12_method_4_code 66 = .ok (.istore 6, 2) := by decide +kernel
theorem own_d6_68 : decode prog_12_method_4_code 68 = .ok (.aload_n 0, 1) := by decide +kernel
theorem own_d6_69 : decode prog_12_method_4_code 69 = .ok (.getfield 62, 3) := by decide +kernel
theorem own_d6_72 : decode prog_12_method_4_code 72 = .ok (.istore 7, 2) := by decide +kernel
theorem own_d6_74 : decode prog_12_method_4_code 74 = .ok (.iload 7, 2) := by decide +kernel
theorem own_d6_76 : decode prog_12_method_4_code 76 = .ok (.iload 6, 2) := by decide +kernel
theorem own_d6_78 : decode prog_12_method_4_code 78 = .ok (.if_icmp .ge 46, 3) := by decide +kernel
theorem own_d6_81 : decode prog_12_method_4_code 81 = .ok (.aload_n 0, 1) := by decide +kernel
theorem own_d6_82 : decode prog_12_method_4_code 82 = .ok (.getfield 26, 3) := by decide +kernel
theorem own_d6_85 : decode prog_12_method_4_code 85 = .ok (.getfield 65, 3) := by decide +kernel
theorem own_d6_88 : decode prog_12_method_4_code 88 = .ok (.aload_n 0, 1) := by decide +kernel
theorem own_d6_89 : decode prog_12_method_4_code 89 = .ok (.getfield 13, 3) := by decide +kernel
theorem own_d6_92 : decode prog_12_method_4_code 92 = .ok (.iload 7, 2) := by decide +kernel
theorem own_d6_94 : decode prog_12_method_4_code 94 = .ok (.iaload, 1) := by decide +kernel
theorem own_d6_95 : decode prog_12_method_4_code 95 = .ok (.dup2, 1) := by decide +kernel
theorem own_d6_96 : decode prog_12_method_4_code 96 = .ok (.daload, 1) := by decide +kernel
theorem own_d6_97 : decode prog_12_method_4_code 97 = .ok (.aload_n 0, 1) := by decide +kernel
theorem own_d6_98 : decode prog_12_method_4_code 98 = .ok (.getfield 16, 3) := by decide +kernel
theorem own_d6_101 : decode prog_12_method_4_code 101 = .ok (.iload 7, 2) := by decide +kernel
theorem own_d6_103 : decode prog_12_method_4_code 103 = .ok (.daload, 1) := by decide +kernel
theorem own_d6_104 : decode prog_12_method_4_code 104 = .ok (.dadd, 1) := by decide +kernel
theorem own_d6_105 : decode prog_12_method_4_code 105 = .ok (.dastore, 1) := by decide +kernel
theorem own_d6_106 : decode prog_12_method_4_code 106 = .ok (.aload_n 0, 1) := by decide +kernel
theorem own_d6_107 : decode prog_12_method_4_code 107 = .ok (.aload_n 0, 1) := by decide +kernel
theorem own_d6_108 : decode prog_12_method_4_code 108 = .ok (.getfield 13, 3) := by decide +kernel
theorem own_d6_111 : decode prog_12_method_4_code 111 = .ok (.iload 7, 2) := by decide +kernel
theorem own_d6_113 : decode prog_12_method_4_code 113 = .ok (.iaload, 1) := by decide +kernel
theorem own_d6_114 : decode prog_12_method_4_code 114 = .ok (.invokevirtual 70, 3) := by decide +kernel
theorem own_pd0 : parseMethodDescriptor "(I)Z" = some ⟨[.int], some .boolean⟩ := by decide +kernel
theorem own_d6_117 : decode prog_12_method_4_code 117 = .ok (.pop, 1) := by decide +kernel
theorem own_d6_118 : decode prog_12_method_4_code 118 = .ok (.iinc 7 1, 3) := by decide +kernel
theorem own_d6_121 : decode prog_12_method_4_code 121 = .ok (.goto (-47), 3) := by decide +kernel
theorem own_d6_124 : decode prog_12_method_4_code 124 = .ok (.aload_n 0, 1) := by decide +kernel
theorem own_d6_125 : decode prog_12_method_4_code 125 = .ok (.iload 6, 2) := by decide +kernel
theorem own_d6_127 : decode prog_12_method_4_code 127 = .ok (.putfield 62, 3) := by decide +kernel
theorem own_d6_130 : decode prog_12_method_4_code 130 = .ok (.aload_n 0, 1) := by decide +kernel
theorem own_d6_131 : decode prog_12_method_4_code 131 = .ok (.dup, 1) := by decide +kernel
theorem own_d6_132 : decode prog_12_method_4_code 132 = .ok (.getfield 46, 3) := by decide +kernel
theorem own_d6_135 : decode prog_12_method_4_code 135 = .ok (.iconst 1, 1) := by decide +kernel
theorem own_d6_136 : decode prog_12_method_4_code 136 = .ok (.iadd, 1) := by decide +kernel
theorem own_d6_137 : decode prog_12_method_4_code 137 = .ok (.putfield 46, 3) := by decide +kernel
theorem own_d6_140 : decode prog_12_method_4_code 140 = .ok (.aload_n 0, 1) := by decide +kernel
theorem own_d6_141 : decode prog_12_method_4_code 141 = .ok (.dup, 1) := by decide +kernel
theorem own_d6_142 : decode prog_12_method_4_code 142 = .ok (.getfield 49, 3) := by decide +kernel
theorem own_d6_145 : decode prog_12_method_4_code 145 = .ok (.iconst 1, 1) := by decide +kernel
theorem own_d6_146 : decode prog_12_method_4_code 146 = .ok (.isub, 1) := by decide +kernel
theorem own_d6_147 : decode prog_12_method_4_code 147 = .ok (.putfield 49, 3) := by decide +kernel
theorem own_d6_150 : decode prog_12_method_4_code 150 = .ok (.goto (-122), 3) := by decide +kernel
theorem own_d6_153 : decode prog_12_method_4_code 153 = .ok (.iconst 0, 1) := by decide +kernel
theorem own_d6_154 : decode prog_12_method_4_code 154 = .ok (.istore 6, 2) := by decide +kernel
theorem own_d6_156 : decode prog_12_method_4_code 156 = .ok (.iload 6, 2) := by decide +kernel
theorem own_d6_158 : decode prog_12_method_4_code 158 = .ok (.aload_n 0, 1) := by decide +kernel
theorem own_d6_159 : decode prog_12_method_4_code 159 = .ok (.getfield 74, 3) := by decide +kernel
theorem own_d6_162 : decode prog_12_method_4_code 162 = .ok (.if_icmp .ge 49, 3) := by decide +kernel
theorem own_d6_165 : decode prog_12_method_4_code 165 = .ok (.aload_n 0, 1) := by decide +kernel
theorem own_d6_166 : decode prog_12_method_4_code 166 = .ok (.getfield 7, 3) := by decide +kernel
theorem own_d6_169 : decode prog_12_method_4_code 169 = .ok (.iload 6, 2) := by decide +kernel
theorem own_d6_171 : decode prog_12_method_4_code 171 = .ok (.iaload, 1) := by decide +kernel
theorem own_d6_172 : decode prog_12_method_4_code 172 = .ok (.istore 7, 2) := by decide +kernel
theorem own_d6_174 : decode prog_12_method_4_code 174 = .ok (.aload_n 0, 1) := by decide +kernel
theorem own_d6_175 : decode prog_12_method_4_code 175 = .ok (.getfield 26, 3) := by decide +kernel
theorem own_d6_178 : decode prog_12_method_4_code 178 = .ok (.getfield 77, 3) := by decide +kernel
theorem own_d6_181 : decode prog_12_method_4_code 181 = .ok (.iload 7, 2) := by decide +kernel
theorem own_d6_183 : decode prog_12_method_4_code 183 = .ok (.aload_n 0, 1) := by decide +kernel
theorem own_d6_184 : decode prog_12_method_4_code 184 = .ok (.getfield 26, 3) := by decide +kernel
theorem own_d6_187 : decode prog_12_method_4_code 187 = .ok (.getfield 65, 3) := by decide +kernel
theorem own_d6_190 : decode prog_12_method_4_code 190 = .ok (.iload 7, 2) := by decide +kernel
theorem own_d6_192 : decode prog_12_method_4_code 192 = .ok (.daload, 1) := by decide +kernel
theorem own_d6_193 : decode prog_12_method_4_code 193 = .ok (.aload_n 0, 1) := by decide +kernel
theorem own_d6_194 : decode prog_12_method_4_code 194 = .ok (.getfield 26, 3) := by decide +kernel
theorem own_d6_197 : decode prog_12_method_4_code 197 = .ok (.getfield 80, 3) := by decide +kernel
theorem own_d6_200 : decode prog_12_method_4_code 200 = .ok (.iload 7, 2) := by decide +kernel
theorem own_d6_202 : decode prog_12_method_4_code 202 = .ok (.daload, 1) := by decide +kernel
theorem own_d6_203 : decode prog_12_method_4_code 203 = .ok (.dsub, 1) := by decide +kernel
theorem own_d6_204 : decode prog_12_method_4_code 204 = .ok (.dastore, 1) := by decide +kernel
theorem own_d6_205 : decode prog_12_method_4_code 205 = .ok (.iinc 6 1, 3) := by decide +kernel
theorem own_d6_208 : decode prog_12_method_4_code 208 = .ok (.goto (-52), 3) := by decide +kernel
theorem own_d6_211 : decode prog_12_method_4_code 211 = .ok (.aload_n 0, 1) := by decide +kernel
theorem own_d6_212 : decode prog_12_method_4_code 212 = .ok (.getfield 49, 3) := by decide +kernel
theorem own_d6_215 : decode prog_12_method_4_code 215 = .ok (.ifCond .le 149, 3) := by decide +kernel
theorem own_d6_364 : decode prog_12_method_4_code 364 = .ok (.iconst 0, 1) := by decide +kernel
theorem own_d6_365 : decode prog_12_method_4_code 365 = .ok (.istore 6, 2) := by decide +kernel
theorem own_d6_367 : decode prog_12_method_4_code 367 = .ok (.iload 6, 2) := by decide +kernel
theorem own_d6_369 : decode prog_12_method_4_code 369 = .ok (.aload_n 0, 1) := by decide +kernel
theorem own_d6_370 : decode prog_12_method_4_code 370 = .ok (.getfield 74, 3) := by decide +kernel
theorem own_d6_373 : decode prog_12_method_4_code 373 = .ok (.if_icmp .ge 61, 3) := by decide +kernel
theorem own_d6_376 : decode prog_12_method_4_code 376 = .ok (.aload_n 0, 1) := by decide +kernel
theorem own_d6_377 : decode prog_12_method_4_code 377 = .ok (.getfield 7, 3) := by decide +kernel
theorem own_d6_380 : decode prog_12_method_4_code 380 = .ok (.iload 6, 2) := by decide +kernel
theorem own_d6_382 : decode prog_12_method_4_code 382 = .ok (.iaload, 1) := by decide +kernel
theorem own_d6_383 : decode prog_12_method_4_code 383 = .ok (.istore 7, 2) := by decide +kernel
theorem own_d6_385 : decode prog_12_method_4_code 385 = .ok (.aload_n 0, 1) := by decide +kernel
theorem own_d6_386 : decode prog_12_method_4_code 386 = .ok (.getfield 26, 3) := by decide +kernel
theorem own_d6_389 : decode prog_12_method_4_code 389 = .ok (.getfield 77, 3) := by decide +kernel
theorem own_d6_392 : decode prog_12_method_4_code 392 = .ok (.iload 7, 2) := by decide +kernel
theorem own_d6_394 : decode prog_12_method_4_code 394 = .ok (.dconst 0, 1) := by decide +kernel
theorem own_d6_395 : decode prog_12_method_4_code 395 = .ok (.aload_n 0, 1) := by decide +kernel
theorem own_d6_396 : decode prog_12_method_4_code 396 = .ok (.getfield 26, 3) := by decide +kernel
theorem own_d6_399 : decode prog_12_method_4_code 399 = .ok (.getfield 77, 3) := by decide +kernel
theorem own_d6_402 : decode prog_12_method_4_code 402 = .ok (.iload 7, 2) := by decide +kernel
theorem own_d6_404 : decode prog_12_method_4_code 404 = .ok (.daload, 1) := by decide +kernel
theorem own_d6_405 : decode prog_12_method_4_code 405 = .ok (.invokestatic 83, 3) := by decide +kernel
theorem own_pd1 : parseMethodDescriptor "(DD)D" = some ⟨[.double, .double], some .double⟩ := by decide +kernel
theorem own_d6_408 : decode prog_12_method_4_code 408 = .ok (.dastore, 1) := by decide +kernel
theorem own_d6_409 : decode prog_12_method_4_code 409 = .ok (.aload_n 0, 1) := by decide +kernel
theorem own_d6_410 : decode prog_12_method_4_code 410 = .ok (.dup, 1) := by decide +kernel
theorem own_d6_411 : decode prog_12_method_4_code 411 = .ok (.getfield 55, 3) := by decide +kernel
theorem own_d6_414 : decode prog_12_method_4_code 414 = .ok (.aload_n 0, 1) := by decide +kernel
theorem own_d6_415 : decode prog_12_method_4_code 415 = .ok (.getfield 26, 3) := by decide +kernel
theorem own_d6_418 : decode prog_12_method_4_code 418 = .ok (.getfield 77, 3) := by decide +kernel
theorem own_d6_421 : decode prog_12_method_4_code 421 = .ok (.iload 7, 2) := by decide +kernel
theorem own_d6_423 : decode prog_12_method_4_code 423 = .ok (.daload, 1) := by decide +kernel
theorem own_d6_424 : decode prog_12_method_4_code 424 = .ok (.dadd, 1) := by decide +kernel
theorem own_d6_425 : decode prog_12_method_4_code 425 = .ok (.putfield 55, 3) := by decide +kernel
theorem own_d6_428 : decode prog_12_method_4_code 428 = .ok (.iinc 6 1, 3) := by decide +kernel
theorem own_d6_431 : decode prog_12_method_4_code 431 = .ok (.goto (-64), 3) := by decide +kernel
theorem own_d6_434 : decode prog_12_method_4_code 434 = .ok (.aload_n 0, 1) := by decide +kernel
theorem own_d6_435 : decode prog_12_method_4_code 435 = .ok (.dload_n 2, 1) := by decide +kernel
theorem own_d6_436 : decode prog_12_method_4_code 436 = .ok (.aload_n 0, 1) := by decide +kernel
theorem own_d6_437 : decode prog_12_method_4_code 437 = .ok (.getfield 55, 3) := by decide +kernel
theorem own_d6_440 : decode prog_12_method_4_code 440 = .ok (.invokestatic 89, 3) := by decide +kernel
theorem own_d6_443 : decode prog_12_method_4_code 443 = .ok (.putfield 59, 3) := by decide +kernel
theorem own_d6_446 : decode prog_12_method_4_code 446 = .ok (.aload_n 0, 1) := by decide +kernel
theorem own_d6_447 : decode prog_12_method_4_code 447 = .ok (.getfield 59, 3) := by decide +kernel
theorem own_d6_450 : decode prog_12_method_4_code 450 = .ok (.dreturn, 1) := by decide +kernel
def own_QslB (Z : State) (le : Addr) (ex : Addr) (jo : Addr) (go : Addr) (pe : Addr) (li : Addr) (fi : Addr) (in_ : Addr) (ou : Addr) (fl : Addr) (el : Addr) (ev : Addr) (st : Addr) (se : Addr) (kex : ClassId) (kjo : ClassId) (kgo : ClassId) (kpe : ClassId) (kli : ClassId) (kin_ : ClassId) (kou : ClassId) (kfl : ClassId) (kel : ClassId) (kev : ClassId) (kst : ClassId) (kse : ClassId) (X_ : UInt64) (V0 : UInt64) (V1 : UInt64) (Ve : UInt64) (h0 : Heap) (n0 : Nat) (v : Option Value) (h : Heap) (L : List Loc) : Prop := v = some (.double Ve) ∧ Fr n0 L ∧ Keep h0 h [fi, jo, pe, li, fl] ∧ Exa Z h fi "com/example/spillback/spillback/Fifo" ∧ Fld Z h fi "com/example/spillback/spillback/Fifo" "listed" "[I" (.ref fl) ∧ Fld Z h fi "com/example/spillback/spillback/Fifo" "entryLegs" "[I" (.ref el) ∧ Fld Z h fi "com/example/spillback/spillback/Fifo" "entryVehicles" "[D" (.ref ev) ∧ Fld Z h fi "com/example/spillback/spillback/Fifo" "steps" "[I" (.ref st) ∧ Fld Z h fi "com/example/spillback/spillback/Fifo" "stepEnds" "[I" (.ref se) ∧ Fld Z h fi "com/example/spillback/spillback/Fifo" "legs" "Lcom/example/spillback/spillback/Fifo$Legs;" (.ref le) ∧ Fld Z h fi "com/example/spillback/spillback/Fifo" "in" "[D" (.ref in_) ∧ Fld Z h fi "com/example/spillback/spillback/Fifo" "out" "[D" (.ref ou) ∧ Fld Z h fi "com/example/spillback/spillback/Fifo" "tail" "I" (.int 2) ∧ Fld Z h fi "com/example/spillback/spillback/Fifo" "joiningStart" "I" (.int 2) ∧ Fld Z h fi "com/example/spillback/spillback/Fifo" "firstStep" "I" (.int 1) ∧ Fld Z h fi "com/example/spillback/spillback/Fifo" "stepCount" "I" (.int 0) ∧ Fld Z h fi "com/example/spillback/spillback/Fifo" "listedCount" "I" (.int 2) ∧ Fld Z h fi "com/example/spillback/spillback/Fifo" "head" "I" (.int 2) ∧ Fld Z h fi "com/example/spillback/spillback/Fifo" "sliceTotal" "D" (.double oC) ∧ Fld Z h fi "com/example/spillback/spillback/Fifo" "sliceVehicles" "D" (.double Ve) ∧ Fld Z h le "com/example/spillback/spillback/Fifo$Legs" "exits" "[I" (.ref ex) ∧ Fld Z h le "com/example/spillback/spillback/Fifo$Legs" "joined" "[D" (.ref jo) ∧ Fld Z h le "com/example/spillback/spillback/Fifo$Legs" "gone" "[D" (.ref go) ∧ Fld Z h le "com/example/spillback/spillback/Fifo$Legs" "pending" "[D" (.ref pe) ∧ Fld Z h le "com/example/spillback/spillback/Fifo$Legs" "listed" "[Z" (.ref li) ∧ Arv Z h jo kjo .double (2 : Int32) [(.double V0), (.double V1)] (.double 0) ∧ Arv Z h go kgo .double (2 : Int32) [(.double 0), (.double 0)] (.double 0) ∧ Arv Z h pe kpe .double (2 : Int32) [(.double V0), (.double V1)] (.double 0) ∧ Arv Z h li kli .boolean (2 : Int32) [(.int 1), (.int 1)] (.int 0) ∧ Arv Z h in_ kin_ .double (2 : Int32) [(.double 0), (.double oC)] (.double 0) ∧ Arv Z h ou kou .double (2 : Int32) [(.double 0), (.double 0)] (.double 0) ∧ Arv Z h fl kfl .int 4 [(.int 0), (.int 1)] (.int 0) ∧ Arv Z h el kel .int 16 [(.int 0), (.int 1)] (.int 0) ∧ Arv Z h ev kev .double (16 : Int32) [(.double V0), (.double V1)] (.double 0) ∧ Arv Z h st kst .int 16 [(.int 0)] (.int 0) ∧ Arv Z h se kse .int 16 [(.int 2)] (.int 0)
set_option maxRecDepth 65536 in
set_option maxHeartbeats 40000000 in
theorem own_rmslB (l : Launch) (Z : State) (a0 : Array Value) (hw : ∀ d ∈ tables_1, d.before a0 Z = true) (ws : List Jvm.Cond) (fi : Addr) (pn : Int32) (X_ : UInt64) (h0 : Heap) (n0 : Nat) (le ex jo go pe li in_ ou fl el ev st se : Addr) (kex kjo kgo kpe kli kin_ kou kfl kel kev kst kse : ClassId) (hc0 : n0 ≤ le) (hc1 : @LT.lt Nat _ le ex) (hc2 : @LT.lt Nat _ ex jo) (hc3 : @LT.lt Nat _ jo go) (hc4 : @LT.lt Nat _ go pe) (hc5 : @LT.lt Nat _ pe li) (hc6 : @LT.lt Nat _ li fi) (hc7 : @LT.lt Nat _ fi in_) (hc8 : @LT.lt Nat _ in_ ou) (hc9 : @LT.lt Nat _ ou fl) (hc10 : @LT.lt Nat _ fl el) (hc11 : @LT.lt Nat _ el ev) (hc12 : @LT.lt Nat _ ev st) (hc13 : @LT.lt Nat _ st se) (V0 V1 Ve tt tv : UInt64) (hp : pn = (0 : Int32)) (hx0 : (0 : Int32) < cmpValue (FP.dcmp X_ (0 : UInt64)) .l) (hU : FP.dadd (0 : UInt64) X_ = X_) (hnX : NoNaN64 X_) (hn0 : NoNaN64 V0) (hn1 : NoNaN64 V1) (ha0 : FP.dadd (0 : UInt64) V0 = V0) (ha1 : FP.dadd (0 : UInt64) V1 = V1) (hp0 : FP.dsub V0 (0 : UInt64) = V0) (hp1 : FP.dsub V1 (0 : UInt64) = V1) (hm0 : Native.java_lang_Math.nans.pick64 true (0 : UInt64) V0 = V0) (hm1 : Native.java_lang_Math.nans.pick64 true (0 : UInt64) V1 = V1) (hs1 : FP.dadd V0 V1 = (4625196817309499392 : UInt64)) (hv : Native.java_lang_Math.nans.pick64 false X_ (4625196817309499392 : UInt64) = Ve) (hge : ¬ ((0 : Int32) < cmpValue (FP.dcmp (4625196817309499392 : UInt64) X_) .g)) (e0 e1 : Int32) (E_fi : Exa Z h0 fi "com/example/spillback/spillback/Fifo") (F22 : Fld Z h0 fi "com/example/spillback/spillback/Fifo" "listed" "[I" (.ref fl)) (F0 : Fld Z h0 fi "com/example/spillback/spillback/Fifo" "entryLegs" "[I" (.ref el)) (F2 : Fld Z h0 fi "com/example/spillback/spillback/Fifo" "entryVehicles" "[D" (.ref ev)) (F38 : Fld Z h0 fi "com/example/spillback/spillback/Fifo" "steps" "[I" (.ref st)) (F36 : Fld Z h0 fi "com/example/spillback/spillback/Fifo" "stepEnds" "[I" (.ref se)) (F18 : Fld Z h0 fi "com/example/spillback/spillback/Fifo" "legs" "Lcom/example/spillback/spillback/Fifo$Legs;" (.ref le)) (F12 : Fld Z h0 fi "com/example/spillback/spillback/Fifo" "in" "[D" (.ref in_)) (F26 : Fld Z h0 fi "com/example/spillback/spillback/Fifo" "out" "[D" (.ref ou)) (F40 : Fld Z h0 fi "com/example/spillback/spillback/Fifo" "tail" "I" (.int 2)) (F16 : Fld Z h0 fi "com/example/spillback/spillback/Fifo" "joiningStart" "I" (.int 2)) (F6 : Fld Z h0 fi "com/example/spillback/spillback/Fifo" "firstStep" "I" (.int 0)) (F34 : Fld Z h0 fi "com/example/spillback/spillback/Fifo" "stepCount" "I" (.int 1)) (F20 : Fld Z h0 fi "com/example/spillback/spillback/Fifo" "listedCount" "I" (.int 0)) (F10 : Fld Z h0 fi "com/example/spillback/spillback/Fifo" "head" "I" (.int 0)) (F30 : Fld Z h0 fi "com/example/spillback/spillback/Fifo" "sliceTotal" "D" (.double tt)) (F32 : Fld Z h0 fi "com/example/spillback/spillback/Fifo" "sliceVehicles" "D" (.double tv)) (F4 : Fld Z h0 le "com/example/spillback/spillback/Fifo$Legs" "exits" "[I" (.ref ex)) (F14 : Fld Z h0 le "com/example/spillback/spillback/Fifo$Legs" "joined" "[D" (.ref jo)) (F8 : Fld Z h0 le "com/example/spillback/spillback/Fifo$Legs" "gone" "[D" (.ref go)) (F28 : Fld Z h0 le "com/example/spillback/spillback/Fifo$Legs" "pending" "[D" (.ref pe)) (F24 : Fld Z h0 le "com/example/spillback/spillback/Fifo$Legs" "listed" "[Z" (.ref li)) (V_jo : Arv Z h0 jo kjo .double (2 : Int32) [(.double 0), (.double 0)] (.double 0)) (V_go : Arv Z h0 go kgo .double (2 : Int32) [(.double 0), (.double 0)] (.double 0)) (V_pe : Arv Z h0 pe kpe .double (2 : Int32) [(.double 0), (.double 0)] (.double 0)) (V_li : Arv Z h0 li kli .boolean (2 : Int32) [(.int 0), (.int 0)] (.int 0)) (V_in_ : Arv Z h0 in_ kin_ .double (2 : Int32) [(.double 0), (.double oC)] (.double 0)) (V_ou : Arv Z h0 ou kou .double (2 : Int32) [(.double 0), (.double 0)] (.double 0)) (V_fl : Arv Z h0 fl kfl .int 4 [(.int 0), (.int 0)] (.int 0)) (V_el : Arv Z h0 el kel .int 16 [(.int 0), (.int 1)] (.int 0)) (V_ev : Arv Z h0 ev kev .double (16 : Int32) [(.double V0), (.double V1)] (.double 0)) (V_st : Arv Z h0 st kst .int 16 [(.int 0)] (.int 0)) (V_se : Arv Z h0 se kse .int 16 [(.int 2)] (.int 0)) :
    own_Met l Z (⟨"com/example/spillback/spillback/Fifo", "slice", "(ID)D"⟩ : MethodName) prog_12_method_4_code 14 (some .double) ws ({ frames := 1, cells := 0, slots := 0, locals := 40 } : Room) #[(.ref fi), (.int pn), (.double X_)] h0 (own_QslB Z le ex jo go pe li fi in_ ou fl el ev st se kex kjo kgo kpe kli kin_ kou kfl kel kev kst kse X_ V0 V1 Ve h0 n0) := by
  refine own_met (plainFor_of_name own_pn1) ?_
  intro p e s m below meth c s₁ X0 hx hZ hby hml hown hnm hret hlk e0
  have N0 := Fr.nil n0
  refine own_go (fun t k => castTop (own_efslB m fi pn X_) k) ?_
  have g_fi : @LE.le Nat _ n0 fi := by omega
  have lt_le_fi : @LT.lt Nat _ le fi := by omega
  have lt_jo_fi : @LT.lt Nat _ jo fi := by omega
  have lt_go_fi : @LT.lt Nat _ go fi := by omega
  have lt_pe_fi : @LT.lt Nat _ pe fi := by omega
  have lt_li_fi : @LT.lt Nat _ li fi := by omega
  have lt_fi_in_ : @LT.lt Nat _ fi in_ := by omega
  have lt_fi_ou : @LT.lt Nat _ fi ou := by omega
  have lt_fi_fl : @LT.lt Nat _ fi fl := by omega
  have lt_fi_el : @LT.lt Nat _ fi el := by omega
  have lt_fi_ev : @LT.lt Nat _ fi ev := by omega
  have lt_fi_st : @LT.lt Nat _ fi st := by omega
  have lt_fi_se : @LT.lt Nat _ fi se := by omega
  have g_jo : @LE.le Nat _ n0 jo := by omega
  have lt_le_jo : @LT.lt Nat _ le jo := by omega
  have lt_jo_go : @LT.lt Nat _ jo go := by omega
  have lt_jo_pe : @LT.lt Nat _ jo pe := by omega
  have lt_jo_li : @LT.lt Nat _ jo li := by omega
  have lt_jo_in_ : @LT.lt Nat _ jo in_ := by omega
  have lt_jo_ou : @LT.lt Nat _ jo ou := by omega
  have lt_jo_fl : @LT.lt Nat _ jo fl := by omega
  have lt_jo_el : @LT.lt Nat _ jo el := by omega
  have lt_jo_ev : @LT.lt Nat _ jo ev := by omega
  have lt_jo_st : @LT.lt Nat _ jo st := by omega
  have lt_jo_se : @LT.lt Nat _ jo se := by omega
  have lt_le_li : @LT.lt Nat _ le li := by omega
  have lt_le_fl : @LT.lt Nat _ le fl := by omega
  have lt_go_li : @LT.lt Nat _ go li := by omega
  have lt_go_fl : @LT.lt Nat _ go fl := by omega
  have lt_pe_li : @LT.lt Nat _ pe li := by omega
  have lt_pe_fl : @LT.lt Nat _ pe fl := by omega
  have lt_li_in_ : @LT.lt Nat _ li in_ := by omega
  have lt_in__fl : @LT.lt Nat _ in_ fl := by omega
  have lt_li_ou : @LT.lt Nat _ li ou := by omega
  have lt_ou_fl : @LT.lt Nat _ ou fl := by omega
  have lt_li_el : @LT.lt Nat _ li el := by omega
  have lt_fl_el : @LT.lt Nat _ fl el := by omega
  have lt_li_ev : @LT.lt Nat _ li ev := by omega
  have lt_fl_ev : @LT.lt Nat _ fl ev := by omega
  have lt_li_st : @LT.lt Nat _ li st := by omega
  have lt_fl_st : @LT.lt Nat _ fl st := by omega
  have lt_li_se : @LT.lt Nat _ li se := by omega
  have lt_fl_se : @LT.lt Nat _ fl se := by omega
  have g_pe : @LE.le Nat _ n0 pe := by omega
  have lt_le_pe : @LT.lt Nat _ le pe := by omega
  have lt_go_pe : @LT.lt Nat _ go pe := by omega
  have lt_pe_in_ : @LT.lt Nat _ pe in_ := by omega
  have lt_pe_ou : @LT.lt Nat _ pe ou := by omega
  have lt_pe_el : @LT.lt Nat _ pe el := by omega
  have lt_pe_ev : @LT.lt Nat _ pe ev := by omega
  have lt_pe_st : @LT.lt Nat _ pe st := by omega
  have lt_pe_se : @LT.lt Nat _ pe se := by omega
  have K := Keep.refl h0 [fi, jo, pe, li, fl]
  show own_Go _ _ _ _ s₁ (mkF m 0 #[oR fi, oI pn, oD X_, oS, oU, oU, oU, oU, oU, oU, oU, oU, oU, oU] [])
  subst hp
  show own_Go _ _ _ _ s₁ (mkF m 0 #[oR fi, oI 0, oD X_, oS, oU, oU, oU, oU, oU, oU, oU, oU, oU, oU] [])
  refine own_go (fun _ k => XS.aloadN X0.here hx rfl (hb hby own_d6_0) rfl rfl k) ?_
  show own_Go _ _ _ _ s₁ (mkF m 1 #[oR fi, oI 0, oD X_, oS, oU, oU, oU, oU, oU, oU, oU, oU, oU, oU] [(.ref fi)])
  refine own_go (fun _ k => XS.dconst0 X0.here hx rfl (hb hby own_d6_1) own_dc0 k) ?_
  show own_Go _ _ _ _ s₁ (mkF m 2 #[oR fi, oI 0, oD X_, oS, oU, oU, oU, oU, oU, oU, oU, oU, oU, oU] [(.double 0), (.ref fi)])
  obtain ⟨Tz108, hz108, Xz108, ez108, Wz108, stz108⟩ := putF X0 hx hZ hown (host := "") (Or.inl (hw _ (List.mem_of_getElem? (i := 68) rfl))) Via.refl e0 F30 E_fi (Or.inl (hw _ (List.mem_of_getElem? (i := 69) rfl))) (hw _ (List.mem_of_getElem? (i := 23) rfl)) (ty := .double) (by decide) rfl rfl (g := (mkF m 2 #[oR fi, oI 0, oD X_, oS, oU, oU, oU, oU, oU, oU, oU, oU, oU, oU] [(.double 0), (.ref fi)])) rfl rfl (hb hby own_d6_2)
  refine own_go stz108 ?_
  have Nz108 := Fr.snoc Xz108 N0 g_fi
  have F31 := F30.same Wz108
  have E_fi := E_fi.wr Wz108
  have F22 := F22.other Wz108 (own_sl hw 30 69 (Or.inl rfl) (Or.inl rfl) (by decide))
  have F0 := F0.other Wz108 (own_sl hw 32 69 (Or.inl rfl) (Or.inl rfl) (by decide))
  have F2 := F2.other Wz108 (own_sl hw 34 69 (Or.inl rfl) (Or.inl rfl) (by decide))
  have F38 := F38.other Wz108 (own_sl hw 36 69 (Or.inl rfl) (Or.inl rfl) (by decide))
  have F36 := F36.other Wz108 (own_sl hw 38 69 (Or.inl rfl) (Or.inl rfl) (by decide))
  have F18 := F18.other Wz108 (own_sl hw 40 69 (Or.inr rfl) (Or.inl rfl) (by decide))
  have F12 := F12.other Wz108 (own_sl hw 42 69 (Or.inr rfl) (Or.inl rfl) (by decide))
  have F26 := F26.other Wz108 (own_sl hw 44 69 (Or.inr rfl) (Or.inl rfl) (by decide))
  have F40 := F40.other Wz108 (own_sl hw 51 69 (Or.inl rfl) (Or.inl rfl) (by decide))
  have F16 := F16.other Wz108 (own_sl hw 58 69 (Or.inl rfl) (Or.inl rfl) (by decide))
  have F6 := F6.other Wz108 (own_sl hw 60 69 (Or.inl rfl) (Or.inl rfl) (by decide))
  have F34 := F34.other Wz108 (own_sl hw 62 69 (Or.inl rfl) (Or.inl rfl) (by decide))
  have F20 := F20.other Wz108 (own_sl hw 73 69 (Or.inl rfl) (Or.inl rfl) (by decide))
  have F10 := F10.other Wz108 (own_sl hw 79 69 (Or.inl rfl) (Or.inl rfl) (by decide))
  have F32 := F32.other Wz108 (own_sl hw 71 69 (Or.inl rfl) (Or.inl rfl) (by decide))
  have F4 := F4.other Wz108 (own_o1 lt_le_fi)
  have F14 := F14.other Wz108 (own_o1 lt_le_fi)
  have F8 := F8.other Wz108 (own_o1 lt_le_fi)
  have F28 := F28.other Wz108 (own_o1 lt_le_fi)
  have F24 := F24.other Wz108 (own_o1 lt_le_fi)
  have V_jo := V_jo.other Wz108 (Nat.ne_of_lt lt_jo_fi)
  have V_go := V_go.other Wz108 (Nat.ne_of_lt lt_go_fi)
  have V_pe := V_pe.other Wz108 (Nat.ne_of_lt lt_pe_fi)
  have V_li := V_li.other Wz108 (Nat.ne_of_lt lt_li_fi)
  have V_in_ := V_in_.other Wz108 (Nat.ne_of_gt lt_fi_in_)
  have V_ou := V_ou.other Wz108 (Nat.ne_of_gt lt_fi_ou)
  have V_fl := V_fl.other Wz108 (Nat.ne_of_gt lt_fi_fl)
  have V_el := V_el.other Wz108 (Nat.ne_of_gt lt_fi_el)
  have V_ev := V_ev.other Wz108 (Nat.ne_of_gt lt_fi_ev)
  have V_st := V_st.other Wz108 (Nat.ne_of_gt lt_fi_st)
  have V_se := V_se.other Wz108 (Nat.ne_of_gt lt_fi_se)
  have K := K.wr Wz108 (Or.inl (List.mem_of_getElem? (i := 0) rfl))
  have F30 := F31
  show own_Go _ _ _ _ Tz108 (mkF m 5 #[oR fi, oI 0, oD X_, oS, oU, oU, oU, oU, oU, oU, oU, oU, oU, oU] [])
  refine own_go (fun _ k => XS.aloadN Xz108.here hx rfl (hb hby own_d6_5) rfl rfl k) ?_
  show own_Go _ _ _ _ Tz108 (mkF m 6 #[oR fi, oI 0, oD X_, oS, oU, oU, oU, oU, oU, oU, oU, oU, oU, oU] [(.ref fi)])
  refine own_go (fun _ k => XS.dconst0 Xz108.here hx rfl (hb hby own_d6_6) own_dc0 k) ?_
  show own_Go _ _ _ _ Tz108 (mkF m 7 #[oR fi, oI 0, oD X_, oS, oU, oU, oU, oU, oU, oU, oU, oU, oU, oU] [(.double 0), (.ref fi)])
  obtain ⟨Tz109, hz109, Xz109, ez109, Wz109, stz109⟩ := putF Xz108 hx hZ hown (host := "") (Or.inl (hw _ (List.mem_of_getElem? (i := 70) rfl))) Via.refl ez108 F32 E_fi (Or.inl (hw _ (List.mem_of_getElem? (i := 71) rfl))) (hw _ (List.mem_of_getElem? (i := 23) rfl)) (ty := .double) (by decide) rfl rfl (g := (mkF m 7 #[oR fi, oI 0, oD X_, oS, oU, oU, oU, oU, oU, oU, oU, oU, oU, oU] [(.double 0), (.ref fi)])) rfl rfl (hb hby own_d6_7)
  refine own_go stz109 ?_
  have Nz109 := Fr.snoc Xz109 Nz108 g_fi
  have F33 := F32.same Wz109
  have E_fi := E_fi.wr Wz109
  have F22 := F22.other Wz109 (own_sl hw 30 71 (Or.inl rfl) (Or.inl rfl) (by decide))
  have F0 := F0.other Wz109 (own_sl hw 32 71 (Or.inl rfl) (Or.inl rfl) (by decide))
  have F2 := F2.other Wz109 (own_sl hw 34 71 (Or.inl rfl) (Or.inl rfl) (by decide))
  have F38 := F38.other Wz109 (own_sl hw 36 71 (Or.inl rfl) (Or.inl rfl) (by decide))
  have F36 := F36.other Wz109 (own_sl hw 38 71 (Or.inl rfl) (Or.inl rfl) (by decide))
  have F18 := F18.other Wz109 (own_sl hw 40 71 (Or.inr rfl) (Or.inl rfl) (by decide))
  have F12 := F12.other Wz109 (own_sl hw 42 71 (Or.inr rfl) (Or.inl rfl) (by decide))
  have F26 := F26.other Wz109 (own_sl hw 44 71 (Or.inr rfl) (Or.inl rfl) (by decide))
  have F40 := F40.other Wz109 (own_sl hw 51 71 (Or.inl rfl) (Or.inl rfl) (by decide))
  have F16 := F16.other Wz109 (own_sl hw 58 71 (Or.inl rfl) (Or.inl rfl) (by decide))
  have F6 := F6.other Wz109 (own_sl hw 60 71 (Or.inl rfl) (Or.inl rfl) (by decide))
  have F34 := F34.other Wz109 (own_sl hw 62 71 (Or.inl rfl) (Or.inl rfl) (by decide))
  have F20 := F20.other Wz109 (own_sl hw 73 71 (Or.inl rfl) (Or.inl rfl) (by decide))
  have F10 := F10.other Wz109 (own_sl hw 79 71 (Or.inl rfl) (Or.inl rfl) (by decide))
  have F4 := F4.other Wz109 (own_o1 lt_le_fi)
  have F14 := F14.other Wz109 (own_o1 lt_le_fi)
  have F8 := F8.other Wz109 (own_o1 lt_le_fi)
  have F28 := F28.other Wz109 (own_o1 lt_le_fi)
  have F24 := F24.other Wz109 (own_o1 lt_le_fi)
  have V_jo := V_jo.other Wz109 (Nat.ne_of_lt lt_jo_fi)
  have V_go := V_go.other Wz109 (Nat.ne_of_lt lt_go_fi)
  have V_pe := V_pe.other Wz109 (Nat.ne_of_lt lt_pe_fi)
  have V_li := V_li.other Wz109 (Nat.ne_of_lt lt_li_fi)
  have V_in_ := V_in_.other Wz109 (Nat.ne_of_gt lt_fi_in_)
  have V_ou := V_ou.other Wz109 (Nat.ne_of_gt lt_fi_ou)
  have V_fl := V_fl.other Wz109 (Nat.ne_of_gt lt_fi_fl)
  have V_el := V_el.other Wz109 (Nat.ne_of_gt lt_fi_el)
  have V_ev := V_ev.other Wz109 (Nat.ne_of_gt lt_fi_ev)
  have V_st := V_st.other Wz109 (Nat.ne_of_gt lt_fi_st)
  have V_se := V_se.other Wz109 (Nat.ne_of_gt lt_fi_se)
  have K := K.wr Wz109 (Or.inl (List.mem_of_getElem? (i := 0) rfl))
  have F30 := F30.other Wz109 (own_sl hw 69 71 (Or.inl rfl) (Or.inl rfl) (by decide))
  have F32 := F33
  show own_Go _ _ _ _ Tz109 (mkF m 10 #[oR fi, oI 0, oD X_, oS, oU, oU, oU, oU, oU, oU, oU, oU, oU, oU] [])
  refine own_go (fun _ k => XS.dloadN Xz109.here hx rfl (hb hby own_d6_10) rfl k) ?_
  show own_Go _ _ _ _ Tz109 (mkF m 11 #[oR fi, oI 0, oD X_, oS, oU, oU, oU, oU, oU, oU, oU, oU, oU, oU] [(.double X_)])
  refine own_go (fun _ k => XS.dconst0 Xz109.here hx rfl (hb hby own_d6_11) own_dc0 k) ?_
  show own_Go _ _ _ _ Tz109 (mkF m 12 #[oR fi, oI 0, oD X_, oS, oU, oU, oU, oU, oU, oU, oU, oU, oU, oU] [(.double 0), (.double X_)])
  refine own_go (fun _ k => XS.dcmpS Xz109.here hx rfl (hb hby own_d6_12) rfl rfl k) ?_
  show own_Go _ _ _ _ Tz109 (mkF m 13 #[oR fi, oI 0, oD X_, oS, oU, oU, oU, oU, oU, oU, oU, oU, oU, oU] [(.int (cmpValue (FP.dcmp X_ (0 : UInt64)) .l))])
  refine own_go (fun _ k => XS.ifYes Xz109.here hx rfl (pc0 := 13) (pc' := 18) rfl (hb hby own_d6_13) rfl ((if0 _ _).trans (tlt hx0).2.2.1) (by decide) (by decide) k) ?_
  show own_Go _ _ _ _ Tz109 (mkF m 18 #[oR fi, oI 0, oD X_, oS, oU, oU, oU, oU, oU, oU, oU, oU, oU, oU] [])
  refine own_go (fun _ k => XS.aloadN Xz109.here hx rfl (hb hby own_d6_18) rfl rfl k) ?_
  show own_Go _ _ _ _ Tz109 (mkF m 19 #[oR fi, oI 0, oD X_, oS, oU, oU, oU, oU, oU, oU, oU, oU, oU, oU] [(.ref fi)])
  obtain ⟨Tz110, Xz110, ez110, stz110⟩ := getF Xz109 hx hZ hown (host := "") (Or.inl (hw _ (List.mem_of_getElem? (i := 43) rfl))) Via.refl ez109 F26 (g := (mkF m 19 #[oR fi, oI 0, oD X_, oS, oU, oU, oU, oU, oU, oU, oU, oU, oU, oU] [(.ref fi)])) rfl rfl (hb hby own_d6_19)
  refine own_go stz110 ?_
  show own_Go _ _ _ _ Tz110 (mkF m 22 #[oR fi, oI 0, oD X_, oS, oU, oU, oU, oU, oU, oU, oU, oU, oU, oU] [(.ref ou)])
  refine own_go (fun _ k => XS.iloadN Xz110.here hx rfl (hb hby own_d6_22) rfl k) ?_
  show own_Go _ _ _ _ Tz110 (mkF m 23 #[oR fi, oI 0, oD X_, oS, oU, oU, oU, oU, oU, oU, oU, oU, oU, oU] [(.int 0), (.ref ou)])
  obtain ⟨clz111, Arz111, qz111, Sz111, Mz111, HHz111, Gz111⟩ := id V_ou
  have hinz111 : ¬ ((0 : Int32) < 0 ∨ clz111.slots.size ≤ ((0 : Int32)).toNatClampNeg) := inb_of Sz111 ⟨(by decide), (by decide)⟩
  have hatz111 : clz111.slots[((0 : Int32)).toNatClampNeg]? = some (.double 0) := HHz111.at hinz111 (rfl)
  refine own_go (fun _ k => Xz110.daload hx (j := (0 : Int32)) (v := (.double 0)) (by rw [ez110]; exact Arz111.1) (State.isArrayOf_alike hZ.alike Arz111.2.1) Arz111.2.2 hinz111 hatz111 (g := (mkF m 23 #[oR fi, oI 0, oD X_, oS, oU, oU, oU, oU, oU, oU, oU, oU, oU, oU] [(.int 0), (.ref ou)])) rfl rfl (hb hby own_d6_23) _ k) ?_
  show own_Go _ _ _ _ Tz110 (mkF m 24 #[oR fi, oI 0, oD X_, oS, oU, oU, oU, oU, oU, oU, oU, oU, oU, oU] [(.double 0)])
  refine own_go (fun _ k => XS.dloadN Xz110.here hx rfl (hb hby own_d6_24) rfl k) ?_
  show own_Go _ _ _ _ Tz110 (mkF m 25 #[oR fi, oI 0, oD X_, oS, oU, oU, oU, oU, oU, oU, oU, oU, oU, oU] [(.double X_), (.double 0)])
  refine own_go (fun _ k => XS.daddS Xz110.here hx rfl (hb hby own_d6_25) rfl (by rw [hU]; exact hnX) hU k) ?_
  show own_Go _ _ _ _ Tz110 (mkF m 26 #[oR fi, oI 0, oD X_, oS, oU, oU, oU, oU, oU, oU, oU, oU, oU, oU] [(.double X_)])
  refine own_go (fun _ k => XS.dstore Xz110.here hx rfl (hb hby own_d6_26) rfl (l' := #[oR fi, oI 0, oD X_, oS, oD X_, oS, oU, oU, oU, oU, oU, oU, oU, oU]) rfl k) ?_
  show own_Go _ _ _ _ Tz110 (mkF m 28 #[oR fi, oI 0, oD X_, oS, oD X_, oS, oU, oU, oU, oU, oU, oU, oU, oU] [])
  refine own_go (fun _ k => XS.aloadN Xz110.here hx rfl (hb hby own_d6_28) rfl rfl k) ?_
  show own_Go _ _ _ _ Tz110 (mkF m 29 #[oR fi, oI 0, oD X_, oS, oD X_, oS, oU, oU, oU, oU, oU, oU, oU, oU] [(.ref fi)])
  obtain ⟨Tz112, Xz112, ez112, stz112⟩ := getF Xz110 hx hZ hown (host := "") (Or.inl (hw _ (List.mem_of_getElem? (i := 61) rfl))) Via.refl ez110 F34 (g := (mkF m 29 #[oR fi, oI 0, oD X_, oS, oD X_, oS, oU, oU, oU, oU, oU, oU, oU, oU] [(.ref fi)])) rfl rfl (hb hby own_d6_29)
  refine own_go stz112 ?_
  show own_Go _ _ _ _ Tz112 (mkF m 32 #[oR fi, oI 0, oD X_, oS, oD X_, oS, oU, oU, oU, oU, oU, oU, oU, oU] [(.int 1)])
  refine own_go (fun _ k => XS.ifNo Xz112.here hx rfl (hb hby own_d6_32) rfl ((if0 _ _).trans (tlt (by decide : (0 : Int32) < (1 : Int32))).2.2.2) k) ?_
  show own_Go _ _ _ _ Tz112 (mkF m 35 #[oR fi, oI 0, oD X_, oS, oD X_, oS, oU, oU, oU, oU, oU, oU, oU, oU] [])
  refine own_go (fun _ k => XS.aloadN Xz112.here hx rfl (hb hby own_d6_35) rfl rfl k) ?_
  show own_Go _ _ _ _ Tz112 (mkF m 36 #[oR fi, oI 0, oD X_, oS, oD X_, oS, oU, oU, oU, oU, oU, oU, oU, oU] [(.ref fi)])
  obtain ⟨Tz113, Xz113, ez113, stz113⟩ := getF Xz112 hx hZ hown (host := "") (Or.inl (hw _ (List.mem_of_getElem? (i := 41) rfl))) Via.refl ez112 F12 (g := (mkF m 36 #[oR fi, oI 0, oD X_, oS, oD X_, oS, oU, oU, oU, oU, oU, oU, oU, oU] [(.ref fi)])) rfl rfl (hb hby own_d6_36)
  refine own_go stz113 ?_
  show own_Go _ _ _ _ Tz113 (mkF m 39 #[oR fi, oI 0, oD X_, oS, oD X_, oS, oU, oU, oU, oU, oU, oU, oU, oU] [(.ref in_)])
  refine own_go (fun _ k => XS.aloadN Xz113.here hx rfl (hb hby own_d6_39) rfl rfl k) ?_
  show own_Go _ _ _ _ Tz113 (mkF m 40 #[oR fi, oI 0, oD X_, oS, oD X_, oS, oU, oU, oU, oU, oU, oU, oU, oU] [(.ref fi), (.ref in_)])
  obtain ⟨Tz114, Xz114, ez114, stz114⟩ := getF Xz113 hx hZ hown (host := "") (Or.inl (hw _ (List.mem_of_getElem? (i := 35) rfl))) Via.refl ez113 F38 (g := (mkF m 40 #[oR fi, oI 0, oD X_, oS, oD X_, oS, oU, oU, oU, oU, oU, oU, oU, oU] [(.ref fi), (.ref in_)])) rfl rfl (hb hby own_d6_40)
  refine own_go stz114 ?_
  show own_Go _ _ _ _ Tz114 (mkF m 43 #[oR fi, oI 0, oD X_, oS, oD X_, oS, oU, oU, oU, oU, oU, oU, oU, oU] [(.ref st), (.ref in_)])
  refine own_go (fun _ k => XS.aloadN Xz114.here hx rfl (hb hby own_d6_43) rfl rfl k) ?_
  show own_Go _ _ _ _ Tz114 (mkF m 44 #[oR fi, oI 0, oD X_, oS, oD X_, oS, oU, oU, oU, oU, oU, oU, oU, oU] [(.ref fi), (.ref st), (.ref in_)])
  obtain ⟨Tz115, Xz115, ez115, stz115⟩ := getF Xz114 hx hZ hown (host := "") (Or.inl (hw _ (List.mem_of_getElem? (i := 59) rfl))) Via.refl ez114 F6 (g := (mkF m 44 #[oR fi, oI 0, oD X_, oS, oD X_, oS, oU, oU, oU, oU, oU, oU, oU, oU] [(.ref fi), (.ref st), (.ref in_)])) rfl rfl (hb hby own_d6_44)
  refine own_go stz115 ?_
  show own_Go _ _ _ _ Tz115 (mkF m 47 #[oR fi, oI 0, oD X_, oS, oD X_, oS, oU, oU, oU, oU, oU, oU, oU, oU] [(.int 0), (.ref st), (.ref in_)])
  obtain ⟨clz116, Arz116, qz116, Sz116, Mz116, HHz116, Gz116⟩ := id V_st
  have hinz116 : ¬ ((0 : Int32) < 0 ∨ clz116.slots.size ≤ ((0 : Int32)).toNatClampNeg) := inb_of Sz116 ⟨(by decide), (by decide)⟩
  have hatz116 : clz116.slots[((0 : Int32)).toNatClampNeg]? = some (.int 0) := HHz116.at hinz116 (rfl)
  refine own_go (fun _ k => Xz115.iaload hx (j := (0 : Int32)) (v := (.int 0)) (by rw [ez115]; exact Arz116.1) (State.isArrayOf_alike hZ.alike Arz116.2.1) Arz116.2.2 hinz116 hatz116 (g := (mkF m 47 #[oR fi, oI 0, oD X_, oS, oD X_, oS, oU, oU, oU, oU, oU, oU, oU, oU] [(.int 0), (.ref st), (.ref in_)])) rfl rfl (hb hby own_d6_47) _ k) ?_
  show own_Go _ _ _ _ Tz115 (mkF m 48 #[oR fi, oI 0, oD X_, oS, oD X_, oS, oU, oU, oU, oU, oU, oU, oU, oU] [(.int 0), (.ref in_)])
  refine own_go (fun _ k => XS.iconst Xz115.here hx rfl (hb hby own_d6_48) k) ?_
  show own_Go _ _ _ _ Tz115 (mkF m 49 #[oR fi, oI 0, oD X_, oS, oD X_, oS, oU, oU, oU, oU, oU, oU, oU, oU] [(.int 1), (.int 0), (.ref in_)])
  refine own_go (fun _ k => XS.iadd Xz115.here hx rfl (hb hby own_d6_49) rfl k) ?_
  show own_Go _ _ _ _ Tz115 (mkF m 50 #[oR fi, oI 0, oD X_, oS, oD X_, oS, oU, oU, oU, oU, oU, oU, oU, oU] [(.int ((0 : Int32) + (1 : Int32))), (.ref in_)])
  obtain ⟨clz117, Arz117, qz117, Sz117, Mz117, HHz117, Gz117⟩ := id V_in_
  have hinz117 : ¬ (((0 : Int32) + (1 : Int32)) < 0 ∨ clz117.slots.size ≤ (((0 : Int32) + (1 : Int32))).toNatClampNeg) := inb_of Sz117 ⟨(by decide), (by decide)⟩
  have hatz117 : clz117.slots[(((0 : Int32) + (1 : Int32))).toNatClampNeg]? = some (.double oC) := HHz117.at hinz117 (rfl)
  refine own_go (fun _ k => Xz115.daload hx (j := ((0 : Int32) + (1 : Int32))) (v := (.double oC)) (by rw [ez115]; exact Arz117.1) (State.isArrayOf_alike hZ.alike Arz117.2.1) Arz117.2.2 hinz117 hatz117 (g := (mkF m 50 #[oR fi, oI 0, oD X_, oS, oD X_, oS, oU, oU, oU, oU, oU, oU, oU, oU] [(.int ((0 : Int32) + (1 : Int32))), (.ref in_)])) rfl rfl (hb hby own_d6_50) _ k) ?_
  show own_Go _ _ _ _ Tz115 (mkF m 51 #[oR fi, oI 0, oD X_, oS, oD X_, oS, oU, oU, oU, oU, oU, oU, oU, oU] [(.double oC)])
  refine own_go (fun _ k => XS.dload Xz115.here hx rfl (hb hby own_d6_51) rfl k) ?_
  show own_Go _ _ _ _ Tz115 (mkF m 53 #[oR fi, oI 0, oD X_, oS, oD X_, oS, oU, oU, oU, oU, oU, oU, oU, oU] [(.double X_), (.double oC)])
  refine own_go (fun _ k => XS.dcmpS Xz115.here hx rfl (hb hby own_d6_53) rfl rfl k) ?_
  show own_Go _ _ _ _ Tz115 (mkF m 54 #[oR fi, oI 0, oD X_, oS, oD X_, oS, oU, oU, oU, oU, oU, oU, oU, oU] [(.int (cmpValue (FP.dcmp (4625196817309499392 : UInt64) X_) .g))])
  refine own_go (fun _ k => XS.ifNo Xz115.here hx rfl (hb hby own_d6_54) rfl ((if0 _ _).trans (flt hge).2.2.1) k) ?_
  show own_Go _ _ _ _ Tz115 (mkF m 57 #[oR fi, oI 0, oD X_, oS, oD X_, oS, oU, oU, oU, oU, oU, oU, oU, oU] [])
  refine own_go (fun _ k => XS.aloadN Xz115.here hx rfl (hb hby own_d6_57) rfl rfl k) ?_
  show own_Go _ _ _ _ Tz115 (mkF m 58 #[oR fi, oI 0, oD X_, oS, oD X_, oS, oU, oU, oU, oU, oU, oU, oU, oU] [(.ref fi)])
  obtain ⟨Tz118, Xz118, ez118, stz118⟩ := getF Xz115 hx hZ hown (host := "") (Or.inl (hw _ (List.mem_of_getElem? (i := 37) rfl))) Via.refl ez115 F36 (g := (mkF m 58 #[oR fi, oI 0, oD X_, oS, oD X_, oS, oU, oU, oU, oU, oU, oU, oU, oU] [(.ref fi)])) rfl rfl (hb hby own_d6_58)
  refine own_go stz118 ?_
  show own_Go _ _ _ _ Tz118 (mkF m 61 #[oR fi, oI 0, oD X_, oS, oD X_, oS, oU, oU, oU, oU, oU, oU, oU, oU] [(.ref se)])
  refine own_go (fun _ k => XS.aloadN Xz118.here hx rfl (hb hby own_d6_61) rfl rfl k) ?_
  show own_Go _ _ _ _ Tz118 (mkF m 62 #[oR fi, oI 0, oD X_, oS, oD X_, oS, oU, oU, oU, oU, oU, oU, oU, oU] [(.ref fi), (.ref se)])
  obtain ⟨Tz119, Xz119, ez119, stz119⟩ := getF Xz118 hx hZ hown (host := "") (Or.inl (hw _ (List.mem_of_getElem? (i := 59) rfl))) Via.refl ez118 F6 (g := (mkF m 62 #[oR fi, oI 0, oD X_, oS, oD X_, oS, oU, oU, oU, oU, oU, oU, oU, oU] [(.ref fi), (.ref se)])) rfl rfl (hb hby own_d6_62)
  refine own_go stz119 ?_
  show own_Go _ _ _ _ Tz119 (mkF m 65 #[oR fi, oI 0, oD X_, oS, oD X_, oS, oU, oU, oU, oU, oU, oU, oU, oU] [(.int 0), (.ref se)])
  obtain ⟨clz120, Arz120, qz120, Sz120, Mz120, HHz120, Gz120⟩ := id V_se
  have hinz120 : ¬ ((0 : Int32) < 0 ∨ clz120.slots.size ≤ ((0 : Int32)).toNatClampNeg) := inb_of Sz120 ⟨(by decide), (by decide)⟩
  have hatz120 : clz120.slots[((0 : Int32)).toNatClampNeg]? = some (.int 2) := HHz120.at hinz120 (rfl)
  refine own_go (fun _ k => Xz119.iaload hx (j := (0 : Int32)) (v := (.int 2)) (by rw [ez119]; exact Arz120.1) (State.isArrayOf_alike hZ.alike Arz120.2.1) Arz120.2.2 hinz120 hatz120 (g := (mkF m 65 #[oR fi, oI 0, oD X_, oS, oD X_, oS, oU, oU, oU, oU, oU, oU, oU, oU] [(.int 0), (.ref se)])) rfl rfl (hb hby own_d6_65) _ k) ?_
  show own_Go _ _ _ _ Tz119 (mkF m 66 #[oR fi, oI 0, oD X_, oS, oD X_, oS, oU, oU, oU, oU, oU, oU, oU, oU] [(.int 2)])
  refine own_go (fun _ k => XS.istore Xz119.here hx rfl (hb hby own_d6_66) rfl (l' := #[oR fi, oI 0, oD X_, oS, oD X_, oS, oI 2, oU, oU, oU, oU, oU, oU, oU]) rfl k) ?_
  show own_Go _ _ _ _ Tz119 (mkF m 68 #[oR fi, oI 0, oD X_, oS, oD X_, oS, oI 2, oU, oU, oU, oU, oU, oU, oU] [])
  refine own_go (fun _ k => XS.aloadN Xz119.here hx rfl (hb hby own_d6_68) rfl rfl k) ?_
  show own_Go _ _ _ _ Tz119 (mkF m 69 #[oR fi, oI 0, oD X_, oS, oD X_, oS, oI 2, oU, oU, oU, oU, oU, oU, oU] [(.ref fi)])
  obtain ⟨Tz121, Xz121, ez121, stz121⟩ := getF Xz119 hx hZ hown (host := "") (Or.inl (hw _ (List.mem_of_getElem? (i := 78) rfl))) Via.refl ez119 F10 (g := (mkF m 69 #[oR fi, oI 0, oD X_, oS, oD X_, oS, oI 2, oU, oU, oU, oU, oU, oU, oU] [(.ref fi)])) rfl rfl (hb hby own_d6_69)
  refine own_go stz121 ?_
  show own_Go _ _ _ _ Tz121 (mkF m 72 #[oR fi, oI 0, oD X_, oS, oD X_, oS, oI 2, oU, oU, oU, oU, oU, oU, oU] [(.int 0)])
  refine own_go (fun _ k => XS.istore Xz121.here hx rfl (hb hby own_d6_72) rfl (l' := #[oR fi, oI 0, oD X_, oS, oD X_, oS, oI 2, oI 0, oU, oU, oU, oU, oU, oU]) rfl k) ?_
  show own_Go _ _ _ _ Tz121 (mkF m 74 #[oR fi, oI 0, oD X_, oS, oD X_, oS, oI 2, oI 0, oU, oU, oU, oU, oU, oU] [])
  refine own_go (fun _ k => XS.iload Xz121.here hx rfl (hb hby own_d6_74) rfl k) ?_
  show own_Go _ _ _ _ Tz121 (mkF m 76 #[oR fi, oI 0, oD X_, oS, oD X_, oS, oI 2, oI 0, oU, oU, oU, oU, oU, oU] [(.int 0)])
  refine own_go (fun _ k => XS.iload Xz121.here hx rfl (hb hby own_d6_76) rfl k) ?_
  show own_Go _ _ _ _ Tz121 (mkF m 78 #[oR fi, oI 0, oD X_, oS, oD X_, oS, oI 2, oI 0, oU, oU, oU, oU, oU, oU] [(.int 2), (.int 0)])
  refine own_go (fun _ k => XS.icmpNo Xz121.here hx rfl (hb hby own_d6_78) rfl (tlt (by decide : (0 : Int32) < (2 : Int32))).2.1 k) ?_
  show own_Go _ _ _ _ Tz121 (mkF m 81 #[oR fi, oI 0, oD X_, oS, oD X_, oS, oI 2, oI 0, oU, oU, oU, oU, oU, oU] [])
  refine own_go (fun _ k => XS.aloadN Xz121.here hx rfl (hb hby own_d6_81) rfl rfl k) ?_
  show own_Go _ _ _ _ Tz121 (mkF m 82 #[oR fi, oI 0, oD X_, oS, oD X_, oS, oI 2, oI 0, oU, oU, oU, oU, oU, oU] [(.ref fi)])
  obtain ⟨Tz122, Xz122, ez122, stz122⟩ := getF Xz121 hx hZ hown (host := "") (Or.inl (hw _ (List.mem_of_getElem? (i := 39) rfl))) Via.refl ez121 F18 (g := (mkF m 82 #[oR fi, oI 0, oD X_, oS, oD X_, oS, oI 2, oI 0, oU, oU, oU, oU, oU, oU] [(.ref fi)])) rfl rfl (hb hby own_d6_82)
  refine own_go stz122 ?_
  show own_Go _ _ _ _ Tz122 (mkF m 85 #[oR fi, oI 0, oD X_, oS, oD X_, oS, oI 2, oI 0, oU, oU, oU, oU, oU, oU] [(.ref le)])
  refine own_go (fun _ k => own_getR Xz122 hx hZ hown (hw _ (List.mem_of_getElem? (i := 86) rfl)) ez122 F14 (g := (mkF m 85 #[oR fi, oI 0, oD X_, oS, oD X_, oS, oI 2, oI 0, oU, oU, oU, oU, oU, oU] [(.ref le)])) rfl rfl (hb hby own_d6_85) _ k) ?_
  show own_Go _ _ _ _ Tz122 (mkF m 88 #[oR fi, oI 0, oD X_, oS, oD X_, oS, oI 2, oI 0, oU, oU, oU, oU, oU, oU] [(.ref jo)])
  refine own_go (fun _ k => XS.aloadN Xz122.here hx rfl (hb hby own_d6_88) rfl rfl k) ?_
  show own_Go _ _ _ _ Tz122 (mkF m 89 #[oR fi, oI 0, oD X_, oS, oD X_, oS, oI 2, oI 0, oU, oU, oU, oU, oU, oU] [(.ref fi), (.ref jo)])
  obtain ⟨Tz124, Xz124, ez124, stz124⟩ := getF Xz122 hx hZ hown (host := "") (Or.inl (hw _ (List.mem_of_getElem? (i := 31) rfl))) Via.refl ez122 F0 (g := (mkF m 89 #[oR fi, oI 0, oD X_, oS, oD X_, oS, oI 2, oI 0, oU, oU, oU, oU, oU, oU] [(.ref fi), (.ref jo)])) rfl rfl (hb hby own_d6_89)
  refine own_go stz124 ?_
  show own_Go _ _ _ _ Tz124 (mkF m 92 #[oR fi, oI 0, oD X_, oS, oD X_, oS, oI 2, oI 0, oU, oU, oU, oU, oU, oU] [(.ref el), (.ref jo)])
  refine own_go (fun _ k => XS.iload Xz124.here hx rfl (hb hby own_d6_92) rfl k) ?_
  show own_Go _ _ _ _ Tz124 (mkF m 94 #[oR fi, oI 0, oD X_, oS, oD X_, oS, oI 2, oI 0, oU, oU, oU, oU, oU, oU] [(.int 0), (.ref el), (.ref jo)])
  obtain ⟨clz125, Arz125, qz125, Sz125, Mz125, HHz125, Gz125⟩ := id V_el
  have hinz125 : ¬ ((0 : Int32) < 0 ∨ clz125.slots.size ≤ ((0 : Int32)).toNatClampNeg) := inb_of Sz125 ⟨(by decide), (by decide)⟩
  have hatz125 : clz125.slots[((0 : Int32)).toNatClampNeg]? = some (.int 0) := HHz125.at hinz125 (rfl)
  refine own_go (fun _ k => Xz124.iaload hx (j := (0 : Int32)) (v := (.int 0)) (by rw [ez124]; exact Arz125.1) (State.isArrayOf_alike hZ.alike Arz125.2.1) Arz125.2.2 hinz125 hatz125 (g := (mkF m 94 #[oR fi, oI 0, oD X_, oS, oD X_, oS, oI 2, oI 0, oU, oU, oU, oU, oU, oU] [(.int 0), (.ref el), (.ref jo)])) rfl rfl (hb hby own_d6_94) _ k) ?_
  show own_Go _ _ _ _ Tz124 (mkF m 95 #[oR fi, oI 0, oD X_, oS, oD X_, oS, oI 2, oI 0, oU, oU, oU, oU, oU, oU] [(.int 0), (.ref jo)])
  refine own_go (fun _ k => own_dup2 Xz124.here hx rfl (hb hby own_d6_95) rfl k) ?_
  show own_Go _ _ _ _ Tz124 (mkF m 96 #[oR fi, oI 0, oD X_, oS, oD X_, oS, oI 2, oI 0, oU, oU, oU, oU, oU, oU] [(.int 0), (.ref jo), (.int 0), (.ref jo)])
  obtain ⟨clz126, Arz126, qz126, Sz126, Mz126, HHz126, Gz126⟩ := id V_jo
  have hinz126 : ¬ ((0 : Int32) < 0 ∨ clz126.slots.size ≤ ((0 : Int32)).toNatClampNeg) := inb_of Sz126 ⟨(by decide), (by decide)⟩
  have hatz126 : clz126.slots[((0 : Int32)).toNatClampNeg]? = some (.double 0) := HHz126.at hinz126 (rfl)
  refine own_go (fun _ k => Xz124.daload hx (j := (0 : Int32)) (v := (.double 0)) (by rw [ez124]; exact Arz126.1) (State.isArrayOf_alike hZ.alike Arz126.2.1) Arz126.2.2 hinz126 hatz126 (g := (mkF m 96 #[oR fi, oI 0, oD X_, oS, oD X_, oS, oI 2, oI 0, oU, oU, oU, oU, oU, oU] [(.int 0), (.ref jo), (.int 0), (.ref jo)])) rfl rfl (hb hby own_d6_96) _ k) ?_
  show own_Go _ _ _ _ Tz124 (mkF m 97 #[oR fi, oI 0, oD X_, oS, oD X_, oS, oI 2, oI 0, oU, oU, oU, oU, oU, oU] [(.double 0), (.int 0), (.ref jo)])
  refine own_go (fun _ k => XS.aloadN Xz124.here hx rfl (hb hby own_d6_97) rfl rfl k) ?_
  show own_Go _ _ _ _ Tz124 (mkF m 98 #[oR fi, oI 0, oD X_, oS, oD X_, oS, oI 2, oI 0, oU, oU, oU, oU, oU, oU] [(.ref fi), (.double 0), (.int 0), (.ref jo)])
  obtain ⟨Tz127, Xz127, ez127, stz127⟩ := getF Xz124 hx hZ hown (host := "") (Or.inl (hw _ (List.mem_of_getElem? (i := 33) rfl))) Via.refl ez124 F2 (g := (mkF m 98 #[oR fi, oI 0, oD X_, oS, oD X_, oS, oI 2, oI 0, oU, oU, oU, oU, oU, oU] [(.ref fi), (.double 0), (.int 0), (.ref jo)])) rfl rfl (hb hby own_d6_98)
  refine own_go stz127 ?_
  show own_Go _ _ _ _ Tz127 (mkF m 101 #[oR fi, oI 0, oD X_, oS, oD X_, oS, oI 2, oI 0, oU, oU, oU, oU, oU, oU] [(.ref ev), (.double 0), (.int 0), (.ref jo)])
  refine own_go (fun _ k => XS.iload Xz127.here hx rfl (hb hby own_d6_101) rfl k) ?_
  show own_Go _ _ _ _ Tz127 (mkF m 103 #[oR fi, oI 0, oD X_, oS, oD X_, oS, oI 2, oI 0, oU, oU, oU, oU, oU, oU] [(.int 0), (.ref ev), (.double 0), (.int 0), (.ref jo)])
  obtain ⟨clz128, Arz128, qz128, Sz128, Mz128, HHz128, Gz128⟩ := id V_ev
  have hinz128 : ¬ ((0 : Int32) < 0 ∨ clz128.slots.size ≤ ((0 : Int32)).toNatClampNeg) := inb_of Sz128 ⟨(by decide), (by decide)⟩
  have hatz128 : clz128.slots[((0 : Int32)).toNatClampNeg]? = some (.double V0) := HHz128.at hinz128 (rfl)
  refine own_go (fun _ k => Xz127.daload hx (j := (0 : Int32)) (v := (.double V0)) (by rw [ez127]; exact Arz128.1) (State.isArrayOf_alike hZ.alike Arz128.2.1) Arz128.2.2 hinz128 hatz128 (g := (mkF m 103 #[oR fi, oI 0, oD X_, oS, oD X_, oS, oI 2, oI 0, oU, oU, oU, oU, oU, oU] [(.int 0), (.ref ev), (.double 0), (.int 0), (.ref jo)])) rfl rfl (hb hby own_d6_103) _ k) ?_
  show own_Go _ _ _ _ Tz127 (mkF m 104 #[oR fi, oI 0, oD X_, oS, oD X_, oS, oI 2, oI 0, oU, oU, oU, oU, oU, oU] [(.double V0), (.double 0), (.int 0), (.ref jo)])
  refine own_go (fun _ k => XS.daddS Xz127.here hx rfl (hb hby own_d6_104) rfl (by rw [ha0]; exact hn0) ha0 k) ?_
  show own_Go _ _ _ _ Tz127 (mkF m 105 #[oR fi, oI 0, oD X_, oS, oD X_, oS, oI 2, oI 0, oU, oU, oU, oU, oU, oU] [(.double V0), (.int 0), (.ref jo)])
  obtain ⟨clz129, Arz129, qz129, Sz129, Mz129, HHz129, Gz129⟩ := V_jo
  have hinz129 : ¬ ((0 : Int32) < 0 ∨ clz129.slots.size ≤ ((0 : Int32)).toNatClampNeg) := inb_of Sz129 ⟨(by decide), (by decide)⟩
  obtain ⟨Tz129, hz129, Xz129, ez129, Wz129, stz129⟩ := stD Xz127 hx hZ ez127 Arz129 (j := (0 : Int32)) hinz129 (g := (mkF m 105 #[oR fi, oI 0, oD X_, oS, oD X_, oS, oI 2, oI 0, oU, oU, oU, oU, oU, oU] [(.double V0), (.int 0), (.ref jo)])) rfl rfl (hb hby own_d6_105)
  refine own_go stz129 ?_
  have V_jo_ : Arv Z hz129 jo kjo .double (2 : Int32) [(.double V0), (.double 0)] (.double 0) := Arv.set Arz129 qz129 Sz129 Mz129 HHz129 Gz129 rfl Wz129 0 rfl (Nat.le_of_ble_eq_true rfl)
  have Nz129 := Fr.snoc Xz129 Nz109 g_jo
  have E_fi := E_fi.wr Wz129
  have F22 := F22.other Wz129 (own_o2 lt_jo_fi)
  have F0 := F0.other Wz129 (own_o2 lt_jo_fi)
  have F2 := F2.other Wz129 (own_o2 lt_jo_fi)
  have F38 := F38.other Wz129 (own_o2 lt_jo_fi)
  have F36 := F36.other Wz129 (own_o2 lt_jo_fi)
  have F18 := F18.other Wz129 (own_o2 lt_jo_fi)
  have F12 := F12.other Wz129 (own_o2 lt_jo_fi)
  have F26 := F26.other Wz129 (own_o2 lt_jo_fi)
  have F40 := F40.other Wz129 (own_o2 lt_jo_fi)
  have F16 := F16.other Wz129 (own_o2 lt_jo_fi)
  have F6 := F6.other Wz129 (own_o2 lt_jo_fi)
  have F34 := F34.other Wz129 (own_o2 lt_jo_fi)
  have F20 := F20.other Wz129 (own_o2 lt_jo_fi)
  have F10 := F10.other Wz129 (own_o2 lt_jo_fi)
  have F4 := F4.other Wz129 (own_o1 lt_le_jo)
  have F14 := F14.other Wz129 (own_o1 lt_le_jo)
  have F8 := F8.other Wz129 (own_o1 lt_le_jo)
  have F28 := F28.other Wz129 (own_o1 lt_le_jo)
  have F24 := F24.other Wz129 (own_o1 lt_le_jo)
  have V_go := V_go.other Wz129 (Nat.ne_of_gt lt_jo_go)
  have V_pe := V_pe.other Wz129 (Nat.ne_of_gt lt_jo_pe)
  have V_li := V_li.other Wz129 (Nat.ne_of_gt lt_jo_li)
  have V_in_ := V_in_.other Wz129 (Nat.ne_of_gt lt_jo_in_)
  have V_ou := V_ou.other Wz129 (Nat.ne_of_gt lt_jo_ou)
  have V_fl := V_fl.other Wz129 (Nat.ne_of_gt lt_jo_fl)
  have V_el := V_el.other Wz129 (Nat.ne_of_gt lt_jo_el)
  have V_ev := V_ev.other Wz129 (Nat.ne_of_gt lt_jo_ev)
  have V_st := V_st.other Wz129 (Nat.ne_of_gt lt_jo_st)
  have V_se := V_se.other Wz129 (Nat.ne_of_gt lt_jo_se)
  have K := K.wr Wz129 (Or.inl (List.mem_of_getElem? (i := 1) rfl))
  have F30 := F30.other Wz129 (own_o2 lt_jo_fi)
  have F32 := F32.other Wz129 (own_o2 lt_jo_fi)
  have V_jo := V_jo_
  show own_Go _ _ _ _ Tz129 (mkF m 106 #[oR fi, oI 0, oD X_, oS, oD X_, oS, oI 2, oI 0, oU, oU, oU, oU, oU, oU] [])
  refine own_go (fun _ k => XS.aloadN Xz129.here hx rfl (hb hby own_d6_106) rfl rfl k) ?_
  show own_Go _ _ _ _ Tz129 (mkF m 107 #[oR fi, oI 0, oD X_, oS, oD X_, oS, oI 2, oI 0, oU, oU, oU, oU, oU, oU] [(.ref fi)])
  refine own_go (fun _ k => XS.aloadN Xz129.here hx rfl (hb hby own_d6_107) rfl rfl k) ?_
  show own_Go _ _ _ _ Tz129 (mkF m 108 #[oR fi, oI 0, oD X_, oS, oD X_, oS, oI 2, oI 0, oU, oU, oU, oU, oU, oU] [(.ref fi), (.ref fi)])
  obtain ⟨Tz130, Xz130, ez130, stz130⟩ := getF Xz129 hx hZ hown (host := "") (Or.inl (hw _ (List.mem_of_getElem? (i := 31) rfl))) Via.refl ez129 F0 (g := (mkF m 108 #[oR fi, oI 0, oD X_, oS, oD X_, oS, oI 2, oI 0, oU, oU, oU, oU, oU, oU] [(.ref fi), (.ref fi)])) rfl rfl (hb hby own_d6_108)
  refine own_go stz130 ?_
  show own_Go _ _ _ _ Tz130 (mkF m 111 #[oR fi, oI 0, oD X_, oS, oD X_, oS, oI 2, oI 0, oU, oU, oU, oU, oU, oU] [(.ref el), (.ref fi)])
  refine own_go (fun _ k => XS.iload Xz130.here hx rfl (hb hby own_d6_111) rfl k) ?_
  show own_Go _ _ _ _ Tz130 (mkF m 113 #[oR fi, oI 0, oD X_, oS, oD X_, oS, oI 2, oI 0, oU, oU, oU, oU, oU, oU] [(.int 0), (.ref el), (.ref fi)])
  obtain ⟨clz131, Arz131, qz131, Sz131, Mz131, HHz131, Gz131⟩ := id V_el
  have hinz131 : ¬ ((0 : Int32) < 0 ∨ clz131.slots.size ≤ ((0 : Int32)).toNatClampNeg) := inb_of Sz131 ⟨(by decide), (by decide)⟩
  have hatz131 : clz131.slots[((0 : Int32)).toNatClampNeg]? = some (.int 0) := HHz131.at hinz131 (rfl)
  refine own_go (fun _ k => Xz130.iaload hx (j := (0 : Int32)) (v := (.int 0)) (by rw [ez130]; exact Arz131.1) (State.isArrayOf_alike hZ.alike Arz131.2.1) Arz131.2.2 hinz131 hatz131 (g := (mkF m 113 #[oR fi, oI 0, oD X_, oS, oD X_, oS, oI 2, oI 0, oU, oU, oU, oU, oU, oU] [(.int 0), (.ref el), (.ref fi)])) rfl rfl (hb hby own_d6_113) _ k) ?_
  show own_Go _ _ _ _ Tz130 (mkF m 114 #[oR fi, oI 0, oD X_, oS, oD X_, oS, oI 2, oI 0, oU, oU, oU, oU, oU, oU] [(.int 0), (.ref fi)])
  obtain ⟨vz132, Tz132, Lz132, Xz132, hQz132, stz132⟩ := own_callP Xz130 hx hZ hown (hw _ (List.mem_of_getElem? (i := 80) rfl)) (hw _ (List.mem_of_getElem? (i := 81) rfl)) (hw _ (List.mem_of_getElem? (i := 82) rfl)) (hw _ (List.mem_of_getElem? (i := 23) rfl)) (hw _ (List.mem_of_getElem? (i := 24) rfl)) (hw _ (List.mem_of_getElem? (i := 83) rfl)) (by decide) ez130 E_fi (own_rmlist0 l Z a0 hw [] fi (0 : Int32) hz129 n0 le ex jo go pe li in_ ou fl el ev st se kex kjo kgo kpe kli kin_ kou kfl kel kev kst kse hc0 hc1 hc2 hc3 hc4 hc5 hc6 hc7 hc8 hc9 hc10 hc11 hc12 hc13 (2 : Int32) (2 : Int32) (0 : Int32) (1 : Int32) (0 : Int32) (0 : UInt64) (0 : UInt64) rfl E_fi F22 F0 F2 F38 F36 F18 F12 F26 F40 F16 F6 F34 F20 F10 F30 F32 F24 V_fl V_li) (W := 0) (by decide) (by decide) (by decide) (by decide) own_pd0 rfl (g := (mkF m 114 #[oR fi, oI 0, oD X_, oS, oD X_, oS, oI 2, oI 0, oU, oU, oU, oU, oU, oU] [(.int 0), (.ref fi)])) (argsL := [(.int 0)]) (rest := []) rfl (by rw [hml]; rfl) rfl (by show 2 * 0 + _ ≤ _; exact Nat.le_of_eq rfl) (hb hby own_d6_114)
  obtain ⟨rfl, Nz132q, Kz132, c0_z132, c1_z132, c2_z132, c3_z132, c4_z132, c5_z132, c6_z132, c7_z132, c8_z132, c9_z132, c10_z132, c11_z132, c12_z132, c13_z132, c14_z132, c15_z132, c16_z132, c17_z132, c18_z132⟩ := hQz132
  have Nz132 := Fr.app Nz129 Nz132q
  refine own_go stz132 ?_
  have F4 := F4.keep Kz132 (ninS (Nat.ne_of_lt lt_le_fi) (ninS (Nat.ne_of_lt lt_le_fl) (ninS (Nat.ne_of_lt lt_le_li) nin0)))
  have F14 := F14.keep Kz132 (ninS (Nat.ne_of_lt lt_le_fi) (ninS (Nat.ne_of_lt lt_le_fl) (ninS (Nat.ne_of_lt lt_le_li) nin0)))
  have F8 := F8.keep Kz132 (ninS (Nat.ne_of_lt lt_le_fi) (ninS (Nat.ne_of_lt lt_le_fl) (ninS (Nat.ne_of_lt lt_le_li) nin0)))
  have F28 := F28.keep Kz132 (ninS (Nat.ne_of_lt lt_le_fi) (ninS (Nat.ne_of_lt lt_le_fl) (ninS (Nat.ne_of_lt lt_le_li) nin0)))
  have F24 := F24.keep Kz132 (ninS (Nat.ne_of_lt lt_le_fi) (ninS (Nat.ne_of_lt lt_le_fl) (ninS (Nat.ne_of_lt lt_le_li) nin0)))
  have V_go := V_go.keep Kz132 (ninS (Nat.ne_of_lt lt_go_fi) (ninS (Nat.ne_of_lt lt_go_fl) (ninS (Nat.ne_of_lt lt_go_li) nin0)))
  have V_pe := V_pe.keep Kz132 (ninS (Nat.ne_of_lt lt_pe_fi) (ninS (Nat.ne_of_lt lt_pe_fl) (ninS (Nat.ne_of_lt lt_pe_li) nin0)))
  have V_in_ := V_in_.keep Kz132 (ninS (Nat.ne_of_gt lt_fi_in_) (ninS (Nat.ne_of_lt lt_in__fl) (ninS (Nat.ne_of_gt lt_li_in_) nin0)))
  have V_ou := V_ou.keep Kz132 (ninS (Nat.ne_of_gt lt_fi_ou) (ninS (Nat.ne_of_lt lt_ou_fl) (ninS (Nat.ne_of_gt lt_li_ou) nin0)))
  have V_el := V_el.keep Kz132 (ninS (Nat.ne_of_gt lt_fi_el) (ninS (Nat.ne_of_gt lt_fl_el) (ninS (Nat.ne_of_gt lt_li_el) nin0)))
  have V_ev := V_ev.keep Kz132 (ninS (Nat.ne_of_gt lt_fi_ev) (ninS (Nat.ne_of_gt lt_fl_ev) (ninS (Nat.ne_of_gt lt_li_ev) nin0)))
  have V_st := V_st.keep Kz132 (ninS (Nat.ne_of_gt lt_fi_st) (ninS (Nat.ne_of_gt lt_fl_st) (ninS (Nat.ne_of_gt lt_li_st) nin0)))
  have V_se := V_se.keep Kz132 (ninS (Nat.ne_of_gt lt_fi_se) (ninS (Nat.ne_of_gt lt_fl_se) (ninS (Nat.ne_of_gt lt_li_se) nin0)))
  have K := K.trans Kz132 (allS (Or.inl (List.mem_of_getElem? (i := 0) rfl)) (allS (Or.inl (List.mem_of_getElem? (i := 4) rfl)) (allS (Or.inl (List.mem_of_getElem? (i := 3) rfl)) all0)))
  have V_jo := V_jo.keep Kz132 (ninS (Nat.ne_of_lt lt_jo_fi) (ninS (Nat.ne_of_lt lt_jo_fl) (ninS (Nat.ne_of_lt lt_jo_li) nin0)))
  have E_fi := c0_z132
  have F22 := c1_z132
  have F0 := c2_z132
  have F2 := c3_z132
  have F38 := c4_z132
  have F36 := c5_z132
  have F18 := c6_z132
  have F12 := c7_z132
  have F26 := c8_z132
  have F40 := c9_z132
  have F16 := c10_z132
  have F6 := c11_z132
  have F34 := c12_z132
  have F20 := c13_z132
  have F10 := c14_z132
  have F30 := c15_z132
  have F32 := c16_z132
  have V_fl := c17_z132
  have V_li := c18_z132
  show own_Go _ _ _ _ Tz132 (mkF m 117 #[oR fi, oI 0, oD X_, oS, oD X_, oS, oI 2, oI 0, oU, oU, oU, oU, oU, oU] [(.int 1)])
  refine own_go (fun _ k => XS.pop Xz132.here hx rfl (hb hby own_d6_117) rfl rfl k) ?_
  show own_Go _ _ _ _ Tz132 (mkF m 118 #[oR fi, oI 0, oD X_, oS, oD X_, oS, oI 2, oI 0, oU, oU, oU, oU, oU, oU] [])
  refine own_go (fun _ k => XS.iinc Xz132.here hx rfl (hb hby own_d6_118) rfl (l' := #[oR fi, oI 0, oD X_, oS, oD X_, oS, oI 2, oI ((0 : Int32) + (1 : Int32)), oU, oU, oU, oU, oU, oU]) rfl k) ?_
  show own_Go _ _ _ _ Tz132 (mkF m 121 #[oR fi, oI 0, oD X_, oS, oD X_, oS, oI 2, oI ((0 : Int32) + (1 : Int32)), oU, oU, oU, oU, oU, oU] [])
  refine own_go (fun _ k => XS.goto Xz132.here hx rfl (pc0 := 121) (pc' := 74) rfl (hb hby own_d6_121) (by decide) (by decide) k) ?_
  show own_Go _ _ _ _ Tz132 (mkF m 74 #[oR fi, oI 0, oD X_, oS, oD X_, oS, oI 2, oI ((0 : Int32) + (1 : Int32)), oU, oU, oU, oU, oU, oU] [])
  show own_Go _ _ _ _ Tz132 (mkF m 74 #[oR fi, oI 0, oD X_, oS, oD X_, oS, oI 2, oI 1, oU, oU, oU, oU, oU, oU] [])
  refine own_go (fun _ k => XS.iload Xz132.here hx rfl (hb hby own_d6_74) rfl k) ?_
  show own_Go _ _ _ _ Tz132 (mkF m 76 #[oR fi, oI 0, oD X_, oS, oD X_, oS, oI 2, oI 1, oU, oU, oU, oU, oU, oU] [(.int 1)])
  refine own_go (fun _ k => XS.iload Xz132.here hx rfl (hb hby own_d6_76) rfl k) ?_
  show own_Go _ _ _ _ Tz132 (mkF m 78 #[oR fi, oI 0, oD X_, oS, oD X_, oS, oI 2, oI 1, oU, oU, oU, oU, oU, oU] [(.int 2), (.int 1)])
  refine own_go (fun _ k => XS.icmpNo Xz132.here hx rfl (hb hby own_d6_78) rfl (tlt (by decide : (1 : Int32) < (2 : Int32))).2.1 k) ?_
  show own_Go _ _ _ _ Tz132 (mkF m 81 #[oR fi, oI 0, oD X_, oS, oD X_, oS, oI 2, oI 1, oU, oU, oU, oU, oU, oU] [])
  refine own_go (fun _ k => XS.aloadN Xz132.here hx rfl (hb hby own_d6_81) rfl rfl k) ?_
  show own_Go _ _ _ _ Tz132 (mkF m 82 #[oR fi, oI 0, oD X_, oS, oD X_, oS, oI 2, oI 1, oU, oU, oU, oU, oU, oU] [(.ref fi)])
  obtain ⟨Tz133, Xz133, ez133, stz133⟩ := getF Xz132 hx hZ hown (host := "") (Or.inl (hw _ (List.mem_of_getElem? (i := 39) rfl))) Via.refl rfl F18 (g := (mkF m 82 #[oR fi, oI 0, oD X_, oS, oD X_, oS, oI 2, oI 1, oU, oU, oU, oU, oU, oU] [(.ref fi)])) rfl rfl (hb hby own_d6_82)
  refine own_go stz133 ?_
  show own_Go _ _ _ _ Tz133 (mkF m 85 #[oR fi, oI 0, oD X_, oS, oD X_, oS, oI 2, oI 1, oU, oU, oU, oU, oU, oU] [(.ref le)])
  refine own_go (fun _ k => own_getR Xz133 hx hZ hown (hw _ (List.mem_of_getElem? (i := 86) rfl)) ez133 F14 (g := (mkF m 85 #[oR fi, oI 0, oD X_, oS, oD X_, oS, oI 2, oI 1, oU, oU, oU, oU, oU, oU] [(.ref le)])) rfl rfl (hb hby own_d6_85) _ k) ?_
  show own_Go _ _ _ _ Tz133 (mkF m 88 #[oR fi, oI 0, oD X_, oS, oD X_, oS, oI 2, oI 1, oU, oU, oU, oU, oU, oU] [(.ref jo)])
  refine own_go (fun _ k => XS.aloadN Xz133.here hx rfl (hb hby own_d6_88) rfl rfl k) ?_
  show own_Go _ _ _ _ Tz133 (mkF m 89 #[oR fi, oI 0, oD X_, oS, oD X_, oS, oI 2, oI 1, oU, oU, oU, oU, oU, oU] [(.ref fi), (.ref jo)])
  obtain ⟨Tz135, Xz135, ez135, stz135⟩ := getF Xz133 hx hZ hown (host := "") (Or.inl (hw _ (List.mem_of_getElem? (i := 31) rfl))) Via.refl ez133 F0 (g := (mkF m 89 #[oR fi, oI 0, oD X_, oS, oD X_, oS, oI 2, oI 1, oU, oU, oU, oU, oU, oU] [(.ref fi), (.ref jo)])) rfl rfl (hb hby own_d6_89)
  refine own_go stz135 ?_
  show own_Go _ _ _ _ Tz135 (mkF m 92 #[oR fi, oI 0, oD X_, oS, oD X_, oS, oI 2, oI 1, oU, oU, oU, oU, oU, oU] [(.ref el), (.ref jo)])
  refine own_go (fun _ k => XS.iload Xz135.here hx rfl (hb hby own_d6_92) rfl k) ?_
  show own_Go _ _ _ _ Tz135 (mkF m 94 #[oR fi, oI 0, oD X_, oS, oD X_, oS, oI 2, oI 1, oU, oU, oU, oU, oU, oU] [(.int 1), (.ref el), (.ref jo)])
  obtain ⟨clz136, Arz136, qz136, Sz136, Mz136, HHz136, Gz136⟩ := id V_el
  have hinz136 : ¬ ((1 : Int32) < 0 ∨ clz136.slots.size ≤ ((1 : Int32)).toNatClampNeg) := inb_of Sz136 ⟨(by decide), (by decide)⟩
  have hatz136 : clz136.slots[((1 : Int32)).toNatClampNeg]? = some (.int 1) := HHz136.at hinz136 (rfl)
  refine own_go (fun _ k => Xz135.iaload hx (j := (1 : Int32)) (v := (.int 1)) (by rw [ez135]; exact Arz136.1) (State.isArrayOf_alike hZ.alike Arz136.2.1) Arz136.2.2 hinz136 hatz136 (g := (mkF m 94 #[oR fi, oI 0, oD X_, oS, oD X_, oS, oI 2, oI 1, oU, oU, oU, oU, oU, oU] [(.int 1), (.ref el), (.ref jo)])) rfl rfl (hb hby own_d6_94) _ k) ?_
  show own_Go _ _ _ _ Tz135 (mkF m 95 #[oR fi, oI 0, oD X_, oS, oD X_, oS, oI 2, oI 1, oU, oU, oU, oU, oU, oU] [(.int 1), (.ref jo)])
  refine own_go (fun _ k => own_dup2 Xz135.here hx rfl (hb hby own_d6_95) rfl k) ?_
  show own_Go _ _ _ _ Tz135 (mkF m 96 #[oR fi, oI 0, oD X_, oS, oD X_, oS, oI 2, oI 1, oU, oU, oU, oU, oU, oU] [(.int 1), (.ref jo), (.int 1), (.ref jo)])
  obtain ⟨clz137, Arz137, qz137, Sz137, Mz137, HHz137, Gz137⟩ := id V_jo
  have hinz137 : ¬ ((1 : Int32) < 0 ∨ clz137.slots.size ≤ ((1 : Int32)).toNatClampNeg) := inb_of Sz137 ⟨(by decide), (by decide)⟩
  have hatz137 : clz137.slots[((1 : Int32)).toNatClampNeg]? = some (.double 0) := HHz137.at hinz137 (rfl)
  refine own_go (fun _ k => Xz135.daload hx (j := (1 : Int32)) (v := (.double 0)) (by rw [ez135]; exact Arz137.1) (State.isArrayOf_alike hZ.alike Arz137.2.1) Arz137.2.2 hinz137 hatz137 (g := (mkF m 96 #[oR fi, oI 0, oD X_, oS, oD X_, oS, oI 2, oI 1, oU, oU, oU, oU, oU, oU] [(.int 1), (.ref jo), (.int 1), (.ref jo)])) rfl rfl (hb hby own_d6_96) _ k) ?_
  show own_Go _ _ _ _ Tz135 (mkF m 97 #[oR fi, oI 0, oD X_, oS, oD X_, oS, oI 2, oI 1, oU, oU, oU, oU, oU, oU] [(.double 0), (.int 1), (.ref jo)])
  refine own_go (fun _ k => XS.aloadN Xz135.here hx rfl (hb hby own_d6_97) rfl rfl k) ?_
  show own_Go _ _ _ _ Tz135 (mkF m 98 #[oR fi, oI 0, oD X_, oS, oD X_, oS, oI 2, oI 1, oU, oU, oU, oU, oU, oU] [(.ref fi), (.double 0), (.int 1), (.ref jo)])
  obtain ⟨Tz138, Xz138, ez138, stz138⟩ := getF Xz135 hx hZ hown (host := "") (Or.inl (hw _ (List.mem_of_getElem? (i := 33) rfl))) Via.refl ez135 F2 (g := (mkF m 98 #[oR fi, oI 0, oD X_, oS, oD X_, oS, oI 2, oI 1, oU, oU, oU, oU, oU, oU] [(.ref fi), (.double 0), (.int 1), (.ref jo)])) rfl rfl (hb hby own_d6_98)
  refine own_go stz138 ?_
  show own_Go _ _ _ _ Tz138 (mkF m 101 #[oR fi, oI 0, oD X_, oS, oD X_, oS, oI 2, oI 1, oU, oU, oU, oU, oU, oU] [(.ref ev), (.double 0), (.int 1), (.ref jo)])
  refine own_go (fun _ k => XS.iload Xz138.here hx rfl (hb hby own_d6_101) rfl k) ?_
  show own_Go _ _ _ _ Tz138 (mkF m 103 #[oR fi, oI 0, oD X_, oS, oD X_, oS, oI 2, oI 1, oU, oU, oU, oU, oU, oU] [(.int 1), (.ref ev), (.double 0), (.int 1), (.ref jo)])
  obtain ⟨clz139, Arz139, qz139, Sz139, Mz139, HHz139, Gz139⟩ := id V_ev
  have hinz139 : ¬ ((1 : Int32) < 0 ∨ clz139.slots.size ≤ ((1 : Int32)).toNatClampNeg) := inb_of Sz139 ⟨(by decide), (by decide)⟩
  have hatz139 : clz139.slots[((1 : Int32)).toNatClampNeg]? = some (.double V1) := HHz139.at hinz139 (rfl)
  refine own_go (fun _ k => Xz138.daload hx (j := (1 : Int32)) (v := (.double V1)) (by rw [ez138]; exact Arz139.1) (State.isArrayOf_alike hZ.alike Arz139.2.1) Arz139.2.2 hinz139 hatz139 (g := (mkF m 103 #[oR fi, oI 0, oD X_, oS, oD X_, oS, oI 2, oI 1, oU, oU, oU, oU, oU, oU] [(.int 1), (.ref ev), (.double 0), (.int 1), (.ref jo)])) rfl rfl (hb hby own_d6_103) _ k) ?_
  show own_Go _ _ _ _ Tz138 (mkF m 104 #[oR fi, oI 0, oD X_, oS, oD X_, oS, oI 2, oI 1, oU, oU, oU, oU, oU, oU] [(.double V1), (.double 0), (.int 1), (.ref jo)])
  refine own_go (fun _ k => XS.daddS Xz138.here hx rfl (hb hby own_d6_104) rfl (by rw [ha1]; exact hn1) ha1 k) ?_
  show own_Go _ _ _ _ Tz138 (mkF m 105 #[oR fi, oI 0, oD X_, oS, oD X_, oS, oI 2, oI 1, oU, oU, oU, oU, oU, oU] [(.double V1), (.int 1), (.ref jo)])
  obtain ⟨clz140, Arz140, qz140, Sz140, Mz140, HHz140, Gz140⟩ := V_jo
  have hinz140 : ¬ ((1 : Int32) < 0 ∨ clz140.slots.size ≤ ((1 : Int32)).toNatClampNeg) := inb_of Sz140 ⟨(by decide), (by decide)⟩
  obtain ⟨Tz140, hz140, Xz140, ez140, Wz140, stz140⟩ := stD Xz138 hx hZ ez138 Arz140 (j := (1 : Int32)) hinz140 (g := (mkF m 105 #[oR fi, oI 0, oD X_, oS, oD X_, oS, oI 2, oI 1, oU, oU, oU, oU, oU, oU] [(.double V1), (.int 1), (.ref jo)])) rfl rfl (hb hby own_d6_105)
  refine own_go stz140 ?_
  have V_jo_ : Arv Z hz140 jo kjo .double (2 : Int32) [(.double V0), (.double V1)] (.double 0) := Arv.set Arz140 qz140 Sz140 Mz140 HHz140 Gz140 rfl Wz140 1 rfl (Nat.le_of_ble_eq_true rfl)
  have Nz140 := Fr.snoc Xz140 Nz132 g_jo
  have F4 := F4.other Wz140 (own_o1 lt_le_jo)
  have F14 := F14.other Wz140 (own_o1 lt_le_jo)
  have F8 := F8.other Wz140 (own_o1 lt_le_jo)
  have F28 := F28.other Wz140 (own_o1 lt_le_jo)
  have F24 := F24.other Wz140 (own_o1 lt_le_jo)
  have V_go := V_go.other Wz140 (Nat.ne_of_gt lt_jo_go)
  have V_pe := V_pe.other Wz140 (Nat.ne_of_gt lt_jo_pe)
  have V_in_ := V_in_.other Wz140 (Nat.ne_of_gt lt_jo_in_)
  have V_ou := V_ou.other Wz140 (Nat.ne_of_gt lt_jo_ou)
  have V_el := V_el.other Wz140 (Nat.ne_of_gt lt_jo_el)
  have V_ev := V_ev.other Wz140 (Nat.ne_of_gt lt_jo_ev)
  have V_st := V_st.other Wz140 (Nat.ne_of_gt lt_jo_st)
  have V_se := V_se.other Wz140 (Nat.ne_of_gt lt_jo_se)
  have K := K.wr Wz140 (Or.inl (List.mem_of_getElem? (i := 1) rfl))
  have E_fi := E_fi.wr Wz140
  have F22 := F22.other Wz140 (own_o2 lt_jo_fi)
  have F0 := F0.other Wz140 (own_o2 lt_jo_fi)
  have F2 := F2.other Wz140 (own_o2 lt_jo_fi)
  have F38 := F38.other Wz140 (own_o2 lt_jo_fi)
  have F36 := F36.other Wz140 (own_o2 lt_jo_fi)
  have F18 := F18.other Wz140 (own_o2 lt_jo_fi)
  have F12 := F12.other Wz140 (own_o2 lt_jo_fi)
  have F26 := F26.other Wz140 (own_o2 lt_jo_fi)
  have F40 := F40.other Wz140 (own_o2 lt_jo_fi)
  have F16 := F16.other Wz140 (own_o2 lt_jo_fi)
  have F6 := F6.other Wz140 (own_o2 lt_jo_fi)
  have F34 := F34.other Wz140 (own_o2 lt_jo_fi)
  have F20 := F20.other Wz140 (own_o2 lt_jo_fi)
  have F10 := F10.other Wz140 (own_o2 lt_jo_fi)
  have F30 := F30.other Wz140 (own_o2 lt_jo_fi)
  have F32 := F32.other Wz140 (own_o2 lt_jo_fi)
  have V_fl := V_fl.other Wz140 (Nat.ne_of_gt lt_jo_fl)
  have V_li := V_li.other Wz140 (Nat.ne_of_gt lt_jo_li)
  have V_jo := V_jo_
  show own_Go _ _ _ _ Tz140 (mkF m 106 #[oR fi, oI 0, oD X_, oS, oD X_, oS, oI 2, oI 1, oU, oU, oU, oU, oU, oU] [])
  refine own_go (fun _ k => XS.aloadN Xz140.here hx rfl (hb hby own_d6_106) rfl rfl k) ?_
  show own_Go _ _ _ _ Tz140 (mkF m 107 #[oR fi, oI 0, oD X_, oS, oD X_, oS, oI 2, oI 1, oU, oU, oU, oU, oU, oU] [(.ref fi)])
  refine own_go (fun _ k => XS.aloadN Xz140.here hx rfl (hb hby own_d6_107) rfl rfl k) ?_
  show own_Go _ _ _ _ Tz140 (mkF m 108 #[oR fi, oI 0, oD X_, oS, oD X_, oS, oI 2, oI 1, oU, oU, oU, oU, oU, oU] [(.ref fi), (.ref fi)])
  obtain ⟨Tz141, Xz141, ez141, stz141⟩ := getF Xz140 hx hZ hown (host := "") (Or.inl (hw _ (List.mem_of_getElem? (i := 31) rfl))) Via.refl ez140 F0 (g := (mkF m 108 #[oR fi, oI 0, oD X_, oS, oD X_, oS, oI 2, oI 1, oU, oU, oU, oU, oU, oU] [(.ref fi), (.ref fi)])) rfl rfl (hb hby own_d6_108)
  refine own_go stz141 ?_
  show own_Go _ _ _ _ Tz141 (mkF m 111 #[oR fi, oI 0, oD X_, oS, oD X_, oS, oI 2, oI 1, oU, oU, oU, oU, oU, oU] [(.ref el), (.ref fi)])
  refine own_go (fun _ k => XS.iload Xz141.here hx rfl (hb hby own_d6_111) rfl k) ?_
  show own_Go _ _ _ _ Tz141 (mkF m 113 #[oR fi, oI 0, oD X_, oS, oD X_, oS, oI 2, oI 1, oU, oU, oU, oU, oU, oU] [(.int 1), (.ref el), (.ref fi)])
  obtain ⟨clz142, Arz142, qz142, Sz142, Mz142, HHz142, Gz142⟩ := id V_el
  have hinz142 : ¬ ((1 : Int32) < 0 ∨ clz142.slots.size ≤ ((1 : Int32)).toNatClampNeg) := inb_of Sz142 ⟨(by decide), (by decide)⟩
  have hatz142 : clz142.slots[((1 : Int32)).toNatClampNeg]? = some (.int 1) := HHz142.at hinz142 (rfl)
  refine own_go (fun _ k => Xz141.iaload hx (j := (1 : Int32)) (v := (.int 1)) (by rw [ez141]; exact Arz142.1) (State.isArrayOf_alike hZ.alike Arz142.2.1) Arz142.2.2 hinz142 hatz142 (g := (mkF m 113 #[oR fi, oI 0, oD X_, oS, oD X_, oS, oI 2, oI 1, oU, oU, oU, oU, oU, oU] [(.int 1), (.ref el), (.ref fi)])) rfl rfl (hb hby own_d6_113) _ k) ?_
  show own_Go _ _ _ _ Tz141 (mkF m 114 #[oR fi, oI 0, oD X_, oS, oD X_, oS, oI 2, oI 1, oU, oU, oU, oU, oU, oU] [(.int 1), (.ref fi)])
  obtain ⟨vz143, Tz143, Lz143, Xz143, hQz143, stz143⟩ := own_callP Xz141 hx hZ hown (hw _ (List.mem_of_getElem? (i := 80) rfl)) (hw _ (List.mem_of_getElem? (i := 81) rfl)) (hw _ (List.mem_of_getElem? (i := 82) rfl)) (hw _ (List.mem_of_getElem? (i := 23) rfl)) (hw _ (List.mem_of_getElem? (i := 24) rfl)) (hw _ (List.mem_of_getElem? (i := 83) rfl)) (by decide) ez141 E_fi (own_rmlist1 l Z a0 hw [] fi (1 : Int32) hz140 n0 le ex jo go pe li in_ ou fl el ev st se kex kjo kgo kpe kli kin_ kou kfl kel kev kst kse hc0 hc1 hc2 hc3 hc4 hc5 hc6 hc7 hc8 hc9 hc10 hc11 hc12 hc13 (2 : Int32) (2 : Int32) (0 : Int32) (1 : Int32) (0 : Int32) (0 : UInt64) (0 : UInt64) rfl E_fi F22 F0 F2 F38 F36 F18 F12 F26 F40 F16 F6 F34 F20 F10 F30 F32 F24 V_fl V_li) (W := 0) (by decide) (by decide) (by decide) (by decide) own_pd0 rfl (g := (mkF m 114 #[oR fi, oI 0, oD X_, oS, oD X_, oS, oI 2, oI 1, oU, oU, oU, oU, oU, oU] [(.int 1), (.ref fi)])) (argsL := [(.int 1)]) (rest := []) rfl (by rw [hml]; rfl) rfl (by show 2 * 0 + _ ≤ _; exact Nat.le_of_eq rfl) (hb hby own_d6_114)
  obtain ⟨rfl, Nz143q, Kz143, c0_z143, c1_z143, c2_z143, c3_z143, c4_z143, c5_z143, c6_z143, c7_z143, c8_z143, c9_z143, c10_z143, c11_z143, c12_z143, c13_z143, c14_z143, c15_z143, c16_z143, c17_z143, c18_z143⟩ := hQz143
  have Nz143 := Fr.app Nz140 Nz143q
  refine own_go stz143 ?_
  have F4 := F4.keep Kz143 (ninS (Nat.ne_of_lt lt_le_fi) (ninS (Nat.ne_of_lt lt_le_fl) (ninS (Nat.ne_of_lt lt_le_li) nin0)))
  have F14 := F14.keep Kz143 (ninS (Nat.ne_of_lt lt_le_fi) (ninS (Nat.ne_of_lt lt_le_fl) (ninS (Nat.ne_of_lt lt_le_li) nin0)))
  have F8 := F8.keep Kz143 (ninS (Nat.ne_of_lt lt_le_fi) (ninS (Nat.ne_of_lt lt_le_fl) (ninS (Nat.ne_of_lt lt_le_li) nin0)))
  have F28 := F28.keep Kz143 (ninS (Nat.ne_of_lt lt_le_fi) (ninS (Nat.ne_of_lt lt_le_fl) (ninS (Nat.ne_of_lt lt_le_li) nin0)))
  have F24 := F24.keep Kz143 (ninS (Nat.ne_of_lt lt_le_fi) (ninS (Nat.ne_of_lt lt_le_fl) (ninS (Nat.ne_of_lt lt_le_li) nin0)))
  have V_go := V_go.keep Kz143 (ninS (Nat.ne_of_lt lt_go_fi) (ninS (Nat.ne_of_lt lt_go_fl) (ninS (Nat.ne_of_lt lt_go_li) nin0)))
  have V_pe := V_pe.keep Kz143 (ninS (Nat.ne_of_lt lt_pe_fi) (ninS (Nat.ne_of_lt lt_pe_fl) (ninS (Nat.ne_of_lt lt_pe_li) nin0)))
  have V_in_ := V_in_.keep Kz143 (ninS (Nat.ne_of_gt lt_fi_in_) (ninS (Nat.ne_of_lt lt_in__fl) (ninS (Nat.ne_of_gt lt_li_in_) nin0)))
  have V_ou := V_ou.keep Kz143 (ninS (Nat.ne_of_gt lt_fi_ou) (ninS (Nat.ne_of_lt lt_ou_fl) (ninS (Nat.ne_of_gt lt_li_ou) nin0)))
  have V_el := V_el.keep Kz143 (ninS (Nat.ne_of_gt lt_fi_el) (ninS (Nat.ne_of_gt lt_fl_el) (ninS (Nat.ne_of_gt lt_li_el) nin0)))
  have V_ev := V_ev.keep Kz143 (ninS (Nat.ne_of_gt lt_fi_ev) (ninS (Nat.ne_of_gt lt_fl_ev) (ninS (Nat.ne_of_gt lt_li_ev) nin0)))
  have V_st := V_st.keep Kz143 (ninS (Nat.ne_of_gt lt_fi_st) (ninS (Nat.ne_of_gt lt_fl_st) (ninS (Nat.ne_of_gt lt_li_st) nin0)))
  have V_se := V_se.keep Kz143 (ninS (Nat.ne_of_gt lt_fi_se) (ninS (Nat.ne_of_gt lt_fl_se) (ninS (Nat.ne_of_gt lt_li_se) nin0)))
  have K := K.trans Kz143 (allS (Or.inl (List.mem_of_getElem? (i := 0) rfl)) (allS (Or.inl (List.mem_of_getElem? (i := 4) rfl)) (allS (Or.inl (List.mem_of_getElem? (i := 3) rfl)) all0)))
  have V_jo := V_jo.keep Kz143 (ninS (Nat.ne_of_lt lt_jo_fi) (ninS (Nat.ne_of_lt lt_jo_fl) (ninS (Nat.ne_of_lt lt_jo_li) nin0)))
  have E_fi := c0_z143
  have F22 := c1_z143
  have F0 := c2_z143
  have F2 := c3_z143
  have F38 := c4_z143
  have F36 := c5_z143
  have F18 := c6_z143
  have F12 := c7_z143
  have F26 := c8_z143
  have F40 := c9_z143
  have F16 := c10_z143
  have F6 := c11_z143
  have F34 := c12_z143
  have F20 := c13_z143
  have F10 := c14_z143
  have F30 := c15_z143
  have F32 := c16_z143
  have V_fl := c17_z143
  have V_li := c18_z143
  show own_Go _ _ _ _ Tz143 (mkF m 117 #[oR fi, oI 0, oD X_, oS, oD X_, oS, oI 2, oI 1, oU, oU, oU, oU, oU, oU] [(.int 1)])
  refine own_go (fun _ k => XS.pop Xz143.here hx rfl (hb hby own_d6_117) rfl rfl k) ?_
  show own_Go _ _ _ _ Tz143 (mkF m 118 #[oR fi, oI 0, oD X_, oS, oD X_, oS, oI 2, oI 1, oU, oU, oU, oU, oU, oU] [])
  refine own_go (fun _ k => XS.iinc Xz143.here hx rfl (hb hby own_d6_118) rfl (l' := #[oR fi, oI 0, oD X_, oS, oD X_, oS, oI 2, oI ((1 : Int32) + (1 : Int32)), oU, oU, oU, oU, oU, oU]) rfl k) ?_
  show own_Go _ _ _ _ Tz143 (mkF m 121 #[oR fi, oI 0, oD X_, oS, oD X_, oS, oI 2, oI ((1 : Int32) + (1 : Int32)), oU, oU, oU, oU, oU, oU] [])
  refine own_go (fun _ k => XS.goto Xz143.here hx rfl (pc0 := 121) (pc' := 74) rfl (hb hby own_d6_121) (by decide) (by decide) k) ?_
  show own_Go _ _ _ _ Tz143 (mkF m 74 #[oR fi, oI 0, oD X_, oS, oD X_, oS, oI 2, oI ((1 : Int32) + (1 : Int32)), oU, oU, oU, oU, oU, oU] [])
  show own_Go _ _ _ _ Tz143 (mkF m 74 #[oR fi, oI 0, oD X_, oS, oD X_, oS, oI 2, oI 2, oU, oU, oU, oU, oU, oU] [])
  refine own_go (fun _ k => XS.iload Xz143.here hx rfl (hb hby own_d6_74) rfl k) ?_
  show own_Go _ _ _ _ Tz143 (mkF m 76 #[oR fi, oI 0, oD X_, oS, oD X_, oS, oI 2, oI 2, oU, oU, oU, oU, oU, oU] [(.int 2)])
  refine own_go (fun _ k => XS.iload Xz143.here hx rfl (hb hby own_d6_76) rfl k) ?_
  show own_Go _ _ _ _ Tz143 (mkF m 78 #[oR fi, oI 0, oD X_, oS, oD X_, oS, oI 2, oI 2, oU, oU, oU, oU, oU, oU] [(.int 2), (.int 2)])
  refine own_go (fun _ k => XS.icmpYes Xz143.here hx rfl (pc0 := 78) (pc' := 124) rfl (hb hby own_d6_78) rfl (flt (by decide : ¬ ((2 : Int32) < (2 : Int32)))).2.1 (by decide) (by decide) k) ?_
  show own_Go _ _ _ _ Tz143 (mkF m 124 #[oR fi, oI 0, oD X_, oS, oD X_, oS, oI 2, oI 2, oU, oU, oU, oU, oU, oU] [])
  refine own_go (fun _ k => XS.aloadN Xz143.here hx rfl (hb hby own_d6_124) rfl rfl k) ?_
  show own_Go _ _ _ _ Tz143 (mkF m 125 #[oR fi, oI 0, oD X_, oS, oD X_, oS, oI 2, oI 2, oU, oU, oU, oU, oU, oU] [(.ref fi)])
  refine own_go (fun _ k => XS.iload Xz143.here hx rfl (hb hby own_d6_125) rfl k) ?_
  show own_Go _ _ _ _ Tz143 (mkF m 127 #[oR fi, oI 0, oD X_, oS, oD X_, oS, oI 2, oI 2, oU, oU, oU, oU, oU, oU] [(.int 2), (.ref fi)])
  obtain ⟨Tz144, hz144, Xz144, ez144, Wz144, stz144⟩ := putF Xz143 hx hZ hown (host := "") (Or.inl (hw _ (List.mem_of_getElem? (i := 78) rfl))) Via.refl rfl F10 E_fi (Or.inl (hw _ (List.mem_of_getElem? (i := 79) rfl))) (hw _ (List.mem_of_getElem? (i := 23) rfl)) (ty := .int) (by decide) rfl rfl (g := (mkF m 127 #[oR fi, oI 0, oD X_, oS, oD X_, oS, oI 2, oI 2, oU, oU, oU, oU, oU, oU] [(.int 2), (.ref fi)])) rfl rfl (hb hby own_d6_127)
  refine own_go stz144 ?_
  have Nz144 := Fr.snoc Xz144 Nz143 g_fi
  have F11 := F10.same Wz144
  have F4 := F4.other Wz144 (own_o1 lt_le_fi)
  have F14 := F14.other Wz144 (own_o1 lt_le_fi)
  have F8 := F8.other Wz144 (own_o1 lt_le_fi)
  have F28 := F28.other Wz144 (own_o1 lt_le_fi)
  have F24 := F24.other Wz144 (own_o1 lt_le_fi)
  have V_go := V_go.other Wz144 (Nat.ne_of_lt lt_go_fi)
  have V_pe := V_pe.other Wz144 (Nat.ne_of_lt lt_pe_fi)
  have V_in_ := V_in_.other Wz144 (Nat.ne_of_gt lt_fi_in_)
  have V_ou := V_ou.other Wz144 (Nat.ne_of_gt lt_fi_ou)
  have V_el := V_el.other Wz144 (Nat.ne_of_gt lt_fi_el)
  have V_ev := V_ev.other Wz144 (Nat.ne_of_gt lt_fi_ev)
  have V_st := V_st.other Wz144 (Nat.ne_of_gt lt_fi_st)
  have V_se := V_se.other Wz144 (Nat.ne_of_gt lt_fi_se)
  have K := K.wr Wz144 (Or.inl (List.mem_of_getElem? (i := 0) rfl))
  have V_jo := V_jo.other Wz144 (Nat.ne_of_lt lt_jo_fi)
  have E_fi := E_fi.wr Wz144
  have F22 := F22.other Wz144 (own_sl hw 30 79 (Or.inl rfl) (Or.inl rfl) (by decide))
  have F0 := F0.other Wz144 (own_sl hw 32 79 (Or.inl rfl) (Or.inl rfl) (by decide))
  have F2 := F2.other Wz144 (own_sl hw 34 79 (Or.inl rfl) (Or.inl rfl) (by decide))
  have F38 := F38.other Wz144 (own_sl hw 36 79 (Or.inl rfl) (Or.inl rfl) (by decide))
  have F36 := F36.other Wz144 (own_sl hw 38 79 (Or.inl rfl) (Or.inl rfl) (by decide))
  have F18 := F18.other Wz144 (own_sl hw 40 79 (Or.inr rfl) (Or.inl rfl) (by decide))
  have F12 := F12.other Wz144 (own_sl hw 42 79 (Or.inr rfl) (Or.inl rfl) (by decide))
  have F26 := F26.other Wz144 (own_sl hw 44 79 (Or.inr rfl) (Or.inl rfl) (by decide))
  have F40 := F40.other Wz144 (own_sl hw 51 79 (Or.inl rfl) (Or.inl rfl) (by decide))
  have F16 := F16.other Wz144 (own_sl hw 58 79 (Or.inl rfl) (Or.inl rfl) (by decide))
  have F6 := F6.other Wz144 (own_sl hw 60 79 (Or.inl rfl) (Or.inl rfl) (by decide))
  have F34 := F34.other Wz144 (own_sl hw 62 79 (Or.inl rfl) (Or.inl rfl) (by decide))
  have F20 := F20.other Wz144 (own_sl hw 73 79 (Or.inl rfl) (Or.inl rfl) (by decide))
  have F30 := F30.other Wz144 (own_sl hw 69 79 (Or.inl rfl) (Or.inl rfl) (by decide))
  have F32 := F32.other Wz144 (own_sl hw 71 79 (Or.inl rfl) (Or.inl rfl) (by decide))
  have V_fl := V_fl.other Wz144 (Nat.ne_of_gt lt_fi_fl)
  have V_li := V_li.other Wz144 (Nat.ne_of_lt lt_li_fi)
  have F10 := F11
  show own_Go _ _ _ _ Tz144 (mkF m 130 #[oR fi, oI 0, oD X_, oS, oD X_, oS, oI 2, oI 2, oU, oU, oU, oU, oU, oU] [])
  refine own_go (fun _ k => XS.aloadN Xz144.here hx rfl (hb hby own_d6_130) rfl rfl k) ?_
  show own_Go _ _ _ _ Tz144 (mkF m 131 #[oR fi, oI 0, oD X_, oS, oD X_, oS, oI 2, oI 2, oU, oU, oU, oU, oU, oU] [(.ref fi)])
  refine own_go (fun _ k => XS.dup Xz144.here hx rfl (hb hby own_d6_131) rfl rfl k) ?_
  show own_Go _ _ _ _ Tz144 (mkF m 132 #[oR fi, oI 0, oD X_, oS, oD X_, oS, oI 2, oI 2, oU, oU, oU, oU, oU, oU] [(.ref fi), (.ref fi)])
  obtain ⟨Tz145, Xz145, ez145, stz145⟩ := getF Xz144 hx hZ hown (host := "") (Or.inl (hw _ (List.mem_of_getElem? (i := 59) rfl))) Via.refl ez144 F6 (g := (mkF m 132 #[oR fi, oI 0, oD X_, oS, oD X_, oS, oI 2, oI 2, oU, oU, oU, oU, oU, oU] [(.ref fi), (.ref fi)])) rfl rfl (hb hby own_d6_132)
  refine own_go stz145 ?_
  show own_Go _ _ _ _ Tz145 (mkF m 135 #[oR fi, oI 0, oD X_, oS, oD X_, oS, oI 2, oI 2, oU, oU, oU, oU, oU, oU] [(.int 0), (.ref fi)])
  refine own_go (fun _ k => XS.iconst Xz145.here hx rfl (hb hby own_d6_135) k) ?_
  show own_Go _ _ _ _ Tz145 (mkF m 136 #[oR fi, oI 0, oD X_, oS, oD X_, oS, oI 2, oI 2, oU, oU, oU, oU, oU, oU] [(.int 1), (.int 0), (.ref fi)])
  refine own_go (fun _ k => XS.iadd Xz145.here hx rfl (hb hby own_d6_136) rfl k) ?_
  show own_Go _ _ _ _ Tz145 (mkF m 137 #[oR fi, oI 0, oD X_, oS, oD X_, oS, oI 2, oI 2, oU, oU, oU, oU, oU, oU] [(.int ((0 : Int32) + (1 : Int32))), (.ref fi)])
  obtain ⟨Tz146, hz146, Xz146, ez146, Wz146, stz146⟩ := putF Xz145 hx hZ hown (host := "") (Or.inl (hw _ (List.mem_of_getElem? (i := 59) rfl))) Via.refl ez145 F6 E_fi (Or.inl (hw _ (List.mem_of_getElem? (i := 60) rfl))) (hw _ (List.mem_of_getElem? (i := 23) rfl)) (ty := .int) (by decide) rfl rfl (g := (mkF m 137 #[oR fi, oI 0, oD X_, oS, oD X_, oS, oI 2, oI 2, oU, oU, oU, oU, oU, oU] [(.int ((0 : Int32) + (1 : Int32))), (.ref fi)])) rfl rfl (hb hby own_d6_137)
  refine own_go stz146 ?_
  have Nz146 := Fr.snoc Xz146 Nz144 g_fi
  have F7 := F6.same Wz146
  have F4 := F4.other Wz146 (own_o1 lt_le_fi)
  have F14 := F14.other Wz146 (own_o1 lt_le_fi)
  have F8 := F8.other Wz146 (own_o1 lt_le_fi)
  have F28 := F28.other Wz146 (own_o1 lt_le_fi)
  have F24 := F24.other Wz146 (own_o1 lt_le_fi)
  have V_go := V_go.other Wz146 (Nat.ne_of_lt lt_go_fi)
  have V_pe := V_pe.other Wz146 (Nat.ne_of_lt lt_pe_fi)
  have V_in_ := V_in_.other Wz146 (Nat.ne_of_gt lt_fi_in_)
  have V_ou := V_ou.other Wz146 (Nat.ne_of_gt lt_fi_ou)
  have V_el := V_el.other Wz146 (Nat.ne_of_gt lt_fi_el)
  have V_ev := V_ev.other Wz146 (Nat.ne_of_gt lt_fi_ev)
  have V_st := V_st.other Wz146 (Nat.ne_of_gt lt_fi_st)
  have V_se := V_se.other Wz146 (Nat.ne_of_gt lt_fi_se)
  have K := K.wr Wz146 (Or.inl (List.mem_of_getElem? (i := 0) rfl))
  have V_jo := V_jo.other Wz146 (Nat.ne_of_lt lt_jo_fi)
  have E_fi := E_fi.wr Wz146
  have F22 := F22.other Wz146 (own_sl hw 30 60 (Or.inl rfl) (Or.inl rfl) (by decide))
  have F0 := F0.other Wz146 (own_sl hw 32 60 (Or.inl rfl) (Or.inl rfl) (by decide))
  have F2 := F2.other Wz146 (own_sl hw 34 60 (Or.inl rfl) (Or.inl rfl) (by decide))
  have F38 := F38.other Wz146 (own_sl hw 36 60 (Or.inl rfl) (Or.inl rfl) (by decide))
  have F36 := F36.other Wz146 (own_sl hw 38 60 (Or.inl rfl) (Or.inl rfl) (by decide))
  have F18 := F18.other Wz146 (own_sl hw 40 60 (Or.inr rfl) (Or.inl rfl) (by decide))
  have F12 := F12.other Wz146 (own_sl hw 42 60 (Or.inr rfl) (Or.inl rfl) (by decide))
  have F26 := F26.other Wz146 (own_sl hw 44 60 (Or.inr rfl) (Or.inl rfl) (by decide))
  have F40 := F40.other Wz146 (own_sl hw 51 60 (Or.inl rfl) (Or.inl rfl) (by decide))
  have F16 := F16.other Wz146 (own_sl hw 58 60 (Or.inl rfl) (Or.inl rfl) (by decide))
  have F34 := F34.other Wz146 (own_sl hw 62 60 (Or.inl rfl) (Or.inl rfl) (by decide))
  have F20 := F20.other Wz146 (own_sl hw 73 60 (Or.inl rfl) (Or.inl rfl) (by decide))
  have F30 := F30.other Wz146 (own_sl hw 69 60 (Or.inl rfl) (Or.inl rfl) (by decide))
  have F32 := F32.other Wz146 (own_sl hw 71 60 (Or.inl rfl) (Or.inl rfl) (by decide))
  have V_fl := V_fl.other Wz146 (Nat.ne_of_gt lt_fi_fl)
  have V_li := V_li.other Wz146 (Nat.ne_of_lt lt_li_fi)
  have F10 := F10.other Wz146 (own_sl hw 79 60 (Or.inl rfl) (Or.inl rfl) (by decide))
  have F6 := F7
  show own_Go _ _ _ _ Tz146 (mkF m 140 #[oR fi, oI 0, oD X_, oS, oD X_, oS, oI 2, oI 2, oU, oU, oU, oU, oU, oU] [])
  refine own_go (fun _ k => XS.aloadN Xz146.here hx rfl (hb hby own_d6_140) rfl rfl k) ?_
  show own_Go _ _ _ _ Tz146 (mkF m 141 #[oR fi, oI 0, oD X_, oS, oD X_, oS, oI 2, oI 2, oU, oU, oU, oU, oU, oU] [(.ref fi)])
  refine own_go (fun _ k => XS.dup Xz146.here hx rfl (hb hby own_d6_141) rfl rfl k) ?_
  show own_Go _ _ _ _ Tz146 (mkF m 142 #[oR fi, oI 0, oD X_, oS, oD X_, oS, oI 2, oI 2, oU, oU, oU, oU, oU, oU] [(.ref fi), (.ref fi)])
  obtain ⟨Tz147, Xz147, ez147, stz147⟩ := getF Xz146 hx hZ hown (host := "") (Or.inl (hw _ (List.mem_of_getElem? (i := 61) rfl))) Via.refl ez146 F34 (g := (mkF m 142 #[oR fi, oI 0, oD X_, oS, oD X_, oS, oI 2, oI 2, oU, oU, oU, oU, oU, oU] [(.ref fi), (.ref fi)])) rfl rfl (hb hby own_d6_142)
  refine own_go stz147 ?_
  show own_Go _ _ _ _ Tz147 (mkF m 145 #[oR fi, oI 0, oD X_, oS, oD X_, oS, oI 2, oI 2, oU, oU, oU, oU, oU, oU] [(.int 1), (.ref fi)])
  refine own_go (fun _ k => XS.iconst Xz147.here hx rfl (hb hby own_d6_145) k) ?_
  show own_Go _ _ _ _ Tz147 (mkF m 146 #[oR fi, oI 0, oD X_, oS, oD X_, oS, oI 2, oI 2, oU, oU, oU, oU, oU, oU] [(.int 1), (.int 1), (.ref fi)])
  refine own_go (fun _ k => XS.isub Xz147.here hx rfl (hb hby own_d6_146) rfl k) ?_
  show own_Go _ _ _ _ Tz147 (mkF m 147 #[oR fi, oI 0, oD X_, oS, oD X_, oS, oI 2, oI 2, oU, oU, oU, oU, oU, oU] [(.int ((1 : Int32) - (1 : Int32))), (.ref fi)])
  obtain ⟨Tz148, hz148, Xz148, ez148, Wz148, stz148⟩ := putF Xz147 hx hZ hown (host := "") (Or.inl (hw _ (List.mem_of_getElem? (i := 61) rfl))) Via.refl ez147 F34 E_fi (Or.inl (hw _ (List.mem_of_getElem? (i := 62) rfl))) (hw _ (List.mem_of_getElem? (i := 23) rfl)) (ty := .int) (by decide) rfl rfl (g := (mkF m 147 #[oR fi, oI 0, oD X_, oS, oD X_, oS, oI 2, oI 2, oU, oU, oU, oU, oU, oU] [(.int ((1 : Int32) - (1 : Int32))), (.ref fi)])) rfl rfl (hb hby own_d6_147)
  refine own_go stz148 ?_
  have Nz148 := Fr.snoc Xz148 Nz146 g_fi
  have F35 := F34.same Wz148
  have F4 := F4.other Wz148 (own_o1 lt_le_fi)
  have F14 := F14.other Wz148 (own_o1 lt_le_fi)
  have F8 := F8.other Wz148 (own_o1 lt_le_fi)
  have F28 := F28.other Wz148 (own_o1 lt_le_fi)
  have F24 := F24.other Wz148 (own_o1 lt_le_fi)
  have V_go := V_go.other Wz148 (Nat.ne_of_lt lt_go_fi)
  have V_pe := V_pe.other Wz148 (Nat.ne_of_lt lt_pe_fi)
  have V_in_ := V_in_.other Wz148 (Nat.ne_of_gt lt_fi_in_)
  have V_ou := V_ou.other Wz148 (Nat.ne_of_gt lt_fi_ou)
  have V_el := V_el.other Wz148 (Nat.ne_of_gt lt_fi_el)
  have V_ev := V_ev.other Wz148 (Nat.ne_of_gt lt_fi_ev)
  have V_st := V_st.other Wz148 (Nat.ne_of_gt lt_fi_st)
  have V_se := V_se.other Wz148 (Nat.ne_of_gt lt_fi_se)
  have K := K.wr Wz148 (Or.inl (List.mem_of_getElem? (i := 0) rfl))
  have V_jo := V_jo.other Wz148 (Nat.ne_of_lt lt_jo_fi)
  have E_fi := E_fi.wr Wz148
  have F22 := F22.other Wz148 (own_sl hw 30 62 (Or.inl rfl) (Or.inl rfl) (by decide))
  have F0 := F0.other Wz148 (own_sl hw 32 62 (Or.inl rfl) (Or.inl rfl) (by decide))
  have F2 := F2.other Wz148 (own_sl hw 34 62 (Or.inl rfl) (Or.inl rfl) (by decide))
  have F38 := F38.other Wz148 (own_sl hw 36 62 (Or.inl rfl) (Or.inl rfl) (by decide))
  have F36 := F36.other Wz148 (own_sl hw 38 62 (Or.inl rfl) (Or.inl rfl) (by decide))
  have F18 := F18.other Wz148 (own_sl hw 40 62 (Or.inr rfl) (Or.inl rfl) (by decide))
  have F12 := F12.other Wz148 (own_sl hw 42 62 (Or.inr rfl) (Or.inl rfl) (by decide))
  have F26 := F26.other Wz148 (own_sl hw 44 62 (Or.inr rfl) (Or.inl rfl) (by decide))
  have F40 := F40.other Wz148 (own_sl hw 51 62 (Or.inl rfl) (Or.inl rfl) (by decide))
  have F16 := F16.other Wz148 (own_sl hw 58 62 (Or.inl rfl) (Or.inl rfl) (by decide))
  have F20 := F20.other Wz148 (own_sl hw 73 62 (Or.inl rfl) (Or.inl rfl) (by decide))
  have F30 := F30.other Wz148 (own_sl hw 69 62 (Or.inl rfl) (Or.inl rfl) (by decide))
  have F32 := F32.other Wz148 (own_sl hw 71 62 (Or.inl rfl) (Or.inl rfl) (by decide))
  have V_fl := V_fl.other Wz148 (Nat.ne_of_gt lt_fi_fl)
  have V_li := V_li.other Wz148 (Nat.ne_of_lt lt_li_fi)
  have F10 := F10.other Wz148 (own_sl hw 79 62 (Or.inl rfl) (Or.inl rfl) (by decide))
  have F6 := F6.other Wz148 (own_sl hw 60 62 (Or.inl rfl) (Or.inl rfl) (by decide))
  have F34 := F35
  show own_Go _ _ _ _ Tz148 (mkF m 150 #[oR fi, oI 0, oD X_, oS, oD X_, oS, oI 2, oI 2, oU, oU, oU, oU, oU, oU] [])
  refine own_go (fun _ k => XS.goto Xz148.here hx rfl (pc0 := 150) (pc' := 28) rfl (hb hby own_d6_150) (by decide) (by decide) k) ?_
  show own_Go _ _ _ _ Tz148 (mkF m 28 #[oR fi, oI 0, oD X_, oS, oD X_, oS, oI 2, oI 2, oU, oU, oU, oU, oU, oU] [])
  refine own_go (fun _ k => XS.aloadN Xz148.here hx rfl (hb hby own_d6_28) rfl rfl k) ?_
  show own_Go _ _ _ _ Tz148 (mkF m 29 #[oR fi, oI 0, oD X_, oS, oD X_, oS, oI 2, oI 2, oU, oU, oU, oU, oU, oU] [(.ref fi)])
  obtain ⟨Tz149, Xz149, ez149, stz149⟩ := getF Xz148 hx hZ hown (host := "") (Or.inl (hw _ (List.mem_of_getElem? (i := 61) rfl))) Via.refl ez148 F34 (g := (mkF m 29 #[oR fi, oI 0, oD X_, oS, oD X_, oS, oI 2, oI 2, oU, oU, oU, oU, oU, oU] [(.ref fi)])) rfl rfl (hb hby own_d6_29)
  refine own_go stz149 ?_
  show own_Go _ _ _ _ Tz149 (mkF m 32 #[oR fi, oI 0, oD X_, oS, oD X_, oS, oI 2, oI 2, oU, oU, oU, oU, oU, oU] [(.int ((1 : Int32) - (1 : Int32)))])
  refine own_go (fun _ k => XS.ifYes Xz149.here hx rfl (pc0 := 32) (pc' := 153) rfl (hb hby own_d6_32) rfl ((if0 _ _).trans (flt (by decide : ¬ ((0 : Int32) < ((1 : Int32) - (1 : Int32))))).2.2.2) (by decide) (by decide) k) ?_
  show own_Go _ _ _ _ Tz149 (mkF m 153 #[oR fi, oI 0, oD X_, oS, oD X_, oS, oI 2, oI 2, oU, oU, oU, oU, oU, oU] [])
  refine own_go (fun _ k => XS.iconst Xz149.here hx rfl (hb hby own_d6_153) k) ?_
  show own_Go _ _ _ _ Tz149 (mkF m 154 #[oR fi, oI 0, oD X_, oS, oD X_, oS, oI 2, oI 2, oU, oU, oU, oU, oU, oU] [(.int 0)])
  refine own_go (fun _ k => XS.istore Xz149.here hx rfl (hb hby own_d6_154) rfl (l' := #[oR fi, oI 0, oD X_, oS, oD X_, oS, oI 0, oI 2, oU, oU, oU, oU, oU, oU]) rfl k) ?_
  show own_Go _ _ _ _ Tz149 (mkF m 156 #[oR fi, oI 0, oD X_, oS, oD X_, oS, oI 0, oI 2, oU, oU, oU, oU, oU, oU] [])
  refine own_go (fun _ k => XS.iload Xz149.here hx rfl (hb hby own_d6_156) rfl k) ?_
  show own_Go _ _ _ _ Tz149 (mkF m 158 #[oR fi, oI 0, oD X_, oS, oD X_, oS, oI 0, oI 2, oU, oU, oU, oU, oU, oU] [(.int 0)])
  refine own_go (fun _ k => XS.aloadN Xz149.here hx rfl (hb hby own_d6_158) rfl rfl k) ?_
  show own_Go _ _ _ _ Tz149 (mkF m 159 #[oR fi, oI 0, oD X_, oS, oD X_, oS, oI 0, oI 2, oU, oU, oU, oU, oU, oU] [(.ref fi), (.int 0)])
  obtain ⟨Tz150, Xz150, ez150, stz150⟩ := getF Xz149 hx hZ hown (host := "") (Or.inl (hw _ (List.mem_of_getElem? (i := 72) rfl))) Via.refl ez149 F20 (g := (mkF m 159 #[oR fi, oI 0, oD X_, oS, oD X_, oS, oI 0, oI 2, oU, oU, oU, oU, oU, oU] [(.ref fi), (.int 0)])) rfl rfl (hb hby own_d6_159)
  refine own_go stz150 ?_
  show own_Go _ _ _ _ Tz150 (mkF m 162 #[oR fi, oI 0, oD X_, oS, oD X_, oS, oI 0, oI 2, oU, oU, oU, oU, oU, oU] [(.int 2), (.int 0)])
  refine own_go (fun _ k => XS.icmpNo Xz150.here hx rfl (hb hby own_d6_162) rfl (tlt (by decide : (0 : Int32) < (2 : Int32))).2.1 k) ?_
  show own_Go _ _ _ _ Tz150 (mkF m 165 #[oR fi, oI 0, oD X_, oS, oD X_, oS, oI 0, oI 2, oU, oU, oU, oU, oU, oU] [])
  refine own_go (fun _ k => XS.aloadN Xz150.here hx rfl (hb hby own_d6_165) rfl rfl k) ?_
  show own_Go _ _ _ _ Tz150 (mkF m 166 #[oR fi, oI 0, oD X_, oS, oD X_, oS, oI 0, oI 2, oU, oU, oU, oU, oU, oU] [(.ref fi)])
  obtain ⟨Tz151, Xz151, ez151, stz151⟩ := getF Xz150 hx hZ hown (host := "") (Or.inl (hw _ (List.mem_of_getElem? (i := 29) rfl))) Via.refl ez150 F22 (g := (mkF m 166 #[oR fi, oI 0, oD X_, oS, oD X_, oS, oI 0, oI 2, oU, oU, oU, oU, oU, oU] [(.ref fi)])) rfl rfl (hb hby own_d6_166)
  refine own_go stz151 ?_
  show own_Go _ _ _ _ Tz151 (mkF m 169 #[oR fi, oI 0, oD X_, oS, oD X_, oS, oI 0, oI 2, oU, oU, oU, oU, oU, oU] [(.ref fl)])
  refine own_go (fun _ k => XS.iload Xz151.here hx rfl (hb hby own_d6_169) rfl k) ?_
  show own_Go _ _ _ _ Tz151 (mkF m 171 #[oR fi, oI 0, oD X_, oS, oD X_, oS, oI 0, oI 2, oU, oU, oU, oU, oU, oU] [(.int 0), (.ref fl)])
  obtain ⟨clz152, Arz152, qz152, Sz152, Mz152, HHz152, Gz152⟩ := id V_fl
  have hinz152 : ¬ ((0 : Int32) < 0 ∨ clz152.slots.size ≤ ((0 : Int32)).toNatClampNeg) := inb_of Sz152 ⟨(by decide), (by decide)⟩
  have hatz152 : clz152.slots[((0 : Int32)).toNatClampNeg]? = some (.int 0) := HHz152.at hinz152 (rfl)
  refine own_go (fun _ k => Xz151.iaload hx (j := (0 : Int32)) (v := (.int 0)) (by rw [ez151]; exact Arz152.1) (State.isArrayOf_alike hZ.alike Arz152.2.1) Arz152.2.2 hinz152 hatz152 (g := (mkF m 171 #[oR fi, oI 0, oD X_, oS, oD X_, oS, oI 0, oI 2, oU, oU, oU, oU, oU, oU] [(.int 0), (.ref fl)])) rfl rfl (hb hby own_d6_171) _ k) ?_
  show own_Go _ _ _ _ Tz151 (mkF m 172 #[oR fi, oI 0, oD X_, oS, oD X_, oS, oI 0, oI 2, oU, oU, oU, oU, oU, oU] [(.int 0)])
  refine own_go (fun _ k => XS.istore Xz151.here hx rfl (hb hby own_d6_172) rfl (l' := #[oR fi, oI 0, oD X_, oS, oD X_, oS, oI 0, oI 0, oU, oU, oU, oU, oU, oU]) rfl k) ?_
  show own_Go _ _ _ _ Tz151 (mkF m 174 #[oR fi, oI 0, oD X_, oS, oD X_, oS, oI 0, oI 0, oU, oU, oU, oU, oU, oU] [])
  refine own_go (fun _ k => XS.aloadN Xz151.here hx rfl (hb hby own_d6_174) rfl rfl k) ?_
  show own_Go _ _ _ _ Tz151 (mkF m 175 #[oR fi, oI 0, oD X_, oS, oD X_, oS, oI 0, oI 0, oU, oU, oU, oU, oU, oU] [(.ref fi)])
  obtain ⟨Tz153, Xz153, ez153, stz153⟩ := getF Xz151 hx hZ hown (host := "") (Or.inl (hw _ (List.mem_of_getElem? (i := 39) rfl))) Via.refl ez151 F18 (g := (mkF m 175 #[oR fi, oI 0, oD X_, oS, oD X_, oS, oI 0, oI 0, oU, oU, oU, oU, oU, oU] [(.ref fi)])) rfl rfl (hb hby own_d6_175)
  refine own_go stz153 ?_
  show own_Go _ _ _ _ Tz153 (mkF m 178 #[oR fi, oI 0, oD X_, oS, oD X_, oS, oI 0, oI 0, oU, oU, oU, oU, oU, oU] [(.ref le)])
  refine own_go (fun _ k => own_getR Xz153 hx hZ hown (hw _ (List.mem_of_getElem? (i := 85) rfl)) ez153 F28 (g := (mkF m 178 #[oR fi, oI 0, oD X_, oS, oD X_, oS, oI 0, oI 0, oU, oU, oU, oU, oU, oU] [(.ref le)])) rfl rfl (hb hby own_d6_178) _ k) ?_
  show own_Go _ _ _ _ Tz153 (mkF m 181 #[oR fi, oI 0, oD X_, oS, oD X_, oS, oI 0, oI 0, oU, oU, oU, oU, oU, oU] [(.ref pe)])
  refine own_go (fun _ k => XS.iload Xz153.here hx rfl (hb hby own_d6_181) rfl k) ?_
  show own_Go _ _ _ _ Tz153 (mkF m 183 #[oR fi, oI 0, oD X_, oS, oD X_, oS, oI 0, oI 0, oU, oU, oU, oU, oU, oU] [(.int 0), (.ref pe)])
  refine own_go (fun _ k => XS.aloadN Xz153.here hx rfl (hb hby own_d6_183) rfl rfl k) ?_
  show own_Go _ _ _ _ Tz153 (mkF m 184 #[oR fi, oI 0, oD X_, oS, oD X_, oS, oI 0, oI 0, oU, oU, oU, oU, oU, oU] [(.ref fi), (.int 0), (.ref pe)])
  obtain ⟨Tz155, Xz155, ez155, stz155⟩ := getF Xz153 hx hZ hown (host := "") (Or.inl (hw _ (List.mem_of_getElem? (i := 39) rfl))) Via.refl ez153 F18 (g := (mkF m 184 #[oR fi, oI 0, oD X_, oS, oD X_, oS, oI 0, oI 0, oU, oU, oU, oU, oU, oU] [(.ref fi), (.int 0), (.ref pe)])) rfl rfl (hb hby own_d6_184)
  refine own_go stz155 ?_
  show own_Go _ _ _ _ Tz155 (mkF m 187 #[oR fi, oI 0, oD X_, oS, oD X_, oS, oI 0, oI 0, oU, oU, oU, oU, oU, oU] [(.ref le), (.int 0), (.ref pe)])
  refine own_go (fun _ k => own_getR Xz155 hx hZ hown (hw _ (List.mem_of_getElem? (i := 86) rfl)) ez155 F14 (g := (mkF m 187 #[oR fi, oI 0, oD X_, oS, oD X_, oS, oI 0, oI 0, oU, oU, oU, oU, oU, oU] [(.ref le), (.int 0), (.ref pe)])) rfl rfl (hb hby own_d6_187) _ k) ?_
  show own_Go _ _ _ _ Tz155 (mkF m 190 #[oR fi, oI 0, oD X_, oS, oD X_, oS, oI 0, oI 0, oU, oU, oU, oU, oU, oU] [(.ref jo), (.int 0), (.ref pe)])
  refine own_go (fun _ k => XS.iload Xz155.here hx rfl (hb hby own_d6_190) rfl k) ?_
  show own_Go _ _ _ _ Tz155 (mkF m 192 #[oR fi, oI 0, oD X_, oS, oD X_, oS, oI 0, oI 0, oU, oU, oU, oU, oU, oU] [(.int 0), (.ref jo), (.int 0), (.ref pe)])
  obtain ⟨clz157, Arz157, qz157, Sz157, Mz157, HHz157, Gz157⟩ := id V_jo
  have hinz157 : ¬ ((0 : Int32) < 0 ∨ clz157.slots.size ≤ ((0 : Int32)).toNatClampNeg) := inb_of Sz157 ⟨(by decide), (by decide)⟩
  have hatz157 : clz157.slots[((0 : Int32)).toNatClampNeg]? = some (.double V0) := HHz157.at hinz157 (rfl)
  refine own_go (fun _ k => Xz155.daload hx (j := (0 : Int32)) (v := (.double V0)) (by rw [ez155]; exact Arz157.1) (State.isArrayOf_alike hZ.alike Arz157.2.1) Arz157.2.2 hinz157 hatz157 (g := (mkF m 192 #[oR fi, oI 0, oD X_, oS, oD X_, oS, oI 0, oI 0, oU, oU, oU, oU, oU, oU] [(.int 0), (.ref jo), (.int 0), (.ref pe)])) rfl rfl (hb hby own_d6_192) _ k) ?_
  show own_Go _ _ _ _ Tz155 (mkF m 193 #[oR fi, oI 0, oD X_, oS, oD X_, oS, oI 0, oI 0, oU, oU, oU, oU, oU, oU] [(.double V0), (.int 0), (.ref pe)])
  refine own_go (fun _ k => XS.aloadN Xz155.here hx rfl (hb hby own_d6_193) rfl rfl k) ?_
  show own_Go _ _ _ _ Tz155 (mkF m 194 #[oR fi, oI 0, oD X_, oS, oD X_, oS, oI 0, oI 0, oU, oU, oU, oU, oU, oU] [(.ref fi), (.double V0), (.int 0), (.ref pe)])
  obtain ⟨Tz158, Xz158, ez158, stz158⟩ := getF Xz155 hx hZ hown (host := "") (Or.inl (hw _ (List.mem_of_getElem? (i := 39) rfl))) Via.refl ez155 F18 (g := (mkF m 194 #[oR fi, oI 0, oD X_, oS, oD X_, oS, oI 0, oI 0, oU, oU, oU, oU, oU, oU] [(.ref fi), (.double V0), (.int 0), (.ref pe)])) rfl rfl (hb hby own_d6_194)
  refine own_go stz158 ?_
  show own_Go _ _ _ _ Tz158 (mkF m 197 #[oR fi, oI 0, oD X_, oS, oD X_, oS, oI 0, oI 0, oU, oU, oU, oU, oU, oU] [(.ref le), (.double V0), (.int 0), (.ref pe)])
  refine own_go (fun _ k => own_getR Xz158 hx hZ hown (hw _ (List.mem_of_getElem? (i := 87) rfl)) ez158 F8 (g := (mkF m 197 #[oR fi, oI 0, oD X_, oS, oD X_, oS, oI 0, oI 0, oU, oU, oU, oU, oU, oU] [(.ref le), (.double V0), (.int 0), (.ref pe)])) rfl rfl (hb hby own_d6_197) _ k) ?_
  show own_Go _ _ _ _ Tz158 (mkF m 200 #[oR fi, oI 0, oD X_, oS, oD X_, oS, oI 0, oI 0, oU, oU, oU, oU, oU, oU] [(.ref go), (.double V0), (.int 0), (.ref pe)])
  refine own_go (fun _ k => XS.iload Xz158.here hx rfl (hb hby own_d6_200) rfl k) ?_
  show own_Go _ _ _ _ Tz158 (mkF m 202 #[oR fi, oI 0, oD X_, oS, oD X_, oS, oI 0, oI 0, oU, oU, oU, oU, oU, oU] [(.int 0), (.ref go), (.double V0), (.int 0), (.ref pe)])
  obtain ⟨clz160, Arz160, qz160, Sz160, Mz160, HHz160, Gz160⟩ := id V_go
  have hinz160 : ¬ ((0 : Int32) < 0 ∨ clz160.slots.size ≤ ((0 : Int32)).toNatClampNeg) := inb_of Sz160 ⟨(by decide), (by decide)⟩
  have hatz160 : clz160.slots[((0 : Int32)).toNatClampNeg]? = some (.double 0) := HHz160.at hinz160 (rfl)
  refine own_go (fun _ k => Xz158.daload hx (j := (0 : Int32)) (v := (.double 0)) (by rw [ez158]; exact Arz160.1) (State.isArrayOf_alike hZ.alike Arz160.2.1) Arz160.2.2 hinz160 hatz160 (g := (mkF m 202 #[oR fi, oI 0, oD X_, oS, oD X_, oS, oI 0, oI 0, oU, oU, oU, oU, oU, oU] [(.int 0), (.ref go), (.double V0), (.int 0), (.ref pe)])) rfl rfl (hb hby own_d6_202) _ k) ?_
  show own_Go _ _ _ _ Tz158 (mkF m 203 #[oR fi, oI 0, oD X_, oS, oD X_, oS, oI 0, oI 0, oU, oU, oU, oU, oU, oU] [(.double 0), (.double V0), (.int 0), (.ref pe)])
  refine own_go (fun _ k => XS.dsubS Xz158.here hx rfl (hb hby own_d6_203) rfl (by rw [hp0]; exact hn0) hp0 k) ?_
  show own_Go _ _ _ _ Tz158 (mkF m 204 #[oR fi, oI 0, oD X_, oS, oD X_, oS, oI 0, oI 0, oU, oU, oU, oU, oU, oU] [(.double V0), (.int 0), (.ref pe)])
  obtain ⟨clz161, Arz161, qz161, Sz161, Mz161, HHz161, Gz161⟩ := V_pe
  have hinz161 : ¬ ((0 : Int32) < 0 ∨ clz161.slots.size ≤ ((0 : Int32)).toNatClampNeg) := inb_of Sz161 ⟨(by decide), (by decide)⟩
  obtain ⟨Tz161, hz161, Xz161, ez161, Wz161, stz161⟩ := stD Xz158 hx hZ ez158 Arz161 (j := (0 : Int32)) hinz161 (g := (mkF m 204 #[oR fi, oI 0, oD X_, oS, oD X_, oS, oI 0, oI 0, oU, oU, oU, oU, oU, oU] [(.double V0), (.int 0), (.ref pe)])) rfl rfl (hb hby own_d6_204)
  refine own_go stz161 ?_
  have V_pe_ : Arv Z hz161 pe kpe .double (2 : Int32) [(.double V0), (.double 0)] (.double 0) := Arv.set Arz161 qz161 Sz161 Mz161 HHz161 Gz161 rfl Wz161 0 rfl (Nat.le_of_ble_eq_true rfl)
  have Nz161 := Fr.snoc Xz161 Nz148 g_pe
  have F4 := F4.other Wz161 (own_o1 lt_le_pe)
  have F14 := F14.other Wz161 (own_o1 lt_le_pe)
  have F8 := F8.other Wz161 (own_o1 lt_le_pe)
  have F28 := F28.other Wz161 (own_o1 lt_le_pe)
  have F24 := F24.other Wz161 (own_o1 lt_le_pe)
  have V_go := V_go.other Wz161 (Nat.ne_of_lt lt_go_pe)
  have V_in_ := V_in_.other Wz161 (Nat.ne_of_gt lt_pe_in_)
  have V_ou := V_ou.other Wz161 (Nat.ne_of_gt lt_pe_ou)
  have V_el := V_el.other Wz161 (Nat.ne_of_gt lt_pe_el)
  have V_ev := V_ev.other Wz161 (Nat.ne_of_gt lt_pe_ev)
  have V_st := V_st.other Wz161 (Nat.ne_of_gt lt_pe_st)
  have V_se := V_se.other Wz161 (Nat.ne_of_gt lt_pe_se)
  have K := K.wr Wz161 (Or.inl (List.mem_of_getElem? (i := 2) rfl))
  have V_jo := V_jo.other Wz161 (Nat.ne_of_lt lt_jo_pe)
  have E_fi := E_fi.wr Wz161
  have F22 := F22.other Wz161 (own_o2 lt_pe_fi)
  have F0 := F0.other Wz161 (own_o2 lt_pe_fi)
  have F2 := F2.other Wz161 (own_o2 lt_pe_fi)
  have F38 := F38.other Wz161 (own_o2 lt_pe_fi)
  have F36 := F36.other Wz161 (own_o2 lt_pe_fi)
  have F18 := F18.other Wz161 (own_o2 lt_pe_fi)
  have F12 := F12.other Wz161 (own_o2 lt_pe_fi)
  have F26 := F26.other Wz161 (own_o2 lt_pe_fi)
  have F40 := F40.other Wz161 (own_o2 lt_pe_fi)
  have F16 := F16.other Wz161 (own_o2 lt_pe_fi)
  have F20 := F20.other Wz161 (own_o2 lt_pe_fi)
  have F30 := F30.other Wz161 (own_o2 lt_pe_fi)
  have F32 := F32.other Wz161 (own_o2 lt_pe_fi)
  have V_fl := V_fl.other Wz161 (Nat.ne_of_gt lt_pe_fl)
  have V_li := V_li.other Wz161 (Nat.ne_of_gt lt_pe_li)
  have F10 := F10.other Wz161 (own_o2 lt_pe_fi)
  have F6 := F6.other Wz161 (own_o2 lt_pe_fi)
  have F34 := F34.other Wz161 (own_o2 lt_pe_fi)
  have V_pe := V_pe_
  show own_Go _ _ _ _ Tz161 (mkF m 205 #[oR fi, oI 0, oD X_, oS, oD X_, oS, oI 0, oI 0, oU, oU, oU, oU, oU, oU] [])
  refine own_go (fun _ k => XS.iinc Xz161.here hx rfl (hb hby own_d6_205) rfl (l' := #[oR fi, oI 0, oD X_, oS, oD X_, oS, oI ((0 : Int32) + (1 : Int32)), oI 0, oU, oU, oU, oU, oU, oU]) rfl k) ?_
  show own_Go _ _ _ _ Tz161 (mkF m 208 #[oR fi, oI 0, oD X_, oS, oD X_, oS, oI ((0 : Int32) + (1 : Int32)), oI 0, oU, oU, oU, oU, oU, oU] [])
  refine own_go (fun _ k => XS.goto Xz161.here hx rfl (pc0 := 208) (pc' := 156) rfl (hb hby own_d6_208) (by decide) (by decide) k) ?_
  show own_Go _ _ _ _ Tz161 (mkF m 156 #[oR fi, oI 0, oD X_, oS, oD X_, oS, oI ((0 : Int32) + (1 : Int32)), oI 0, oU, oU, oU, oU, oU, oU] [])
  show own_Go _ _ _ _ Tz161 (mkF m 156 #[oR fi, oI 0, oD X_, oS, oD X_, oS, oI 1, oI 0, oU, oU, oU, oU, oU, oU] [])
  refine own_go (fun _ k => XS.iload Xz161.here hx rfl (hb hby own_d6_156) rfl k) ?_
  show own_Go _ _ _ _ Tz161 (mkF m 158 #[oR fi, oI 0, oD X_, oS, oD X_, oS, oI 1, oI 0, oU, oU, oU, oU, oU, oU] [(.int 1)])
  refine own_go (fun _ k => XS.aloadN Xz161.here hx rfl (hb hby own_d6_158) rfl rfl k) ?_
  show own_Go _ _ _ _ Tz161 (mkF m 159 #[oR fi, oI 0, oD X_, oS, oD X_, oS, oI 1, oI 0, oU, oU, oU, oU, oU, oU] [(.ref fi), (.int 1)])
  obtain ⟨Tz162, Xz162, ez162, stz162⟩ := getF Xz161 hx hZ hown (host := "") (Or.inl (hw _ (List.mem_of_getElem? (i := 72) rfl))) Via.refl ez161 F20 (g := (mkF m 159 #[oR fi, oI 0, oD X_, oS, oD X_, oS, oI 1, oI 0, oU, oU, oU, oU, oU, oU] [(.ref fi), (.int 1)])) rfl rfl (hb hby own_d6_159)
  refine own_go stz162 ?_
  show own_Go _ _ _ _ Tz162 (mkF m 162 #[oR fi, oI 0, oD X_, oS, oD X_, oS, oI 1, oI 0, oU, oU, oU, oU, oU, oU] [(.int 2), (.int 1)])
  refine own_go (fun _ k => XS.icmpNo Xz162.here hx rfl (hb hby own_d6_162) rfl (tlt (by decide : (1 : Int32) < (2 : Int32))).2.1 k) ?_
  show own_Go _ _ _ _ Tz162 (mkF m 165 #[oR fi, oI 0, oD X_, oS, oD X_, oS, oI 1, oI 0, oU, oU, oU, oU, oU, oU] [])
  refine own_go (fun _ k => XS.aloadN Xz162.here hx rfl (hb hby own_d6_165) rfl rfl k) ?_
  show own_Go _ _ _ _ Tz162 (mkF m 166 #[oR fi, oI 0, oD X_, oS, oD X_, oS, oI 1, oI 0, oU, oU, oU, oU, oU, oU] [(.ref fi)])
  obtain ⟨Tz163, Xz163, ez163, stz163⟩ := getF Xz162 hx hZ hown (host := "") (Or.inl (hw _ (List.mem_of_getElem? (i := 29) rfl))) Via.refl ez162 F22 (g := (mkF m 166 #[oR fi, oI 0, oD X_, oS, oD X_, oS, oI 1, oI 0, oU, oU, oU, oU, oU, oU] [(.ref fi)])) rfl rfl (hb hby own_d6_166)
  refine own_go stz163 ?_
  show own_Go _ _ _ _ Tz163 (mkF m 169 #[oR fi, oI 0, oD X_, oS, oD X_, oS, oI 1, oI 0, oU, oU, oU, oU, oU, oU] [(.ref fl)])
  refine own_go (fun _ k => XS.iload Xz163.here hx rfl (hb hby own_d6_169) rfl k) ?_
  show own_Go _ _ _ _ Tz163 (mkF m 171 #[oR fi, oI 0, oD X_, oS, oD X_, oS, oI 1, oI 0, oU, oU, oU, oU, oU, oU] [(.int 1), (.ref fl)])
  obtain ⟨clz164, Arz164, qz164, Sz164, Mz164, HHz164, Gz164⟩ := id V_fl
  have hinz164 : ¬ ((1 : Int32) < 0 ∨ clz164.slots.size ≤ ((1 : Int32)).toNatClampNeg) := inb_of Sz164 ⟨(by decide), (by decide)⟩
  have hatz164 : clz164.slots[((1 : Int32)).toNatClampNeg]? = some (.int 1) := HHz164.at hinz164 (rfl)
  refine own_go (fun _ k => Xz163.iaload hx (j := (1 : Int32)) (v := (.int 1)) (by rw [ez163]; exact Arz164.1) (State.isArrayOf_alike hZ.alike Arz164.2.1) Arz164.2.2 hinz164 hatz164 (g := (mkF m 171 #[oR fi, oI 0, oD X_, oS, oD X_, oS, oI 1, oI 0, oU, oU, oU, oU, oU, oU] [(.int 1), (.ref fl)])) rfl rfl (hb hby own_d6_171) _ k) ?_
  show own_Go _ _ _ _ Tz163 (mkF m 172 #[oR fi, oI 0, oD X_, oS, oD X_, oS, oI 1, oI 0, oU, oU, oU, oU, oU, oU] [(.int 1)])
  refine own_go (fun _ k => XS.istore Xz163.here hx rfl (hb hby own_d6_172) rfl (l' := #[oR fi, oI 0, oD X_, oS, oD X_, oS, oI 1, oI 1, oU, oU, oU, oU, oU, oU]) rfl k) ?_
  show own_Go _ _ _ _ Tz163 (mkF m 174 #[oR fi, oI 0, oD X_, oS, oD X_, oS, oI 1, oI 1, oU, oU, oU, oU, oU, oU] [])
  refine own_go (fun _ k => XS.aloadN Xz163.here hx rfl (hb hby own_d6_174) rfl rfl k) ?_
  show own_Go _ _ _ _ Tz163 (mkF m 175 #[oR fi, oI 0, oD X_, oS, oD X_, oS, oI 1, oI 1, oU, oU, oU, oU, oU, oU] [(.ref fi)])
  obtain ⟨Tz165, Xz165, ez165, stz165⟩ := getF Xz163 hx hZ hown (host := "") (Or.inl (hw _ (List.mem_of_getElem? (i := 39) rfl))) Via.refl ez163 F18 (g := (mkF m 175 #[oR fi, oI 0, oD X_, oS, oD X_, oS, oI 1, oI 1, oU, oU, oU, oU, oU, oU] [(.ref fi)])) rfl rfl (hb hby own_d6_175)
  refine own_go stz165 ?_
  show own_Go _ _ _ _ Tz165 (mkF m 178 #[oR fi, oI 0, oD X_, oS, oD X_, oS, oI 1, oI 1, oU, oU, oU, oU, oU, oU] [(.ref le)])
  refine own_go (fun _ k => own_getR Xz165 hx hZ hown (hw _ (List.mem_of_getElem? (i := 85) rfl)) ez165 F28 (g := (mkF m 178 #[oR fi, oI 0, oD X_, oS, oD X_, oS, oI 1, oI 1, oU, oU, oU, oU, oU, oU] [(.ref le)])) rfl rfl (hb hby own_d6_178) _ k) ?_
  show own_Go _ _ _ _ Tz165 (mkF m 181 #[oR fi, oI 0, oD X_, oS, oD X_, oS, oI 1, oI 1, oU, oU, oU, oU, oU, oU] [(.ref pe)])
  refine own_go (fun _ k => XS.iload Xz165.here hx rfl (hb hby own_d6_181) rfl k) ?_
  show own_Go _ _ _ _ Tz165 (mkF m 183 #[oR fi, oI 0, oD X_, oS, oD X_, oS, oI 1, oI 1, oU, oU, oU, oU, oU, oU] [(.int 1), (.ref pe)])
  refine own_go (fun _ k => XS.aloadN Xz165.here hx rfl (hb hby own_d6_183) rfl rfl k) ?_
  show own_Go _ _ _ _ Tz165 (mkF m 184 #[oR fi, oI 0, oD X_, oS, oD X_, oS, oI 1, oI 1, oU, oU, oU, oU, oU, oU] [(.ref fi), (.int 1), (.ref pe)])
  obtain ⟨Tz167, Xz167, ez167, stz167⟩ := getF Xz165 hx hZ hown (host := "") (Or.inl (hw _ (List.mem_of_getElem? (i := 39) rfl))) Via.refl ez165 F18 (g := (mkF m 184 #[oR fi, oI 0, oD X_, oS, oD X_, oS, oI 1, oI 1, oU, oU, oU, oU, oU, oU] [(.ref fi), (.int 1), (.ref pe)])) rfl rfl (hb hby own_d6_184)
  refine own_go stz167 ?_
  show own_Go _ _ _ _ Tz167 (mkF m 187 #[oR fi, oI 0, oD X_, oS, oD X_, oS, oI 1, oI 1, oU, oU, oU, oU, oU, oU] [(.ref le), (.int 1), (.ref pe)])
  refine own_go (fun _ k => own_getR Xz167 hx hZ hown (hw _ (List.mem_of_getElem? (i := 86) rfl)) ez167 F14 (g := (mkF m 187 #[oR fi, oI 0, oD X_, oS, oD X_, oS, oI 1, oI 1, oU, oU, oU, oU, oU, oU] [(.ref le), (.int 1), (.ref pe)])) rfl rfl (hb hby own_d6_187) _ k) ?_
  show own_Go _ _ _ _ Tz167 (mkF m 190 #[oR fi, oI 0, oD X_, oS, oD X_, oS, oI 1, oI 1, oU, oU, oU, oU, oU, oU] [(.ref jo), (.int 1), (.ref pe)])
  refine own_go (fun _ k => XS.iload Xz167.here hx rfl (hb hby own_d6_190) rfl k) ?_
  show own_Go _ _ _ _ Tz167 (mkF m 192 #[oR fi, oI 0, oD X_, oS, oD X_, oS, oI 1, oI 1, oU, oU, oU, oU, oU, oU] [(.int 1), (.ref jo), (.int 1), (.ref pe)])
  obtain ⟨clz169, Arz169, qz169, Sz169, Mz169, HHz169, Gz169⟩ := id V_jo
  have hinz169 : ¬ ((1 : Int32) < 0 ∨ clz169.slots.size ≤ ((1 : Int32)).toNatClampNeg) := inb_of Sz169 ⟨(by decide), (by decide)⟩
  have hatz169 : clz169.slots[((1 : Int32)).toNatClampNeg]? = some (.double V1) := HHz169.at hinz169 (rfl)
  refine own_go (fun _ k => Xz167.daload hx (j := (1 : Int32)) (v := (.double V1)) (by rw [ez167]; exact Arz169.1) (State.isArrayOf_alike hZ.alike Arz169.2.1) Arz169.2.2 hinz169 hatz169 (g := (mkF m 192 #[oR fi, oI 0, oD X_, oS, oD X_, oS, oI 1, oI 1, oU, oU, oU, oU, oU, oU] [(.int 1), (.ref jo), (.int 1), (.ref pe)])) rfl rfl (hb hby own_d6_192) _ k) ?_
  show own_Go _ _ _ _ Tz167 (mkF m 193 #[oR fi, oI 0, oD X_, oS, oD X_, oS, oI 1, oI 1, oU, oU, oU, oU, oU, oU] [(.double V1), (.int 1), (.ref pe)])
  refine own_go (fun _ k => XS.aloadN Xz167.here hx rfl (hb hby own_d6_193) rfl rfl k) ?_
  show own_Go _ _ _ _ Tz167 (mkF m 194 #[oR fi, oI 0, oD X_, oS, oD X_, oS, oI 1, oI 1, oU, oU, oU, oU, oU, oU] [(.ref fi), (.double V1), (.int 1), (.ref pe)])
  obtain ⟨Tz170, Xz170, ez170, stz170⟩ := getF Xz167 hx hZ hown (host := "") (Or.inl (hw _ (List.mem_of_getElem? (i := 39) rfl))) Via.refl ez167 F18 (g := (mkF m 194 #[oR fi, oI 0, oD X_, oS, oD X_, oS, oI 1, oI 1, oU, oU, oU, oU, oU, oU] [(.ref fi), (.double V1), (.int 1), (.ref pe)])) rfl rfl (hb hby own_d6_194)
  refine own_go stz170 ?_
  show own_Go _ _ _ _ Tz170 (mkF m 197 #[oR fi, oI 0, oD X_, oS, oD X_, oS, oI 1, oI 1, oU, oU, oU, oU, oU, oU] [(.ref le), (.double V1), (.int 1), (.ref pe)])
  refine own_go (fun _ k => own_getR Xz170 hx hZ hown (hw _ (List.mem_of_getElem? (i := 87) rfl)) ez170 F8 (g := (mkF m 197 #[oR fi, oI 0, oD X_, oS, oD X_, oS, oI 1, oI 1, oU, oU, oU, oU, oU, oU] [(.ref le), (.double V1), (.int 1), (.ref pe)])) rfl rfl (hb hby own_d6_197) _ k) ?_
  show own_Go _ _ _ _ Tz170 (mkF m 200 #[oR fi, oI 0, oD X_, oS, oD X_, oS, oI 1, oI 1, oU, oU, oU, oU, oU, oU] [(.ref go), (.double V1), (.int 1), (.ref pe)])
  refine own_go (fun _ k => XS.iload Xz170.here hx rfl (hb hby own_d6_200) rfl k) ?_
  show own_Go _ _ _ _ Tz170 (mkF m 202 #[oR fi, oI 0, oD X_, oS, oD X_, oS, oI 1, oI 1, oU, oU, oU, oU, oU, oU] [(.int 1), (.ref go), (.double V1), (.int 1), (.ref pe)])
  obtain ⟨clz172, Arz172, qz172, Sz172, Mz172, HHz172, Gz172⟩ := id V_go
  have hinz172 : ¬ ((1 : Int32) < 0 ∨ clz172.slots.size ≤ ((1 : Int32)).toNatClampNeg) := inb_of Sz172 ⟨(by decide), (by decide)⟩
  have hatz172 : clz172.slots[((1 : Int32)).toNatClampNeg]? = some (.double 0) := HHz172.at hinz172 (rfl)
  refine own_go (fun _ k => Xz170.daload hx (j := (1 : Int32)) (v := (.double 0)) (by rw [ez170]; exact Arz172.1) (State.isArrayOf_alike hZ.alike Arz172.2.1) Arz172.2.2 hinz172 hatz172 (g := (mkF m 202 #[oR fi, oI 0, oD X_, oS, oD X_, oS, oI 1, oI 1, oU, oU, oU, oU, oU, oU] [(.int 1), (.ref go), (.double V1), (.int 1), (.ref pe)])) rfl rfl (hb hby own_d6_202) _ k) ?_
  show own_Go _ _ _ _ Tz170 (mkF m 203 #[oR fi, oI 0, oD X_, oS, oD X_, oS, oI 1, oI 1, oU, oU, oU, oU, oU, oU] [(.double 0), (.double V1), (.int 1), (.ref pe)])
  refine own_go (fun _ k => XS.dsubS Xz170.here hx rfl (hb hby own_d6_203) rfl (by rw [hp1]; exact hn1) hp1 k) ?_
  show own_Go _ _ _ _ Tz170 (mkF m 204 #[oR fi, oI 0, oD X_, oS, oD X_, oS, oI 1, oI 1, oU, oU, oU, oU, oU, oU] [(.double V1), (.int 1), (.ref pe)])
  obtain ⟨clz173, Arz173, qz173, Sz173, Mz173, HHz173, Gz173⟩ := V_pe
  have hinz173 : ¬ ((1 : Int32) < 0 ∨ clz173.slots.size ≤ ((1 : Int32)).toNatClampNeg) := inb_of Sz173 ⟨(by decide), (by decide)⟩
  obtain ⟨Tz173, hz173, Xz173, ez173, Wz173, stz173⟩ := stD Xz170 hx hZ ez170 Arz173 (j := (1 : Int32)) hinz173 (g := (mkF m 204 #[oR fi, oI 0, oD X_, oS, oD X_, oS, oI 1, oI 1, oU, oU, oU, oU, oU, oU] [(.double V1), (.int 1), (.ref pe)])) rfl rfl (hb hby own_d6_204)
  refine own_go stz173 ?_
  have V_pe_ : Arv Z hz173 pe kpe .double (2 : Int32) [(.double V0), (.double V1)] (.double 0) := Arv.set Arz173 qz173 Sz173 Mz173 HHz173 Gz173 rfl Wz173 1 rfl (Nat.le_of_ble_eq_true rfl)
  have Nz173 := Fr.snoc Xz173 Nz161 g_pe
  have F4 := F4.other Wz173 (own_o1 lt_le_pe)
  have F14 := F14.other Wz173 (own_o1 lt_le_pe)
  have F8 := F8.other Wz173 (own_o1 lt_le_pe)
  have F28 := F28.other Wz173 (own_o1 lt_le_pe)
  have F24 := F24.other Wz173 (own_o1 lt_le_pe)
  have V_go := V_go.other Wz173 (Nat.ne_of_lt lt_go_pe)
  have V_in_ := V_in_.other Wz173 (Nat.ne_of_gt lt_pe_in_)
  have V_ou := V_ou.other Wz173 (Nat.ne_of_gt lt_pe_ou)
  have V_el := V_el.other Wz173 (Nat.ne_of_gt lt_pe_el)
  have V_ev := V_ev.other Wz173 (Nat.ne_of_gt lt_pe_ev)
  have V_st := V_st.other Wz173 (Nat.ne_of_gt lt_pe_st)
  have V_se := V_se.other Wz173 (Nat.ne_of_gt lt_pe_se)
  have K := K.wr Wz173 (Or.inl (List.mem_of_getElem? (i := 2) rfl))
  have V_jo := V_jo.other Wz173 (Nat.ne_of_lt lt_jo_pe)
  have E_fi := E_fi.wr Wz173
  have F22 := F22.other Wz173 (own_o2 lt_pe_fi)
  have F0 := F0.other Wz173 (own_o2 lt_pe_fi)
  have F2 := F2.other Wz173 (own_o2 lt_pe_fi)
  have F38 := F38.other Wz173 (own_o2 lt_pe_fi)
  have F36 := F36.other Wz173 (own_o2 lt_pe_fi)
  have F18 := F18.other Wz173 (own_o2 lt_pe_fi)
  have F12 := F12.other Wz173 (own_o2 lt_pe_fi)
  have F26 := F26.other Wz173 (own_o2 lt_pe_fi)
  have F40 := F40.other Wz173 (own_o2 lt_pe_fi)
  have F16 := F16.other Wz173 (own_o2 lt_pe_fi)
  have F20 := F20.other Wz173 (own_o2 lt_pe_fi)
  have F30 := F30.other Wz173 (own_o2 lt_pe_fi)
  have F32 := F32.other Wz173 (own_o2 lt_pe_fi)
  have V_fl := V_fl.other Wz173 (Nat.ne_of_gt lt_pe_fl)
  have V_li := V_li.other Wz173 (Nat.ne_of_gt lt_pe_li)
  have F10 := F10.other Wz173 (own_o2 lt_pe_fi)
  have F6 := F6.other Wz173 (own_o2 lt_pe_fi)
  have F34 := F34.other Wz173 (own_o2 lt_pe_fi)
  have V_pe := V_pe_
  show own_Go _ _ _ _ Tz173 (mkF m 205 #[oR fi, oI 0, oD X_, oS, oD X_, oS, oI 1, oI 1, oU, oU, oU, oU, oU, oU] [])
  refine own_go (fun _ k => XS.iinc Xz173.here hx rfl (hb hby own_d6_205) rfl (l' := #[oR fi, oI 0, oD X_, oS, oD X_, oS, oI ((1 : Int32) + (1 : Int32)), oI 1, oU, oU, oU, oU, oU, oU]) rfl k) ?_
  show own_Go _ _ _ _ Tz173 (mkF m 208 #[oR fi, oI 0, oD X_, oS, oD X_, oS, oI ((1 : Int32) + (1 : Int32)), oI 1, oU, oU, oU, oU, oU, oU] [])
  refine own_go (fun _ k => XS.goto Xz173.here hx rfl (pc0 := 208) (pc' := 156) rfl (hb hby own_d6_208) (by decide) (by decide) k) ?_
  show own_Go _ _ _ _ Tz173 (mkF m 156 #[oR fi, oI 0, oD X_, oS, oD X_, oS, oI ((1 : Int32) + (1 : Int32)), oI 1, oU, oU, oU, oU, oU, oU] [])
  show own_Go _ _ _ _ Tz173 (mkF m 156 #[oR fi, oI 0, oD X_, oS, oD X_, oS, oI 2, oI 1, oU, oU, oU, oU, oU, oU] [])
  refine own_go (fun _ k => XS.iload Xz173.here hx rfl (hb hby own_d6_156) rfl k) ?_
  show own_Go _ _ _ _ Tz173 (mkF m 158 #[oR fi, oI 0, oD X_, oS, oD X_, oS, oI 2, oI 1, oU, oU, oU, oU, oU, oU] [(.int 2)])
  refine own_go (fun _ k => XS.aloadN Xz173.here hx rfl (hb hby own_d6_158) rfl rfl k) ?_
  show own_Go _ _ _ _ Tz173 (mkF m 159 #[oR fi, oI 0, oD X_, oS, oD X_, oS, oI 2, oI 1, oU, oU, oU, oU, oU, oU] [(.ref fi), (.int 2)])
  obtain ⟨Tz174, Xz174, ez174, stz174⟩ := getF Xz173 hx hZ hown (host := "") (Or.inl (hw _ (List.mem_of_getElem? (i := 72) rfl))) Via.refl ez173 F20 (g := (mkF m 159 #[oR fi, oI 0, oD X_, oS, oD X_, oS, oI 2, oI 1, oU, oU, oU, oU, oU, oU] [(.ref fi), (.int 2)])) rfl rfl (hb hby own_d6_159)
  refine own_go stz174 ?_
  show own_Go _ _ _ _ Tz174 (mkF m 162 #[oR fi, oI 0, oD X_, oS, oD X_, oS, oI 2, oI 1, oU, oU, oU, oU, oU, oU] [(.int 2), (.int 2)])
  refine own_go (fun _ k => XS.icmpYes Xz174.here hx rfl (pc0 := 162) (pc' := 211) rfl (hb hby own_d6_162) rfl (flt (by decide : ¬ ((2 : Int32) < (2 : Int32)))).2.1 (by decide) (by decide) k) ?_
  show own_Go _ _ _ _ Tz174 (mkF m 211 #[oR fi, oI 0, oD X_, oS, oD X_, oS, oI 2, oI 1, oU, oU, oU, oU, oU, oU] [])
  refine own_go (fun _ k => XS.aloadN Xz174.here hx rfl (hb hby own_d6_211) rfl rfl k) ?_
  show own_Go _ _ _ _ Tz174 (mkF m 212 #[oR fi, oI 0, oD X_, oS, oD X_, oS, oI 2, oI 1, oU, oU, oU, oU, oU, oU] [(.ref fi)])
  obtain ⟨Tz175, Xz175, ez175, stz175⟩ := getF Xz174 hx hZ hown (host := "") (Or.inl (hw _ (List.mem_of_getElem? (i := 61) rfl))) Via.refl ez174 F34 (g := (mkF m 212 #[oR fi, oI 0, oD X_, oS, oD X_, oS, oI 2, oI 1, oU, oU, oU, oU, oU, oU] [(.ref fi)])) rfl rfl (hb hby own_d6_212)
  refine own_go stz175 ?_
  show own_Go _ _ _ _ Tz175 (mkF m 215 #[oR fi, oI 0, oD X_, oS, oD X_, oS, oI 2, oI 1, oU, oU, oU, oU, oU, oU] [(.int ((1 : Int32) - (1 : Int32)))])
  refine own_go (fun _ k => XS.ifYes Xz175.here hx rfl (pc0 := 215) (pc' := 364) rfl (hb hby own_d6_215) rfl ((if0 _ _).trans (flt (by decide : ¬ ((0 : Int32) < ((1 : Int32) - (1 : Int32))))).2.2.2) (by decide) (by decide) k) ?_
  show own_Go _ _ _ _ Tz175 (mkF m 364 #[oR fi, oI 0, oD X_, oS, oD X_, oS, oI 2, oI 1, oU, oU, oU, oU, oU, oU] [])
  refine own_go (fun _ k => XS.iconst Xz175.here hx rfl (hb hby own_d6_364) k) ?_
  show own_Go _ _ _ _ Tz175 (mkF m 365 #[oR fi, oI 0, oD X_, oS, oD X_, oS, oI 2, oI 1, oU, oU, oU, oU, oU, oU] [(.int 0)])
  refine own_go (fun _ k => XS.istore Xz175.here hx rfl (hb hby own_d6_365) rfl (l' := #[oR fi, oI 0, oD X_, oS, oD X_, oS, oI 0, oI 1, oU, oU, oU, oU, oU, oU]) rfl k) ?_
  show own_Go _ _ _ _ Tz175 (mkF m 367 #[oR fi, oI 0, oD X_, oS, oD X_, oS, oI 0, oI 1, oU, oU, oU, oU, oU, oU] [])
  refine own_go (fun _ k => XS.iload Xz175.here hx rfl (hb hby own_d6_367) rfl k) ?_
  show own_Go _ _ _ _ Tz175 (mkF m 369 #[oR fi, oI 0, oD X_, oS, oD X_, oS, oI 0, oI 1, oU, oU, oU, oU, oU, oU] [(.int 0)])
  refine own_go (fun _ k => XS.aloadN Xz175.here hx rfl (hb hby own_d6_369) rfl rfl k) ?_
  show own_Go _ _ _ _ Tz175 (mkF m 370 #[oR fi, oI 0, oD X_, oS, oD X_, oS, oI 0, oI 1, oU, oU, oU, oU, oU, oU] [(.ref fi), (.int 0)])
  obtain ⟨Tz176, Xz176, ez176, stz176⟩ := getF Xz175 hx hZ hown (host := "") (Or.inl (hw _ (List.mem_of_getElem? (i := 72) rfl))) Via.refl ez175 F20 (g := (mkF m 370 #[oR fi, oI 0, oD X_, oS, oD X_, oS, oI 0, oI 1, oU, oU, oU, oU, oU, oU] [(.ref fi), (.int 0)])) rfl rfl (hb hby own_d6_370)
  refine own_go stz176 ?_
  show own_Go _ _ _ _ Tz176 (mkF m 373 #[oR fi, oI 0, oD X_, oS, oD X_, oS, oI 0, oI 1, oU, oU, oU, oU, oU, oU] [(.int 2), (.int 0)])
  refine own_go (fun _ k => XS.icmpNo Xz176.here hx rfl (hb hby own_d6_373) rfl (tlt (by decide : (0 : Int32) < (2 : Int32))).2.1 k) ?_
  show own_Go _ _ _ _ Tz176 (mkF m 376 #[oR fi, oI 0, oD X_, oS, oD X_, oS, oI 0, oI 1, oU, oU, oU, oU, oU, oU] [])
  refine own_go (fun _ k => XS.aloadN Xz176.here hx rfl (hb hby own_d6_376) rfl rfl k) ?_
  show own_Go _ _ _ _ Tz176 (mkF m 377 #[oR fi, oI 0, oD X_, oS, oD X_, oS, oI 0, oI 1, oU, oU, oU, oU, oU, oU] [(.ref fi)])
  obtain ⟨Tz177, Xz177, ez177, stz177⟩ := getF Xz176 hx hZ hown (host := "") (Or.inl (hw _ (List.mem_of_getElem? (i := 29) rfl))) Via.refl ez176 F22 (g := (mkF m 377 #[oR fi, oI 0, oD X_, oS, oD X_, oS, oI 0, oI 1, oU, oU, oU, oU, oU, oU] [(.ref fi)])) rfl rfl (hb hby own_d6_377)
  refine own_go stz177 ?_
  show own_Go _ _ _ _ Tz177 (mkF m 380 #[oR fi, oI 0, oD X_, oS, oD X_, oS, oI 0, oI 1, oU, oU, oU, oU, oU, oU] [(.ref fl)])
  refine own_go (fun _ k => XS.iload Xz177.here hx rfl (hb hby own_d6_380) rfl k) ?_
  show own_Go _ _ _ _ Tz177 (mkF m 382 #[oR fi, oI 0, oD X_, oS, oD X_, oS, oI 0, oI 1, oU, oU, oU, oU, oU, oU] [(.int 0), (.ref fl)])
  obtain ⟨clz178, Arz178, qz178, Sz178, Mz178, HHz178, Gz178⟩ := id V_fl
  have hinz178 : ¬ ((0 : Int32) < 0 ∨ clz178.slots.size ≤ ((0 : Int32)).toNatClampNeg) := inb_of Sz178 ⟨(by decide), (by decide)⟩
  have hatz178 : clz178.slots[((0 : Int32)).toNatClampNeg]? = some (.int 0) := HHz178.at hinz178 (rfl)
  refine own_go (fun _ k => Xz177.iaload hx (j := (0 : Int32)) (v := (.int 0)) (by rw [ez177]; exact Arz178.1) (State.isArrayOf_alike hZ.alike Arz178.2.1) Arz178.2.2 hinz178 hatz178 (g := (mkF m 382 #[oR fi, oI 0, oD X_, oS, oD X_, oS, oI 0, oI 1, oU, oU, oU, oU, oU, oU] [(.int 0), (.ref fl)])) rfl rfl (hb hby own_d6_382) _ k) ?_
  show own_Go _ _ _ _ Tz177 (mkF m 383 #[oR fi, oI 0, oD X_, oS, oD X_, oS, oI 0, oI 1, oU, oU, oU, oU, oU, oU] [(.int 0)])
  refine own_go (fun _ k => XS.istore Xz177.here hx rfl (hb hby own_d6_383) rfl (l' := #[oR fi, oI 0, oD X_, oS, oD X_, oS, oI 0, oI 0, oU, oU, oU, oU, oU, oU]) rfl k) ?_
  show own_Go _ _ _ _ Tz177 (mkF m 385 #[oR fi, oI 0, oD X_, oS, oD X_, oS, oI 0, oI 0, oU, oU, oU, oU, oU, oU] [])
  refine own_go (fun _ k => XS.aloadN Xz177.here hx rfl (hb hby own_d6_385) rfl rfl k) ?_
  show own_Go _ _ _ _ Tz177 (mkF m 386 #[oR fi, oI 0, oD X_, oS, oD X_, oS, oI 0, oI 0, oU, oU, oU, oU, oU, oU] [(.ref fi)])
  obtain ⟨Tz179, Xz179, ez179, stz179⟩ := getF Xz177 hx hZ hown (host := "") (Or.inl (hw _ (List.mem_of_getElem? (i := 39) rfl))) Via.refl ez177 F18 (g := (mkF m 386 #[oR fi, oI 0, oD X_, oS, oD X_, oS, oI 0, oI 0, oU, oU, oU, oU, oU, oU] [(.ref fi)])) rfl rfl (hb hby own_d6_386)
  refine own_go stz179 ?_
  show own_Go _ _ _ _ Tz179 (mkF m 389 #[oR fi, oI 0, oD X_, oS, oD X_, oS, oI 0, oI 0, oU, oU, oU, oU, oU, oU] [(.ref le)])
  refine own_go (fun _ k => own_getR Xz179 hx hZ hown (hw _ (List.mem_of_getElem? (i := 85) rfl)) ez179 F28 (g := (mkF m 389 #[oR fi, oI 0, oD X_, oS, oD X_, oS, oI 0, oI 0, oU, oU, oU, oU, oU, oU] [(.ref le)])) rfl rfl (hb hby own_d6_389) _ k) ?_
  show own_Go _ _ _ _ Tz179 (mkF m 392 #[oR fi, oI 0, oD X_, oS, oD X_, oS, oI 0, oI 0, oU, oU, oU, oU, oU, oU] [(.ref pe)])
  refine own_go (fun _ k => XS.iload Xz179.here hx rfl (hb hby own_d6_392) rfl k) ?_
  show own_Go _ _ _ _ Tz179 (mkF m 394 #[oR fi, oI 0, oD X_, oS, oD X_, oS, oI 0, oI 0, oU, oU, oU, oU, oU, oU] [(.int 0), (.ref pe)])
  refine own_go (fun _ k => XS.dconst0 Xz179.here hx rfl (hb hby own_d6_394) own_dc0 k) ?_
  show own_Go _ _ _ _ Tz179 (mkF m 395 #[oR fi, oI 0, oD X_, oS, oD X_, oS, oI 0, oI 0, oU, oU, oU, oU, oU, oU] [(.double 0), (.int 0), (.ref pe)])
  refine own_go (fun _ k => XS.aloadN Xz179.here hx rfl (hb hby own_d6_395) rfl rfl k) ?_
  show own_Go _ _ _ _ Tz179 (mkF m 396 #[oR fi, oI 0, oD X_, oS, oD X_, oS, oI 0, oI 0, oU, oU, oU, oU, oU, oU] [(.ref fi), (.double 0), (.int 0), (.ref pe)])
  obtain ⟨Tz181, Xz181, ez181, stz181⟩ := getF Xz179 hx hZ hown (host := "") (Or.inl (hw _ (List.mem_of_getElem? (i := 39) rfl))) Via.refl ez179 F18 (g := (mkF m 396 #[oR fi, oI 0, oD X_, oS, oD X_, oS, oI 0, oI 0, oU, oU, oU, oU, oU, oU] [(.ref fi), (.double 0), (.int 0), (.ref pe)])) rfl rfl (hb hby own_d6_396)
  refine own_go stz181 ?_
  show own_Go _ _ _ _ Tz181 (mkF m 399 #[oR fi, oI 0, oD X_, oS, oD X_, oS, oI 0, oI 0, oU, oU, oU, oU, oU, oU] [(.ref le), (.double 0), (.int 0), (.ref pe)])
  refine own_go (fun _ k => own_getR Xz181 hx hZ hown (hw _ (List.mem_of_getElem? (i := 85) rfl)) ez181 F28 (g := (mkF m 399 #[oR fi, oI 0, oD X_, oS, oD X_, oS, oI 0, oI 0, oU, oU, oU, oU, oU, oU] [(.ref le), (.double 0), (.int 0), (.ref pe)])) rfl rfl (hb hby own_d6_399) _ k) ?_
  show own_Go _ _ _ _ Tz181 (mkF m 402 #[oR fi, oI 0, oD X_, oS, oD X_, oS, oI 0, oI 0, oU, oU, oU, oU, oU, oU] [(.ref pe), (.double 0), (.int 0), (.ref pe)])
  refine own_go (fun _ k => XS.iload Xz181.here hx rfl (hb hby own_d6_402) rfl k) ?_
  show own_Go _ _ _ _ Tz181 (mkF m 404 #[oR fi, oI 0, oD X_, oS, oD X_, oS, oI 0, oI 0, oU, oU, oU, oU, oU, oU] [(.int 0), (.ref pe), (.double 0), (.int 0), (.ref pe)])
  obtain ⟨clz183, Arz183, qz183, Sz183, Mz183, HHz183, Gz183⟩ := id V_pe
  have hinz183 : ¬ ((0 : Int32) < 0 ∨ clz183.slots.size ≤ ((0 : Int32)).toNatClampNeg) := inb_of Sz183 ⟨(by decide), (by decide)⟩
  have hatz183 : clz183.slots[((0 : Int32)).toNatClampNeg]? = some (.double V0) := HHz183.at hinz183 (rfl)
  refine own_go (fun _ k => Xz181.daload hx (j := (0 : Int32)) (v := (.double V0)) (by rw [ez181]; exact Arz183.1) (State.isArrayOf_alike hZ.alike Arz183.2.1) Arz183.2.2 hinz183 hatz183 (g := (mkF m 404 #[oR fi, oI 0, oD X_, oS, oD X_, oS, oI 0, oI 0, oU, oU, oU, oU, oU, oU] [(.int 0), (.ref pe), (.double 0), (.int 0), (.ref pe)])) rfl rfl (hb hby own_d6_404) _ k) ?_
  show own_Go _ _ _ _ Tz181 (mkF m 405 #[oR fi, oI 0, oD X_, oS, oD X_, oS, oI 0, oI 0, oU, oU, oU, oU, oU, oU] [(.double V0), (.double 0), (.int 0), (.ref pe)])
  obtain ⟨Tz184, Xz184, ez184, stz184⟩ := natS Xz181 hx hZ hown (hw _ (List.mem_of_getElem? (i := 74) rfl)) (hw _ (List.mem_of_getElem? (i := 75) rfl)) (hw _ (List.mem_of_getElem? (i := 76) rfl)) (hw _ (List.mem_of_getElem? (i := 77) rfl)) (by decide) ez181 (W := 2) (F := fun a' => a' = #[.double 0, .double V0] ∧ NoNaN64 (0 : UInt64) ∧ NoNaN64 V0) (val := .double (Native.java_lang_Math.nans.pick64 true (0 : UInt64) V0)) (val' := .double V0) (fun hc => Jvm.Free.Fl.Abs.maxD_pays (0 : UInt64) V0 hc (by decide) (by decide)) (g := (mkF m 405 #[oR fi, oI 0, oD X_, oS, oD X_, oS, oI 0, oI 0, oU, oU, oU, oU, oU, oU] [(.double V0), (.double 0), (.int 0), (.ref pe)])) rfl (by rw [hml]; rfl) (argsL := [(.double 0), (.double V0)]) (rest := [(.int 0), (.ref pe)]) (lenOf own_pd1 rfl) rfl (by show 2 * 0 + _ ≤ _; exact Nat.le_of_eq rfl) (hb hby own_d6_405) (by decide) (by decide) ⟨rfl, own_nn0, hn0⟩ (congrArg Value.double hm0)
  refine own_go stz184 ?_
  show own_Go _ _ _ _ Tz184 (mkF m 408 #[oR fi, oI 0, oD X_, oS, oD X_, oS, oI 0, oI 0, oU, oU, oU, oU, oU, oU] [(.double V0), (.int 0), (.ref pe)])
  obtain ⟨clz185, Arz185, qz185, Sz185, Mz185, HHz185, Gz185⟩ := V_pe
  have hinz185 : ¬ ((0 : Int32) < 0 ∨ clz185.slots.size ≤ ((0 : Int32)).toNatClampNeg) := inb_of Sz185 ⟨(by decide), (by decide)⟩
  obtain ⟨Tz185, hz185, Xz185, ez185, Wz185, stz185⟩ := stD Xz184 hx hZ ez184 Arz185 (j := (0 : Int32)) hinz185 (g := (mkF m 408 #[oR fi, oI 0, oD X_, oS, oD X_, oS, oI 0, oI 0, oU, oU, oU, oU, oU, oU] [(.double V0), (.int 0), (.ref pe)])) rfl rfl (hb hby own_d6_408)
  refine own_go stz185 ?_
  have V_pe_ : Arv Z hz185 pe kpe .double (2 : Int32) [(.double V0), (.double V1)] (.double 0) := Arv.set Arz185 qz185 Sz185 Mz185 HHz185 Gz185 rfl Wz185 0 rfl (Nat.le_of_ble_eq_true rfl)
  have Nz185 := Fr.snoc Xz185 Nz173 g_pe
  have F4 := F4.other Wz185 (own_o1 lt_le_pe)
  have F14 := F14.other Wz185 (own_o1 lt_le_pe)
  have F8 := F8.other Wz185 (own_o1 lt_le_pe)
  have F28 := F28.other Wz185 (own_o1 lt_le_pe)
  have F24 := F24.other Wz185 (own_o1 lt_le_pe)
  have V_go := V_go.other Wz185 (Nat.ne_of_lt lt_go_pe)
  have V_in_ := V_in_.other Wz185 (Nat.ne_of_gt lt_pe_in_)
  have V_ou := V_ou.other Wz185 (Nat.ne_of_gt lt_pe_ou)
  have V_el := V_el.other Wz185 (Nat.ne_of_gt lt_pe_el)
  have V_ev := V_ev.other Wz185 (Nat.ne_of_gt lt_pe_ev)
  have V_st := V_st.other Wz185 (Nat.ne_of_gt lt_pe_st)
  have V_se := V_se.other Wz185 (Nat.ne_of_gt lt_pe_se)
  have K := K.wr Wz185 (Or.inl (List.mem_of_getElem? (i := 2) rfl))
  have V_jo := V_jo.other Wz185 (Nat.ne_of_lt lt_jo_pe)
  have E_fi := E_fi.wr Wz185
  have F22 := F22.other Wz185 (own_o2 lt_pe_fi)
  have F0 := F0.other Wz185 (own_o2 lt_pe_fi)
  have F2 := F2.other Wz185 (own_o2 lt_pe_fi)
  have F38 := F38.other Wz185 (own_o2 lt_pe_fi)
  have F36 := F36.other Wz185 (own_o2 lt_pe_fi)
  have F18 := F18.other Wz185 (own_o2 lt_pe_fi)
  have F12 := F12.other Wz185 (own_o2 lt_pe_fi)
  have F26 := F26.other Wz185 (own_o2 lt_pe_fi)
  have F40 := F40.other Wz185 (own_o2 lt_pe_fi)
  have F16 := F16.other Wz185 (own_o2 lt_pe_fi)
  have F20 := F20.other Wz185 (own_o2 lt_pe_fi)
  have F30 := F30.other Wz185 (own_o2 lt_pe_fi)
  have F32 := F32.other Wz185 (own_o2 lt_pe_fi)
  have V_fl := V_fl.other Wz185 (Nat.ne_of_gt lt_pe_fl)
  have V_li := V_li.other Wz185 (Nat.ne_of_gt lt_pe_li)
  have F10 := F10.other Wz185 (own_o2 lt_pe_fi)
  have F6 := F6.other Wz185 (own_o2 lt_pe_fi)
  have F34 := F34.other Wz185 (own_o2 lt_pe_fi)
  have V_pe := V_pe_
  show own_Go _ _ _ _ Tz185 (mkF m 409 #[oR fi, oI 0, oD X_, oS, oD X_, oS, oI 0, oI 0, oU, oU, oU, oU, oU, oU] [])
  refine own_go (fun _ k => XS.aloadN Xz185.here hx rfl (hb hby own_d6_409) rfl rfl k) ?_
  show own_Go _ _ _ _ Tz185 (mkF m 410 #[oR fi, oI 0, oD X_, oS, oD X_, oS, oI 0, oI 0, oU, oU, oU, oU, oU, oU] [(.ref fi)])
  refine own_go (fun _ k => XS.dup Xz185.here hx rfl (hb hby own_d6_410) rfl rfl k) ?_
  show own_Go _ _ _ _ Tz185 (mkF m 411 #[oR fi, oI 0, oD X_, oS, oD X_, oS, oI 0, oI 0, oU, oU, oU, oU, oU, oU] [(.ref fi), (.ref fi)])
  obtain ⟨Tz186, Xz186, ez186, stz186⟩ := getF Xz185 hx hZ hown (host := "") (Or.inl (hw _ (List.mem_of_getElem? (i := 68) rfl))) Via.refl ez185 F30 (g := (mkF m 411 #[oR fi, oI 0, oD X_, oS, oD X_, oS, oI 0, oI 0, oU, oU, oU, oU, oU, oU] [(.ref fi), (.ref fi)])) rfl rfl (hb hby own_d6_411)
  refine own_go stz186 ?_
  show own_Go _ _ _ _ Tz186 (mkF m 414 #[oR fi, oI 0, oD X_, oS, oD X_, oS, oI 0, oI 0, oU, oU, oU, oU, oU, oU] [(.double 0), (.ref fi)])
  refine own_go (fun _ k => XS.aloadN Xz186.here hx rfl (hb hby own_d6_414) rfl rfl k) ?_
  show own_Go _ _ _ _ Tz186 (mkF m 415 #[oR fi, oI 0, oD X_, oS, oD X_, oS, oI 0, oI 0, oU, oU, oU, oU, oU, oU] [(.ref fi), (.double 0), (.ref fi)])
  obtain ⟨Tz187, Xz187, ez187, stz187⟩ := getF Xz186 hx hZ hown (host := "") (Or.inl (hw _ (List.mem_of_getElem? (i := 39) rfl))) Via.refl ez186 F18 (g := (mkF m 415 #[oR fi, oI 0, oD X_, oS, oD X_, oS, oI 0, oI 0, oU, oU, oU, oU, oU, oU] [(.ref fi), (.double 0), (.ref fi)])) rfl rfl (hb hby own_d6_415)
  refine own_go stz187 ?_
  show own_Go _ _ _ _ Tz187 (mkF m 418 #[oR fi, oI 0, oD X_, oS, oD X_, oS, oI 0, oI 0, oU, oU, oU, oU, oU, oU] [(.ref le), (.double 0), (.ref fi)])
  refine own_go (fun _ k => own_getR Xz187 hx hZ hown (hw _ (List.mem_of_getElem? (i := 85) rfl)) ez187 F28 (g := (mkF m 418 #[oR fi, oI 0, oD X_, oS, oD X_, oS, oI 0, oI 0, oU, oU, oU, oU, oU, oU] [(.ref le), (.double 0), (.ref fi)])) rfl rfl (hb hby own_d6_418) _ k) ?_
  show own_Go _ _ _ _ Tz187 (mkF m 421 #[oR fi, oI 0, oD X_, oS, oD X_, oS, oI 0, oI 0, oU, oU, oU, oU, oU, oU] [(.ref pe), (.double 0), (.ref fi)])
  refine own_go (fun _ k => XS.iload Xz187.here hx rfl (hb hby own_d6_421) rfl k) ?_
  show own_Go _ _ _ _ Tz187 (mkF m 423 #[oR fi, oI 0, oD X_, oS, oD X_, oS, oI 0, oI 0, oU, oU, oU, oU, oU, oU] [(.int 0), (.ref pe), (.double 0), (.ref fi)])
  obtain ⟨clz189, Arz189, qz189, Sz189, Mz189, HHz189, Gz189⟩ := id V_pe
  have hinz189 : ¬ ((0 : Int32) < 0 ∨ clz189.slots.size ≤ ((0 : Int32)).toNatClampNeg) := inb_of Sz189 ⟨(by decide), (by decide)⟩
  have hatz189 : clz189.slots[((0 : Int32)).toNatClampNeg]? = some (.double V0) := HHz189.at hinz189 (rfl)
  refine own_go (fun _ k => Xz187.daload hx (j := (0 : Int32)) (v := (.double V0)) (by rw [ez187]; exact Arz189.1) (State.isArrayOf_alike hZ.alike Arz189.2.1) Arz189.2.2 hinz189 hatz189 (g := (mkF m 423 #[oR fi, oI 0, oD X_, oS, oD X_, oS, oI 0, oI 0, oU, oU, oU, oU, oU, oU] [(.int 0), (.ref pe), (.double 0), (.ref fi)])) rfl rfl (hb hby own_d6_423) _ k) ?_
  show own_Go _ _ _ _ Tz187 (mkF m 424 #[oR fi, oI 0, oD X_, oS, oD X_, oS, oI 0, oI 0, oU, oU, oU, oU, oU, oU] [(.double V0), (.double 0), (.ref fi)])
  refine own_go (fun _ k => XS.daddS Xz187.here hx rfl (hb hby own_d6_424) rfl (by rw [ha0]; exact hn0) ha0 k) ?_
  show own_Go _ _ _ _ Tz187 (mkF m 425 #[oR fi, oI 0, oD X_, oS, oD X_, oS, oI 0, oI 0, oU, oU, oU, oU, oU, oU] [(.double V0), (.ref fi)])
  obtain ⟨Tz190, hz190, Xz190, ez190, Wz190, stz190⟩ := putF Xz187 hx hZ hown (host := "") (Or.inl (hw _ (List.mem_of_getElem? (i := 68) rfl))) Via.refl ez187 F30 E_fi (Or.inl (hw _ (List.mem_of_getElem? (i := 69) rfl))) (hw _ (List.mem_of_getElem? (i := 23) rfl)) (ty := .double) (by decide) rfl rfl (g := (mkF m 425 #[oR fi, oI 0, oD X_, oS, oD X_, oS, oI 0, oI 0, oU, oU, oU, oU, oU, oU] [(.double V0), (.ref fi)])) rfl rfl (hb hby own_d6_425)
  refine own_go stz190 ?_
  have Nz190 := Fr.snoc Xz190 Nz185 g_fi
  have F31 := F30.same Wz190
  have F4 := F4.other Wz190 (own_o1 lt_le_fi)
  have F14 := F14.other Wz190 (own_o1 lt_le_fi)
  have F8 := F8.other Wz190 (own_o1 lt_le_fi)
  have F28 := F28.other Wz190 (own_o1 lt_le_fi)
  have F24 := F24.other Wz190 (own_o1 lt_le_fi)
  have V_go := V_go.other Wz190 (Nat.ne_of_lt lt_go_fi)
  have V_in_ := V_in_.other Wz190 (Nat.ne_of_gt lt_fi_in_)
  have V_ou := V_ou.other Wz190 (Nat.ne_of_gt lt_fi_ou)
  have V_el := V_el.other Wz190 (Nat.ne_of_gt lt_fi_el)
  have V_ev := V_ev.other Wz190 (Nat.ne_of_gt lt_fi_ev)
  have V_st := V_st.other Wz190 (Nat.ne_of_gt lt_fi_st)
  have V_se := V_se.other Wz190 (Nat.ne_of_gt lt_fi_se)
  have K := K.wr Wz190 (Or.inl (List.mem_of_getElem? (i := 0) rfl))
  have V_jo := V_jo.other Wz190 (Nat.ne_of_lt lt_jo_fi)
  have E_fi := E_fi.wr Wz190
  have F22 := F22.other Wz190 (own_sl hw 30 69 (Or.inl rfl) (Or.inl rfl) (by decide))
  have F0 := F0.other Wz190 (own_sl hw 32 69 (Or.inl rfl) (Or.inl rfl) (by decide))
  have F2 := F2.other Wz190 (own_sl hw 34 69 (Or.inl rfl) (Or.inl rfl) (by decide))
  have F38 := F38.other Wz190 (own_sl hw 36 69 (Or.inl rfl) (Or.inl rfl) (by decide))
  have F36 := F36.other Wz190 (own_sl hw 38 69 (Or.inl rfl) (Or.inl rfl) (by decide))
  have F18 := F18.other Wz190 (own_sl hw 40 69 (Or.inr rfl) (Or.inl rfl) (by decide))
  have F12 := F12.other Wz190 (own_sl hw 42 69 (Or.inr rfl) (Or.inl rfl) (by decide))
  have F26 := F26.other Wz190 (own_sl hw 44 69 (Or.inr rfl) (Or.inl rfl) (by decide))
  have F40 := F40.other Wz190 (own_sl hw 51 69 (Or.inl rfl) (Or.inl rfl) (by decide))
  have F16 := F16.other Wz190 (own_sl hw 58 69 (Or.inl rfl) (Or.inl rfl) (by decide))
  have F20 := F20.other Wz190 (own_sl hw 73 69 (Or.inl rfl) (Or.inl rfl) (by decide))
  have F32 := F32.other Wz190 (own_sl hw 71 69 (Or.inl rfl) (Or.inl rfl) (by decide))
  have V_fl := V_fl.other Wz190 (Nat.ne_of_gt lt_fi_fl)
  have V_li := V_li.other Wz190 (Nat.ne_of_lt lt_li_fi)
  have F10 := F10.other Wz190 (own_sl hw 79 69 (Or.inl rfl) (Or.inl rfl) (by decide))
  have F6 := F6.other Wz190 (own_sl hw 60 69 (Or.inl rfl) (Or.inl rfl) (by decide))
  have F34 := F34.other Wz190 (own_sl hw 62 69 (Or.inl rfl) (Or.inl rfl) (by decide))
  have V_pe := V_pe.other Wz190 (Nat.ne_of_lt lt_pe_fi)
  have F30 := F31
  show own_Go _ _ _ _ Tz190 (mkF m 428 #[oR fi, oI 0, oD X_, oS, oD X_, oS, oI 0, oI 0, oU, oU, oU, oU, oU, oU] [])
  refine own_go (fun _ k => XS.iinc Xz190.here hx rfl (hb hby own_d6_428) rfl (l' := #[oR fi, oI 0, oD X_, oS, oD X_, oS, oI ((0 : Int32) + (1 : Int32)), oI 0, oU, oU, oU, oU, oU, oU]) rfl k) ?_
  show own_Go _ _ _ _ Tz190 (mkF m 431 #[oR fi, oI 0, oD X_, oS, oD X_, oS, oI ((0 : Int32) + (1 : Int32)), oI 0, oU, oU, oU, oU, oU, oU] [])
  refine own_go (fun _ k => XS.goto Xz190.here hx rfl (pc0 := 431) (pc' := 367) rfl (hb hby own_d6_431) (by decide) (by decide) k) ?_
  show own_Go _ _ _ _ Tz190 (mkF m 367 #[oR fi, oI 0, oD X_, oS, oD X_, oS, oI ((0 : Int32) + (1 : Int32)), oI 0, oU, oU, oU, oU, oU, oU] [])
  show own_Go _ _ _ _ Tz190 (mkF m 367 #[oR fi, oI 0, oD X_, oS, oD X_, oS, oI 1, oI 0, oU, oU, oU, oU, oU, oU] [])
  refine own_go (fun _ k => XS.iload Xz190.here hx rfl (hb hby own_d6_367) rfl k) ?_
  show own_Go _ _ _ _ Tz190 (mkF m 369 #[oR fi, oI 0, oD X_, oS, oD X_, oS, oI 1, oI 0, oU, oU, oU, oU, oU, oU] [(.int 1)])
  refine own_go (fun _ k => XS.aloadN Xz190.here hx rfl (hb hby own_d6_369) rfl rfl k) ?_
  show own_Go _ _ _ _ Tz190 (mkF m 370 #[oR fi, oI 0, oD X_, oS, oD X_, oS, oI 1, oI 0, oU, oU, oU, oU, oU, oU] [(.ref fi), (.int 1)])
  obtain ⟨Tz191, Xz191, ez191, stz191⟩ := getF Xz190 hx hZ hown (host := "") (Or.inl (hw _ (List.mem_of_getElem? (i := 72) rfl))) Via.refl ez190 F20 (g := (mkF m 370 #[oR fi, oI 0, oD X_, oS, oD X_, oS, oI 1, oI 0, oU, oU, oU, oU, oU, oU] [(.ref fi), (.int 1)])) rfl rfl (hb hby own_d6_370)
  refine own_go stz191 ?_
  show own_Go _ _ _ _ Tz191 (mkF m 373 #[oR fi, oI 0, oD X_, oS, oD X_, oS, oI 1, oI 0, oU, oU, oU, oU, oU, oU] [(.int 2), (.int 1)])
  refine own_go (fun _ k => XS.icmpNo Xz191.here hx rfl (hb hby own_d6_373) rfl (tlt (by decide : (1 : Int32) < (2 : Int32))).2.1 k) ?_
  show own_Go _ _ _ _ Tz191 (mkF m 376 #[oR fi, oI 0, oD X_, oS, oD X_, oS, oI 1, oI 0, oU, oU, oU, oU, oU, oU] [])
  refine own_go (fun _ k => XS.aloadN Xz191.here hx rfl (hb hby own_d6_376) rfl rfl k) ?_
  show own_Go _ _ _ _ Tz191 (mkF m 377 #[oR fi, oI 0, oD X_, oS, oD X_, oS, oI 1, oI 0, oU, oU, oU, oU, oU, oU] [(.ref fi)])
  obtain ⟨Tz192, Xz192, ez192, stz192⟩ := getF Xz191 hx hZ hown (host := "") (Or.inl (hw _ (List.mem_of_getElem? (i := 29) rfl))) Via.refl ez191 F22 (g := (mkF m 377 #[oR fi, oI 0, oD X_, oS, oD X_, oS, oI 1, oI 0, oU, oU, oU, oU, oU, oU] [(.ref fi)])) rfl rfl (hb hby own_d6_377)
  refine own_go stz192 ?_
  show own_Go _ _ _ _ Tz192 (mkF m 380 #[oR fi, oI 0, oD X_, oS, oD X_, oS, oI 1, oI 0, oU, oU, oU, oU, oU, oU] [(.ref fl)])
  refine own_go (fun _ k => XS.iload Xz192.here hx rfl (hb hby own_d6_380) rfl k) ?_
  show own_Go _ _ _ _ Tz192 (mkF m 382 #[oR fi, oI 0, oD X_, oS, oD X_, oS, oI 1, oI 0, oU, oU, oU, oU, oU, oU] [(.int 1), (.ref fl)])
  obtain ⟨clz193, Arz193, qz193, Sz193, Mz193, HHz193, Gz193⟩ := id V_fl
  have hinz193 : ¬ ((1 : Int32) < 0 ∨ clz193.slots.size ≤ ((1 : Int32)).toNatClampNeg) := inb_of Sz193 ⟨(by decide), (by decide)⟩
  have hatz193 : clz193.slots[((1 : Int32)).toNatClampNeg]? = some (.int 1) := HHz193.at hinz193 (rfl)
  refine own_go (fun _ k => Xz192.iaload hx (j := (1 : Int32)) (v := (.int 1)) (by rw [ez192]; exact Arz193.1) (State.isArrayOf_alike hZ.alike Arz193.2.1) Arz193.2.2 hinz193 hatz193 (g := (mkF m 382 #[oR fi, oI 0, oD X_, oS, oD X_, oS, oI 1, oI 0, oU, oU, oU, oU, oU, oU] [(.int 1), (.ref fl)])) rfl rfl (hb hby own_d6_382) _ k) ?_
  show own_Go _ _ _ _ Tz192 (mkF m 383 #[oR fi, oI 0, oD X_, oS, oD X_, oS, oI 1, oI 0, oU, oU, oU, oU, oU, oU] [(.int 1)])
  refine own_go (fun _ k => XS.istore Xz192.here hx rfl (hb hby own_d6_383) rfl (l' := #[oR fi, oI 0, oD X_, oS, oD X_, oS, oI 1, oI 1, oU, oU, oU, oU, oU, oU]) rfl k) ?_
  show own_Go _ _ _ _ Tz192 (mkF m 385 #[oR fi, oI 0, oD X_, oS, oD X_, oS, oI 1, oI 1, oU, oU, oU, oU, oU, oU] [])
  refine own_go (fun _ k => XS.aloadN Xz192.here hx rfl (hb hby own_d6_385) rfl rfl k) ?_
  show own_Go _ _ _ _ Tz192 (mkF m 386 #[oR fi, oI 0, oD X_, oS, oD X_, oS, oI 1, oI 1, oU, oU, oU, oU, oU, oU] [(.ref fi)])
  obtain ⟨Tz194, Xz194, ez194, stz194⟩ := getF Xz192 hx hZ hown (host := "") (Or.inl (hw _ (List.mem_of_getElem? (i := 39) rfl))) Via.refl ez192 F18 (g := (mkF m 386 #[oR fi, oI 0, oD X_, oS, oD X_, oS, oI 1, oI 1, oU, oU, oU, oU, oU, oU] [(.ref fi)])) rfl rfl (hb hby own_d6_386)
  refine own_go stz194 ?_
  show own_Go _ _ _ _ Tz194 (mkF m 389 #[oR fi, oI 0, oD X_, oS, oD X_, oS, oI 1, oI 1, oU, oU, oU, oU, oU, oU] [(.ref le)])
  refine own_go (fun _ k => own_getR Xz194 hx hZ hown (hw _ (List.mem_of_getElem? (i := 85) rfl)) ez194 F28 (g := (mkF m 389 #[oR fi, oI 0, oD X_, oS, oD X_, oS, oI 1, oI 1, oU, oU, oU, oU, oU, oU] [(.ref le)])) rfl rfl (hb hby own_d6_389) _ k) ?_
  show own_Go _ _ _ _ Tz194 (mkF m 392 #[oR fi, oI 0, oD X_, oS, oD X_, oS, oI 1, oI 1, oU, oU, oU, oU, oU, oU] [(.ref pe)])
  refine own_go (fun _ k => XS.iload Xz194.here hx rfl (hb hby own_d6_392) rfl k) ?_
  show own_Go _ _ _ _ Tz194 (mkF m 394 #[oR fi, oI 0, oD X_, oS, oD X_, oS, oI 1, oI 1, oU, oU, oU, oU, oU, oU] [(.int 1), (.ref pe)])
  refine own_go (fun _ k => XS.dconst0 Xz194.here hx rfl (hb hby own_d6_394) own_dc0 k) ?_
  show own_Go _ _ _ _ Tz194 (mkF m 395 #[oR fi, oI 0, oD X_, oS, oD X_, oS, oI 1, oI 1, oU, oU, oU, oU, oU, oU] [(.double 0), (.int 1), (.ref pe)])
  refine own_go (fun _ k => XS.aloadN Xz194.here hx rfl (hb hby own_d6_395) rfl rfl k) ?_
  show own_Go _ _ _ _ Tz194 (mkF m 396 #[oR fi, oI 0, oD X_, oS, oD X_, oS, oI 1, oI 1, oU, oU, oU, oU, oU, oU] [(.ref fi), (.double 0), (.int 1), (.ref pe)])
  obtain ⟨Tz196, Xz196, ez196, stz196⟩ := getF Xz194 hx hZ hown (host := "") (Or.inl (hw _ (List.mem_of_getElem? (i := 39) rfl))) Via.refl ez194 F18 (g := (mkF m 396 #[oR fi, oI 0, oD X_, oS, oD X_, oS, oI 1, oI 1, oU, oU, oU, oU, oU, oU] [(.ref fi), (.double 0), (.int 1), (.ref pe)])) rfl rfl (hb hby own_d6_396)
  refine own_go stz196 ?_
  show own_Go _ _ _ _ Tz196 (mkF m 399 #[oR fi, oI 0, oD X_, oS, oD X_, oS, oI 1, oI 1, oU, oU, oU, oU, oU, oU] [(.ref le), (.double 0), (.int 1), (.ref pe)])
  refine own_go (fun _ k => own_getR Xz196 hx hZ hown (hw _ (List.mem_of_getElem? (i := 85) rfl)) ez196 F28 (g := (mkF m 399 #[oR fi, oI 0, oD X_, oS, oD X_, oS, oI 1, oI 1, oU, oU, oU, oU, oU, oU] [(.ref le), (.double 0), (.int 1), (.ref pe)])) rfl rfl (hb hby own_d6_399) _ k) ?_
  show own_Go _ _ _ _ Tz196 (mkF m 402 #[oR fi, oI 0, oD X_, oS, oD X_, oS, oI 1, oI 1, oU, oU, oU, oU, oU, oU] [(.ref pe), (.double 0), (.int 1), (.ref pe)])
  refine own_go (fun _ k => XS.iload Xz196.here hx rfl (hb hby own_d6_402) rfl k) ?_
  show own_Go _ _ _ _ Tz196 (mkF m 404 #[oR fi, oI 0, oD X_, oS, oD X_, oS, oI 1, oI 1, oU, oU, oU, oU, oU, oU] [(.int 1), (.ref pe), (.double 0), (.int 1), (.ref pe)])
  obtain ⟨clz198, Arz198, qz198, Sz198, Mz198, HHz198, Gz198⟩ := id V_pe
  have hinz198 : ¬ ((1 : Int32) < 0 ∨ clz198.slots.size ≤ ((1 : Int32)).toNatClampNeg) := inb_of Sz198 ⟨(by decide), (by decide)⟩
  have hatz198 : clz198.slots[((1 : Int32)).toNatClampNeg]? = some (.double V1) := HHz198.at hinz198 (rfl)
  refine own_go (fun _ k => Xz196.daload hx (j := (1 : Int32)) (v := (.double V1)) (by rw [ez196]; exact Arz198.1) (State.isArrayOf_alike hZ.alike Arz198.2.1) Arz198.2.2 hinz198 hatz198 (g := (mkF m 404 #[oR fi, oI 0, oD X_, oS, oD X_, oS, oI 1, oI 1, oU, oU, oU, oU, oU, oU] [(.int 1), (.ref pe), (.double 0), (.int 1), (.ref pe)])) rfl rfl (hb hby own_d6_404) _ k) ?_
  show own_Go _ _ _ _ Tz196 (mkF m 405 #[oR fi, oI 0, oD X_, oS, oD X_, oS, oI 1, oI 1, oU, oU, oU, oU, oU, oU] [(.double V1), (.double 0), (.int 1), (.ref pe)])
  obtain ⟨Tz199, Xz199, ez199, stz199⟩ := natS Xz196 hx hZ hown (hw _ (List.mem_of_getElem? (i := 74) rfl)) (hw _ (List.mem_of_getElem? (i := 75) rfl)) (hw _ (List.mem_of_getElem? (i := 76) rfl)) (hw _ (List.mem_of_getElem? (i := 77) rfl)) (by decide) ez196 (W := 2) (F := fun a' => a' = #[.double 0, .double V1] ∧ NoNaN64 (0 : UInt64) ∧ NoNaN64 V1) (val := .double (Native.java_lang_Math.nans.pick64 true (0 : UInt64) V1)) (val' := .double V1) (fun hc => Jvm.Free.Fl.Abs.maxD_pays (0 : UInt64) V1 hc (by decide) (by decide)) (g := (mkF m 405 #[oR fi, oI 0, oD X_, oS, oD X_, oS, oI 1, oI 1, oU, oU, oU, oU, oU, oU] [(.double V1), (.double 0), (.int 1), (.ref pe)])) rfl (by rw [hml]; rfl) (argsL := [(.double 0), (.double V1)]) (rest := [(.int 1), (.ref pe)]) (lenOf own_pd1 rfl) rfl (by show 2 * 0 + _ ≤ _; exact Nat.le_of_eq rfl) (hb hby own_d6_405) (by decide) (by decide) ⟨rfl, own_nn0, hn1⟩ (congrArg Value.double hm1)
  refine own_go stz199 ?_
  show own_Go _ _ _ _ Tz199 (mkF m 408 #[oR fi, oI 0, oD X_, oS, oD X_, oS, oI 1, oI 1, oU, oU, oU, oU, oU, oU] [(.double V1), (.int 1), (.ref pe)])
  obtain ⟨clz200, Arz200, qz200, Sz200, Mz200, HHz200, Gz200⟩ := V_pe
  have hinz200 : ¬ ((1 : Int32) < 0 ∨ clz200.slots.size ≤ ((1 : Int32)).toNatClampNeg) := inb_of Sz200 ⟨(by decide), (by decide)⟩
  obtain ⟨Tz200, hz200, Xz200, ez200, Wz200, stz200⟩ := stD Xz199 hx hZ ez199 Arz200 (j := (1 : Int32)) hinz200 (g := (mkF m 408 #[oR fi, oI 0, oD X_, oS, oD X_, oS, oI 1, oI 1, oU, oU, oU, oU, oU, oU] [(.double V1), (.int 1), (.ref pe)])) rfl rfl (hb hby own_d6_408)
  refine own_go stz200 ?_
  have V_pe_ : Arv Z hz200 pe kpe .double (2 : Int32) [(.double V0), (.double V1)] (.double 0) := Arv.set Arz200 qz200 Sz200 Mz200 HHz200 Gz200 rfl Wz200 1 rfl (Nat.le_of_ble_eq_true rfl)
  have Nz200 := Fr.snoc Xz200 Nz190 g_pe
  have F4 := F4.other Wz200 (own_o1 lt_le_pe)
  have F14 := F14.other Wz200 (own_o1 lt_le_pe)
  have F8 := F8.other Wz200 (own_o1 lt_le_pe)
  have F28 := F28.other Wz200 (own_o1 lt_le_pe)
  have F24 := F24.other Wz200 (own_o1 lt_le_pe)
  have V_go := V_go.other Wz200 (Nat.ne_of_lt lt_go_pe)
  have V_in_ := V_in_.other Wz200 (Nat.ne_of_gt lt_pe_in_)
  have V_ou := V_ou.other Wz200 (Nat.ne_of_gt lt_pe_ou)
  have V_el := V_el.other Wz200 (Nat.ne_of_gt lt_pe_el)
  have V_ev := V_ev.other Wz200 (Nat.ne_of_gt lt_pe_ev)
  have V_st := V_st.other Wz200 (Nat.ne_of_gt lt_pe_st)
  have V_se := V_se.other Wz200 (Nat.ne_of_gt lt_pe_se)
  have K := K.wr Wz200 (Or.inl (List.mem_of_getElem? (i := 2) rfl))
  have V_jo := V_jo.other Wz200 (Nat.ne_of_lt lt_jo_pe)
  have E_fi := E_fi.wr Wz200
  have F22 := F22.other Wz200 (own_o2 lt_pe_fi)
  have F0 := F0.other Wz200 (own_o2 lt_pe_fi)
  have F2 := F2.other Wz200 (own_o2 lt_pe_fi)
  have F38 := F38.other Wz200 (own_o2 lt_pe_fi)
  have F36 := F36.other Wz200 (own_o2 lt_pe_fi)
  have F18 := F18.other Wz200 (own_o2 lt_pe_fi)
  have F12 := F12.other Wz200 (own_o2 lt_pe_fi)
  have F26 := F26.other Wz200 (own_o2 lt_pe_fi)
  have F40 := F40.other Wz200 (own_o2 lt_pe_fi)
  have F16 := F16.other Wz200 (own_o2 lt_pe_fi)
  have F20 := F20.other Wz200 (own_o2 lt_pe_fi)
  have F32 := F32.other Wz200 (own_o2 lt_pe_fi)
  have V_fl := V_fl.other Wz200 (Nat.ne_of_gt lt_pe_fl)
  have V_li := V_li.other Wz200 (Nat.ne_of_gt lt_pe_li)
  have F10 := F10.other Wz200 (own_o2 lt_pe_fi)
  have F6 := F6.other Wz200 (own_o2 lt_pe_fi)
  have F34 := F34.other Wz200 (own_o2 lt_pe_fi)
  have F30 := F30.other Wz200 (own_o2 lt_pe_fi)
  have V_pe := V_pe_
  show own_Go _ _ _ _ Tz200 (mkF m 409 #[oR fi, oI 0, oD X_, oS, oD X_, oS, oI 1, oI 1, oU, oU, oU, oU, oU, oU] [])
  refine own_go (fun _ k => XS.aloadN Xz200.here hx rfl (hb hby own_d6_409) rfl rfl k) ?_
  show own_Go _ _ _ _ Tz200 (mkF m 410 #[oR fi, oI 0, oD X_, oS, oD X_, oS, oI 1, oI 1, oU, oU, oU, oU, oU, oU] [(.ref fi)])
  refine own_go (fun _ k => XS.dup Xz200.here hx rfl (hb hby own_d6_410) rfl rfl k) ?_
  show own_Go _ _ _ _ Tz200 (mkF m 411 #[oR fi, oI 0, oD X_, oS, oD X_, oS, oI 1, oI 1, oU, oU, oU, oU, oU, oU] [(.ref fi), (.ref fi)])
  obtain ⟨Tz201, Xz201, ez201, stz201⟩ := getF Xz200 hx hZ hown (host := "") (Or.inl (hw _ (List.mem_of_getElem? (i := 68) rfl))) Via.refl ez200 F30 (g := (mkF m 411 #[oR fi, oI 0, oD X_, oS, oD X_, oS, oI 1, oI 1, oU, oU, oU, oU, oU, oU] [(.ref fi), (.ref fi)])) rfl rfl (hb hby own_d6_411)
  refine own_go stz201 ?_
  show own_Go _ _ _ _ Tz201 (mkF m 414 #[oR fi, oI 0, oD X_, oS, oD X_, oS, oI 1, oI 1, oU, oU, oU, oU, oU, oU] [(.double V0), (.ref fi)])
  refine own_go (fun _ k => XS.aloadN Xz201.here hx rfl (hb hby own_d6_414) rfl rfl k) ?_
  show own_Go _ _ _ _ Tz201 (mkF m 415 #[oR fi, oI 0, oD X_, oS, oD X_, oS, oI 1, oI 1, oU, oU, oU, oU, oU, oU] [(.ref fi), (.double V0), (.ref fi)])
  obtain ⟨Tz202, Xz202, ez202, stz202⟩ := getF Xz201 hx hZ hown (host := "") (Or.inl (hw _ (List.mem_of_getElem? (i := 39) rfl))) Via.refl ez201 F18 (g := (mkF m 415 #[oR fi, oI 0, oD X_, oS, oD X_, oS, oI 1, oI 1, oU, oU, oU, oU, oU, oU] [(.ref fi), (.double V0), (.ref fi)])) rfl rfl (hb hby own_d6_415)
  refine own_go stz202 ?_
  show own_Go _ _ _ _ Tz202 (mkF m 418 #[oR fi, oI 0, oD X_, oS, oD X_, oS, oI 1, oI 1, oU, oU, oU, oU, oU, oU] [(.ref le), (.double V0), (.ref fi)])
  refine own_go (fun _ k => own_getR Xz202 hx hZ hown (hw _ (List.mem_of_getElem? (i := 85) rfl)) ez202 F28 (g := (mkF m 418 #[oR fi, oI 0, oD X_, oS, oD X_, oS, oI 1, oI 1, oU, oU, oU, oU, oU, oU] [(.ref le), (.double V0), (.ref fi)])) rfl rfl (hb hby own_d6_418) _ k) ?_
  show own_Go _ _ _ _ Tz202 (mkF m 421 #[oR fi, oI 0, oD X_, oS, oD X_, oS, oI 1, oI 1, oU, oU, oU, oU, oU, oU] [(.ref pe), (.double V0), (.ref fi)])
  refine own_go (fun _ k => XS.iload Xz202.here hx rfl (hb hby own_d6_421) rfl k) ?_
  show own_Go _ _ _ _ Tz202 (mkF m 423 #[oR fi, oI 0, oD X_, oS, oD X_, oS, oI 1, oI 1, oU, oU, oU, oU, oU, oU] [(.int 1), (.ref pe), (.double V0), (.ref fi)])
  obtain ⟨clz204, Arz204, qz204, Sz204, Mz204, HHz204, Gz204⟩ := id V_pe
  have hinz204 : ¬ ((1 : Int32) < 0 ∨ clz204.slots.size ≤ ((1 : Int32)).toNatClampNeg) := inb_of Sz204 ⟨(by decide), (by decide)⟩
  have hatz204 : clz204.slots[((1 : Int32)).toNatClampNeg]? = some (.double V1) := HHz204.at hinz204 (rfl)
  refine own_go (fun _ k => Xz202.daload hx (j := (1 : Int32)) (v := (.double V1)) (by rw [ez202]; exact Arz204.1) (State.isArrayOf_alike hZ.alike Arz204.2.1) Arz204.2.2 hinz204 hatz204 (g := (mkF m 423 #[oR fi, oI 0, oD X_, oS, oD X_, oS, oI 1, oI 1, oU, oU, oU, oU, oU, oU] [(.int 1), (.ref pe), (.double V0), (.ref fi)])) rfl rfl (hb hby own_d6_423) _ k) ?_
  show own_Go _ _ _ _ Tz202 (mkF m 424 #[oR fi, oI 0, oD X_, oS, oD X_, oS, oI 1, oI 1, oU, oU, oU, oU, oU, oU] [(.double V1), (.double V0), (.ref fi)])
  refine own_go (fun _ k => XS.daddS Xz202.here hx rfl (hb hby own_d6_424) rfl (by rw [hs1]; exact own_nn16) hs1 k) ?_
  show own_Go _ _ _ _ Tz202 (mkF m 425 #[oR fi, oI 0, oD X_, oS, oD X_, oS, oI 1, oI 1, oU, oU, oU, oU, oU, oU] [(.double oC), (.ref fi)])
  obtain ⟨Tz205, hz205, Xz205, ez205, Wz205, stz205⟩ := putF Xz202 hx hZ hown (host := "") (Or.inl (hw _ (List.mem_of_getElem? (i := 68) rfl))) Via.refl ez202 F30 E_fi (Or.inl (hw _ (List.mem_of_getElem? (i := 69) rfl))) (hw _ (List.mem_of_getElem? (i := 23) rfl)) (ty := .double) (by decide) rfl rfl (g := (mkF m 425 #[oR fi, oI 0, oD X_, oS, oD X_, oS, oI 1, oI 1, oU, oU, oU, oU, oU, oU] [(.double oC), (.ref fi)])) rfl rfl (hb hby own_d6_425)
  refine own_go stz205 ?_
  have Nz205 := Fr.snoc Xz205 Nz200 g_fi
  have F31 := F30.same Wz205
  have F4 := F4.other Wz205 (own_o1 lt_le_fi)
  have F14 := F14.other Wz205 (own_o1 lt_le_fi)
  have F8 := F8.other Wz205 (own_o1 lt_le_fi)
  have F28 := F28.other Wz205 (own_o1 lt_le_fi)
  have F24 := F24.other Wz205 (own_o1 lt_le_fi)
  have V_go := V_go.other Wz205 (Nat.ne_of_lt lt_go_fi)
  have V_in_ := V_in_.other Wz205 (Nat.ne_of_gt lt_fi_in_)
  have V_ou := V_ou.other Wz205 (Nat.ne_of_gt lt_fi_ou)
  have V_el := V_el.other Wz205 (Nat.ne_of_gt lt_fi_el)
  have V_ev := V_ev.other Wz205 (Nat.ne_of_gt lt_fi_ev)
  have V_st := V_st.other Wz205 (Nat.ne_of_gt lt_fi_st)
  have V_se := V_se.other Wz205 (Nat.ne_of_gt lt_fi_se)
  have K := K.wr Wz205 (Or.inl (List.mem_of_getElem? (i := 0) rfl))
  have V_jo := V_jo.other Wz205 (Nat.ne_of_lt lt_jo_fi)
  have E_fi := E_fi.wr Wz205
  have F22 := F22.other Wz205 (own_sl hw 30 69 (Or.inl rfl) (Or.inl rfl) (by decide))
  have F0 := F0.other Wz205 (own_sl hw 32 69 (Or.inl rfl) (Or.inl rfl) (by decide))
  have F2 := F2.other Wz205 (own_sl hw 34 69 (Or.inl rfl) (Or.inl rfl) (by decide))
  have F38 := F38.other Wz205 (own_sl hw 36 69 (Or.inl rfl) (Or.inl rfl) (by decide))
  have F36 := F36.other Wz205 (own_sl hw 38 69 (Or.inl rfl) (Or.inl rfl) (by decide))
  have F18 := F18.other Wz205 (own_sl hw 40 69 (Or.inr rfl) (Or.inl rfl) (by decide))
  have F12 := F12.other Wz205 (own_sl hw 42 69 (Or.inr rfl) (Or.inl rfl) (by decide))
  have F26 := F26.other Wz205 (own_sl hw 44 69 (Or.inr rfl) (Or.inl rfl) (by decide))
  have F40 := F40.other Wz205 (own_sl hw 51 69 (Or.inl rfl) (Or.inl rfl) (by decide))
  have F16 := F16.other Wz205 (own_sl hw 58 69 (Or.inl rfl) (Or.inl rfl) (by decide))
  have F20 := F20.other Wz205 (own_sl hw 73 69 (Or.inl rfl) (Or.inl rfl) (by decide))
  have F32 := F32.other Wz205 (own_sl hw 71 69 (Or.inl rfl) (Or.inl rfl) (by decide))
  have V_fl := V_fl.other Wz205 (Nat.ne_of_gt lt_fi_fl)
  have V_li := V_li.other Wz205 (Nat.ne_of_lt lt_li_fi)
  have F10 := F10.other Wz205 (own_sl hw 79 69 (Or.inl rfl) (Or.inl rfl) (by decide))
  have F6 := F6.other Wz205 (own_sl hw 60 69 (Or.inl rfl) (Or.inl rfl) (by decide))
  have F34 := F34.other Wz205 (own_sl hw 62 69 (Or.inl rfl) (Or.inl rfl) (by decide))
  have V_pe := V_pe.other Wz205 (Nat.ne_of_lt lt_pe_fi)
  have F30 := F31
  show own_Go _ _ _ _ Tz205 (mkF m 428 #[oR fi, oI 0, oD X_, oS, oD X_, oS, oI 1, oI 1, oU, oU, oU, oU, oU, oU] [])
  refine own_go (fun _ k => XS.iinc Xz205.here hx rfl (hb hby own_d6_428) rfl (l' := #[oR fi, oI 0, oD X_, oS, oD X_, oS, oI ((1 : Int32) + (1 : Int32)), oI 1, oU, oU, oU, oU, oU, oU]) rfl k) ?_
  show own_Go _ _ _ _ Tz205 (mkF m 431 #[oR fi, oI 0, oD X_, oS, oD X_, oS, oI ((1 : Int32) + (1 : Int32)), oI 1, oU, oU, oU, oU, oU, oU] [])
  refine own_go (fun _ k => XS.goto Xz205.here hx rfl (pc0 := 431) (pc' := 367) rfl (hb hby own_d6_431) (by decide) (by decide) k) ?_
  show own_Go _ _ _ _ Tz205 (mkF m 367 #[oR fi, oI 0, oD X_, oS, oD X_, oS, oI ((1 : Int32) + (1 : Int32)), oI 1, oU, oU, oU, oU, oU, oU] [])
  show own_Go _ _ _ _ Tz205 (mkF m 367 #[oR fi, oI 0, oD X_, oS, oD X_, oS, oI 2, oI 1, oU, oU, oU, oU, oU, oU] [])
  refine own_go (fun _ k => XS.iload Xz205.here hx rfl (hb hby own_d6_367) rfl k) ?_
  show own_Go _ _ _ _ Tz205 (mkF m 369 #[oR fi, oI 0, oD X_, oS, oD X_, oS, oI 2, oI 1, oU, oU, oU, oU, oU, oU] [(.int 2)])
  refine own_go (fun _ k => XS.aloadN Xz205.here hx rfl (hb hby own_d6_369) rfl rfl k) ?_
  show own_Go _ _ _ _ Tz205 (mkF m 370 #[oR fi, oI 0, oD X_, oS, oD X_, oS, oI 2, oI 1, oU, oU, oU, oU, oU, oU] [(.ref fi), (.int 2)])
  obtain ⟨Tz206, Xz206, ez206, stz206⟩ := getF Xz205 hx hZ hown (host := "") (Or.inl (hw _ (List.mem_of_getElem? (i := 72) rfl))) Via.refl ez205 F20 (g := (mkF m 370 #[oR fi, oI 0, oD X_, oS, oD X_, oS, oI 2, oI 1, oU, oU, oU, oU, oU, oU] [(.ref fi), (.int 2)])) rfl rfl (hb hby own_d6_370)
  refine own_go stz206 ?_
  show own_Go _ _ _ _ Tz206 (mkF m 373 #[oR fi, oI 0, oD X_, oS, oD X_, oS, oI 2, oI 1, oU, oU, oU, oU, oU, oU] [(.int 2), (.int 2)])
  refine own_go (fun _ k => XS.icmpYes Xz206.here hx rfl (pc0 := 373) (pc' := 434) rfl (hb hby own_d6_373) rfl (flt (by decide : ¬ ((2 : Int32) < (2 : Int32)))).2.1 (by decide) (by decide) k) ?_
  show own_Go _ _ _ _ Tz206 (mkF m 434 #[oR fi, oI 0, oD X_, oS, oD X_, oS, oI 2, oI 1, oU, oU, oU, oU, oU, oU] [])
  refine own_go (fun _ k => XS.aloadN Xz206.here hx rfl (hb hby own_d6_434) rfl rfl k) ?_
  show own_Go _ _ _ _ Tz206 (mkF m 435 #[oR fi, oI 0, oD X_, oS, oD X_, oS, oI 2, oI 1, oU, oU, oU, oU, oU, oU] [(.ref fi)])
  refine own_go (fun _ k => XS.dloadN Xz206.here hx rfl (hb hby own_d6_435) rfl k) ?_
  show own_Go _ _ _ _ Tz206 (mkF m 436 #[oR fi, oI 0, oD X_, oS, oD X_, oS, oI 2, oI 1, oU, oU, oU, oU, oU, oU] [(.double X_), (.ref fi)])
  refine own_go (fun _ k => XS.aloadN Xz206.here hx rfl (hb hby own_d6_436) rfl rfl k) ?_
  show own_Go _ _ _ _ Tz206 (mkF m 437 #[oR fi, oI 0, oD X_, oS, oD X_, oS, oI 2, oI 1, oU, oU, oU, oU, oU, oU] [(.ref fi), (.double X_), (.ref fi)])
  obtain ⟨Tz207, Xz207, ez207, stz207⟩ := getF Xz206 hx hZ hown (host := "") (Or.inl (hw _ (List.mem_of_getElem? (i := 68) rfl))) Via.refl ez206 F30 (g := (mkF m 437 #[oR fi, oI 0, oD X_, oS, oD X_, oS, oI 2, oI 1, oU, oU, oU, oU, oU, oU] [(.ref fi), (.double X_), (.ref fi)])) rfl rfl (hb hby own_d6_437)
  refine own_go stz207 ?_
  show own_Go _ _ _ _ Tz207 (mkF m 440 #[oR fi, oI 0, oD X_, oS, oD X_, oS, oI 2, oI 1, oU, oU, oU, oU, oU, oU] [(.double oC), (.double X_), (.ref fi)])
  obtain ⟨Tz208, Xz208, ez208, stz208⟩ := natS Xz207 hx hZ hown (hw _ (List.mem_of_getElem? (i := 88) rfl)) (hw _ (List.mem_of_getElem? (i := 89) rfl)) (hw _ (List.mem_of_getElem? (i := 76) rfl)) (hw _ (List.mem_of_getElem? (i := 90) rfl)) (by decide) ez207 (W := 1) (F := fun a' => a' = #[.double X_, .double oC] ∧ NoNaN64 X_ ∧ NoNaN64 (4625196817309499392 : UInt64)) (val := .double (Native.java_lang_Math.nans.pick64 false X_ (4625196817309499392 : UInt64))) (val' := .double Ve) (fun hc => Jvm.Free.Fl.Abs.minD_pays X_ (4625196817309499392 : UInt64) hc (by decide) (by decide)) (g := (mkF m 440 #[oR fi, oI 0, oD X_, oS, oD X_, oS, oI 2, oI 1, oU, oU, oU, oU, oU, oU] [(.double oC), (.double X_), (.ref fi)])) rfl (by rw [hml]; rfl) (argsL := [(.double X_), (.double oC)]) (rest := [(.ref fi)]) (lenOf own_pd1 rfl) rfl (by show 2 * 0 + _ ≤ _; exact Nat.le_of_eq rfl) (hb hby own_d6_440) (by decide) (by decide) ⟨rfl, hnX, own_nn16⟩ (congrArg Value.double hv)
  refine own_go stz208 ?_
  show own_Go _ _ _ _ Tz208 (mkF m 443 #[oR fi, oI 0, oD X_, oS, oD X_, oS, oI 2, oI 1, oU, oU, oU, oU, oU, oU] [(.double Ve), (.ref fi)])
  obtain ⟨Tz209, hz209, Xz209, ez209, Wz209, stz209⟩ := putF Xz208 hx hZ hown (host := "") (Or.inl (hw _ (List.mem_of_getElem? (i := 70) rfl))) Via.refl ez208 F32 E_fi (Or.inl (hw _ (List.mem_of_getElem? (i := 71) rfl))) (hw _ (List.mem_of_getElem? (i := 23) rfl)) (ty := .double) (by decide) rfl rfl (g := (mkF m 443 #[oR fi, oI 0, oD X_, oS, oD X_, oS, oI 2, oI 1, oU, oU, oU, oU, oU, oU] [(.double Ve), (.ref fi)])) rfl rfl (hb hby own_d6_443)
  refine own_go stz209 ?_
  have Nz209 := Fr.snoc Xz209 Nz205 g_fi
  have F33 := F32.same Wz209
  have F4 := F4.other Wz209 (own_o1 lt_le_fi)
  have F14 := F14.other Wz209 (own_o1 lt_le_fi)
  have F8 := F8.other Wz209 (own_o1 lt_le_fi)
  have F28 := F28.other Wz209 (own_o1 lt_le_fi)
  have F24 := F24.other Wz209 (own_o1 lt_le_fi)
  have V_go := V_go.other Wz209 (Nat.ne_of_lt lt_go_fi)
  have V_in_ := V_in_.other Wz209 (Nat.ne_of_gt lt_fi_in_)
  have V_ou := V_ou.other Wz209 (Nat.ne_of_gt lt_fi_ou)
  have V_el := V_el.other Wz209 (Nat.ne_of_gt lt_fi_el)
  have V_ev := V_ev.other Wz209 (Nat.ne_of_gt lt_fi_ev)
  have V_st := V_st.other Wz209 (Nat.ne_of_gt lt_fi_st)
  have V_se := V_se.other Wz209 (Nat.ne_of_gt lt_fi_se)
  have K := K.wr Wz209 (Or.inl (List.mem_of_getElem? (i := 0) rfl))
  have V_jo := V_jo.other Wz209 (Nat.ne_of_lt lt_jo_fi)
  have E_fi := E_fi.wr Wz209
  have F22 := F22.other Wz209 (own_sl hw 30 71 (Or.inl rfl) (Or.inl rfl) (by decide))
  have F0 := F0.other Wz209 (own_sl hw 32 71 (Or.inl rfl) (Or.inl rfl) (by decide))
  have F2 := F2.other Wz209 (own_sl hw 34 71 (Or.inl rfl) (Or.inl rfl) (by decide))
  have F38 := F38.other Wz209 (own_sl hw 36 71 (Or.inl rfl) (Or.inl rfl) (by decide))
  have F36 := F36.other Wz209 (own_sl hw 38 71 (Or.inl rfl) (Or.inl rfl) (by decide))
  have F18 := F18.other Wz209 (own_sl hw 40 71 (Or.inr rfl) (Or.inl rfl) (by decide))
  have F12 := F12.other Wz209 (own_sl hw 42 71 (Or.inr rfl) (Or.inl rfl) (by decide))
  have F26 := F26.other Wz209 (own_sl hw 44 71 (Or.inr rfl) (Or.inl rfl) (by decide))
  have F40 := F40.other Wz209 (own_sl hw 51 71 (Or.inl rfl) (Or.inl rfl) (by decide))
  have F16 := F16.other Wz209 (own_sl hw 58 71 (Or.inl rfl) (Or.inl rfl) (by decide))
  have F20 := F20.other Wz209 (own_sl hw 73 71 (Or.inl rfl) (Or.inl rfl) (by decide))
  have V_fl := V_fl.other Wz209 (Nat.ne_of_gt lt_fi_fl)
  have V_li := V_li.other Wz209 (Nat.ne_of_lt lt_li_fi)
  have F10 := F10.other Wz209 (own_sl hw 79 71 (Or.inl rfl) (Or.inl rfl) (by decide))
  have F6 := F6.other Wz209 (own_sl hw 60 71 (Or.inl rfl) (Or.inl rfl) (by decide))
  have F34 := F34.other Wz209 (own_sl hw 62 71 (Or.inl rfl) (Or.inl rfl) (by decide))
  have V_pe := V_pe.other Wz209 (Nat.ne_of_lt lt_pe_fi)
  have F30 := F30.other Wz209 (own_sl hw 69 71 (Or.inl rfl) (Or.inl rfl) (by decide))
  have F32 := F33
  show own_Go _ _ _ _ Tz209 (mkF m 446 #[oR fi, oI 0, oD X_, oS, oD X_, oS, oI 2, oI 1, oU, oU, oU, oU, oU, oU] [])
  refine own_go (fun _ k => XS.aloadN Xz209.here hx rfl (hb hby own_d6_446) rfl rfl k) ?_
  show own_Go _ _ _ _ Tz209 (mkF m 447 #[oR fi, oI 0, oD X_, oS, oD X_, oS, oI 2, oI 1, oU, oU, oU, oU, oU, oU] [(.ref fi)])
  obtain ⟨Tz210, Xz210, ez210, stz210⟩ := getF Xz209 hx hZ hown (host := "") (Or.inl (hw _ (List.mem_of_getElem? (i := 70) rfl))) Via.refl ez209 F32 (g := (mkF m 447 #[oR fi, oI 0, oD X_, oS, oD X_, oS, oI 2, oI 1, oU, oU, oU, oU, oU, oU] [(.ref fi)])) rfl rfl (hb hby own_d6_447)
  refine own_go stz210 ?_
  show own_Go _ _ _ _ Tz210 (mkF m 450 #[oR fi, oI 0, oD X_, oS, oD X_, oS, oI 2, oI 1, oU, oU, oU, oU, oU, oU] [(.double Ve)])
  exact own_end Xz210 hlk (v := (some (.double Ve))) (fun h => by rw [hret] at h; cases h) (fun fs hr => retOut Xz210 hx hret rfl (Or.inr (Or.inr (Or.inl ⟨rfl, rfl, _, rfl⟩))) (hb hby own_d6_450) hr) (by rw [ez210]; exact ⟨rfl, Nz209, K, E_fi, F22, F0, F2, F38, F36, F18, F12, F26, F40, F16, F6, F34, F20, F10, F30, F32, F4, F14, F8, F28, F24, V_jo, V_go, V_pe, V_li, V_in_, V_ou, V_fl, V_el, V_ev, V_st, V_se⟩) (by decide) (by decide)
theorem own_efslD (m : MethodId) (fi : Addr) (pn : Int32) (X_ : UInt64) : entryFrame m #[(.ref fi), (.int pn), (.double X_)] 14 = mkF m 0 #[oR fi, oI pn, oD X_, oS, oU, oU, oU, oU, oU, oU, oU, oU, oU, oU] [] := by first | (simp [entryFrame, mkF, argsToLocals, Value.category]; done) | rfl
def own_QslD (Z : State) (le : Addr) (ex : Addr) (jo : Addr) (go : Addr) (pe : Addr) (li : Addr) (fi : Addr) (in_ : Addr) (ou : Addr) (fl : Addr) (el : Addr) (ev : Addr) (st : Addr) (se : Addr) (kex : ClassId) (kjo : ClassId) (kgo : ClassId) (kpe : ClassId) (kli : ClassId) (kin_ : ClassId) (kou : ClassId) (kfl : ClassId) (kel : ClassId) (kev : ClassId) (kst : ClassId) (kse : ClassId) (X_ : UInt64) (V0 : UInt64) (V1 : UInt64) (Ve : UInt64) (h0 : Heap) (n0 : Nat) (v : Option Value) (h : Heap) (L : List Loc) : Prop := v = some (.double Ve) ∧ Fr n0 L ∧ Keep h0 h [fi, jo, pe, li, fl] ∧ Exa Z h fi "com/example/spillback/spillback/Fifo" ∧ Fld Z h fi "com/example/spillback/spillback/Fifo" "listed" "[I" (.ref fl) ∧ Fld Z h fi "com/example/spillback/spillback/Fifo" "entryLegs" "[I" (.ref el) ∧ Fld Z h fi "com/example/spillback/spillback/Fifo" "entryVehicles" "[D" (.ref ev) ∧ Fld Z h fi "com/example/spillback/spillback/Fifo" "steps" "[I" (.ref st) ∧ Fld Z h fi "com/example/spillback/spillback/Fifo" "stepEnds" "[I" (.ref se) ∧ Fld Z h fi "com/example/spillback/spillback/Fifo" "legs" "Lcom/example/spillback/spillback/Fifo$Legs;" (.ref le) ∧ Fld Z h fi "com/example/spillback/spillback/Fifo" "in" "[D" (.ref in_) ∧ Fld Z h fi "com/example/spillback/spillback/Fifo" "out" "[D" (.ref ou) ∧ Fld Z h fi "com/example/spillback/spillback/Fifo" "tail" "I" (.int 2) ∧ Fld Z h fi "com/example/spillback/spillback/Fifo" "joiningStart" "I" (.int 2) ∧ Fld Z h fi "com/example/spillback/spillback/Fifo" "firstStep" "I" (.int 1) ∧ Fld Z h fi "com/example/spillback/spillback/Fifo" "stepCount" "I" (.int 0) ∧ Fld Z h fi "com/example/spillback/spillback/Fifo" "listedCount" "I" (.int 2) ∧ Fld Z h fi "com/example/spillback/spillback/Fifo" "head" "I" (.int 2) ∧ Fld Z h fi "com/example/spillback/spillback/Fifo" "sliceTotal" "D" (.double oC) ∧ Fld Z h fi "com/example/spillback/spillback/Fifo" "sliceVehicles" "D" (.double Ve) ∧ Fld Z h le "com/example/spillback/spillback/Fifo$Legs" "exits" "[I" (.ref ex) ∧ Fld Z h le "com/example/spillback/spillback/Fifo$Legs" "joined" "[D" (.ref jo) ∧ Fld Z h le "com/example/spillback/spillback/Fifo$Legs" "gone" "[D" (.ref go) ∧ Fld Z h le "com/example/spillback/spillback/Fifo$Legs" "pending" "[D" (.ref pe) ∧ Fld Z h le "com/example/spillback/spillback/Fifo$Legs" "listed" "[Z" (.ref li) ∧ Arv Z h jo kjo .double (2 : Int32) [(.double V0), (.double V1)] (.double 0) ∧ Arv Z h go kgo .double (2 : Int32) [(.double 0), (.double 0)] (.double 0) ∧ Arv Z h pe kpe .double (2 : Int32) [(.double V0), (.double V1)] (.double 0) ∧ Arv Z h li kli .boolean (2 : Int32) [(.int 1), (.int 1)] (.int 0) ∧ Arv Z h in_ kin_ .double (2 : Int32) [(.double 0), (.double oC)] (.double 0) ∧ Arv Z h ou kou .double (2 : Int32) [(.double 0), (.double 0)] (.double 0) ∧ Arv Z h fl kfl .int 4 [(.int 0), (.int 1)] (.int 0) ∧ Arv Z h el kel .int 16 [(.int 0), (.int 1)] (.int 0) ∧ Arv Z h ev kev .double (16 : Int32) [(.double V0), (.double V1)] (.double 0) ∧ Arv Z h st kst .int 16 [(.int 0)] (.int 0) ∧ Arv Z h se kse .int 16 [(.int 2)] (.int 0)
set_option maxRecDepth 65536 in
set_option maxHeartbeats 40000000 in
theorem own_rmslD (l : Launch) (Z : State) (a0 : Array Value) (hw : ∀ d ∈ tables_1, d.before a0 Z = true) (ws : List Jvm.Cond) (fi : Addr) (pn : Int32) (X_ : UInt64) (h0 : Heap) (n0 : Nat) (le ex jo go pe li in_ ou fl el ev st se : Addr) (kex kjo kgo kpe kli kin_ kou kfl kel kev kst kse : ClassId) (hc0 : n0 ≤ le) (hc1 : @LT.lt Nat _ le ex) (hc2 : @LT.lt Nat _ ex jo) (hc3 : @LT.lt Nat _ jo go) (hc4 : @LT.lt Nat _ go pe) (hc5 : @LT.lt Nat _ pe li) (hc6 : @LT.lt Nat _ li fi) (hc7 : @LT.lt Nat _ fi in_) (hc8 : @LT.lt Nat _ in_ ou) (hc9 : @LT.lt Nat _ ou fl) (hc10 : @LT.lt Nat _ fl el) (hc11 : @LT.lt Nat _ el ev) (hc12 : @LT.lt Nat _ ev st) (hc13 : @LT.lt Nat _ st se) (V0 V1 Ve tt tv : UInt64) (hp : pn = (0 : Int32)) (hx0 : (0 : Int32) < cmpValue (FP.dcmp X_ (0 : UInt64)) .l) (hU : FP.dadd (0 : UInt64) X_ = X_) (hnX : NoNaN64 X_) (hn0 : NoNaN64 V0) (hn1 : NoNaN64 V1) (ha0 : FP.dadd (0 : UInt64) V0 = V0) (ha1 : FP.dadd (0 : UInt64) V1 = V1) (hp0 : FP.dsub V0 (0 : UInt64) = V0) (hp1 : FP.dsub V1 (0 : UInt64) = V1) (hm0 : Native.java_lang_Math.nans.pick64 true (0 : UInt64) V0 = V0) (hm1 : Native.java_lang_Math.nans.pick64 true (0 : UInt64) V1 = V1) (hs1 : FP.dadd V0 V1 = (4625196817309499392 : UInt64)) (hv : Native.java_lang_Math.nans.pick64 false X_ (4625196817309499392 : UInt64) = Ve) (e0 e1 : Int32) (E_fi : Exa Z h0 fi "com/example/spillback/spillback/Fifo") (F22 : Fld Z h0 fi "com/example/spillback/spillback/Fifo" "listed" "[I" (.ref fl)) (F0 : Fld Z h0 fi "com/example/spillback/spillback/Fifo" "entryLegs" "[I" (.ref el)) (F2 : Fld Z h0 fi "com/example/spillback/spillback/Fifo" "entryVehicles" "[D" (.ref ev)) (F38 : Fld Z h0 fi "com/example/spillback/spillback/Fifo" "steps" "[I" (.ref st)) (F36 : Fld Z h0 fi "com/example/spillback/spillback/Fifo" "stepEnds" "[I" (.ref se)) (F18 : Fld Z h0 fi "com/example/spillback/spillback/Fifo" "legs" "Lcom/example/spillback/spillback/Fifo$Legs;" (.ref le)) (F12 : Fld Z h0 fi "com/example/spillback/spillback/Fifo" "in" "[D" (.ref in_)) (F26 : Fld Z h0 fi "com/example/spillback/spillback/Fifo" "out" "[D" (.ref ou)) (F40 : Fld Z h0 fi "com/example/spillback/spillback/Fifo" "tail" "I" (.int 2)) (F16 : Fld Z h0 fi "com/example/spillback/spillback/Fifo" "joiningStart" "I" (.int 2)) (F6 : Fld Z h0 fi "com/example/spillback/spillback/Fifo" "firstStep" "I" (.int 1)) (F34 : Fld Z h0 fi "com/example/spillback/spillback/Fifo" "stepCount" "I" (.int 0)) (F20 : Fld Z h0 fi "com/example/spillback/spillback/Fifo" "listedCount" "I" (.int 2)) (F10 : Fld Z h0 fi "com/example/spillback/spillback/Fifo" "head" "I" (.int 2)) (F30 : Fld Z h0 fi "com/example/spillback/spillback/Fifo" "sliceTotal" "D" (.double tt)) (F32 : Fld Z h0 fi "com/example/spillback/spillback/Fifo" "sliceVehicles" "D" (.double tv)) (F4 : Fld Z h0 le "com/example/spillback/spillback/Fifo$Legs" "exits" "[I" (.ref ex)) (F14 : Fld Z h0 le "com/example/spillback/spillback/Fifo$Legs" "joined" "[D" (.ref jo)) (F8 : Fld Z h0 le "com/example/spillback/spillback/Fifo$Legs" "gone" "[D" (.ref go)) (F28 : Fld Z h0 le "com/example/spillback/spillback/Fifo$Legs" "pending" "[D" (.ref pe)) (F24 : Fld Z h0 le "com/example/spillback/spillback/Fifo$Legs" "listed" "[Z" (.ref li)) (V_jo : Arv Z h0 jo kjo .double (2 : Int32) [(.double V0), (.double V1)] (.double 0)) (V_go : Arv Z h0 go kgo .double (2 : Int32) [(.double 0), (.double 0)] (.double 0)) (V_pe : Arv Z h0 pe kpe .double (2 : Int32) [(.double V0), (.double V1)] (.double 0)) (V_li : Arv Z h0 li kli .boolean (2 : Int32) [(.int 1), (.int 1)] (.int 0)) (V_in_ : Arv Z h0 in_ kin_ .double (2 : Int32) [(.double 0), (.double oC)] (.double 0)) (V_ou : Arv Z h0 ou kou .double (2 : Int32) [(.double 0), (.double 0)] (.double 0)) (V_fl : Arv Z h0 fl kfl .int 4 [(.int 0), (.int 1)] (.int 0)) (V_el : Arv Z h0 el kel .int 16 [(.int 0), (.int 1)] (.int 0)) (V_ev : Arv Z h0 ev kev .double (16 : Int32) [(.double V0), (.double V1)] (.double 0)) (V_st : Arv Z h0 st kst .int 16 [(.int 0)] (.int 0)) (V_se : Arv Z h0 se kse .int 16 [(.int 2)] (.int 0)) :
    own_Met l Z (⟨"com/example/spillback/spillback/Fifo", "slice", "(ID)D"⟩ : MethodName) prog_12_method_4_code 14 (some .double) ws ({ frames := 1, cells := 0, slots := 0, locals := 40 } : Room) #[(.ref fi), (.int pn), (.double X_)] h0 (own_QslD Z le ex jo go pe li fi in_ ou fl el ev st se kex kjo kgo kpe kli kin_ kou kfl kel kev kst kse X_ V0 V1 Ve h0 n0) := by
  refine own_met (plainFor_of_name own_pn1) ?_
  intro p e s m below meth c s₁ X0 hx hZ hby hml hown hnm hret hlk e0
  have N0 := Fr.nil n0
  refine own_go (fun t k => castTop (own_efslD m fi pn X_) k) ?_
  have g_fi : @LE.le Nat _ n0 fi := by omega
  have lt_le_fi : @LT.lt Nat _ le fi := by omega
  have lt_jo_fi : @LT.lt Nat _ jo fi := by omega
  have lt_go_fi : @LT.lt Nat _ go fi := by omega
  have lt_pe_fi : @LT.lt Nat _ pe fi := by omega
  have lt_li_fi : @LT.lt Nat _ li fi := by omega
  have lt_fi_in_ : @LT.lt Nat _ fi in_ := by omega
  have lt_fi_ou : @LT.lt Nat _ fi ou := by omega
  have lt_fi_fl : @LT.lt Nat _ fi fl := by omega
  have lt_fi_el : @LT.lt Nat _ fi el := by omega
  have lt_fi_ev : @LT.lt Nat _ fi ev := by omega
  have lt_fi_st : @LT.lt Nat _ fi st := by omega
  have lt_fi_se : @LT.lt Nat _ fi se := by omega
  have g_pe : @LE.le Nat _ n0 pe := by omega
  have lt_le_pe : @LT.lt Nat _ le pe := by omega
  have lt_jo_pe : @LT.lt Nat _ jo pe := by omega
  have lt_go_pe : @LT.lt Nat _ go pe := by omega
  have lt_pe_li : @LT.lt Nat _ pe li := by omega
  have lt_pe_in_ : @LT.lt Nat _ pe in_ := by omega
  have lt_pe_ou : @LT.lt Nat _ pe ou := by omega
  have lt_pe_fl : @LT.lt Nat _ pe fl := by omega
  have lt_pe_el : @LT.lt Nat _ pe el := by omega
  have lt_pe_ev : @LT.lt Nat _ pe ev := by omega
  have lt_pe_st : @LT.lt Nat _ pe st := by omega
  have lt_pe_se : @LT.lt Nat _ pe se := by omega
  have K := Keep.refl h0 [fi, jo, pe, li, fl]
  show own_Go _ _ _ _ s₁ (mkF m 0 #[oR fi, oI pn, oD X_, oS, oU, oU, oU, oU, oU, oU, oU, oU, oU, oU] [])
  subst hp
  show own_Go _ _ _ _ s₁ (mkF m 0 #[oR fi, oI 0, oD X_, oS, oU, oU, oU, oU, oU, oU, oU, oU, oU, oU] [])
  refine own_go (fun _ k => XS.aloadN X0.here hx rfl (hb hby own_d6_0) rfl rfl k) ?_
  show own_Go _ _ _ _ s₁ (mkF m 1 #[oR fi, oI 0, oD X_, oS, oU, oU, oU, oU, oU, oU, oU, oU, oU, oU] [(.ref fi)])
  refine own_go (fun _ k => XS.dconst0 X0.here hx rfl (hb hby own_d6_1) own_dc0 k) ?_
  show own_Go _ _ _ _ s₁ (mkF m 2 #[oR fi, oI 0, oD X_, oS, oU, oU, oU, oU, oU, oU, oU, oU, oU, oU] [(.double 0), (.ref fi)])
  obtain ⟨Tz211, hz211, Xz211, ez211, Wz211, stz211⟩ := putF X0 hx hZ hown (host := "") (Or.inl (hw _ (List.mem_of_getElem? (i := 68) rfl))) Via.refl e0 F30 E_fi (Or.inl (hw _ (List.mem_of_getElem? (i := 69) rfl))) (hw _ (List.mem_of_getElem? (i := 23) rfl)) (ty := .double) (by decide) rfl rfl (g := (mkF m 2 #[oR fi, oI 0, oD X_, oS, oU, oU, oU, oU, oU, oU, oU, oU, oU, oU] [(.double 0), (.ref fi)])) rfl rfl (hb hby own_d6_2)
  refine own_go stz211 ?_
  have Nz211 := Fr.snoc Xz211 N0 g_fi
  have F31 := F30.same Wz211
  have E_fi := E_fi.wr Wz211
  have F22 := F22.other Wz211 (own_sl hw 30 69 (Or.inl rfl) (Or.inl rfl) (by decide))
  have F0 := F0.other Wz211 (own_sl hw 32 69 (Or.inl rfl) (Or.inl rfl) (by decide))
  have F2 := F2.other Wz211 (own_sl hw 34 69 (Or.inl rfl) (Or.inl rfl) (by decide))
  have F38 := F38.other Wz211 (own_sl hw 36 69 (Or.inl rfl) (Or.inl rfl) (by decide))
  have F36 := F36.other Wz211 (own_sl hw 38 69 (Or.inl rfl) (Or.inl rfl) (by decide))
  have F18 := F18.other Wz211 (own_sl hw 40 69 (Or.inr rfl) (Or.inl rfl) (by decide))
  have F12 := F12.other Wz211 (own_sl hw 42 69 (Or.inr rfl) (Or.inl rfl) (by decide))
  have F26 := F26.other Wz211 (own_sl hw 44 69 (Or.inr rfl) (Or.inl rfl) (by decide))
  have F40 := F40.other Wz211 (own_sl hw 51 69 (Or.inl rfl) (Or.inl rfl) (by decide))
  have F16 := F16.other Wz211 (own_sl hw 58 69 (Or.inl rfl) (Or.inl rfl) (by decide))
  have F6 := F6.other Wz211 (own_sl hw 60 69 (Or.inl rfl) (Or.inl rfl) (by decide))
  have F34 := F34.other Wz211 (own_sl hw 62 69 (Or.inl rfl) (Or.inl rfl) (by decide))
  have F20 := F20.other Wz211 (own_sl hw 73 69 (Or.inl rfl) (Or.inl rfl) (by decide))
  have F10 := F10.other Wz211 (own_sl hw 79 69 (Or.inl rfl) (Or.inl rfl) (by decide))
  have F32 := F32.other Wz211 (own_sl hw 71 69 (Or.inl rfl) (Or.inl rfl) (by decide))
  have F4 := F4.other Wz211 (own_o1 lt_le_fi)
  have F14 := F14.other Wz211 (own_o1 lt_le_fi)
  have F8 := F8.other Wz211 (own_o1 lt_le_fi)
  have F28 := F28.other Wz211 (own_o1 lt_le_fi)
  have F24 := F24.other Wz211 (own_o1 lt_le_fi)
  have V_jo := V_jo.other Wz211 (Nat.ne_of_lt lt_jo_fi)
  have V_go := V_go.other Wz211 (Nat.ne_of_lt lt_go_fi)
  have V_pe := V_pe.other Wz211 (Nat.ne_of_lt lt_pe_fi)
  have V_li := V_li.other Wz211 (Nat.ne_of_lt lt_li_fi)
  have V_in_ := V_in_.other Wz211 (Nat.ne_of_gt lt_fi_in_)
  have V_ou := V_ou.other Wz211 (Nat.ne_of_gt lt_fi_ou)
  have V_fl := V_fl.other Wz211 (Nat.ne_of_gt lt_fi_fl)
  have V_el := V_el.other Wz211 (Nat.ne_of_gt lt_fi_el)
  have V_ev := V_ev.other Wz211 (Nat.ne_of_gt lt_fi_ev)
  have V_st := V_st.other Wz211 (Nat.ne_of_gt lt_fi_st)
  have V_se := V_se.other Wz211 (Nat.ne_of_gt lt_fi_se)
  have K := K.wr Wz211 (Or.inl (List.mem_of_getElem? (i := 0) rfl))
  have F30 := F31
  show own_Go _ _ _ _ Tz211 (mkF m 5 #[oR fi, oI 0, oD X_, oS, oU, oU, oU, oU, oU, oU, oU, oU, oU, oU] [])
  refine own_go (fun _ k => XS.aloadN Xz211.here hx rfl (hb hby own_d6_5) rfl rfl k) ?_
  show own_Go _ _ _ _ Tz211 (mkF m 6 #[oR fi, oI 0, oD X_, oS, oU, oU, oU, oU, oU, oU, oU, oU, oU, oU] [(.ref fi)])
  refine own_go (fun _ k => XS.dconst0 Xz211.here hx rfl (hb hby own_d6_6) own_dc0 k) ?_
  show own_Go _ _ _ _ Tz211 (mkF m 7 #[oR fi, oI 0, oD X_, oS, oU, oU, oU, oU, oU, oU, oU, oU, oU, oU] [(.double 0), (.ref fi)])
  obtain ⟨Tz212, hz212, Xz212, ez212, Wz212, stz212⟩ := putF Xz211 hx hZ hown (host := "") (Or.inl (hw _ (List.mem_of_getElem? (i := 70) rfl))) Via.refl ez211 F32 E_fi (Or.inl (hw _ (List.mem_of_getElem? (i := 71) rfl))) (hw _ (List.mem_of_getElem? (i := 23) rfl)) (ty := .double) (by decide) rfl rfl (g := (mkF m 7 #[oR fi, oI 0, oD X_, oS, oU, oU, oU, oU, oU, oU, oU, oU, oU, oU] [(.double 0), (.ref fi)])) rfl rfl (hb hby own_d6_7)
  refine own_go stz212 ?_
  have Nz212 := Fr.snoc Xz212 Nz211 g_fi
  have F33 := F32.same Wz212
  have E_fi := E_fi.wr Wz212
  have F22 := F22.other Wz212 (own_sl hw 30 71 (Or.inl rfl) (Or.inl rfl) (by decide))
  have F0 := F0.other Wz212 (own_sl hw 32 71 (Or.inl rfl) (Or.inl rfl) (by decide))
  have F2 := F2.other Wz212 (own_sl hw 34 71 (Or.inl rfl) (Or.inl rfl) (by decide))
  have F38 := F38.other Wz212 (own_sl hw 36 71 (Or.inl rfl) (Or.inl rfl) (by decide))
  have F36 := F36.other Wz212 (own_sl hw 38 71 (Or.inl rfl) (Or.inl rfl) (by decide))
  have F18 := F18.other Wz212 (own_sl hw 40 71 (Or.inr rfl) (Or.inl rfl) (by decide))
  have F12 := F12.other Wz212 (own_sl hw 42 71 (Or.inr rfl) (Or.inl rfl) (by decide))
  have F26 := F26.other Wz212 (own_sl hw 44 71 (Or.inr rfl) (Or.inl rfl) (by decide))
  have F40 := F40.other Wz212 (own_sl hw 51 71 (Or.inl rfl) (Or.inl rfl) (by decide))
  have F16 := F16.other Wz212 (own_sl hw 58 71 (Or.inl rfl) (Or.inl rfl) (by decide))
  have F6 := F6.other Wz212 (own_sl hw 60 71 (Or.inl rfl) (Or.inl rfl) (by decide))
  have F34 := F34.other Wz212 (own_sl hw 62 71 (Or.inl rfl) (Or.inl rfl) (by decide))
  have F20 := F20.other Wz212 (own_sl hw 73 71 (Or.inl rfl) (Or.inl rfl) (by decide))
  have F10 := F10.other Wz212 (own_sl hw 79 71 (Or.inl rfl) (Or.inl rfl) (by decide))
  have F4 := F4.other Wz212 (own_o1 lt_le_fi)
  have F14 := F14.other Wz212 (own_o1 lt_le_fi)
  have F8 := F8.other Wz212 (own_o1 lt_le_fi)
  have F28 := F28.other Wz212 (own_o1 lt_le_fi)
  have F24 := F24.other Wz212 (own_o1 lt_le_fi)
  have V_jo := V_jo.other Wz212 (Nat.ne_of_lt lt_jo_fi)
  have V_go := V_go.other Wz212 (Nat.ne_of_lt lt_go_fi)
  have V_pe := V_pe.other Wz212 (Nat.ne_of_lt lt_pe_fi)
  have V_li := V_li.other Wz212 (Nat.ne_of_lt lt_li_fi)
  have V_in_ := V_in_.other Wz212 (Nat.ne_of_gt lt_fi_in_)
  have V_ou := V_ou.other Wz212 (Nat.ne_of_gt lt_fi_ou)
  have V_fl := V_fl.other Wz212 (Nat.ne_of_gt lt_fi_fl)
  have V_el := V_el.other Wz212 (Nat.ne_of_gt lt_fi_el)
  have V_ev := V_ev.other Wz212 (Nat.ne_of_gt lt_fi_ev)
  have V_st := V_st.other Wz212 (Nat.ne_of_gt lt_fi_st)
  have V_se := V_se.other Wz212 (Nat.ne_of_gt lt_fi_se)
  have K := K.wr Wz212 (Or.inl (List.mem_of_getElem? (i := 0) rfl))
  have F30 := F30.other Wz212 (own_sl hw 69 71 (Or.inl rfl) (Or.inl rfl) (by decide))
  have F32 := F33
  show own_Go _ _ _ _ Tz212 (mkF m 10 #[oR fi, oI 0, oD X_, oS, oU, oU, oU, oU, oU, oU, oU, oU, oU, oU] [])
  refine own_go (fun _ k => XS.dloadN Xz212.here hx rfl (hb hby own_d6_10) rfl k) ?_
  show own_Go _ _ _ _ Tz212 (mkF m 11 #[oR fi, oI 0, oD X_, oS, oU, oU, oU, oU, oU, oU, oU, oU, oU, oU] [(.double X_)])
  refine own_go (fun _ k => XS.dconst0 Xz212.here hx rfl (hb hby own_d6_11) own_dc0 k) ?_
  show own_Go _ _ _ _ Tz212 (mkF m 12 #[oR fi, oI 0, oD X_, oS, oU, oU, oU, oU, oU, oU, oU, oU, oU, oU] [(.double 0), (.double X_)])
  refine own_go (fun _ k => XS.dcmpS Xz212.here hx rfl (hb hby own_d6_12) rfl rfl k) ?_
  show own_Go _ _ _ _ Tz212 (mkF m 13 #[oR fi, oI 0, oD X_, oS, oU, oU, oU, oU, oU, oU, oU, oU, oU, oU] [(.int (cmpValue (FP.dcmp X_ (0 : UInt64)) .l))])
  refine own_go (fun _ k => XS.ifYes Xz212.here hx rfl (pc0 := 13) (pc' := 18) rfl (hb hby own_d6_13) rfl ((if0 _ _).trans (tlt hx0).2.2.1) (by decide) (by decide) k) ?_
  show own_Go _ _ _ _ Tz212 (mkF m 18 #[oR fi, oI 0, oD X_, oS, oU, oU, oU, oU, oU, oU, oU, oU, oU, oU] [])
  refine own_go (fun _ k => XS.aloadN Xz212.here hx rfl (hb hby own_d6_18) rfl rfl k) ?_
  show own_Go _ _ _ _ Tz212 (mkF m 19 #[oR fi, oI 0, oD X_, oS, oU, oU, oU, oU, oU, oU, oU, oU, oU, oU] [(.ref fi)])
  obtain ⟨Tz213, Xz213, ez213, stz213⟩ := getF Xz212 hx hZ hown (host := "") (Or.inl (hw _ (List.mem_of_getElem? (i := 43) rfl))) Via.refl ez212 F26 (g := (mkF m 19 #[oR fi, oI 0, oD X_, oS, oU, oU, oU, oU, oU, oU, oU, oU, oU, oU] [(.ref fi)])) rfl rfl (hb hby own_d6_19)
  refine own_go stz213 ?_
  show own_Go _ _ _ _ Tz213 (mkF m 22 #[oR fi, oI 0, oD X_, oS, oU, oU, oU, oU, oU, oU, oU, oU, oU, oU] [(.ref ou)])
  refine own_go (fun _ k => XS.iloadN Xz213.here hx rfl (hb hby own_d6_22) rfl k) ?_
  show own_Go _ _ _ _ Tz213 (mkF m 23 #[oR fi, oI 0, oD X_, oS, oU, oU, oU, oU, oU, oU, oU, oU, oU, oU] [(.int 0), (.ref ou)])
  obtain ⟨clz214, Arz214, qz214, Sz214, Mz214, HHz214, Gz214⟩ := id V_ou
  have hinz214 : ¬ ((0 : Int32) < 0 ∨ clz214.slots.size ≤ ((0 : Int32)).toNatClampNeg) := inb_of Sz214 ⟨(by decide), (by decide)⟩
  have hatz214 : clz214.slots[((0 : Int32)).toNatClampNeg]? = some (.double 0) := HHz214.at hinz214 (rfl)
  refine own_go (fun _ k => Xz213.daload hx (j := (0 : Int32)) (v := (.double 0)) (by rw [ez213]; exact Arz214.1) (State.isArrayOf_alike hZ.alike Arz214.2.1) Arz214.2.2 hinz214 hatz214 (g := (mkF m 23 #[oR fi, oI 0, oD X_, oS, oU, oU, oU, oU, oU, oU, oU, oU, oU, oU] [(.int 0), (.ref ou)])) rfl rfl (hb hby own_d6_23) _ k) ?_
  show own_Go _ _ _ _ Tz213 (mkF m 24 #[oR fi, oI 0, oD X_, oS, oU, oU, oU, oU, oU, oU, oU, oU, oU, oU] [(.double 0)])
  refine own_go (fun _ k => XS.dloadN Xz213.here hx rfl (hb hby own_d6_24) rfl k) ?_
  show own_Go _ _ _ _ Tz213 (mkF m 25 #[oR fi, oI 0, oD X_, oS, oU, oU, oU, oU, oU, oU, oU, oU, oU, oU] [(.double X_), (.double 0)])
  refine own_go (fun _ k => XS.daddS Xz213.here hx rfl (hb hby own_d6_25) rfl (by rw [hU]; exact hnX) hU k) ?_
  show own_Go _ _ _ _ Tz213 (mkF m 26 #[oR fi, oI 0, oD X_, oS, oU, oU, oU, oU, oU, oU, oU, oU, oU, oU] [(.double X_)])
  refine own_go (fun _ k => XS.dstore Xz213.here hx rfl (hb hby own_d6_26) rfl (l' := #[oR fi, oI 0, oD X_, oS, oD X_, oS, oU, oU, oU, oU, oU, oU, oU, oU]) rfl k) ?_
  show own_Go _ _ _ _ Tz213 (mkF m 28 #[oR fi, oI 0, oD X_, oS, oD X_, oS, oU, oU, oU, oU, oU, oU, oU, oU] [])
  refine own_go (fun _ k => XS.aloadN Xz213.here hx rfl (hb hby own_d6_28) rfl rfl k) ?_
  show own_Go _ _ _ _ Tz213 (mkF m 29 #[oR fi, oI 0, oD X_, oS, oD X_, oS, oU, oU, oU, oU, oU, oU, oU, oU] [(.ref fi)])
  obtain ⟨Tz215, Xz215, ez215, stz215⟩ := getF Xz213 hx hZ hown (host := "") (Or.inl (hw _ (List.mem_of_getElem? (i := 61) rfl))) Via.refl ez213 F34 (g := (mkF m 29 #[oR fi, oI 0, oD X_, oS, oD X_, oS, oU, oU, oU, oU, oU, oU, oU, oU] [(.ref fi)])) rfl rfl (hb hby own_d6_29)
  refine own_go stz215 ?_
  show own_Go _ _ _ _ Tz215 (mkF m 32 #[oR fi, oI 0, oD X_, oS, oD X_, oS, oU, oU, oU, oU, oU, oU, oU, oU] [(.int 0)])
  refine own_go (fun _ k => XS.ifYes Xz215.here hx rfl (pc0 := 32) (pc' := 153) rfl (hb hby own_d6_32) rfl ((if0 _ _).trans (flt (by decide : ¬ ((0 : Int32) < (0 : Int32)))).2.2.2) (by decide) (by decide) k) ?_
  show own_Go _ _ _ _ Tz215 (mkF m 153 #[oR fi, oI 0, oD X_, oS, oD X_, oS, oU, oU, oU, oU, oU, oU, oU, oU] [])
  refine own_go (fun _ k => XS.iconst Xz215.here hx rfl (hb hby own_d6_153) k) ?_
  show own_Go _ _ _ _ Tz215 (mkF m 154 #[oR fi, oI 0, oD X_, oS, oD X_, oS, oU, oU, oU, oU, oU, oU, oU, oU] [(.int 0)])
  refine own_go (fun _ k => XS.istore Xz215.here hx rfl (hb hby own_d6_154) rfl (l' := #[oR fi, oI 0, oD X_, oS, oD X_, oS, oI 0, oU, oU, oU, oU, oU, oU, oU]) rfl k) ?_
  show own_Go _ _ _ _ Tz215 (mkF m 156 #[oR fi, oI 0, oD X_, oS, oD X_, oS, oI 0, oU, oU, oU, oU, oU, oU, oU] [])
  refine own_go (fun _ k => XS.iload Xz215.here hx rfl (hb hby own_d6_156) rfl k) ?_
  show own_Go _ _ _ _ Tz215 (mkF m 158 #[oR fi, oI 0, oD X_, oS, oD X_, oS, oI 0, oU, oU, oU, oU, oU, oU, oU] [(.int 0)])
  refine own_go (fun _ k => XS.aloadN Xz215.here hx rfl (hb hby own_d6_158) rfl rfl k) ?_
  show own_Go _ _ _ _ Tz215 (mkF m 159 #[oR fi, oI 0, oD X_, oS, oD X_, oS, oI 0, oU, oU, oU, oU, oU, oU, oU] [(.ref fi), (.int 0)])
  obtain ⟨Tz216, Xz216, ez216, stz216⟩ := getF Xz215 hx hZ hown (host := "") (Or.inl (hw _ (List.mem_of_getElem? (i := 72) rfl))) Via.refl ez215 F20 (g := (mkF m 159 #[oR fi, oI 0, oD X_, oS, oD X_, oS, oI 0, oU, oU, oU, oU, oU, oU, oU] [(.ref fi), (.int 0)])) rfl rfl (hb hby own_d6_159)
  refine own_go stz216 ?_
  show own_Go _ _ _ _ Tz216 (mkF m 162 #[oR fi, oI 0, oD X_, oS, oD X_, oS, oI 0, oU, oU, oU, oU, oU, oU, oU] [(.int 2), (.int 0)])
  refine own_go (fun _ k => XS.icmpNo Xz216.here hx rfl (hb hby own_d6_162) rfl (tlt (by decide : (0 : Int32) < (2 : Int32))).2.1 k) ?_
  show own_Go _ _ _ _ Tz216 (mkF m 165 #[oR fi, oI 0, oD X_, oS, oD X_, oS, oI 0, oU, oU, oU, oU, oU, oU, oU] [])
  refine own_go (fun _ k => XS.aloadN Xz216.here hx rfl (hb hby own_d6_165) rfl rfl k) ?_
  show own_Go _ _ _ _ Tz216 (mkF m 166 #[oR fi, oI 0, oD X_, oS, oD X_, oS, oI 0, oU, oU, oU, oU, oU, oU, oU] [(.ref fi)])
  obtain ⟨Tz217, Xz217, ez217, stz217⟩ := getF Xz216 hx hZ hown (host := "") (Or.inl (hw _ (List.mem_of_getElem? (i := 29) rfl))) Via.refl ez216 F22 (g := (mkF m 166 #[oR fi, oI 0, oD X_, oS, oD X_, oS, oI 0, oU, oU, oU, oU, oU, oU, oU] [(.ref fi)])) rfl rfl (hb hby own_d6_166)
  refine own_go stz217 ?_
  show own_Go _ _ _ _ Tz217 (mkF m 169 #[oR fi, oI 0, oD X_, oS, oD X_, oS, oI 0, oU, oU, oU, oU, oU, oU, oU] [(.ref fl)])
  refine own_go (fun _ k => XS.iload Xz217.here hx rfl (hb hby own_d6_169) rfl k) ?_
  show own_Go _ _ _ _ Tz217 (mkF m 171 #[oR fi, oI 0, oD X_, oS, oD X_, oS, oI 0, oU, oU, oU, oU, oU, oU, oU] [(.int 0), (.ref fl)])
  obtain ⟨clz218, Arz218, qz218, Sz218, Mz218, HHz218, Gz218⟩ := id V_fl
  have hinz218 : ¬ ((0 : Int32) < 0 ∨ clz218.slots.size ≤ ((0 : Int32)).toNatClampNeg) := inb_of Sz218 ⟨(by decide), (by decide)⟩
  have hatz218 : clz218.slots[((0 : Int32)).toNatClampNeg]? = some (.int 0) := HHz218.at hinz218 (rfl)
  refine own_go (fun _ k => Xz217.iaload hx (j := (0 : Int32)) (v := (.int 0)) (by rw [ez217]; exact Arz218.1) (State.isArrayOf_alike hZ.alike Arz218.2.1) Arz218.2.2 hinz218 hatz218 (g := (mkF m 171 #[oR fi, oI 0, oD X_, oS, oD X_, oS, oI 0, oU, oU, oU, oU, oU, oU, oU] [(.int 0), (.ref fl)])) rfl rfl (hb hby own_d6_171) _ k) ?_
  show own_Go _ _ _ _ Tz217 (mkF m 172 #[oR fi, oI 0, oD X_, oS, oD X_, oS, oI 0, oU, oU, oU, oU, oU, oU, oU] [(.int 0)])
  refine own_go (fun _ k => XS.istore Xz217.here hx rfl (hb hby own_d6_172) rfl (l' := #[oR fi, oI 0, oD X_, oS, oD X_, oS, oI 0, oI 0, oU, oU, oU, oU, oU, oU]) rfl k) ?_
  show own_Go _ _ _ _ Tz217 (mkF m 174 #[oR fi, oI 0, oD X_, oS, oD X_, oS, oI 0, oI 0, oU, oU, oU, oU, oU, oU] [])
  refine own_go (fun _ k => XS.aloadN Xz217.here hx rfl (hb hby own_d6_174) rfl rfl k) ?_
  show own_Go _ _ _ _ Tz217 (mkF m 175 #[oR fi, oI 0, oD X_, oS, oD X_, oS, oI 0, oI 0, oU, oU, oU, oU, oU, oU] [(.ref fi)])
  obtain ⟨Tz219, Xz219, ez219, stz219⟩ := getF Xz217 hx hZ hown (host := "") (Or.inl (hw _ (List.mem_of_getElem? (i := 39) rfl))) Via.refl ez217 F18 (g := (mkF m 175 #[oR fi, oI 0, oD X_, oS, oD X_, oS, oI 0, oI 0, oU, oU, oU, oU, oU, oU] [(.ref fi)])) rfl rfl (hb hby own_d6_175)
  refine own_go stz219 ?_
  show own_Go _ _ _ _ Tz219 (mkF m 178 #[oR fi, oI 0, oD X_, oS, oD X_, oS, oI 0, oI 0, oU, oU, oU, oU, oU, oU] [(.ref le)])
  refine own_go (fun _ k => own_getR Xz219 hx hZ hown (hw _ (List.mem_of_getElem? (i := 85) rfl)) ez219 F28 (g := (mkF m 178 #[oR fi, oI 0, oD X_, oS, oD X_, oS, oI 0, oI 0, oU, oU, oU, oU, oU, oU] [(.ref le)])) rfl rfl (hb hby own_d6_178) _ k) ?_
  show own_Go _ _ _ _ Tz219 (mkF m 181 #[oR fi, oI 0, oD X_, oS, oD X_, oS, oI 0, oI 0, oU, oU, oU, oU, oU, oU] [(.ref pe)])
  refine own_go (fun _ k => XS.iload Xz219.here hx rfl (hb hby own_d6_181) rfl k) ?_
  show own_Go _ _ _ _ Tz219 (mkF m 183 #[oR fi, oI 0, oD X_, oS, oD X_, oS, oI 0, oI 0, oU, oU, oU, oU, oU, oU] [(.int 0), (.ref pe)])
  refine own_go (fun _ k => XS.aloadN Xz219.here hx rfl (hb hby own_d6_183) rfl rfl k) ?_
  show own_Go _ _ _ _ Tz219 (mkF m 184 #[oR fi, oI 0, oD X_, oS, oD X_, oS, oI 0, oI 0, oU, oU, oU, oU, oU, oU] [(.ref fi), (.int 0), (.ref pe)])
  obtain ⟨Tz221, Xz221, ez221, stz221⟩ := getF Xz219 hx hZ hown (host := "") (Or.inl (hw _ (List.mem_of_getElem? (i := 39) rfl))) Via.refl ez219 F18 (g := (mkF m 184 #[oR fi, oI 0, oD X_, oS, oD X_, oS, oI 0, oI 0, oU, oU, oU, oU, oU, oU] [(.ref fi), (.int 0), (.ref pe)])) rfl rfl (hb hby own_d6_184)
  refine own_go stz221 ?_
  show own_Go _ _ _ _ Tz221 (mkF m 187 #[oR fi, oI 0, oD X_, oS, oD X_, oS, oI 0, oI 0, oU, oU, oU, oU, oU, oU] [(.ref le), (.int 0), (.ref pe)])
  refine own_go (fun _ k => own_getR Xz221 hx hZ hown (hw _ (List.mem_of_getElem? (i := 86) rfl)) ez221 F14 (g := (mkF m 187 #[oR fi, oI 0, oD X_, oS, oD X_, oS, oI 0, oI 0, oU, oU, oU, oU, oU, oU] [(.ref le), (.int 0), (.ref pe)])) rfl rfl (hb hby own_d6_187) _ k) ?_
  show own_Go _ _ _ _ Tz221 (mkF m 190 #[oR fi, oI 0, oD X_, oS, oD X_, oS, oI 0, oI 0, oU, oU, oU, oU, oU, oU] [(.ref jo), (.int 0), (.ref pe)])
  refine own_go (fun _ k => XS.iload Xz221.here hx rfl (hb hby own_d6_190) rfl k) ?_
  show own_Go _ _ _ _ Tz221 (mkF m 192 #[oR fi, oI 0, oD X_, oS, oD X_, oS, oI 0, oI 0, oU, oU, oU, oU, oU, oU] [(.int 0), (.ref jo), (.int 0), (.ref pe)])
  obtain ⟨clz223, Arz223, qz223, Sz223, Mz223, HHz223, Gz223⟩ := id V_jo
  have hinz223 : ¬ ((0 : Int32) < 0 ∨ clz223.slots.size ≤ ((0 : Int32)).toNatClampNeg) := inb_of Sz223 ⟨(by decide), (by decide)⟩
  have hatz223 : clz223.slots[((0 : Int32)).toNatClampNeg]? = some (.double V0) := HHz223.at hinz223 (rfl)
  refine own_go (fun _ k => Xz221.daload hx (j := (0 : Int32)) (v := (.double V0)) (by rw [ez221]; exact Arz223.1) (State.isArrayOf_alike hZ.alike Arz223.2.1) Arz223.2.2 hinz223 hatz223 (g := (mkF m 192 #[oR fi, oI 0, oD X_, oS, oD X_, oS, oI 0, oI 0, oU, oU, oU, oU, oU, oU] [(.int 0), (.ref jo), (.int 0), (.ref pe)])) rfl rfl (hb hby own_d6_192) _ k) ?_
  show own_Go _ _ _ _ Tz221 (mkF m 193 #[oR fi, oI 0, oD X_, oS, oD X_, oS, oI 0, oI 0, oU, oU, oU, oU, oU, oU] [(.double V0), (.int 0), (.ref pe)])
  refine own_go (fun _ k => XS.aloadN Xz221.here hx rfl (hb hby own_d6_193) rfl rfl k) ?_
  show own_Go _ _ _ _ Tz221 (mkF m 194 #[oR fi, oI 0, oD X_, oS, oD X_, oS, oI 0, oI 0, oU, oU, oU, oU, oU, oU] [(.ref fi), (.double V0), (.int 0), (.ref pe)])
  obtain ⟨Tz224, Xz224, ez224, stz224⟩ := getF Xz221 hx hZ hown (host := "") (Or.inl (hw _ (List.mem_of_getElem? (i := 39) rfl))) Via.refl ez221 F18 (g := (mkF m 194 #[oR fi, oI 0, oD X_, oS, oD X_, oS, oI 0, oI 0, oU, oU, oU, oU, oU, oU] [(.ref fi), (.double V0), (.int 0), (.ref pe)])) rfl rfl (hb hby own_d6_194)
  refine own_go stz224 ?_
  show own_Go _ _ _ _ Tz224 (mkF m 197 #[oR fi, oI 0, oD X_, oS, oD X_, oS, oI 0, oI 0, oU, oU, oU, oU, oU, oU] [(.ref le), (.double V0), (.int 0), (.ref pe)])
  refine own_go (fun _ k => own_getR Xz224 hx hZ hown (hw _ (List.mem_of_getElem? (i := 87) rfl)) ez224 F8 (g := (mkF m 197 #[oR fi, oI 0, oD X_, oS, oD X_, oS, oI 0, oI 0, oU, oU, oU, oU, oU, oU] [(.ref le), (.double V0), (.int 0), (.ref pe)])) rfl rfl (hb hby own_d6_197) _ k) ?_
  show own_Go _ _ _ _ Tz224 (mkF m 200 #[oR fi, oI 0, oD X_, oS, oD X_, oS, oI 0, oI 0, oU, oU, oU, oU, oU, oU] [(.ref go), (.double V0), (.int 0), (.ref pe)])
  refine own_go (fun _ k => XS.iload Xz224.here hx rfl (hb hby own_d6_200) rfl k) ?_
  show own_Go _ _ _ _ Tz224 (mkF m 202 #[oR fi, oI 0, oD X_, oS, oD X_, oS, oI 0, oI 0, oU, oU, oU, oU, oU, oU] [(.int 0), (.ref go), (.double V0), (.int 0), (.ref pe)])
  obtain ⟨clz226, Arz226, qz226, Sz226, Mz226, HHz226, Gz226⟩ := id V_go
  have hinz226 : ¬ ((0 : Int32) < 0 ∨ clz226.slots.size ≤ ((0 : Int32)).toNatClampNeg) := inb_of Sz226 ⟨(by decide), (by decide)⟩
  have hatz226 : clz226.slots[((0 : Int32)).toNatClampNeg]? = some (.double 0) := HHz226.at hinz226 (rfl)
  refine own_go (fun _ k => Xz224.daload hx (j := (0 : Int32)) (v := (.double 0)) (by rw [ez224]; exact Arz226.1) (State.isArrayOf_alike hZ.alike Arz226.2.1) Arz226.2.2 hinz226 hatz226 (g := (mkF m 202 #[oR fi, oI 0, oD X_, oS, oD X_, oS, oI 0, oI 0, oU, oU, oU, oU, oU, oU] [(.int 0), (.ref go), (.double V0), (.int 0), (.ref pe)])) rfl rfl (hb hby own_d6_202) _ k) ?_
  show own_Go _ _ _ _ Tz224 (mkF m 203 #[oR fi, oI 0, oD X_, oS, oD X_, oS, oI 0, oI 0, oU, oU, oU, oU, oU, oU] [(.double 0), (.double V0), (.int 0), (.ref pe)])
  refine own_go (fun _ k => XS.dsubS Xz224.here hx rfl (hb hby own_d6_203) rfl (by rw [hp0]; exact hn0) hp0 k) ?_
  show own_Go _ _ _ _ Tz224 (mkF m 204 #[oR fi, oI 0, oD X_, oS, oD X_, oS, oI 0, oI 0, oU, oU, oU, oU, oU, oU] [(.double V0), (.int 0), (.ref pe)])
  obtain ⟨clz227, Arz227, qz227, Sz227, Mz227, HHz227, Gz227⟩ := V_pe
  have hinz227 : ¬ ((0 : Int32) < 0 ∨ clz227.slots.size ≤ ((0 : Int32)).toNatClampNeg) := inb_of Sz227 ⟨(by decide), (by decide)⟩
  obtain ⟨Tz227, hz227, Xz227, ez227, Wz227, stz227⟩ := stD Xz224 hx hZ ez224 Arz227 (j := (0 : Int32)) hinz227 (g := (mkF m 204 #[oR fi, oI 0, oD X_, oS, oD X_, oS, oI 0, oI 0, oU, oU, oU, oU, oU, oU] [(.double V0), (.int 0), (.ref pe)])) rfl rfl (hb hby own_d6_204)
  refine own_go stz227 ?_
  have V_pe_ : Arv Z hz227 pe kpe .double (2 : Int32) [(.double V0), (.double V1)] (.double 0) := Arv.set Arz227 qz227 Sz227 Mz227 HHz227 Gz227 rfl Wz227 0 rfl (Nat.le_of_ble_eq_true rfl)
  have Nz227 := Fr.snoc Xz227 Nz212 g_pe
  have E_fi := E_fi.wr Wz227
  have F22 := F22.other Wz227 (own_o2 lt_pe_fi)
  have F0 := F0.other Wz227 (own_o2 lt_pe_fi)
  have F2 := F2.other Wz227 (own_o2 lt_pe_fi)
  have F38 := F38.other Wz227 (own_o2 lt_pe_fi)
  have F36 := F36.other Wz227 (own_o2 lt_pe_fi)
  have F18 := F18.other Wz227 (own_o2 lt_pe_fi)
  have F12 := F12.other Wz227 (own_o2 lt_pe_fi)
  have F26 := F26.other Wz227 (own_o2 lt_pe_fi)
  have F40 := F40.other Wz227 (own_o2 lt_pe_fi)
  have F16 := F16.other Wz227 (own_o2 lt_pe_fi)
  have F6 := F6.other Wz227 (own_o2 lt_pe_fi)
  have F34 := F34.other Wz227 (own_o2 lt_pe_fi)
  have F20 := F20.other Wz227 (own_o2 lt_pe_fi)
  have F10 := F10.other Wz227 (own_o2 lt_pe_fi)
  have F4 := F4.other Wz227 (own_o1 lt_le_pe)
  have F14 := F14.other Wz227 (own_o1 lt_le_pe)
  have F8 := F8.other Wz227 (own_o1 lt_le_pe)
  have F28 := F28.other Wz227 (own_o1 lt_le_pe)
  have F24 := F24.other Wz227 (own_o1 lt_le_pe)
  have V_jo := V_jo.other Wz227 (Nat.ne_of_lt lt_jo_pe)
  have V_go := V_go.other Wz227 (Nat.ne_of_lt lt_go_pe)
  have V_li := V_li.other Wz227 (Nat.ne_of_gt lt_pe_li)
  have V_in_ := V_in_.other Wz227 (Nat.ne_of_gt lt_pe_in_)
  have V_ou := V_ou.other Wz227 (Nat.ne_of_gt lt_pe_ou)
  have V_fl := V_fl.other Wz227 (Nat.ne_of_gt lt_pe_fl)
  have V_el := V_el.other Wz227 (Nat.ne_of_gt lt_pe_el)
  have V_ev := V_ev.other Wz227 (Nat.ne_of_gt lt_pe_ev)
  have V_st := V_st.other Wz227 (Nat.ne_of_gt lt_pe_st)
  have V_se := V_se.other Wz227 (Nat.ne_of_gt lt_pe_se)
  have K := K.wr Wz227 (Or.inl (List.mem_of_getElem? (i := 2) rfl))
  have F30 := F30.other Wz227 (own_o2 lt_pe_fi)
  have F32 := F32.other Wz227 (own_o2 lt_pe_fi)
  have V_pe := V_pe_
  show own_Go _ _ _ _ Tz227 (mkF m 205 #[oR fi, oI 0, oD X_, oS, oD X_, oS, oI 0, oI 0, oU, oU, oU, oU, oU, oU] [])
  refine own_go (fun _ k => XS.iinc Xz227.here hx rfl (hb hby own_d6_205) rfl (l' := #[oR fi, oI 0, oD X_, oS, oD X_, oS, oI ((0 : Int32) + (1 : Int32)), oI 0, oU, oU, oU, oU, oU, oU]) rfl k) ?_
  show own_Go _ _ _ _ Tz227 (mkF m 208 #[oR fi, oI 0, oD X_, oS, oD X_, oS, oI ((0 : Int32) + (1 : Int32)), oI 0, oU, oU, oU, oU, oU, oU] [])
  refine own_go (fun _ k => XS.goto Xz227.here hx rfl (pc0 := 208) (pc' := 156) rfl (hb hby own_d6_208) (by decide) (by decide) k) ?_
  show own_Go _ _ _ _ Tz227 (mkF m 156 #[oR fi, oI 0, oD X_, oS, oD X_, oS, oI ((0 : Int32) + (1 : Int32)), oI 0, oU, oU, oU, oU, oU, oU] [])
  show own_Go _ _ _ _ Tz227 (mkF m 156 #[oR fi, oI 0, oD X_, oS, oD X_, oS, oI 1, oI 0, oU, oU, oU, oU, oU, oU] [])
  refine own_go (fun _ k => XS.iload Xz227.here hx rfl (hb hby own_d6_156) rfl k) ?_
  show own_Go _ _ _ _ Tz227 (mkF m 158 #[oR fi, oI 0, oD X_, oS, oD X_, oS, oI 1, oI 0, oU, oU, oU, oU, oU, oU] [(.int 1)])
  refine own_go (fun _ k => XS.aloadN Xz227.here hx rfl (hb hby own_d6_158) rfl rfl k) ?_
  show own_Go _ _ _ _ Tz227 (mkF m 159 #[oR fi, oI 0, oD X_, oS, oD X_, oS, oI 1, oI 0, oU, oU, oU, oU, oU, oU] [(.ref fi), (.int 1)])
  obtain ⟨Tz228, Xz228, ez228, stz228⟩ := getF Xz227 hx hZ hown (host := "") (Or.inl (hw _ (List.mem_of_getElem? (i := 72) rfl))) Via.refl ez227 F20 (g := (mkF m 159 #[oR fi, oI 0, oD X_, oS, oD X_, oS, oI 1, oI 0, oU, oU, oU, oU, oU, oU] [(.ref fi), (.int 1)])) rfl rfl (hb hby own_d6_159)
  refine own_go stz228 ?_
  show own_Go _ _ _ _ Tz228 (mkF m 162 #[oR fi, oI 0, oD X_, oS, oD X_, oS, oI 1, oI 0, oU, oU, oU, oU, oU, oU] [(.int 2), (.int 1)])
  refine own_go (fun _ k => XS.icmpNo Xz228.here hx rfl (hb hby own_d6_162) rfl (tlt (by decide : (1 : Int32) < (2 : Int32))).2.1 k) ?_
  show own_Go _ _ _ _ Tz228 (mkF m 165 #[oR fi, oI 0, oD X_, oS, oD X_, oS, oI 1, oI 0, oU, oU, oU, oU, oU, oU] [])
  refine own_go (fun _ k => XS.aloadN Xz228.here hx rfl (hb hby own_d6_165) rfl rfl k) ?_
  show own_Go _ _ _ _ Tz228 (mkF m 166 #[oR fi, oI 0, oD X_, oS, oD X_, oS, oI 1, oI 0, oU, oU, oU, oU, oU, oU] [(.ref fi)])
  obtain ⟨Tz229, Xz229, ez229, stz229⟩ := getF Xz228 hx hZ hown (host := "") (Or.inl (hw _ (List.mem_of_getElem? (i := 29) rfl))) Via.refl ez228 F22 (g := (mkF m 166 #[oR fi, oI 0, oD X_, oS, oD X_, oS, oI 1, oI 0, oU, oU, oU, oU, oU, oU] [(.ref fi)])) rfl rfl (hb hby own_d6_166)
  refine own_go stz229 ?_
  show own_Go _ _ _ _ Tz229 (mkF m 169 #[oR fi, oI 0, oD X_, oS, oD X_, oS, oI 1, oI 0, oU, oU, oU, oU, oU, oU] [(.ref fl)])
  refine own_go (fun _ k => XS.iload Xz229.here hx rfl (hb hby own_d6_169) rfl k) ?_
  show own_Go _ _ _ _ Tz229 (mkF m 171 #[oR fi, oI 0, oD X_, oS, oD X_, oS, oI 1, oI 0, oU, oU, oU, oU, oU, oU] [(.int 1), (.ref fl)])
  obtain ⟨clz230, Arz230, qz230, Sz230, Mz230, HHz230, Gz230⟩ := id V_fl
  have hinz230 : ¬ ((1 : Int32) < 0 ∨ clz230.slots.size ≤ ((1 : Int32)).toNatClampNeg) := inb_of Sz230 ⟨(by decide), (by decide)⟩
  have hatz230 : clz230.slots[((1 : Int32)).toNatClampNeg]? = some (.int 1) := HHz230.at hinz230 (rfl)
  refine own_go (fun _ k => Xz229.iaload hx (j := (1 : Int32)) (v := (.int 1)) (by rw [ez229]; exact Arz230.1) (State.isArrayOf_alike hZ.alike Arz230.2.1) Arz230.2.2 hinz230 hatz230 (g := (mkF m 171 #[oR fi, oI 0, oD X_, oS, oD X_, oS, oI 1, oI 0, oU, oU, oU, oU, oU, oU] [(.int 1), (.ref fl)])) rfl rfl (hb hby own_d6_171) _ k) ?_
  show own_Go _ _ _ _ Tz229 (mkF m 172 #[oR fi, oI 0, oD X_, oS, oD X_, oS, oI 1, oI 0, oU, oU, oU, oU, oU, oU] [(.int 1)])
  refine own_go (fun _ k => XS.istore Xz229.here hx rfl (hb hby own_d6_172) rfl (l' := #[oR fi, oI 0, oD X_, oS, oD X_, oS, oI 1, oI 1, oU, oU, oU, oU, oU, oU]) rfl k) ?_
  show own_Go _ _ _ _ Tz229 (mkF m 174 #[oR fi, oI 0, oD X_, oS, oD X_, oS, oI 1, oI 1, oU, oU, oU, oU, oU, oU] [])
  refine own_go (fun _ k => XS.aloadN Xz229.here hx rfl (hb hby own_d6_174) rfl rfl k) ?_
  show own_Go _ _ _ _ Tz229 (mkF m 175 #[oR fi, oI 0, oD X_, oS, oD X_, oS, oI 1, oI 1, oU, oU, oU, oU, oU, oU] [(.ref fi)])
  obtain ⟨Tz231, Xz231, ez231, stz231⟩ := getF Xz229 hx hZ hown (host := "") (Or.inl (hw _ (List.mem_of_getElem? (i := 39) rfl))) Via.refl ez229 F18 (g := (mkF m 175 #[oR fi, oI 0, oD X_, oS, oD X_, oS, oI 1, oI 1, oU, oU, oU, oU, oU, oU] [(.ref fi)])) rfl rfl (hb hby own_d6_175)
  refine own_go stz231 ?_
  show own_Go _ _ _ _ Tz231 (mkF m 178 #[oR fi, oI 0, oD X_, oS, oD X_, oS, oI 1, oI 1, oU, oU, oU, oU, oU, oU] [(.ref le)])
  refine own_go (fun _ k => own_getR Xz231 hx hZ hown (hw _ (List.mem_of_getElem? (i := 85) rfl)) ez231 F28 (g := (mkF m 178 #[oR fi, oI 0, oD X_, oS, oD X_, oS, oI 1, oI 1, oU, oU, oU, oU, oU, oU] [(.ref le)])) rfl rfl (hb hby own_d6_178) _ k) ?_
  show own_Go _ _ _ _ Tz231 (mkF m 181 #[oR fi, oI 0, oD X_, oS, oD X_, oS, oI 1, oI 1, oU, oU, oU, oU, oU, oU] [(.ref pe)])
  refine own_go (fun _ k => XS.iload Xz231.here hx rfl (hb hby own_d6_181) rfl k) ?_
  show own_Go _ _ _ _ Tz231 (mkF m 183 #[oR fi, oI 0, oD X_, oS, oD X_, oS, oI 1, oI 1, oU, oU, oU, oU, oU, oU] [(.int 1), (.ref pe)])
  refine own_go (fun _ k => XS.aloadN Xz231.here hx rfl (hb hby own_d6_183) rfl rfl k) ?_
  show own_Go _ _ _ _ Tz231 (mkF m 184 #[oR fi, oI 0, oD X_, oS, oD X_, oS, oI 1, oI 1, oU, oU, oU, oU, oU, oU] [(.ref fi), (.int 1), (.ref pe)])
  obtain ⟨Tz233, Xz233, ez233, stz233⟩ := getF Xz231 hx hZ hown (host := "") (Or.inl (hw _ (List.mem_of_getElem? (i := 39) rfl))) Via.refl ez231 F18 (g := (mkF m 184 #[oR fi, oI 0, oD X_, oS, oD X_, oS, oI 1, oI 1, oU, oU, oU, oU, oU, oU] [(.ref fi), (.int 1), (.ref pe)])) rfl rfl (hb hby own_d6_184)
  refine own_go stz233 ?_
  show own_Go _ _ _ _ Tz233 (mkF m 187 #[oR fi, oI 0, oD X_, oS, oD X_, oS, oI 1, oI 1, oU, oU, oU, oU, oU, oU] [(.ref le), (.int 1), (.ref pe)])
  refine own_go (fun _ k => own_getR Xz233 hx hZ hown (hw _ (List.mem_of_getElem? (i := 86) rfl)) ez233 F14 (g := (mkF m 187 #[oR fi, oI 0, oD X_, oS, oD X_, oS, oI 1, oI 1, oU, oU, oU, oU, oU, oU] [(.ref le), (.int 1), (.ref pe)])) rfl rfl (hb hby own_d6_187) _ k) ?_
  show own_Go _ _ _ _ Tz233 (mkF m 190 #[oR fi, oI 0, oD X_, oS, oD X_, oS, oI 1, oI 1, oU, oU, oU, oU, oU, oU] [(.ref jo), (.int 1), (.ref pe)])
  refine own_go (fun _ k => XS.iload Xz233.here hx rfl (hb hby own_d6_190) rfl k) ?_
  show own_Go _ _ _ _ Tz233 (mkF m 192 #[oR fi, oI 0, oD X_, oS, oD X_, oS, oI 1, oI 1, oU, oU, oU, oU, oU, oU] [(.int 1), (.ref jo), (.int 1), (.ref pe)])
  obtain ⟨clz235, Arz235, qz235, Sz235, Mz235, HHz235, Gz235⟩ := id V_jo
  have hinz235 : ¬ ((1 : Int32) < 0 ∨ clz235.slots.size ≤ ((1 : Int32)).toNatClampNeg) := inb_of Sz235 ⟨(by decide), (by decide)⟩
  have hatz235 : clz235.slots[((1 : Int32)).toNatClampNeg]? = some (.double V1) := HHz235.at hinz235 (rfl)
  refine own_go (fun _ k => Xz233.daload hx (j := (1 : Int32)) (v := (.double V1)) (by rw [ez233]; exact Arz235.1) (State.isArrayOf_alike hZ.alike Arz235.2.1) Arz235.2.2 hinz235 hatz235 (g := (mkF m 192 #[oR fi, oI 0, oD X_, oS, oD X_, oS, oI 1, oI 1, oU, oU, oU, oU, oU, oU] [(.int 1), (.ref jo), (.int 1), (.ref pe)])) rfl rfl (hb hby own_d6_192) _ k) ?_
  show own_Go _ _ _ _ Tz233 (mkF m 193 #[oR fi, oI 0, oD X_, oS, oD X_, oS, oI 1, oI 1, oU, oU, oU, oU, oU, oU] [(.double V1), (.int 1), (.ref pe)])
  refine own_go (fun _ k => XS.aloadN Xz233.here hx rfl (hb hby own_d6_193) rfl rfl k) ?_
  show own_Go _ _ _ _ Tz233 (mkF m 194 #[oR fi, oI 0, oD X_, oS, oD X_, oS, oI 1, oI 1, oU, oU, oU, oU, oU, oU] [(.ref fi), (.double V1), (.int 1), (.ref pe)])
  obtain ⟨Tz236, Xz236, ez236, stz236⟩ := getF Xz233 hx hZ hown (host := "") (Or.inl (hw _ (List.mem_of_getElem? (i := 39) rfl))) Via.refl ez233 F18 (g := (mkF m 194 #[oR fi, oI 0, oD X_, oS, oD X_, oS, oI 1, oI 1, oU, oU, oU, oU, oU, oU] [(.ref fi), (.double V1), (.int 1), (.ref pe)])) rfl rfl (hb hby own_d6_194)
  refine own_go stz236 ?_
  show own_Go _ _ _ _ Tz236 (mkF m 197 #[oR fi, oI 0, oD X_, oS, oD X_, oS, oI 1, oI 1, oU, oU, oU, oU, oU, oU] [(.ref le), (.double V1), (.int 1), (.ref pe)])
  refine own_go (fun _ k => own_getR Xz236 hx hZ hown (hw _ (List.mem_of_getElem? (i := 87) rfl)) ez236 F8 (g := (mkF m 197 #[oR fi, oI 0, oD X_, oS, oD X_, oS, oI 1, oI 1, oU, oU, oU, oU, oU, oU] [(.ref le), (.double V1), (.int 1), (.ref pe)])) rfl rfl (hb hby own_d6_197) _ k) ?_
  show own_Go _ _ _ _ Tz236 (mkF m 200 #[oR fi, oI 0, oD X_, oS, oD X_, oS, oI 1, oI 1, oU, oU, oU, oU, oU, oU] [(.ref go), (.double V1), (.int 1), (.ref pe)])
  refine own_go (fun _ k => XS.iload Xz236.here hx rfl (hb hby own_d6_200) rfl k) ?_
  show own_Go _ _ _ _ Tz236 (mkF m 202 #[oR fi, oI 0, oD X_, oS, oD X_, oS, oI 1, oI 1, oU, oU, oU, oU, oU, oU] [(.int 1), (.ref go), (.double V1), (.int 1), (.ref pe)])
  obtain ⟨clz238, Arz238, qz238, Sz238, Mz238, HHz238, Gz238⟩ := id V_go
  have hinz238 : ¬ ((1 : Int32) < 0 ∨ clz238.slots.size ≤ ((1 : Int32)).toNatClampNeg) := inb_of Sz238 ⟨(by decide), (by decide)⟩
  have hatz238 : clz238.slots[((1 : Int32)).toNatClampNeg]? = some (.double 0) := HHz238.at hinz238 (rfl)
  refine own_go (fun _ k => Xz236.daload hx (j := (1 : Int32)) (v := (.double 0)) (by rw [ez236]; exact Arz238.1) (State.isArrayOf_alike hZ.alike Arz238.2.1) Arz238.2.2 hinz238 hatz238 (g := (mkF m 202 #[oR fi, oI 0, oD X_, oS, oD X_, oS, oI 1, oI 1, oU, oU, oU, oU, oU, oU] [(.int 1), (.ref go), (.double V1), (.int 1), (.ref pe)])) rfl rfl (hb hby own_d6_202) _ k) ?_
  show own_Go _ _ _ _ Tz236 (mkF m 203 #[oR fi, oI 0, oD X_, oS, oD X_, oS, oI 1, oI 1, oU, oU, oU, oU, oU, oU] [(.double 0), (.double V1), (.int 1), (.ref pe)])
  refine own_go (fun _ k => XS.dsubS Xz236.here hx rfl (hb hby own_d6_203) rfl (by rw [hp1]; exact hn1) hp1 k) ?_
  show own_Go _ _ _ _ Tz236 (mkF m 204 #[oR fi, oI 0, oD X_, oS, oD X_, oS, oI 1, oI 1, oU, oU, oU, oU, oU, oU] [(.double V1), (.int 1), (.ref pe)])
  obtain ⟨clz239, Arz239, qz239, Sz239, Mz239, HHz239, Gz239⟩ := V_pe
  have hinz239 : ¬ ((1 : Int32) < 0 ∨ clz239.slots.size ≤ ((1 : Int32)).toNatClampNeg) := inb_of Sz239 ⟨(by decide), (by decide)⟩
  obtain ⟨Tz239, hz239, Xz239, ez239, Wz239, stz239⟩ := stD Xz236 hx hZ ez236 Arz239 (j := (1 : Int32)) hinz239 (g := (mkF m 204 #[oR fi, oI 0, oD X_, oS, oD X_, oS, oI 1, oI 1, oU, oU, oU, oU, oU, oU] [(.double V1), (.int 1), (.ref pe)])) rfl rfl (hb hby own_d6_204)
  refine own_go stz239 ?_
  have V_pe_ : Arv Z hz239 pe kpe .double (2 : Int32) [(.double V0), (.double V1)] (.double 0) := Arv.set Arz239 qz239 Sz239 Mz239 HHz239 Gz239 rfl Wz239 1 rfl (Nat.le_of_ble_eq_true rfl)
  have Nz239 := Fr.snoc Xz239 Nz227 g_pe
  have E_fi := E_fi.wr Wz239
  have F22 := F22.other Wz239 (own_o2 lt_pe_fi)
  have F0 := F0.other Wz239 (own_o2 lt_pe_fi)
  have F2 := F2.other Wz239 (own_o2 lt_pe_fi)
  have F38 := F38.other Wz239 (own_o2 lt_pe_fi)
  have F36 := F36.other Wz239 (own_o2 lt_pe_fi)
  have F18 := F18.other Wz239 (own_o2 lt_pe_fi)
  have F12 := F12.other Wz239 (own_o2 lt_pe_fi)
  have F26 := F26.other Wz239 (own_o2 lt_pe_fi)
  have F40 := F40.other Wz239 (own_o2 lt_pe_fi)
  have F16 := F16.other Wz239 (own_o2 lt_pe_fi)
  have F6 := F6.other Wz239 (own_o2 lt_pe_fi)
  have F34 := F34.other Wz239 (own_o2 lt_pe_fi)
  have F20 := F20.other Wz239 (own_o2 lt_pe_fi)
  have F10 := F10.other Wz239 (own_o2 lt_pe_fi)
  have F4 := F4.other Wz239 (own_o1 lt_le_pe)
  have F14 := F14.other Wz239 (own_o1 lt_le_pe)
  have F8 := F8.other Wz239 (own_o1 lt_le_pe)
  have F28 := F28.other Wz239 (own_o1 lt_le_pe)
  have F24 := F24.other Wz239 (own_o1 lt_le_pe)
  have V_jo := V_jo.other Wz239 (Nat.ne_of_lt lt_jo_pe)
  have V_go := V_go.other Wz239 (Nat.ne_of_lt lt_go_pe)
  have V_li := V_li.other Wz239 (Nat.ne_of_gt lt_pe_li)
  have V_in_ := V_in_.other Wz239 (Nat.ne_of_gt lt_pe_in_)
  have V_ou := V_ou.other Wz239 (Nat.ne_of_gt lt_pe_ou)
  have V_fl := V_fl.other Wz239 (Nat.ne_of_gt lt_pe_fl)
  have V_el := V_el.other Wz239 (Nat.ne_of_gt lt_pe_el)
  have V_ev := V_ev.other Wz239 (Nat.ne_of_gt lt_pe_ev)
  have V_st := V_st.other Wz239 (Nat.ne_of_gt lt_pe_st)
  have V_se := V_se.other Wz239 (Nat.ne_of_gt lt_pe_se)
  have K := K.wr Wz239 (Or.inl (List.mem_of_getElem? (i := 2) rfl))
  have F30 := F30.other Wz239 (own_o2 lt_pe_fi)
  have F32 := F32.other Wz239 (own_o2 lt_pe_fi)
  have V_pe := V_pe_
  show own_Go _ _ _ _ Tz239 (mkF m 205 #[oR fi, oI 0, oD X_, oS, oD X_, oS, oI 1, oI 1, oU, oU, oU, oU, oU, oU] [])
  refine own_go (fun _ k => XS.iinc Xz239.here hx rfl (hb hby own_d6_205) rfl (l' := #[oR fi, oI 0, oD X_, oS, oD X_, oS, oI ((1 : Int32) + (1 : Int32)), oI 1, oU, oU, oU, oU, oU, oU]) rfl k) ?_
  show own_Go _ _ _ _ Tz239 (mkF m 208 #[oR fi, oI 0, oD X_, oS, oD X_, oS, oI ((1 : Int32) + (1 : Int32)), oI 1, oU, oU, oU, oU, oU, oU] [])
  refine own_go (fun _ k => XS.goto Xz239.here hx rfl (pc0 := 208) (pc' := 156) rfl (hb hby own_d6_208) (by decide) (by decide) k) ?_
  show own_Go _ _ _ _ Tz239 (mkF m 156 #[oR fi, oI 0, oD X_, oS, oD X_, oS, oI ((1 : Int32) + (1 : Int32)), oI 1, oU, oU, oU, oU, oU, oU] [])
  show own_Go _ _ _ _ Tz239 (mkF m 156 #[oR fi, oI 0, oD X_, oS, oD X_, oS, oI 2, oI 1, oU, oU, oU, oU, oU, oU] [])
  refine own_go (fun _ k => XS.iload Xz239.here hx rfl (hb hby own_d6_156) rfl k) ?_
  show own_Go _ _ _ _ Tz239 (mkF m 158 #[oR fi, oI 0, oD X_, oS, oD X_, oS, oI 2, oI 1, oU, oU, oU, oU, oU, oU] [(.int 2)])
  refine own_go (fun _ k => XS.aloadN Xz239.here hx rfl (hb hby own_d6_158) rfl rfl k) ?_
  show own_Go _ _ _ _ Tz239 (mkF m 159 #[oR fi, oI 0, oD X_, oS, oD X_, oS, oI 2, oI 1, oU, oU, oU, oU, oU, oU] [(.ref fi), (.int 2)])
  obtain ⟨Tz240, Xz240, ez240, stz240⟩ := getF Xz239 hx hZ hown (host := "") (Or.inl (hw _ (List.mem_of_getElem? (i := 72) rfl))) Via.refl ez239 F20 (g := (mkF m 159 #[oR fi, oI 0, oD X_, oS, oD X_, oS, oI 2, oI 1, oU, oU, oU, oU, oU, oU] [(.ref fi), (.int 2)])) rfl rfl (hb hby own_d6_159)
  refine own_go stz240 ?_
  show own_Go _ _ _ _ Tz240 (mkF m 162 #[oR fi, oI 0, oD X_, oS, oD X_, oS, oI 2, oI 1, oU, oU, oU, oU, oU, oU] [(.int 2), (.int 2)])
  refine own_go (fun _ k => XS.icmpYes Xz240.here hx rfl (pc0 := 162) (pc' := 211) rfl (hb hby own_d6_162) rfl (flt (by decide : ¬ ((2 : Int32) < (2 : Int32)))).2.1 (by decide) (by decide) k) ?_
  show own_Go _ _ _ _ Tz240 (mkF m 211 #[oR fi, oI 0, oD X_, oS, oD X_, oS, oI 2, oI 1, oU, oU, oU, oU, oU, oU] [])
  refine own_go (fun _ k => XS.aloadN Xz240.here hx rfl (hb hby own_d6_211) rfl rfl k) ?_
  show own_Go _ _ _ _ Tz240 (mkF m 212 #[oR fi, oI 0, oD X_, oS, oD X_, oS, oI 2, oI 1, oU, oU, oU, oU, oU, oU] [(.ref fi)])
  obtain ⟨Tz241, Xz241, ez241, stz241⟩ := getF Xz240 hx hZ hown (host := "") (Or.inl (hw _ (List.mem_of_getElem? (i := 61) rfl))) Via.refl ez240 F34 (g := (mkF m 212 #[oR fi, oI 0, oD X_, oS, oD X_, oS, oI 2, oI 1, oU, oU, oU, oU, oU, oU] [(.ref fi)])) rfl rfl (hb hby own_d6_212)
  refine own_go stz241 ?_
  show own_Go _ _ _ _ Tz241 (mkF m 215 #[oR fi, oI 0, oD X_, oS, oD X_, oS, oI 2, oI 1, oU, oU, oU, oU, oU, oU] [(.int 0)])
  refine own_go (fun _ k => XS.ifYes Xz241.here hx rfl (pc0 := 215) (pc' := 364) rfl (hb hby own_d6_215) rfl ((if0 _ _).trans (flt (by decide : ¬ ((0 : Int32) < (0 : Int32)))).2.2.2) (by decide) (by decide) k) ?_
  show own_Go _ _ _ _ Tz241 (mkF m 364 #[oR fi, oI 0, oD X_, oS, oD X_, oS, oI 2, oI 1, oU, oU, oU, oU, oU, oU] [])
  refine own_go (fun _ k => XS.iconst Xz241.here hx rfl (hb hby own_d6_364) k) ?_
  show own_Go _ _ _ _ Tz241 (mkF m 365 #[oR fi, oI 0, oD X_, oS, oD X_, oS, oI 2, oI 1, oU, oU, oU, oU, oU, oU] [(.int 0)])
  refine own_go (fun _ k => XS.istore Xz241.here hx rfl (hb hby own_d6_365) rfl (l' := #[oR fi, oI 0, oD X_, oS, oD X_, oS, oI 0, oI 1, oU, oU, oU, oU, oU, oU]) rfl k) ?_
  show own_Go _ _ _ _ Tz241 (mkF m 367 #[oR fi, oI 0, oD X_, oS, oD X_, oS, oI 0, oI 1, oU, oU, oU, oU, oU, oU] [])
  refine own_go (fun _ k => XS.iload Xz241.here hx rfl (hb hby own_d6_367) rfl k) ?_
  show own_Go _ _ _ _ Tz241 (mkF m 369 #[oR fi, oI 0, oD X_, oS, oD X_, oS, oI 0, oI 1, oU, oU, oU, oU, oU, oU] [(.int 0)])
  refine own_go (fun _ k => XS.aloadN Xz241.here hx rfl (hb hby own_d6_369) rfl rfl k) ?_
  show own_Go _ _ _ _ Tz241 (mkF m 370 #[oR fi, oI 0, oD X_, oS, oD X_, oS, oI 0, oI 1, oU, oU, oU, oU, oU, oU] [(.ref fi), (.int 0)])
  obtain ⟨Tz242, Xz242, ez242, stz242⟩ := getF Xz241 hx hZ hown (host := "") (Or.inl (hw _ (List.mem_of_getElem? (i := 72) rfl))) Via.refl ez241 F20 (g := (mkF m 370 #[oR fi, oI 0, oD X_, oS, oD X_, oS, oI 0, oI 1, oU, oU, oU, oU, oU, oU] [(.ref fi), (.int 0)])) rfl rfl (hb hby own_d6_370)
  refine own_go stz242 ?_
  show own_Go _ _ _ _ Tz242 (mkF m 373 #[oR fi, oI 0, oD X_, oS, oD X_, oS, oI 0, oI 1, oU, oU, oU, oU, oU, oU] [(.int 2), (.int 0)])
  refine own_go (fun _ k => XS.icmpNo Xz242.here hx rfl (hb hby own_d6_373) rfl (tlt (by decide : (0 : Int32) < (2 : Int32))).2.1 k) ?_
  show own_Go _ _ _ _ Tz242 (mkF m 376 #[oR fi, oI 0, oD X_, oS, oD X_, oS, oI 0, oI 1, oU, oU, oU, oU, oU, oU] [])
  refine own_go (fun _ k => XS.aloadN Xz242.here hx rfl (hb hby own_d6_376) rfl rfl k) ?_
  show own_Go _ _ _ _ Tz242 (mkF m 377 #[oR fi, oI 0, oD X_, oS, oD X_, oS, oI 0, oI 1, oU, oU, oU, oU, oU, oU] [(.ref fi)])
  obtain ⟨Tz243, Xz243, ez243, stz243⟩ := getF Xz242 hx hZ hown (host := "") (Or.inl (hw _ (List.mem_of_getElem? (i := 29) rfl))) Via.refl ez242 F22 (g := (mkF m 377 #[oR fi, oI 0, oD X_, oS, oD X_, oS, oI 0, oI 1, oU, oU, oU, oU, oU, oU] [(.ref fi)])) rfl rfl (hb hby own_d6_377)
  refine own_go stz243 ?_
  show own_Go _ _ _ _ Tz243 (mkF m 380 #[oR fi, oI 0, oD X_, oS, oD X_, oS, oI 0, oI 1, oU, oU, oU, oU, oU, oU] [(.ref fl)])
  refine own_go (fun _ k => XS.iload Xz243.here hx rfl (hb hby own_d6_380) rfl k) ?_
  show own_Go _ _ _ _ Tz243 (mkF m 382 #[oR fi, oI 0, oD X_, oS, oD X_, oS, oI 0, oI 1, oU, oU, oU, oU, oU, oU] [(.int 0), (.ref fl)])
  obtain ⟨clz244, Arz244, qz244, Sz244, Mz244, HHz244, Gz244⟩ := id V_fl
  have hinz244 : ¬ ((0 : Int32) < 0 ∨ clz244.slots.size ≤ ((0 : Int32)).toNatClampNeg) := inb_of Sz244 ⟨(by decide), (by decide)⟩
  have hatz244 : clz244.slots[((0 : Int32)).toNatClampNeg]? = some (.int 0) := HHz244.at hinz244 (rfl)
  refine own_go (fun _ k => Xz243.iaload hx (j := (0 : Int32)) (v := (.int 0)) (by rw [ez243]; exact Arz244.1) (State.isArrayOf_alike hZ.alike Arz244.2.1) Arz244.2.2 hinz244 hatz244 (g := (mkF m 382 #[oR fi, oI 0, oD X_, oS, oD X_, oS, oI 0, oI 1, oU, oU, oU, oU, oU, oU] [(.int 0), (.ref fl)])) rfl rfl (hb hby own_d6_382) _ k) ?_
  show own_Go _ _ _ _ Tz243 (mkF m 383 #[oR fi, oI 0, oD X_, oS, oD X_, oS, oI 0, oI 1, oU, oU, oU, oU, oU, oU] [(.int 0)])
  refine own_go (fun _ k => XS.istore Xz243.here hx rfl (hb hby own_d6_383) rfl (l' := #[oR fi, oI 0, oD X_, oS, oD X_, oS, oI 0, oI 0, oU, oU, oU, oU, oU, oU]) rfl k) ?_
  show own_Go _ _ _ _ Tz243 (mkF m 385 #[oR fi, oI 0, oD X_, oS, oD X_, oS, oI 0, oI 0, oU, oU, oU, oU, oU, oU] [])
  refine own_go (fun _ k => XS.aloadN Xz243.here hx rfl (hb hby own_d6_385) rfl rfl k) ?_
  show own_Go _ _ _ _ Tz243 (mkF m 386 #[oR fi, oI 0, oD X_, oS, oD X_, oS, oI 0, oI 0, oU, oU, oU, oU, oU, oU] [(.ref fi)])
  obtain ⟨Tz245, Xz245, ez245, stz245⟩ := getF Xz243 hx hZ hown (host := "") (Or.inl (hw _ (List.mem_of_getElem? (i := 39) rfl))) Via.refl ez243 F18 (g := (mkF m 386 #[oR fi, oI 0, oD X_, oS, oD X_, oS, oI 0, oI 0, oU, oU, oU, oU, oU, oU] [(.ref fi)])) rfl rfl (hb hby own_d6_386)
  refine own_go stz245 ?_
  show own_Go _ _ _ _ Tz245 (mkF m 389 #[oR fi, oI 0, oD X_, oS, oD X_, oS, oI 0, oI 0, oU, oU, oU, oU, oU, oU] [(.ref le)])
  refine own_go (fun _ k => own_getR Xz245 hx hZ hown (hw _ (List.mem_of_getElem? (i := 85) rfl)) ez245 F28 (g := (mkF m 389 #[oR fi, oI 0, oD X_, oS, oD X_, oS, oI 0, oI 0, oU, oU, oU, oU, oU, oU] [(.ref le)])) rfl rfl (hb hby own_d6_389) _ k) ?_
  show own_Go _ _ _ _ Tz245 (mkF m 392 #[oR fi, oI 0, oD X_, oS, oD X_, oS, oI 0, oI 0, oU, oU, oU, oU, oU, oU] [(.ref pe)])
  refine own_go (fun _ k => XS.iload Xz245.here hx rfl (hb hby own_d6_392) rfl k) ?_
  show own_Go _ _ _ _ Tz245 (mkF m 394 #[oR fi, oI 0, oD X_, oS, oD X_, oS, oI 0, oI 0, oU, oU, oU, oU, oU, oU] [(.int 0), (.ref pe)])
  refine own_go (fun _ k => XS.dconst0 Xz245.here hx rfl (hb hby own_d6_394) own_dc0 k) ?_
  show own_Go _ _ _ _ Tz245 (mkF m 395 #[oR fi, oI 0, oD X_, oS, oD X_, oS, oI 0, oI 0, oU, oU, oU, oU, oU, oU] [(.double 0), (.int 0), (.ref pe)])
  refine own_go (fun _ k => XS.aloadN Xz245.here hx rfl (hb hby own_d6_395) rfl rfl k) ?_
  show own_Go _ _ _ _ Tz245 (mkF m 396 #[oR fi, oI 0, oD X_, oS, oD X_, oS, oI 0, oI 0, oU, oU, oU, oU, oU, oU] [(.ref fi), (.double 0), (.int 0), (.ref pe)])
  obtain ⟨Tz247, Xz247, ez247, stz247⟩ := getF Xz245 hx hZ hown (host := "") (Or.inl (hw _ (List.mem_of_getElem? (i := 39) rfl))) Via.refl ez245 F18 (g := (mkF m 396 #[oR fi, oI 0, oD X_, oS, oD X_, oS, oI 0, oI 0, oU, oU, oU, oU, oU, oU] [(.ref fi), (.double 0), (.int 0), (.ref pe)])) rfl rfl (hb hby own_d6_396)
  refine own_go stz247 ?_
  show own_Go _ _ _ _ Tz247 (mkF m 399 #[oR fi, oI 0, oD X_, oS, oD X_, oS, oI 0, oI 0, oU, oU, oU, oU, oU, oU] [(.ref le), (.double 0), (.int 0), (.ref pe)])
  refine own_go (fun _ k => own_getR Xz247 hx hZ hown (hw _ (List.mem_of_getElem? (i := 85) rfl)) ez247 F28 (g := (mkF m 399 #[oR fi, oI 0, oD X_, oS, oD X_, oS, oI 0, oI 0, oU, oU, oU, oU, oU, oU] [(.ref le), (.double 0), (.int 0), (.ref pe)])) rfl rfl (hb hby own_d6_399) _ k) ?_
  show own_Go _ _ _ _ Tz247 (mkF m 402 #[oR fi, oI 0, oD X_, oS, oD X_, oS, oI 0, oI 0, oU, oU, oU, oU, oU, oU] [(.ref pe), (.double 0), (.int 0), (.ref pe)])
  refine own_go (fun _ k => XS.iload Xz247.here hx rfl (hb hby own_d6_402) rfl k) ?_
  show own_Go _ _ _ _ Tz247 (mkF m 404 #[oR fi, oI 0, oD X_, oS, oD X_, oS, oI 0, oI 0, oU, oU, oU, oU, oU, oU] [(.int 0), (.ref pe), (.double 0), (.int 0), (.ref pe)])
  obtain ⟨clz249, Arz249, qz249, Sz249, Mz249, HHz249, Gz249⟩ := id V_pe
  have hinz249 : ¬ ((0 : Int32) < 0 ∨ clz249.slots.size ≤ ((0 : Int32)).toNatClampNeg) := inb_of Sz249 ⟨(by decide), (by decide)⟩
  have hatz249 : clz249.slots[((0 : Int32)).toNatClampNeg]? = some (.double V0) := HHz249.at hinz249 (rfl)
  refine own_go (fun _ k => Xz247.daload hx (j := (0 : Int32)) (v := (.double V0)) (by rw [ez247]; exact Arz249.1) (State.isArrayOf_alike hZ.alike Arz249.2.1) Arz249.2.2 hinz249 hatz249 (g := (mkF m 404 #[oR fi, oI 0, oD X_, oS, oD X_, oS, oI 0, oI 0, oU, oU, oU, oU, oU, oU] [(.int 0), (.ref pe), (.double 0), (.int 0), (.ref pe)])) rfl rfl (hb hby own_d6_404) _ k) ?_
  show own_Go _ _ _ _ Tz247 (mkF m 405 #[oR fi, oI 0, oD X_, oS, oD X_, oS, oI 0, oI 0, oU, oU, oU, oU, oU, oU] [(.double V0), (.double 0), (.int 0), (.ref pe)])
  obtain ⟨Tz250, Xz250, ez250, stz250⟩ := natS Xz247 hx hZ hown (hw _ (List.mem_of_getElem? (i := 74) rfl)) (hw _ (List.mem_of_getElem? (i := 75) rfl)) (hw _ (List.mem_of_getElem? (i := 76) rfl)) (hw _ (List.mem_of_getElem? (i := 77) rfl)) (by decide) ez247 (W := 2) (F := fun a' => a' = #[.double 0, .double V0] ∧ NoNaN64 (0 : UInt64) ∧ NoNaN64 V0) (val := .double (Native.java_lang_Math.nans.pick64 true (0 : UInt64) V0)) (val' := .double V0) (fun hc => Jvm.Free.Fl.Abs.maxD_pays (0 : UInt64) V0 hc (by decide) (by decide)) (g := (mkF m 405 #[oR fi, oI 0, oD X_, oS, oD X_, oS, oI 0, oI 0, oU, oU, oU, oU, oU, oU] [(.double V0), (.double 0), (.int 0), (.ref pe)])) rfl (by rw [hml]; rfl) (argsL := [(.double 0), (.double V0)]) (rest := [(.int 0), (.ref pe)]) (lenOf own_pd1 rfl) rfl (by show 2 * 0 + _ ≤ _; exact Nat.le_of_eq rfl) (hb hby own_d6_405) (by decide) (by decide) ⟨rfl, own_nn0, hn0⟩ (congrArg Value.double hm0)
  refine own_go stz250 ?_
  show own_Go _ _ _ _ Tz250 (mkF m 408 #[oR fi, oI 0, oD X_, oS, oD X_, oS, oI 0, oI 0, oU, oU, oU, oU, oU, oU] [(.double V0), (.int 0), (.ref pe)])
  obtain ⟨clz251, Arz251, qz251, Sz251, Mz251, HHz251, Gz251⟩ := V_pe
  have hinz251 : ¬ ((0 : Int32) < 0 ∨ clz251.slots.size ≤ ((0 : Int32)).toNatClampNeg) := inb_of Sz251 ⟨(by decide), (by decide)⟩
  obtain ⟨Tz251, hz251, Xz251, ez251, Wz251, stz251⟩ := stD Xz250 hx hZ ez250 Arz251 (j := (0 : Int32)) hinz251 (g := (mkF m 408 #[oR fi, oI 0, oD X_, oS, oD X_, oS, oI 0, oI 0, oU, oU, oU, oU, oU, oU] [(.double V0), (.int 0), (.ref pe)])) rfl rfl (hb hby own_d6_408)
  refine own_go stz251 ?_
  have V_pe_ : Arv Z hz251 pe kpe .double (2 : Int32) [(.double V0), (.double V1)] (.double 0) := Arv.set Arz251 qz251 Sz251 Mz251 HHz251 Gz251 rfl Wz251 0 rfl (Nat.le_of_ble_eq_true rfl)
  have Nz251 := Fr.snoc Xz251 Nz239 g_pe
  have E_fi := E_fi.wr Wz251
  have F22 := F22.other Wz251 (own_o2 lt_pe_fi)
  have F0 := F0.other Wz251 (own_o2 lt_pe_fi)
  have F2 := F2.other Wz251 (own_o2 lt_pe_fi)
  have F38 := F38.other Wz251 (own_o2 lt_pe_fi)
  have F36 := F36.other Wz251 (own_o2 lt_pe_fi)
  have F18 := F18.other Wz251 (own_o2 lt_pe_fi)
  have F12 := F12.other Wz251 (own_o2 lt_pe_fi)
  have F26 := F26.other Wz251 (own_o2 lt_pe_fi)
  have F40 := F40.other Wz251 (own_o2 lt_pe_fi)
  have F16 := F16.other Wz251 (own_o2 lt_pe_fi)
  have F6 := F6.other Wz251 (own_o2 lt_pe_fi)
  have F34 := F34.other Wz251 (own_o2 lt_pe_fi)
  have F20 := F20.other Wz251 (own_o2 lt_pe_fi)
  have F10 := F10.other Wz251 (own_o2 lt_pe_fi)
  have F4 := F4.other Wz251 (own_o1 lt_le_pe)
  have F14 := F14.other Wz251 (own_o1 lt_le_pe)
  have F8 := F8.other Wz251 (own_o1 lt_le_pe)
  have F28 := F28.other Wz251 (own_o1 lt_le_pe)
  have F24 := F24.other Wz251 (own_o1 lt_le_pe)
  have V_jo := V_jo.other Wz251 (Nat.ne_of_lt lt_jo_pe)
  have V_go := V_go.other Wz251 (Nat.ne_of_lt lt_go_pe)
  have V_li := V_li.other Wz251 (Nat.ne_of_gt lt_pe_li)
  have V_in_ := V_in_.other Wz251 (Nat.ne_of_gt lt_pe_in_)
  have V_ou := V_ou.other Wz251 (Nat.ne_of_gt lt_pe_ou)
  have V_fl := V_fl.other Wz251 (Nat.ne_of_gt lt_pe_fl)
  have V_el := V_el.other Wz251 (Nat.ne_of_gt lt_pe_el)
  have V_ev := V_ev.other Wz251 (Nat.ne_of_gt lt_pe_ev)
  have V_st := V_st.other Wz251 (Nat.ne_of_gt lt_pe_st)
  have V_se := V_se.other Wz251 (Nat.ne_of_gt lt_pe_se)
  have K := K.wr Wz251 (Or.inl (List.mem_of_getElem? (i := 2) rfl))
  have F30 := F30.other Wz251 (own_o2 lt_pe_fi)
  have F32 := F32.other Wz251 (own_o2 lt_pe_fi)
  have V_pe := V_pe_
  show own_Go _ _ _ _ Tz251 (mkF m 409 #[oR fi, oI 0, oD X_, oS, oD X_, oS, oI 0, oI 0, oU, oU, oU, oU, oU, oU] [])
  refine own_go (fun _ k => XS.aloadN Xz251.here hx rfl (hb hby own_d6_409) rfl rfl k) ?_
  show own_Go _ _ _ _ Tz251 (mkF m 410 #[oR fi, oI 0, oD X_, oS, oD X_, oS, oI 0, oI 0, oU, oU, oU, oU, oU, oU] [(.ref fi)])
  refine own_go (fun _ k => XS.dup Xz251.here hx rfl (hb hby own_d6_410) rfl rfl k) ?_
  show own_Go _ _ _ _ Tz251 (mkF m 411 #[oR fi, oI 0, oD X_, oS, oD X_, oS, oI 0, oI 0, oU, oU, oU, oU, oU, oU] [(.ref fi), (.ref fi)])
  obtain ⟨Tz252, Xz252, ez252, stz252⟩ := getF Xz251 hx hZ hown (host := "") (Or.inl (hw _ (List.mem_of_getElem? (i := 68) rfl))) Via.refl ez251 F30 (g := (mkF m 411 #[oR fi, oI 0, oD X_, oS, oD X_, oS, oI 0, oI 0, oU, oU, oU, oU, oU, oU] [(.ref fi), (.ref fi)])) rfl rfl (hb hby own_d6_411)
  refine own_go stz252 ?_
  show own_Go _ _ _ _ Tz252 (mkF m 414 #[oR fi, oI 0, oD X_, oS, oD X_, oS, oI 0, oI 0, oU, oU, oU, oU, oU, oU] [(.double 0), (.ref fi)])
  refine own_go (fun _ k => XS.aloadN Xz252.here hx rfl (hb hby own_d6_414) rfl rfl k) ?_
  show own_Go _ _ _ _ Tz252 (mkF m 415 #[oR fi, oI 0, oD X_, oS, oD X_, oS, oI 0, oI 0, oU, oU, oU, oU, oU, oU] [(.ref fi), (.double 0), (.ref fi)])
  obtain ⟨Tz253, Xz253, ez253, stz253⟩ := getF Xz252 hx hZ hown (host := "") (Or.inl (hw _ (List.mem_of_getElem? (i := 39) rfl))) Via.refl ez252 F18 (g := (mkF m 415 #[oR fi, oI 0, oD X_, oS, oD X_, oS, oI 0, oI 0, oU, oU, oU, oU, oU, oU] [(.ref fi), (.double 0), (.ref fi)])) rfl rfl (hb hby own_d6_415)
  refine own_go stz253 ?_
  show own_Go _ _ _ _ Tz253 (mkF m 418 #[oR fi, oI 0, oD X_, oS, oD X_, oS, oI 0, oI 0, oU, oU, oU, oU, oU, oU] [(.ref le), (.double 0), (.ref fi)])
  refine own_go (fun _ k => own_getR Xz253 hx hZ hown (hw _ (List.mem_of_getElem? (i := 85) rfl)) ez253 F28 (g := (mkF m 418 #[oR fi, oI 0, oD X_, oS, oD X_, oS, oI 0, oI 0, oU, oU, oU, oU, oU, oU] [(.ref le), (.double 0), (.ref fi)])) rfl rfl (hb hby own_d6_418) _ k) ?_
  show own_Go _ _ _ _ Tz253 (mkF m 421 #[oR fi, oI 0, oD X_, oS, oD X_, oS, oI 0, oI 0, oU, oU, oU, oU, oU, oU] [(.ref pe), (.double 0), (.ref fi)])
  refine own_go (fun _ k => XS.iload Xz253.here hx rfl (hb hby own_d6_421) rfl k) ?_
  show own_Go _ _ _ _ Tz253 (mkF m 423 #[oR fi, oI 0, oD X_, oS, oD X_, oS, oI 0, oI 0, oU, oU, oU, oU, oU, oU] [(.int 0), (.ref pe), (.double 0), (.ref fi)])
  obtain ⟨clz255, Arz255, qz255, Sz255, Mz255, HHz255, Gz255⟩ := id V_pe
  have hinz255 : ¬ ((0 : Int32) < 0 ∨ clz255.slots.size ≤ ((0 : Int32)).toNatClampNeg) := inb_of Sz255 ⟨(by decide), (by decide)⟩
  have hatz255 : clz255.slots[((0 : Int32)).toNatClampNeg]? = some (.double V0) := HHz255.at hinz255 (rfl)
  refine own_go (fun _ k => Xz253.daload hx (j := (0 : Int32)) (v := (.double V0)) (by rw [ez253]; exact Arz255.1) (State.isArrayOf_alike hZ.alike Arz255.2.1) Arz255.2.2 hinz255 hatz255 (g := (mkF m 423 #[oR fi, oI 0, oD X_, oS, oD X_, oS, oI 0, oI 0, oU, oU, oU, oU, oU, oU] [(.int 0), (.ref pe), (.double 0), (.ref fi)])) rfl rfl (hb hby own_d6_423) _ k) ?_
  show own_Go _ _ _ _ Tz253 (mkF m 424 #[oR fi, oI 0, oD X_, oS, oD X_, oS, oI 0, oI 0, oU, oU, oU, oU, oU, oU] [(.double V0), (.double 0), (.ref fi)])
  refine own_go (fun _ k => XS.daddS Xz253.here hx rfl (hb hby own_d6_424) rfl (by rw [ha0]; exact hn0) ha0 k) ?_
  show own_Go _ _ _ _ Tz253 (mkF m 425 #[oR fi, oI 0, oD X_, oS, oD X_, oS, oI 0, oI 0, oU, oU, oU, oU, oU, oU] [(.double V0), (.ref fi)])
  obtain ⟨Tz256, hz256, Xz256, ez256, Wz256, stz256⟩ := putF Xz253 hx hZ hown (host := "") (Or.inl (hw _ (List.mem_of_getElem? (i := 68) rfl))) Via.refl ez253 F30 E_fi (Or.inl (hw _ (List.mem_of_getElem? (i := 69) rfl))) (hw _ (List.mem_of_getElem? (i := 23) rfl)) (ty := .double) (by decide) rfl rfl (g := (mkF m 425 #[oR fi, oI 0, oD X_, oS, oD X_, oS, oI 0, oI 0, oU, oU, oU, oU, oU, oU] [(.double V0), (.ref fi)])) rfl rfl (hb hby own_d6_425)
  refine own_go stz256 ?_
  have Nz256 := Fr.snoc Xz256 Nz251 g_fi
  have F31 := F30.same Wz256
  have E_fi := E_fi.wr Wz256
  have F22 := F22.other Wz256 (own_sl hw 30 69 (Or.inl rfl) (Or.inl rfl) (by decide))
  have F0 := F0.other Wz256 (own_sl hw 32 69 (Or.inl rfl) (Or.inl rfl) (by decide))
  have F2 := F2.other Wz256 (own_sl hw 34 69 (Or.inl rfl) (Or.inl rfl) (by decide))
  have F38 := F38.other Wz256 (own_sl hw 36 69 (Or.inl rfl) (Or.inl rfl) (by decide))
  have F36 := F36.other Wz256 (own_sl hw 38 69 (Or.inl rfl) (Or.inl rfl) (by decide))
  have F18 := F18.other Wz256 (own_sl hw 40 69 (Or.inr rfl) (Or.inl rfl) (by decide))
  have F12 := F12.other Wz256 (own_sl hw 42 69 (Or.inr rfl) (Or.inl rfl) (by decide))
  have F26 := F26.other Wz256 (own_sl hw 44 69 (Or.inr rfl) (Or.inl rfl) (by decide))
  have F40 := F40.other Wz256 (own_sl hw 51 69 (Or.inl rfl) (Or.inl rfl) (by decide))
  have F16 := F16.other Wz256 (own_sl hw 58 69 (Or.inl rfl) (Or.inl rfl) (by decide))
  have F6 := F6.other Wz256 (own_sl hw 60 69 (Or.inl rfl) (Or.inl rfl) (by decide))
  have F34 := F34.other Wz256 (own_sl hw 62 69 (Or.inl rfl) (Or.inl rfl) (by decide))
  have F20 := F20.other Wz256 (own_sl hw 73 69 (Or.inl rfl) (Or.inl rfl) (by decide))
  have F10 := F10.other Wz256 (own_sl hw 79 69 (Or.inl rfl) (Or.inl rfl) (by decide))
  have F4 := F4.other Wz256 (own_o1 lt_le_fi)
  have F14 := F14.other Wz256 (own_o1 lt_le_fi)
  have F8 := F8.other Wz256 (own_o1 lt_le_fi)
  have F28 := F28.other Wz256 (own_o1 lt_le_fi)
  have F24 := F24.other Wz256 (own_o1 lt_le_fi)
  have V_jo := V_jo.other Wz256 (Nat.ne_of_lt lt_jo_fi)
  have V_go := V_go.other Wz256 (Nat.ne_of_lt lt_go_fi)
  have V_li := V_li.other Wz256 (Nat.ne_of_lt lt_li_fi)
  have V_in_ := V_in_.other Wz256 (Nat.ne_of_gt lt_fi_in_)
  have V_ou := V_ou.other Wz256 (Nat.ne_of_gt lt_fi_ou)
  have V_fl := V_fl.other Wz256 (Nat.ne_of_gt lt_fi_fl)
  have V_el := V_el.other Wz256 (Nat.ne_of_gt lt_fi_el)
  have V_ev := V_ev.other Wz256 (Nat.ne_of_gt lt_fi_ev)
  have V_st := V_st.other Wz256 (Nat.ne_of_gt lt_fi_st)
  have V_se := V_se.other Wz256 (Nat.ne_of_gt lt_fi_se)
  have K := K.wr Wz256 (Or.inl (List.mem_of_getElem? (i := 0) rfl))
  have F32 := F32.other Wz256 (own_sl hw 71 69 (Or.inl rfl) (Or.inl rfl) (by decide))
  have V_pe := V_pe.other Wz256 (Nat.ne_of_lt lt_pe_fi)
  have F30 := F31
  show own_Go _ _ _ _ Tz256 (mkF m 428 #[oR fi, oI 0, oD X_, oS, oD X_, oS, oI 0, oI 0, oU, oU, oU, oU, oU, oU] [])
  refine own_go (fun _ k => XS.iinc Xz256.here hx rfl (hb hby own_d6_428) rfl (l' := #[oR fi, oI 0, oD X_, oS, oD X_, oS, oI ((0 : Int32) + (1 : Int32)), oI 0, oU, oU, oU, oU, oU, oU]) rfl k) ?_
  show own_Go _ _ _ _ Tz256 (mkF m 431 #[oR fi, oI 0, oD X_, oS, oD X_, oS, oI ((0 : Int32) + (1 : Int32)), oI 0, oU, oU, oU, oU, oU, oU] [])
  refine own_go (fun _ k => XS.goto Xz256.here hx rfl (pc0 := 431) (pc' := 367) rfl (hb hby own_d6_431) (by decide) (by decide) k) ?_
  show own_Go _ _ _ _ Tz256 (mkF m 367 #[oR fi, oI 0, oD X_, oS, oD X_, oS, oI ((0 : Int32) + (1 : Int32)), oI 0, oU, oU, oU, oU, oU, oU] [])
  show own_Go _ _ _ _ Tz256 (mkF m 367 #[oR fi, oI 0, oD X_, oS, oD X_, oS, oI 1, oI 0, oU, oU, oU, oU, oU, oU] [])
  refine own_go (fun _ k => XS.iload Xz256.here hx rfl (hb hby own_d6_367) rfl k) ?_
  show own_Go _ _ _ _ Tz256 (mkF m 369 #[oR fi, oI 0, oD X_, oS, oD X_, oS, oI 1, oI 0, oU, oU, oU, oU, oU, oU] [(.int 1)])
  refine own_go (fun _ k => XS.aloadN Xz256.here hx rfl (hb hby own_d6_369) rfl rfl k) ?_
  show own_Go _ _ _ _ Tz256 (mkF m 370 #[oR fi, oI 0, oD X_, oS, oD X_, oS, oI 1, oI 0, oU, oU, oU, oU, oU, oU] [(.ref fi), (.int 1)])
  obtain ⟨Tz257, Xz257, ez257, stz257⟩ := getF Xz256 hx hZ hown (host := "") (Or.inl (hw _ (List.mem_of_getElem? (i := 72) rfl))) Via.refl ez256 F20 (g := (mkF m 370 #[oR fi, oI 0, oD X_, oS, oD X_, oS, oI 1, oI 0, oU, oU, oU, oU, oU, oU] [(.ref fi), (.int 1)])) rfl rfl (hb hby own_d6_370)
  refine own_go stz257 ?_
  show own_Go _ _ _ _ Tz257 (mkF m 373 #[oR fi, oI 0, oD X_, oS, oD X_, oS, oI 1, oI 0, oU, oU, oU, oU, oU, oU] [(.int 2), (.int 1)])
  refine own_go (fun _ k => XS.icmpNo Xz257.here hx rfl (hb hby own_d6_373) rfl (tlt (by decide : (1 : Int32) < (2 : Int32))).2.1 k) ?_
  show own_Go _ _ _ _ Tz257 (mkF m 376 #[oR fi, oI 0, oD X_, oS, oD X_, oS, oI 1, oI 0, oU, oU, oU, oU, oU, oU] [])
  refine own_go (fun _ k => XS.aloadN Xz257.here hx rfl (hb hby own_d6_376) rfl rfl k) ?_
  show own_Go _ _ _ _ Tz257 (mkF m 377 #[oR fi, oI 0, oD X_, oS, oD X_, oS, oI 1, oI 0, oU, oU, oU, oU, oU, oU] [(.ref fi)])
  obtain ⟨Tz258, Xz258, ez258, stz258⟩ := getF Xz257 hx hZ hown (host := "") (Or.inl (hw _ (List.mem_of_getElem? (i := 29) rfl))) Via.refl ez257 F22 (g := (mkF m 377 #[oR fi, oI 0, oD X_, oS, oD X_, oS, oI 1, oI 0, oU, oU, oU, oU, oU, oU] [(.ref fi)])) rfl rfl (hb hby own_d6_377)
  refine own_go stz258 ?_
  show own_Go _ _ _ _ Tz258 (mkF m 380 #[oR fi, oI 0, oD X_, oS, oD X_, oS, oI 1, oI 0, oU, oU, oU, oU, oU, oU] [(.ref fl)])
  refine own_go (fun _ k => XS.iload Xz258.here hx rfl (hb hby own_d6_380) rfl k) ?_
  show own_Go _ _ _ _ Tz258 (mkF m 382 #[oR fi, oI 0, oD X_, oS, oD X_, oS, oI 1, oI 0, oU, oU, oU, oU, oU, oU] [(.int 1), (.ref fl)])
  obtain ⟨clz259, Arz259, qz259, Sz259, Mz259, HHz259, Gz259⟩ := id V_fl
  have hinz259 : ¬ ((1 : Int32) < 0 ∨ clz259.slots.size ≤ ((1 : Int32)).toNatClampNeg) := inb_of Sz259 ⟨(by decide), (by decide)⟩
  have hatz259 : clz259.slots[((1 : Int32)).toNatClampNeg]? = some (.int 1) := HHz259.at hinz259 (rfl)
  refine own_go (fun _ k => Xz258.iaload hx (j := (1 : Int32)) (v := (.int 1)) (by rw [ez258]; exact Arz259.1) (State.isArrayOf_alike hZ.alike Arz259.2.1) Arz259.2.2 hinz259 hatz259 (g := (mkF m 382 #[oR fi, oI 0, oD X_, oS, oD X_, oS, oI 1, oI 0, oU, oU, oU, oU, oU, oU] [(.int 1), (.ref fl)])) rfl rfl (hb hby own_d6_382) _ k) ?_
  show own_Go _ _ _ _ Tz258 (mkF m 383 #[oR fi, oI 0, oD X_, oS, oD X_, oS, oI 1, oI 0, oU, oU, oU, oU, oU, oU] [(.int 1)])
  refine own_go (fun _ k => XS.istore Xz258.here hx rfl (hb hby own_d6_383) rfl (l' := #[oR fi, oI 0, oD X_, oS, oD X_, oS, oI 1, oI 1, oU, oU, oU, oU, oU, oU]) rfl k) ?_
  show own_Go _ _ _ _ Tz258 (mkF m 385 #[oR fi, oI 0, oD X_, oS, oD X_, oS, oI 1, oI 1, oU, oU, oU, oU, oU, oU] [])
  refine own_go (fun _ k => XS.aloadN Xz258.here hx rfl (hb hby own_d6_385) rfl rfl k) ?_
  show own_Go _ _ _ _ Tz258 (mkF m 386 #[oR fi, oI 0, oD X_, oS, oD X_, oS, oI 1, oI 1, oU, oU, oU, oU, oU, oU] [(.ref fi)])
  obtain ⟨Tz260, Xz260, ez260, stz260⟩ := getF Xz258 hx hZ hown (host := "") (Or.inl (hw _ (List.mem_of_getElem? (i := 39) rfl))) Via.refl ez258 F18 (g := (mkF m 386 #[oR fi, oI 0, oD X_, oS, oD X_, oS, oI 1, oI 1, oU, oU, oU, oU, oU, oU] [(.ref fi)])) rfl rfl (hb hby own_d6_386)
  refine own_go stz260 ?_
  show own_Go _ _ _ _ Tz260 (mkF m 389 #[oR fi, oI 0, oD X_, oS, oD X_, oS, oI 1, oI 1, oU, oU, oU, oU, oU, oU] [(.ref le)])
  refine own_go (fun _ k => own_getR Xz260 hx hZ hown (hw _ (List.mem_of_getElem? (i := 85) rfl)) ez260 F28 (g := (mkF m 389 #[oR fi, oI 0, oD X_, oS, oD X_, oS, oI 1, oI 1, oU, oU, oU, oU, oU, oU] [(.ref le)])) rfl rfl (hb hby own_d6_389) _ k) ?_
  show own_Go _ _ _ _ Tz260 (mkF m 392 #[oR fi, oI 0, oD X_, oS, oD X_, oS, oI 1, oI 1, oU, oU, oU, oU, oU, oU] [(.ref pe)])
  refine own_go (fun _ k => XS.iload Xz260.here hx rfl (hb hby own_d6_392) rfl k) ?_
  show own_Go _ _ _ _ Tz260 (mkF m 394 #[oR fi, oI 0, oD X_, oS, oD X_, oS, oI 1, oI 1, oU, oU, oU, oU, oU, oU] [(.int 1), (.ref pe)])
  refine own_go (fun _ k => XS.dconst0 Xz260.here hx rfl (hb hby own_d6_394) own_dc0 k) ?_
  show own_Go _ _ _ _ Tz260 (mkF m 395 #[oR fi, oI 0, oD X_, oS, oD X_, oS, oI 1, oI 1, oU, oU, oU, oU, oU, oU] [(.double 0), (.int 1), (.ref pe)])
  refine own_go (fun _ k => XS.aloadN Xz260.here hx rfl (hb hby own_d6_395) rfl rfl k) ?_
  show own_Go _ _ _ _ Tz260 (mkF m 396 #[oR fi, oI 0, oD X_, oS, oD X_, oS, oI 1, oI 1, oU, oU, oU, oU, oU, oU] [(.ref fi), (.double 0), (.int 1), (.ref pe)])
  obtain ⟨Tz262, Xz262, ez262, stz262⟩ := getF Xz260 hx hZ hown (host := "") (Or.inl (hw _ (List.mem_of_getElem? (i := 39) rfl))) Via.refl ez260 F18 (g := (mkF m 396 #[oR fi, oI 0, oD X_, oS, oD X_, oS, oI 1, oI 1, oU, oU, oU, oU, oU, oU] [(.ref fi), (.double 0), (.int 1), (.ref pe)])) rfl rfl (hb hby own_d6_396)
  refine own_go stz262 ?_
  show own_Go _ _ _ _ Tz262 (mkF m 399 #[oR fi, oI 0, oD X_, oS, oD X_, oS, oI 1, oI 1, oU, oU, oU, oU, oU, oU] [(.ref le), (.double 0), (.int 1), (.ref pe)])
  refine own_go (fun _ k => own_getR Xz262 hx hZ hown (hw _ (List.mem_of_getElem? (i := 85) rfl)) ez262 F28 (g := (mkF m 399 #[oR fi, oI 0, oD X_, oS, oD X_, oS, oI 1, oI 1, oU, oU, oU, oU, oU, oU] [(.ref le), (.double 0), (.int 1), (.ref pe)])) rfl rfl (hb hby own_d6_399) _ k) ?_
  show own_Go _ _ _ _ Tz262 (mkF m 402 #[oR fi, oI 0, oD X_, oS, oD X_, oS, oI 1, oI 1, oU, oU, oU, oU, oU, oU] [(.ref pe), (.double 0), (.int 1), (.ref pe)])
  refine own_go (fun _ k => XS.iload Xz262.here hx rfl (hb hby own_d6_402) rfl k) ?_
  show own_Go _ _ _ _ Tz262 (mkF m 404 #[oR fi, oI 0, oD X_, oS, oD X_, oS, oI 1, oI 1, oU, oU, oU, oU, oU, oU] [(.int 1), (.ref pe), (.double 0), (.int 1), (.ref pe)])
  obtain ⟨clz264, Arz264, qz264, Sz264, Mz264, HHz264, Gz264⟩ := id V_pe
  have hinz264 : ¬ ((1 : Int32) < 0 ∨ clz264.slots.size ≤ ((1 : Int32)).toNatClampNeg) := inb_of Sz264 ⟨(by decide), (by decide)⟩
  have hatz264 : clz264.slots[((1 : Int32)).toNatClampNeg]? = some (.double V1) := HHz264.at hinz264 (rfl)
  refine own_go (fun _ k => Xz262.daload hx (j := (1 : Int32)) (v := (.double V1)) (by rw [ez262]; exact Arz264.1) (State.isArrayOf_alike hZ.alike Arz264.2.1) Arz264.2.2 hinz264 hatz264 (g := (mkF m 404 #[oR fi, oI 0, oD X_, oS, oD X_, oS, oI 1, oI 1, oU, oU, oU, oU, oU, oU] [(.int 1), (.ref pe), (.double 0), (.int 1), (.ref pe)])) rfl rfl (hb hby own_d6_404) _ k) ?_
  show own_Go _ _ _ _ Tz262 (mkF m 405 #[oR fi, oI 0, oD X_, oS, oD X_, oS, oI 1, oI 1, oU, oU, oU, oU, oU, oU] [(.double V1), (.double 0), (.int 1), (.ref pe)])
  obtain ⟨Tz265, Xz265, ez265, stz265⟩ := natS Xz262 hx hZ hown (hw _ (List.mem_of_getElem? (i := 74) rfl)) (hw _ (List.mem_of_getElem? (i := 75) rfl)) (hw _ (List.mem_of_getElem? (i := 76) rfl)) (hw _ (List.mem_of_getElem? (i := 77) rfl)) (by decide) ez262 (W := 2) (F := fun a' => a' = #[.double 0, .double V1] ∧ NoNaN64 (0 : UInt64) ∧ NoNaN64 V1) (val := .double (Native.java_lang_Math.nans.pick64 true (0 : UInt64) V1)) (val' := .double V1) (fun hc => Jvm.Free.Fl.Abs.maxD_pays (0 : UInt64) V1 hc (by decide) (by decide)) (g := (mkF m 405 #[oR fi, oI 0, oD X_, oS, oD X_, oS, oI 1, oI 1, oU, oU, oU, oU, oU, oU] [(.double V1), (.double 0), (.int 1), (.ref pe)])) rfl (by rw [hml]; rfl) (argsL := [(.double 0), (.double V1)]) (rest := [(.int 1), (.ref pe)]) (lenOf own_pd1 rfl) rfl (by show 2 * 0 + _ ≤ _; exact Nat.le_of_eq rfl) (hb hby own_d6_405) (by decide) (by decide) ⟨rfl, own_nn0, hn1⟩ (congrArg Value.double hm1)
  refine own_go stz265 ?_
  show own_Go _ _ _ _ Tz265 (mkF m 408 #[oR fi, oI 0, oD X_, oS, oD X_, oS, oI 1, oI 1, oU, oU, oU, oU, oU, oU] [(.double V1), (.int 1), (.ref pe)])
  obtain ⟨clz266, Arz266, qz266, Sz266, Mz266, HHz266, Gz266⟩ := V_pe
  have hinz266 : ¬ ((1 : Int32) < 0 ∨ clz266.slots.size ≤ ((1 : Int32)).toNatClampNeg) := inb_of Sz266 ⟨(by decide), (by decide)⟩
  obtain ⟨Tz266, hz266, Xz266, ez266, Wz266, stz266⟩ := stD Xz265 hx hZ ez265 Arz266 (j := (1 : Int32)) hinz266 (g := (mkF m 408 #[oR fi, oI 0, oD X_, oS, oD X_, oS, oI 1, oI 1, oU, oU, oU, oU, oU, oU] [(.double V1), (.int 1), (.ref pe)])) rfl rfl (hb hby own_d6_408)
  refine own_go stz266 ?_
  have V_pe_ : Arv Z hz266 pe kpe .double (2 : Int32) [(.double V0), (.double V1)] (.double 0) := Arv.set Arz266 qz266 Sz266 Mz266 HHz266 Gz266 rfl Wz266 1 rfl (Nat.le_of_ble_eq_true rfl)
  have Nz266 := Fr.snoc Xz266 Nz256 g_pe
  have E_fi := E_fi.wr Wz266
  have F22 := F22.other Wz266 (own_o2 lt_pe_fi)
  have F0 := F0.other Wz266 (own_o2 lt_pe_fi)
  have F2 := F2.other Wz266 (own_o2 lt_pe_fi)
  have F38 := F38.other Wz266 (own_o2 lt_pe_fi)
  have F36 := F36.other Wz266 (own_o2 lt_pe_fi)
  have F18 := F18.other Wz266 (own_o2 lt_pe_fi)
  have F12 := F12.other Wz266 (own_o2 lt_pe_fi)
  have F26 := F26.other Wz266 (own_o2 lt_pe_fi)
  have F40 := F40.other Wz266 (own_o2 lt_pe_fi)
  have F16 := F16.other Wz266 (own_o2 lt_pe_fi)
  have F6 := F6.other Wz266 (own_o2 lt_pe_fi)
  have F34 := F34.other Wz266 (own_o2 lt_pe_fi)
  have F20 := F20.other Wz266 (own_o2 lt_pe_fi)
  have F10 := F10.other Wz266 (own_o2 lt_pe_fi)
  have F4 := F4.other Wz266 (own_o1 lt_le_pe)
  have F14 := F14.other Wz266 (own_o1 lt_le_pe)
  have F8 := F8.other Wz266 (own_o1 lt_le_pe)
  have F28 := F28.other Wz266 (own_o1 lt_le_pe)
  have F24 := F24.other Wz266 (own_o1 lt_le_pe)
  have V_jo := V_jo.other Wz266 (Nat.ne_of_lt lt_jo_pe)
  have V_go := V_go.other Wz266 (Nat.ne_of_lt lt_go_pe)
  have V_li := V_li.other Wz266 (Nat.ne_of_gt lt_pe_li)
  have V_in_ := V_in_.other Wz266 (Nat.ne_of_gt lt_pe_in_)
  have V_ou := V_ou.other Wz266 (Nat.ne_of_gt lt_pe_ou)
  have V_fl := V_fl.other Wz266 (Nat.ne_of_gt lt_pe_fl)
  have V_el := V_el.other Wz266 (Nat.ne_of_gt lt_pe_el)
  have V_ev := V_ev.other Wz266 (Nat.ne_of_gt lt_pe_ev)
  have V_st := V_st.other Wz266 (Nat.ne_of_gt lt_pe_st)
  have V_se := V_se.other Wz266 (Nat.ne_of_gt lt_pe_se)
  have K := K.wr Wz266 (Or.inl (List.mem_of_getElem? (i := 2) rfl))
  have F32 := F32.other Wz266 (own_o2 lt_pe_fi)
  have F30 := F30.other Wz266 (own_o2 lt_pe_fi)
  have V_pe := V_pe_
  show own_Go _ _ _ _ Tz266 (mkF m 409 #[oR fi, oI 0, oD X_, oS, oD X_, oS, oI 1, oI 1, oU, oU, oU, oU, oU, oU] [])
  refine own_go (fun _ k => XS.aloadN Xz266.here hx rfl (hb hby own_d6_409) rfl rfl k) ?_
  show own_Go _ _ _ _ Tz266 (mkF m 410 #[oR fi, oI 0, oD X_, oS, oD X_, oS, oI 1, oI 1, oU, oU, oU, oU, oU, oU] [(.ref fi)])
  refine own_go (fun _ k => XS.dup Xz266.here hx rfl (hb hby own_d6_410) rfl rfl k) ?_
  show own_Go _ _ _ _ Tz266 (mkF m 411 #[oR fi, oI 0, oD X_, oS, oD X_, oS, oI 1, oI 1, oU, oU, oU, oU, oU, oU] [(.ref fi), (.ref fi)])
  obtain ⟨Tz267, Xz267, ez267, stz267⟩ := getF Xz266 hx hZ hown (host := "") (Or.inl (hw _ (List.mem_of_getElem? (i := 68) rfl))) Via.refl ez266 F30 (g := (mkF m 411 #[oR fi, oI 0, oD X_, oS, oD X_, oS, oI 1, oI 1, oU, oU, oU, oU, oU, oU] [(.ref fi), (.ref fi)])) rfl rfl (hb hby own_d6_411)
  refine own_go stz267 ?_
  show own_Go _ _ _ _ Tz267 (mkF m 414 #[oR fi, oI 0, oD X_, oS, oD X_, oS, oI 1, oI 1, oU, oU, oU, oU, oU, oU] [(.double V0), (.ref fi)])
  refine own_go (fun _ k => XS.aloadN Xz267.here hx rfl (hb hby own_d6_414) rfl rfl k) ?_
  show own_Go _ _ _ _ Tz267 (mkF m 415 #[oR fi, oI 0, oD X_, oS, oD X_, oS, oI 1, oI 1, oU, oU, oU, oU, oU, oU] [(.ref fi), (.double V0), (.ref fi)])
  obtain ⟨Tz268, Xz268, ez268, stz268⟩ := getF Xz267 hx hZ hown (host := "") (Or.inl (hw _ (List.mem_of_getElem? (i := 39) rfl))) Via.refl ez267 F18 (g := (mkF m 415 #[oR fi, oI 0, oD X_, oS, oD X_, oS, oI 1, oI 1, oU, oU, oU, oU, oU, oU] [(.ref fi), (.double V0), (.ref fi)])) rfl rfl (hb hby own_d6_415)
  refine own_go stz268 ?_
  show own_Go _ _ _ _ Tz268 (mkF m 418 #[oR fi, oI 0, oD X_, oS, oD X_, oS, oI 1, oI 1, oU, oU, oU, oU, oU, oU] [(.ref le), (.double V0), (.ref fi)])
  refine own_go (fun _ k => own_getR Xz268 hx hZ hown (hw _ (List.mem_of_getElem? (i := 85) rfl)) ez268 F28 (g := (mkF m 418 #[oR fi, oI 0, oD X_, oS, oD X_, oS, oI 1, oI 1, oU, oU, oU, oU, oU, oU] [(.ref le), (.double V0), (.ref fi)])) rfl rfl (hb hby own_d6_418) _ k) ?_
  show own_Go _ _ _ _ Tz268 (mkF m 421 #[oR fi, oI 0, oD X_, oS, oD X_, oS, oI 1, oI 1, oU, oU, oU, oU, oU, oU] [(.ref pe), (.double V0), (.ref fi)])
  refine own_go (fun _ k => XS.iload Xz268.here hx rfl (hb hby own_d6_421) rfl k) ?_
  show own_Go _ _ _ _ Tz268 (mkF m 423 #[oR fi, oI 0, oD X_, oS, oD X_, oS, oI 1, oI 1, oU, oU, oU, oU, oU, oU] [(.int 1), (.ref pe), (.double V0), (.ref fi)])
  obtain ⟨clz270, Arz270, qz270, Sz270, Mz270, HHz270, Gz270⟩ := id V_pe
  have hinz270 : ¬ ((1 : Int32) < 0 ∨ clz270.slots.size ≤ ((1 : Int32)).toNatClampNeg) := inb_of Sz270 ⟨(by decide), (by decide)⟩
  have hatz270 : clz270.slots[((1 : Int32)).toNatClampNeg]? = some (.double V1) := HHz270.at hinz270 (rfl)
  refine own_go (fun _ k => Xz268.daload hx (j := (1 : Int32)) (v := (.double V1)) (by rw [ez268]; exact Arz270.1) (State.isArrayOf_alike hZ.alike Arz270.2.1) Arz270.2.2 hinz270 hatz270 (g := (mkF m 423 #[oR fi, oI 0, oD X_, oS, oD X_, oS, oI 1, oI 1, oU, oU, oU, oU, oU, oU] [(.int 1), (.ref pe), (.double V0), (.ref fi)])) rfl rfl (hb hby own_d6_423) _ k) ?_
  show own_Go _ _ _ _ Tz268 (mkF m 424 #[oR fi, oI 0, oD X_, oS, oD X_, oS, oI 1, oI 1, oU, oU, oU, oU, oU, oU] [(.double V1), (.double V0), (.ref fi)])
  refine own_go (fun _ k => XS.daddS Xz268.here hx rfl (hb hby own_d6_424) rfl (by rw [hs1]; exact own_nn16) hs1 k) ?_
  show own_Go _ _ _ _ Tz268 (mkF m 425 #[oR fi, oI 0, oD X_, oS, oD X_, oS, oI 1, oI 1, oU, oU, oU, oU, oU, oU] [(.double oC), (.ref fi)])
  obtain ⟨Tz271, hz271, Xz271, ez271, Wz271, stz271⟩ := putF Xz268 hx hZ hown (host := "") (Or.inl (hw _ (List.mem_of_getElem? (i := 68) rfl))) Via.refl ez268 F30 E_fi (Or.inl (hw _ (List.mem_of_getElem? (i := 69) rfl))) (hw _ (List.mem_of_getElem? (i := 23) rfl)) (ty := .double) (by decide) rfl rfl (g := (mkF m 425 #[oR fi, oI 0, oD X_, oS, oD X_, oS, oI 1, oI 1, oU, oU, oU, oU, oU, oU] [(.double oC), (.ref fi)])) rfl rfl (hb hby own_d6_425)
  refine own_go stz271 ?_
  have Nz271 := Fr.snoc Xz271 Nz266 g_fi
  have F31 := F30.same Wz271
  have E_fi := E_fi.wr Wz271
  have F22 := F22.other Wz271 (own_sl hw 30 69 (Or.inl rfl) (Or.inl rfl) (by decide))
  have F0 := F0.other Wz271 (own_sl hw 32 69 (Or.inl rfl) (Or.inl rfl) (by decide))
  have F2 := F2.other Wz271 (own_sl hw 34 69 (Or.inl rfl) (Or.inl rfl) (by decide))
  have F38 := F38.other Wz271 (own_sl hw 36 69 (Or.inl rfl) (Or.inl rfl) (by decide))
  have F36 := F36.other Wz271 (own_sl hw 38 69 (Or.inl rfl) (Or.inl rfl) (by decide))
  have F18 := F18.other Wz271 (own_sl hw 40 69 (Or.inr rfl) (Or.inl rfl) (by decide))
  have F12 := F12.other Wz271 (own_sl hw 42 69 (Or.inr rfl) (Or.inl rfl) (by decide))
  have F26 := F26.other Wz271 (own_sl hw 44 69 (Or.inr rfl) (Or.inl rfl) (by decide))
  have F40 := F40.other Wz271 (own_sl hw 51 69 (Or.inl rfl) (Or.inl rfl) (by decide))
  have F16 := F16.other Wz271 (own_sl hw 58 69 (Or.inl rfl) (Or.inl rfl) (by decide))
  have F6 := F6.other Wz271 (own_sl hw 60 69 (Or.inl rfl) (Or.inl rfl) (by decide))
  have F34 := F34.other Wz271 (own_sl hw 62 69 (Or.inl rfl) (Or.inl rfl) (by decide))
  have F20 := F20.other Wz271 (own_sl hw 73 69 (Or.inl rfl) (Or.inl rfl) (by decide))
  have F10 := F10.other Wz271 (own_sl hw 79 69 (Or.inl rfl) (Or.inl rfl) (by decide))
  have F4 := F4.other Wz271 (own_o1 lt_le_fi)
  have F14 := F14.other Wz271 (own_o1 lt_le_fi)
  have F8 := F8.other Wz271 (own_o1 lt_le_fi)
  have F28 := F28.other Wz271 (own_o1 lt_le_fi)
  have F24 := F24.other Wz271 (own_o1 lt_le_fi)
  have V_jo := V_jo.other Wz271 (Nat.ne_of_lt lt_jo_fi)
  have V_go := V_go.other Wz271 (Nat.ne_of_lt lt_go_fi)
  have V_li := V_li.other Wz271 (Nat.ne_of_lt lt_li_fi)
  have V_in_ := V_in_.other Wz271 (Nat.ne_of_gt lt_fi_in_)
  have V_ou := V_ou.other Wz271 (Nat.ne_of_gt lt_fi_ou)
  have V_fl := V_fl.other Wz271 (Nat.ne_of_gt lt_fi_fl)
  have V_el := V_el.other Wz271 (Nat.ne_of_gt lt_fi_el)
  have V_ev := V_ev.other Wz271 (Nat.ne_of_gt lt_fi_ev)
  have V_st := V_st.other Wz271 (Nat.ne_of_gt lt_fi_st)
  have V_se := V_se.other Wz271 (Nat.ne_of_gt lt_fi_se)
  have K := K.wr Wz271 (Or.inl (List.mem_of_getElem? (i := 0) rfl))
  have F32 := F32.other Wz271 (own_sl hw 71 69 (Or.inl rfl) (Or.inl rfl) (by decide))
  have V_pe := V_pe.other Wz271 (Nat.ne_of_lt lt_pe_fi)
  have F30 := F31
  show own_Go _ _ _ _ Tz271 (mkF m 428 #[oR fi, oI 0, oD X_, oS, oD X_, oS, oI 1, oI 1, oU, oU, oU, oU, oU, oU] [])
  refine own_go (fun _ k => XS.iinc Xz271.here hx rfl (hb hby own_d6_428) rfl (l' := #[oR fi, oI 0, oD X_, oS, oD X_, oS, oI ((1 : Int32) + (1 : Int32)), oI 1, oU, oU, oU, oU, oU, oU]) rfl k) ?_
  show own_Go _ _ _ _ Tz271 (mkF m 431 #[oR fi, oI 0, oD X_, oS, oD X_, oS, oI ((1 : Int32) + (1 : Int32)), oI 1, oU, oU, oU, oU, oU, oU] [])
  refine own_go (fun _ k => XS.goto Xz271.here hx rfl (pc0 := 431) (pc' := 367) rfl (hb hby own_d6_431) (by decide) (by decide) k) ?_
  show own_Go _ _ _ _ Tz271 (mkF m 367 #[oR fi, oI 0, oD X_, oS, oD X_, oS, oI ((1 : Int32) + (1 : Int32)), oI 1, oU, oU, oU, oU, oU, oU] [])
  show own_Go _ _ _ _ Tz271 (mkF m 367 #[oR fi, oI 0, oD X_, oS, oD X_, oS, oI 2, oI 1, oU, oU, oU, oU, oU, oU] [])
  refine own_go (fun _ k => XS.iload Xz271.here hx rfl (hb hby own_d6_367) rfl k) ?_
  show own_Go _ _ _ _ Tz271 (mkF m 369 #[oR fi, oI 0, oD X_, oS, oD X_, oS, oI 2, oI 1, oU, oU, oU, oU, oU, oU] [(.int 2)])
  refine own_go (fun _ k => XS.aloadN Xz271.here hx rfl (hb hby own_d6_369) rfl rfl k) ?_
  show own_Go _ _ _ _ Tz271 (mkF m 370 #[oR fi, oI 0, oD X_, oS, oD X_, oS, oI 2, oI 1, oU, oU, oU, oU, oU, oU] [(.ref fi), (.int 2)])
  obtain ⟨Tz272, Xz272, ez272, stz272⟩ := getF Xz271 hx hZ hown (host := "") (Or.inl (hw _ (List.mem_of_getElem? (i := 72) rfl))) Via.refl ez271 F20 (g := (mkF m 370 #[oR fi, oI 0, oD X_, oS, oD X_, oS, oI 2, oI 1, oU, oU, oU, oU, oU, oU] [(.ref fi), (.int 2)])) rfl rfl (hb hby own_d6_370)
  refine own_go stz272 ?_
  show own_Go _ _ _ _ Tz272 (mkF m 373 #[oR fi, oI 0, oD X_, oS, oD X_, oS, oI 2, oI 1, oU, oU, oU, oU, oU, oU] [(.int 2), (.int 2)])
  refine own_go (fun _ k => XS.icmpYes Xz272.here hx rfl (pc0 := 373) (pc' := 434) rfl (hb hby own_d6_373) rfl (flt (by decide : ¬ ((2 : Int32) < (2 : Int32)))).2.1 (by decide) (by decide) k) ?_
  show own_Go _ _ _ _ Tz272 (mkF m 434 #[oR fi, oI 0, oD X_, oS, oD X_, oS, oI 2, oI 1, oU, oU, oU, oU, oU, oU] [])
  refine own_go (fun _ k => XS.aloadN Xz272.here hx rfl (hb hby own_d6_434) rfl rfl k) ?_
  show own_Go _ _ _ _ Tz272 (mkF m 435 #[oR fi, oI 0, oD X_, oS, oD X_, oS, oI 2, oI 1, oU, oU, oU, oU, oU, oU] [(.ref fi)])
  refine own_go (fun _ k => XS.dloadN Xz272.here hx rfl (hb hby own_d6_435) rfl k) ?_
  show own_Go _ _ _ _ Tz272 (mkF m 436 #[oR fi, oI 0, oD X_, oS, oD X_, oS, oI 2, oI 1, oU, oU, oU, oU, oU, oU] [(.double X_), (.ref fi)])
  refine own_go (fun _ k => XS.aloadN Xz272.here hx rfl (hb hby own_d6_436) rfl rfl k) ?_
  show own_Go _ _ _ _ Tz272 (mkF m 437 #[oR fi, oI 0, oD X_, oS, oD X_, oS, oI 2, oI 1, oU, oU, oU, oU, oU, oU] [(.ref fi), (.double X_), (.ref fi)])
  obtain ⟨Tz273, Xz273, ez273, stz273⟩ := getF Xz272 hx hZ hown (host := "") (Or.inl (hw _ (List.mem_of_getElem? (i := 68) rfl))) Via.refl ez272 F30 (g := (mkF m 437 #[oR fi, oI 0, oD X_, oS, oD X_, oS, oI 2, oI 1, oU, oU, oU, oU, oU, oU] [(.ref fi), (.double X_), (.ref fi)])) rfl rfl (hb hby own_d6_437)
  refine own_go stz273 ?_
  show own_Go _ _ _ _ Tz273 (mkF m 440 #[oR fi, oI 0, oD X_, oS, oD X_, oS, oI 2, oI 1, oU, oU, oU, oU, oU, oU] [(.double oC), (.double X_), (.ref fi)])
  obtain ⟨Tz274, Xz274, ez274, stz274⟩ := natS Xz273 hx hZ hown (hw _ (List.mem_of_getElem? (i := 88) rfl)) (hw _ (List.mem_of_getElem? (i := 89) rfl)) (hw _ (List.mem_of_getElem? (i := 76) rfl)) (hw _ (List.mem_of_getElem? (i := 90) rfl)) (by decide) ez273 (W := 1) (F := fun a' => a' = #[.double X_, .double oC] ∧ NoNaN64 X_ ∧ NoNaN64 (4625196817309499392 : UInt64)) (val := .double (Native.java_lang_Math.nans.pick64 false X_ (4625196817309499392 : UInt64))) (val' := .double Ve) (fun hc => Jvm.Free.Fl.Abs.minD_pays X_ (4625196817309499392 : UInt64) hc (by decide) (by decide)) (g := (mkF m 440 #[oR fi, oI 0, oD X_, oS, oD X_, oS, oI 2, oI 1, oU, oU, oU, oU, oU, oU] [(.double oC), (.double X_), (.ref fi)])) rfl (by rw [hml]; rfl) (argsL := [(.double X_), (.double oC)]) (rest := [(.ref fi)]) (lenOf own_pd1 rfl) rfl (by show 2 * 0 + _ ≤ _; exact Nat.le_of_eq rfl) (hb hby own_d6_440) (by decide) (by decide) ⟨rfl, hnX, own_nn16⟩ (congrArg Value.double hv)
  refine own_go stz274 ?_
  show own_Go _ _ _ _ Tz274 (mkF m 443 #[oR fi, oI 0, oD X_, oS, oD X_, oS, oI 2, oI 1, oU, oU, oU, oU, oU, oU] [(.double Ve), (.ref fi)])
  obtain ⟨Tz275, hz275, Xz275, ez275, Wz275, stz275⟩ := putF Xz274 hx hZ hown (host := "") (Or.inl (hw _ (List.mem_of_getElem? (i := 70) rfl))) Via.refl ez274 F32 E_fi (Or.inl (hw _ (List.mem_of_getElem? (i := 71) rfl))) (hw _ (List.mem_of_getElem? (i := 23) rfl)) (ty := .double) (by decide) rfl rfl (g := (mkF m 443 #[oR fi, oI 0, oD X_, oS, oD X_, oS, oI 2, oI 1, oU, oU, oU, oU, oU, oU] [(.double Ve), (.ref fi)])) rfl rfl (hb hby own_d6_443)
  refine own_go stz275 ?_
  have Nz275 := Fr.snoc Xz275 Nz271 g_fi
  have F33 := F32.same Wz275
  have E_fi := E_fi.wr Wz275
  have F22 := F22.other Wz275 (own_sl hw 30 71 (Or.inl rfl) (Or.inl rfl) (by decide))
  have F0 := F0.other Wz275 (own_sl hw 32 71 (Or.inl rfl) (Or.inl rfl) (by decide))
  have F2 := F2.other Wz275 (own_sl hw 34 71 (Or.inl rfl) (Or.inl rfl) (by decide))
  have F38 := F38.other Wz275 (own_sl hw 36 71 (Or.inl rfl) (Or.inl rfl) (by decide))
  have F36 := F36.other Wz275 (own_sl hw 38 71 (Or.inl rfl) (Or.inl rfl) (by decide))
  have F18 := F18.other Wz275 (own_sl hw 40 71 (Or.inr rfl) (Or.inl rfl) (by decide))
  have F12 := F12.other Wz275 (own_sl hw 42 71 (Or.inr rfl) (Or.inl rfl) (by decide))
  have F26 := F26.other Wz275 (own_sl hw 44 71 (Or.inr rfl) (Or.inl rfl) (by decide))
  have F40 := F40.other Wz275 (own_sl hw 51 71 (Or.inl rfl) (Or.inl rfl) (by decide))
  have F16 := F16.other Wz275 (own_sl hw 58 71 (Or.inl rfl) (Or.inl rfl) (by decide))
  have F6 := F6.other Wz275 (own_sl hw 60 71 (Or.inl rfl) (Or.inl rfl) (by decide))
  have F34 := F34.other Wz275 (own_sl hw 62 71 (Or.inl rfl) (Or.inl rfl) (by decide))
  have F20 := F20.other Wz275 (own_sl hw 73 71 (Or.inl rfl) (Or.inl rfl) (by decide))
  have F10 := F10.other Wz275 (own_sl hw 79 71 (Or.inl rfl) (Or.inl rfl) (by decide))
  have F4 := F4.other Wz275 (own_o1 lt_le_fi)
  have F14 := F14.other Wz275 (own_o1 lt_le_fi)
  have F8 := F8.other Wz275 (own_o1 lt_le_fi)
  have F28 := F28.other Wz275 (own_o1 lt_le_fi)
  have F24 := F24.other Wz275 (own_o1 lt_le_fi)
  have V_jo := V_jo.other Wz275 (Nat.ne_of_lt lt_jo_fi)
  have V_go := V_go.other Wz275 (Nat.ne_of_lt lt_go_fi)
  have V_li := V_li.other Wz275 (Nat.ne_of_lt lt_li_fi)
  have V_in_ := V_in_.other Wz275 (Nat.ne_of_gt lt_fi_in_)
  have V_ou := V_ou.other Wz275 (Nat.ne_of_gt lt_fi_ou)
  have V_fl := V_fl.other Wz275 (Nat.ne_of_gt lt_fi_fl)
  have V_el := V_el.other Wz275 (Nat.ne_of_gt lt_fi_el)
  have V_ev := V_ev.other Wz275 (Nat.ne_of_gt lt_fi_ev)
  have V_st := V_st.other Wz275 (Nat.ne_of_gt lt_fi_st)
  have V_se := V_se.other Wz275 (Nat.ne_of_gt lt_fi_se)
  have K := K.wr Wz275 (Or.inl (List.mem_of_getElem? (i := 0) rfl))
  have V_pe := V_pe.other Wz275 (Nat.ne_of_lt lt_pe_fi)
  have F30 := F30.other Wz275 (own_sl hw 69 71 (Or.inl rfl) (Or.inl rfl) (by decide))
  have F32 := F33
  show own_Go _ _ _ _ Tz275 (mkF m 446 #[oR fi, oI 0, oD X_, oS, oD X_, oS, oI 2, oI 1, oU, oU, oU, oU, oU, oU] [])
  refine own_go (fun _ k => XS.aloadN Xz275.here hx rfl (hb hby own_d6_446) rfl rfl k) ?_
  show own_Go _ _ _ _ Tz275 (mkF m 447 #[oR fi, oI 0, oD X_, oS, oD X_, oS, oI 2, oI 1, oU, oU, oU, oU, oU, oU] [(.ref fi)])
  obtain ⟨Tz276, Xz276, ez276, stz276⟩ := getF Xz275 hx hZ hown (host := "") (Or.inl (hw _ (List.mem_of_getElem? (i := 70) rfl))) Via.refl ez275 F32 (g := (mkF m 447 #[oR fi, oI 0, oD X_, oS, oD X_, oS, oI 2, oI 1, oU, oU, oU, oU, oU, oU] [(.ref fi)])) rfl rfl (hb hby own_d6_447)
  refine own_go stz276 ?_
  show own_Go _ _ _ _ Tz276 (mkF m 450 #[oR fi, oI 0, oD X_, oS, oD X_, oS, oI 2, oI 1, oU, oU, oU, oU, oU, oU] [(.double Ve)])
  exact own_end Xz276 hlk (v := (some (.double Ve))) (fun h => by rw [hret] at h; cases h) (fun fs hr => retOut Xz276 hx hret rfl (Or.inr (Or.inr (Or.inl ⟨rfl, rfl, _, rfl⟩))) (hb hby own_d6_450) hr) (by rw [ez276]; exact ⟨rfl, Nz275, K, E_fi, F22, F0, F2, F38, F36, F18, F12, F26, F40, F16, F6, F34, F20, F10, F30, F32, F4, F14, F8, F28, F24, V_jo, V_go, V_pe, V_li, V_in_, V_ou, V_fl, V_el, V_ev, V_st, V_se⟩) (by decide) (by decide)
theorem own_efslC (m : MethodId) (fi : Addr) (pn : Int32) (X_ : UInt64) : entryFrame m #[(.ref fi), (.int pn), (.double X_)] 14 = mkF m 0 #[oR fi, oI pn, oD X_, oS, oU, oU, oU, oU, oU, oU, oU, oU, oU, oU] [] := by first | (simp [entryFrame, mkF, argsToLocals, Value.category]; done) | rfl
theorem own_d6_218 : decode prog_12_method_4_code 218 = .ok (.aload_n 0, 1) := by decide +kernel
theorem own_d6_219 : decode prog_12_method_4_code 219 = .ok (.getfield 20, 3) := by decide +kernel
theorem own_d6_222 : decode prog_12_method_4_code 222 = .ok (.aload_n 0, 1) := by decide +kernel
theorem own_d6_223 : decode prog_12_method_4_code 223 = .ok (.getfield 46, 3) := by decide +kernel
theorem own_d6_226 : decode prog_12_method_4_code 226 = .ok (.iaload, 1) := by decide +kernel
theorem own_d6_227 : decode prog_12_method_4_code 227 = .ok (.istore 6, 2) := by decide +kernel
theorem own_d6_229 : decode prog_12_method_4_code 229 = .ok (.aload_n 0, 1) := by decide +kernel
theorem own_d6_230 : decode prog_12_method_4_code 230 = .ok (.getfield 30, 3) := by decide +kernel
theorem own_d6_233 : decode prog_12_method_4_code 233 = .ok (.iload 6, 2) := by decide +kernel
theorem own_d6_235 : decode prog_12_method_4_code 235 = .ok (.daload, 1) := by decide +kernel
theorem own_d6_236 : decode prog_12_method_4_code 236 = .ok (.dstore 7, 2) := by decide +kernel
theorem own_d6_238 : decode prog_12_method_4_code 238 = .ok (.dconst 0, 1) := by decide +kernel
theorem own_d6_239 : decode prog_12_method_4_code 239 = .ok (.dload 4, 2) := by decide +kernel
theorem own_d6_241 : decode prog_12_method_4_code 241 = .ok (.dload 7, 2) := by decide +kernel
theorem own_d6_243 : decode prog_12_method_4_code 243 = .ok (.dsub, 1) := by decide +kernel
theorem own_d6_244 : decode prog_12_method_4_code 244 = .ok (.aload_n 0, 1) := by decide +kernel
theorem own_d6_245 : decode prog_12_method_4_code 245 = .ok (.getfield 30, 3) := by decide +kernel
theorem own_d6_248 : decode prog_12_method_4_code 248 = .ok (.iload 6, 2) := by decide +kernel
theorem own_d6_250 : decode prog_12_method_4_code 250 = .ok (.iconst 1, 1) := by decide +kernel
theorem own_d6_251 : decode prog_12_method_4_code 251 = .ok (.iadd, 1) := by decide +kernel
theorem own_d6_252 : decode prog_12_method_4_code 252 = .ok (.daload, 1) := by decide +kernel
theorem own_d6_253 : decode prog_12_method_4_code 253 = .ok (.dload 7, 2) := by decide +kernel
theorem own_d6_255 : decode prog_12_method_4_code 255 = .ok (.dsub, 1) := by decide +kernel
theorem own_d6_256 : decode prog_12_method_4_code 256 = .ok (.ddiv, 1) := by decide +kernel
theorem own_d6_257 : decode prog_12_method_4_code 257 = .ok (.invokestatic 83, 3) := by decide +kernel
theorem own_d6_260 : decode prog_12_method_4_code 260 = .ok (.dstore 9, 2) := by decide +kernel
theorem own_d6_262 : decode prog_12_method_4_code 262 = .ok (.aload_n 0, 1) := by decide +kernel
theorem own_d6_263 : decode prog_12_method_4_code 263 = .ok (.getfield 23, 3) := by decide +kernel
theorem own_d6_266 : decode prog_12_method_4_code 266 = .ok (.aload_n 0, 1) := by decide +kernel
theorem own_d6_267 : decode prog_12_method_4_code 267 = .ok (.getfield 46, 3) := by decide +kernel
theorem own_d6_270 : decode prog_12_method_4_code 270 = .ok (.iaload, 1) := by decide +kernel
theorem own_d6_271 : decode prog_12_method_4_code 271 = .ok (.istore 11, 2) := by decide +kernel
theorem own_d6_273 : decode prog_12_method_4_code 273 = .ok (.aload_n 0, 1) := by decide +kernel
theorem own_d6_274 : decode prog_12_method_4_code 274 = .ok (.getfield 62, 3) := by decide +kernel
theorem own_d6_277 : decode prog_12_method_4_code 277 = .ok (.istore 12, 2) := by decide +kernel
theorem own_d6_279 : decode prog_12_method_4_code 279 = .ok (.iload 12, 2) := by decide +kernel
theorem own_d6_281 : decode prog_12_method_4_code 281 = .ok (.iload 11, 2) := by decide +kernel
theorem own_d6_283 : decode prog_12_method_4_code 283 = .ok (.if_icmp .ge 81, 3) := by decide +kernel
theorem own_d6_286 : decode prog_12_method_4_code 286 = .ok (.aload_n 0, 1) := by decide +kernel
theorem own_d6_287 : decode prog_12_method_4_code 287 = .ok (.getfield 13, 3) := by decide +kernel
theorem own_d6_290 : decode prog_12_method_4_code 290 = .ok (.iload 12, 2) := by decide +kernel
theorem own_d6_292 : decode prog_12_method_4_code 292 = .ok (.iaload, 1) := by decide +kernel
theorem own_d6_293 : decode prog_12_method_4_code 293 = .ok (.istore 13, 2) := by decide +kernel
theorem own_d6_295 : decode prog_12_method_4_code 295 = .ok (.aload_n 0, 1) := by decide +kernel
theorem own_d6_296 : decode prog_12_method_4_code 296 = .ok (.iload 13, 2) := by decide +kernel
theorem own_d6_298 : decode prog_12_method_4_code 298 = .ok (.invokevirtual 70, 3) := by decide +kernel
theorem own_d6_301 : decode prog_12_method_4_code 301 = .ok (.ifCond .eq 34, 3) := by decide +kernel
theorem own_d6_304 : decode prog_12_method_4_code 304 = .ok (.aload_n 0, 1) := by decide +kernel
theorem own_d6_305 : decode prog_12_method_4_code 305 = .ok (.getfield 26, 3) := by decide +kernel
theorem own_d6_308 : decode prog_12_method_4_code 308 = .ok (.getfield 77, 3) := by decide +kernel
theorem own_d6_311 : decode prog_12_method_4_code 311 = .ok (.iload 13, 2) := by decide +kernel
theorem own_d6_313 : decode prog_12_method_4_code 313 = .ok (.aload_n 0, 1) := by decide +kernel
theorem own_d6_314 : decode prog_12_method_4_code 314 = .ok (.getfield 26, 3) := by decide +kernel
theorem own_d6_317 : decode prog_12_method_4_code 317 = .ok (.getfield 65, 3) := by decide +kernel
theorem own_d6_320 : decode prog_12_method_4_code 320 = .ok (.iload 13, 2) := by decide +kernel
theorem own_d6_322 : decode prog_12_method_4_code 322 = .ok (.daload, 1) := by decide +kernel
theorem own_d6_323 : decode prog_12_method_4_code 323 = .ok (.aload_n 0, 1) := by decide +kernel
theorem own_d6_324 : decode prog_12_method_4_code 324 = .ok (.getfield 26, 3) := by decide +kernel
theorem own_d6_327 : decode prog_12_method_4_code 327 = .ok (.getfield 80, 3) := by decide +kernel
theorem own_d6_330 : decode prog_12_method_4_code 330 = .ok (.iload 13, 2) := by decide +kernel
theorem own_d6_332 : decode prog_12_method_4_code 332 = .ok (.daload, 1) := by decide +kernel
theorem own_d6_333 : decode prog_12_method_4_code 333 = .ok (.dsub, 1) := by decide +kernel
theorem own_d6_334 : decode prog_12_method_4_code 334 = .ok (.dastore, 1) := by decide +kernel
theorem own_d6_335 : decode prog_12_method_4_code 335 = .ok (.aload_n 0, 1) := by decide +kernel
theorem own_d6_336 : decode prog_12_method_4_code 336 = .ok (.getfield 26, 3) := by decide +kernel
theorem own_d6_339 : decode prog_12_method_4_code 339 = .ok (.getfield 77, 3) := by decide +kernel
theorem own_d6_342 : decode prog_12_method_4_code 342 = .ok (.iload 13, 2) := by decide +kernel
theorem own_d6_344 : decode prog_12_method_4_code 344 = .ok (.dup2, 1) := by decide +kernel
theorem own_d6_345 : decode prog_12_method_4_code 345 = .ok (.daload, 1) := by decide +kernel
theorem own_d6_346 : decode prog_12_method_4_code 346 = .ok (.dload 9, 2) := by decide +kernel
theorem own_d6_348 : decode prog_12_method_4_code 348 = .ok (.aload_n 0, 1) := by decide +kernel
theorem own_d6_349 : decode prog_12_method_4_code 349 = .ok (.getfield 16, 3) := by decide +kernel
theorem own_d6_352 : decode prog_12_method_4_code 352 = .ok (.iload 12, 2) := by decide +kernel
theorem own_d6_354 : decode prog_12_method_4_code 354 = .ok (.daload, 1) := by decide +kernel
theorem own_d6_355 : decode prog_12_method_4_code 355 = .ok (.dmul, 1) := by decide +kernel
theorem own_d6_356 : decode prog_12_method_4_code 356 = .ok (.dadd, 1) := by decide +kernel
theorem own_d6_357 : decode prog_12_method_4_code 357 = .ok (.dastore, 1) := by decide +kernel
theorem own_d6_358 : decode prog_12_method_4_code 358 = .ok (.iinc 12 1, 3) := by decide +kernel
theorem own_d6_361 : decode prog_12_method_4_code 361 = .ok (.goto (-82), 3) := by decide +kernel
def own_QslC (Z : State) (le : Addr) (ex : Addr) (jo : Addr) (go : Addr) (pe : Addr) (li : Addr) (fi : Addr) (in_ : Addr) (ou : Addr) (fl : Addr) (el : Addr) (ev : Addr) (st : Addr) (se : Addr) (kex : ClassId) (kjo : ClassId) (kgo : ClassId) (kpe : ClassId) (kli : ClassId) (kin_ : ClassId) (kou : ClassId) (kfl : ClassId) (kel : ClassId) (kev : ClassId) (kst : ClassId) (kse : ClassId) (X_ : UInt64) (V0 : UInt64) (V1 : UInt64) (P0 : UInt64) (P1 : UInt64) (h0 : Heap) (n0 : Nat) (v : Option Value) (h : Heap) (L : List Loc) : Prop := v = some (.double X_) ∧ Fr n0 L ∧ Keep h0 h [fi, jo, pe, li, fl] ∧ Exa Z h fi "com/example/spillback/spillback/Fifo" ∧ Fld Z h fi "com/example/spillback/spillback/Fifo" "listed" "[I" (.ref fl) ∧ Fld Z h fi "com/example/spillback/spillback/Fifo" "entryLegs" "[I" (.ref el) ∧ Fld Z h fi "com/example/spillback/spillback/Fifo" "entryVehicles" "[D" (.ref ev) ∧ Fld Z h fi "com/example/spillback/spillback/Fifo" "steps" "[I" (.ref st) ∧ Fld Z h fi "com/example/spillback/spillback/Fifo" "stepEnds" "[I" (.ref se) ∧ Fld Z h fi "com/example/spillback/spillback/Fifo" "legs" "Lcom/example/spillback/spillback/Fifo$Legs;" (.ref le) ∧ Fld Z h fi "com/example/spillback/spillback/Fifo" "in" "[D" (.ref in_) ∧ Fld Z h fi "com/example/spillback/spillback/Fifo" "out" "[D" (.ref ou) ∧ Fld Z h fi "com/example/spillback/spillback/Fifo" "tail" "I" (.int 2) ∧ Fld Z h fi "com/example/spillback/spillback/Fifo" "joiningStart" "I" (.int 2) ∧ Fld Z h fi "com/example/spillback/spillback/Fifo" "firstStep" "I" (.int 0) ∧ Fld Z h fi "com/example/spillback/spillback/Fifo" "stepCount" "I" (.int 1) ∧ Fld Z h fi "com/example/spillback/spillback/Fifo" "listedCount" "I" (.int 2) ∧ Fld Z h fi "com/example/spillback/spillback/Fifo" "head" "I" (.int 0) ∧ Fld Z h fi "com/example/spillback/spillback/Fifo" "sliceTotal" "D" (.double X_) ∧ Fld Z h fi "com/example/spillback/spillback/Fifo" "sliceVehicles" "D" (.double X_) ∧ Fld Z h le "com/example/spillback/spillback/Fifo$Legs" "exits" "[I" (.ref ex) ∧ Fld Z h le "com/example/spillback/spillback/Fifo$Legs" "joined" "[D" (.ref jo) ∧ Fld Z h le "com/example/spillback/spillback/Fifo$Legs" "gone" "[D" (.ref go) ∧ Fld Z h le "com/example/spillback/spillback/Fifo$Legs" "pending" "[D" (.ref pe) ∧ Fld Z h le "com/example/spillback/spillback/Fifo$Legs" "listed" "[Z" (.ref li) ∧ Arv Z h jo kjo .double (2 : Int32) [(.double 0), (.double 0)] (.double 0) ∧ Arv Z h go kgo .double (2 : Int32) [(.double 0), (.double 0)] (.double 0) ∧ Arv Z h pe kpe .double (2 : Int32) [(.double P0), (.double P1)] (.double 0) ∧ Arv Z h li kli .boolean (2 : Int32) [(.int 1), (.int 1)] (.int 0) ∧ Arv Z h in_ kin_ .double (2 : Int32) [(.double 0), (.double oC)] (.double 0) ∧ Arv Z h ou kou .double (2 : Int32) [(.double 0), (.double 0)] (.double 0) ∧ Arv Z h fl kfl .int 4 [(.int 0), (.int 1)] (.int 0) ∧ Arv Z h el kel .int 16 [(.int 0), (.int 1)] (.int 0) ∧ Arv Z h ev kev .double (16 : Int32) [(.double V0), (.double V1)] (.double 0) ∧ Arv Z h st kst .int 16 [(.int 0)] (.int 0) ∧ Arv Z h se kse .int 16 [(.int 2)] (.int 0)
set_option maxRecDepth 65536 in
set_option maxHeartbeats 40000000 in
theorem own_rmslC (l : Launch) (Z : State) (a0 : Array Value) (hw : ∀ d ∈ tables_1, d.before a0 Z = true) (ws : List Jvm.Cond) (fi : Addr) (pn : Int32) (X_ : UInt64) (h0 : Heap) (n0 : Nat) (le ex jo go pe li in_ ou fl el ev st se : Addr) (kex kjo kgo kpe kli kin_ kou kfl kel kev kst kse : ClassId) (hc0 : n0 ≤ le) (hc1 : @LT.lt Nat _ le ex) (hc2 : @LT.lt Nat _ ex jo) (hc3 : @LT.lt Nat _ jo go) (hc4 : @LT.lt Nat _ go pe) (hc5 : @LT.lt Nat _ pe li) (hc6 : @LT.lt Nat _ li fi) (hc7 : @LT.lt Nat _ fi in_) (hc8 : @LT.lt Nat _ in_ ou) (hc9 : @LT.lt Nat _ ou fl) (hc10 : @LT.lt Nat _ fl el) (hc11 : @LT.lt Nat _ el ev) (hc12 : @LT.lt Nat _ ev st) (hc13 : @LT.lt Nat _ st se) (V0 V1 F_ P0 P1 tt tv : UInt64) (hp : pn = (0 : Int32)) (hx0 : (0 : Int32) < cmpValue (FP.dcmp X_ (0 : UInt64)) .l) (hU : FP.dadd (0 : UInt64) X_ = X_) (hnX : NoNaN64 X_) (hlt : (0 : Int32) < cmpValue (FP.dcmp (4625196817309499392 : UInt64) X_) .g) (hsX : FP.dsub X_ (0 : UInt64) = X_) (hF : FP.ddiv X_ (4625196817309499392 : UInt64) = F_) (hnF : NoNaN64 F_) (hmF : Native.java_lang_Math.nans.pick64 true (0 : UInt64) F_ = F_) (hn0 : NoNaN64 P0) (hn1 : NoNaN64 P1) (hd0 : FP.dmul F_ V0 = P0) (hd1 : FP.dmul F_ V1 = P1) (ha0 : FP.dadd (0 : UInt64) P0 = P0) (ha1 : FP.dadd (0 : UInt64) P1 = P1) (hm0 : Native.java_lang_Math.nans.pick64 true (0 : UInt64) P0 = P0) (hm1 : Native.java_lang_Math.nans.pick64 true (0 : UInt64) P1 = P1) (hs1 : FP.dadd P0 P1 = X_) (hv : Native.java_lang_Math.nans.pick64 false X_ X_ = X_) (e0 e1 : Int32) (E_fi : Exa Z h0 fi "com/example/spillback/spillback/Fifo") (F22 : Fld Z h0 fi "com/example/spillback/spillback/Fifo" "listed" "[I" (.ref fl)) (F0 : Fld Z h0 fi "com/example/spillback/spillback/Fifo" "entryLegs" "[I" (.ref el)) (F2 : Fld Z h0 fi "com/example/spillback/spillback/Fifo" "entryVehicles" "[D" (.ref ev)) (F38 : Fld Z h0 fi "com/example/spillback/spillback/Fifo" "steps" "[I" (.ref st)) (F36 : Fld Z h0 fi "com/example/spillback/spillback/Fifo" "stepEnds" "[I" (.ref se)) (F18 : Fld Z h0 fi "com/example/spillback/spillback/Fifo" "legs" "Lcom/example/spillback/spillback/Fifo$Legs;" (.ref le)) (F12 : Fld Z h0 fi "com/example/spillback/spillback/Fifo" "in" "[D" (.ref in_)) (F26 : Fld Z h0 fi "com/example/spillback/spillback/Fifo" "out" "[D" (.ref ou)) (F40 : Fld Z h0 fi "com/example/spillback/spillback/Fifo" "tail" "I" (.int 2)) (F16 : Fld Z h0 fi "com/example/spillback/spillback/Fifo" "joiningStart" "I" (.int 2)) (F6 : Fld Z h0 fi "com/example/spillback/spillback/Fifo" "firstStep" "I" (.int 0)) (F34 : Fld Z h0 fi "com/example/spillback/spillback/Fifo" "stepCount" "I" (.int 1)) (F20 : Fld Z h0 fi "com/example/spillback/spillback/Fifo" "listedCount" "I" (.int 0)) (F10 : Fld Z h0 fi "com/example/spillback/spillback/Fifo" "head" "I" (.int 0)) (F30 : Fld Z h0 fi "com/example/spillback/spillback/Fifo" "sliceTotal" "D" (.double tt)) (F32 : Fld Z h0 fi "com/example/spillback/spillback/Fifo" "sliceVehicles" "D" (.double tv)) (F4 : Fld Z h0 le "com/example/spillback/spillback/Fifo$Legs" "exits" "[I" (.ref ex)) (F14 : Fld Z h0 le "com/example/spillback/spillback/Fifo$Legs" "joined" "[D" (.ref jo)) (F8 : Fld Z h0 le "com/example/spillback/spillback/Fifo$Legs" "gone" "[D" (.ref go)) (F28 : Fld Z h0 le "com/example/spillback/spillback/Fifo$Legs" "pending" "[D" (.ref pe)) (F24 : Fld Z h0 le "com/example/spillback/spillback/Fifo$Legs" "listed" "[Z" (.ref li)) (V_jo : Arv Z h0 jo kjo .double (2 : Int32) [(.double 0), (.double 0)] (.double 0)) (V_go : Arv Z h0 go kgo .double (2 : Int32) [(.double 0), (.double 0)] (.double 0)) (V_pe : Arv Z h0 pe kpe .double (2 : Int32) [(.double 0), (.double 0)] (.double 0)) (V_li : Arv Z h0 li kli .boolean (2 : Int32) [(.int 0), (.int 0)] (.int 0)) (V_in_ : Arv Z h0 in_ kin_ .double (2 : Int32) [(.double 0), (.double oC)] (.double 0)) (V_ou : Arv Z h0 ou kou .double (2 : Int32) [(.double 0), (.double 0)] (.double 0)) (V_fl : Arv Z h0 fl kfl .int 4 [(.int 0), (.int 0)] (.int 0)) (V_el : Arv Z h0 el kel .int 16 [(.int 0), (.int 1)] (.int 0)) (V_ev : Arv Z h0 ev kev .double (16 : Int32) [(.double V0), (.double V1)] (.double 0)) (V_st : Arv Z h0 st kst .int 16 [(.int 0)] (.int 0)) (V_se : Arv Z h0 se kse .int 16 [(.int 2)] (.int 0)) :
    own_Met l Z (⟨"com/example/spillback/spillback/Fifo", "slice", "(ID)D"⟩ : MethodName) prog_12_method_4_code 14 (some .double) ws ({ frames := 1, cells := 0, slots := 0, locals := 40 } : Room) #[(.ref fi), (.int pn), (.double X_)] h0 (own_QslC Z le ex jo go pe li fi in_ ou fl el ev st se kex kjo kgo kpe kli kin_ kou kfl kel kev kst kse X_ V0 V1 P0 P1 h0 n0) := by
  refine own_met (plainFor_of_name own_pn1) ?_
  intro p e s m below meth c s₁ X0 hx hZ hby hml hown hnm hret hlk e0
  have N0 := Fr.nil n0
  refine own_go (fun t k => castTop (own_efslC m fi pn X_) k) ?_
  have g_fi : @LE.le Nat _ n0 fi := by omega
  have lt_le_fi : @LT.lt Nat _ le fi := by omega
  have lt_jo_fi : @LT.lt Nat _ jo fi := by omega
  have lt_go_fi : @LT.lt Nat _ go fi := by omega
  have lt_pe_fi : @LT.lt Nat _ pe fi := by omega
  have lt_li_fi : @LT.lt Nat _ li fi := by omega
  have lt_fi_in_ : @LT.lt Nat _ fi in_ := by omega
  have lt_fi_ou : @LT.lt Nat _ fi ou := by omega
  have lt_fi_fl : @LT.lt Nat _ fi fl := by omega
  have lt_fi_el : @LT.lt Nat _ fi el := by omega
  have lt_fi_ev : @LT.lt Nat _ fi ev := by omega
  have lt_fi_st : @LT.lt Nat _ fi st := by omega
  have lt_fi_se : @LT.lt Nat _ fi se := by omega
  have lt_le_li : @LT.lt Nat _ le li := by omega
  have lt_le_fl : @LT.lt Nat _ le fl := by omega
  have lt_jo_li : @LT.lt Nat _ jo li := by omega
  have lt_jo_fl : @LT.lt Nat _ jo fl := by omega
  have lt_go_li : @LT.lt Nat _ go li := by omega
  have lt_go_fl : @LT.lt Nat _ go fl := by omega
  have lt_pe_li : @LT.lt Nat _ pe li := by omega
  have lt_pe_fl : @LT.lt Nat _ pe fl := by omega
  have lt_li_in_ : @LT.lt Nat _ li in_ := by omega
  have lt_in__fl : @LT.lt Nat _ in_ fl := by omega
  have lt_li_ou : @LT.lt Nat _ li ou := by omega
  have lt_ou_fl : @LT.lt Nat _ ou fl := by omega
  have lt_li_el : @LT.lt Nat _ li el := by omega
  have lt_fl_el : @LT.lt Nat _ fl el := by omega
  have lt_li_ev : @LT.lt Nat _ li ev := by omega
  have lt_fl_ev : @LT.lt Nat _ fl ev := by omega
  have lt_li_st : @LT.lt Nat _ li st := by omega
  have lt_fl_st : @LT.lt Nat _ fl st := by omega
  have lt_li_se : @LT.lt Nat _ li se := by omega
  have lt_fl_se : @LT.lt Nat _ fl se := by omega
  have g_pe : @LE.le Nat _ n0 pe := by omega
  have lt_le_pe : @LT.lt Nat _ le pe := by omega
  have lt_jo_pe : @LT.lt Nat _ jo pe := by omega
  have lt_go_pe : @LT.lt Nat _ go pe := by omega
  have lt_pe_in_ : @LT.lt Nat _ pe in_ := by omega
  have lt_pe_ou : @LT.lt Nat _ pe ou := by omega
  have lt_pe_el : @LT.lt Nat _ pe el := by omega
  have lt_pe_ev : @LT.lt Nat _ pe ev := by omega
  have lt_pe_st : @LT.lt Nat _ pe st := by omega
  have lt_pe_se : @LT.lt Nat _ pe se := by omega
  have K := Keep.refl h0 [fi, jo, pe, li, fl]
  show own_Go _ _ _ _ s₁ (mkF m 0 #[oR fi, oI pn, oD X_, oS, oU, oU, oU, oU, oU, oU, oU, oU, oU, oU] [])
  subst hp
  show own_Go _ _ _ _ s₁ (mkF m 0 #[oR fi, oI 0, oD X_, oS, oU, oU, oU, oU, oU, oU, oU, oU, oU, oU] [])
  refine own_go (fun _ k => XS.aloadN X0.here hx rfl (hb hby own_d6_0) rfl rfl k) ?_
  show own_Go _ _ _ _ s₁ (mkF m 1 #[oR fi, oI 0, oD X_, oS, oU, oU, oU, oU, oU, oU, oU, oU, oU, oU] [(.ref fi)])
  refine own_go (fun _ k => XS.dconst0 X0.here hx rfl (hb hby own_d6_1) own_dc0 k) ?_
  show own_Go _ _ _ _ s₁ (mkF m 2 #[oR fi, oI 0, oD X_, oS, oU, oU, oU, oU, oU, oU, oU, oU, oU, oU] [(.double 0), (.ref fi)])
  obtain ⟨Tz277, hz277, Xz277, ez277, Wz277, stz277⟩ := putF X0 hx hZ hown (host := "") (Or.inl (hw _ (List.mem_of_getElem? (i := 68) rfl))) Via.refl e0 F30 E_fi (Or.inl (hw _ (List.mem_of_getElem? (i := 69) rfl))) (hw _ (List.mem_of_getElem? (i := 23) rfl)) (ty := .double) (by decide) rfl rfl (g := (mkF m 2 #[oR fi, oI 0, oD X_, oS, oU, oU, oU, oU, oU, oU, oU, oU, oU, oU] [(.double 0), (.ref fi)])) rfl rfl (hb hby own_d6_2)
  refine own_go stz277 ?_
  have Nz277 := Fr.snoc Xz277 N0 g_fi
  have F31 := F30.same Wz277
  have E_fi := E_fi.wr Wz277
  have F22 := F22.other Wz277 (own_sl hw 30 69 (Or.inl rfl) (Or.inl rfl) (by decide))
  have F0 := F0.other Wz277 (own_sl hw 32 69 (Or.inl rfl) (Or.inl rfl) (by decide))
  have F2 := F2.other Wz277 (own_sl hw 34 69 (Or.inl rfl) (Or.inl rfl) (by decide))
  have F38 := F38.other Wz277 (own_sl hw 36 69 (Or.inl rfl) (Or.inl rfl) (by decide))
  have F36 := F36.other Wz277 (own_sl hw 38 69 (Or.inl rfl) (Or.inl rfl) (by decide))
  have F18 := F18.other Wz277 (own_sl hw 40 69 (Or.inr rfl) (Or.inl rfl) (by decide))
  have F12 := F12.other Wz277 (own_sl hw 42 69 (Or.inr rfl) (Or.inl rfl) (by decide))
  have F26 := F26.other Wz277 (own_sl hw 44 69 (Or.inr rfl) (Or.inl rfl) (by decide))
  have F40 := F40.other Wz277 (own_sl hw 51 69 (Or.inl rfl) (Or.inl rfl) (by decide))
  have F16 := F16.other Wz277 (own_sl hw 58 69 (Or.inl rfl) (Or.inl rfl) (by decide))
  have F6 := F6.other Wz277 (own_sl hw 60 69 (Or.inl rfl) (Or.inl rfl) (by decide))
  have F34 := F34.other Wz277 (own_sl hw 62 69 (Or.inl rfl) (Or.inl rfl) (by decide))
  have F20 := F20.other Wz277 (own_sl hw 73 69 (Or.inl rfl) (Or.inl rfl) (by decide))
  have F10 := F10.other Wz277 (own_sl hw 79 69 (Or.inl rfl) (Or.inl rfl) (by decide))
  have F32 := F32.other Wz277 (own_sl hw 71 69 (Or.inl rfl) (Or.inl rfl) (by decide))
  have F4 := F4.other Wz277 (own_o1 lt_le_fi)
  have F14 := F14.other Wz277 (own_o1 lt_le_fi)
  have F8 := F8.other Wz277 (own_o1 lt_le_fi)
  have F28 := F28.other Wz277 (own_o1 lt_le_fi)
  have F24 := F24.other Wz277 (own_o1 lt_le_fi)
  have V_jo := V_jo.other Wz277 (Nat.ne_of_lt lt_jo_fi)
  have V_go := V_go.other Wz277 (Nat.ne_of_lt lt_go_fi)
  have V_pe := V_pe.other Wz277 (Nat.ne_of_lt lt_pe_fi)
  have V_li := V_li.other Wz277 (Nat.ne_of_lt lt_li_fi)
  have V_in_ := V_in_.other Wz277 (Nat.ne_of_gt lt_fi_in_)
  have V_ou := V_ou.other Wz277 (Nat.ne_of_gt lt_fi_ou)
  have V_fl := V_fl.other Wz277 (Nat.ne_of_gt lt_fi_fl)
  have V_el := V_el.other Wz277 (Nat.ne_of_gt lt_fi_el)
  have V_ev := V_ev.other Wz277 (Nat.ne_of_gt lt_fi_ev)
  have V_st := V_st.other Wz277 (Nat.ne_of_gt lt_fi_st)
  have V_se := V_se.other Wz277 (Nat.ne_of_gt lt_fi_se)
  have K := K.wr Wz277 (Or.inl (List.mem_of_getElem? (i := 0) rfl))
  have F30 := F31
  show own_Go _ _ _ _ Tz277 (mkF m 5 #[oR fi, oI 0, oD X_, oS, oU, oU, oU, oU, oU, oU, oU, oU, oU, oU] [])
  refine own_go (fun _ k => XS.aloadN Xz277.here hx rfl (hb hby own_d6_5) rfl rfl k) ?_
  show own_Go _ _ _ _ Tz277 (mkF m 6 #[oR fi, oI 0, oD X_, oS, oU, oU, oU, oU, oU, oU, oU, oU, oU, oU] [(.ref fi)])
  refine own_go (fun _ k => XS.dconst0 Xz277.here hx rfl (hb hby own_d6_6) own_dc0 k) ?_
  show own_Go _ _ _ _ Tz277 (mkF m 7 #[oR fi, oI 0, oD X_, oS, oU, oU, oU, oU, oU, oU, oU, oU, oU, oU] [(.double 0), (.ref fi)])
  obtain ⟨Tz278, hz278, Xz278, ez278, Wz278, stz278⟩ := putF Xz277 hx hZ hown (host := "") (Or.inl (hw _ (List.mem_of_getElem? (i := 70) rfl))) Via.refl ez277 F32 E_fi (Or.inl (hw _ (List.mem_of_getElem? (i := 71) rfl))) (hw _ (List.mem_of_getElem? (i := 23) rfl)) (ty := .double) (by decide) rfl rfl (g := (mkF m 7 #[oR fi, oI 0, oD X_, oS, oU, oU, oU, oU, oU, oU, oU, oU, oU, oU] [(.double 0), (.ref fi)])) rfl rfl (hb hby own_d6_7)
  refine own_go stz278 ?_
  have Nz278 := Fr.snoc Xz278 Nz277 g_fi
  have F33 := F32.same Wz278
  have E_fi := E_fi.wr Wz278
  have F22 := F22.other Wz278 (own_sl hw 30 71 (Or.inl rfl) (Or.inl rfl) (by decide))
  have F0 := F0.other Wz278 (own_sl hw 32 71 (Or.inl rfl) (Or.inl rfl) (by decide))
  have F2 := F2.other Wz278 (own_sl hw 34 71 (Or.inl rfl) (Or.inl rfl) (by decide))
  have F38 := F38.other Wz278 (own_sl hw 36 71 (Or.inl rfl) (Or.inl rfl) (by decide))
  have F36 := F36.other Wz278 (own_sl hw 38 71 (Or.inl rfl) (Or.inl rfl) (by decide))
  have F18 := F18.other Wz278 (own_sl hw 40 71 (Or.inr rfl) (Or.inl rfl) (by decide))
  have F12 := F12.other Wz278 (own_sl hw 42 71 (Or.inr rfl) (Or.inl rfl) (by decide))
  have F26 := F26.other Wz278 (own_sl hw 44 71 (Or.inr rfl) (Or.inl rfl) (by decide))
  have F40 := F40.other Wz278 (own_sl hw 51 71 (Or.inl rfl) (Or.inl rfl) (by decide))
  have F16 := F16.other Wz278 (own_sl hw 58 71 (Or.inl rfl) (Or.inl rfl) (by decide))
  have F6 := F6.other Wz278 (own_sl hw 60 71 (Or.inl rfl) (Or.inl rfl) (by decide))
  have F34 := F34.other Wz278 (own_sl hw 62 71 (Or.inl rfl) (Or.inl rfl) (by decide))
  have F20 := F20.other Wz278 (own_sl hw 73 71 (Or.inl rfl) (Or.inl rfl) (by decide))
  have F10 := F10.other Wz278 (own_sl hw 79 71 (Or.inl rfl) (Or.inl rfl) (by decide))
  have F4 := F4.other Wz278 (own_o1 lt_le_fi)
  have F14 := F14.other Wz278 (own_o1 lt_le_fi)
  have F8 := F8.other Wz278 (own_o1 lt_le_fi)
  have F28 := F28.other Wz278 (own_o1 lt_le_fi)
  have F24 := F24.other Wz278 (own_o1 lt_le_fi)
  have V_jo := V_jo.other Wz278 (Nat.ne_of_lt lt_jo_fi)
  have V_go := V_go.other Wz278 (Nat.ne_of_lt lt_go_fi)
  have V_pe := V_pe.other Wz278 (Nat.ne_of_lt lt_pe_fi)
  have V_li := V_li.other Wz278 (Nat.ne_of_lt lt_li_fi)
  have V_in_ := V_in_.other Wz278 (Nat.ne_of_gt lt_fi_in_)
  have V_ou := V_ou.other Wz278 (Nat.ne_of_gt lt_fi_ou)
  have V_fl := V_fl.other Wz278 (Nat.ne_of_gt lt_fi_fl)
  have V_el := V_el.other Wz278 (Nat.ne_of_gt lt_fi_el)
  have V_ev := V_ev.other Wz278 (Nat.ne_of_gt lt_fi_ev)
  have V_st := V_st.other Wz278 (Nat.ne_of_gt lt_fi_st)
  have V_se := V_se.other Wz278 (Nat.ne_of_gt lt_fi_se)
  have K := K.wr Wz278 (Or.inl (List.mem_of_getElem? (i := 0) rfl))
  have F30 := F30.other Wz278 (own_sl hw 69 71 (Or.inl rfl) (Or.inl rfl) (by decide))
  have F32 := F33
  show own_Go _ _ _ _ Tz278 (mkF m 10 #[oR fi, oI 0, oD X_, oS, oU, oU, oU, oU, oU, oU, oU, oU, oU, oU] [])
  refine own_go (fun _ k => XS.dloadN Xz278.here hx rfl (hb hby own_d6_10) rfl k) ?_
  show own_Go _ _ _ _ Tz278 (mkF m 11 #[oR fi, oI 0, oD X_, oS, oU, oU, oU, oU, oU, oU, oU, oU, oU, oU] [(.double X_)])
  refine own_go (fun _ k => XS.dconst0 Xz278.here hx rfl (hb hby own_d6_11) own_dc0 k) ?_
  show own_Go _ _ _ _ Tz278 (mkF m 12 #[oR fi, oI 0, oD X_, oS, oU, oU, oU, oU, oU, oU, oU, oU, oU, oU] [(.double 0), (.double X_)])
  refine own_go (fun _ k => XS.dcmpS Xz278.here hx rfl (hb hby own_d6_12) rfl rfl k) ?_
  show own_Go _ _ _ _ Tz278 (mkF m 13 #[oR fi, oI 0, oD X_, oS, oU, oU, oU, oU, oU, oU, oU, oU, oU, oU] [(.int (cmpValue (FP.dcmp X_ (0 : UInt64)) .l))])
  refine own_go (fun _ k => XS.ifYes Xz278.here hx rfl (pc0 := 13) (pc' := 18) rfl (hb hby own_d6_13) rfl ((if0 _ _).trans (tlt hx0).2.2.1) (by decide) (by decide) k) ?_
  show own_Go _ _ _ _ Tz278 (mkF m 18 #[oR fi, oI 0, oD X_, oS, oU, oU, oU, oU, oU, oU, oU, oU, oU, oU] [])
  refine own_go (fun _ k => XS.aloadN Xz278.here hx rfl (hb hby own_d6_18) rfl rfl k) ?_
  show own_Go _ _ _ _ Tz278 (mkF m 19 #[oR fi, oI 0, oD X_, oS, oU, oU, oU, oU, oU, oU, oU, oU, oU, oU] [(.ref fi)])
  obtain ⟨Tz279, Xz279, ez279, stz279⟩ := getF Xz278 hx hZ hown (host := "") (Or.inl (hw _ (List.mem_of_getElem? (i := 43) rfl))) Via.refl ez278 F26 (g := (mkF m 19 #[oR fi, oI 0, oD X_, oS, oU, oU, oU, oU, oU, oU, oU, oU, oU, oU] [(.ref fi)])) rfl rfl (hb hby own_d6_19)
  refine own_go stz279 ?_
  show own_Go _ _ _ _ Tz279 (mkF m 22 #[oR fi, oI 0, oD X_, oS, oU, oU, oU, oU, oU, oU, oU, oU, oU, oU] [(.ref ou)])
  refine own_go (fun _ k => XS.iloadN Xz279.here hx rfl (hb hby own_d6_22) rfl k) ?_
  show own_Go _ _ _ _ Tz279 (mkF m 23 #[oR fi, oI 0, oD X_, oS, oU, oU, oU, oU, oU, oU, oU, oU, oU, oU] [(.int 0), (.ref ou)])
  obtain ⟨clz280, Arz280, qz280, Sz280, Mz280, HHz280, Gz280⟩ := id V_ou
  have hinz280 : ¬ ((0 : Int32) < 0 ∨ clz280.slots.size ≤ ((0 : Int32)).toNatClampNeg) := inb_of Sz280 ⟨(by decide), (by decide)⟩
  have hatz280 : clz280.slots[((0 : Int32)).toNatClampNeg]? = some (.double 0) := HHz280.at hinz280 (rfl)
  refine own_go (fun _ k => Xz279.daload hx (j := (0 : Int32)) (v := (.double 0)) (by rw [ez279]; exact Arz280.1) (State.isArrayOf_alike hZ.alike Arz280.2.1) Arz280.2.2 hinz280 hatz280 (g := (mkF m 23 #[oR fi, oI 0, oD X_, oS, oU, oU, oU, oU, oU, oU, oU, oU, oU, oU] [(.int 0), (.ref ou)])) rfl rfl (hb hby own_d6_23) _ k) ?_
  show own_Go _ _ _ _ Tz279 (mkF m 24 #[oR fi, oI 0, oD X_, oS, oU, oU, oU, oU, oU, oU, oU, oU, oU, oU] [(.double 0)])
  refine own_go (fun _ k => XS.dloadN Xz279.here hx rfl (hb hby own_d6_24) rfl k) ?_
  show own_Go _ _ _ _ Tz279 (mkF m 25 #[oR fi, oI 0, oD X_, oS, oU, oU, oU, oU, oU, oU, oU, oU, oU, oU] [(.double X_), (.double 0)])
  refine own_go (fun _ k => XS.daddS Xz279.here hx rfl (hb hby own_d6_25) rfl (by rw [hU]; exact hnX) hU k) ?_
  show own_Go _ _ _ _ Tz279 (mkF m 26 #[oR fi, oI 0, oD X_, oS, oU, oU, oU, oU, oU, oU, oU, oU, oU, oU] [(.double X_)])
  refine own_go (fun _ k => XS.dstore Xz279.here hx rfl (hb hby own_d6_26) rfl (l' := #[oR fi, oI 0, oD X_, oS, oD X_, oS, oU, oU, oU, oU, oU, oU, oU, oU]) rfl k) ?_
  show own_Go _ _ _ _ Tz279 (mkF m 28 #[oR fi, oI 0, oD X_, oS, oD X_, oS, oU, oU, oU, oU, oU, oU, oU, oU] [])
  refine own_go (fun _ k => XS.aloadN Xz279.here hx rfl (hb hby own_d6_28) rfl rfl k) ?_
  show own_Go _ _ _ _ Tz279 (mkF m 29 #[oR fi, oI 0, oD X_, oS, oD X_, oS, oU, oU, oU, oU, oU, oU, oU, oU] [(.ref fi)])
  obtain ⟨Tz281, Xz281, ez281, stz281⟩ := getF Xz279 hx hZ hown (host := "") (Or.inl (hw _ (List.mem_of_getElem? (i := 61) rfl))) Via.refl ez279 F34 (g := (mkF m 29 #[oR fi, oI 0, oD X_, oS, oD X_, oS, oU, oU, oU, oU, oU, oU, oU, oU] [(.ref fi)])) rfl rfl (hb hby own_d6_29)
  refine own_go stz281 ?_
  show own_Go _ _ _ _ Tz281 (mkF m 32 #[oR fi, oI 0, oD X_, oS, oD X_, oS, oU, oU, oU, oU, oU, oU, oU, oU] [(.int 1)])
  refine own_go (fun _ k => XS.ifNo Xz281.here hx rfl (hb hby own_d6_32) rfl ((if0 _ _).trans (tlt (by decide : (0 : Int32) < (1 : Int32))).2.2.2) k) ?_
  show own_Go _ _ _ _ Tz281 (mkF m 35 #[oR fi, oI 0, oD X_, oS, oD X_, oS, oU, oU, oU, oU, oU, oU, oU, oU] [])
  refine own_go (fun _ k => XS.aloadN Xz281.here hx rfl (hb hby own_d6_35) rfl rfl k) ?_
  show own_Go _ _ _ _ Tz281 (mkF m 36 #[oR fi, oI 0, oD X_, oS, oD X_, oS, oU, oU, oU, oU, oU, oU, oU, oU] [(.ref fi)])
  obtain ⟨Tz282, Xz282, ez282, stz282⟩ := getF Xz281 hx hZ hown (host := "") (Or.inl (hw _ (List.mem_of_getElem? (i := 41) rfl))) Via.refl ez281 F12 (g := (mkF m 36 #[oR fi, oI 0, oD X_, oS, oD X_, oS, oU, oU, oU, oU, oU, oU, oU, oU] [(.ref fi)])) rfl rfl (hb hby own_d6_36)
  refine own_go stz282 ?_
  show own_Go _ _ _ _ Tz282 (mkF m 39 #[oR fi, oI 0, oD X_, oS, oD X_, oS, oU, oU, oU, oU, oU, oU, oU, oU] [(.ref in_)])
  refine own_go (fun _ k => XS.aloadN Xz282.here hx rfl (hb hby own_d6_39) rfl rfl k) ?_
  show own_Go _ _ _ _ Tz282 (mkF m 40 #[oR fi, oI 0, oD X_, oS, oD X_, oS, oU, oU, oU, oU, oU, oU, oU, oU] [(.ref fi), (.ref in_)])
  obtain ⟨Tz283, Xz283, ez283, stz283⟩ := getF Xz282 hx hZ hown (host := "") (Or.inl (hw _ (List.mem_of_getElem? (i := 35) rfl))) Via.refl ez282 F38 (g := (mkF m 40 #[oR fi, oI 0, oD X_, oS, oD X_, oS, oU, oU, oU, oU, oU, oU, oU, oU] [(.ref fi), (.ref in_)])) rfl rfl (hb hby own_d6_40)
  refine own_go stz283 ?_
  show own_Go _ _ _ _ Tz283 (mkF m 43 #[oR fi, oI 0, oD X_, oS, oD X_, oS, oU, oU, oU, oU, oU, oU, oU, oU] [(.ref st), (.ref in_)])
  refine own_go (fun _ k => XS.aloadN Xz283.here hx rfl (hb hby own_d6_43) rfl rfl k) ?_
  show own_Go _ _ _ _ Tz283 (mkF m 44 #[oR fi, oI 0, oD X_, oS, oD X_, oS, oU, oU, oU, oU, oU, oU, oU, oU] [(.ref fi), (.ref st), (.ref in_)])
  obtain ⟨Tz284, Xz284, ez284, stz284⟩ := getF Xz283 hx hZ hown (host := "") (Or.inl (hw _ (List.mem_of_getElem? (i := 59) rfl))) Via.refl ez283 F6 (g := (mkF m 44 #[oR fi, oI 0, oD X_, oS, oD X_, oS, oU, oU, oU, oU, oU, oU, oU, oU] [(.ref fi), (.ref st), (.ref in_)])) rfl rfl (hb hby own_d6_44)
  refine own_go stz284 ?_
  show own_Go _ _ _ _ Tz284 (mkF m 47 #[oR fi, oI 0, oD X_, oS, oD X_, oS, oU, oU, oU, oU, oU, oU, oU, oU] [(.int 0), (.ref st), (.ref in_)])
  obtain ⟨clz285, Arz285, qz285, Sz285, Mz285, HHz285, Gz285⟩ := id V_st
  have hinz285 : ¬ ((0 : Int32) < 0 ∨ clz285.slots.size ≤ ((0 : Int32)).toNatClampNeg) := inb_of Sz285 ⟨(by decide), (by decide)⟩
  have hatz285 : clz285.slots[((0 : Int32)).toNatClampNeg]? = some (.int 0) := HHz285.at hinz285 (rfl)
  refine own_go (fun _ k => Xz284.iaload hx (j := (0 : Int32)) (v := (.int 0)) (by rw [ez284]; exact Arz285.1) (State.isArrayOf_alike hZ.alike Arz285.2.1) Arz285.2.2 hinz285 hatz285 (g := (mkF m 47 #[oR fi, oI 0, oD X_, oS, oD X_, oS, oU, oU, oU, oU, oU, oU, oU, oU] [(.int 0), (.ref st), (.ref in_)])) rfl rfl (hb hby own_d6_47) _ k) ?_
  show own_Go _ _ _ _ Tz284 (mkF m 48 #[oR fi, oI 0, oD X_, oS, oD X_, oS, oU, oU, oU, oU, oU, oU, oU, oU] [(.int 0), (.ref in_)])
  refine own_go (fun _ k => XS.iconst Xz284.here hx rfl (hb hby own_d6_48) k) ?_
  show own_Go _ _ _ _ Tz284 (mkF m 49 #[oR fi, oI 0, oD X_, oS, oD X_, oS, oU, oU, oU, oU, oU, oU, oU, oU] [(.int 1), (.int 0), (.ref in_)])
  refine own_go (fun _ k => XS.iadd Xz284.here hx rfl (hb hby own_d6_49) rfl k) ?_
  show own_Go _ _ _ _ Tz284 (mkF m 50 #[oR fi, oI 0, oD X_, oS, oD X_, oS, oU, oU, oU, oU, oU, oU, oU, oU] [(.int ((0 : Int32) + (1 : Int32))), (.ref in_)])
  obtain ⟨clz286, Arz286, qz286, Sz286, Mz286, HHz286, Gz286⟩ := id V_in_
  have hinz286 : ¬ (((0 : Int32) + (1 : Int32)) < 0 ∨ clz286.slots.size ≤ (((0 : Int32) + (1 : Int32))).toNatClampNeg) := inb_of Sz286 ⟨(by decide), (by decide)⟩
  have hatz286 : clz286.slots[(((0 : Int32) + (1 : Int32))).toNatClampNeg]? = some (.double oC) := HHz286.at hinz286 (rfl)
  refine own_go (fun _ k => Xz284.daload hx (j := ((0 : Int32) + (1 : Int32))) (v := (.double oC)) (by rw [ez284]; exact Arz286.1) (State.isArrayOf_alike hZ.alike Arz286.2.1) Arz286.2.2 hinz286 hatz286 (g := (mkF m 50 #[oR fi, oI 0, oD X_, oS, oD X_, oS, oU, oU, oU, oU, oU, oU, oU, oU] [(.int ((0 : Int32) + (1 : Int32))), (.ref in_)])) rfl rfl (hb hby own_d6_50) _ k) ?_
  show own_Go _ _ _ _ Tz284 (mkF m 51 #[oR fi, oI 0, oD X_, oS, oD X_, oS, oU, oU, oU, oU, oU, oU, oU, oU] [(.double oC)])
  refine own_go (fun _ k => XS.dload Xz284.here hx rfl (hb hby own_d6_51) rfl k) ?_
  show own_Go _ _ _ _ Tz284 (mkF m 53 #[oR fi, oI 0, oD X_, oS, oD X_, oS, oU, oU, oU, oU, oU, oU, oU, oU] [(.double X_), (.double oC)])
  refine own_go (fun _ k => XS.dcmpS Xz284.here hx rfl (hb hby own_d6_53) rfl rfl k) ?_
  show own_Go _ _ _ _ Tz284 (mkF m 54 #[oR fi, oI 0, oD X_, oS, oD X_, oS, oU, oU, oU, oU, oU, oU, oU, oU] [(.int (cmpValue (FP.dcmp (4625196817309499392 : UInt64) X_) .g))])
  refine own_go (fun _ k => XS.ifYes Xz284.here hx rfl (pc0 := 54) (pc' := 153) rfl (hb hby own_d6_54) rfl ((if0 _ _).trans (tlt hlt).2.2.1) (by decide) (by decide) k) ?_
  show own_Go _ _ _ _ Tz284 (mkF m 153 #[oR fi, oI 0, oD X_, oS, oD X_, oS, oU, oU, oU, oU, oU, oU, oU, oU] [])
  refine own_go (fun _ k => XS.iconst Xz284.here hx rfl (hb hby own_d6_153) k) ?_
  show own_Go _ _ _ _ Tz284 (mkF m 154 #[oR fi, oI 0, oD X_, oS, oD X_, oS, oU, oU, oU, oU, oU, oU, oU, oU] [(.int 0)])
  refine own_go (fun _ k => XS.istore Xz284.here hx rfl (hb hby own_d6_154) rfl (l' := #[oR fi, oI 0, oD X_, oS, oD X_, oS, oI 0, oU, oU, oU, oU, oU, oU, oU]) rfl k) ?_
  show own_Go _ _ _ _ Tz284 (mkF m 156 #[oR fi, oI 0, oD X_, oS, oD X_, oS, oI 0, oU, oU, oU, oU, oU, oU, oU] [])
  refine own_go (fun _ k => XS.iload Xz284.here hx rfl (hb hby own_d6_156) rfl k) ?_
  show own_Go _ _ _ _ Tz284 (mkF m 158 #[oR fi, oI 0, oD X_, oS, oD X_, oS, oI 0, oU, oU, oU, oU, oU, oU, oU] [(.int 0)])
  refine own_go (fun _ k => XS.aloadN Xz284.here hx rfl (hb hby own_d6_158) rfl rfl k) ?_
  show own_Go _ _ _ _ Tz284 (mkF m 159 #[oR fi, oI 0, oD X_, oS, oD X_, oS, oI 0, oU, oU, oU, oU, oU, oU, oU] [(.ref fi), (.int 0)])
  obtain ⟨Tz287, Xz287, ez287, stz287⟩ := getF Xz284 hx hZ hown (host := "") (Or.inl (hw _ (List.mem_of_getElem? (i := 72) rfl))) Via.refl ez284 F20 (g := (mkF m 159 #[oR fi, oI 0, oD X_, oS, oD X_, oS, oI 0, oU, oU, oU, oU, oU, oU, oU] [(.ref fi), (.int 0)])) rfl rfl (hb hby own_d6_159)
  refine own_go stz287 ?_
  show own_Go _ _ _ _ Tz287 (mkF m 162 #[oR fi, oI 0, oD X_, oS, oD X_, oS, oI 0, oU, oU, oU, oU, oU, oU, oU] [(.int 0), (.int 0)])
  refine own_go (fun _ k => XS.icmpYes Xz287.here hx rfl (pc0 := 162) (pc' := 211) rfl (hb hby own_d6_162) rfl (flt (by decide : ¬ ((0 : Int32) < (0 : Int32)))).2.1 (by decide) (by decide) k) ?_
  show own_Go _ _ _ _ Tz287 (mkF m 211 #[oR fi, oI 0, oD X_, oS, oD X_, oS, oI 0, oU, oU, oU, oU, oU, oU, oU] [])
  refine own_go (fun _ k => XS.aloadN Xz287.here hx rfl (hb hby own_d6_211) rfl rfl k) ?_
  show own_Go _ _ _ _ Tz287 (mkF m 212 #[oR fi, oI 0, oD X_, oS, oD X_, oS, oI 0, oU, oU, oU, oU, oU, oU, oU] [(.ref fi)])
  obtain ⟨Tz288, Xz288, ez288, stz288⟩ := getF Xz287 hx hZ hown (host := "") (Or.inl (hw _ (List.mem_of_getElem? (i := 61) rfl))) Via.refl ez287 F34 (g := (mkF m 212 #[oR fi, oI 0, oD X_, oS, oD X_, oS, oI 0, oU, oU, oU, oU, oU, oU, oU] [(.ref fi)])) rfl rfl (hb hby own_d6_212)
  refine own_go stz288 ?_
  show own_Go _ _ _ _ Tz288 (mkF m 215 #[oR fi, oI 0, oD X_, oS, oD X_, oS, oI 0, oU, oU, oU, oU, oU, oU, oU] [(.int 1)])
  refine own_go (fun _ k => XS.ifNo Xz288.here hx rfl (hb hby own_d6_215) rfl ((if0 _ _).trans (tlt (by decide : (0 : Int32) < (1 : Int32))).2.2.2) k) ?_
  show own_Go _ _ _ _ Tz288 (mkF m 218 #[oR fi, oI 0, oD X_, oS, oD X_, oS, oI 0, oU, oU, oU, oU, oU, oU, oU] [])
  refine own_go (fun _ k => XS.aloadN Xz288.here hx rfl (hb hby own_d6_218) rfl rfl k) ?_
  show own_Go _ _ _ _ Tz288 (mkF m 219 #[oR fi, oI 0, oD X_, oS, oD X_, oS, oI 0, oU, oU, oU, oU, oU, oU, oU] [(.ref fi)])
  obtain ⟨Tz289, Xz289, ez289, stz289⟩ := getF Xz288 hx hZ hown (host := "") (Or.inl (hw _ (List.mem_of_getElem? (i := 35) rfl))) Via.refl ez288 F38 (g := (mkF m 219 #[oR fi, oI 0, oD X_, oS, oD X_, oS, oI 0, oU, oU, oU, oU, oU, oU, oU] [(.ref fi)])) rfl rfl (hb hby own_d6_219)
  refine own_go stz289 ?_
  show own_Go _ _ _ _ Tz289 (mkF m 222 #[oR fi, oI 0, oD X_, oS, oD X_, oS, oI 0, oU, oU, oU, oU, oU, oU, oU] [(.ref st)])
  refine own_go (fun _ k => XS.aloadN Xz289.here hx rfl (hb hby own_d6_222) rfl rfl k) ?_
  show own_Go _ _ _ _ Tz289 (mkF m 223 #[oR fi, oI 0, oD X_, oS, oD X_, oS, oI 0, oU, oU, oU, oU, oU, oU, oU] [(.ref fi), (.ref st)])
  obtain ⟨Tz290, Xz290, ez290, stz290⟩ := getF Xz289 hx hZ hown (host := "") (Or.inl (hw _ (List.mem_of_getElem? (i := 59) rfl))) Via.refl ez289 F6 (g := (mkF m 223 #[oR fi, oI 0, oD X_, oS, oD X_, oS, oI 0, oU, oU, oU, oU, oU, oU, oU] [(.ref fi), (.ref st)])) rfl rfl (hb hby own_d6_223)
  refine own_go stz290 ?_
  show own_Go _ _ _ _ Tz290 (mkF m 226 #[oR fi, oI 0, oD X_, oS, oD X_, oS, oI 0, oU, oU, oU, oU, oU, oU, oU] [(.int 0), (.ref st)])
  obtain ⟨clz291, Arz291, qz291, Sz291, Mz291, HHz291, Gz291⟩ := id V_st
  have hinz291 : ¬ ((0 : Int32) < 0 ∨ clz291.slots.size ≤ ((0 : Int32)).toNatClampNeg) := inb_of Sz291 ⟨(by decide), (by decide)⟩
  have hatz291 : clz291.slots[((0 : Int32)).toNatClampNeg]? = some (.int 0) := HHz291.at hinz291 (rfl)
  refine own_go (fun _ k => Xz290.iaload hx (j := (0 : Int32)) (v := (.int 0)) (by rw [ez290]; exact Arz291.1) (State.isArrayOf_alike hZ.alike Arz291.2.1) Arz291.2.2 hinz291 hatz291 (g := (mkF m 226 #[oR fi, oI 0, oD X_, oS, oD X_, oS, oI 0, oU, oU, oU, oU, oU, oU, oU] [(.int 0), (.ref st)])) rfl rfl (hb hby own_d6_226) _ k) ?_
  show own_Go _ _ _ _ Tz290 (mkF m 227 #[oR fi, oI 0, oD X_, oS, oD X_, oS, oI 0, oU, oU, oU, oU, oU, oU, oU] [(.int 0)])
  refine own_go (fun _ k => XS.istore Xz290.here hx rfl (hb hby own_d6_227) rfl (l' := #[oR fi, oI 0, oD X_, oS, oD X_, oS, oI 0, oU, oU, oU, oU, oU, oU, oU]) rfl k) ?_
  show own_Go _ _ _ _ Tz290 (mkF m 229 #[oR fi, oI 0, oD X_, oS, oD X_, oS, oI 0, oU, oU, oU, oU, oU, oU, oU] [])
  refine own_go (fun _ k => XS.aloadN Xz290.here hx rfl (hb hby own_d6_229) rfl rfl k) ?_
  show own_Go _ _ _ _ Tz290 (mkF m 230 #[oR fi, oI 0, oD X_, oS, oD X_, oS, oI 0, oU, oU, oU, oU, oU, oU, oU] [(.ref fi)])
  obtain ⟨Tz292, Xz292, ez292, stz292⟩ := getF Xz290 hx hZ hown (host := "") (Or.inl (hw _ (List.mem_of_getElem? (i := 41) rfl))) Via.refl ez290 F12 (g := (mkF m 230 #[oR fi, oI 0, oD X_, oS, oD X_, oS, oI 0, oU, oU, oU, oU, oU, oU, oU] [(.ref fi)])) rfl rfl (hb hby own_d6_230)
  refine own_go stz292 ?_
  show own_Go _ _ _ _ Tz292 (mkF m 233 #[oR fi, oI 0, oD X_, oS, oD X_, oS, oI 0, oU, oU, oU, oU, oU, oU, oU] [(.ref in_)])
  refine own_go (fun _ k => XS.iload Xz292.here hx rfl (hb hby own_d6_233) rfl k) ?_
  show own_Go _ _ _ _ Tz292 (mkF m 235 #[oR fi, oI 0, oD X_, oS, oD X_, oS, oI 0, oU, oU, oU, oU, oU, oU, oU] [(.int 0), (.ref in_)])
  obtain ⟨clz293, Arz293, qz293, Sz293, Mz293, HHz293, Gz293⟩ := id V_in_
  have hinz293 : ¬ ((0 : Int32) < 0 ∨ clz293.slots.size ≤ ((0 : Int32)).toNatClampNeg) := inb_of Sz293 ⟨(by decide), (by decide)⟩
  have hatz293 : clz293.slots[((0 : Int32)).toNatClampNeg]? = some (.double 0) := HHz293.at hinz293 (rfl)
  refine own_go (fun _ k => Xz292.daload hx (j := (0 : Int32)) (v := (.double 0)) (by rw [ez292]; exact Arz293.1) (State.isArrayOf_alike hZ.alike Arz293.2.1) Arz293.2.2 hinz293 hatz293 (g := (mkF m 235 #[oR fi, oI 0, oD X_, oS, oD X_, oS, oI 0, oU, oU, oU, oU, oU, oU, oU] [(.int 0), (.ref in_)])) rfl rfl (hb hby own_d6_235) _ k) ?_
  show own_Go _ _ _ _ Tz292 (mkF m 236 #[oR fi, oI 0, oD X_, oS, oD X_, oS, oI 0, oU, oU, oU, oU, oU, oU, oU] [(.double 0)])
  refine own_go (fun _ k => XS.dstore Xz292.here hx rfl (hb hby own_d6_236) rfl (l' := #[oR fi, oI 0, oD X_, oS, oD X_, oS, oI 0, oD 0, oS, oU, oU, oU, oU, oU]) rfl k) ?_
  show own_Go _ _ _ _ Tz292 (mkF m 238 #[oR fi, oI 0, oD X_, oS, oD X_, oS, oI 0, oD 0, oS, oU, oU, oU, oU, oU] [])
  refine own_go (fun _ k => XS.dconst0 Xz292.here hx rfl (hb hby own_d6_238) own_dc0 k) ?_
  show own_Go _ _ _ _ Tz292 (mkF m 239 #[oR fi, oI 0, oD X_, oS, oD X_, oS, oI 0, oD 0, oS, oU, oU, oU, oU, oU] [(.double 0)])
  refine own_go (fun _ k => XS.dload Xz292.here hx rfl (hb hby own_d6_239) rfl k) ?_
  show own_Go _ _ _ _ Tz292 (mkF m 241 #[oR fi, oI 0, oD X_, oS, oD X_, oS, oI 0, oD 0, oS, oU, oU, oU, oU, oU] [(.double X_), (.double 0)])
  refine own_go (fun _ k => XS.dload Xz292.here hx rfl (hb hby own_d6_241) rfl k) ?_
  show own_Go _ _ _ _ Tz292 (mkF m 243 #[oR fi, oI 0, oD X_, oS, oD X_, oS, oI 0, oD 0, oS, oU, oU, oU, oU, oU] [(.double 0), (.double X_), (.double 0)])
  refine own_go (fun _ k => XS.dsubS Xz292.here hx rfl (hb hby own_d6_243) rfl (by rw [hsX]; exact hnX) hsX k) ?_
  show own_Go _ _ _ _ Tz292 (mkF m 244 #[oR fi, oI 0, oD X_, oS, oD X_, oS, oI 0, oD 0, oS, oU, oU, oU, oU, oU] [(.double X_), (.double 0)])
  refine own_go (fun _ k => XS.aloadN Xz292.here hx rfl (hb hby own_d6_244) rfl rfl k) ?_
  show own_Go _ _ _ _ Tz292 (mkF m 245 #[oR fi, oI 0, oD X_, oS, oD X_, oS, oI 0, oD 0, oS, oU, oU, oU, oU, oU] [(.ref fi), (.double X_), (.double 0)])
  obtain ⟨Tz294, Xz294, ez294, stz294⟩ := getF Xz292 hx hZ hown (host := "") (Or.inl (hw _ (List.mem_of_getElem? (i := 41) rfl))) Via.refl ez292 F12 (g := (mkF m 245 #[oR fi, oI 0, oD X_, oS, oD X_, oS, oI 0, oD 0, oS, oU, oU, oU, oU, oU] [(.ref fi), (.double X_), (.double 0)])) rfl rfl (hb hby own_d6_245)
  refine own_go stz294 ?_
  show own_Go _ _ _ _ Tz294 (mkF m 248 #[oR fi, oI 0, oD X_, oS, oD X_, oS, oI 0, oD 0, oS, oU, oU, oU, oU, oU] [(.ref in_), (.double X_), (.double 0)])
  refine own_go (fun _ k => XS.iload Xz294.here hx rfl (hb hby own_d6_248) rfl k) ?_
  show own_Go _ _ _ _ Tz294 (mkF m 250 #[oR fi, oI 0, oD X_, oS, oD X_, oS, oI 0, oD 0, oS, oU, oU, oU, oU, oU] [(.int 0), (.ref in_), (.double X_), (.double 0)])
  refine own_go (fun _ k => XS.iconst Xz294.here hx rfl (hb hby own_d6_250) k) ?_
  show own_Go _ _ _ _ Tz294 (mkF m 251 #[oR fi, oI 0, oD X_, oS, oD X_, oS, oI 0, oD 0, oS, oU, oU, oU, oU, oU] [(.int 1), (.int 0), (.ref in_), (.double X_), (.double 0)])
  refine own_go (fun _ k => XS.iadd Xz294.here hx rfl (hb hby own_d6_251) rfl k) ?_
  show own_Go _ _ _ _ Tz294 (mkF m 252 #[oR fi, oI 0, oD X_, oS, oD X_, oS, oI 0, oD 0, oS, oU, oU, oU, oU, oU] [(.int ((0 : Int32) + (1 : Int32))), (.ref in_), (.double X_), (.double 0)])
  obtain ⟨clz295, Arz295, qz295, Sz295, Mz295, HHz295, Gz295⟩ := id V_in_
  have hinz295 : ¬ (((0 : Int32) + (1 : Int32)) < 0 ∨ clz295.slots.size ≤ (((0 : Int32) + (1 : Int32))).toNatClampNeg) := inb_of Sz295 ⟨(by decide), (by decide)⟩
  have hatz295 : clz295.slots[(((0 : Int32) + (1 : Int32))).toNatClampNeg]? = some (.double oC) := HHz295.at hinz295 (rfl)
  refine own_go (fun _ k => Xz294.daload hx (j := ((0 : Int32) + (1 : Int32))) (v := (.double oC)) (by rw [ez294]; exact Arz295.1) (State.isArrayOf_alike hZ.alike Arz295.2.1) Arz295.2.2 hinz295 hatz295 (g := (mkF m 252 #[oR fi, oI 0, oD X_, oS, oD X_, oS, oI 0, oD 0, oS, oU, oU, oU, oU, oU] [(.int ((0 : Int32) + (1 : Int32))), (.ref in_), (.double X_), (.double 0)])) rfl rfl (hb hby own_d6_252) _ k) ?_
  show own_Go _ _ _ _ Tz294 (mkF m 253 #[oR fi, oI 0, oD X_, oS, oD X_, oS, oI 0, oD 0, oS, oU, oU, oU, oU, oU] [(.double oC), (.double X_), (.double 0)])
  refine own_go (fun _ k => XS.dload Xz294.here hx rfl (hb hby own_d6_253) rfl k) ?_
  show own_Go _ _ _ _ Tz294 (mkF m 255 #[oR fi, oI 0, oD X_, oS, oD X_, oS, oI 0, oD 0, oS, oU, oU, oU, oU, oU] [(.double 0), (.double oC), (.double X_), (.double 0)])
  refine own_go (fun _ k => XS.dsubS Xz294.here hx rfl (hb hby own_d6_255) rfl (by rw [own_z00.2.2.2.1]; exact own_nn16) own_z00.2.2.2.1 k) ?_
  show own_Go _ _ _ _ Tz294 (mkF m 256 #[oR fi, oI 0, oD X_, oS, oD X_, oS, oI 0, oD 0, oS, oU, oU, oU, oU, oU] [(.double oC), (.double X_), (.double 0)])
  refine own_go (fun _ k => XS.ddivS Xz294.here hx rfl (hb hby own_d6_256) rfl (by rw [hF]; exact hnF) hF k) ?_
  show own_Go _ _ _ _ Tz294 (mkF m 257 #[oR fi, oI 0, oD X_, oS, oD X_, oS, oI 0, oD 0, oS, oU, oU, oU, oU, oU] [(.double F_), (.double 0)])
  obtain ⟨Tz296, Xz296, ez296, stz296⟩ := natS Xz294 hx hZ hown (hw _ (List.mem_of_getElem? (i := 74) rfl)) (hw _ (List.mem_of_getElem? (i := 75) rfl)) (hw _ (List.mem_of_getElem? (i := 76) rfl)) (hw _ (List.mem_of_getElem? (i := 77) rfl)) (by decide) ez294 (W := 0) (F := fun a' => a' = #[.double 0, .double F_] ∧ NoNaN64 (0 : UInt64) ∧ NoNaN64 F_) (val := .double (Native.java_lang_Math.nans.pick64 true (0 : UInt64) F_)) (val' := .double F_) (fun hc => Jvm.Free.Fl.Abs.maxD_pays (0 : UInt64) F_ hc (by decide) (by decide)) (g := (mkF m 257 #[oR fi, oI 0, oD X_, oS, oD X_, oS, oI 0, oD 0, oS, oU, oU, oU, oU, oU] [(.double F_), (.double 0)])) rfl (by rw [hml]; rfl) (argsL := [(.double 0), (.double F_)]) (rest := []) (lenOf own_pd1 rfl) rfl (by show 2 * 0 + _ ≤ _; exact Nat.le_of_eq rfl) (hb hby own_d6_257) (by decide) (by decide) ⟨rfl, own_nn0, hnF⟩ (congrArg Value.double hmF)
  refine own_go stz296 ?_
  show own_Go _ _ _ _ Tz296 (mkF m 260 #[oR fi, oI 0, oD X_, oS, oD X_, oS, oI 0, oD 0, oS, oU, oU, oU, oU, oU] [(.double F_)])
  refine own_go (fun _ k => XS.dstore Xz296.here hx rfl (hb hby own_d6_260) rfl (l' := #[oR fi, oI 0, oD X_, oS, oD X_, oS, oI 0, oD 0, oS, oD F_, oS, oU, oU, oU]) rfl k) ?_
  show own_Go _ _ _ _ Tz296 (mkF m 262 #[oR fi, oI 0, oD X_, oS, oD X_, oS, oI 0, oD 0, oS, oD F_, oS, oU, oU, oU] [])
  refine own_go (fun _ k => XS.aloadN Xz296.here hx rfl (hb hby own_d6_262) rfl rfl k) ?_
  show own_Go _ _ _ _ Tz296 (mkF m 263 #[oR fi, oI 0, oD X_, oS, oD X_, oS, oI 0, oD 0, oS, oD F_, oS, oU, oU, oU] [(.ref fi)])
  obtain ⟨Tz297, Xz297, ez297, stz297⟩ := getF Xz296 hx hZ hown (host := "") (Or.inl (hw _ (List.mem_of_getElem? (i := 37) rfl))) Via.refl ez296 F36 (g := (mkF m 263 #[oR fi, oI 0, oD X_, oS, oD X_, oS, oI 0, oD 0, oS, oD F_, oS, oU, oU, oU] [(.ref fi)])) rfl rfl (hb hby own_d6_263)
  refine own_go stz297 ?_
  show own_Go _ _ _ _ Tz297 (mkF m 266 #[oR fi, oI 0, oD X_, oS, oD X_, oS, oI 0, oD 0, oS, oD F_, oS, oU, oU, oU] [(.ref se)])
  refine own_go (fun _ k => XS.aloadN Xz297.here hx rfl (hb hby own_d6_266) rfl rfl k) ?_
  show own_Go _ _ _ _ Tz297 (mkF m 267 #[oR fi, oI 0, oD X_, oS, oD X_, oS, oI 0, oD 0, oS, oD F_, oS, oU, oU, oU] [(.ref fi), (.ref se)])
  obtain ⟨Tz298, Xz298, ez298, stz298⟩ := getF Xz297 hx hZ hown (host := "") (Or.inl (hw _ (List.mem_of_getElem? (i := 59) rfl))) Via.refl ez297 F6 (g := (mkF m 267 #[oR fi, oI 0, oD X_, oS, oD X_, oS, oI 0, oD 0, oS, oD F_, oS, oU, oU, oU] [(.ref fi), (.ref se)])) rfl rfl (hb hby own_d6_267)
  refine own_go stz298 ?_
  show own_Go _ _ _ _ Tz298 (mkF m 270 #[oR fi, oI 0, oD X_, oS, oD X_, oS, oI 0, oD 0, oS, oD F_, oS, oU, oU, oU] [(.int 0), (.ref se)])
  obtain ⟨clz299, Arz299, qz299, Sz299, Mz299, HHz299, Gz299⟩ := id V_se
  have hinz299 : ¬ ((0 : Int32) < 0 ∨ clz299.slots.size ≤ ((0 : Int32)).toNatClampNeg) := inb_of Sz299 ⟨(by decide), (by decide)⟩
  have hatz299 : clz299.slots[((0 : Int32)).toNatClampNeg]? = some (.int 2) := HHz299.at hinz299 (rfl)
  refine own_go (fun _ k => Xz298.iaload hx (j := (0 : Int32)) (v := (.int 2)) (by rw [ez298]; exact Arz299.1) (State.isArrayOf_alike hZ.alike Arz299.2.1) Arz299.2.2 hinz299 hatz299 (g := (mkF m 270 #[oR fi, oI 0, oD X_, oS, oD X_, oS, oI 0, oD 0, oS, oD F_, oS, oU, oU, oU] [(.int 0), (.ref se)])) rfl rfl (hb hby own_d6_270) _ k) ?_
  show own_Go _ _ _ _ Tz298 (mkF m 271 #[oR fi, oI 0, oD X_, oS, oD X_, oS, oI 0, oD 0, oS, oD F_, oS, oU, oU, oU] [(.int 2)])
  refine own_go (fun _ k => XS.istore Xz298.here hx rfl (hb hby own_d6_271) rfl (l' := #[oR fi, oI 0, oD X_, oS, oD X_, oS, oI 0, oD 0, oS, oD F_, oS, oI 2, oU, oU]) rfl k) ?_
  show own_Go _ _ _ _ Tz298 (mkF m 273 #[oR fi, oI 0, oD X_, oS, oD X_, oS, oI 0, oD 0, oS, oD F_, oS, oI 2, oU, oU] [])
  refine own_go (fun _ k => XS.aloadN Xz298.here hx rfl (hb hby own_d6_273) rfl rfl k) ?_
  show own_Go _ _ _ _ Tz298 (mkF m 274 #[oR fi, oI 0, oD X_, oS, oD X_, oS, oI 0, oD 0, oS, oD F_, oS, oI 2, oU, oU] [(.ref fi)])
  obtain ⟨Tz300, Xz300, ez300, stz300⟩ := getF Xz298 hx hZ hown (host := "") (Or.inl (hw _ (List.mem_of_getElem? (i := 78) rfl))) Via.refl ez298 F10 (g := (mkF m 274 #[oR fi, oI 0, oD X_, oS, oD X_, oS, oI 0, oD 0, oS, oD F_, oS, oI 2, oU, oU] [(.ref fi)])) rfl rfl (hb hby own_d6_274)
  refine own_go stz300 ?_
  show own_Go _ _ _ _ Tz300 (mkF m 277 #[oR fi, oI 0, oD X_, oS, oD X_, oS, oI 0, oD 0, oS, oD F_, oS, oI 2, oU, oU] [(.int 0)])
  refine own_go (fun _ k => XS.istore Xz300.here hx rfl (hb hby own_d6_277) rfl (l' := #[oR fi, oI 0, oD X_, oS, oD X_, oS, oI 0, oD 0, oS, oD F_, oS, oI 2, oI 0, oU]) rfl k) ?_
  show own_Go _ _ _ _ Tz300 (mkF m 279 #[oR fi, oI 0, oD X_, oS, oD X_, oS, oI 0, oD 0, oS, oD F_, oS, oI 2, oI 0, oU] [])
  refine own_go (fun _ k => XS.iload Xz300.here hx rfl (hb hby own_d6_279) rfl k) ?_
  show own_Go _ _ _ _ Tz300 (mkF m 281 #[oR fi, oI 0, oD X_, oS, oD X_, oS, oI 0, oD 0, oS, oD F_, oS, oI 2, oI 0, oU] [(.int 0)])
  refine own_go (fun _ k => XS.iload Xz300.here hx rfl (hb hby own_d6_281) rfl k) ?_
  show own_Go _ _ _ _ Tz300 (mkF m 283 #[oR fi, oI 0, oD X_, oS, oD X_, oS, oI 0, oD 0, oS, oD F_, oS, oI 2, oI 0, oU] [(.int 2), (.int 0)])
  refine own_go (fun _ k => XS.icmpNo Xz300.here hx rfl (hb hby own_d6_283) rfl (tlt (by decide : (0 : Int32) < (2 : Int32))).2.1 k) ?_
  show own_Go _ _ _ _ Tz300 (mkF m 286 #[oR fi, oI 0, oD X_, oS, oD X_, oS, oI 0, oD 0, oS, oD F_, oS, oI 2, oI 0, oU] [])
  refine own_go (fun _ k => XS.aloadN Xz300.here hx rfl (hb hby own_d6_286) rfl rfl k) ?_
  show own_Go _ _ _ _ Tz300 (mkF m 287 #[oR fi, oI 0, oD X_, oS, oD X_, oS, oI 0, oD 0, oS, oD F_, oS, oI 2, oI 0, oU] [(.ref fi)])
  obtain ⟨Tz301, Xz301, ez301, stz301⟩ := getF Xz300 hx hZ hown (host := "") (Or.inl (hw _ (List.mem_of_getElem? (i := 31) rfl))) Via.refl ez300 F0 (g := (mkF m 287 #[oR fi, oI 0, oD X_, oS, oD X_, oS, oI 0, oD 0, oS, oD F_, oS, oI 2, oI 0, oU] [(.ref fi)])) rfl rfl (hb hby own_d6_287)
  refine own_go stz301 ?_
  show own_Go _ _ _ _ Tz301 (mkF m 290 #[oR fi, oI 0, oD X_, oS, oD X_, oS, oI 0, oD 0, oS, oD F_, oS, oI 2, oI 0, oU] [(.ref el)])
  refine own_go (fun _ k => XS.iload Xz301.here hx rfl (hb hby own_d6_290) rfl k) ?_
  show own_Go _ _ _ _ Tz301 (mkF m 292 #[oR fi, oI 0, oD X_, oS, oD X_, oS, oI 0, oD 0, oS, oD F_, oS, oI 2, oI 0, oU] [(.int 0), (.ref el)])
  obtain ⟨clz302, Arz302, qz302, Sz302, Mz302, HHz302, Gz302⟩ := id V_el
  have hinz302 : ¬ ((0 : Int32) < 0 ∨ clz302.slots.size ≤ ((0 : Int32)).toNatClampNeg) := inb_of Sz302 ⟨(by decide), (by decide)⟩
  have hatz302 : clz302.slots[((0 : Int32)).toNatClampNeg]? = some (.int 0) := HHz302.at hinz302 (rfl)
  refine own_go (fun _ k => Xz301.iaload hx (j := (0 : Int32)) (v := (.int 0)) (by rw [ez301]; exact Arz302.1) (State.isArrayOf_alike hZ.alike Arz302.2.1) Arz302.2.2 hinz302 hatz302 (g := (mkF m 292 #[oR fi, oI 0, oD X_, oS, oD X_, oS, oI 0, oD 0, oS, oD F_, oS, oI 2, oI 0, oU] [(.int 0), (.ref el)])) rfl rfl (hb hby own_d6_292) _ k) ?_
  show own_Go _ _ _ _ Tz301 (mkF m 293 #[oR fi, oI 0, oD X_, oS, oD X_, oS, oI 0, oD 0, oS, oD F_, oS, oI 2, oI 0, oU] [(.int 0)])
  refine own_go (fun _ k => XS.istore Xz301.here hx rfl (hb hby own_d6_293) rfl (l' := #[oR fi, oI 0, oD X_, oS, oD X_, oS, oI 0, oD 0, oS, oD F_, oS, oI 2, oI 0, oI 0]) rfl k) ?_
  show own_Go _ _ _ _ Tz301 (mkF m 295 #[oR fi, oI 0, oD X_, oS, oD X_, oS, oI 0, oD 0, oS, oD F_, oS, oI 2, oI 0, oI 0] [])
  refine own_go (fun _ k => XS.aloadN Xz301.here hx rfl (hb hby own_d6_295) rfl rfl k) ?_
  show own_Go _ _ _ _ Tz301 (mkF m 296 #[oR fi, oI 0, oD X_, oS, oD X_, oS, oI 0, oD 0, oS, oD F_, oS, oI 2, oI 0, oI 0] [(.ref fi)])
  refine own_go (fun _ k => XS.iload Xz301.here hx rfl (hb hby own_d6_296) rfl k) ?_
  show own_Go _ _ _ _ Tz301 (mkF m 298 #[oR fi, oI 0, oD X_, oS, oD X_, oS, oI 0, oD 0, oS, oD F_, oS, oI 2, oI 0, oI 0] [(.int 0), (.ref fi)])
  obtain ⟨vz303, Tz303, Lz303, Xz303, hQz303, stz303⟩ := own_callP Xz301 hx hZ hown (hw _ (List.mem_of_getElem? (i := 80) rfl)) (hw _ (List.mem_of_getElem? (i := 81) rfl)) (hw _ (List.mem_of_getElem? (i := 82) rfl)) (hw _ (List.mem_of_getElem? (i := 23) rfl)) (hw _ (List.mem_of_getElem? (i := 24) rfl)) (hw _ (List.mem_of_getElem? (i := 83) rfl)) (by decide) ez301 E_fi (own_rmlist0 l Z a0 hw [] fi (0 : Int32) hz278 n0 le ex jo go pe li in_ ou fl el ev st se kex kjo kgo kpe kli kin_ kou kfl kel kev kst kse hc0 hc1 hc2 hc3 hc4 hc5 hc6 hc7 hc8 hc9 hc10 hc11 hc12 hc13 (2 : Int32) (2 : Int32) (0 : Int32) (1 : Int32) (0 : Int32) (0 : UInt64) (0 : UInt64) rfl E_fi F22 F0 F2 F38 F36 F18 F12 F26 F40 F16 F6 F34 F20 F10 F30 F32 F24 V_fl V_li) (W := 0) (by decide) (by decide) (by decide) (by decide) own_pd0 rfl (g := (mkF m 298 #[oR fi, oI 0, oD X_, oS, oD X_, oS, oI 0, oD 0, oS, oD F_, oS, oI 2, oI 0, oI 0] [(.int 0), (.ref fi)])) (argsL := [(.int 0)]) (rest := []) rfl (by rw [hml]; rfl) rfl (by show 2 * 0 + _ ≤ _; exact Nat.le_of_eq rfl) (hb hby own_d6_298)
  obtain ⟨rfl, Nz303q, Kz303, c0_z303, c1_z303, c2_z303, c3_z303, c4_z303, c5_z303, c6_z303, c7_z303, c8_z303, c9_z303, c10_z303, c11_z303, c12_z303, c13_z303, c14_z303, c15_z303, c16_z303, c17_z303, c18_z303⟩ := hQz303
  have Nz303 := Fr.app Nz278 Nz303q
  refine own_go stz303 ?_
  have F4 := F4.keep Kz303 (ninS (Nat.ne_of_lt lt_le_fi) (ninS (Nat.ne_of_lt lt_le_fl) (ninS (Nat.ne_of_lt lt_le_li) nin0)))
  have F14 := F14.keep Kz303 (ninS (Nat.ne_of_lt lt_le_fi) (ninS (Nat.ne_of_lt lt_le_fl) (ninS (Nat.ne_of_lt lt_le_li) nin0)))
  have F8 := F8.keep Kz303 (ninS (Nat.ne_of_lt lt_le_fi) (ninS (Nat.ne_of_lt lt_le_fl) (ninS (Nat.ne_of_lt lt_le_li) nin0)))
  have F28 := F28.keep Kz303 (ninS (Nat.ne_of_lt lt_le_fi) (ninS (Nat.ne_of_lt lt_le_fl) (ninS (Nat.ne_of_lt lt_le_li) nin0)))
  have F24 := F24.keep Kz303 (ninS (Nat.ne_of_lt lt_le_fi) (ninS (Nat.ne_of_lt lt_le_fl) (ninS (Nat.ne_of_lt lt_le_li) nin0)))
  have V_jo := V_jo.keep Kz303 (ninS (Nat.ne_of_lt lt_jo_fi) (ninS (Nat.ne_of_lt lt_jo_fl) (ninS (Nat.ne_of_lt lt_jo_li) nin0)))
  have V_go := V_go.keep Kz303 (ninS (Nat.ne_of_lt lt_go_fi) (ninS (Nat.ne_of_lt lt_go_fl) (ninS (Nat.ne_of_lt lt_go_li) nin0)))
  have V_pe := V_pe.keep Kz303 (ninS (Nat.ne_of_lt lt_pe_fi) (ninS (Nat.ne_of_lt lt_pe_fl) (ninS (Nat.ne_of_lt lt_pe_li) nin0)))
  have V_in_ := V_in_.keep Kz303 (ninS (Nat.ne_of_gt lt_fi_in_) (ninS (Nat.ne_of_lt lt_in__fl) (ninS (Nat.ne_of_gt lt_li_in_) nin0)))
  have V_ou := V_ou.keep Kz303 (ninS (Nat.ne_of_gt lt_fi_ou) (ninS (Nat.ne_of_lt lt_ou_fl) (ninS (Nat.ne_of_gt lt_li_ou) nin0)))
  have V_el := V_el.keep Kz303 (ninS (Nat.ne_of_gt lt_fi_el) (ninS (Nat.ne_of_gt lt_fl_el) (ninS (Nat.ne_of_gt lt_li_el) nin0)))
  have V_ev := V_ev.keep Kz303 (ninS (Nat.ne_of_gt lt_fi_ev) (ninS (Nat.ne_of_gt lt_fl_ev) (ninS (Nat.ne_of_gt lt_li_ev) nin0)))
  have V_st := V_st.keep Kz303 (ninS (Nat.ne_of_gt lt_fi_st) (ninS (Nat.ne_of_gt lt_fl_st) (ninS (Nat.ne_of_gt lt_li_st) nin0)))
  have V_se := V_se.keep Kz303 (ninS (Nat.ne_of_gt lt_fi_se) (ninS (Nat.ne_of_gt lt_fl_se) (ninS (Nat.ne_of_gt lt_li_se) nin0)))
  have K := K.trans Kz303 (allS (Or.inl (List.mem_of_getElem? (i := 0) rfl)) (allS (Or.inl (List.mem_of_getElem? (i := 4) rfl)) (allS (Or.inl (List.mem_of_getElem? (i := 3) rfl)) all0)))
  have E_fi := c0_z303
  have F22 := c1_z303
  have F0 := c2_z303
  have F2 := c3_z303
  have F38 := c4_z303
  have F36 := c5_z303
  have F18 := c6_z303
  have F12 := c7_z303
  have F26 := c8_z303
  have F40 := c9_z303
  have F16 := c10_z303
  have F6 := c11_z303
  have F34 := c12_z303
  have F20 := c13_z303
  have F10 := c14_z303
  have F30 := c15_z303
  have F32 := c16_z303
  have V_fl := c17_z303
  have V_li := c18_z303
  show own_Go _ _ _ _ Tz303 (mkF m 301 #[oR fi, oI 0, oD X_, oS, oD X_, oS, oI 0, oD 0, oS, oD F_, oS, oI 2, oI 0, oI 0] [(.int 1)])
  refine own_go (fun _ k => XS.ifNo Xz303.here hx rfl (hb hby own_d6_301) rfl ((if0 _ _).trans (feq (by decide : ¬ ((1 : Int32) = (0 : Int32)))).1) k) ?_
  show own_Go _ _ _ _ Tz303 (mkF m 304 #[oR fi, oI 0, oD X_, oS, oD X_, oS, oI 0, oD 0, oS, oD F_, oS, oI 2, oI 0, oI 0] [])
  refine own_go (fun _ k => XS.aloadN Xz303.here hx rfl (hb hby own_d6_304) rfl rfl k) ?_
  show own_Go _ _ _ _ Tz303 (mkF m 305 #[oR fi, oI 0, oD X_, oS, oD X_, oS, oI 0, oD 0, oS, oD F_, oS, oI 2, oI 0, oI 0] [(.ref fi)])
  obtain ⟨Tz304, Xz304, ez304, stz304⟩ := getF Xz303 hx hZ hown (host := "") (Or.inl (hw _ (List.mem_of_getElem? (i := 39) rfl))) Via.refl rfl F18 (g := (mkF m 305 #[oR fi, oI 0, oD X_, oS, oD X_, oS, oI 0, oD 0, oS, oD F_, oS, oI 2, oI 0, oI 0] [(.ref fi)])) rfl rfl (hb hby own_d6_305)
  refine own_go stz304 ?_
  show own_Go _ _ _ _ Tz304 (mkF m 308 #[oR fi, oI 0, oD X_, oS, oD X_, oS, oI 0, oD 0, oS, oD F_, oS, oI 2, oI 0, oI 0] [(.ref le)])
  refine own_go (fun _ k => own_getR Xz304 hx hZ hown (hw _ (List.mem_of_getElem? (i := 85) rfl)) ez304 F28 (g := (mkF m 308 #[oR fi, oI 0, oD X_, oS, oD X_, oS, oI 0, oD 0, oS, oD F_, oS, oI 2, oI 0, oI 0] [(.ref le)])) rfl rfl (hb hby own_d6_308) _ k) ?_
  show own_Go _ _ _ _ Tz304 (mkF m 311 #[oR fi, oI 0, oD X_, oS, oD X_, oS, oI 0, oD 0, oS, oD F_, oS, oI 2, oI 0, oI 0] [(.ref pe)])
  refine own_go (fun _ k => XS.iload Xz304.here hx rfl (hb hby own_d6_311) rfl k) ?_
  show own_Go _ _ _ _ Tz304 (mkF m 313 #[oR fi, oI 0, oD X_, oS, oD X_, oS, oI 0, oD 0, oS, oD F_, oS, oI 2, oI 0, oI 0] [(.int 0), (.ref pe)])
  refine own_go (fun _ k => XS.aloadN Xz304.here hx rfl (hb hby own_d6_313) rfl rfl k) ?_
  show own_Go _ _ _ _ Tz304 (mkF m 314 #[oR fi, oI 0, oD X_, oS, oD X_, oS, oI 0, oD 0, oS, oD F_, oS, oI 2, oI 0, oI 0] [(.ref fi), (.int 0), (.ref pe)])
  obtain ⟨Tz306, Xz306, ez306, stz306⟩ := getF Xz304 hx hZ hown (host := "") (Or.inl (hw _ (List.mem_of_getElem? (i := 39) rfl))) Via.refl ez304 F18 (g := (mkF m 314 #[oR fi, oI 0, oD X_, oS, oD X_, oS, oI 0, oD 0, oS, oD F_, oS, oI 2, oI 0, oI 0] [(.ref fi), (.int 0), (.ref pe)])) rfl rfl (hb hby own_d6_314)
  refine own_go stz306 ?_
  show own_Go _ _ _ _ Tz306 (mkF m 317 #[oR fi, oI 0, oD X_, oS, oD X_, oS, oI 0, oD 0, oS, oD F_, oS, oI 2, oI 0, oI 0] [(.ref le), (.int 0), (.ref pe)])
  refine own_go (fun _ k => own_getR Xz306 hx hZ hown (hw _ (List.mem_of_getElem? (i := 86) rfl)) ez306 F14 (g := (mkF m 317 #[oR fi, oI 0, oD X_, oS, oD X_, oS, oI 0, oD 0, oS, oD F_, oS, oI 2, oI 0, oI 0] [(.ref le), (.int 0), (.ref pe)])) rfl rfl (hb hby own_d6_317) _ k) ?_
  show own_Go _ _ _ _ Tz306 (mkF m 320 #[oR fi, oI 0, oD X_, oS, oD X_, oS, oI 0, oD 0, oS, oD F_, oS, oI 2, oI 0, oI 0] [(.ref jo), (.int 0), (.ref pe)])
  refine own_go (fun _ k => XS.iload Xz306.here hx rfl (hb hby own_d6_320) rfl k) ?_
  show own_Go _ _ _ _ Tz306 (mkF m 322 #[oR fi, oI 0, oD X_, oS, oD X_, oS, oI 0, oD 0, oS, oD F_, oS, oI 2, oI 0, oI 0] [(.int 0), (.ref jo), (.int 0), (.ref pe)])
  obtain ⟨clz308, Arz308, qz308, Sz308, Mz308, HHz308, Gz308⟩ := id V_jo
  have hinz308 : ¬ ((0 : Int32) < 0 ∨ clz308.slots.size ≤ ((0 : Int32)).toNatClampNeg) := inb_of Sz308 ⟨(by decide), (by decide)⟩
  have hatz308 : clz308.slots[((0 : Int32)).toNatClampNeg]? = some (.double 0) := HHz308.at hinz308 (rfl)
  refine own_go (fun _ k => Xz306.daload hx (j := (0 : Int32)) (v := (.double 0)) (by rw [ez306]; exact Arz308.1) (State.isArrayOf_alike hZ.alike Arz308.2.1) Arz308.2.2 hinz308 hatz308 (g := (mkF m 322 #[oR fi, oI 0, oD X_, oS, oD X_, oS, oI 0, oD 0, oS, oD F_, oS, oI 2, oI 0, oI 0] [(.int 0), (.ref jo), (.int 0), (.ref pe)])) rfl rfl (hb hby own_d6_322) _ k) ?_
  show own_Go _ _ _ _ Tz306 (mkF m 323 #[oR fi, oI 0, oD X_, oS, oD X_, oS, oI 0, oD 0, oS, oD F_, oS, oI 2, oI 0, oI 0] [(.double 0), (.int 0), (.ref pe)])
  refine own_go (fun _ k => XS.aloadN Xz306.here hx rfl (hb hby own_d6_323) rfl rfl k) ?_
  show own_Go _ _ _ _ Tz306 (mkF m 324 #[oR fi, oI 0, oD X_, oS, oD X_, oS, oI 0, oD 0, oS, oD F_, oS, oI 2, oI 0, oI 0] [(.ref fi), (.double 0), (.int 0), (.ref pe)])
  obtain ⟨Tz309, Xz309, ez309, stz309⟩ := getF Xz306 hx hZ hown (host := "") (Or.inl (hw _ (List.mem_of_getElem? (i := 39) rfl))) Via.refl ez306 F18 (g := (mkF m 324 #[oR fi, oI 0, oD X_, oS, oD X_, oS, oI 0, oD 0, oS, oD F_, oS, oI 2, oI 0, oI 0] [(.ref fi), (.double 0), (.int 0), (.ref pe)])) rfl rfl (hb hby own_d6_324)
  refine own_go stz309 ?_
  show own_Go _ _ _ _ Tz309 (mkF m 327 #[oR fi, oI 0, oD X_, oS, oD X_, oS, oI 0, oD 0, oS, oD F_, oS, oI 2, oI 0, oI 0] [(.ref le), (.double 0), (.int 0), (.ref pe)])
  refine own_go (fun _ k => own_getR Xz309 hx hZ hown (hw _ (List.mem_of_getElem? (i := 87) rfl)) ez309 F8 (g := (mkF m 327 #[oR fi, oI 0, oD X_, oS, oD X_, oS, oI 0, oD 0, oS, oD F_, oS, oI 2, oI 0, oI 0] [(.ref le), (.double 0), (.int 0), (.ref pe)])) rfl rfl (hb hby own_d6_327) _ k) ?_
  show own_Go _ _ _ _ Tz309 (mkF m 330 #[oR fi, oI 0, oD X_, oS, oD X_, oS, oI 0, oD 0, oS, oD F_, oS, oI 2, oI 0, oI 0] [(.ref go), (.double 0), (.int 0), (.ref pe)])
  refine own_go (fun _ k => XS.iload Xz309.here hx rfl (hb hby own_d6_330) rfl k) ?_
  show own_Go _ _ _ _ Tz309 (mkF m 332 #[oR fi, oI 0, oD X_, oS, oD X_, oS, oI 0, oD 0, oS, oD F_, oS, oI 2, oI 0, oI 0] [(.int 0), (.ref go), (.double 0), (.int 0), (.ref pe)])
  obtain ⟨clz311, Arz311, qz311, Sz311, Mz311, HHz311, Gz311⟩ := id V_go
  have hinz311 : ¬ ((0 : Int32) < 0 ∨ clz311.slots.size ≤ ((0 : Int32)).toNatClampNeg) := inb_of Sz311 ⟨(by decide), (by decide)⟩
  have hatz311 : clz311.slots[((0 : Int32)).toNatClampNeg]? = some (.double 0) := HHz311.at hinz311 (rfl)
  refine own_go (fun _ k => Xz309.daload hx (j := (0 : Int32)) (v := (.double 0)) (by rw [ez309]; exact Arz311.1) (State.isArrayOf_alike hZ.alike Arz311.2.1) Arz311.2.2 hinz311 hatz311 (g := (mkF m 332 #[oR fi, oI 0, oD X_, oS, oD X_, oS, oI 0, oD 0, oS, oD F_, oS, oI 2, oI 0, oI 0] [(.int 0), (.ref go), (.double 0), (.int 0), (.ref pe)])) rfl rfl (hb hby own_d6_332) _ k) ?_
  show own_Go _ _ _ _ Tz309 (mkF m 333 #[oR fi, oI 0, oD X_, oS, oD X_, oS, oI 0, oD 0, oS, oD F_, oS, oI 2, oI 0, oI 0] [(.double 0), (.double 0), (.int 0), (.ref pe)])
  refine own_go (fun _ k => XS.dsubS Xz309.here hx rfl (hb hby own_d6_333) rfl (by rw [own_z00.1]; exact own_nn0) own_z00.1 k) ?_
  show own_Go _ _ _ _ Tz309 (mkF m 334 #[oR fi, oI 0, oD X_, oS, oD X_, oS, oI 0, oD 0, oS, oD F_, oS, oI 2, oI 0, oI 0] [(.double 0), (.int 0), (.ref pe)])
  obtain ⟨clz312, Arz312, qz312, Sz312, Mz312, HHz312, Gz312⟩ := V_pe
  have hinz312 : ¬ ((0 : Int32) < 0 ∨ clz312.slots.size ≤ ((0 : Int32)).toNatClampNeg) := inb_of Sz312 ⟨(by decide), (by decide)⟩
  obtain ⟨Tz312, hz312, Xz312, ez312, Wz312, stz312⟩ := stD Xz309 hx hZ ez309 Arz312 (j := (0 : Int32)) hinz312 (g := (mkF m 334 #[oR fi, oI 0, oD X_, oS, oD X_, oS, oI 0, oD 0, oS, oD F_, oS, oI 2, oI 0, oI 0] [(.double 0), (.int 0), (.ref pe)])) rfl rfl (hb hby own_d6_334)
  refine own_go stz312 ?_
  have V_pe_ : Arv Z hz312 pe kpe .double (2 : Int32) [(.double 0), (.double 0)] (.double 0) := Arv.set Arz312 qz312 Sz312 Mz312 HHz312 Gz312 rfl Wz312 0 rfl (Nat.le_of_ble_eq_true rfl)
  have Nz312 := Fr.snoc Xz312 Nz303 g_pe
  have F4 := F4.other Wz312 (own_o1 lt_le_pe)
  have F14 := F14.other Wz312 (own_o1 lt_le_pe)
  have F8 := F8.other Wz312 (own_o1 lt_le_pe)
  have F28 := F28.other Wz312 (own_o1 lt_le_pe)
  have F24 := F24.other Wz312 (own_o1 lt_le_pe)
  have V_jo := V_jo.other Wz312 (Nat.ne_of_lt lt_jo_pe)
  have V_go := V_go.other Wz312 (Nat.ne_of_lt lt_go_pe)
  have V_in_ := V_in_.other Wz312 (Nat.ne_of_gt lt_pe_in_)
  have V_ou := V_ou.other Wz312 (Nat.ne_of_gt lt_pe_ou)
  have V_el := V_el.other Wz312 (Nat.ne_of_gt lt_pe_el)
  have V_ev := V_ev.other Wz312 (Nat.ne_of_gt lt_pe_ev)
  have V_st := V_st.other Wz312 (Nat.ne_of_gt lt_pe_st)
  have V_se := V_se.other Wz312 (Nat.ne_of_gt lt_pe_se)
  have K := K.wr Wz312 (Or.inl (List.mem_of_getElem? (i := 2) rfl))
  have E_fi := E_fi.wr Wz312
  have F22 := F22.other Wz312 (own_o2 lt_pe_fi)
  have F0 := F0.other Wz312 (own_o2 lt_pe_fi)
  have F2 := F2.other Wz312 (own_o2 lt_pe_fi)
  have F38 := F38.other Wz312 (own_o2 lt_pe_fi)
  have F36 := F36.other Wz312 (own_o2 lt_pe_fi)
  have F18 := F18.other Wz312 (own_o2 lt_pe_fi)
  have F12 := F12.other Wz312 (own_o2 lt_pe_fi)
  have F26 := F26.other Wz312 (own_o2 lt_pe_fi)
  have F40 := F40.other Wz312 (own_o2 lt_pe_fi)
  have F16 := F16.other Wz312 (own_o2 lt_pe_fi)
  have F6 := F6.other Wz312 (own_o2 lt_pe_fi)
  have F34 := F34.other Wz312 (own_o2 lt_pe_fi)
  have F20 := F20.other Wz312 (own_o2 lt_pe_fi)
  have F10 := F10.other Wz312 (own_o2 lt_pe_fi)
  have F30 := F30.other Wz312 (own_o2 lt_pe_fi)
  have F32 := F32.other Wz312 (own_o2 lt_pe_fi)
  have V_fl := V_fl.other Wz312 (Nat.ne_of_gt lt_pe_fl)
  have V_li := V_li.other Wz312 (Nat.ne_of_gt lt_pe_li)
  have V_pe := V_pe_
  show own_Go _ _ _ _ Tz312 (mkF m 335 #[oR fi, oI 0, oD X_, oS, oD X_, oS, oI 0, oD 0, oS, oD F_, oS, oI 2, oI 0, oI 0] [])
  refine own_go (fun _ k => XS.aloadN Xz312.here hx rfl (hb hby own_d6_335) rfl rfl k) ?_
  show own_Go _ _ _ _ Tz312 (mkF m 336 #[oR fi, oI 0, oD X_, oS, oD X_, oS, oI 0, oD 0, oS, oD F_, oS, oI 2, oI 0, oI 0] [(.ref fi)])
  obtain ⟨Tz313, Xz313, ez313, stz313⟩ := getF Xz312 hx hZ hown (host := "") (Or.inl (hw _ (List.mem_of_getElem? (i := 39) rfl))) Via.refl ez312 F18 (g := (mkF m 336 #[oR fi, oI 0, oD X_, oS, oD X_, oS, oI 0, oD 0, oS, oD F_, oS, oI 2, oI 0, oI 0] [(.ref fi)])) rfl rfl (hb hby own_d6_336)
  refine own_go stz313 ?_
  show own_Go _ _ _ _ Tz313 (mkF m 339 #[oR fi, oI 0, oD X_, oS, oD X_, oS, oI 0, oD 0, oS, oD F_, oS, oI 2, oI 0, oI 0] [(.ref le)])
  refine own_go (fun _ k => own_getR Xz313 hx hZ hown (hw _ (List.mem_of_getElem? (i := 85) rfl)) ez313 F28 (g := (mkF m 339 #[oR fi, oI 0, oD X_, oS, oD X_, oS, oI 0, oD 0, oS, oD F_, oS, oI 2, oI 0, oI 0] [(.ref le)])) rfl rfl (hb hby own_d6_339) _ k) ?_
  show own_Go _ _ _ _ Tz313 (mkF m 342 #[oR fi, oI 0, oD X_, oS, oD X_, oS, oI 0, oD 0, oS, oD F_, oS, oI 2, oI 0, oI 0] [(.ref pe)])
  refine own_go (fun _ k => XS.iload Xz313.here hx rfl (hb hby own_d6_342) rfl k) ?_
  show own_Go _ _ _ _ Tz313 (mkF m 344 #[oR fi, oI 0, oD X_, oS, oD X_, oS, oI 0, oD 0, oS, oD F_, oS, oI 2, oI 0, oI 0] [(.int 0), (.ref pe)])
  refine own_go (fun _ k => own_dup2 Xz313.here hx rfl (hb hby own_d6_344) rfl k) ?_
  show own_Go _ _ _ _ Tz313 (mkF m 345 #[oR fi, oI 0, oD X_, oS, oD X_, oS, oI 0, oD 0, oS, oD F_, oS, oI 2, oI 0, oI 0] [(.int 0), (.ref pe), (.int 0), (.ref pe)])
  obtain ⟨clz315, Arz315, qz315, Sz315, Mz315, HHz315, Gz315⟩ := id V_pe
  have hinz315 : ¬ ((0 : Int32) < 0 ∨ clz315.slots.size ≤ ((0 : Int32)).toNatClampNeg) := inb_of Sz315 ⟨(by decide), (by decide)⟩
  have hatz315 : clz315.slots[((0 : Int32)).toNatClampNeg]? = some (.double 0) := HHz315.at hinz315 (rfl)
  refine own_go (fun _ k => Xz313.daload hx (j := (0 : Int32)) (v := (.double 0)) (by rw [ez313]; exact Arz315.1) (State.isArrayOf_alike hZ.alike Arz315.2.1) Arz315.2.2 hinz315 hatz315 (g := (mkF m 345 #[oR fi, oI 0, oD X_, oS, oD X_, oS, oI 0, oD 0, oS, oD F_, oS, oI 2, oI 0, oI 0] [(.int 0), (.ref pe), (.int 0), (.ref pe)])) rfl rfl (hb hby own_d6_345) _ k) ?_
  show own_Go _ _ _ _ Tz313 (mkF m 346 #[oR fi, oI 0, oD X_, oS, oD X_, oS, oI 0, oD 0, oS, oD F_, oS, oI 2, oI 0, oI 0] [(.double 0), (.int 0), (.ref pe)])
  refine own_go (fun _ k => XS.dload Xz313.here hx rfl (hb hby own_d6_346) rfl k) ?_
  show own_Go _ _ _ _ Tz313 (mkF m 348 #[oR fi, oI 0, oD X_, oS, oD X_, oS, oI 0, oD 0, oS, oD F_, oS, oI 2, oI 0, oI 0] [(.double F_), (.double 0), (.int 0), (.ref pe)])
  refine own_go (fun _ k => XS.aloadN Xz313.here hx rfl (hb hby own_d6_348) rfl rfl k) ?_
  show own_Go _ _ _ _ Tz313 (mkF m 349 #[oR fi, oI 0, oD X_, oS, oD X_, oS, oI 0, oD 0, oS, oD F_, oS, oI 2, oI 0, oI 0] [(.ref fi), (.double F_), (.double 0), (.int 0), (.ref pe)])
  obtain ⟨Tz316, Xz316, ez316, stz316⟩ := getF Xz313 hx hZ hown (host := "") (Or.inl (hw _ (List.mem_of_getElem? (i := 33) rfl))) Via.refl ez313 F2 (g := (mkF m 349 #[oR fi, oI 0, oD X_, oS, oD X_, oS, oI 0, oD 0, oS, oD F_, oS, oI 2, oI 0, oI 0] [(.ref fi), (.double F_), (.double 0), (.int 0), (.ref pe)])) rfl rfl (hb hby own_d6_349)
  refine own_go stz316 ?_
  show own_Go _ _ _ _ Tz316 (mkF m 352 #[oR fi, oI 0, oD X_, oS, oD X_, oS, oI 0, oD 0, oS, oD F_, oS, oI 2, oI 0, oI 0] [(.ref ev), (.double F_), (.double 0), (.int 0), (.ref pe)])
  refine own_go (fun _ k => XS.iload Xz316.here hx rfl (hb hby own_d6_352) rfl k) ?_
  show own_Go _ _ _ _ Tz316 (mkF m 354 #[oR fi, oI 0, oD X_, oS, oD X_, oS, oI 0, oD 0, oS, oD F_, oS, oI 2, oI 0, oI 0] [(.int 0), (.ref ev), (.double F_), (.double 0), (.int 0), (.ref pe)])
  obtain ⟨clz317, Arz317, qz317, Sz317, Mz317, HHz317, Gz317⟩ := id V_ev
  have hinz317 : ¬ ((0 : Int32) < 0 ∨ clz317.slots.size ≤ ((0 : Int32)).toNatClampNeg) := inb_of Sz317 ⟨(by decide), (by decide)⟩
  have hatz317 : clz317.slots[((0 : Int32)).toNatClampNeg]? = some (.double V0) := HHz317.at hinz317 (rfl)
  refine own_go (fun _ k => Xz316.daload hx (j := (0 : Int32)) (v := (.double V0)) (by rw [ez316]; exact Arz317.1) (State.isArrayOf_alike hZ.alike Arz317.2.1) Arz317.2.2 hinz317 hatz317 (g := (mkF m 354 #[oR fi, oI 0, oD X_, oS, oD X_, oS, oI 0, oD 0, oS, oD F_, oS, oI 2, oI 0, oI 0] [(.int 0), (.ref ev), (.double F_), (.double 0), (.int 0), (.ref pe)])) rfl rfl (hb hby own_d6_354) _ k) ?_
  show own_Go _ _ _ _ Tz316 (mkF m 355 #[oR fi, oI 0, oD X_, oS, oD X_, oS, oI 0, oD 0, oS, oD F_, oS, oI 2, oI 0, oI 0] [(.double V0), (.double F_), (.double 0), (.int 0), (.ref pe)])
  refine own_go (fun _ k => XS.dmulS Xz316.here hx rfl (hb hby own_d6_355) rfl (by rw [hd0]; exact hn0) hd0 k) ?_
  show own_Go _ _ _ _ Tz316 (mkF m 356 #[oR fi, oI 0, oD X_, oS, oD X_, oS, oI 0, oD 0, oS, oD F_, oS, oI 2, oI 0, oI 0] [(.double P0), (.double 0), (.int 0), (.ref pe)])
  refine own_go (fun _ k => XS.daddS Xz316.here hx rfl (hb hby own_d6_356) rfl (by rw [ha0]; exact hn0) ha0 k) ?_
  show own_Go _ _ _ _ Tz316 (mkF m 357 #[oR fi, oI 0, oD X_, oS, oD X_, oS, oI 0, oD 0, oS, oD F_, oS, oI 2, oI 0, oI 0] [(.double P0), (.int 0), (.ref pe)])
  obtain ⟨clz318, Arz318, qz318, Sz318, Mz318, HHz318, Gz318⟩ := V_pe
  have hinz318 : ¬ ((0 : Int32) < 0 ∨ clz318.slots.size ≤ ((0 : Int32)).toNatClampNeg) := inb_of Sz318 ⟨(by decide), (by decide)⟩
  obtain ⟨Tz318, hz318, Xz318, ez318, Wz318, stz318⟩ := stD Xz316 hx hZ ez316 Arz318 (j := (0 : Int32)) hinz318 (g := (mkF m 357 #[oR fi, oI 0, oD X_, oS, oD X_, oS, oI 0, oD 0, oS, oD F_, oS, oI 2, oI 0, oI 0] [(.double P0), (.int 0), (.ref pe)])) rfl rfl (hb hby own_d6_357)
  refine own_go stz318 ?_
  have V_pe_ : Arv Z hz318 pe kpe .double (2 : Int32) [(.double P0), (.double 0)] (.double 0) := Arv.set Arz318 qz318 Sz318 Mz318 HHz318 Gz318 rfl Wz318 0 rfl (Nat.le_of_ble_eq_true rfl)
  have Nz318 := Fr.snoc Xz318 Nz312 g_pe
  have F4 := F4.other Wz318 (own_o1 lt_le_pe)
  have F14 := F14.other Wz318 (own_o1 lt_le_pe)
  have F8 := F8.other Wz318 (own_o1 lt_le_pe)
  have F28 := F28.other Wz318 (own_o1 lt_le_pe)
  have F24 := F24.other Wz318 (own_o1 lt_le_pe)
  have V_jo := V_jo.other Wz318 (Nat.ne_of_lt lt_jo_pe)
  have V_go := V_go.other Wz318 (Nat.ne_of_lt lt_go_pe)
  have V_in_ := V_in_.other Wz318 (Nat.ne_of_gt lt_pe_in_)
  have V_ou := V_ou.other Wz318 (Nat.ne_of_gt lt_pe_ou)
  have V_el := V_el.other Wz318 (Nat.ne_of_gt lt_pe_el)
  have V_ev := V_ev.other Wz318 (Nat.ne_of_gt lt_pe_ev)
  have V_st := V_st.other Wz318 (Nat.ne_of_gt lt_pe_st)
  have V_se := V_se.other Wz318 (Nat.ne_of_gt lt_pe_se)
  have K := K.wr Wz318 (Or.inl (List.mem_of_getElem? (i := 2) rfl))
  have E_fi := E_fi.wr Wz318
  have F22 := F22.other Wz318 (own_o2 lt_pe_fi)
  have F0 := F0.other Wz318 (own_o2 lt_pe_fi)
  have F2 := F2.other Wz318 (own_o2 lt_pe_fi)
  have F38 := F38.other Wz318 (own_o2 lt_pe_fi)
  have F36 := F36.other Wz318 (own_o2 lt_pe_fi)
  have F18 := F18.other Wz318 (own_o2 lt_pe_fi)
  have F12 := F12.other Wz318 (own_o2 lt_pe_fi)
  have F26 := F26.other Wz318 (own_o2 lt_pe_fi)
  have F40 := F40.other Wz318 (own_o2 lt_pe_fi)
  have F16 := F16.other Wz318 (own_o2 lt_pe_fi)
  have F6 := F6.other Wz318 (own_o2 lt_pe_fi)
  have F34 := F34.other Wz318 (own_o2 lt_pe_fi)
  have F20 := F20.other Wz318 (own_o2 lt_pe_fi)
  have F10 := F10.other Wz318 (own_o2 lt_pe_fi)
  have F30 := F30.other Wz318 (own_o2 lt_pe_fi)
  have F32 := F32.other Wz318 (own_o2 lt_pe_fi)
  have V_fl := V_fl.other Wz318 (Nat.ne_of_gt lt_pe_fl)
  have V_li := V_li.other Wz318 (Nat.ne_of_gt lt_pe_li)
  have V_pe := V_pe_
  show own_Go _ _ _ _ Tz318 (mkF m 358 #[oR fi, oI 0, oD X_, oS, oD X_, oS, oI 0, oD 0, oS, oD F_, oS, oI 2, oI 0, oI 0] [])
  refine own_go (fun _ k => XS.iinc Xz318.here hx rfl (hb hby own_d6_358) rfl (l' := #[oR fi, oI 0, oD X_, oS, oD X_, oS, oI 0, oD 0, oS, oD F_, oS, oI 2, oI ((0 : Int32) + (1 : Int32)), oI 0]) rfl k) ?_
  show own_Go _ _ _ _ Tz318 (mkF m 361 #[oR fi, oI 0, oD X_, oS, oD X_, oS, oI 0, oD 0, oS, oD F_, oS, oI 2, oI ((0 : Int32) + (1 : Int32)), oI 0] [])
  refine own_go (fun _ k => XS.goto Xz318.here hx rfl (pc0 := 361) (pc' := 279) rfl (hb hby own_d6_361) (by decide) (by decide) k) ?_
  show own_Go _ _ _ _ Tz318 (mkF m 279 #[oR fi, oI 0, oD X_, oS, oD X_, oS, oI 0, oD 0, oS, oD F_, oS, oI 2, oI ((0 : Int32) + (1 : Int32)), oI 0] [])
  show own_Go _ _ _ _ Tz318 (mkF m 279 #[oR fi, oI 0, oD X_, oS, oD X_, oS, oI 0, oD 0, oS, oD F_, oS, oI 2, oI 1, oI 0] [])
  refine own_go (fun _ k => XS.iload Xz318.here hx rfl (hb hby own_d6_279) rfl k) ?_
  show own_Go _ _ _ _ Tz318 (mkF m 281 #[oR fi, oI 0, oD X_, oS, oD X_, oS, oI 0, oD 0, oS, oD F_, oS, oI 2, oI 1, oI 0] [(.int 1)])
  refine own_go (fun _ k => XS.iload Xz318.here hx rfl (hb hby own_d6_281) rfl k) ?_
  show own_Go _ _ _ _ Tz318 (mkF m 283 #[oR fi, oI 0, oD X_, oS, oD X_, oS, oI 0, oD 0, oS, oD F_, oS, oI 2, oI 1, oI 0] [(.int 2), (.int 1)])
  refine own_go (fun _ k => XS.icmpNo Xz318.here hx rfl (hb hby own_d6_283) rfl (tlt (by decide : (1 : Int32) < (2 : Int32))).2.1 k) ?_
  show own_Go _ _ _ _ Tz318 (mkF m 286 #[oR fi, oI 0, oD X_, oS, oD X_, oS, oI 0, oD 0, oS, oD F_, oS, oI 2, oI 1, oI 0] [])
  refine own_go (fun _ k => XS.aloadN Xz318.here hx rfl (hb hby own_d6_286) rfl rfl k) ?_
  show own_Go _ _ _ _ Tz318 (mkF m 287 #[oR fi, oI 0, oD X_, oS, oD X_, oS, oI 0, oD 0, oS, oD F_, oS, oI 2, oI 1, oI 0] [(.ref fi)])
  obtain ⟨Tz319, Xz319, ez319, stz319⟩ := getF Xz318 hx hZ hown (host := "") (Or.inl (hw _ (List.mem_of_getElem? (i := 31) rfl))) Via.refl ez318 F0 (g := (mkF m 287 #[oR fi, oI 0, oD X_, oS, oD X_, oS, oI 0, oD 0, oS, oD F_, oS, oI 2, oI 1, oI 0] [(.ref fi)])) rfl rfl (hb hby own_d6_287)
  refine own_go stz319 ?_
  show own_Go _ _ _ _ Tz319 (mkF m 290 #[oR fi, oI 0, oD X_, oS, oD X_, oS, oI 0, oD 0, oS, oD F_, oS, oI 2, oI 1, oI 0] [(.ref el)])
  refine own_go (fun _ k => XS.iload Xz319.here hx rfl (hb hby own_d6_290) rfl k) ?_
  show own_Go _ _ _ _ Tz319 (mkF m 292 #[oR fi, oI 0, oD X_, oS, oD X_, oS, oI 0, oD 0, oS, oD F_, oS, oI 2, oI 1, oI 0] [(.int 1), (.ref el)])
  obtain ⟨clz320, Arz320, qz320, Sz320, Mz320, HHz320, Gz320⟩ := id V_el
  have hinz320 : ¬ ((1 : Int32) < 0 ∨ clz320.slots.size ≤ ((1 : Int32)).toNatClampNeg) := inb_of Sz320 ⟨(by decide), (by decide)⟩
  have hatz320 : clz320.slots[((1 : Int32)).toNatClampNeg]? = some (.int 1) := HHz320.at hinz320 (rfl)
  refine own_go (fun _ k => Xz319.iaload hx (j := (1 : Int32)) (v := (.int 1)) (by rw [ez319]; exact Arz320.1) (State.isArrayOf_alike hZ.alike Arz320.2.1) Arz320.2.2 hinz320 hatz320 (g := (mkF m 292 #[oR fi, oI 0, oD X_, oS, oD X_, oS, oI 0, oD 0, oS, oD F_, oS, oI 2, oI 1, oI 0] [(.int 1), (.ref el)])) rfl rfl (hb hby own_d6_292) _ k) ?_
  show own_Go _ _ _ _ Tz319 (mkF m 293 #[oR fi, oI 0, oD X_, oS, oD X_, oS, oI 0, oD 0, oS, oD F_, oS, oI 2, oI 1, oI 0] [(.int 1)])
  refine own_go (fun _ k => XS.istore Xz319.here hx rfl (hb hby own_d6_293) rfl (l' := #[oR fi, oI 0, oD X_, oS, oD X_, oS, oI 0, oD 0, oS, oD F_, oS, oI 2, oI 1, oI 1]) rfl k) ?_
  show own_Go _ _ _ _ Tz319 (mkF m 295 #[oR fi, oI 0, oD X_, oS, oD X_, oS, oI 0, oD 0, oS, oD F_, oS, oI 2, oI 1, oI 1] [])
  refine own_go (fun _ k => XS.aloadN Xz319.here hx rfl (hb hby own_d6_295) rfl rfl k) ?_
  show own_Go _ _ _ _ Tz319 (mkF m 296 #[oR fi, oI 0, oD X_, oS, oD X_, oS, oI 0, oD 0, oS, oD F_, oS, oI 2, oI 1, oI 1] [(.ref fi)])
  refine own_go (fun _ k => XS.iload Xz319.here hx rfl (hb hby own_d6_296) rfl k) ?_
  show own_Go _ _ _ _ Tz319 (mkF m 298 #[oR fi, oI 0, oD X_, oS, oD X_, oS, oI 0, oD 0, oS, oD F_, oS, oI 2, oI 1, oI 1] [(.int 1), (.ref fi)])
  obtain ⟨vz321, Tz321, Lz321, Xz321, hQz321, stz321⟩ := own_callP Xz319 hx hZ hown (hw _ (List.mem_of_getElem? (i := 80) rfl)) (hw _ (List.mem_of_getElem? (i := 81) rfl)) (hw _ (List.mem_of_getElem? (i := 82) rfl)) (hw _ (List.mem_of_getElem? (i := 23) rfl)) (hw _ (List.mem_of_getElem? (i := 24) rfl)) (hw _ (List.mem_of_getElem? (i := 83) rfl)) (by decide) ez319 E_fi (own_rmlist1 l Z a0 hw [] fi (1 : Int32) hz318 n0 le ex jo go pe li in_ ou fl el ev st se kex kjo kgo kpe kli kin_ kou kfl kel kev kst kse hc0 hc1 hc2 hc3 hc4 hc5 hc6 hc7 hc8 hc9 hc10 hc11 hc12 hc13 (2 : Int32) (2 : Int32) (0 : Int32) (1 : Int32) (0 : Int32) (0 : UInt64) (0 : UInt64) rfl E_fi F22 F0 F2 F38 F36 F18 F12 F26 F40 F16 F6 F34 F20 F10 F30 F32 F24 V_fl V_li) (W := 0) (by decide) (by decide) (by decide) (by decide) own_pd0 rfl (g := (mkF m 298 #[oR fi, oI 0, oD X_, oS, oD X_, oS, oI 0, oD 0, oS, oD F_, oS, oI 2, oI 1, oI 1] [(.int 1), (.ref fi)])) (argsL := [(.int 1)]) (rest := []) rfl (by rw [hml]; rfl) rfl (by show 2 * 0 + _ ≤ _; exact Nat.le_of_eq rfl) (hb hby own_d6_298)
  obtain ⟨rfl, Nz321q, Kz321, c0_z321, c1_z321, c2_z321, c3_z321, c4_z321, c5_z321, c6_z321, c7_z321, c8_z321, c9_z321, c10_z321, c11_z321, c12_z321, c13_z321, c14_z321, c15_z321, c16_z321, c17_z321, c18_z321⟩ := hQz321
  have Nz321 := Fr.app Nz318 Nz321q
  refine own_go stz321 ?_
  have F4 := F4.keep Kz321 (ninS (Nat.ne_of_lt lt_le_fi) (ninS (Nat.ne_of_lt lt_le_fl) (ninS (Nat.ne_of_lt lt_le_li) nin0)))
  have F14 := F14.keep Kz321 (ninS (Nat.ne_of_lt lt_le_fi) (ninS (Nat.ne_of_lt lt_le_fl) (ninS (Nat.ne_of_lt lt_le_li) nin0)))
  have F8 := F8.keep Kz321 (ninS (Nat.ne_of_lt lt_le_fi) (ninS (Nat.ne_of_lt lt_le_fl) (ninS (Nat.ne_of_lt lt_le_li) nin0)))
  have F28 := F28.keep Kz321 (ninS (Nat.ne_of_lt lt_le_fi) (ninS (Nat.ne_of_lt lt_le_fl) (ninS (Nat.ne_of_lt lt_le_li) nin0)))
  have F24 := F24.keep Kz321 (ninS (Nat.ne_of_lt lt_le_fi) (ninS (Nat.ne_of_lt lt_le_fl) (ninS (Nat.ne_of_lt lt_le_li) nin0)))
  have V_jo := V_jo.keep Kz321 (ninS (Nat.ne_of_lt lt_jo_fi) (ninS (Nat.ne_of_lt lt_jo_fl) (ninS (Nat.ne_of_lt lt_jo_li) nin0)))
  have V_go := V_go.keep Kz321 (ninS (Nat.ne_of_lt lt_go_fi) (ninS (Nat.ne_of_lt lt_go_fl) (ninS (Nat.ne_of_lt lt_go_li) nin0)))
  have V_in_ := V_in_.keep Kz321 (ninS (Nat.ne_of_gt lt_fi_in_) (ninS (Nat.ne_of_lt lt_in__fl) (ninS (Nat.ne_of_gt lt_li_in_) nin0)))
  have V_ou := V_ou.keep Kz321 (ninS (Nat.ne_of_gt lt_fi_ou) (ninS (Nat.ne_of_lt lt_ou_fl) (ninS (Nat.ne_of_gt lt_li_ou) nin0)))
  have V_el := V_el.keep Kz321 (ninS (Nat.ne_of_gt lt_fi_el) (ninS (Nat.ne_of_gt lt_fl_el) (ninS (Nat.ne_of_gt lt_li_el) nin0)))
  have V_ev := V_ev.keep Kz321 (ninS (Nat.ne_of_gt lt_fi_ev) (ninS (Nat.ne_of_gt lt_fl_ev) (ninS (Nat.ne_of_gt lt_li_ev) nin0)))
  have V_st := V_st.keep Kz321 (ninS (Nat.ne_of_gt lt_fi_st) (ninS (Nat.ne_of_gt lt_fl_st) (ninS (Nat.ne_of_gt lt_li_st) nin0)))
  have V_se := V_se.keep Kz321 (ninS (Nat.ne_of_gt lt_fi_se) (ninS (Nat.ne_of_gt lt_fl_se) (ninS (Nat.ne_of_gt lt_li_se) nin0)))
  have K := K.trans Kz321 (allS (Or.inl (List.mem_of_getElem? (i := 0) rfl)) (allS (Or.inl (List.mem_of_getElem? (i := 4) rfl)) (allS (Or.inl (List.mem_of_getElem? (i := 3) rfl)) all0)))
  have V_pe := V_pe.keep Kz321 (ninS (Nat.ne_of_lt lt_pe_fi) (ninS (Nat.ne_of_lt lt_pe_fl) (ninS (Nat.ne_of_lt lt_pe_li) nin0)))
  have E_fi := c0_z321
  have F22 := c1_z321
  have F0 := c2_z321
  have F2 := c3_z321
  have F38 := c4_z321
  have F36 := c5_z321
  have F18 := c6_z321
  have F12 := c7_z321
  have F26 := c8_z321
  have F40 := c9_z321
  have F16 := c10_z321
  have F6 := c11_z321
  have F34 := c12_z321
  have F20 := c13_z321
  have F10 := c14_z321
  have F30 := c15_z321
  have F32 := c16_z321
  have V_fl := c17_z321
  have V_li := c18_z321
  show own_Go _ _ _ _ Tz321 (mkF m 301 #[oR fi, oI 0, oD X_, oS, oD X_, oS, oI 0, oD 0, oS, oD F_, oS, oI 2, oI 1, oI 1] [(.int 1)])
  refine own_go (fun _ k => XS.ifNo Xz321.here hx rfl (hb hby own_d6_301) rfl ((if0 _ _).trans (feq (by decide : ¬ ((1 : Int32) = (0 : Int32)))).1) k) ?_
  show own_Go _ _ _ _ Tz321 (mkF m 304 #[oR fi, oI 0, oD X_, oS, oD X_, oS, oI 0, oD 0, oS, oD F_, oS, oI 2, oI 1, oI 1] [])
  refine own_go (fun _ k => XS.aloadN Xz321.here hx rfl (hb hby own_d6_304) rfl rfl k) ?_
  show own_Go _ _ _ _ Tz321 (mkF m 305 #[oR fi, oI 0, oD X_, oS, oD X_, oS, oI 0, oD 0, oS, oD F_, oS, oI 2, oI 1, oI 1] [(.ref fi)])
  obtain ⟨Tz322, Xz322, ez322, stz322⟩ := getF Xz321 hx hZ hown (host := "") (Or.inl (hw _ (List.mem_of_getElem? (i := 39) rfl))) Via.refl rfl F18 (g := (mkF m 305 #[oR fi, oI 0, oD X_, oS, oD X_, oS, oI 0, oD 0, oS, oD F_, oS, oI 2, oI 1, oI 1] [(.ref fi)])) rfl rfl (hb hby own_d6_305)
  refine own_go stz322 ?_
  show own_Go _ _ _ _ Tz322 (mkF m 308 #[oR fi, oI 0, oD X_, oS, oD X_, oS, oI 0, oD 0, oS, oD F_, oS, oI 2, oI 1, oI 1] [(.ref le)])
  refine own_go (fun _ k => own_getR Xz322 hx hZ hown (hw _ (List.mem_of_getElem? (i := 85) rfl)) ez322 F28 (g := (mkF m 308 #[oR fi, oI 0, oD X_, oS, oD X_, oS, oI 0, oD 0, oS, oD F_, oS, oI 2, oI 1, oI 1] [(.ref le)])) rfl rfl (hb hby own_d6_308) _ k) ?_
  show own_Go _ _ _ _ Tz322 (mkF m 311 #[oR fi, oI 0, oD X_, oS, oD X_, oS, oI 0, oD 0, oS, oD F_, oS, oI 2, oI 1, oI 1] [(.ref pe)])
  refine own_go (fun _ k => XS.iload Xz322.here hx rfl (hb hby own_d6_311) rfl k) ?_
  show own_Go _ _ _ _ Tz322 (mkF m 313 #[oR fi, oI 0, oD X_, oS, oD X_, oS, oI 0, oD 0, oS, oD F_, oS, oI 2, oI 1, oI 1] [(.int 1), (.ref pe)])
  refine own_go (fun _ k => XS.aloadN Xz322.here hx rfl (hb hby own_d6_313) rfl rfl k) ?_
  show own_Go _ _ _ _ Tz322 (mkF m 314 #[oR fi, oI 0, oD X_, oS, oD X_, oS, oI 0, oD 0, oS, oD F_, oS, oI 2, oI 1, oI 1] [(.ref fi), (.int 1), (.ref pe)])
  obtain ⟨Tz324, Xz324, ez324, stz324⟩ := getF Xz322 hx hZ hown (host := "") (Or.inl (hw _ (List.mem_of_getElem? (i := 39) rfl))) Via.refl ez322 F18 (g := (mkF m 314 #[oR fi, oI 0, oD X_, oS, oD X_, oS, oI 0, oD 0, oS, oD F_, oS, oI 2, oI 1, oI 1] [(.ref fi), (.int 1), (.ref pe)])) rfl rfl (hb hby own_d6_314)
  refine own_go stz324 ?_
  show own_Go _ _ _ _ Tz324 (mkF m 317 #[oR fi, oI 0, oD X_, oS, oD X_, oS, oI 0, oD 0, oS, oD F_, oS, oI 2, oI 1, oI 1] [(.ref le), (.int 1), (.ref pe)])
  refine own_go (fun _ k => own_getR Xz324 hx hZ hown (hw _ (List.mem_of_getElem? (i := 86) rfl)) ez324 F14 (g := (mkF m 317 #[oR fi, oI 0, oD X_, oS, oD X_, oS, oI 0, oD 0, oS, oD F_, oS, oI 2, oI 1, oI 1] [(.ref le), (.int 1), (.ref pe)])) rfl rfl (hb hby own_d6_317) _ k) ?_
  show own_Go _ _ _ _ Tz324 (mkF m 320 #[oR fi, oI 0, oD X_, oS, oD X_, oS, oI 0, oD 0, oS, oD F_, oS, oI 2, oI 1, oI 1] [(.ref jo), (.int 1), (.ref pe)])
  refine own_go (fun _ k => XS.iload Xz324.here hx rfl (hb hby own_d6_320) rfl k) ?_
  show own_Go _ _ _ _ Tz324 (mkF m 322 #[oR fi, oI 0, oD X_, oS, oD X_, oS, oI 0, oD 0, oS, oD F_, oS, oI 2, oI 1, oI 1] [(.int 1), (.ref jo), (.int 1), (.ref pe)])
  obtain ⟨clz326, Arz326, qz326, Sz326, Mz326, HHz326, Gz326⟩ := id V_jo
  have hinz326 : ¬ ((1 : Int32) < 0 ∨ clz326.slots.size ≤ ((1 : Int32)).toNatClampNeg) := inb_of Sz326 ⟨(by decide), (by decide)⟩
  have hatz326 : clz326.slots[((1 : Int32)).toNatClampNeg]? = some (.double 0) := HHz326.at hinz326 (rfl)
  refine own_go (fun _ k => Xz324.daload hx (j := (1 : Int32)) (v := (.double 0)) (by rw [ez324]; exact Arz326.1) (State.isArrayOf_alike hZ.alike Arz326.2.1) Arz326.2.2 hinz326 hatz326 (g := (mkF m 322 #[oR fi, oI 0, oD X_, oS, oD X_, oS, oI 0, oD 0, oS, oD F_, oS, oI 2, oI 1, oI 1] [(.int 1), (.ref jo), (.int 1), (.ref pe)])) rfl rfl (hb hby own_d6_322) _ k) ?_
  show own_Go _ _ _ _ Tz324 (mkF m 323 #[oR fi, oI 0, oD X_, oS, oD X_, oS, oI 0, oD 0, oS, oD F_, oS, oI 2, oI 1, oI 1] [(.double 0), (.int 1), (.ref pe)])
  refine own_go (fun _ k => XS.aloadN Xz324.here hx rfl (hb hby own_d6_323) rfl rfl k) ?_
  show own_Go _ _ _ _ Tz324 (mkF m 324 #[oR fi, oI 0, oD X_, oS, oD X_, oS, oI 0, oD 0, oS, oD F_, oS, oI 2, oI 1, oI 1] [(.ref fi), (.double 0), (.int 1), (.ref pe)])
  obtain ⟨Tz327, Xz327, ez327, stz327⟩ := getF Xz324 hx hZ hown (host := "") (Or.inl (hw _ (List.mem_of_getElem? (i := 39) rfl))) Via.refl ez324 F18 (g := (mkF m 324 #[oR fi, oI 0, oD X_, oS, oD X_, oS, oI 0, oD 0, oS, oD F_, oS, oI 2, oI 1, oI 1] [(.ref fi), (.double 0), (.int 1), (.ref pe)])) rfl rfl (hb hby own_d6_324)
  refine own_go stz327 ?_
  show own_Go _ _ _ _ Tz327 (mkF m 327 #[oR fi, oI 0, oD X_, oS, oD X_, oS, oI 0, oD 0, oS, oD F_, oS, oI 2, oI 1, oI 1] [(.ref le), (.double 0), (.int 1), (.ref pe)])
  refine own_go (fun _ k => own_getR Xz327 hx hZ hown (hw _ (List.mem_of_getElem? (i := 87) rfl)) ez327 F8 (g := (mkF m 327 #[oR fi, oI 0, oD X_, oS, oD X_, oS, oI 0, oD 0, oS, oD F_, oS, oI 2, oI 1, oI 1] [(.ref le), (.double 0), (.int 1), (.ref pe)])) rfl rfl (hb hby own_d6_327) _ k) ?_
  show own_Go _ _ _ _ Tz327 (mkF m 330 #[oR fi, oI 0, oD X_, oS, oD X_, oS, oI 0, oD 0, oS, oD F_, oS, oI 2, oI 1, oI 1] [(.ref go), (.double 0), (.int 1), (.ref pe)])
  refine own_go (fun _ k => XS.iload Xz327.here hx rfl (hb hby own_d6_330) rfl k) ?_
  show own_Go _ _ _ _ Tz327 (mkF m 332 #[oR fi, oI 0, oD X_, oS, oD X_, oS, oI 0, oD 0, oS, oD F_, oS, oI 2, oI 1, oI 1] [(.int 1), (.ref go), (.double 0), (.int 1), (.ref pe)])
  obtain ⟨clz329, Arz329, qz329, Sz329, Mz329, HHz329, Gz329⟩ := id V_go
  have hinz329 : ¬ ((1 : Int32) < 0 ∨ clz329.slots.size ≤ ((1 : Int32)).toNatClampNeg) := inb_of Sz329 ⟨(by decide), (by decide)⟩
  have hatz329 : clz329.slots[((1 : Int32)).toNatClampNeg]? = some (.double 0) := HHz329.at hinz329 (rfl)
  refine own_go (fun _ k => Xz327.daload hx (j := (1 : Int32)) (v := (.double 0)) (by rw [ez327]; exact Arz329.1) (State.isArrayOf_alike hZ.alike Arz329.2.1) Arz329.2.2 hinz329 hatz329 (g := (mkF m 332 #[oR fi, oI 0, oD X_, oS, oD X_, oS, oI 0, oD 0, oS, oD F_, oS, oI 2, oI 1, oI 1] [(.int 1), (.ref go), (.double 0), (.int 1), (.ref pe)])) rfl rfl (hb hby own_d6_332) _ k) ?_
  show own_Go _ _ _ _ Tz327 (mkF m 333 #[oR fi, oI 0, oD X_, oS, oD X_, oS, oI 0, oD 0, oS, oD F_, oS, oI 2, oI 1, oI 1] [(.double 0), (.double 0), (.int 1), (.ref pe)])
  refine own_go (fun _ k => XS.dsubS Xz327.here hx rfl (hb hby own_d6_333) rfl (by rw [own_z00.1]; exact own_nn0) own_z00.1 k) ?_
  show own_Go _ _ _ _ Tz327 (mkF m 334 #[oR fi, oI 0, oD X_, oS, oD X_, oS, oI 0, oD 0, oS, oD F_, oS, oI 2, oI 1, oI 1] [(.double 0), (.int 1), (.ref pe)])
  obtain ⟨clz330, Arz330, qz330, Sz330, Mz330, HHz330, Gz330⟩ := V_pe
  have hinz330 : ¬ ((1 : Int32) < 0 ∨ clz330.slots.size ≤ ((1 : Int32)).toNatClampNeg) := inb_of Sz330 ⟨(by decide), (by decide)⟩
  obtain ⟨Tz330, hz330, Xz330, ez330, Wz330, stz330⟩ := stD Xz327 hx hZ ez327 Arz330 (j := (1 : Int32)) hinz330 (g := (mkF m 334 #[oR fi, oI 0, oD X_, oS, oD X_, oS, oI 0, oD 0, oS, oD F_, oS, oI 2, oI 1, oI 1] [(.double 0), (.int 1), (.ref pe)])) rfl rfl (hb hby own_d6_334)
  refine own_go stz330 ?_
  have V_pe_ : Arv Z hz330 pe kpe .double (2 : Int32) [(.double P0), (.double 0)] (.double 0) := Arv.set Arz330 qz330 Sz330 Mz330 HHz330 Gz330 rfl Wz330 1 rfl (Nat.le_of_ble_eq_true rfl)
  have Nz330 := Fr.snoc Xz330 Nz321 g_pe
  have F4 := F4.other Wz330 (own_o1 lt_le_pe)
  have F14 := F14.other Wz330 (own_o1 lt_le_pe)
  have F8 := F8.other Wz330 (own_o1 lt_le_pe)
  have F28 := F28.other Wz330 (own_o1 lt_le_pe)
  have F24 := F24.other Wz330 (own_o1 lt_le_pe)
  have V_jo := V_jo.other Wz330 (Nat.ne_of_lt lt_jo_pe)
  have V_go := V_go.other Wz330 (Nat.ne_of_lt lt_go_pe)
  have V_in_ := V_in_.other Wz330 (Nat.ne_of_gt lt_pe_in_)
  have V_ou := V_ou.other Wz330 (Nat.ne_of_gt lt_pe_ou)
  have V_el := V_el.other Wz330 (Nat.ne_of_gt lt_pe_el)
  have V_ev := V_ev.other Wz330 (Nat.ne_of_gt lt_pe_ev)
  have V_st := V_st.other Wz330 (Nat.ne_of_gt lt_pe_st)
  have V_se := V_se.other Wz330 (Nat.ne_of_gt lt_pe_se)
  have K := K.wr Wz330 (Or.inl (List.mem_of_getElem? (i := 2) rfl))
  have E_fi := E_fi.wr Wz330
  have F22 := F22.other Wz330 (own_o2 lt_pe_fi)
  have F0 := F0.other Wz330 (own_o2 lt_pe_fi)
  have F2 := F2.other Wz330 (own_o2 lt_pe_fi)
  have F38 := F38.other Wz330 (own_o2 lt_pe_fi)
  have F36 := F36.other Wz330 (own_o2 lt_pe_fi)
  have F18 := F18.other Wz330 (own_o2 lt_pe_fi)
  have F12 := F12.other Wz330 (own_o2 lt_pe_fi)
  have F26 := F26.other Wz330 (own_o2 lt_pe_fi)
  have F40 := F40.other Wz330 (own_o2 lt_pe_fi)
  have F16 := F16.other Wz330 (own_o2 lt_pe_fi)
  have F6 := F6.other Wz330 (own_o2 lt_pe_fi)
  have F34 := F34.other Wz330 (own_o2 lt_pe_fi)
  have F20 := F20.other Wz330 (own_o2 lt_pe_fi)
  have F10 := F10.other Wz330 (own_o2 lt_pe_fi)
  have F30 := F30.other Wz330 (own_o2 lt_pe_fi)
  have F32 := F32.other Wz330 (own_o2 lt_pe_fi)
  have V_fl := V_fl.other Wz330 (Nat.ne_of_gt lt_pe_fl)
  have V_li := V_li.other Wz330 (Nat.ne_of_gt lt_pe_li)
  have V_pe := V_pe_
  show own_Go _ _ _ _ Tz330 (mkF m 335 #[oR fi, oI 0, oD X_, oS, oD X_, oS, oI 0, oD 0, oS, oD F_, oS, oI 2, oI 1, oI 1] [])
  refine own_go (fun _ k => XS.aloadN Xz330.here hx rfl (hb hby own_d6_335) rfl rfl k) ?_
  show own_Go _ _ _ _ Tz330 (mkF m 336 #[oR fi, oI 0, oD X_, oS, oD X_, oS, oI 0, oD 0, oS, oD F_, oS, oI 2, oI 1, oI 1] [(.ref fi)])
  obtain ⟨Tz331, Xz331, ez331, stz331⟩ := getF Xz330 hx hZ hown (host := "") (Or.inl (hw _ (List.mem_of_getElem? (i := 39) rfl))) Via.refl ez330 F18 (g := (mkF m 336 #[oR fi, oI 0, oD X_, oS, oD X_, oS, oI 0, oD 0, oS, oD F_, oS, oI 2, oI 1, oI 1] [(.ref fi)])) rfl rfl (hb hby own_d6_336)
  refine own_go stz331 ?_
  show own_Go _ _ _ _ Tz331 (mkF m 339 #[oR fi, oI 0, oD X_, oS, oD X_, oS, oI 0, oD 0, oS, oD F_, oS, oI 2, oI 1, oI 1] [(.ref le)])
  refine own_go (fun _ k => own_getR Xz331 hx hZ hown (hw _ (List.mem_of_getElem? (i := 85) rfl)) ez331 F28 (g := (mkF m 339 #[oR fi, oI 0, oD X_, oS, oD X_, oS, oI 0, oD 0, oS, oD F_, oS, oI 2, oI 1, oI 1] [(.ref le)])) rfl rfl (hb hby own_d6_339) _ k) ?_
  show own_Go _ _ _ _ Tz331 (mkF m 342 #[oR fi, oI 0, oD X_, oS, oD X_, oS, oI 0, oD 0, oS, oD F_, oS, oI 2, oI 1, oI 1] [(.ref pe)])
  refine own_go (fun _ k => XS.iload Xz331.here hx rfl (hb hby own_d6_342) rfl k) ?_
  show own_Go _ _ _ _ Tz331 (mkF m 344 #[oR fi, oI 0, oD X_, oS, oD X_, oS, oI 0, oD 0, oS, oD F_, oS, oI 2, oI 1, oI 1] [(.int 1), (.ref pe)])
  refine own_go (fun _ k => own_dup2 Xz331.here hx rfl (hb hby own_d6_344) rfl k) ?_
  show own_Go _ _ _ _ Tz331 (mkF m 345 #[oR fi, oI 0, oD X_, oS, oD X_, oS, oI 0, oD 0, oS, oD F_, oS, oI 2, oI 1, oI 1] [(.int 1), (.ref pe), (.int 1), (.ref pe)])
  obtain ⟨clz333, Arz333, qz333, Sz333, Mz333, HHz333, Gz333⟩ := id V_pe
  have hinz333 : ¬ ((1 : Int32) < 0 ∨ clz333.slots.size ≤ ((1 : Int32)).toNatClampNeg) := inb_of Sz333 ⟨(by decide), (by decide)⟩
  have hatz333 : clz333.slots[((1 : Int32)).toNatClampNeg]? = some (.double 0) := HHz333.at hinz333 (rfl)
  refine own_go (fun _ k => Xz331.daload hx (j := (1 : Int32)) (v := (.double 0)) (by rw [ez331]; exact Arz333.1) (State.isArrayOf_alike hZ.alike Arz333.2.1) Arz333.2.2 hinz333 hatz333 (g := (mkF m 345 #[oR fi, oI 0, oD X_, oS, oD X_, oS, oI 0, oD 0, oS, oD F_, oS, oI 2, oI 1, oI 1] [(.int 1), (.ref pe), (.int 1), (.ref pe)])) rfl rfl (hb hby own_d6_345) _ k) ?_
  show own_Go _ _ _ _ Tz331 (mkF m 346 #[oR fi, oI 0, oD X_, oS, oD X_, oS, oI 0, oD 0, oS, oD F_, oS, oI 2, oI 1, oI 1] [(.double 0), (.int 1), (.ref pe)])
  refine own_go (fun _ k => XS.dload Xz331.here hx rfl (hb hby own_d6_346) rfl k) ?_
  show own_Go _ _ _ _ Tz331 (mkF m 348 #[oR fi, oI 0, oD X_, oS, oD X_, oS, oI 0, oD 0, oS, oD F_, oS, oI 2, oI 1, oI 1] [(.double F_), (.double 0), (.int 1), (.ref pe)])
  refine own_go (fun _ k => XS.aloadN Xz331.here hx rfl (hb hby own_d6_348) rfl rfl k) ?_
  show own_Go _ _ _ _ Tz331 (mkF m 349 #[oR fi, oI 0, oD X_, oS, oD X_, oS, oI 0, oD 0, oS, oD F_, oS, oI 2, oI 1, oI 1] [(.ref fi), (.double F_), (.double 0), (.int 1), (.ref pe)])
  obtain ⟨Tz334, Xz334, ez334, stz334⟩ := getF Xz331 hx hZ hown (host := "") (Or.inl (hw _ (List.mem_of_getElem? (i := 33) rfl))) Via.refl ez331 F2 (g := (mkF m 349 #[oR fi, oI 0, oD X_, oS, oD X_, oS, oI 0, oD 0, oS, oD F_, oS, oI 2, oI 1, oI 1] [(.ref fi), (.double F_), (.double 0), (.int 1), (.ref pe)])) rfl rfl (hb hby own_d6_349)
  refine own_go stz334 ?_
  show own_Go _ _ _ _ Tz334 (mkF m 352 #[oR fi, oI 0, oD X_, oS, oD X_, oS, oI 0, oD 0, oS, oD F_, oS, oI 2, oI 1, oI 1] [(.ref ev), (.double F_), (.double 0), (.int 1), (.ref pe)])
  refine own_go (fun _ k => XS.iload Xz334.here hx rfl (hb hby own_d6_352) rfl k) ?_
  show own_Go _ _ _ _ Tz334 (mkF m 354 #[oR fi, oI 0, oD X_, oS, oD X_, oS, oI 0, oD 0, oS, oD F_, oS, oI 2, oI 1, oI 1] [(.int 1), (.ref ev), (.double F_), (.double 0), (.int 1), (.ref pe)])
  obtain ⟨clz335, Arz335, qz335, Sz335, Mz335, HHz335, Gz335⟩ := id V_ev
  have hinz335 : ¬ ((1 : Int32) < 0 ∨ clz335.slots.size ≤ ((1 : Int32)).toNatClampNeg) := inb_of Sz335 ⟨(by decide), (by decide)⟩
  have hatz335 : clz335.slots[((1 : Int32)).toNatClampNeg]? = some (.double V1) := HHz335.at hinz335 (rfl)
  refine own_go (fun _ k => Xz334.daload hx (j := (1 : Int32)) (v := (.double V1)) (by rw [ez334]; exact Arz335.1) (State.isArrayOf_alike hZ.alike Arz335.2.1) Arz335.2.2 hinz335 hatz335 (g := (mkF m 354 #[oR fi, oI 0, oD X_, oS, oD X_, oS, oI 0, oD 0, oS, oD F_, oS, oI 2, oI 1, oI 1] [(.int 1), (.ref ev), (.double F_), (.double 0), (.int 1), (.ref pe)])) rfl rfl (hb hby own_d6_354) _ k) ?_
  show own_Go _ _ _ _ Tz334 (mkF m 355 #[oR fi, oI 0, oD X_, oS, oD X_, oS, oI 0, oD 0, oS, oD F_, oS, oI 2, oI 1, oI 1] [(.double V1), (.double F_), (.double 0), (.int 1), (.ref pe)])
  refine own_go (fun _ k => XS.dmulS Xz334.here hx rfl (hb hby own_d6_355) rfl (by rw [hd1]; exact hn1) hd1 k) ?_
  show own_Go _ _ _ _ Tz334 (mkF m 356 #[oR fi, oI 0, oD X_, oS, oD X_, oS, oI 0, oD 0, oS, oD F_, oS, oI 2, oI 1, oI 1] [(.double P1), (.double 0), (.int 1), (.ref pe)])
  refine own_go (fun _ k => XS.daddS Xz334.here hx rfl (hb hby own_d6_356) rfl (by rw [ha1]; exact hn1) ha1 k) ?_
  show own_Go _ _ _ _ Tz334 (mkF m 357 #[oR fi, oI 0, oD X_, oS, oD X_, oS, oI 0, oD 0, oS, oD F_, oS, oI 2, oI 1, oI 1] [(.double P1), (.int 1), (.ref pe)])
  obtain ⟨clz336, Arz336, qz336, Sz336, Mz336, HHz336, Gz336⟩ := V_pe
  have hinz336 : ¬ ((1 : Int32) < 0 ∨ clz336.slots.size ≤ ((1 : Int32)).toNatClampNeg) := inb_of Sz336 ⟨(by decide), (by decide)⟩
  obtain ⟨Tz336, hz336, Xz336, ez336, Wz336, stz336⟩ := stD Xz334 hx hZ ez334 Arz336 (j := (1 : Int32)) hinz336 (g := (mkF m 357 #[oR fi, oI 0, oD X_, oS, oD X_, oS, oI 0, oD 0, oS, oD F_, oS, oI 2, oI 1, oI 1] [(.double P1), (.int 1), (.ref pe)])) rfl rfl (hb hby own_d6_357)
  refine own_go stz336 ?_
  have V_pe_ : Arv Z hz336 pe kpe .double (2 : Int32) [(.double P0), (.double P1)] (.double 0) := Arv.set Arz336 qz336 Sz336 Mz336 HHz336 Gz336 rfl Wz336 1 rfl (Nat.le_of_ble_eq_true rfl)
  have Nz336 := Fr.snoc Xz336 Nz330 g_pe
  have F4 := F4.other Wz336 (own_o1 lt_le_pe)
  have F14 := F14.other Wz336 (own_o1 lt_le_pe)
  have F8 := F8.other Wz336 (own_o1 lt_le_pe)
  have F28 := F28.other Wz336 (own_o1 lt_le_pe)
  have F24 := F24.other Wz336 (own_o1 lt_le_pe)
  have V_jo := V_jo.other Wz336 (Nat.ne_of_lt lt_jo_pe)
  have V_go := V_go.other Wz336 (Nat.ne_of_lt lt_go_pe)
  have V_in_ := V_in_.other Wz336 (Nat.ne_of_gt lt_pe_in_)
  have V_ou := V_ou.other Wz336 (Nat.ne_of_gt lt_pe_ou)
  have V_el := V_el.other Wz336 (Nat.ne_of_gt lt_pe_el)
  have V_ev := V_ev.other Wz336 (Nat.ne_of_gt lt_pe_ev)
  have V_st := V_st.other Wz336 (Nat.ne_of_gt lt_pe_st)
  have V_se := V_se.other Wz336 (Nat.ne_of_gt lt_pe_se)
  have K := K.wr Wz336 (Or.inl (List.mem_of_getElem? (i := 2) rfl))
  have E_fi := E_fi.wr Wz336
  have F22 := F22.other Wz336 (own_o2 lt_pe_fi)
  have F0 := F0.other Wz336 (own_o2 lt_pe_fi)
  have F2 := F2.other Wz336 (own_o2 lt_pe_fi)
  have F38 := F38.other Wz336 (own_o2 lt_pe_fi)
  have F36 := F36.other Wz336 (own_o2 lt_pe_fi)
  have F18 := F18.other Wz336 (own_o2 lt_pe_fi)
  have F12 := F12.other Wz336 (own_o2 lt_pe_fi)
  have F26 := F26.other Wz336 (own_o2 lt_pe_fi)
  have F40 := F40.other Wz336 (own_o2 lt_pe_fi)
  have F16 := F16.other Wz336 (own_o2 lt_pe_fi)
  have F6 := F6.other Wz336 (own_o2 lt_pe_fi)
  have F34 := F34.other Wz336 (own_o2 lt_pe_fi)
  have F20 := F20.other Wz336 (own_o2 lt_pe_fi)
  have F10 := F10.other Wz336 (own_o2 lt_pe_fi)
  have F30 := F30.other Wz336 (own_o2 lt_pe_fi)
  have F32 := F32.other Wz336 (own_o2 lt_pe_fi)
  have V_fl := V_fl.other Wz336 (Nat.ne_of_gt lt_pe_fl)
  have V_li := V_li.other Wz336 (Nat.ne_of_gt lt_pe_li)
  have V_pe := V_pe_
  show own_Go _ _ _ _ Tz336 (mkF m 358 #[oR fi, oI 0, oD X_, oS, oD X_, oS, oI 0, oD 0, oS, oD F_, oS, oI 2, oI 1, oI 1] [])
  refine own_go (fun _ k => XS.iinc Xz336.here hx rfl (hb hby own_d6_358) rfl (l' := #[oR fi, oI 0, oD X_, oS, oD X_, oS, oI 0, oD 0, oS, oD F_, oS, oI 2, oI ((1 : Int32) + (1 : Int32)), oI 1]) rfl k) ?_
  show own_Go _ _ _ _ Tz336 (mkF m 361 #[oR fi, oI 0, oD X_, oS, oD X_, oS, oI 0, oD 0, oS, oD F_, oS, oI 2, oI ((1 : Int32) + (1 : Int32)), oI 1] [])
  refine own_go (fun _ k => XS.goto Xz336.here hx rfl (pc0 := 361) (pc' := 279) rfl (hb hby own_d6_361) (by decide) (by decide) k) ?_
  show own_Go _ _ _ _ Tz336 (mkF m 279 #[oR fi, oI 0, oD X_, oS, oD X_, oS, oI 0, oD 0, oS, oD F_, oS, oI 2, oI ((1 : Int32) + (1 : Int32)), oI 1] [])
  show own_Go _ _ _ _ Tz336 (mkF m 279 #[oR fi, oI 0, oD X_, oS, oD X_, oS, oI 0, oD 0, oS, oD F_, oS, oI 2, oI 2, oI 1] [])
  refine own_go (fun _ k => XS.iload Xz336.here hx rfl (hb hby own_d6_279) rfl k) ?_
  show own_Go _ _ _ _ Tz336 (mkF m 281 #[oR fi, oI 0, oD X_, oS, oD X_, oS, oI 0, oD 0, oS, oD F_, oS, oI 2, oI 2, oI 1] [(.int 2)])
  refine own_go (fun _ k => XS.iload Xz336.here hx rfl (hb hby own_d6_281) rfl k) ?_
  show own_Go _ _ _ _ Tz336 (mkF m 283 #[oR fi, oI 0, oD X_, oS, oD X_, oS, oI 0, oD 0, oS, oD F_, oS, oI 2, oI 2, oI 1] [(.int 2), (.int 2)])
  refine own_go (fun _ k => XS.icmpYes Xz336.here hx rfl (pc0 := 283) (pc' := 364) rfl (hb hby own_d6_283) rfl (flt (by decide : ¬ ((2 : Int32) < (2 : Int32)))).2.1 (by decide) (by decide) k) ?_
  show own_Go _ _ _ _ Tz336 (mkF m 364 #[oR fi, oI 0, oD X_, oS, oD X_, oS, oI 0, oD 0, oS, oD F_, oS, oI 2, oI 2, oI 1] [])
  refine own_go (fun _ k => XS.iconst Xz336.here hx rfl (hb hby own_d6_364) k) ?_
  show own_Go _ _ _ _ Tz336 (mkF m 365 #[oR fi, oI 0, oD X_, oS, oD X_, oS, oI 0, oD 0, oS, oD F_, oS, oI 2, oI 2, oI 1] [(.int 0)])
  refine own_go (fun _ k => XS.istore Xz336.here hx rfl (hb hby own_d6_365) rfl (l' := #[oR fi, oI 0, oD X_, oS, oD X_, oS, oI 0, oD 0, oS, oD F_, oS, oI 2, oI 2, oI 1]) rfl k) ?_
  show own_Go _ _ _ _ Tz336 (mkF m 367 #[oR fi, oI 0, oD X_, oS, oD X_, oS, oI 0, oD 0, oS, oD F_, oS, oI 2, oI 2, oI 1] [])
  refine own_go (fun _ k => XS.iload Xz336.here hx rfl (hb hby own_d6_367) rfl k) ?_
  show own_Go _ _ _ _ Tz336 (mkF m 369 #[oR fi, oI 0, oD X_, oS, oD X_, oS, oI 0, oD 0, oS, oD F_, oS, oI 2, oI 2, oI 1] [(.int 0)])
  refine own_go (fun _ k => XS.aloadN Xz336.here hx rfl (hb hby own_d6_369) rfl rfl k) ?_
  show own_Go _ _ _ _ Tz336 (mkF m 370 #[oR fi, oI 0, oD X_, oS, oD X_, oS, oI 0, oD 0, oS, oD F_, oS, oI 2, oI 2, oI 1] [(.ref fi), (.int 0)])
  obtain ⟨Tz337, Xz337, ez337, stz337⟩ := getF Xz336 hx hZ hown (host := "") (Or.inl (hw _ (List.mem_of_getElem? (i := 72) rfl))) Via.refl ez336 F20 (g := (mkF m 370 #[oR fi, oI 0, oD X_, oS, oD X_, oS, oI 0, oD 0, oS, oD F_, oS, oI 2, oI 2, oI 1] [(.ref fi), (.int 0)])) rfl rfl (hb hby own_d6_370)
  refine own_go stz337 ?_
  show own_Go _ _ _ _ Tz337 (mkF m 373 #[oR fi, oI 0, oD X_, oS, oD X_, oS, oI 0, oD 0, oS, oD F_, oS, oI 2, oI 2, oI 1] [(.int 2), (.int 0)])
  refine own_go (fun _ k => XS.icmpNo Xz337.here hx rfl (hb hby own_d6_373) rfl (tlt (by decide : (0 : Int32) < (2 : Int32))).2.1 k) ?_
  show own_Go _ _ _ _ Tz337 (mkF m 376 #[oR fi, oI 0, oD X_, oS, oD X_, oS, oI 0, oD 0, oS, oD F_, oS, oI 2, oI 2, oI 1] [])
  refine own_go (fun _ k => XS.aloadN Xz337.here hx rfl (hb hby own_d6_376) rfl rfl k) ?_
  show own_Go _ _ _ _ Tz337 (mkF m 377 #[oR fi, oI 0, oD X_, oS, oD X_, oS, oI 0, oD 0, oS, oD F_, oS, oI 2, oI 2, oI 1] [(.ref fi)])
  obtain ⟨Tz338, Xz338, ez338, stz338⟩ := getF Xz337 hx hZ hown (host := "") (Or.inl (hw _ (List.mem_of_getElem? (i := 29) rfl))) Via.refl ez337 F22 (g := (mkF m 377 #[oR fi, oI 0, oD X_, oS, oD X_, oS, oI 0, oD 0, oS, oD F_, oS, oI 2, oI 2, oI 1] [(.ref fi)])) rfl rfl (hb hby own_d6_377)
  refine own_go stz338 ?_
  show own_Go _ _ _ _ Tz338 (mkF m 380 #[oR fi, oI 0, oD X_, oS, oD X_, oS, oI 0, oD 0, oS, oD F_, oS, oI 2, oI 2, oI 1] [(.ref fl)])
  refine own_go (fun _ k => XS.iload Xz338.here hx rfl (hb hby own_d6_380) rfl k) ?_
  show own_Go _ _ _ _ Tz338 (mkF m 382 #[oR fi, oI 0, oD X_, oS, oD X_, oS, oI 0, oD 0, oS, oD F_, oS, oI 2, oI 2, oI 1] [(.int 0), (.ref fl)])
  obtain ⟨clz339, Arz339, qz339, Sz339, Mz339, HHz339, Gz339⟩ := id V_fl
  have hinz339 : ¬ ((0 : Int32) < 0 ∨ clz339.slots.size ≤ ((0 : Int32)).toNatClampNeg) := inb_of Sz339 ⟨(by decide), (by decide)⟩
  have hatz339 : clz339.slots[((0 : Int32)).toNatClampNeg]? = some (.int 0) := HHz339.at hinz339 (rfl)
  refine own_go (fun _ k => Xz338.iaload hx (j := (0 : Int32)) (v := (.int 0)) (by rw [ez338]; exact Arz339.1) (State.isArrayOf_alike hZ.alike Arz339.2.1) Arz339.2.2 hinz339 hatz339 (g := (mkF m 382 #[oR fi, oI 0, oD X_, oS, oD X_, oS, oI 0, oD 0, oS, oD F_, oS, oI 2, oI 2, oI 1] [(.int 0), (.ref fl)])) rfl rfl (hb hby own_d6_382) _ k) ?_
  show own_Go _ _ _ _ Tz338 (mkF m 383 #[oR fi, oI 0, oD X_, oS, oD X_, oS, oI 0, oD 0, oS, oD F_, oS, oI 2, oI 2, oI 1] [(.int 0)])
  refine own_go (fun _ k => XS.istore Xz338.here hx rfl (hb hby own_d6_383) rfl (l' := #[oR fi, oI 0, oD X_, oS, oD X_, oS, oI 0, oI 0, oU, oD F_, oS, oI 2, oI 2, oI 1]) rfl k) ?_
  show own_Go _ _ _ _ Tz338 (mkF m 385 #[oR fi, oI 0, oD X_, oS, oD X_, oS, oI 0, oI 0, oU, oD F_, oS, oI 2, oI 2, oI 1] [])
  refine own_go (fun _ k => XS.aloadN Xz338.here hx rfl (hb hby own_d6_385) rfl rfl k) ?_
  show own_Go _ _ _ _ Tz338 (mkF m 386 #[oR fi, oI 0, oD X_, oS, oD X_, oS, oI 0, oI 0, oU, oD F_, oS, oI 2, oI 2, oI 1] [(.ref fi)])
  obtain ⟨Tz340, Xz340, ez340, stz340⟩ := getF Xz338 hx hZ hown (host := "") (Or.inl (hw _ (List.mem_of_getElem? (i := 39) rfl))) Via.refl ez338 F18 (g := (mkF m 386 #[oR fi, oI 0, oD X_, oS, oD X_, oS, oI 0, oI 0, oU, oD F_, oS, oI 2, oI 2, oI 1] [(.ref fi)])) rfl rfl (hb hby own_d6_386)
  refine own_go stz340 ?_
  show own_Go _ _ _ _ Tz340 (mkF m 389 #[oR fi, oI 0, oD X_, oS, oD X_, oS, oI 0, oI 0, oU, oD F_, oS, oI 2, oI 2, oI 1] [(.ref le)])
  refine own_go (fun _ k => own_getR Xz340 hx hZ hown (hw _ (List.mem_of_getElem? (i := 85) rfl)) ez340 F28 (g := (mkF m 389 #[oR fi, oI 0, oD X_, oS, oD X_, oS, oI 0, oI 0, oU, oD F_, oS, oI 2, oI 2, oI 1] [(.ref le)])) rfl rfl (hb hby own_d6_389) _ k) ?_
  show own_Go _ _ _ _ Tz340 (mkF m 392 #[oR fi, oI 0, oD X_, oS, oD X_, oS, oI 0, oI 0, oU, oD F_, oS, oI 2, oI 2, oI 1] [(.ref pe)])
  refine own_go (fun _ k => XS.iload Xz340.here hx rfl (hb hby own_d6_392) rfl k) ?_
  show own_Go _ _ _ _ Tz340 (mkF m 394 #[oR fi, oI 0, oD X_, oS, oD X_, oS, oI 0, oI 0, oU, oD F_, oS, oI 2, oI 2, oI 1] [(.int 0), (.ref pe)])
  refine own_go (fun _ k => XS.dconst0 Xz340.here hx rfl (hb hby own_d6_394) own_dc0 k) ?_
  show own_Go _ _ _ _ Tz340 (mkF m 395 #[oR fi, oI 0, oD X_, oS, oD X_, oS, oI 0, oI 0, oU, oD F_, oS, oI 2, oI 2, oI 1] [(.double 0), (.int 0), (.ref pe)])
  refine own_go (fun _ k => XS.aloadN Xz340.here hx rfl (hb hby own_d6_395) rfl rfl k) ?_
  show own_Go _ _ _ _ Tz340 (mkF m 396 #[oR fi, oI 0, oD X_, oS, oD X_, oS, oI 0, oI 0, oU, oD F_, oS, oI 2, oI 2, oI 1] [(.ref fi), (.double 0), (.int 0), (.ref pe)])
  obtain ⟨Tz342, Xz342, ez342, stz342⟩ := getF Xz340 hx hZ hown (host := "") (Or.inl (hw _ (List.mem_of_getElem? (i := 39) rfl))) Via.refl ez340 F18 (g := (mkF m 396 #[oR fi, oI 0, oD X_, oS, oD X_, oS, oI 0, oI 0, oU, oD F_, oS, oI 2, oI 2, oI 1] [(.ref fi), (.double 0), (.int 0), (.ref pe)])) rfl rfl (hb hby own_d6_396)
  refine own_go stz342 ?_
  show own_Go _ _ _ _ Tz342 (mkF m 399 #[oR fi, oI 0, oD X_, oS, oD X_, oS, oI 0, oI 0, oU, oD F_, oS, oI 2, oI 2, oI 1] [(.ref le), (.double 0), (.int 0), (.ref pe)])
  refine own_go (fun _ k => own_getR Xz342 hx hZ hown (hw _ (List.mem_of_getElem? (i := 85) rfl)) ez342 F28 (g := (mkF m 399 #[oR fi, oI 0, oD X_, oS, oD X_, oS, oI 0, oI 0, oU, oD F_, oS, oI 2, oI 2, oI 1] [(.ref le), (.double 0), (.int 0), (.ref pe)])) rfl rfl (hb hby own_d6_399) _ k) ?_
  show own_Go _ _ _ _ Tz342 (mkF m 402 #[oR fi, oI 0, oD X_, oS, oD X_, oS, oI 0, oI 0, oU, oD F_, oS, oI 2, oI 2, oI 1] [(.ref pe), (.double 0), (.int 0), (.ref pe)])
  refine own_go (fun _ k => XS.iload Xz342.here hx rfl (hb hby own_d6_402) rfl k) ?_
  show own_Go _ _ _ _ Tz342 (mkF m 404 #[oR fi, oI 0, oD X_, oS, oD X_, oS, oI 0, oI 0, oU, oD F_, oS, oI 2, oI 2, oI 1] [(.int 0), (.ref pe), (.double 0), (.int 0), (.ref pe)])
  obtain ⟨clz344, Arz344, qz344, Sz344, Mz344, HHz344, Gz344⟩ := id V_pe
  have hinz344 : ¬ ((0 : Int32) < 0 ∨ clz344.slots.size ≤ ((0 : Int32)).toNatClampNeg) := inb_of Sz344 ⟨(by decide), (by decide)⟩
  have hatz344 : clz344.slots[((0 : Int32)).toNatClampNeg]? = some (.double P0) := HHz344.at hinz344 (rfl)
  refine own_go (fun _ k => Xz342.daload hx (j := (0 : Int32)) (v := (.double P0)) (by rw [ez342]; exact Arz344.1) (State.isArrayOf_alike hZ.alike Arz344.2.1) Arz344.2.2 hinz344 hatz344 (g := (mkF m 404 #[oR fi, oI 0, oD X_, oS, oD X_, oS, oI 0, oI 0, oU, oD F_, oS, oI 2, oI 2, oI 1] [(.int 0), (.ref pe), (.double 0), (.int 0), (.ref pe)])) rfl rfl (hb hby own_d6_404) _ k) ?_
  show own_Go _ _ _ _ Tz342 (mkF m 405 #[oR fi, oI 0, oD X_, oS, oD X_, oS, oI 0, oI 0, oU, oD F_, oS, oI 2, oI 2, oI 1] [(.double P0), (.double 0), (.int 0), (.ref pe)])
  obtain ⟨Tz345, Xz345, ez345, stz345⟩ := natS Xz342 hx hZ hown (hw _ (List.mem_of_getElem? (i := 74) rfl)) (hw _ (List.mem_of_getElem? (i := 75) rfl)) (hw _ (List.mem_of_getElem? (i := 76) rfl)) (hw _ (List.mem_of_getElem? (i := 77) rfl)) (by decide) ez342 (W := 2) (F := fun a' => a' = #[.double 0, .double P0] ∧ NoNaN64 (0 : UInt64) ∧ NoNaN64 P0) (val := .double (Native.java_lang_Math.nans.pick64 true (0 : UInt64) P0)) (val' := .double P0) (fun hc => Jvm.Free.Fl.Abs.maxD_pays (0 : UInt64) P0 hc (by decide) (by decide)) (g := (mkF m 405 #[oR fi, oI 0, oD X_, oS, oD X_, oS, oI 0, oI 0, oU, oD F_, oS, oI 2, oI 2, oI 1] [(.double P0), (.double 0), (.int 0), (.ref pe)])) rfl (by rw [hml]; rfl) (argsL := [(.double 0), (.double P0)]) (rest := [(.int 0), (.ref pe)]) (lenOf own_pd1 rfl) rfl (by show 2 * 0 + _ ≤ _; exact Nat.le_of_eq rfl) (hb hby own_d6_405) (by decide) (by decide) ⟨rfl, own_nn0, hn0⟩ (congrArg Value.double hm0)
  refine own_go stz345 ?_
  show own_Go _ _ _ _ Tz345 (mkF m 408 #[oR fi, oI 0, oD X_, oS, oD X_, oS, oI 0, oI 0, oU, oD F_, oS, oI 2, oI 2, oI 1] [(.double P0), (.int 0), (.ref pe)])
  obtain ⟨clz346, Arz346, qz346, Sz346, Mz346, HHz346, Gz346⟩ := V_pe
  have hinz346 : ¬ ((0 : Int32) < 0 ∨ clz346.slots.size ≤ ((0 : Int32)).toNatClampNeg) := inb_of Sz346 ⟨(by decide), (by decide)⟩
  obtain ⟨Tz346, hz346, Xz346, ez346, Wz346, stz346⟩ := stD Xz345 hx hZ ez345 Arz346 (j := (0 : Int32)) hinz346 (g := (mkF m 408 #[oR fi, oI 0, oD X_, oS, oD X_, oS, oI 0, oI 0, oU, oD F_, oS, oI 2, oI 2, oI 1] [(.double P0), (.int 0), (.ref pe)])) rfl rfl (hb hby own_d6_408)
  refine own_go stz346 ?_
  have V_pe_ : Arv Z hz346 pe kpe .double (2 : Int32) [(.double P0), (.double P1)] (.double 0) := Arv.set Arz346 qz346 Sz346 Mz346 HHz346 Gz346 rfl Wz346 0 rfl (Nat.le_of_ble_eq_true rfl)
  have Nz346 := Fr.snoc Xz346 Nz336 g_pe
  have F4 := F4.other Wz346 (own_o1 lt_le_pe)
  have F14 := F14.other Wz346 (own_o1 lt_le_pe)
  have F8 := F8.other Wz346 (own_o1 lt_le_pe)
  have F28 := F28.other Wz346 (own_o1 lt_le_pe)
  have F24 := F24.other Wz346 (own_o1 lt_le_pe)
  have V_jo := V_jo.other Wz346 (Nat.ne_of_lt lt_jo_pe)
  have V_go := V_go.other Wz346 (Nat.ne_of_lt lt_go_pe)
  have V_in_ := V_in_.other Wz346 (Nat.ne_of_gt lt_pe_in_)
  have V_ou := V_ou.other Wz346 (Nat.ne_of_gt lt_pe_ou)
  have V_el := V_el.other Wz346 (Nat.ne_of_gt lt_pe_el)
  have V_ev := V_ev.other Wz346 (Nat.ne_of_gt lt_pe_ev)
  have V_st := V_st.other Wz346 (Nat.ne_of_gt lt_pe_st)
  have V_se := V_se.other Wz346 (Nat.ne_of_gt lt_pe_se)
  have K := K.wr Wz346 (Or.inl (List.mem_of_getElem? (i := 2) rfl))
  have E_fi := E_fi.wr Wz346
  have F22 := F22.other Wz346 (own_o2 lt_pe_fi)
  have F0 := F0.other Wz346 (own_o2 lt_pe_fi)
  have F2 := F2.other Wz346 (own_o2 lt_pe_fi)
  have F38 := F38.other Wz346 (own_o2 lt_pe_fi)
  have F36 := F36.other Wz346 (own_o2 lt_pe_fi)
  have F18 := F18.other Wz346 (own_o2 lt_pe_fi)
  have F12 := F12.other Wz346 (own_o2 lt_pe_fi)
  have F26 := F26.other Wz346 (own_o2 lt_pe_fi)
  have F40 := F40.other Wz346 (own_o2 lt_pe_fi)
  have F16 := F16.other Wz346 (own_o2 lt_pe_fi)
  have F6 := F6.other Wz346 (own_o2 lt_pe_fi)
  have F34 := F34.other Wz346 (own_o2 lt_pe_fi)
  have F20 := F20.other Wz346 (own_o2 lt_pe_fi)
  have F10 := F10.other Wz346 (own_o2 lt_pe_fi)
  have F30 := F30.other Wz346 (own_o2 lt_pe_fi)
  have F32 := F32.other Wz346 (own_o2 lt_pe_fi)
  have V_fl := V_fl.other Wz346 (Nat.ne_of_gt lt_pe_fl)
  have V_li := V_li.other Wz346 (Nat.ne_of_gt lt_pe_li)
  have V_pe := V_pe_
  show own_Go _ _ _ _ Tz346 (mkF m 409 #[oR fi, oI 0, oD X_, oS, oD X_, oS, oI 0, oI 0, oU, oD F_, oS, oI 2, oI 2, oI 1] [])
  refine own_go (fun _ k => XS.aloadN Xz346.here hx rfl (hb hby own_d6_409) rfl rfl k) ?_
  show own_Go _ _ _ _ Tz346 (mkF m 410 #[oR fi, oI 0, oD X_, oS, oD X_, oS, oI 0, oI 0, oU, oD F_, oS, oI 2, oI 2, oI 1] [(.ref fi)])
  refine own_go (fun _ k => XS.dup Xz346.here hx rfl (hb hby own_d6_410) rfl rfl k) ?_
  show own_Go _ _ _ _ Tz346 (mkF m 411 #[oR fi, oI 0, oD X_, oS, oD X_, oS, oI 0, oI 0, oU, oD F_, oS, oI 2, oI 2, oI 1] [(.ref fi), (.ref fi)])
  obtain ⟨Tz347, Xz347, ez347, stz347⟩ := getF Xz346 hx hZ hown (host := "") (Or.inl (hw _ (List.mem_of_getElem? (i := 68) rfl))) Via.refl ez346 F30 (g := (mkF m 411 #[oR fi, oI 0, oD X_, oS, oD X_, oS, oI 0, oI 0, oU, oD F_, oS, oI 2, oI 2, oI 1] [(.ref fi), (.ref fi)])) rfl rfl (hb hby own_d6_411)
  refine own_go stz347 ?_
  show own_Go _ _ _ _ Tz347 (mkF m 414 #[oR fi, oI 0, oD X_, oS, oD X_, oS, oI 0, oI 0, oU, oD F_, oS, oI 2, oI 2, oI 1] [(.double 0), (.ref fi)])
  refine own_go (fun _ k => XS.aloadN Xz347.here hx rfl (hb hby own_d6_414) rfl rfl k) ?_
  show own_Go _ _ _ _ Tz347 (mkF m 415 #[oR fi, oI 0, oD X_, oS, oD X_, oS, oI 0, oI 0, oU, oD F_, oS, oI 2, oI 2, oI 1] [(.ref fi), (.double 0), (.ref fi)])
  obtain ⟨Tz348, Xz348, ez348, stz348⟩ := getF Xz347 hx hZ hown (host := "") (Or.inl (hw _ (List.mem_of_getElem? (i := 39) rfl))) Via.refl ez347 F18 (g := (mkF m 415 #[oR fi, oI 0, oD X_, oS, oD X_, oS, oI 0, oI 0, oU, oD F_, oS, oI 2, oI 2, oI 1] [(.ref fi), (.double 0), (.ref fi)])) rfl rfl (hb hby own_d6_415)
  refine own_go stz348 ?_
  show own_Go _ _ _ _ Tz348 (mkF m 418 #[oR fi, oI 0, oD X_, oS, oD X_, oS, oI 0, oI 0, oU, oD F_, oS, oI 2, oI 2, oI 1] [(.ref le), (.double 0), (.ref fi)])
  refine own_go (fun _ k => own_getR Xz348 hx hZ hown (hw _ (List.mem_of_getElem? (i := 85) rfl)) ez348 F28 (g := (mkF m 418 #[oR fi, oI 0, oD X_, oS, oD X_, oS, oI 0, oI 0, oU, oD F_, oS, oI 2, oI 2, oI 1] [(.ref le), (.double 0), (.ref fi)])) rfl rfl (hb hby own_d6_418) _ k) ?_
  show own_Go _ _ _ _ Tz348 (mkF m 421 #[oR fi, oI 0, oD X_, oS, oD X_, oS, oI 0, oI 0, oU, oD F_, oS, oI 2, oI 2, oI 1] [(.ref pe), (.double 0), (.ref fi)])
  refine own_go (fun _ k => XS.iload Xz348.here hx rfl (hb hby own_d6_421) rfl k) ?_
  show own_Go _ _ _ _ Tz348 (mkF m 423 #[oR fi, oI 0, oD X_, oS, oD X_, oS, oI 0, oI 0, oU, oD F_, oS, oI 2, oI 2, oI 1] [(.int 0), (.ref pe), (.double 0), (.ref fi)])
  obtain ⟨clz350, Arz350, qz350, Sz350, Mz350, HHz350, Gz350⟩ := id V_pe
  have hinz350 : ¬ ((0 : Int32) < 0 ∨ clz350.slots.size ≤ ((0 : Int32)).toNatClampNeg) := inb_of Sz350 ⟨(by decide), (by decide)⟩
  have hatz350 : clz350.slots[((0 : Int32)).toNatClampNeg]? = some (.double P0) := HHz350.at hinz350 (rfl)
  refine own_go (fun _ k => Xz348.daload hx (j := (0 : Int32)) (v := (.double P0)) (by rw [ez348]; exact Arz350.1) (State.isArrayOf_alike hZ.alike Arz350.2.1) Arz350.2.2 hinz350 hatz350 (g := (mkF m 423 #[oR fi, oI 0, oD X_, oS, oD X_, oS, oI 0, oI 0, oU, oD F_, oS, oI 2, oI 2, oI 1] [(.int 0), (.ref pe), (.double 0), (.ref fi)])) rfl rfl (hb hby own_d6_423) _ k) ?_
  show own_Go _ _ _ _ Tz348 (mkF m 424 #[oR fi, oI 0, oD X_, oS, oD X_, oS, oI 0, oI 0, oU, oD F_, oS, oI 2, oI 2, oI 1] [(.double P0), (.double 0), (.ref fi)])
  refine own_go (fun _ k => XS.daddS Xz348.here hx rfl (hb hby own_d6_424) rfl (by rw [ha0]; exact hn0) ha0 k) ?_
  show own_Go _ _ _ _ Tz348 (mkF m 425 #[oR fi, oI 0, oD X_, oS, oD X_, oS, oI 0, oI 0, oU, oD F_, oS, oI 2, oI 2, oI 1] [(.double P0), (.ref fi)])
  obtain ⟨Tz351, hz351, Xz351, ez351, Wz351, stz351⟩ := putF Xz348 hx hZ hown (host := "") (Or.inl (hw _ (List.mem_of_getElem? (i := 68) rfl))) Via.refl ez348 F30 E_fi (Or.inl (hw _ (List.mem_of_getElem? (i := 69) rfl))) (hw _ (List.mem_of_getElem? (i := 23) rfl)) (ty := .double) (by decide) rfl rfl (g := (mkF m 425 #[oR fi, oI 0, oD X_, oS, oD X_, oS, oI 0, oI 0, oU, oD F_, oS, oI 2, oI 2, oI 1] [(.double P0), (.ref fi)])) rfl rfl (hb hby own_d6_425)
  refine own_go stz351 ?_
  have Nz351 := Fr.snoc Xz351 Nz346 g_fi
  have F31 := F30.same Wz351
  have F4 := F4.other Wz351 (own_o1 lt_le_fi)
  have F14 := F14.other Wz351 (own_o1 lt_le_fi)
  have F8 := F8.other Wz351 (own_o1 lt_le_fi)
  have F28 := F28.other Wz351 (own_o1 lt_le_fi)
  have F24 := F24.other Wz351 (own_o1 lt_le_fi)
  have V_jo := V_jo.other Wz351 (Nat.ne_of_lt lt_jo_fi)
  have V_go := V_go.other Wz351 (Nat.ne_of_lt lt_go_fi)
  have V_in_ := V_in_.other Wz351 (Nat.ne_of_gt lt_fi_in_)
  have V_ou := V_ou.other Wz351 (Nat.ne_of_gt lt_fi_ou)
  have V_el := V_el.other Wz351 (Nat.ne_of_gt lt_fi_el)
  have V_ev := V_ev.other Wz351 (Nat.ne_of_gt lt_fi_ev)
  have V_st := V_st.other Wz351 (Nat.ne_of_gt lt_fi_st)
  have V_se := V_se.other Wz351 (Nat.ne_of_gt lt_fi_se)
  have K := K.wr Wz351 (Or.inl (List.mem_of_getElem? (i := 0) rfl))
  have E_fi := E_fi.wr Wz351
  have F22 := F22.other Wz351 (own_sl hw 30 69 (Or.inl rfl) (Or.inl rfl) (by decide))
  have F0 := F0.other Wz351 (own_sl hw 32 69 (Or.inl rfl) (Or.inl rfl) (by decide))
  have F2 := F2.other Wz351 (own_sl hw 34 69 (Or.inl rfl) (Or.inl rfl) (by decide))
  have F38 := F38.other Wz351 (own_sl hw 36 69 (Or.inl rfl) (Or.inl rfl) (by decide))
  have F36 := F36.other Wz351 (own_sl hw 38 69 (Or.inl rfl) (Or.inl rfl) (by decide))
  have F18 := F18.other Wz351 (own_sl hw 40 69 (Or.inr rfl) (Or.inl rfl) (by decide))
  have F12 := F12.other Wz351 (own_sl hw 42 69 (Or.inr rfl) (Or.inl rfl) (by decide))
  have F26 := F26.other Wz351 (own_sl hw 44 69 (Or.inr rfl) (Or.inl rfl) (by decide))
  have F40 := F40.other Wz351 (own_sl hw 51 69 (Or.inl rfl) (Or.inl rfl) (by decide))
  have F16 := F16.other Wz351 (own_sl hw 58 69 (Or.inl rfl) (Or.inl rfl) (by decide))
  have F6 := F6.other Wz351 (own_sl hw 60 69 (Or.inl rfl) (Or.inl rfl) (by decide))
  have F34 := F34.other Wz351 (own_sl hw 62 69 (Or.inl rfl) (Or.inl rfl) (by decide))
  have F20 := F20.other Wz351 (own_sl hw 73 69 (Or.inl rfl) (Or.inl rfl) (by decide))
  have F10 := F10.other Wz351 (own_sl hw 79 69 (Or.inl rfl) (Or.inl rfl) (by decide))
  have F32 := F32.other Wz351 (own_sl hw 71 69 (Or.inl rfl) (Or.inl rfl) (by decide))
  have V_fl := V_fl.other Wz351 (Nat.ne_of_gt lt_fi_fl)
  have V_li := V_li.other Wz351 (Nat.ne_of_lt lt_li_fi)
  have V_pe := V_pe.other Wz351 (Nat.ne_of_lt lt_pe_fi)
  have F30 := F31
  show own_Go _ _ _ _ Tz351 (mkF m 428 #[oR fi, oI 0, oD X_, oS, oD X_, oS, oI 0, oI 0, oU, oD F_, oS, oI 2, oI 2, oI 1] [])
  refine own_go (fun _ k => XS.iinc Xz351.here hx rfl (hb hby own_d6_428) rfl (l' := #[oR fi, oI 0, oD X_, oS, oD X_, oS, oI ((0 : Int32) + (1 : Int32)), oI 0, oU, oD F_, oS, oI 2, oI 2, oI 1]) rfl k) ?_
  show own_Go _ _ _ _ Tz351 (mkF m 431 #[oR fi, oI 0, oD X_, oS, oD X_, oS, oI ((0 : Int32) + (1 : Int32)), oI 0, oU, oD F_, oS, oI 2, oI 2, oI 1] [])
  refine own_go (fun _ k => XS.goto Xz351.here hx rfl (pc0 := 431) (pc' := 367) rfl (hb hby own_d6_431) (by decide) (by decide) k) ?_
  show own_Go _ _ _ _ Tz351 (mkF m 367 #[oR fi, oI 0, oD X_, oS, oD X_, oS, oI ((0 : Int32) + (1 : Int32)), oI 0, oU, oD F_, oS, oI 2, oI 2, oI 1] [])
  show own_Go _ _ _ _ Tz351 (mkF m 367 #[oR fi, oI 0, oD X_, oS, oD X_, oS, oI 1, oI 0, oU, oD F_, oS, oI 2, oI 2, oI 1] [])
  refine own_go (fun _ k => XS.iload Xz351.here hx rfl (hb hby own_d6_367) rfl k) ?_
  show own_Go _ _ _ _ Tz351 (mkF m 369 #[oR fi, oI 0, oD X_, oS, oD X_, oS, oI 1, oI 0, oU, oD F_, oS, oI 2, oI 2, oI 1] [(.int 1)])
  refine own_go (fun _ k => XS.aloadN Xz351.here hx rfl (hb hby own_d6_369) rfl rfl k) ?_
  show own_Go _ _ _ _ Tz351 (mkF m 370 #[oR fi, oI 0, oD X_, oS, oD X_, oS, oI 1, oI 0, oU, oD F_, oS, oI 2, oI 2, oI 1] [(.ref fi), (.int 1)])
  obtain ⟨Tz352, Xz352, ez352, stz352⟩ := getF Xz351 hx hZ hown (host := "") (Or.inl (hw _ (List.mem_of_getElem? (i := 72) rfl))) Via.refl ez351 F20 (g := (mkF m 370 #[oR fi, oI 0, oD X_, oS, oD X_, oS, oI 1, oI 0, oU, oD F_, oS, oI 2, oI 2, oI 1] [(.ref fi), (.int 1)])) rfl rfl (hb hby own_d6_370)
  refine own_go stz352 ?_
  show own_Go _ _ _ _ Tz352 (mkF m 373 #[oR fi, oI 0, oD X_, oS, oD X_, oS, oI 1, oI 0, oU, oD F_, oS, oI 2, oI 2, oI 1] [(.int 2), (.int 1)])
  refine own_go (fun _ k => XS.icmpNo Xz352.here hx rfl (hb hby own_d6_373) rfl (tlt (by decide : (1 : Int32) < (2 : Int32))).2.1 k) ?_
  show own_Go _ _ _ _ Tz352 (mkF m 376 #[oR fi, oI 0, oD X_, oS, oD X_, oS, oI 1, oI 0, oU, oD F_, oS, oI 2, oI 2, oI 1] [])
  refine own_go (fun _ k => XS.aloadN Xz352.here hx rfl (hb hby own_d6_376) rfl rfl k) ?_
  show own_Go _ _ _ _ Tz352 (mkF m 377 #[oR fi, oI 0, oD X_, oS, oD X_, oS, oI 1, oI 0, oU, oD F_, oS, oI 2, oI 2, oI 1] [(.ref fi)])
  obtain ⟨Tz353, Xz353, ez353, stz353⟩ := getF Xz352 hx hZ hown (host := "") (Or.inl (hw _ (List.mem_of_getElem? (i := 29) rfl))) Via.refl ez352 F22 (g := (mkF m 377 #[oR fi, oI 0, oD X_, oS, oD X_, oS, oI 1, oI 0, oU, oD F_, oS, oI 2, oI 2, oI 1] [(.ref fi)])) rfl rfl (hb hby own_d6_377)
  refine own_go stz353 ?_
  show own_Go _ _ _ _ Tz353 (mkF m 380 #[oR fi, oI 0, oD X_, oS, oD X_, oS, oI 1, oI 0, oU, oD F_, oS, oI 2, oI 2, oI 1] [(.ref fl)])
  refine own_go (fun _ k => XS.iload Xz353.here hx rfl (hb hby own_d6_380) rfl k) ?_
  show own_Go _ _ _ _ Tz353 (mkF m 382 #[oR fi, oI 0, oD X_, oS, oD X_, oS, oI 1, oI 0, oU, oD F_, oS, oI 2, oI 2, oI 1] [(.int 1), (.ref fl)])
  obtain ⟨clz354, Arz354, qz354, Sz354, Mz354, HHz354, Gz354⟩ := id V_fl
  have hinz354 : ¬ ((1 : Int32) < 0 ∨ clz354.slots.size ≤ ((1 : Int32)).toNatClampNeg) := inb_of Sz354 ⟨(by decide), (by decide)⟩
  have hatz354 : clz354.slots[((1 : Int32)).toNatClampNeg]? = some (.int 1) := HHz354.at hinz354 (rfl)
  refine own_go (fun _ k => Xz353.iaload hx (j := (1 : Int32)) (v := (.int 1)) (by rw [ez353]; exact Arz354.1) (State.isArrayOf_alike hZ.alike Arz354.2.1) Arz354.2.2 hinz354 hatz354 (g := (mkF m 382 #[oR fi, oI 0, oD X_, oS, oD X_, oS, oI 1, oI 0, oU, oD F_, oS, oI 2, oI 2, oI 1] [(.int 1), (.ref fl)])) rfl rfl (hb hby own_d6_382) _ k) ?_
  show own_Go _ _ _ _ Tz353 (mkF m 383 #[oR fi, oI 0, oD X_, oS, oD X_, oS, oI 1, oI 0, oU, oD F_, oS, oI 2, oI 2, oI 1] [(.int 1)])
  refine own_go (fun _ k => XS.istore Xz353.here hx rfl (hb hby own_d6_383) rfl (l' := #[oR fi, oI 0, oD X_, oS, oD X_, oS, oI 1, oI 1, oU, oD F_, oS, oI 2, oI 2, oI 1]) rfl k) ?_
  show own_Go _ _ _ _ Tz353 (mkF m 385 #[oR fi, oI 0, oD X_, oS, oD X_, oS, oI 1, oI 1, oU, oD F_, oS, oI 2, oI 2, oI 1] [])
  refine own_go (fun _ k => XS.aloadN Xz353.here hx rfl (hb hby own_d6_385) rfl rfl k) ?_
  show own_Go _ _ _ _ Tz353 (mkF m 386 #[oR fi, oI 0, oD X_, oS, oD X_, oS, oI 1, oI 1, oU, oD F_, oS, oI 2, oI 2, oI 1] [(.ref fi)])
  obtain ⟨Tz355, Xz355, ez355, stz355⟩ := getF Xz353 hx hZ hown (host := "") (Or.inl (hw _ (List.mem_of_getElem? (i := 39) rfl))) Via.refl ez353 F18 (g := (mkF m 386 #[oR fi, oI 0, oD X_, oS, oD X_, oS, oI 1, oI 1, oU, oD F_, oS, oI 2, oI 2, oI 1] [(.ref fi)])) rfl rfl (hb hby own_d6_386)
  refine own_go stz355 ?_
  show own_Go _ _ _ _ Tz355 (mkF m 389 #[oR fi, oI 0, oD X_, oS, oD X_, oS, oI 1, oI 1, oU, oD F_, oS, oI 2, oI 2, oI 1] [(.ref le)])
  refine own_go (fun _ k => own_getR Xz355 hx hZ hown (hw _ (List.mem_of_getElem? (i := 85) rfl)) ez355 F28 (g := (mkF m 389 #[oR fi, oI 0, oD X_, oS, oD X_, oS, oI 1, oI 1, oU, oD F_, oS, oI 2, oI 2, oI 1] [(.ref le)])) rfl rfl (hb hby own_d6_389) _ k) ?_
  show own_Go _ _ _ _ Tz355 (mkF m 392 #[oR fi, oI 0, oD X_, oS, oD X_, oS, oI 1, oI 1, oU, oD F_, oS, oI 2, oI 2, oI 1] [(.ref pe)])
  refine own_go (fun _ k => XS.iload Xz355.here hx rfl (hb hby own_d6_392) rfl k) ?_
  show own_Go _ _ _ _ Tz355 (mkF m 394 #[oR fi, oI 0, oD X_, oS, oD X_, oS, oI 1, oI 1, oU, oD F_, oS, oI 2, oI 2, oI 1] [(.int 1), (.ref pe)])
  refine own_go (fun _ k => XS.dconst0 Xz355.here hx rfl (hb hby own_d6_394) own_dc0 k) ?_
  show own_Go _ _ _ _ Tz355 (mkF m 395 #[oR fi, oI 0, oD X_, oS, oD X_, oS, oI 1, oI 1, oU, oD F_, oS, oI 2, oI 2, oI 1] [(.double 0), (.int 1), (.ref pe)])
  refine own_go (fun _ k => XS.aloadN Xz355.here hx rfl (hb hby own_d6_395) rfl rfl k) ?_
  show own_Go _ _ _ _ Tz355 (mkF m 396 #[oR fi, oI 0, oD X_, oS, oD X_, oS, oI 1, oI 1, oU, oD F_, oS, oI 2, oI 2, oI 1] [(.ref fi), (.double 0), (.int 1), (.ref pe)])
  obtain ⟨Tz357, Xz357, ez357, stz357⟩ := getF Xz355 hx hZ hown (host := "") (Or.inl (hw _ (List.mem_of_getElem? (i := 39) rfl))) Via.refl ez355 F18 (g := (mkF m 396 #[oR fi, oI 0, oD X_, oS, oD X_, oS, oI 1, oI 1, oU, oD F_, oS, oI 2, oI 2, oI 1] [(.ref fi), (.double 0), (.int 1), (.ref pe)])) rfl rfl (hb hby own_d6_396)
  refine own_go stz357 ?_
  show own_Go _ _ _ _ Tz357 (mkF m 399 #[oR fi, oI 0, oD X_, oS, oD X_, oS, oI 1, oI 1, oU, oD F_, oS, oI 2, oI 2, oI 1] [(.ref le), (.double 0), (.int 1), (.ref pe)])
  refine own_go (fun _ k => own_getR Xz357 hx hZ hown (hw _ (List.mem_of_getElem? (i := 85) rfl)) ez357 F28 (g := (mkF m 399 #[oR fi, oI 0, oD X_, oS, oD X_, oS, oI 1, oI 1, oU, oD F_, oS, oI 2, oI 2, oI 1] [(.ref le), (.double 0), (.int 1), (.ref pe)])) rfl rfl (hb hby own_d6_399) _ k) ?_
  show own_Go _ _ _ _ Tz357 (mkF m 402 #[oR fi, oI 0, oD X_, oS, oD X_, oS, oI 1, oI 1, oU, oD F_, oS, oI 2, oI 2, oI 1] [(.ref pe), (.double 0), (.int 1), (.ref pe)])
  refine own_go (fun _ k => XS.iload Xz357.here hx rfl (hb hby own_d6_402) rfl k) ?_
  show own_Go _ _ _ _ Tz357 (mkF m 404 #[oR fi, oI 0, oD X_, oS, oD X_, oS, oI 1, oI 1, oU, oD F_, oS, oI 2, oI 2, oI 1] [(.int 1), (.ref pe), (.double 0), (.int 1), (.ref pe)])
  obtain ⟨clz359, Arz359, qz359, Sz359, Mz359, HHz359, Gz359⟩ := id V_pe
  have hinz359 : ¬ ((1 : Int32) < 0 ∨ clz359.slots.size ≤ ((1 : Int32)).toNatClampNeg) := inb_of Sz359 ⟨(by decide), (by decide)⟩
  have hatz359 : clz359.slots[((1 : Int32)).toNatClampNeg]? = some (.double P1) := HHz359.at hinz359 (rfl)
  refine own_go (fun _ k => Xz357.daload hx (j := (1 : Int32)) (v := (.double P1)) (by rw [ez357]; exact Arz359.1) (State.isArrayOf_alike hZ.alike Arz359.2.1) Arz359.2.2 hinz359 hatz359 (g := (mkF m 404 #[oR fi, oI 0, oD X_, oS, oD X_, oS, oI 1, oI 1, oU, oD F_, oS, oI 2, oI 2, oI 1] [(.int 1), (.ref pe), (.double 0), (.int 1), (.ref pe)])) rfl rfl (hb hby own_d6_404) _ k) ?_
  show own_Go _ _ _ _ Tz357 (mkF m 405 #[oR fi, oI 0, oD X_, oS, oD X_, oS, oI 1, oI 1, oU, oD F_, oS, oI 2, oI 2, oI 1] [(.double P1), (.double 0), (.int 1), (.ref pe)])
  obtain ⟨Tz360, Xz360, ez360, stz360⟩ := natS Xz357 hx hZ hown (hw _ (List.mem_of_getElem? (i := 74) rfl)) (hw _ (List.mem_of_getElem? (i := 75) rfl)) (hw _ (List.mem_of_getElem? (i := 76) rfl)) (hw _ (List.mem_of_getElem? (i := 77) rfl)) (by decide) ez357 (W := 2) (F := fun a' => a' = #[.double 0, .double P1] ∧ NoNaN64 (0 : UInt64) ∧ NoNaN64 P1) (val := .double (Native.java_lang_Math.nans.pick64 true (0 : UInt64) P1)) (val' := .double P1) (fun hc => Jvm.Free.Fl.Abs.maxD_pays (0 : UInt64) P1 hc (by decide) (by decide)) (g := (mkF m 405 #[oR fi, oI 0, oD X_, oS, oD X_, oS, oI 1, oI 1, oU, oD F_, oS, oI 2, oI 2, oI 1] [(.double P1), (.double 0), (.int 1), (.ref pe)])) rfl (by rw [hml]; rfl) (argsL := [(.double 0), (.double P1)]) (rest := [(.int 1), (.ref pe)]) (lenOf own_pd1 rfl) rfl (by show 2 * 0 + _ ≤ _; exact Nat.le_of_eq rfl) (hb hby own_d6_405) (by decide) (by decide) ⟨rfl, own_nn0, hn1⟩ (congrArg Value.double hm1)
  refine own_go stz360 ?_
  show own_Go _ _ _ _ Tz360 (mkF m 408 #[oR fi, oI 0, oD X_, oS, oD X_, oS, oI 1, oI 1, oU, oD F_, oS, oI 2, oI 2, oI 1] [(.double P1), (.int 1), (.ref pe)])
  obtain ⟨clz361, Arz361, qz361, Sz361, Mz361, HHz361, Gz361⟩ := V_pe
  have hinz361 : ¬ ((1 : Int32) < 0 ∨ clz361.slots.size ≤ ((1 : Int32)).toNatClampNeg) := inb_of Sz361 ⟨(by decide), (by decide)⟩
  obtain ⟨Tz361, hz361, Xz361, ez361, Wz361, stz361⟩ := stD Xz360 hx hZ ez360 Arz361 (j := (1 : Int32)) hinz361 (g := (mkF m 408 #[oR fi, oI 0, oD X_, oS, oD X_, oS, oI 1, oI 1, oU, oD F_, oS, oI 2, oI 2, oI 1] [(.double P1), (.int 1), (.ref pe)])) rfl rfl (hb hby own_d6_408)
  refine own_go stz361 ?_
  have V_pe_ : Arv Z hz361 pe kpe .double (2 : Int32) [(.double P0), (.double P1)] (.double 0) := Arv.set Arz361 qz361 Sz361 Mz361 HHz361 Gz361 rfl Wz361 1 rfl (Nat.le_of_ble_eq_true rfl)
  have Nz361 := Fr.snoc Xz361 Nz351 g_pe
  have F4 := F4.other Wz361 (own_o1 lt_le_pe)
  have F14 := F14.other Wz361 (own_o1 lt_le_pe)
  have F8 := F8.other Wz361 (own_o1 lt_le_pe)
  have F28 := F28.other Wz361 (own_o1 lt_le_pe)
  have F24 := F24.other Wz361 (own_o1 lt_le_pe)
  have V_jo := V_jo.other Wz361 (Nat.ne_of_lt lt_jo_pe)
  have V_go := V_go.other Wz361 (Nat.ne_of_lt lt_go_pe)
  have V_in_ := V_in_.other Wz361 (Nat.ne_of_gt lt_pe_in_)
  have V_ou := V_ou.other Wz361 (Nat.ne_of_gt lt_pe_ou)
  have V_el := V_el.other Wz361 (Nat.ne_of_gt lt_pe_el)
  have V_ev := V_ev.other Wz361 (Nat.ne_of_gt lt_pe_ev)
  have V_st := V_st.other Wz361 (Nat.ne_of_gt lt_pe_st)
  have V_se := V_se.other Wz361 (Nat.ne_of_gt lt_pe_se)
  have K := K.wr Wz361 (Or.inl (List.mem_of_getElem? (i := 2) rfl))
  have E_fi := E_fi.wr Wz361
  have F22 := F22.other Wz361 (own_o2 lt_pe_fi)
  have F0 := F0.other Wz361 (own_o2 lt_pe_fi)
  have F2 := F2.other Wz361 (own_o2 lt_pe_fi)
  have F38 := F38.other Wz361 (own_o2 lt_pe_fi)
  have F36 := F36.other Wz361 (own_o2 lt_pe_fi)
  have F18 := F18.other Wz361 (own_o2 lt_pe_fi)
  have F12 := F12.other Wz361 (own_o2 lt_pe_fi)
  have F26 := F26.other Wz361 (own_o2 lt_pe_fi)
  have F40 := F40.other Wz361 (own_o2 lt_pe_fi)
  have F16 := F16.other Wz361 (own_o2 lt_pe_fi)
  have F6 := F6.other Wz361 (own_o2 lt_pe_fi)
  have F34 := F34.other Wz361 (own_o2 lt_pe_fi)
  have F20 := F20.other Wz361 (own_o2 lt_pe_fi)
  have F10 := F10.other Wz361 (own_o2 lt_pe_fi)
  have F32 := F32.other Wz361 (own_o2 lt_pe_fi)
  have V_fl := V_fl.other Wz361 (Nat.ne_of_gt lt_pe_fl)
  have V_li := V_li.other Wz361 (Nat.ne_of_gt lt_pe_li)
  have F30 := F30.other Wz361 (own_o2 lt_pe_fi)
  have V_pe := V_pe_
  show own_Go _ _ _ _ Tz361 (mkF m 409 #[oR fi, oI 0, oD X_, oS, oD X_, oS, oI 1, oI 1, oU, oD F_, oS, oI 2, oI 2, oI 1] [])
  refine own_go (fun _ k => XS.aloadN Xz361.here hx rfl (hb hby own_d6_409) rfl rfl k) ?_
  show own_Go _ _ _ _ Tz361 (mkF m 410 #[oR fi, oI 0, oD X_, oS, oD X_, oS, oI 1, oI 1, oU, oD F_, oS, oI 2, oI 2, oI 1] [(.ref fi)])
  refine own_go (fun _ k => XS.dup Xz361.here hx rfl (hb hby own_d6_410) rfl rfl k) ?_
  show own_Go _ _ _ _ Tz361 (mkF m 411 #[oR fi, oI 0, oD X_, oS, oD X_, oS, oI 1, oI 1, oU, oD F_, oS, oI 2, oI 2, oI 1] [(.ref fi), (.ref fi)])
  obtain ⟨Tz362, Xz362, ez362, stz362⟩ := getF Xz361 hx hZ hown (host := "") (Or.inl (hw _ (List.mem_of_getElem? (i := 68) rfl))) Via.refl ez361 F30 (g := (mkF m 411 #[oR fi, oI 0, oD X_, oS, oD X_, oS, oI 1, oI 1, oU, oD F_, oS, oI 2, oI 2, oI 1] [(.ref fi), (.ref fi)])) rfl rfl (hb hby own_d6_411)
  refine own_go stz362 ?_
  show own_Go _ _ _ _ Tz362 (mkF m 414 #[oR fi, oI 0, oD X_, oS, oD X_, oS, oI 1, oI 1, oU, oD F_, oS, oI 2, oI 2, oI 1] [(.double P0), (.ref fi)])
  refine own_go (fun _ k => XS.aloadN Xz362.here hx rfl (hb hby own_d6_414) rfl rfl k) ?_
  show own_Go _ _ _ _ Tz362 (mkF m 415 #[oR fi, oI 0, oD X_, oS, oD X_, oS, oI 1, oI 1, oU, oD F_, oS, oI 2, oI 2, oI 1] [(.ref fi), (.double P0), (.ref fi)])
  obtain ⟨Tz363, Xz363, ez363, stz363⟩ := getF Xz362 hx hZ hown (host := "") (Or.inl (hw _ (List.mem_of_getElem? (i := 39) rfl))) Via.refl ez362 F18 (g := (mkF m 415 #[oR fi, oI 0, oD X_, oS, oD X_, oS, oI 1, oI 1, oU, oD F_, oS, oI 2, oI 2, oI 1] [(.ref fi), (.double P0), (.ref fi)])) rfl rfl (hb hby own_d6_415)
  refine own_go stz363 ?_
  show own_Go _ _ _ _ Tz363 (mkF m 418 #[oR fi, oI 0, oD X_, oS, oD X_, oS, oI 1, oI 1, oU, oD F_, oS, oI 2, oI 2, oI 1] [(.ref le), (.double P0), (.ref fi)])
  refine own_go (fun _ k => own_getR Xz363 hx hZ hown (hw _ (List.mem_of_getElem? (i := 85) rfl)) ez363 F28 (g := (mkF m 418 #[oR fi, oI 0, oD X_, oS, oD X_, oS, oI 1, oI 1, oU, oD F_, oS, oI 2, oI 2, oI 1] [(.ref le), (.double P0), (.ref fi)])) rfl rfl (hb hby own_d6_418) _ k) ?_
  show own_Go _ _ _ _ Tz363 (mkF m 421 #[oR fi, oI 0, oD X_, oS, oD X_, oS, oI 1, oI 1, oU, oD F_, oS, oI 2, oI 2, oI 1] [(.ref pe), (.double P0), (.ref fi)])
  refine own_go (fun _ k => XS.iload Xz363.here hx rfl (hb hby own_d6_421) rfl k) ?_
  show own_Go _ _ _ _ Tz363 (mkF m 423 #[oR fi, oI 0, oD X_, oS, oD X_, oS, oI 1, oI 1, oU, oD F_, oS, oI 2, oI 2, oI 1] [(.int 1), (.ref pe), (.double P0), (.ref fi)])
  obtain ⟨clz365, Arz365, qz365, Sz365, Mz365, HHz365, Gz365⟩ := id V_pe
  have hinz365 : ¬ ((1 : Int32) < 0 ∨ clz365.slots.size ≤ ((1 : Int32)).toNatClampNeg) := inb_of Sz365 ⟨(by decide), (by decide)⟩
  have hatz365 : clz365.slots[((1 : Int32)).toNatClampNeg]? = some (.double P1) := HHz365.at hinz365 (rfl)
  refine own_go (fun _ k => Xz363.daload hx (j := (1 : Int32)) (v := (.double P1)) (by rw [ez363]; exact Arz365.1) (State.isArrayOf_alike hZ.alike Arz365.2.1) Arz365.2.2 hinz365 hatz365 (g := (mkF m 423 #[oR fi, oI 0, oD X_, oS, oD X_, oS, oI 1, oI 1, oU, oD F_, oS, oI 2, oI 2, oI 1] [(.int 1), (.ref pe), (.double P0), (.ref fi)])) rfl rfl (hb hby own_d6_423) _ k) ?_
  show own_Go _ _ _ _ Tz363 (mkF m 424 #[oR fi, oI 0, oD X_, oS, oD X_, oS, oI 1, oI 1, oU, oD F_, oS, oI 2, oI 2, oI 1] [(.double P1), (.double P0), (.ref fi)])
  refine own_go (fun _ k => XS.daddS Xz363.here hx rfl (hb hby own_d6_424) rfl (by rw [hs1]; exact hnX) hs1 k) ?_
  show own_Go _ _ _ _ Tz363 (mkF m 425 #[oR fi, oI 0, oD X_, oS, oD X_, oS, oI 1, oI 1, oU, oD F_, oS, oI 2, oI 2, oI 1] [(.double X_), (.ref fi)])
  obtain ⟨Tz366, hz366, Xz366, ez366, Wz366, stz366⟩ := putF Xz363 hx hZ hown (host := "") (Or.inl (hw _ (List.mem_of_getElem? (i := 68) rfl))) Via.refl ez363 F30 E_fi (Or.inl (hw _ (List.mem_of_getElem? (i := 69) rfl))) (hw _ (List.mem_of_getElem? (i := 23) rfl)) (ty := .double) (by decide) rfl rfl (g := (mkF m 425 #[oR fi, oI 0, oD X_, oS, oD X_, oS, oI 1, oI 1, oU, oD F_, oS, oI 2, oI 2, oI 1] [(.double X_), (.ref fi)])) rfl rfl (hb hby own_d6_425)
  refine own_go stz366 ?_
  have Nz366 := Fr.snoc Xz366 Nz361 g_fi
  have F31 := F30.same Wz366
  have F4 := F4.other Wz366 (own_o1 lt_le_fi)
  have F14 := F14.other Wz366 (own_o1 lt_le_fi)
  have F8 := F8.other Wz366 (own_o1 lt_le_fi)
  have F28 := F28.other Wz366 (own_o1 lt_le_fi)
  have F24 := F24.other Wz366 (own_o1 lt_le_fi)
  have V_jo := V_jo.other Wz366 (Nat.ne_of_lt lt_jo_fi)
  have V_go := V_go.other Wz366 (Nat.ne_of_lt lt_go_fi)
  have V_in_ := V_in_.other Wz366 (Nat.ne_of_gt lt_fi_in_)
  have V_ou := V_ou.other Wz366 (Nat.ne_of_gt lt_fi_ou)
  have V_el := V_el.other Wz366 (Nat.ne_of_gt lt_fi_el)
  have V_ev := V_ev.other Wz366 (Nat.ne_of_gt lt_fi_ev)
  have V_st := V_st.other Wz366 (Nat.ne_of_gt lt_fi_st)
  have V_se := V_se.other Wz366 (Nat.ne_of_gt lt_fi_se)
  have K := K.wr Wz366 (Or.inl (List.mem_of_getElem? (i := 0) rfl))
  have E_fi := E_fi.wr Wz366
  have F22 := F22.other Wz366 (own_sl hw 30 69 (Or.inl rfl) (Or.inl rfl) (by decide))
  have F0 := F0.other Wz366 (own_sl hw 32 69 (Or.inl rfl) (Or.inl rfl) (by decide))
  have F2 := F2.other Wz366 (own_sl hw 34 69 (Or.inl rfl) (Or.inl rfl) (by decide))
  have F38 := F38.other Wz366 (own_sl hw 36 69 (Or.inl rfl) (Or.inl rfl) (by decide))
  have F36 := F36.other Wz366 (own_sl hw 38 69 (Or.inl rfl) (Or.inl rfl) (by decide))
  have F18 := F18.other Wz366 (own_sl hw 40 69 (Or.inr rfl) (Or.inl rfl) (by decide))
  have F12 := F12.other Wz366 (own_sl hw 42 69 (Or.inr rfl) (Or.inl rfl) (by decide))
  have F26 := F26.other Wz366 (own_sl hw 44 69 (Or.inr rfl) (Or.inl rfl) (by decide))
  have F40 := F40.other Wz366 (own_sl hw 51 69 (Or.inl rfl) (Or.inl rfl) (by decide))
  have F16 := F16.other Wz366 (own_sl hw 58 69 (Or.inl rfl) (Or.inl rfl) (by decide))
  have F6 := F6.other Wz366 (own_sl hw 60 69 (Or.inl rfl) (Or.inl rfl) (by decide))
  have F34 := F34.other Wz366 (own_sl hw 62 69 (Or.inl rfl) (Or.inl rfl) (by decide))
  have F20 := F20.other Wz366 (own_sl hw 73 69 (Or.inl rfl) (Or.inl rfl) (by decide))
  have F10 := F10.other Wz366 (own_sl hw 79 69 (Or.inl rfl) (Or.inl rfl) (by decide))
  have F32 := F32.other Wz366 (own_sl hw 71 69 (Or.inl rfl) (Or.inl rfl) (by decide))
  have V_fl := V_fl.other Wz366 (Nat.ne_of_gt lt_fi_fl)
  have V_li := V_li.other Wz366 (Nat.ne_of_lt lt_li_fi)
  have V_pe := V_pe.other Wz366 (Nat.ne_of_lt lt_pe_fi)
  have F30 := F31
  show own_Go _ _ _ _ Tz366 (mkF m 428 #[oR fi, oI 0, oD X_, oS, oD X_, oS, oI 1, oI 1, oU, oD F_, oS, oI 2, oI 2, oI 1] [])
  refine own_go (fun _ k => XS.iinc Xz366.here hx rfl (hb hby own_d6_428) rfl (l' := #[oR fi, oI 0, oD X_, oS, oD X_, oS, oI ((1 : Int32) + (1 : Int32)), oI 1, oU, oD F_, oS, oI 2, oI 2, oI 1]) rfl k) ?_
  show own_Go _ _ _ _ Tz366 (mkF m 431 #[oR fi, oI 0, oD X_, oS, oD X_, oS, oI ((1 : Int32) + (1 : Int32)), oI 1, oU, oD F_, oS, oI 2, oI 2, oI 1] [])
  refine own_go (fun _ k => XS.goto Xz366.here hx rfl (pc0 := 431) (pc' := 367) rfl (hb hby own_d6_431) (by decide) (by decide) k) ?_
  show own_Go _ _ _ _ Tz366 (mkF m 367 #[oR fi, oI 0, oD X_, oS, oD X_, oS, oI ((1 : Int32) + (1 : Int32)), oI 1, oU, oD F_, oS, oI 2, oI 2, oI 1] [])
  show own_Go _ _ _ _ Tz366 (mkF m 367 #[oR fi, oI 0, oD X_, oS, oD X_, oS, oI 2, oI 1, oU, oD F_, oS, oI 2, oI 2, oI 1] [])
  refine own_go (fun _ k => XS.iload Xz366.here hx rfl (hb hby own_d6_367) rfl k) ?_
  show own_Go _ _ _ _ Tz366 (mkF m 369 #[oR fi, oI 0, oD X_, oS, oD X_, oS, oI 2, oI 1, oU, oD F_, oS, oI 2, oI 2, oI 1] [(.int 2)])
  refine own_go (fun _ k => XS.aloadN Xz366.here hx rfl (hb hby own_d6_369) rfl rfl k) ?_
  show own_Go _ _ _ _ Tz366 (mkF m 370 #[oR fi, oI 0, oD X_, oS, oD X_, oS, oI 2, oI 1, oU, oD F_, oS, oI 2, oI 2, oI 1] [(.ref fi), (.int 2)])
  obtain ⟨Tz367, Xz367, ez367, stz367⟩ := getF Xz366 hx hZ hown (host := "") (Or.inl (hw _ (List.mem_of_getElem? (i := 72) rfl))) Via.refl ez366 F20 (g := (mkF m 370 #[oR fi, oI 0, oD X_, oS, oD X_, oS, oI 2, oI 1, oU, oD F_, oS, oI 2, oI 2, oI 1] [(.ref fi), (.int 2)])) rfl rfl (hb hby own_d6_370)
  refine own_go stz367 ?_
  show own_Go _ _ _ _ Tz367 (mkF m 373 #[oR fi, oI 0, oD X_, oS, oD X_, oS, oI 2, oI 1, oU, oD F_, oS, oI 2, oI 2, oI 1] [(.int 2), (.int 2)])
  refine own_go (fun _ k => XS.icmpYes Xz367.here hx rfl (pc0 := 373) (pc' := 434) rfl (hb hby own_d6_373) rfl (flt (by decide : ¬ ((2 : Int32) < (2 : Int32)))).2.1 (by decide) (by decide) k) ?_
  show own_Go _ _ _ _ Tz367 (mkF m 434 #[oR fi, oI 0, oD X_, oS, oD X_, oS, oI 2, oI 1, oU, oD F_, oS, oI 2, oI 2, oI 1] [])
  refine own_go (fun _ k => XS.aloadN Xz367.here hx rfl (hb hby own_d6_434) rfl rfl k) ?_
  show own_Go _ _ _ _ Tz367 (mkF m 435 #[oR fi, oI 0, oD X_, oS, oD X_, oS, oI 2, oI 1, oU, oD F_, oS, oI 2, oI 2, oI 1] [(.ref fi)])
  refine own_go (fun _ k => XS.dloadN Xz367.here hx rfl (hb hby own_d6_435) rfl k) ?_
  show own_Go _ _ _ _ Tz367 (mkF m 436 #[oR fi, oI 0, oD X_, oS, oD X_, oS, oI 2, oI 1, oU, oD F_, oS, oI 2, oI 2, oI 1] [(.double X_), (.ref fi)])
  refine own_go (fun _ k => XS.aloadN Xz367.here hx rfl (hb hby own_d6_436) rfl rfl k) ?_
  show own_Go _ _ _ _ Tz367 (mkF m 437 #[oR fi, oI 0, oD X_, oS, oD X_, oS, oI 2, oI 1, oU, oD F_, oS, oI 2, oI 2, oI 1] [(.ref fi), (.double X_), (.ref fi)])
  obtain ⟨Tz368, Xz368, ez368, stz368⟩ := getF Xz367 hx hZ hown (host := "") (Or.inl (hw _ (List.mem_of_getElem? (i := 68) rfl))) Via.refl ez367 F30 (g := (mkF m 437 #[oR fi, oI 0, oD X_, oS, oD X_, oS, oI 2, oI 1, oU, oD F_, oS, oI 2, oI 2, oI 1] [(.ref fi), (.double X_), (.ref fi)])) rfl rfl (hb hby own_d6_437)
  refine own_go stz368 ?_
  show own_Go _ _ _ _ Tz368 (mkF m 440 #[oR fi, oI 0, oD X_, oS, oD X_, oS, oI 2, oI 1, oU, oD F_, oS, oI 2, oI 2, oI 1] [(.double X_), (.double X_), (.ref fi)])
  obtain ⟨Tz369, Xz369, ez369, stz369⟩ := natS Xz368 hx hZ hown (hw _ (List.mem_of_getElem? (i := 88) rfl)) (hw _ (List.mem_of_getElem? (i := 89) rfl)) (hw _ (List.mem_of_getElem? (i := 76) rfl)) (hw _ (List.mem_of_getElem? (i := 90) rfl)) (by decide) ez368 (W := 1) (F := fun a' => a' = #[.double X_, .double X_] ∧ NoNaN64 X_ ∧ NoNaN64 X_) (val := .double (Native.java_lang_Math.nans.pick64 false X_ X_)) (val' := .double X_) (fun hc => Jvm.Free.Fl.Abs.minD_pays X_ X_ hc (by decide) (by decide)) (g := (mkF m 440 #[oR fi, oI 0, oD X_, oS, oD X_, oS, oI 2, oI 1, oU, oD F_, oS, oI 2, oI 2, oI 1] [(.double X_), (.double X_), (.ref fi)])) rfl (by rw [hml]; rfl) (argsL := [(.double X_), (.double X_)]) (rest := [(.ref fi)]) (lenOf own_pd1 rfl) rfl (by show 2 * 0 + _ ≤ _; exact Nat.le_of_eq rfl) (hb hby own_d6_440) (by decide) (by decide) ⟨rfl, hnX, hnX⟩ (congrArg Value.double hv)
  refine own_go stz369 ?_
  show own_Go _ _ _ _ Tz369 (mkF m 443 #[oR fi, oI 0, oD X_, oS, oD X_, oS, oI 2, oI 1, oU, oD F_, oS, oI 2, oI 2, oI 1] [(.double X_), (.ref fi)])
  obtain ⟨Tz370, hz370, Xz370, ez370, Wz370, stz370⟩ := putF Xz369 hx hZ hown (host := "") (Or.inl (hw _ (List.mem_of_getElem? (i := 70) rfl))) Via.refl ez369 F32 E_fi (Or.inl (hw _ (List.mem_of_getElem? (i := 71) rfl))) (hw _ (List.mem_of_getElem? (i := 23) rfl)) (ty := .double) (by decide) rfl rfl (g := (mkF m 443 #[oR fi, oI 0, oD X_, oS, oD X_, oS, oI 2, oI 1, oU, oD F_, oS, oI 2, oI 2, oI 1] [(.double X_), (.ref fi)])) rfl rfl (hb hby own_d6_443)
  refine own_go stz370 ?_
  have Nz370 := Fr.snoc Xz370 Nz366 g_fi
  have F33 := F32.same Wz370
  have F4 := F4.other Wz370 (own_o1 lt_le_fi)
  have F14 := F14.other Wz370 (own_o1 lt_le_fi)
  have F8 := F8.other Wz370 (own_o1 lt_le_fi)
  have F28 := F28.other Wz370 (own_o1 lt_le_fi)
  have F24 := F24.other Wz370 (own_o1 lt_le_fi)
  have V_jo := V_jo.other Wz370 (Nat.ne_of_lt lt_jo_fi)
  have V_go := V_go.other Wz370 (Nat.ne_of_lt lt_go_fi)
  have V_in_ := V_in_.other Wz370 (Nat.ne_of_gt lt_fi_in_)
  have V_ou := V_ou.other Wz370 (Nat.ne_of_gt lt_fi_ou)
  have V_el := V_el.other Wz370 (Nat.ne_of_gt lt_fi_el)
  have V_ev := V_ev.other Wz370 (Nat.ne_of_gt lt_fi_ev)
  have V_st := V_st.other Wz370 (Nat.ne_of_gt lt_fi_st)
  have V_se := V_se.other Wz370 (Nat.ne_of_gt lt_fi_se)
  have K := K.wr Wz370 (Or.inl (List.mem_of_getElem? (i := 0) rfl))
  have E_fi := E_fi.wr Wz370
  have F22 := F22.other Wz370 (own_sl hw 30 71 (Or.inl rfl) (Or.inl rfl) (by decide))
  have F0 := F0.other Wz370 (own_sl hw 32 71 (Or.inl rfl) (Or.inl rfl) (by decide))
  have F2 := F2.other Wz370 (own_sl hw 34 71 (Or.inl rfl) (Or.inl rfl) (by decide))
  have F38 := F38.other Wz370 (own_sl hw 36 71 (Or.inl rfl) (Or.inl rfl) (by decide))
  have F36 := F36.other Wz370 (own_sl hw 38 71 (Or.inl rfl) (Or.inl rfl) (by decide))
  have F18 := F18.other Wz370 (own_sl hw 40 71 (Or.inr rfl) (Or.inl rfl) (by decide))
  have F12 := F12.other Wz370 (own_sl hw 42 71 (Or.inr rfl) (Or.inl rfl) (by decide))
  have F26 := F26.other Wz370 (own_sl hw 44 71 (Or.inr rfl) (Or.inl rfl) (by decide))
  have F40 := F40.other Wz370 (own_sl hw 51 71 (Or.inl rfl) (Or.inl rfl) (by decide))
  have F16 := F16.other Wz370 (own_sl hw 58 71 (Or.inl rfl) (Or.inl rfl) (by decide))
  have F6 := F6.other Wz370 (own_sl hw 60 71 (Or.inl rfl) (Or.inl rfl) (by decide))
  have F34 := F34.other Wz370 (own_sl hw 62 71 (Or.inl rfl) (Or.inl rfl) (by decide))
  have F20 := F20.other Wz370 (own_sl hw 73 71 (Or.inl rfl) (Or.inl rfl) (by decide))
  have F10 := F10.other Wz370 (own_sl hw 79 71 (Or.inl rfl) (Or.inl rfl) (by decide))
  have V_fl := V_fl.other Wz370 (Nat.ne_of_gt lt_fi_fl)
  have V_li := V_li.other Wz370 (Nat.ne_of_lt lt_li_fi)
  have V_pe := V_pe.other Wz370 (Nat.ne_of_lt lt_pe_fi)
  have F30 := F30.other Wz370 (own_sl hw 69 71 (Or.inl rfl) (Or.inl rfl) (by decide))
  have F32 := F33
  show own_Go _ _ _ _ Tz370 (mkF m 446 #[oR fi, oI 0, oD X_, oS, oD X_, oS, oI 2, oI 1, oU, oD F_, oS, oI 2, oI 2, oI 1] [])
  refine own_go (fun _ k => XS.aloadN Xz370.here hx rfl (hb hby own_d6_446) rfl rfl k) ?_
  show own_Go _ _ _ _ Tz370 (mkF m 447 #[oR fi, oI 0, oD X_, oS, oD X_, oS, oI 2, oI 1, oU, oD F_, oS, oI 2, oI 2, oI 1] [(.ref fi)])
  obtain ⟨Tz371, Xz371, ez371, stz371⟩ := getF Xz370 hx hZ hown (host := "") (Or.inl (hw _ (List.mem_of_getElem? (i := 70) rfl))) Via.refl ez370 F32 (g := (mkF m 447 #[oR fi, oI 0, oD X_, oS, oD X_, oS, oI 2, oI 1, oU, oD F_, oS, oI 2, oI 2, oI 1] [(.ref fi)])) rfl rfl (hb hby own_d6_447)
  refine own_go stz371 ?_
  show own_Go _ _ _ _ Tz371 (mkF m 450 #[oR fi, oI 0, oD X_, oS, oD X_, oS, oI 2, oI 1, oU, oD F_, oS, oI 2, oI 2, oI 1] [(.double X_)])
  exact own_end Xz371 hlk (v := (some (.double X_))) (fun h => by rw [hret] at h; cases h) (fun fs hr => retOut Xz371 hx hret rfl (Or.inr (Or.inr (Or.inl ⟨rfl, rfl, _, rfl⟩))) (hb hby own_d6_450) hr) (by rw [ez371]; exact ⟨rfl, Nz370, K, E_fi, F22, F0, F2, F38, F36, F18, F12, F26, F40, F16, F6, F34, F20, F10, F30, F32, F4, F14, F8, F28, F24, V_jo, V_go, V_pe, V_li, V_in_, V_ou, V_fl, V_el, V_ev, V_st, V_se⟩) (by decide) (by decide)
theorem own_l0 : (0 : UInt64) = FP.l2d 0 := by decide +kernel
theorem own_b53 (c : Int32) : B53 c.toInt64 := by
  have h1 := c.minValue_le_toInt; have h2 := c.toInt_le
  have k1 : Int32.minValue.toInt = -2147483648 := rfl
  have k2 : Int32.maxValue.toInt = 2147483647 := rfl
  refine ⟨?_, ?_⟩ <;> rw [Int32.toInt_toInt64] <;> omega
theorem own_b53k : B53 0 ∧ B53 16 := ⟨⟨by decide, by decide⟩, ⟨by decide, by decide⟩⟩
theorem own_c64 (c : Int32) (k : Int32) : c.toInt64 < k.toInt64 ↔ c < k := by
  rw [Int64.lt_iff_toInt_lt, Int32.lt_iff_toInt_lt, Int32.toInt_toInt64, Int32.toInt_toInt64]
theorem own_lcW (a b : Int64) : (0 < lcmpW a b ↔ b < a) := by
  unfold lcmpW
  by_cases h : a > b
  · rw [if_pos h]; exact ⟨fun _ => h, fun _ => by decide⟩
  · rw [if_neg h]
    refine ⟨fun q => ?_, fun q => absurd q h⟩
    split at q
    · exact absurd q (by decide)
    · exact absurd q (by decide)
theorem own_cN (c : Int32) : NoNaN64 (FP.i2d c) := nn_w (i2d_w c)
theorem own_c0 (c : Int32) (h : ¬ (0 : Int32) < c) : ¬ ((0 : Int32) < cmpValue (FP.dcmp (FP.i2d c) 0) .l) := by
  rw [i2d_w, own_l0, dcmpV_w (own_b53 c) own_b53k.1, own_lcW]
  exact fun q => h ((own_c64 0 c).mp q)
theorem own_cs (c : Int32) (h : (0 : Int32) < c) (h2 : ¬ (15 : Int32) < c) : ∃ m : Nat, 1 ≤ m ∧ m ≤ 15 ∧ c = Int32.ofNat m := by
  rw [Int32.lt_iff_toInt_lt] at h h2
  have k15 : (15 : Int32).toInt = 15 := rfl
  have k0 : (0 : Int32).toInt = 0 := rfl
  refine ⟨c.toInt.toNat, by omega, by omega, ?_⟩
  apply Int32.toInt_inj.mp
  rw [Int32.toInt_ofNat_of_lt (by omega)]; omega
theorem own_cb (c : Int32) (h : (15 : Int32) < c) : (0 : Int32) < cmpValue (FP.dcmp (FP.i2d c) 0) .l ∧ FP.dadd 0 (FP.i2d c) = FP.i2d c ∧ ¬ ((0 : Int32) < cmpValue (FP.dcmp 4625196817309499392 (FP.i2d c)) .g) ∧ Native.java_lang_Math.nans.pick64 false (FP.i2d c) 4625196817309499392 = 4625196817309499392 := by
  have h16 : ¬ (c < (16 : Int32)) := by
    rw [Int32.lt_iff_toInt_lt] at h ⊢
    have k15 : (15 : Int32).toInt = 15 := rfl
    have k16 : (16 : Int32).toInt = 16 := rfl
    omega
  refine ⟨?_, ?_, ?_, ?_⟩
  · rw [i2d_w, own_l0, dcmpV_w (own_b53 c) own_b53k.1, own_lcW]
    refine (own_c64 0 c).mpr ?_
    rw [Int32.lt_iff_toInt_lt] at h ⊢
    have k15 : (15 : Int32).toInt = 15 := rfl
    have k0 : (0 : Int32).toInt = 0 := rfl
    omega
  · rw [i2d_w, own_l0, dadd_w own_b53k.1 (own_b53 c), Int64.zero_add]
  · rw [i2d_w, ← own_c16, dcmpV_w own_b53k.2 (own_b53 c), own_lcW]
    exact fun q => h16 ((own_c64 c 16).mp q)
  · rw [i2d_w, ← own_c16]
    exact min_g (own_b53 c) own_b53k.2 (fun q => h16 ((own_c64 c 16).mp q))
theorem own_z1 (c : Int32) : FP.dadd (FP.i2d c) 0 = FP.i2d c := by
  rw [i2d_w, own_l0, dadd_w (own_b53 c) own_b53k.1, Int64.add_zero]
theorem own_el0 (i e0 e1 x : Int32) : own_el i e0 e1 (FP.i2d x) 0 0 = FP.i2d x := by
  unfold own_el
  simp only [own_z1, ite_self]
theorem own_elS (i e0 e1 : Int32) {b d0 d1 : UInt64} (hb : NoNaN64 b) (h0 : Fin64 d0) (h1 : Fin64 d1) : cmpValue (FP.dcmp (own_el i e0 e1 b d0 d1) (own_el i e0 e1 b d0 d1)) .l = 0 := dcmpV_self (own_elN i e0 e1 hb h0 h1) .l
theorem own_15 (x : Int32) : ∃ nv : Nat, nv ≤ 15 ∧ x &&& (15 : Int32) = Int32.ofNat nv := by
  have h1 := c_and x (15 : Int32) (by decide)
  have k15 : (15 : Int32).toInt = 15 := rfl
  refine ⟨(x &&& (15 : Int32)).toInt.toNat, by omega, ?_⟩
  apply Int32.toInt_inj.mp
  rw [Int32.toInt_ofNat_of_lt (by omega)]; omega
theorem own_16 {nv : Nat} (h : nv ≤ 15) : (16 : Int32) - Int32.ofNat nv = Int32.ofNat (16 - nv) := by
  have q : ∀ n : Fin 16, (16 : Int32) - Int32.ofNat n.1 = Int32.ofNat (16 - n.1) := by decide +kernel
  exact q ⟨nv, by omega⟩
theorem own_four (x : Int32) : (x &&& (3 : Int32)) - 1 = -1 ∨ (x &&& (3 : Int32)) - 1 = 0 ∨ (x &&& (3 : Int32)) - 1 = 1 ∨ (x &&& (3 : Int32)) - 1 = 2 := by
  have h1 := c_and x (3 : Int32) (by decide)
  have k3 : (3 : Int32).toInt = 3 := rfl
  have q : x &&& (3 : Int32) = 0 ∨ x &&& (3 : Int32) = 1 ∨ x &&& (3 : Int32) = 2 ∨ x &&& (3 : Int32) = 3 := by
    have k0 : (0 : Int32).toInt = 0 := rfl
    have k1 : (1 : Int32).toInt = 1 := rfl
    have k2 : (2 : Int32).toInt = 2 := rfl
    simp only [← Int32.toInt_inj, k0, k1, k2, k3]
    omega
  rcases q with q | q | q | q <;> rw [q] <;> decide
theorem own_mm (c : Int32) : (¬ (0 : Int32) < c → (0 : Int32) = Int32.ofNat 0) ∧ ((0 : Int32) < c → (15 : Int32) < c → (if (16 : Int32) < c then (16 : Int32) else c) = Int32.ofNat 16) ∧ ((0 : Int32) < c → ¬ (15 : Int32) < c → (if (16 : Int32) < c then (16 : Int32) else c) = c) := by
  have k15 : (15 : Int32).toInt = 15 := rfl
  have k16 : (16 : Int32).toInt = 16 := rfl
  refine ⟨fun _ => rfl, fun _ h => ?_, fun _ h => ?_⟩ <;> split
  · rfl
  · next q =>
    rw [Int32.lt_iff_toInt_lt] at h q
    have e : c = (16 : Int32) := Int32.toInt_inj.mp (by omega)
    rw [e]; rfl
  · next q =>
    rw [Int32.lt_iff_toInt_lt] at h q
    omega
  · rfl
theorem own_dd (m v : Nat) : FP.ddiv (FP.i2d (Int32.ofNat m * Int32.ofNat v)) 4625196817309499392 = own_fx m v := by
  rw [own_fx, Int32.ofNat_mul]
theorem own_f11 : ∀ v : Fin 17, own_fx 16 v.1 = FP.i2d (Int32.ofNat v.1) ∧ FP.dmul 4607182418800017408 (FP.i2d (Int32.ofNat v.1)) = FP.i2d (Int32.ofNat v.1) := by decide +kernel
theorem own_f0 : ∀ v : Fin 17, own_fx 0 v.1 = 0 := by decide +kernel
theorem own_eftu0 (m : MethodId) (fi : Addr) (be : Addr) : entryFrame m #[(.ref fi), (.ref be)] 7 = mkF m 0 #[oR fi, oR be, oU, oU, oU, oU, oU] [] := by first | (simp [entryFrame, mkF, argsToLocals, Value.category]; done) | rfl
theorem own_d10_0 : decode prog_12_method_5_code 0 = .ok (.aload_n 0, 1) := by decide +kernel
theorem own_d10_1 : decode prog_12_method_5_code 1 = .ok (.getfield 55, 3) := by decide +kernel
theorem own_d10_4 : decode prog_12_method_5_code 4 = .ok (.dconst 0, 1) := by decide +kernel
theorem own_d10_5 : decode prog_12_method_5_code 5 = .ok (.dcmp .l, 1) := by decide +kernel
theorem own_d10_6 : decode prog_12_method_5_code 6 = .ok (.ifCond .gt 4, 3) := by decide +kernel
theorem own_d10_9 : decode prog_12_method_5_code 9 = .ok (.return_, 1) := by decide +kernel
def own_Qtu0 (Z : State) (be : Addr) (h0 : Heap) (n0 : Nat) (v : Option Value) (h : Heap) (L : List Loc) : Prop := v = none ∧ Fr n0 L ∧ h = h0
set_option maxRecDepth 65536 in
set_option maxHeartbeats 40000000 in
theorem own_rmtu0 (l : Launch) (Z : State) (a0 : Array Value) (hw : ∀ d ∈ tables_1, d.before a0 Z = true) (ws : List Jvm.Cond) (fi : Addr) (be : Addr) (h0 : Heap) (n0 : Nat) (F30 : Fld Z h0 fi "com/example/spillback/spillback/Fifo" "sliceTotal" "D" (.double 0)) :
    own_Met l Z (⟨"com/example/spillback/spillback/Fifo", "turns", "([D)V"⟩ : MethodName) prog_12_method_5_code 7 none ws ({ frames := 0, cells := 0, slots := 0, locals := 0 } : Room) #[(.ref fi), (.ref be)] h0 (own_Qtu0 Z be h0 n0) := by
  refine own_met (plainFor_of_name own_pn1) ?_
  intro p e s m below meth c s₁ X0 hx hZ hby hml hown hnm hret hlk e0
  have N0 := Fr.nil n0
  refine own_go (fun t k => castTop (own_eftu0 m fi be) k) ?_
  show own_Go _ _ _ _ s₁ (mkF m 0 #[oR fi, oR be, oU, oU, oU, oU, oU] [])
  refine own_go (fun _ k => XS.aloadN X0.here hx rfl (hb hby own_d10_0) rfl rfl k) ?_
  show own_Go _ _ _ _ s₁ (mkF m 1 #[oR fi, oR be, oU, oU, oU, oU, oU] [(.ref fi)])
  obtain ⟨Tz372, Xz372, ez372, stz372⟩ := getF X0 hx hZ hown (host := "") (Or.inl (hw _ (List.mem_of_getElem? (i := 68) rfl))) Via.refl e0 F30 (g := (mkF m 1 #[oR fi, oR be, oU, oU, oU, oU, oU] [(.ref fi)])) rfl rfl (hb hby own_d10_1)
  refine own_go stz372 ?_
  show own_Go _ _ _ _ Tz372 (mkF m 4 #[oR fi, oR be, oU, oU, oU, oU, oU] [(.double 0)])
  refine own_go (fun _ k => XS.dconst0 Xz372.here hx rfl (hb hby own_d10_4) own_dc0 k) ?_
  show own_Go _ _ _ _ Tz372 (mkF m 5 #[oR fi, oR be, oU, oU, oU, oU, oU] [(.double 0), (.double 0)])
  refine own_go (fun _ k => XS.dcmpS Xz372.here hx rfl (hb hby own_d10_5) rfl rfl k) ?_
  show own_Go _ _ _ _ Tz372 (mkF m 6 #[oR fi, oR be, oU, oU, oU, oU, oU] [(.int (cmpValue (FP.dcmp (0 : UInt64) (0 : UInt64)) .l))])
  refine own_go (fun _ k => XS.ifNo Xz372.here hx rfl (hb hby own_d10_6) rfl ((if0 _ _).trans (flt (by decide +kernel)).2.2.1) k) ?_
  show own_Go _ _ _ _ Tz372 (mkF m 9 #[oR fi, oR be, oU, oU, oU, oU, oU] [])
  exact own_end Xz372 hlk (v := none) (fun _ => rfl) (fun fs hr => Xz372.returnOut hx hret (hb hby own_d10_9) hr) (by rw [ez372]; exact ⟨rfl, N0, rfl⟩) (by decide) (by decide)
theorem own_eftu (m : MethodId) (fi : Addr) (be : Addr) : entryFrame m #[(.ref fi), (.ref be)] 7 = mkF m 0 #[oR fi, oR be, oU, oU, oU, oU, oU] [] := by first | (simp [entryFrame, mkF, argsToLocals, Value.category]; done) | rfl
theorem own_d10_10 : decode prog_12_method_5_code 10 = .ok (.aload_n 0, 1) := by decide +kernel
theorem own_d10_11 : decode prog_12_method_5_code 11 = .ok (.getfield 59, 3) := by decide +kernel
theorem own_d10_14 : decode prog_12_method_5_code 14 = .ok (.aload_n 0, 1) := by decide +kernel
theorem own_d10_15 : decode prog_12_method_5_code 15 = .ok (.getfield 55, 3) := by decide +kernel
theorem own_d10_18 : decode prog_12_method_5_code 18 = .ok (.ddiv, 1) := by decide +kernel
theorem own_d10_19 : decode prog_12_method_5_code 19 = .ok (.dstore_n 2, 1) := by decide +kernel
theorem own_d10_20 : decode prog_12_method_5_code 20 = .ok (.iconst 0, 1) := by decide +kernel
theorem own_d10_21 : decode prog_12_method_5_code 21 = .ok (.istore 4, 2) := by decide +kernel
theorem own_d10_23 : decode prog_12_method_5_code 23 = .ok (.iload 4, 2) := by decide +kernel
theorem own_d10_25 : decode prog_12_method_5_code 25 = .ok (.aload_n 0, 1) := by decide +kernel
theorem own_d10_26 : decode prog_12_method_5_code 26 = .ok (.getfield 74, 3) := by decide +kernel
theorem own_d10_29 : decode prog_12_method_5_code 29 = .ok (.if_icmp .ge 55, 3) := by decide +kernel
theorem own_d10_32 : decode prog_12_method_5_code 32 = .ok (.aload_n 0, 1) := by decide +kernel
theorem own_d10_33 : decode prog_12_method_5_code 33 = .ok (.getfield 7, 3) := by decide +kernel
theorem own_d10_36 : decode prog_12_method_5_code 36 = .ok (.iload 4, 2) := by decide +kernel
theorem own_d10_38 : decode prog_12_method_5_code 38 = .ok (.iaload, 1) := by decide +kernel
theorem own_d10_39 : decode prog_12_method_5_code 39 = .ok (.istore 5, 2) := by decide +kernel
theorem own_d10_41 : decode prog_12_method_5_code 41 = .ok (.aload_n 0, 1) := by decide +kernel
theorem own_d10_42 : decode prog_12_method_5_code 42 = .ok (.getfield 26, 3) := by decide +kernel
theorem own_d10_45 : decode prog_12_method_5_code 45 = .ok (.getfield 92, 3) := by decide +kernel
theorem own_d10_48 : decode prog_12_method_5_code 48 = .ok (.iload 5, 2) := by decide +kernel
theorem own_d10_50 : decode prog_12_method_5_code 50 = .ok (.iaload, 1) := by decide +kernel
theorem own_d10_51 : decode prog_12_method_5_code 51 = .ok (.istore 6, 2) := by decide +kernel
theorem own_d10_53 : decode prog_12_method_5_code 53 = .ok (.iload 6, 2) := by decide +kernel
theorem own_d10_55 : decode prog_12_method_5_code 55 = .ok (.iconst (-1), 1) := by decide +kernel
theorem own_d10_56 : decode prog_12_method_5_code 56 = .ok (.if_icmp .eq 22, 3) := by decide +kernel
theorem own_d10_78 : decode prog_12_method_5_code 78 = .ok (.iinc 4 1, 3) := by decide +kernel
theorem own_d10_81 : decode prog_12_method_5_code 81 = .ok (.goto (-58), 3) := by decide +kernel
theorem own_d10_84 : decode prog_12_method_5_code 84 = .ok (.return_, 1) := by decide +kernel
theorem own_d10_59 : decode prog_12_method_5_code 59 = .ok (.aload_n 1, 1) := by decide +kernel
theorem own_d10_60 : decode prog_12_method_5_code 60 = .ok (.iload 6, 2) := by decide +kernel
theorem own_d10_62 : decode prog_12_method_5_code 62 = .ok (.dup2, 1) := by decide +kernel
theorem own_d10_63 : decode prog_12_method_5_code 63 = .ok (.daload, 1) := by decide +kernel
theorem own_d10_64 : decode prog_12_method_5_code 64 = .ok (.dload_n 2, 1) := by decide +kernel
theorem own_d10_65 : decode prog_12_method_5_code 65 = .ok (.aload_n 0, 1) := by decide +kernel
theorem own_d10_66 : decode prog_12_method_5_code 66 = .ok (.getfield 26, 3) := by decide +kernel
theorem own_d10_69 : decode prog_12_method_5_code 69 = .ok (.getfield 77, 3) := by decide +kernel
theorem own_d10_72 : decode prog_12_method_5_code 72 = .ok (.iload 5, 2) := by decide +kernel
theorem own_d10_74 : decode prog_12_method_5_code 74 = .ok (.daload, 1) := by decide +kernel
theorem own_d10_75 : decode prog_12_method_5_code 75 = .ok (.dmul, 1) := by decide +kernel
theorem own_d10_76 : decode prog_12_method_5_code 76 = .ok (.dadd, 1) := by decide +kernel
theorem own_d10_77 : decode prog_12_method_5_code 77 = .ok (.dastore, 1) := by decide +kernel
def own_Qtu (Z : State) (be : Addr) (kbe : ClassId) (r0 : UInt64) (r1 : UInt64) (r2 : UInt64) (h0 : Heap) (n0 : Nat) (v : Option Value) (h : Heap) (L : List Loc) : Prop := v = none ∧ Fr n0 L ∧ Keep h0 h [be] ∧ Arv Z h be kbe .double (3 : Int32) [(.double r0), (.double r1), (.double r2)] (.double 0)
set_option maxRecDepth 65536 in
set_option maxHeartbeats 40000000 in
theorem own_rmtu (l : Launch) (Z : State) (a0 : Array Value) (hw : ∀ d ∈ tables_1, d.before a0 Z = true) (ws : List Jvm.Cond) (fi : Addr) (be : Addr) (h0 : Heap) (n0 : Nat) (le ex jo go pe li in_ ou fl el ev st se : Addr) (kex kjo kgo kpe kli kin_ kou kfl kel kev kst kse : ClassId) (hc0 : n0 ≤ le) (hc1 : @LT.lt Nat _ le ex) (hc2 : @LT.lt Nat _ ex jo) (hc3 : @LT.lt Nat _ jo go) (hc4 : @LT.lt Nat _ go pe) (hc5 : @LT.lt Nat _ pe li) (hc6 : @LT.lt Nat _ li fi) (hc7 : @LT.lt Nat _ fi in_) (hc8 : @LT.lt Nat _ in_ ou) (hc9 : @LT.lt Nat _ ou fl) (hc10 : @LT.lt Nat _ fl el) (hc11 : @LT.lt Nat _ el ev) (hc12 : @LT.lt Nat _ ev st) (hc13 : @LT.lt Nat _ st se) (kbe : ClassId) (hc14 : @LT.lt Nat _ se be) (y0 y1 : Int32) (B0 B1 B2 Tt Ve Sc P0 P1 D0 D1 r0 r1 r2 : UInt64) (he0 : y0 = -1 ∨ y0 = 0 ∨ y0 = 1 ∨ y0 = 2) (he1 : y1 = -1 ∨ y1 = 0 ∨ y1 = 1 ∨ y1 = 2) (ht : (0 : Int32) < cmpValue (FP.dcmp Tt (0 : UInt64)) .l) (hsc : FP.ddiv Ve Tt = Sc) (hnS : NoNaN64 Sc) (hD0 : FP.dmul Sc P0 = D0) (hD1 : FP.dmul Sc P1 = D1) (hF0 : Fin64 D0) (hF1 : Fin64 D1) (hB0 : NoNaN64 B0) (hB1 : NoNaN64 B1) (hB2 : NoNaN64 B2) (hr0 : own_el (0 : Int32) y0 y1 B0 D0 D1 = r0) (hr1 : own_el (1 : Int32) y0 y1 B1 D0 D1 = r1) (hr2 : own_el (2 : Int32) y0 y1 B2 D0 D1 = r2) (F22 : Fld Z h0 fi "com/example/spillback/spillback/Fifo" "listed" "[I" (.ref fl)) (F18 : Fld Z h0 fi "com/example/spillback/spillback/Fifo" "legs" "Lcom/example/spillback/spillback/Fifo$Legs;" (.ref le)) (F20 : Fld Z h0 fi "com/example/spillback/spillback/Fifo" "listedCount" "I" (.int 2)) (F30 : Fld Z h0 fi "com/example/spillback/spillback/Fifo" "sliceTotal" "D" (.double Tt)) (F32 : Fld Z h0 fi "com/example/spillback/spillback/Fifo" "sliceVehicles" "D" (.double Ve)) (F4 : Fld Z h0 le "com/example/spillback/spillback/Fifo$Legs" "exits" "[I" (.ref ex)) (F28 : Fld Z h0 le "com/example/spillback/spillback/Fifo$Legs" "pending" "[D" (.ref pe)) (V_fl : Arv Z h0 fl kfl .int 4 [(.int 0), (.int 1)] (.int 0)) (V_ex : Arv Z h0 ex kex .int 2 [(.int y0), (.int y1)] (.int 0)) (V_pe : Arv Z h0 pe kpe .double (2 : Int32) [(.double P0), (.double P1)] (.double 0)) (V_be : Arv Z h0 be kbe .double (3 : Int32) [(.double B0), (.double B1), (.double B2)] (.double 0)) :
    own_Met l Z (⟨"com/example/spillback/spillback/Fifo", "turns", "([D)V"⟩ : MethodName) prog_12_method_5_code 7 none ws ({ frames := 0, cells := 0, slots := 0, locals := 0 } : Room) #[(.ref fi), (.ref be)] h0 (own_Qtu Z be kbe r0 r1 r2 h0 n0) := by
  refine own_met (plainFor_of_name own_pn1) ?_
  intro p e s m below meth c s₁ X0 hx hZ hby hml hown hnm hret hlk e0
  have N0 := Fr.nil n0
  refine own_go (fun t k => castTop (own_eftu m fi be) k) ?_
  have g_be : @LE.le Nat _ n0 be := by omega
  have lt_fi_be : @LT.lt Nat _ fi be := by omega
  have lt_le_be : @LT.lt Nat _ le be := by omega
  have lt_fl_be : @LT.lt Nat _ fl be := by omega
  have lt_ex_be : @LT.lt Nat _ ex be := by omega
  have lt_pe_be : @LT.lt Nat _ pe be := by omega
  have K := Keep.refl h0 [be]
  show own_Go _ _ _ _ s₁ (mkF m 0 #[oR fi, oR be, oU, oU, oU, oU, oU] [])
  refine own_go (fun _ k => XS.aloadN X0.here hx rfl (hb hby own_d10_0) rfl rfl k) ?_
  show own_Go _ _ _ _ s₁ (mkF m 1 #[oR fi, oR be, oU, oU, oU, oU, oU] [(.ref fi)])
  obtain ⟨Tz373, Xz373, ez373, stz373⟩ := getF X0 hx hZ hown (host := "") (Or.inl (hw _ (List.mem_of_getElem? (i := 68) rfl))) Via.refl e0 F30 (g := (mkF m 1 #[oR fi, oR be, oU, oU, oU, oU, oU] [(.ref fi)])) rfl rfl (hb hby own_d10_1)
  refine own_go stz373 ?_
  show own_Go _ _ _ _ Tz373 (mkF m 4 #[oR fi, oR be, oU, oU, oU, oU, oU] [(.double Tt)])
  refine own_go (fun _ k => XS.dconst0 Xz373.here hx rfl (hb hby own_d10_4) own_dc0 k) ?_
  show own_Go _ _ _ _ Tz373 (mkF m 5 #[oR fi, oR be, oU, oU, oU, oU, oU] [(.double 0), (.double Tt)])
  refine own_go (fun _ k => XS.dcmpS Xz373.here hx rfl (hb hby own_d10_5) rfl rfl k) ?_
  show own_Go _ _ _ _ Tz373 (mkF m 6 #[oR fi, oR be, oU, oU, oU, oU, oU] [(.int (cmpValue (FP.dcmp Tt (0 : UInt64)) .l))])
  refine own_go (fun _ k => XS.ifYes Xz373.here hx rfl (pc0 := 6) (pc' := 10) rfl (hb hby own_d10_6) rfl ((if0 _ _).trans (tlt ht).2.2.1) (by decide) (by decide) k) ?_
  show own_Go _ _ _ _ Tz373 (mkF m 10 #[oR fi, oR be, oU, oU, oU, oU, oU] [])
  refine own_go (fun _ k => XS.aloadN Xz373.here hx rfl (hb hby own_d10_10) rfl rfl k) ?_
  show own_Go _ _ _ _ Tz373 (mkF m 11 #[oR fi, oR be, oU, oU, oU, oU, oU] [(.ref fi)])
  obtain ⟨Tz374, Xz374, ez374, stz374⟩ := getF Xz373 hx hZ hown (host := "") (Or.inl (hw _ (List.mem_of_getElem? (i := 70) rfl))) Via.refl ez373 F32 (g := (mkF m 11 #[oR fi, oR be, oU, oU, oU, oU, oU] [(.ref fi)])) rfl rfl (hb hby own_d10_11)
  refine own_go stz374 ?_
  show own_Go _ _ _ _ Tz374 (mkF m 14 #[oR fi, oR be, oU, oU, oU, oU, oU] [(.double Ve)])
  refine own_go (fun _ k => XS.aloadN Xz374.here hx rfl (hb hby own_d10_14) rfl rfl k) ?_
  show own_Go _ _ _ _ Tz374 (mkF m 15 #[oR fi, oR be, oU, oU, oU, oU, oU] [(.ref fi), (.double Ve)])
  obtain ⟨Tz375, Xz375, ez375, stz375⟩ := getF Xz374 hx hZ hown (host := "") (Or.inl (hw _ (List.mem_of_getElem? (i := 68) rfl))) Via.refl ez374 F30 (g := (mkF m 15 #[oR fi, oR be, oU, oU, oU, oU, oU] [(.ref fi), (.double Ve)])) rfl rfl (hb hby own_d10_15)
  refine own_go stz375 ?_
  show own_Go _ _ _ _ Tz375 (mkF m 18 #[oR fi, oR be, oU, oU, oU, oU, oU] [(.double Tt), (.double Ve)])
  refine own_go (fun _ k => XS.ddivS Xz375.here hx rfl (hb hby own_d10_18) rfl (by rw [hsc]; exact hnS) hsc k) ?_
  show own_Go _ _ _ _ Tz375 (mkF m 19 #[oR fi, oR be, oU, oU, oU, oU, oU] [(.double Sc)])
  refine own_go (fun _ k => XS.dstoreN Xz375.here hx rfl (hb hby own_d10_19) rfl (l' := #[oR fi, oR be, oD Sc, oS, oU, oU, oU]) rfl k) ?_
  show own_Go _ _ _ _ Tz375 (mkF m 20 #[oR fi, oR be, oD Sc, oS, oU, oU, oU] [])
  refine own_go (fun _ k => XS.iconst Xz375.here hx rfl (hb hby own_d10_20) k) ?_
  show own_Go _ _ _ _ Tz375 (mkF m 21 #[oR fi, oR be, oD Sc, oS, oU, oU, oU] [(.int 0)])
  refine own_go (fun _ k => XS.istore Xz375.here hx rfl (hb hby own_d10_21) rfl (l' := #[oR fi, oR be, oD Sc, oS, oI 0, oU, oU]) rfl k) ?_
  show own_Go _ _ _ _ Tz375 (mkF m 23 #[oR fi, oR be, oD Sc, oS, oI 0, oU, oU] [])
  have k2 : ∀ (T : State) (hh : Heap) (locs : List Loc) (X : Stand p l e ({ frames := 0, cells := 0, slots := 0, locals := 0 } : Room) s m #[(.ref fi), (.ref be)] below meth c T locs 0 0) (eT : T.heap = hh) (N : Fr n0 locs) (b0 b1 b2 : UInt64) (hb0 : NoNaN64 b0) (hb1 : NoNaN64 b1) (hb2 : NoNaN64 b2) (hq0 : (if y1 = (0 : Int32) then FP.dadd b0 D1 else b0) = r0) (hq1 : (if y1 = (1 : Int32) then FP.dadd b1 D1 else b1) = r1) (hq2 : (if y1 = (2 : Int32) then FP.dadd b2 D1 else b2) = r2) (u6 : Int32) (K : Keep h0 hh [be]) (F22 : Fld Z hh fi "com/example/spillback/spillback/Fifo" "listed" "[I" (.ref fl)) (F18 : Fld Z hh fi "com/example/spillback/spillback/Fifo" "legs" "Lcom/example/spillback/spillback/Fifo$Legs;" (.ref le)) (F20 : Fld Z hh fi "com/example/spillback/spillback/Fifo" "listedCount" "I" (.int 2)) (F30 : Fld Z hh fi "com/example/spillback/spillback/Fifo" "sliceTotal" "D" (.double Tt)) (F32 : Fld Z hh fi "com/example/spillback/spillback/Fifo" "sliceVehicles" "D" (.double Ve)) (F4 : Fld Z hh le "com/example/spillback/spillback/Fifo$Legs" "exits" "[I" (.ref ex)) (F28 : Fld Z hh le "com/example/spillback/spillback/Fifo$Legs" "pending" "[D" (.ref pe)) (V_fl : Arv Z hh fl kfl .int 4 [(.int 0), (.int 1)] (.int 0)) (V_ex : Arv Z hh ex kex .int 2 [(.int y0), (.int y1)] (.int 0)) (V_pe : Arv Z hh pe kpe .double (2 : Int32) [(.double P0), (.double P1)] (.double 0)) (V_be : Arv Z hh be kbe .double (3 : Int32) [(.double b0), (.double b1), (.double b2)] (.double 0)), own_Go p e below (own_Fin s (own_Qtu Z be kbe r0 r1 r2 h0 n0) ({ frames := 0, cells := 0, slots := 0, locals := 0 } : Room).cells ({ frames := 0, cells := 0, slots := 0, locals := 0 } : Room).slots) T (mkF m 23 #[oR fi, oR be, oD Sc, oS, oI 1, oI 0, oI u6] []) := by
    intro T hh locs X eT N b0 b1 b2 hb0 hb1 hb2 hq0 hq1 hq2 u6 K F22 F18 F20 F30 F32 F4 F28 V_fl V_ex V_pe V_be
    show own_Go _ _ _ _ T (mkF m 23 #[oR fi, oR be, oD Sc, oS, oI 1, oI 0, oI u6] [])
    refine own_go (fun _ k => XS.iload X.here hx rfl (hb hby own_d10_23) rfl k) ?_
    show own_Go _ _ _ _ T (mkF m 25 #[oR fi, oR be, oD Sc, oS, oI 1, oI 0, oI u6] [(.int 1)])
    refine own_go (fun _ k => XS.aloadN X.here hx rfl (hb hby own_d10_25) rfl rfl k) ?_
    show own_Go _ _ _ _ T (mkF m 26 #[oR fi, oR be, oD Sc, oS, oI 1, oI 0, oI u6] [(.ref fi), (.int 1)])
    obtain ⟨Tz376, Xz376, ez376, stz376⟩ := getF X hx hZ hown (host := "") (Or.inl (hw _ (List.mem_of_getElem? (i := 72) rfl))) Via.refl eT F20 (g := (mkF m 26 #[oR fi, oR be, oD Sc, oS, oI 1, oI 0, oI u6] [(.ref fi), (.int 1)])) rfl rfl (hb hby own_d10_26)
    refine own_go stz376 ?_
    show own_Go _ _ _ _ Tz376 (mkF m 29 #[oR fi, oR be, oD Sc, oS, oI 1, oI 0, oI u6] [(.int 2), (.int 1)])
    refine own_go (fun _ k => XS.icmpNo Xz376.here hx rfl (hb hby own_d10_29) rfl (tlt (by decide : (1 : Int32) < (2 : Int32))).2.1 k) ?_
    show own_Go _ _ _ _ Tz376 (mkF m 32 #[oR fi, oR be, oD Sc, oS, oI 1, oI 0, oI u6] [])
    refine own_go (fun _ k => XS.aloadN Xz376.here hx rfl (hb hby own_d10_32) rfl rfl k) ?_
    show own_Go _ _ _ _ Tz376 (mkF m 33 #[oR fi, oR be, oD Sc, oS, oI 1, oI 0, oI u6] [(.ref fi)])
    obtain ⟨Tz377, Xz377, ez377, stz377⟩ := getF Xz376 hx hZ hown (host := "") (Or.inl (hw _ (List.mem_of_getElem? (i := 29) rfl))) Via.refl ez376 F22 (g := (mkF m 33 #[oR fi, oR be, oD Sc, oS, oI 1, oI 0, oI u6] [(.ref fi)])) rfl rfl (hb hby own_d10_33)
    refine own_go stz377 ?_
    show own_Go _ _ _ _ Tz377 (mkF m 36 #[oR fi, oR be, oD Sc, oS, oI 1, oI 0, oI u6] [(.ref fl)])
    refine own_go (fun _ k => XS.iload Xz377.here hx rfl (hb hby own_d10_36) rfl k) ?_
    show own_Go _ _ _ _ Tz377 (mkF m 38 #[oR fi, oR be, oD Sc, oS, oI 1, oI 0, oI u6] [(.int 1), (.ref fl)])
    obtain ⟨clz378, Arz378, qz378, Sz378, Mz378, HHz378, Gz378⟩ := id V_fl
    have hinz378 : ¬ ((1 : Int32) < 0 ∨ clz378.slots.size ≤ ((1 : Int32)).toNatClampNeg) := inb_of Sz378 ⟨(by decide), (by decide)⟩
    have hatz378 : clz378.slots[((1 : Int32)).toNatClampNeg]? = some (.int 1) := HHz378.at hinz378 (rfl)
    refine own_go (fun _ k => Xz377.iaload hx (j := (1 : Int32)) (v := (.int 1)) (by rw [ez377]; exact Arz378.1) (State.isArrayOf_alike hZ.alike Arz378.2.1) Arz378.2.2 hinz378 hatz378 (g := (mkF m 38 #[oR fi, oR be, oD Sc, oS, oI 1, oI 0, oI u6] [(.int 1), (.ref fl)])) rfl rfl (hb hby own_d10_38) _ k) ?_
    show own_Go _ _ _ _ Tz377 (mkF m 39 #[oR fi, oR be, oD Sc, oS, oI 1, oI 0, oI u6] [(.int 1)])
    refine own_go (fun _ k => XS.istore Xz377.here hx rfl (hb hby own_d10_39) rfl (l' := #[oR fi, oR be, oD Sc, oS, oI 1, oI 1, oI u6]) rfl k) ?_
    show own_Go _ _ _ _ Tz377 (mkF m 41 #[oR fi, oR be, oD Sc, oS, oI 1, oI 1, oI u6] [])
    refine own_go (fun _ k => XS.aloadN Xz377.here hx rfl (hb hby own_d10_41) rfl rfl k) ?_
    show own_Go _ _ _ _ Tz377 (mkF m 42 #[oR fi, oR be, oD Sc, oS, oI 1, oI 1, oI u6] [(.ref fi)])
    obtain ⟨Tz379, Xz379, ez379, stz379⟩ := getF Xz377 hx hZ hown (host := "") (Or.inl (hw _ (List.mem_of_getElem? (i := 39) rfl))) Via.refl ez377 F18 (g := (mkF m 42 #[oR fi, oR be, oD Sc, oS, oI 1, oI 1, oI u6] [(.ref fi)])) rfl rfl (hb hby own_d10_42)
    refine own_go stz379 ?_
    show own_Go _ _ _ _ Tz379 (mkF m 45 #[oR fi, oR be, oD Sc, oS, oI 1, oI 1, oI u6] [(.ref le)])
    refine own_go (fun _ k => own_getR Xz379 hx hZ hown (hw _ (List.mem_of_getElem? (i := 96) rfl)) ez379 F4 (g := (mkF m 45 #[oR fi, oR be, oD Sc, oS, oI 1, oI 1, oI u6] [(.ref le)])) rfl rfl (hb hby own_d10_45) _ k) ?_
    show own_Go _ _ _ _ Tz379 (mkF m 48 #[oR fi, oR be, oD Sc, oS, oI 1, oI 1, oI u6] [(.ref ex)])
    refine own_go (fun _ k => XS.iload Xz379.here hx rfl (hb hby own_d10_48) rfl k) ?_
    show own_Go _ _ _ _ Tz379 (mkF m 50 #[oR fi, oR be, oD Sc, oS, oI 1, oI 1, oI u6] [(.int 1), (.ref ex)])
    obtain ⟨clz381, Arz381, qz381, Sz381, Mz381, HHz381, Gz381⟩ := id V_ex
    have hinz381 : ¬ ((1 : Int32) < 0 ∨ clz381.slots.size ≤ ((1 : Int32)).toNatClampNeg) := inb_of Sz381 ⟨(by decide), (by decide)⟩
    have hatz381 : clz381.slots[((1 : Int32)).toNatClampNeg]? = some (.int y1) := HHz381.at hinz381 (rfl)
    refine own_go (fun _ k => Xz379.iaload hx (j := (1 : Int32)) (v := (.int y1)) (by rw [ez379]; exact Arz381.1) (State.isArrayOf_alike hZ.alike Arz381.2.1) Arz381.2.2 hinz381 hatz381 (g := (mkF m 50 #[oR fi, oR be, oD Sc, oS, oI 1, oI 1, oI u6] [(.int 1), (.ref ex)])) rfl rfl (hb hby own_d10_50) _ k) ?_
    show own_Go _ _ _ _ Tz379 (mkF m 51 #[oR fi, oR be, oD Sc, oS, oI 1, oI 1, oI u6] [(.int y1)])
    refine own_go (fun _ k => XS.istore Xz379.here hx rfl (hb hby own_d10_51) rfl (l' := #[oR fi, oR be, oD Sc, oS, oI 1, oI 1, oI y1]) rfl k) ?_
    show own_Go _ _ _ _ Tz379 (mkF m 53 #[oR fi, oR be, oD Sc, oS, oI 1, oI 1, oI y1] [])
    refine own_go (fun _ k => XS.iload Xz379.here hx rfl (hb hby own_d10_53) rfl k) ?_
    show own_Go _ _ _ _ Tz379 (mkF m 55 #[oR fi, oR be, oD Sc, oS, oI 1, oI 1, oI y1] [(.int y1)])
    refine own_go (fun _ k => XS.iconst Xz379.here hx rfl (hb hby own_d10_55) k) ?_
    show own_Go _ _ _ _ Tz379 (mkF m 56 #[oR fi, oR be, oD Sc, oS, oI 1, oI 1, oI y1] [(.int (-1 : Int32)), (.int y1)])
    rcases he1 with he | he | he | he
    · subst he
      show own_Go _ _ _ _ Tz379 (mkF m 56 #[oR fi, oR be, oD Sc, oS, oI 1, oI 1, oI (-1 : Int32)] [(.int (-1 : Int32)), (.int (-1 : Int32))])
      refine own_go (fun _ k => XS.icmpYes Xz379.here hx rfl (pc0 := 56) (pc' := 78) rfl (hb hby own_d10_56) rfl (teq (by decide : (-1 : Int32) = (-1 : Int32))).1 (by decide) (by decide) k) ?_
      show own_Go _ _ _ _ Tz379 (mkF m 78 #[oR fi, oR be, oD Sc, oS, oI 1, oI 1, oI (-1 : Int32)] [])
      refine own_go (fun _ k => XS.iinc Xz379.here hx rfl (hb hby own_d10_78) rfl (l' := #[oR fi, oR be, oD Sc, oS, oI ((1 : Int32) + (1 : Int32)), oI 1, oI (-1 : Int32)]) rfl k) ?_
      show own_Go _ _ _ _ Tz379 (mkF m 81 #[oR fi, oR be, oD Sc, oS, oI ((1 : Int32) + (1 : Int32)), oI 1, oI (-1 : Int32)] [])
      refine own_go (fun _ k => XS.goto Xz379.here hx rfl (pc0 := 81) (pc' := 23) rfl (hb hby own_d10_81) (by decide) (by decide) k) ?_
      show own_Go _ _ _ _ Tz379 (mkF m 23 #[oR fi, oR be, oD Sc, oS, oI ((1 : Int32) + (1 : Int32)), oI 1, oI (-1 : Int32)] [])
      show own_Go _ _ _ _ Tz379 (mkF m 23 #[oR fi, oR be, oD Sc, oS, oI 2, oI 1, oI (-1 : Int32)] [])
      rw [if_neg (by decide : ¬ ((-1 : Int32) = (0 : Int32)))] at hq0
      rw [if_neg (by decide : ¬ ((-1 : Int32) = (1 : Int32)))] at hq1
      rw [if_neg (by decide : ¬ ((-1 : Int32) = (2 : Int32)))] at hq2
      refine own_go (fun _ k => XS.iload Xz379.here hx rfl (hb hby own_d10_23) rfl k) ?_
      show own_Go _ _ _ _ Tz379 (mkF m 25 #[oR fi, oR be, oD Sc, oS, oI 2, oI 1, oI (-1 : Int32)] [(.int 2)])
      refine own_go (fun _ k => XS.aloadN Xz379.here hx rfl (hb hby own_d10_25) rfl rfl k) ?_
      show own_Go _ _ _ _ Tz379 (mkF m 26 #[oR fi, oR be, oD Sc, oS, oI 2, oI 1, oI (-1 : Int32)] [(.ref fi), (.int 2)])
      obtain ⟨Tz382, Xz382, ez382, stz382⟩ := getF Xz379 hx hZ hown (host := "") (Or.inl (hw _ (List.mem_of_getElem? (i := 72) rfl))) Via.refl ez379 F20 (g := (mkF m 26 #[oR fi, oR be, oD Sc, oS, oI 2, oI 1, oI (-1 : Int32)] [(.ref fi), (.int 2)])) rfl rfl (hb hby own_d10_26)
      refine own_go stz382 ?_
      show own_Go _ _ _ _ Tz382 (mkF m 29 #[oR fi, oR be, oD Sc, oS, oI 2, oI 1, oI (-1 : Int32)] [(.int 2), (.int 2)])
      refine own_go (fun _ k => XS.icmpYes Xz382.here hx rfl (pc0 := 29) (pc' := 84) rfl (hb hby own_d10_29) rfl (flt (by decide : ¬ ((2 : Int32) < (2 : Int32)))).2.1 (by decide) (by decide) k) ?_
      show own_Go _ _ _ _ Tz382 (mkF m 84 #[oR fi, oR be, oD Sc, oS, oI 2, oI 1, oI (-1 : Int32)] [])
      exact own_end Xz382 hlk (v := none) (fun _ => rfl) (fun fs hr => Xz382.returnOut hx hret (hb hby own_d10_84) hr) (by rw [ez382]; exact ⟨rfl, N, K, by rw [← hq0, ← hq1, ← hq2]; exact V_be⟩) (by decide) (by decide)
    · subst he
      show own_Go _ _ _ _ Tz379 (mkF m 56 #[oR fi, oR be, oD Sc, oS, oI 1, oI 1, oI 0] [(.int (-1 : Int32)), (.int 0)])
      refine own_go (fun _ k => XS.icmpNo Xz379.here hx rfl (hb hby own_d10_56) rfl (feq (by decide : ¬ ((0 : Int32) = (-1 : Int32)))).1 k) ?_
      show own_Go _ _ _ _ Tz379 (mkF m 59 #[oR fi, oR be, oD Sc, oS, oI 1, oI 1, oI 0] [])
      refine own_go (fun _ k => XS.aloadN Xz379.here hx rfl (hb hby own_d10_59) rfl rfl k) ?_
      show own_Go _ _ _ _ Tz379 (mkF m 60 #[oR fi, oR be, oD Sc, oS, oI 1, oI 1, oI 0] [(.ref be)])
      refine own_go (fun _ k => XS.iload Xz379.here hx rfl (hb hby own_d10_60) rfl k) ?_
      show own_Go _ _ _ _ Tz379 (mkF m 62 #[oR fi, oR be, oD Sc, oS, oI 1, oI 1, oI 0] [(.int 0), (.ref be)])
      refine own_go (fun _ k => own_dup2 Xz379.here hx rfl (hb hby own_d10_62) rfl k) ?_
      show own_Go _ _ _ _ Tz379 (mkF m 63 #[oR fi, oR be, oD Sc, oS, oI 1, oI 1, oI 0] [(.int 0), (.ref be), (.int 0), (.ref be)])
      obtain ⟨clz383, Arz383, qz383, Sz383, Mz383, HHz383, Gz383⟩ := id V_be
      have hinz383 : ¬ ((0 : Int32) < 0 ∨ clz383.slots.size ≤ ((0 : Int32)).toNatClampNeg) := inb_of Sz383 ⟨(by decide), (by decide)⟩
      have hatz383 : clz383.slots[((0 : Int32)).toNatClampNeg]? = some (.double b0) := HHz383.at hinz383 (rfl)
      refine own_go (fun _ k => Xz379.daload hx (j := (0 : Int32)) (v := (.double b0)) (by rw [ez379]; exact Arz383.1) (State.isArrayOf_alike hZ.alike Arz383.2.1) Arz383.2.2 hinz383 hatz383 (g := (mkF m 63 #[oR fi, oR be, oD Sc, oS, oI 1, oI 1, oI 0] [(.int 0), (.ref be), (.int 0), (.ref be)])) rfl rfl (hb hby own_d10_63) _ k) ?_
      show own_Go _ _ _ _ Tz379 (mkF m 64 #[oR fi, oR be, oD Sc, oS, oI 1, oI 1, oI 0] [(.double b0), (.int 0), (.ref be)])
      refine own_go (fun _ k => XS.dloadN Xz379.here hx rfl (hb hby own_d10_64) rfl k) ?_
      show own_Go _ _ _ _ Tz379 (mkF m 65 #[oR fi, oR be, oD Sc, oS, oI 1, oI 1, oI 0] [(.double Sc), (.double b0), (.int 0), (.ref be)])
      refine own_go (fun _ k => XS.aloadN Xz379.here hx rfl (hb hby own_d10_65) rfl rfl k) ?_
      show own_Go _ _ _ _ Tz379 (mkF m 66 #[oR fi, oR be, oD Sc, oS, oI 1, oI 1, oI 0] [(.ref fi), (.double Sc), (.double b0), (.int 0), (.ref be)])
      obtain ⟨Tz384, Xz384, ez384, stz384⟩ := getF Xz379 hx hZ hown (host := "") (Or.inl (hw _ (List.mem_of_getElem? (i := 39) rfl))) Via.refl ez379 F18 (g := (mkF m 66 #[oR fi, oR be, oD Sc, oS, oI 1, oI 1, oI 0] [(.ref fi), (.double Sc), (.double b0), (.int 0), (.ref be)])) rfl rfl (hb hby own_d10_66)
      refine own_go stz384 ?_
      show own_Go _ _ _ _ Tz384 (mkF m 69 #[oR fi, oR be, oD Sc, oS, oI 1, oI 1, oI 0] [(.ref le), (.double Sc), (.double b0), (.int 0), (.ref be)])
      refine own_go (fun _ k => own_getR Xz384 hx hZ hown (hw _ (List.mem_of_getElem? (i := 85) rfl)) ez384 F28 (g := (mkF m 69 #[oR fi, oR be, oD Sc, oS, oI 1, oI 1, oI 0] [(.ref le), (.double Sc), (.double b0), (.int 0), (.ref be)])) rfl rfl (hb hby own_d10_69) _ k) ?_
      show own_Go _ _ _ _ Tz384 (mkF m 72 #[oR fi, oR be, oD Sc, oS, oI 1, oI 1, oI 0] [(.ref pe), (.double Sc), (.double b0), (.int 0), (.ref be)])
      refine own_go (fun _ k => XS.iload Xz384.here hx rfl (hb hby own_d10_72) rfl k) ?_
      show own_Go _ _ _ _ Tz384 (mkF m 74 #[oR fi, oR be, oD Sc, oS, oI 1, oI 1, oI 0] [(.int 1), (.ref pe), (.double Sc), (.double b0), (.int 0), (.ref be)])
      obtain ⟨clz386, Arz386, qz386, Sz386, Mz386, HHz386, Gz386⟩ := id V_pe
      have hinz386 : ¬ ((1 : Int32) < 0 ∨ clz386.slots.size ≤ ((1 : Int32)).toNatClampNeg) := inb_of Sz386 ⟨(by decide), (by decide)⟩
      have hatz386 : clz386.slots[((1 : Int32)).toNatClampNeg]? = some (.double P1) := HHz386.at hinz386 (rfl)
      refine own_go (fun _ k => Xz384.daload hx (j := (1 : Int32)) (v := (.double P1)) (by rw [ez384]; exact Arz386.1) (State.isArrayOf_alike hZ.alike Arz386.2.1) Arz386.2.2 hinz386 hatz386 (g := (mkF m 74 #[oR fi, oR be, oD Sc, oS, oI 1, oI 1, oI 0] [(.int 1), (.ref pe), (.double Sc), (.double b0), (.int 0), (.ref be)])) rfl rfl (hb hby own_d10_74) _ k) ?_
      show own_Go _ _ _ _ Tz384 (mkF m 75 #[oR fi, oR be, oD Sc, oS, oI 1, oI 1, oI 0] [(.double P1), (.double Sc), (.double b0), (.int 0), (.ref be)])
      refine own_go (fun _ k => XS.dmulS Xz384.here hx rfl (hb hby own_d10_75) rfl (by rw [hD1]; exact hF1.noNaN) hD1 k) ?_
      show own_Go _ _ _ _ Tz384 (mkF m 76 #[oR fi, oR be, oD Sc, oS, oI 1, oI 1, oI 0] [(.double D1), (.double b0), (.int 0), (.ref be)])
      refine own_go (fun _ k => XS.daddS Xz384.here hx rfl (hb hby own_d10_76) rfl (dadd_out hb0 hF1) rfl k) ?_
      show own_Go _ _ _ _ Tz384 (mkF m 77 #[oR fi, oR be, oD Sc, oS, oI 1, oI 1, oI 0] [(.double (FP.dadd b0 D1)), (.int 0), (.ref be)])
      obtain ⟨clz387, Arz387, qz387, Sz387, Mz387, HHz387, Gz387⟩ := V_be
      have hinz387 : ¬ ((0 : Int32) < 0 ∨ clz387.slots.size ≤ ((0 : Int32)).toNatClampNeg) := inb_of Sz387 ⟨(by decide), (by decide)⟩
      obtain ⟨Tz387, hz387, Xz387, ez387, Wz387, stz387⟩ := stD Xz384 hx hZ ez384 Arz387 (j := (0 : Int32)) hinz387 (g := (mkF m 77 #[oR fi, oR be, oD Sc, oS, oI 1, oI 1, oI 0] [(.double (FP.dadd b0 D1)), (.int 0), (.ref be)])) rfl rfl (hb hby own_d10_77)
      refine own_go stz387 ?_
      have V_be_ : Arv Z hz387 be kbe .double (3 : Int32) [(.double (FP.dadd b0 D1)), (.double b1), (.double b2)] (.double 0) := Arv.set Arz387 qz387 Sz387 Mz387 HHz387 Gz387 rfl Wz387 0 rfl (Nat.le_of_ble_eq_true rfl)
      have Nz387 := Fr.snoc Xz387 N g_be
      have F22 := F22.other Wz387 (own_o1 lt_fi_be)
      have F18 := F18.other Wz387 (own_o1 lt_fi_be)
      have F20 := F20.other Wz387 (own_o1 lt_fi_be)
      have F30 := F30.other Wz387 (own_o1 lt_fi_be)
      have F32 := F32.other Wz387 (own_o1 lt_fi_be)
      have F4 := F4.other Wz387 (own_o1 lt_le_be)
      have F28 := F28.other Wz387 (own_o1 lt_le_be)
      have V_fl := V_fl.other Wz387 (Nat.ne_of_lt lt_fl_be)
      have V_ex := V_ex.other Wz387 (Nat.ne_of_lt lt_ex_be)
      have V_pe := V_pe.other Wz387 (Nat.ne_of_lt lt_pe_be)
      have K := K.wr Wz387 (Or.inl (List.mem_of_getElem? (i := 0) rfl))
      have V_be := V_be_
      show own_Go _ _ _ _ Tz387 (mkF m 78 #[oR fi, oR be, oD Sc, oS, oI 1, oI 1, oI 0] [])
      refine own_go (fun _ k => XS.iinc Xz387.here hx rfl (hb hby own_d10_78) rfl (l' := #[oR fi, oR be, oD Sc, oS, oI ((1 : Int32) + (1 : Int32)), oI 1, oI 0]) rfl k) ?_
      show own_Go _ _ _ _ Tz387 (mkF m 81 #[oR fi, oR be, oD Sc, oS, oI ((1 : Int32) + (1 : Int32)), oI 1, oI 0] [])
      refine own_go (fun _ k => XS.goto Xz387.here hx rfl (pc0 := 81) (pc' := 23) rfl (hb hby own_d10_81) (by decide) (by decide) k) ?_
      show own_Go _ _ _ _ Tz387 (mkF m 23 #[oR fi, oR be, oD Sc, oS, oI ((1 : Int32) + (1 : Int32)), oI 1, oI 0] [])
      show own_Go _ _ _ _ Tz387 (mkF m 23 #[oR fi, oR be, oD Sc, oS, oI 2, oI 1, oI 0] [])
      rw [if_pos (rfl : (0 : Int32) = (0 : Int32))] at hq0
      rw [if_neg (by decide : ¬ ((0 : Int32) = (1 : Int32)))] at hq1
      rw [if_neg (by decide : ¬ ((0 : Int32) = (2 : Int32)))] at hq2
      refine own_go (fun _ k => XS.iload Xz387.here hx rfl (hb hby own_d10_23) rfl k) ?_
      show own_Go _ _ _ _ Tz387 (mkF m 25 #[oR fi, oR be, oD Sc, oS, oI 2, oI 1, oI 0] [(.int 2)])
      refine own_go (fun _ k => XS.aloadN Xz387.here hx rfl (hb hby own_d10_25) rfl rfl k) ?_
      show own_Go _ _ _ _ Tz387 (mkF m 26 #[oR fi, oR be, oD Sc, oS, oI 2, oI 1, oI 0] [(.ref fi), (.int 2)])
      obtain ⟨Tz388, Xz388, ez388, stz388⟩ := getF Xz387 hx hZ hown (host := "") (Or.inl (hw _ (List.mem_of_getElem? (i := 72) rfl))) Via.refl ez387 F20 (g := (mkF m 26 #[oR fi, oR be, oD Sc, oS, oI 2, oI 1, oI 0] [(.ref fi), (.int 2)])) rfl rfl (hb hby own_d10_26)
      refine own_go stz388 ?_
      show own_Go _ _ _ _ Tz388 (mkF m 29 #[oR fi, oR be, oD Sc, oS, oI 2, oI 1, oI 0] [(.int 2), (.int 2)])
      refine own_go (fun _ k => XS.icmpYes Xz388.here hx rfl (pc0 := 29) (pc' := 84) rfl (hb hby own_d10_29) rfl (flt (by decide : ¬ ((2 : Int32) < (2 : Int32)))).2.1 (by decide) (by decide) k) ?_
      show own_Go _ _ _ _ Tz388 (mkF m 84 #[oR fi, oR be, oD Sc, oS, oI 2, oI 1, oI 0] [])
      exact own_end Xz388 hlk (v := none) (fun _ => rfl) (fun fs hr => Xz388.returnOut hx hret (hb hby own_d10_84) hr) (by rw [ez388]; exact ⟨rfl, Nz387, K, by rw [← hq0, ← hq1, ← hq2]; exact V_be⟩) (by decide) (by decide)
    · subst he
      show own_Go _ _ _ _ Tz379 (mkF m 56 #[oR fi, oR be, oD Sc, oS, oI 1, oI 1, oI 1] [(.int (-1 : Int32)), (.int 1)])
      refine own_go (fun _ k => XS.icmpNo Xz379.here hx rfl (hb hby own_d10_56) rfl (feq (by decide : ¬ ((1 : Int32) = (-1 : Int32)))).1 k) ?_
      show own_Go _ _ _ _ Tz379 (mkF m 59 #[oR fi, oR be, oD Sc, oS, oI 1, oI 1, oI 1] [])
      refine own_go (fun _ k => XS.aloadN Xz379.here hx rfl (hb hby own_d10_59) rfl rfl k) ?_
      show own_Go _ _ _ _ Tz379 (mkF m 60 #[oR fi, oR be, oD Sc, oS, oI 1, oI 1, oI 1] [(.ref be)])
      refine own_go (fun _ k => XS.iload Xz379.here hx rfl (hb hby own_d10_60) rfl k) ?_
      show own_Go _ _ _ _ Tz379 (mkF m 62 #[oR fi, oR be, oD Sc, oS, oI 1, oI 1, oI 1] [(.int 1), (.ref be)])
      refine own_go (fun _ k => own_dup2 Xz379.here hx rfl (hb hby own_d10_62) rfl k) ?_
      show own_Go _ _ _ _ Tz379 (mkF m 63 #[oR fi, oR be, oD Sc, oS, oI 1, oI 1, oI 1] [(.int 1), (.ref be), (.int 1), (.ref be)])
      obtain ⟨clz389, Arz389, qz389, Sz389, Mz389, HHz389, Gz389⟩ := id V_be
      have hinz389 : ¬ ((1 : Int32) < 0 ∨ clz389.slots.size ≤ ((1 : Int32)).toNatClampNeg) := inb_of Sz389 ⟨(by decide), (by decide)⟩
      have hatz389 : clz389.slots[((1 : Int32)).toNatClampNeg]? = some (.double b1) := HHz389.at hinz389 (rfl)
      refine own_go (fun _ k => Xz379.daload hx (j := (1 : Int32)) (v := (.double b1)) (by rw [ez379]; exact Arz389.1) (State.isArrayOf_alike hZ.alike Arz389.2.1) Arz389.2.2 hinz389 hatz389 (g := (mkF m 63 #[oR fi, oR be, oD Sc, oS, oI 1, oI 1, oI 1] [(.int 1), (.ref be), (.int 1), (.ref be)])) rfl rfl (hb hby own_d10_63) _ k) ?_
      show own_Go _ _ _ _ Tz379 (mkF m 64 #[oR fi, oR be, oD Sc, oS, oI 1, oI 1, oI 1] [(.double b1), (.int 1), (.ref be)])
      refine own_go (fun _ k => XS.dloadN Xz379.here hx rfl (hb hby own_d10_64) rfl k) ?_
      show own_Go _ _ _ _ Tz379 (mkF m 65 #[oR fi, oR be, oD Sc, oS, oI 1, oI 1, oI 1] [(.double Sc), (.double b1), (.int 1), (.ref be)])
      refine own_go (fun _ k => XS.aloadN Xz379.here hx rfl (hb hby own_d10_65) rfl rfl k) ?_
      show own_Go _ _ _ _ Tz379 (mkF m 66 #[oR fi, oR be, oD Sc, oS, oI 1, oI 1, oI 1] [(.ref fi), (.double Sc), (.double b1), (.int 1), (.ref be)])
      obtain ⟨Tz390, Xz390, ez390, stz390⟩ := getF Xz379 hx hZ hown (host := "") (Or.inl (hw _ (List.mem_of_getElem? (i := 39) rfl))) Via.refl ez379 F18 (g := (mkF m 66 #[oR fi, oR be, oD Sc, oS, oI 1, oI 1, oI 1] [(.ref fi), (.double Sc), (.double b1), (.int 1), (.ref be)])) rfl rfl (hb hby own_d10_66)
      refine own_go stz390 ?_
      show own_Go _ _ _ _ Tz390 (mkF m 69 #[oR fi, oR be, oD Sc, oS, oI 1, oI 1, oI 1] [(.ref le), (.double Sc), (.double b1), (.int 1), (.ref be)])
      refine own_go (fun _ k => own_getR Xz390 hx hZ hown (hw _ (List.mem_of_getElem? (i := 85) rfl)) ez390 F28 (g := (mkF m 69 #[oR fi, oR be, oD Sc, oS, oI 1, oI 1, oI 1] [(.ref le), (.double Sc), (.double b1), (.int 1), (.ref be)])) rfl rfl (hb hby own_d10_69) _ k) ?_
      show own_Go _ _ _ _ Tz390 (mkF m 72 #[oR fi, oR be, oD Sc, oS, oI 1, oI 1, oI 1] [(.ref pe), (.double Sc), (.double b1), (.int 1), (.ref be)])
      refine own_go (fun _ k => XS.iload Xz390.here hx rfl (hb hby own_d10_72) rfl k) ?_
      show own_Go _ _ _ _ Tz390 (mkF m 74 #[oR fi, oR be, oD Sc, oS, oI 1, oI 1, oI 1] [(.int 1), (.ref pe), (.double Sc), (.double b1), (.int 1), (.ref be)])
      obtain ⟨clz392, Arz392, qz392, Sz392, Mz392, HHz392, Gz392⟩ := id V_pe
      have hinz392 : ¬ ((1 : Int32) < 0 ∨ clz392.slots.size ≤ ((1 : Int32)).toNatClampNeg) := inb_of Sz392 ⟨(by decide), (by decide)⟩
      have hatz392 : clz392.slots[((1 : Int32)).toNatClampNeg]? = some (.double P1) := HHz392.at hinz392 (rfl)
      refine own_go (fun _ k => Xz390.daload hx (j := (1 : Int32)) (v := (.double P1)) (by rw [ez390]; exact Arz392.1) (State.isArrayOf_alike hZ.alike Arz392.2.1) Arz392.2.2 hinz392 hatz392 (g := (mkF m 74 #[oR fi, oR be, oD Sc, oS, oI 1, oI 1, oI 1] [(.int 1), (.ref pe), (.double Sc), (.double b1), (.int 1), (.ref be)])) rfl rfl (hb hby own_d10_74) _ k) ?_
      show own_Go _ _ _ _ Tz390 (mkF m 75 #[oR fi, oR be, oD Sc, oS, oI 1, oI 1, oI 1] [(.double P1), (.double Sc), (.double b1), (.int 1), (.ref be)])
      refine own_go (fun _ k => XS.dmulS Xz390.here hx rfl (hb hby own_d10_75) rfl (by rw [hD1]; exact hF1.noNaN) hD1 k) ?_
      show own_Go _ _ _ _ Tz390 (mkF m 76 #[oR fi, oR be, oD Sc, oS, oI 1, oI 1, oI 1] [(.double D1), (.double b1), (.int 1), (.ref be)])
      refine own_go (fun _ k => XS.daddS Xz390.here hx rfl (hb hby own_d10_76) rfl (dadd_out hb1 hF1) rfl k) ?_
      show own_Go _ _ _ _ Tz390 (mkF m 77 #[oR fi, oR be, oD Sc, oS, oI 1, oI 1, oI 1] [(.double (FP.dadd b1 D1)), (.int 1), (.ref be)])
      obtain ⟨clz393, Arz393, qz393, Sz393, Mz393, HHz393, Gz393⟩ := V_be
      have hinz393 : ¬ ((1 : Int32) < 0 ∨ clz393.slots.size ≤ ((1 : Int32)).toNatClampNeg) := inb_of Sz393 ⟨(by decide), (by decide)⟩
      obtain ⟨Tz393, hz393, Xz393, ez393, Wz393, stz393⟩ := stD Xz390 hx hZ ez390 Arz393 (j := (1 : Int32)) hinz393 (g := (mkF m 77 #[oR fi, oR be, oD Sc, oS, oI 1, oI 1, oI 1] [(.double (FP.dadd b1 D1)), (.int 1), (.ref be)])) rfl rfl (hb hby own_d10_77)
      refine own_go stz393 ?_
      have V_be_ : Arv Z hz393 be kbe .double (3 : Int32) [(.double b0), (.double (FP.dadd b1 D1)), (.double b2)] (.double 0) := Arv.set Arz393 qz393 Sz393 Mz393 HHz393 Gz393 rfl Wz393 1 rfl (Nat.le_of_ble_eq_true rfl)
      have Nz393 := Fr.snoc Xz393 N g_be
      have F22 := F22.other Wz393 (own_o1 lt_fi_be)
      have F18 := F18.other Wz393 (own_o1 lt_fi_be)
      have F20 := F20.other Wz393 (own_o1 lt_fi_be)
      have F30 := F30.other Wz393 (own_o1 lt_fi_be)
      have F32 := F32.other Wz393 (own_o1 lt_fi_be)
      have F4 := F4.other Wz393 (own_o1 lt_le_be)
      have F28 := F28.other Wz393 (own_o1 lt_le_be)
      have V_fl := V_fl.other Wz393 (Nat.ne_of_lt lt_fl_be)
      have V_ex := V_ex.other Wz393 (Nat.ne_of_lt lt_ex_be)
      have V_pe := V_pe.other Wz393 (Nat.ne_of_lt lt_pe_be)
      have K := K.wr Wz393 (Or.inl (List.mem_of_getElem? (i := 0) rfl))
      have V_be := V_be_
      show own_Go _ _ _ _ Tz393 (mkF m 78 #[oR fi, oR be, oD Sc, oS, oI 1, oI 1, oI 1] [])
      refine own_go (fun _ k => XS.iinc Xz393.here hx rfl (hb hby own_d10_78) rfl (l' := #[oR fi, oR be, oD Sc, oS, oI ((1 : Int32) + (1 : Int32)), oI 1, oI 1]) rfl k) ?_
      show own_Go _ _ _ _ Tz393 (mkF m 81 #[oR fi, oR be, oD Sc, oS, oI ((1 : Int32) + (1 : Int32)), oI 1, oI 1] [])
      refine own_go (fun _ k => XS.goto Xz393.here hx rfl (pc0 := 81) (pc' := 23) rfl (hb hby own_d10_81) (by decide) (by decide) k) ?_
      show own_Go _ _ _ _ Tz393 (mkF m 23 #[oR fi, oR be, oD Sc, oS, oI ((1 : Int32) + (1 : Int32)), oI 1, oI 1] [])
      show own_Go _ _ _ _ Tz393 (mkF m 23 #[oR fi, oR be, oD Sc, oS, oI 2, oI 1, oI 1] [])
      rw [if_neg (by decide : ¬ ((1 : Int32) = (0 : Int32)))] at hq0
      rw [if_pos (rfl : (1 : Int32) = (1 : Int32))] at hq1
      rw [if_neg (by decide : ¬ ((1 : Int32) = (2 : Int32)))] at hq2
      refine own_go (fun _ k => XS.iload Xz393.here hx rfl (hb hby own_d10_23) rfl k) ?_
      show own_Go _ _ _ _ Tz393 (mkF m 25 #[oR fi, oR be, oD Sc, oS, oI 2, oI 1, oI 1] [(.int 2)])
      refine own_go (fun _ k => XS.aloadN Xz393.here hx rfl (hb hby own_d10_25) rfl rfl k) ?_
      show own_Go _ _ _ _ Tz393 (mkF m 26 #[oR fi, oR be, oD Sc, oS, oI 2, oI 1, oI 1] [(.ref fi), (.int 2)])
      obtain ⟨Tz394, Xz394, ez394, stz394⟩ := getF Xz393 hx hZ hown (host := "") (Or.inl (hw _ (List.mem_of_getElem? (i := 72) rfl))) Via.refl ez393 F20 (g := (mkF m 26 #[oR fi, oR be, oD Sc, oS, oI 2, oI 1, oI 1] [(.ref fi), (.int 2)])) rfl rfl (hb hby own_d10_26)
      refine own_go stz394 ?_
      show own_Go _ _ _ _ Tz394 (mkF m 29 #[oR fi, oR be, oD Sc, oS, oI 2, oI 1, oI 1] [(.int 2), (.int 2)])
      refine own_go (fun _ k => XS.icmpYes Xz394.here hx rfl (pc0 := 29) (pc' := 84) rfl (hb hby own_d10_29) rfl (flt (by decide : ¬ ((2 : Int32) < (2 : Int32)))).2.1 (by decide) (by decide) k) ?_
      show own_Go _ _ _ _ Tz394 (mkF m 84 #[oR fi, oR be, oD Sc, oS, oI 2, oI 1, oI 1] [])
      exact own_end Xz394 hlk (v := none) (fun _ => rfl) (fun fs hr => Xz394.returnOut hx hret (hb hby own_d10_84) hr) (by rw [ez394]; exact ⟨rfl, Nz393, K, by rw [← hq0, ← hq1, ← hq2]; exact V_be⟩) (by decide) (by decide)
    · subst he
      show own_Go _ _ _ _ Tz379 (mkF m 56 #[oR fi, oR be, oD Sc, oS, oI 1, oI 1, oI 2] [(.int (-1 : Int32)), (.int 2)])
      refine own_go (fun _ k => XS.icmpNo Xz379.here hx rfl (hb hby own_d10_56) rfl (feq (by decide : ¬ ((2 : Int32) = (-1 : Int32)))).1 k) ?_
      show own_Go _ _ _ _ Tz379 (mkF m 59 #[oR fi, oR be, oD Sc, oS, oI 1, oI 1, oI 2] [])
      refine own_go (fun _ k => XS.aloadN Xz379.here hx rfl (hb hby own_d10_59) rfl rfl k) ?_
      show own_Go _ _ _ _ Tz379 (mkF m 60 #[oR fi, oR be, oD Sc, oS, oI 1, oI 1, oI 2] [(.ref be)])
      refine own_go (fun _ k => XS.iload Xz379.here hx rfl (hb hby own_d10_60) rfl k) ?_
      show own_Go _ _ _ _ Tz379 (mkF m 62 #[oR fi, oR be, oD Sc, oS, oI 1, oI 1, oI 2] [(.int 2), (.ref be)])
      refine own_go (fun _ k => own_dup2 Xz379.here hx rfl (hb hby own_d10_62) rfl k) ?_
      show own_Go _ _ _ _ Tz379 (mkF m 63 #[oR fi, oR be, oD Sc, oS, oI 1, oI 1, oI 2] [(.int 2), (.ref be), (.int 2), (.ref be)])
      obtain ⟨clz395, Arz395, qz395, Sz395, Mz395, HHz395, Gz395⟩ := id V_be
      have hinz395 : ¬ ((2 : Int32) < 0 ∨ clz395.slots.size ≤ ((2 : Int32)).toNatClampNeg) := inb_of Sz395 ⟨(by decide), (by decide)⟩
      have hatz395 : clz395.slots[((2 : Int32)).toNatClampNeg]? = some (.double b2) := HHz395.at hinz395 (rfl)
      refine own_go (fun _ k => Xz379.daload hx (j := (2 : Int32)) (v := (.double b2)) (by rw [ez379]; exact Arz395.1) (State.isArrayOf_alike hZ.alike Arz395.2.1) Arz395.2.2 hinz395 hatz395 (g := (mkF m 63 #[oR fi, oR be, oD Sc, oS, oI 1, oI 1, oI 2] [(.int 2), (.ref be), (.int 2), (.ref be)])) rfl rfl (hb hby own_d10_63) _ k) ?_
      show own_Go _ _ _ _ Tz379 (mkF m 64 #[oR fi, oR be, oD Sc, oS, oI 1, oI 1, oI 2] [(.double b2), (.int 2), (.ref be)])
      refine own_go (fun _ k => XS.dloadN Xz379.here hx rfl (hb hby own_d10_64) rfl k) ?_
      show own_Go _ _ _ _ Tz379 (mkF m 65 #[oR fi, oR be, oD Sc, oS, oI 1, oI 1, oI 2] [(.double Sc), (.double b2), (.int 2), (.ref be)])
      refine own_go (fun _ k => XS.aloadN Xz379.here hx rfl (hb hby own_d10_65) rfl rfl k) ?_
      show own_Go _ _ _ _ Tz379 (mkF m 66 #[oR fi, oR be, oD Sc, oS, oI 1, oI 1, oI 2] [(.ref fi), (.double Sc), (.double b2), (.int 2), (.ref be)])
      obtain ⟨Tz396, Xz396, ez396, stz396⟩ := getF Xz379 hx hZ hown (host := "") (Or.inl (hw _ (List.mem_of_getElem? (i := 39) rfl))) Via.refl ez379 F18 (g := (mkF m 66 #[oR fi, oR be, oD Sc, oS, oI 1, oI 1, oI 2] [(.ref fi), (.double Sc), (.double b2), (.int 2), (.ref be)])) rfl rfl (hb hby own_d10_66)
      refine own_go stz396 ?_
      show own_Go _ _ _ _ Tz396 (mkF m 69 #[oR fi, oR be, oD Sc, oS, oI 1, oI 1, oI 2] [(.ref le), (.double Sc), (.double b2), (.int 2), (.ref be)])
      refine own_go (fun _ k => own_getR Xz396 hx hZ hown (hw _ (List.mem_of_getElem? (i := 85) rfl)) ez396 F28 (g := (mkF m 69 #[oR fi, oR be, oD Sc, oS, oI 1, oI 1, oI 2] [(.ref le), (.double Sc), (.double b2), (.int 2), (.ref be)])) rfl rfl (hb hby own_d10_69) _ k) ?_
      show own_Go _ _ _ _ Tz396 (mkF m 72 #[oR fi, oR be, oD Sc, oS, oI 1, oI 1, oI 2] [(.ref pe), (.double Sc), (.double b2), (.int 2), (.ref be)])
      refine own_go (fun _ k => XS.iload Xz396.here hx rfl (hb hby own_d10_72) rfl k) ?_
      show own_Go _ _ _ _ Tz396 (mkF m 74 #[oR fi, oR be, oD Sc, oS, oI 1, oI 1, oI 2] [(.int 1), (.ref pe), (.double Sc), (.double b2), (.int 2), (.ref be)])
      obtain ⟨clz398, Arz398, qz398, Sz398, Mz398, HHz398, Gz398⟩ := id V_pe
      have hinz398 : ¬ ((1 : Int32) < 0 ∨ clz398.slots.size ≤ ((1 : Int32)).toNatClampNeg) := inb_of Sz398 ⟨(by decide), (by decide)⟩
      have hatz398 : clz398.slots[((1 : Int32)).toNatClampNeg]? = some (.double P1) := HHz398.at hinz398 (rfl)
      refine own_go (fun _ k => Xz396.daload hx (j := (1 : Int32)) (v := (.double P1)) (by rw [ez396]; exact Arz398.1) (State.isArrayOf_alike hZ.alike Arz398.2.1) Arz398.2.2 hinz398 hatz398 (g := (mkF m 74 #[oR fi, oR be, oD Sc, oS, oI 1, oI 1, oI 2] [(.int 1), (.ref pe), (.double Sc), (.double b2), (.int 2), (.ref be)])) rfl rfl (hb hby own_d10_74) _ k) ?_
      show own_Go _ _ _ _ Tz396 (mkF m 75 #[oR fi, oR be, oD Sc, oS, oI 1, oI 1, oI 2] [(.double P1), (.double Sc), (.double b2), (.int 2), (.ref be)])
      refine own_go (fun _ k => XS.dmulS Xz396.here hx rfl (hb hby own_d10_75) rfl (by rw [hD1]; exact hF1.noNaN) hD1 k) ?_
      show own_Go _ _ _ _ Tz396 (mkF m 76 #[oR fi, oR be, oD Sc, oS, oI 1, oI 1, oI 2] [(.double D1), (.double b2), (.int 2), (.ref be)])
      refine own_go (fun _ k => XS.daddS Xz396.here hx rfl (hb hby own_d10_76) rfl (dadd_out hb2 hF1) rfl k) ?_
      show own_Go _ _ _ _ Tz396 (mkF m 77 #[oR fi, oR be, oD Sc, oS, oI 1, oI 1, oI 2] [(.double (FP.dadd b2 D1)), (.int 2), (.ref be)])
      obtain ⟨clz399, Arz399, qz399, Sz399, Mz399, HHz399, Gz399⟩ := V_be
      have hinz399 : ¬ ((2 : Int32) < 0 ∨ clz399.slots.size ≤ ((2 : Int32)).toNatClampNeg) := inb_of Sz399 ⟨(by decide), (by decide)⟩
      obtain ⟨Tz399, hz399, Xz399, ez399, Wz399, stz399⟩ := stD Xz396 hx hZ ez396 Arz399 (j := (2 : Int32)) hinz399 (g := (mkF m 77 #[oR fi, oR be, oD Sc, oS, oI 1, oI 1, oI 2] [(.double (FP.dadd b2 D1)), (.int 2), (.ref be)])) rfl rfl (hb hby own_d10_77)
      refine own_go stz399 ?_
      have V_be_ : Arv Z hz399 be kbe .double (3 : Int32) [(.double b0), (.double b1), (.double (FP.dadd b2 D1))] (.double 0) := Arv.set Arz399 qz399 Sz399 Mz399 HHz399 Gz399 rfl Wz399 2 rfl (Nat.le_of_ble_eq_true rfl)
      have Nz399 := Fr.snoc Xz399 N g_be
      have F22 := F22.other Wz399 (own_o1 lt_fi_be)
      have F18 := F18.other Wz399 (own_o1 lt_fi_be)
      have F20 := F20.other Wz399 (own_o1 lt_fi_be)
      have F30 := F30.other Wz399 (own_o1 lt_fi_be)
      have F32 := F32.other Wz399 (own_o1 lt_fi_be)
      have F4 := F4.other Wz399 (own_o1 lt_le_be)
      have F28 := F28.other Wz399 (own_o1 lt_le_be)
      have V_fl := V_fl.other Wz399 (Nat.ne_of_lt lt_fl_be)
      have V_ex := V_ex.other Wz399 (Nat.ne_of_lt lt_ex_be)
      have V_pe := V_pe.other Wz399 (Nat.ne_of_lt lt_pe_be)
      have K := K.wr Wz399 (Or.inl (List.mem_of_getElem? (i := 0) rfl))
      have V_be := V_be_
      show own_Go _ _ _ _ Tz399 (mkF m 78 #[oR fi, oR be, oD Sc, oS, oI 1, oI 1, oI 2] [])
      refine own_go (fun _ k => XS.iinc Xz399.here hx rfl (hb hby own_d10_78) rfl (l' := #[oR fi, oR be, oD Sc, oS, oI ((1 : Int32) + (1 : Int32)), oI 1, oI 2]) rfl k) ?_
      show own_Go _ _ _ _ Tz399 (mkF m 81 #[oR fi, oR be, oD Sc, oS, oI ((1 : Int32) + (1 : Int32)), oI 1, oI 2] [])
      refine own_go (fun _ k => XS.goto Xz399.here hx rfl (pc0 := 81) (pc' := 23) rfl (hb hby own_d10_81) (by decide) (by decide) k) ?_
      show own_Go _ _ _ _ Tz399 (mkF m 23 #[oR fi, oR be, oD Sc, oS, oI ((1 : Int32) + (1 : Int32)), oI 1, oI 2] [])
      show own_Go _ _ _ _ Tz399 (mkF m 23 #[oR fi, oR be, oD Sc, oS, oI 2, oI 1, oI 2] [])
      rw [if_neg (by decide : ¬ ((2 : Int32) = (0 : Int32)))] at hq0
      rw [if_neg (by decide : ¬ ((2 : Int32) = (1 : Int32)))] at hq1
      rw [if_pos (rfl : (2 : Int32) = (2 : Int32))] at hq2
      refine own_go (fun _ k => XS.iload Xz399.here hx rfl (hb hby own_d10_23) rfl k) ?_
      show own_Go _ _ _ _ Tz399 (mkF m 25 #[oR fi, oR be, oD Sc, oS, oI 2, oI 1, oI 2] [(.int 2)])
      refine own_go (fun _ k => XS.aloadN Xz399.here hx rfl (hb hby own_d10_25) rfl rfl k) ?_
      show own_Go _ _ _ _ Tz399 (mkF m 26 #[oR fi, oR be, oD Sc, oS, oI 2, oI 1, oI 2] [(.ref fi), (.int 2)])
      obtain ⟨Tz400, Xz400, ez400, stz400⟩ := getF Xz399 hx hZ hown (host := "") (Or.inl (hw _ (List.mem_of_getElem? (i := 72) rfl))) Via.refl ez399 F20 (g := (mkF m 26 #[oR fi, oR be, oD Sc, oS, oI 2, oI 1, oI 2] [(.ref fi), (.int 2)])) rfl rfl (hb hby own_d10_26)
      refine own_go stz400 ?_
      show own_Go _ _ _ _ Tz400 (mkF m 29 #[oR fi, oR be, oD Sc, oS, oI 2, oI 1, oI 2] [(.int 2), (.int 2)])
      refine own_go (fun _ k => XS.icmpYes Xz400.here hx rfl (pc0 := 29) (pc' := 84) rfl (hb hby own_d10_29) rfl (flt (by decide : ¬ ((2 : Int32) < (2 : Int32)))).2.1 (by decide) (by decide) k) ?_
      show own_Go _ _ _ _ Tz400 (mkF m 84 #[oR fi, oR be, oD Sc, oS, oI 2, oI 1, oI 2] [])
      exact own_end Xz400 hlk (v := none) (fun _ => rfl) (fun fs hr => Xz400.returnOut hx hret (hb hby own_d10_84) hr) (by rw [ez400]; exact ⟨rfl, Nz399, K, by rw [← hq0, ← hq1, ← hq2]; exact V_be⟩) (by decide) (by decide)
  refine own_go (fun _ k => XS.iload Xz375.here hx rfl (hb hby own_d10_23) rfl k) ?_
  show own_Go _ _ _ _ Tz375 (mkF m 25 #[oR fi, oR be, oD Sc, oS, oI 0, oU, oU] [(.int 0)])
  refine own_go (fun _ k => XS.aloadN Xz375.here hx rfl (hb hby own_d10_25) rfl rfl k) ?_
  show own_Go _ _ _ _ Tz375 (mkF m 26 #[oR fi, oR be, oD Sc, oS, oI 0, oU, oU] [(.ref fi), (.int 0)])
  obtain ⟨Tz401, Xz401, ez401, stz401⟩ := getF Xz375 hx hZ hown (host := "") (Or.inl (hw _ (List.mem_of_getElem? (i := 72) rfl))) Via.refl ez375 F20 (g := (mkF m 26 #[oR fi, oR be, oD Sc, oS, oI 0, oU, oU] [(.ref fi), (.int 0)])) rfl rfl (hb hby own_d10_26)
  refine own_go stz401 ?_
  show own_Go _ _ _ _ Tz401 (mkF m 29 #[oR fi, oR be, oD Sc, oS, oI 0, oU, oU] [(.int 2), (.int 0)])
  refine own_go (fun _ k => XS.icmpNo Xz401.here hx rfl (hb hby own_d10_29) rfl (tlt (by decide : (0 : Int32) < (2 : Int32))).2.1 k) ?_
  show own_Go _ _ _ _ Tz401 (mkF m 32 #[oR fi, oR be, oD Sc, oS, oI 0, oU, oU] [])
  refine own_go (fun _ k => XS.aloadN Xz401.here hx rfl (hb hby own_d10_32) rfl rfl k) ?_
  show own_Go _ _ _ _ Tz401 (mkF m 33 #[oR fi, oR be, oD Sc, oS, oI 0, oU, oU] [(.ref fi)])
  obtain ⟨Tz402, Xz402, ez402, stz402⟩ := getF Xz401 hx hZ hown (host := "") (Or.inl (hw _ (List.mem_of_getElem? (i := 29) rfl))) Via.refl ez401 F22 (g := (mkF m 33 #[oR fi, oR be, oD Sc, oS, oI 0, oU, oU] [(.ref fi)])) rfl rfl (hb hby own_d10_33)
  refine own_go stz402 ?_
  show own_Go _ _ _ _ Tz402 (mkF m 36 #[oR fi, oR be, oD Sc, oS, oI 0, oU, oU] [(.ref fl)])
  refine own_go (fun _ k => XS.iload Xz402.here hx rfl (hb hby own_d10_36) rfl k) ?_
  show own_Go _ _ _ _ Tz402 (mkF m 38 #[oR fi, oR be, oD Sc, oS, oI 0, oU, oU] [(.int 0), (.ref fl)])
  obtain ⟨clz403, Arz403, qz403, Sz403, Mz403, HHz403, Gz403⟩ := id V_fl
  have hinz403 : ¬ ((0 : Int32) < 0 ∨ clz403.slots.size ≤ ((0 : Int32)).toNatClampNeg) := inb_of Sz403 ⟨(by decide), (by decide)⟩
  have hatz403 : clz403.slots[((0 : Int32)).toNatClampNeg]? = some (.int 0) := HHz403.at hinz403 (rfl)
  refine own_go (fun _ k => Xz402.iaload hx (j := (0 : Int32)) (v := (.int 0)) (by rw [ez402]; exact Arz403.1) (State.isArrayOf_alike hZ.alike Arz403.2.1) Arz403.2.2 hinz403 hatz403 (g := (mkF m 38 #[oR fi, oR be, oD Sc, oS, oI 0, oU, oU] [(.int 0), (.ref fl)])) rfl rfl (hb hby own_d10_38) _ k) ?_
  show own_Go _ _ _ _ Tz402 (mkF m 39 #[oR fi, oR be, oD Sc, oS, oI 0, oU, oU] [(.int 0)])
  refine own_go (fun _ k => XS.istore Xz402.here hx rfl (hb hby own_d10_39) rfl (l' := #[oR fi, oR be, oD Sc, oS, oI 0, oI 0, oU]) rfl k) ?_
  show own_Go _ _ _ _ Tz402 (mkF m 41 #[oR fi, oR be, oD Sc, oS, oI 0, oI 0, oU] [])
  refine own_go (fun _ k => XS.aloadN Xz402.here hx rfl (hb hby own_d10_41) rfl rfl k) ?_
  show own_Go _ _ _ _ Tz402 (mkF m 42 #[oR fi, oR be, oD Sc, oS, oI 0, oI 0, oU] [(.ref fi)])
  obtain ⟨Tz404, Xz404, ez404, stz404⟩ := getF Xz402 hx hZ hown (host := "") (Or.inl (hw _ (List.mem_of_getElem? (i := 39) rfl))) Via.refl ez402 F18 (g := (mkF m 42 #[oR fi, oR be, oD Sc, oS, oI 0, oI 0, oU] [(.ref fi)])) rfl rfl (hb hby own_d10_42)
  refine own_go stz404 ?_
  show own_Go _ _ _ _ Tz404 (mkF m 45 #[oR fi, oR be, oD Sc, oS, oI 0, oI 0, oU] [(.ref le)])
  refine own_go (fun _ k => own_getR Xz404 hx hZ hown (hw _ (List.mem_of_getElem? (i := 96) rfl)) ez404 F4 (g := (mkF m 45 #[oR fi, oR be, oD Sc, oS, oI 0, oI 0, oU] [(.ref le)])) rfl rfl (hb hby own_d10_45) _ k) ?_
  show own_Go _ _ _ _ Tz404 (mkF m 48 #[oR fi, oR be, oD Sc, oS, oI 0, oI 0, oU] [(.ref ex)])
  refine own_go (fun _ k => XS.iload Xz404.here hx rfl (hb hby own_d10_48) rfl k) ?_
  show own_Go _ _ _ _ Tz404 (mkF m 50 #[oR fi, oR be, oD Sc, oS, oI 0, oI 0, oU] [(.int 0), (.ref ex)])
  obtain ⟨clz406, Arz406, qz406, Sz406, Mz406, HHz406, Gz406⟩ := id V_ex
  have hinz406 : ¬ ((0 : Int32) < 0 ∨ clz406.slots.size ≤ ((0 : Int32)).toNatClampNeg) := inb_of Sz406 ⟨(by decide), (by decide)⟩
  have hatz406 : clz406.slots[((0 : Int32)).toNatClampNeg]? = some (.int y0) := HHz406.at hinz406 (rfl)
  refine own_go (fun _ k => Xz404.iaload hx (j := (0 : Int32)) (v := (.int y0)) (by rw [ez404]; exact Arz406.1) (State.isArrayOf_alike hZ.alike Arz406.2.1) Arz406.2.2 hinz406 hatz406 (g := (mkF m 50 #[oR fi, oR be, oD Sc, oS, oI 0, oI 0, oU] [(.int 0), (.ref ex)])) rfl rfl (hb hby own_d10_50) _ k) ?_
  show own_Go _ _ _ _ Tz404 (mkF m 51 #[oR fi, oR be, oD Sc, oS, oI 0, oI 0, oU] [(.int y0)])
  refine own_go (fun _ k => XS.istore Xz404.here hx rfl (hb hby own_d10_51) rfl (l' := #[oR fi, oR be, oD Sc, oS, oI 0, oI 0, oI y0]) rfl k) ?_
  show own_Go _ _ _ _ Tz404 (mkF m 53 #[oR fi, oR be, oD Sc, oS, oI 0, oI 0, oI y0] [])
  refine own_go (fun _ k => XS.iload Xz404.here hx rfl (hb hby own_d10_53) rfl k) ?_
  show own_Go _ _ _ _ Tz404 (mkF m 55 #[oR fi, oR be, oD Sc, oS, oI 0, oI 0, oI y0] [(.int y0)])
  refine own_go (fun _ k => XS.iconst Xz404.here hx rfl (hb hby own_d10_55) k) ?_
  show own_Go _ _ _ _ Tz404 (mkF m 56 #[oR fi, oR be, oD Sc, oS, oI 0, oI 0, oI y0] [(.int (-1 : Int32)), (.int y0)])
  rcases he0 with he | he | he | he
  · subst he
    show own_Go _ _ _ _ Tz404 (mkF m 56 #[oR fi, oR be, oD Sc, oS, oI 0, oI 0, oI (-1 : Int32)] [(.int (-1 : Int32)), (.int (-1 : Int32))])
    refine own_go (fun _ k => XS.icmpYes Xz404.here hx rfl (pc0 := 56) (pc' := 78) rfl (hb hby own_d10_56) rfl (teq (by decide : (-1 : Int32) = (-1 : Int32))).1 (by decide) (by decide) k) ?_
    show own_Go _ _ _ _ Tz404 (mkF m 78 #[oR fi, oR be, oD Sc, oS, oI 0, oI 0, oI (-1 : Int32)] [])
    refine own_go (fun _ k => XS.iinc Xz404.here hx rfl (hb hby own_d10_78) rfl (l' := #[oR fi, oR be, oD Sc, oS, oI ((0 : Int32) + (1 : Int32)), oI 0, oI (-1 : Int32)]) rfl k) ?_
    show own_Go _ _ _ _ Tz404 (mkF m 81 #[oR fi, oR be, oD Sc, oS, oI ((0 : Int32) + (1 : Int32)), oI 0, oI (-1 : Int32)] [])
    refine own_go (fun _ k => XS.goto Xz404.here hx rfl (pc0 := 81) (pc' := 23) rfl (hb hby own_d10_81) (by decide) (by decide) k) ?_
    show own_Go _ _ _ _ Tz404 (mkF m 23 #[oR fi, oR be, oD Sc, oS, oI ((0 : Int32) + (1 : Int32)), oI 0, oI (-1 : Int32)] [])
    show own_Go _ _ _ _ Tz404 (mkF m 23 #[oR fi, oR be, oD Sc, oS, oI 1, oI 0, oI (-1 : Int32)] [])
    exact k2 Tz404 h0 _ Xz404 ez404 N0 B0 B1 B2 hB0 hB1 hB2 (by rw [← hr0, own_el, if_neg (by decide : ¬ ((-1 : Int32) = (0 : Int32)))]) (by rw [← hr1, own_el, if_neg (by decide : ¬ ((-1 : Int32) = (1 : Int32)))]) (by rw [← hr2, own_el, if_neg (by decide : ¬ ((-1 : Int32) = (2 : Int32)))]) _ K F22 F18 F20 F30 F32 F4 F28 V_fl V_ex V_pe V_be
  · subst he
    show own_Go _ _ _ _ Tz404 (mkF m 56 #[oR fi, oR be, oD Sc, oS, oI 0, oI 0, oI 0] [(.int (-1 : Int32)), (.int 0)])
    refine own_go (fun _ k => XS.icmpNo Xz404.here hx rfl (hb hby own_d10_56) rfl (feq (by decide : ¬ ((0 : Int32) = (-1 : Int32)))).1 k) ?_
    show own_Go _ _ _ _ Tz404 (mkF m 59 #[oR fi, oR be, oD Sc, oS, oI 0, oI 0, oI 0] [])
    refine own_go (fun _ k => XS.aloadN Xz404.here hx rfl (hb hby own_d10_59) rfl rfl k) ?_
    show own_Go _ _ _ _ Tz404 (mkF m 60 #[oR fi, oR be, oD Sc, oS, oI 0, oI 0, oI 0] [(.ref be)])
    refine own_go (fun _ k => XS.iload Xz404.here hx rfl (hb hby own_d10_60) rfl k) ?_
    show own_Go _ _ _ _ Tz404 (mkF m 62 #[oR fi, oR be, oD Sc, oS, oI 0, oI 0, oI 0] [(.int 0), (.ref be)])
    refine own_go (fun _ k => own_dup2 Xz404.here hx rfl (hb hby own_d10_62) rfl k) ?_
    show own_Go _ _ _ _ Tz404 (mkF m 63 #[oR fi, oR be, oD Sc, oS, oI 0, oI 0, oI 0] [(.int 0), (.ref be), (.int 0), (.ref be)])
    obtain ⟨clz407, Arz407, qz407, Sz407, Mz407, HHz407, Gz407⟩ := id V_be
    have hinz407 : ¬ ((0 : Int32) < 0 ∨ clz407.slots.size ≤ ((0 : Int32)).toNatClampNeg) := inb_of Sz407 ⟨(by decide), (by decide)⟩
    have hatz407 : clz407.slots[((0 : Int32)).toNatClampNeg]? = some (.double B0) := HHz407.at hinz407 (rfl)
    refine own_go (fun _ k => Xz404.daload hx (j := (0 : Int32)) (v := (.double B0)) (by rw [ez404]; exact Arz407.1) (State.isArrayOf_alike hZ.alike Arz407.2.1) Arz407.2.2 hinz407 hatz407 (g := (mkF m 63 #[oR fi, oR be, oD Sc, oS, oI 0, oI 0, oI 0] [(.int 0), (.ref be), (.int 0), (.ref be)])) rfl rfl (hb hby own_d10_63) _ k) ?_
    show own_Go _ _ _ _ Tz404 (mkF m 64 #[oR fi, oR be, oD Sc, oS, oI 0, oI 0, oI 0] [(.double B0), (.int 0), (.ref be)])
    refine own_go (fun _ k => XS.dloadN Xz404.here hx rfl (hb hby own_d10_64) rfl k) ?_
    show own_Go _ _ _ _ Tz404 (mkF m 65 #[oR fi, oR be, oD Sc, oS, oI 0, oI 0, oI 0] [(.double Sc), (.double B0), (.int 0), (.ref be)])
    refine own_go (fun _ k => XS.aloadN Xz404.here hx rfl (hb hby own_d10_65) rfl rfl k) ?_
    show own_Go _ _ _ _ Tz404 (mkF m 66 #[oR fi, oR be, oD Sc, oS, oI 0, oI 0, oI 0] [(.ref fi), (.double Sc), (.double B0), (.int 0), (.ref be)])
    obtain ⟨Tz408, Xz408, ez408, stz408⟩ := getF Xz404 hx hZ hown (host := "") (Or.inl (hw _ (List.mem_of_getElem? (i := 39) rfl))) Via.refl ez404 F18 (g := (mkF m 66 #[oR fi, oR be, oD Sc, oS, oI 0, oI 0, oI 0] [(.ref fi), (.double Sc), (.double B0), (.int 0), (.ref be)])) rfl rfl (hb hby own_d10_66)
    refine own_go stz408 ?_
    show own_Go _ _ _ _ Tz408 (mkF m 69 #[oR fi, oR be, oD Sc, oS, oI 0, oI 0, oI 0] [(.ref le), (.double Sc), (.double B0), (.int 0), (.ref be)])
    refine own_go (fun _ k => own_getR Xz408 hx hZ hown (hw _ (List.mem_of_getElem? (i := 85) rfl)) ez408 F28 (g := (mkF m 69 #[oR fi, oR be, oD Sc, oS, oI 0, oI 0, oI 0] [(.ref le), (.double Sc), (.double B0), (.int 0), (.ref be)])) rfl rfl (hb hby own_d10_69) _ k) ?_
    show own_Go _ _ _ _ Tz408 (mkF m 72 #[oR fi, oR be, oD Sc, oS, oI 0, oI 0, oI 0] [(.ref pe), (.double Sc), (.double B0), (.int 0), (.ref be)])
    refine own_go (fun _ k => XS.iload Xz408.here hx rfl (hb hby own_d10_72) rfl k) ?_
    show own_Go _ _ _ _ Tz408 (mkF m 74 #[oR fi, oR be, oD Sc, oS, oI 0, oI 0, oI 0] [(.int 0), (.ref pe), (.double Sc), (.double B0), (.int 0), (.ref be)])
    obtain ⟨clz410, Arz410, qz410, Sz410, Mz410, HHz410, Gz410⟩ := id V_pe
    have hinz410 : ¬ ((0 : Int32) < 0 ∨ clz410.slots.size ≤ ((0 : Int32)).toNatClampNeg) := inb_of Sz410 ⟨(by decide), (by decide)⟩
    have hatz410 : clz410.slots[((0 : Int32)).toNatClampNeg]? = some (.double P0) := HHz410.at hinz410 (rfl)
    refine own_go (fun _ k => Xz408.daload hx (j := (0 : Int32)) (v := (.double P0)) (by rw [ez408]; exact Arz410.1) (State.isArrayOf_alike hZ.alike Arz410.2.1) Arz410.2.2 hinz410 hatz410 (g := (mkF m 74 #[oR fi, oR be, oD Sc, oS, oI 0, oI 0, oI 0] [(.int 0), (.ref pe), (.double Sc), (.double B0), (.int 0), (.ref be)])) rfl rfl (hb hby own_d10_74) _ k) ?_
    show own_Go _ _ _ _ Tz408 (mkF m 75 #[oR fi, oR be, oD Sc, oS, oI 0, oI 0, oI 0] [(.double P0), (.double Sc), (.double B0), (.int 0), (.ref be)])
    refine own_go (fun _ k => XS.dmulS Xz408.here hx rfl (hb hby own_d10_75) rfl (by rw [hD0]; exact hF0.noNaN) hD0 k) ?_
    show own_Go _ _ _ _ Tz408 (mkF m 76 #[oR fi, oR be, oD Sc, oS, oI 0, oI 0, oI 0] [(.double D0), (.double B0), (.int 0), (.ref be)])
    refine own_go (fun _ k => XS.daddS Xz408.here hx rfl (hb hby own_d10_76) rfl (dadd_out hB0 hF0) rfl k) ?_
    show own_Go _ _ _ _ Tz408 (mkF m 77 #[oR fi, oR be, oD Sc, oS, oI 0, oI 0, oI 0] [(.double (FP.dadd B0 D0)), (.int 0), (.ref be)])
    obtain ⟨clz411, Arz411, qz411, Sz411, Mz411, HHz411, Gz411⟩ := V_be
    have hinz411 : ¬ ((0 : Int32) < 0 ∨ clz411.slots.size ≤ ((0 : Int32)).toNatClampNeg) := inb_of Sz411 ⟨(by decide), (by decide)⟩
    obtain ⟨Tz411, hz411, Xz411, ez411, Wz411, stz411⟩ := stD Xz408 hx hZ ez408 Arz411 (j := (0 : Int32)) hinz411 (g := (mkF m 77 #[oR fi, oR be, oD Sc, oS, oI 0, oI 0, oI 0] [(.double (FP.dadd B0 D0)), (.int 0), (.ref be)])) rfl rfl (hb hby own_d10_77)
    refine own_go stz411 ?_
    have V_be_ : Arv Z hz411 be kbe .double (3 : Int32) [(.double (FP.dadd B0 D0)), (.double B1), (.double B2)] (.double 0) := Arv.set Arz411 qz411 Sz411 Mz411 HHz411 Gz411 rfl Wz411 0 rfl (Nat.le_of_ble_eq_true rfl)
    have Nz411 := Fr.snoc Xz411 N0 g_be
    have F22 := F22.other Wz411 (own_o1 lt_fi_be)
    have F18 := F18.other Wz411 (own_o1 lt_fi_be)
    have F20 := F20.other Wz411 (own_o1 lt_fi_be)
    have F30 := F30.other Wz411 (own_o1 lt_fi_be)
    have F32 := F32.other Wz411 (own_o1 lt_fi_be)
    have F4 := F4.other Wz411 (own_o1 lt_le_be)
    have F28 := F28.other Wz411 (own_o1 lt_le_be)
    have V_fl := V_fl.other Wz411 (Nat.ne_of_lt lt_fl_be)
    have V_ex := V_ex.other Wz411 (Nat.ne_of_lt lt_ex_be)
    have V_pe := V_pe.other Wz411 (Nat.ne_of_lt lt_pe_be)
    have K := K.wr Wz411 (Or.inl (List.mem_of_getElem? (i := 0) rfl))
    have V_be := V_be_
    show own_Go _ _ _ _ Tz411 (mkF m 78 #[oR fi, oR be, oD Sc, oS, oI 0, oI 0, oI 0] [])
    refine own_go (fun _ k => XS.iinc Xz411.here hx rfl (hb hby own_d10_78) rfl (l' := #[oR fi, oR be, oD Sc, oS, oI ((0 : Int32) + (1 : Int32)), oI 0, oI 0]) rfl k) ?_
    show own_Go _ _ _ _ Tz411 (mkF m 81 #[oR fi, oR be, oD Sc, oS, oI ((0 : Int32) + (1 : Int32)), oI 0, oI 0] [])
    refine own_go (fun _ k => XS.goto Xz411.here hx rfl (pc0 := 81) (pc' := 23) rfl (hb hby own_d10_81) (by decide) (by decide) k) ?_
    show own_Go _ _ _ _ Tz411 (mkF m 23 #[oR fi, oR be, oD Sc, oS, oI ((0 : Int32) + (1 : Int32)), oI 0, oI 0] [])
    show own_Go _ _ _ _ Tz411 (mkF m 23 #[oR fi, oR be, oD Sc, oS, oI 1, oI 0, oI 0] [])
    exact k2 Tz411 hz411 _ Xz411 ez411 Nz411 (FP.dadd B0 D0) B1 B2 (dadd_out hB0 hF0) hB1 hB2 (by rw [← hr0, own_el, if_pos (rfl : (0 : Int32) = (0 : Int32))]) (by rw [← hr1, own_el, if_neg (by decide : ¬ ((0 : Int32) = (1 : Int32)))]) (by rw [← hr2, own_el, if_neg (by decide : ¬ ((0 : Int32) = (2 : Int32)))]) _ K F22 F18 F20 F30 F32 F4 F28 V_fl V_ex V_pe V_be
  · subst he
    show own_Go _ _ _ _ Tz404 (mkF m 56 #[oR fi, oR be, oD Sc, oS, oI 0, oI 0, oI 1] [(.int (-1 : Int32)), (.int 1)])
    refine own_go (fun _ k => XS.icmpNo Xz404.here hx rfl (hb hby own_d10_56) rfl (feq (by decide : ¬ ((1 : Int32) = (-1 : Int32)))).1 k) ?_
    show own_Go _ _ _ _ Tz404 (mkF m 59 #[oR fi, oR be, oD Sc, oS, oI 0, oI 0, oI 1] [])
    refine own_go (fun _ k => XS.aloadN Xz404.here hx rfl (hb hby own_d10_59) rfl rfl k) ?_
    show own_Go _ _ _ _ Tz404 (mkF m 60 #[oR fi, oR be, oD Sc, oS, oI 0, oI 0, oI 1] [(.ref be)])
    refine own_go (fun _ k => XS.iload Xz404.here hx rfl (hb hby own_d10_60) rfl k) ?_
    show own_Go _ _ _ _ Tz404 (mkF m 62 #[oR fi, oR be, oD Sc, oS, oI 0, oI 0, oI 1] [(.int 1), (.ref be)])
    refine own_go (fun _ k => own_dup2 Xz404.here hx rfl (hb hby own_d10_62) rfl k) ?_
    show own_Go _ _ _ _ Tz404 (mkF m 63 #[oR fi, oR be, oD Sc, oS, oI 0, oI 0, oI 1] [(.int 1), (.ref be), (.int 1), (.ref be)])
    obtain ⟨clz412, Arz412, qz412, Sz412, Mz412, HHz412, Gz412⟩ := id V_be
    have hinz412 : ¬ ((1 : Int32) < 0 ∨ clz412.slots.size ≤ ((1 : Int32)).toNatClampNeg) := inb_of Sz412 ⟨(by decide), (by decide)⟩
    have hatz412 : clz412.slots[((1 : Int32)).toNatClampNeg]? = some (.double B1) := HHz412.at hinz412 (rfl)
    refine own_go (fun _ k => Xz404.daload hx (j := (1 : Int32)) (v := (.double B1)) (by rw [ez404]; exact Arz412.1) (State.isArrayOf_alike hZ.alike Arz412.2.1) Arz412.2.2 hinz412 hatz412 (g := (mkF m 63 #[oR fi, oR be, oD Sc, oS, oI 0, oI 0, oI 1] [(.int 1), (.ref be), (.int 1), (.ref be)])) rfl rfl (hb hby own_d10_63) _ k) ?_
    show own_Go _ _ _ _ Tz404 (mkF m 64 #[oR fi, oR be, oD Sc, oS, oI 0, oI 0, oI 1] [(.double B1), (.int 1), (.ref be)])
    refine own_go (fun _ k => XS.dloadN Xz404.here hx rfl (hb hby own_d10_64) rfl k) ?_
    show own_Go _ _ _ _ Tz404 (mkF m 65 #[oR fi, oR be, oD Sc, oS, oI 0, oI 0, oI 1] [(.double Sc), (.double B1), (.int 1), (.ref be)])
    refine own_go (fun _ k => XS.aloadN Xz404.here hx rfl (hb hby own_d10_65) rfl rfl k) ?_
    show own_Go _ _ _ _ Tz404 (mkF m 66 #[oR fi, oR be, oD Sc, oS, oI 0, oI 0, oI 1] [(.ref fi), (.double Sc), (.double B1), (.int 1), (.ref be)])
    obtain ⟨Tz413, Xz413, ez413, stz413⟩ := getF Xz404 hx hZ hown (host := "") (Or.inl (hw _ (List.mem_of_getElem? (i := 39) rfl))) Via.refl ez404 F18 (g := (mkF m 66 #[oR fi, oR be, oD Sc, oS, oI 0, oI 0, oI 1] [(.ref fi), (.double Sc), (.double B1), (.int 1), (.ref be)])) rfl rfl (hb hby own_d10_66)
    refine own_go stz413 ?_
    show own_Go _ _ _ _ Tz413 (mkF m 69 #[oR fi, oR be, oD Sc, oS, oI 0, oI 0, oI 1] [(.ref le), (.double Sc), (.double B1), (.int 1), (.ref be)])
    refine own_go (fun _ k => own_getR Xz413 hx hZ hown (hw _ (List.mem_of_getElem? (i := 85) rfl)) ez413 F28 (g := (mkF m 69 #[oR fi, oR be, oD Sc, oS, oI 0, oI 0, oI 1] [(.ref le), (.double Sc), (.double B1), (.int 1), (.ref be)])) rfl rfl (hb hby own_d10_69) _ k) ?_
    show own_Go _ _ _ _ Tz413 (mkF m 72 #[oR fi, oR be, oD Sc, oS, oI 0, oI 0, oI 1] [(.ref pe), (.double Sc), (.double B1), (.int 1), (.ref be)])
    refine own_go (fun _ k => XS.iload Xz413.here hx rfl (hb hby own_d10_72) rfl k) ?_
    show own_Go _ _ _ _ Tz413 (mkF m 74 #[oR fi, oR be, oD Sc, oS, oI 0, oI 0, oI 1] [(.int 0), (.ref pe), (.double Sc), (.double B1), (.int 1), (.ref be)])
    obtain ⟨clz415, Arz415, qz415, Sz415, Mz415, HHz415, Gz415⟩ := id V_pe
    have hinz415 : ¬ ((0 : Int32) < 0 ∨ clz415.slots.size ≤ ((0 : Int32)).toNatClampNeg) := inb_of Sz415 ⟨(by decide), (by decide)⟩
    have hatz415 : clz415.slots[((0 : Int32)).toNatClampNeg]? = some (.double P0) := HHz415.at hinz415 (rfl)
    refine own_go (fun _ k => Xz413.daload hx (j := (0 : Int32)) (v := (.double P0)) (by rw [ez413]; exact Arz415.1) (State.isArrayOf_alike hZ.alike Arz415.2.1) Arz415.2.2 hinz415 hatz415 (g := (mkF m 74 #[oR fi, oR be, oD Sc, oS, oI 0, oI 0, oI 1] [(.int 0), (.ref pe), (.double Sc), (.double B1), (.int 1), (.ref be)])) rfl rfl (hb hby own_d10_74) _ k) ?_
    show own_Go _ _ _ _ Tz413 (mkF m 75 #[oR fi, oR be, oD Sc, oS, oI 0, oI 0, oI 1] [(.double P0), (.double Sc), (.double B1), (.int 1), (.ref be)])
    refine own_go (fun _ k => XS.dmulS Xz413.here hx rfl (hb hby own_d10_75) rfl (by rw [hD0]; exact hF0.noNaN) hD0 k) ?_
    show own_Go _ _ _ _ Tz413 (mkF m 76 #[oR fi, oR be, oD Sc, oS, oI 0, oI 0, oI 1] [(.double D0), (.double B1), (.int 1), (.ref be)])
    refine own_go (fun _ k => XS.daddS Xz413.here hx rfl (hb hby own_d10_76) rfl (dadd_out hB1 hF0) rfl k) ?_
    show own_Go _ _ _ _ Tz413 (mkF m 77 #[oR fi, oR be, oD Sc, oS, oI 0, oI 0, oI 1] [(.double (FP.dadd B1 D0)), (.int 1), (.ref be)])
    obtain ⟨clz416, Arz416, qz416, Sz416, Mz416, HHz416, Gz416⟩ := V_be
    have hinz416 : ¬ ((1 : Int32) < 0 ∨ clz416.slots.size ≤ ((1 : Int32)).toNatClampNeg) := inb_of Sz416 ⟨(by decide), (by decide)⟩
    obtain ⟨Tz416, hz416, Xz416, ez416, Wz416, stz416⟩ := stD Xz413 hx hZ ez413 Arz416 (j := (1 : Int32)) hinz416 (g := (mkF m 77 #[oR fi, oR be, oD Sc, oS, oI 0, oI 0, oI 1] [(.double (FP.dadd B1 D0)), (.int 1), (.ref be)])) rfl rfl (hb hby own_d10_77)
    refine own_go stz416 ?_
    have V_be_ : Arv Z hz416 be kbe .double (3 : Int32) [(.double B0), (.double (FP.dadd B1 D0)), (.double B2)] (.double 0) := Arv.set Arz416 qz416 Sz416 Mz416 HHz416 Gz416 rfl Wz416 1 rfl (Nat.le_of_ble_eq_true rfl)
    have Nz416 := Fr.snoc Xz416 N0 g_be
    have F22 := F22.other Wz416 (own_o1 lt_fi_be)
    have F18 := F18.other Wz416 (own_o1 lt_fi_be)
    have F20 := F20.other Wz416 (own_o1 lt_fi_be)
    have F30 := F30.other Wz416 (own_o1 lt_fi_be)
    have F32 := F32.other Wz416 (own_o1 lt_fi_be)
    have F4 := F4.other Wz416 (own_o1 lt_le_be)
    have F28 := F28.other Wz416 (own_o1 lt_le_be)
    have V_fl := V_fl.other Wz416 (Nat.ne_of_lt lt_fl_be)
    have V_ex := V_ex.other Wz416 (Nat.ne_of_lt lt_ex_be)
    have V_pe := V_pe.other Wz416 (Nat.ne_of_lt lt_pe_be)
    have K := K.wr Wz416 (Or.inl (List.mem_of_getElem? (i := 0) rfl))
    have V_be := V_be_
    show own_Go _ _ _ _ Tz416 (mkF m 78 #[oR fi, oR be, oD Sc, oS, oI 0, oI 0, oI 1] [])
    refine own_go (fun _ k => XS.iinc Xz416.here hx rfl (hb hby own_d10_78) rfl (l' := #[oR fi, oR be, oD Sc, oS, oI ((0 : Int32) + (1 : Int32)), oI 0, oI 1]) rfl k) ?_
    show own_Go _ _ _ _ Tz416 (mkF m 81 #[oR fi, oR be, oD Sc, oS, oI ((0 : Int32) + (1 : Int32)), oI 0, oI 1] [])
    refine own_go (fun _ k => XS.goto Xz416.here hx rfl (pc0 := 81) (pc' := 23) rfl (hb hby own_d10_81) (by decide) (by decide) k) ?_
    show own_Go _ _ _ _ Tz416 (mkF m 23 #[oR fi, oR be, oD Sc, oS, oI ((0 : Int32) + (1 : Int32)), oI 0, oI 1] [])
    show own_Go _ _ _ _ Tz416 (mkF m 23 #[oR fi, oR be, oD Sc, oS, oI 1, oI 0, oI 1] [])
    exact k2 Tz416 hz416 _ Xz416 ez416 Nz416 B0 (FP.dadd B1 D0) B2 hB0 (dadd_out hB1 hF0) hB2 (by rw [← hr0, own_el, if_neg (by decide : ¬ ((1 : Int32) = (0 : Int32)))]) (by rw [← hr1, own_el, if_pos (rfl : (1 : Int32) = (1 : Int32))]) (by rw [← hr2, own_el, if_neg (by decide : ¬ ((1 : Int32) = (2 : Int32)))]) _ K F22 F18 F20 F30 F32 F4 F28 V_fl V_ex V_pe V_be
  · subst he
    show own_Go _ _ _ _ Tz404 (mkF m 56 #[oR fi, oR be, oD Sc, oS, oI 0, oI 0, oI 2] [(.int (-1 : Int32)), (.int 2)])
    refine own_go (fun _ k => XS.icmpNo Xz404.here hx rfl (hb hby own_d10_56) rfl (feq (by decide : ¬ ((2 : Int32) = (-1 : Int32)))).1 k) ?_
    show own_Go _ _ _ _ Tz404 (mkF m 59 #[oR fi, oR be, oD Sc, oS, oI 0, oI 0, oI 2] [])
    refine own_go (fun _ k => XS.aloadN Xz404.here hx rfl (hb hby own_d10_59) rfl rfl k) ?_
    show own_Go _ _ _ _ Tz404 (mkF m 60 #[oR fi, oR be, oD Sc, oS, oI 0, oI 0, oI 2] [(.ref be)])
    refine own_go (fun _ k => XS.iload Xz404.here hx rfl (hb hby own_d10_60) rfl k) ?_
    show own_Go _ _ _ _ Tz404 (mkF m 62 #[oR fi, oR be, oD Sc, oS, oI 0, oI 0, oI 2] [(.int 2), (.ref be)])
    refine own_go (fun _ k => own_dup2 Xz404.here hx rfl (hb hby own_d10_62) rfl k) ?_
    show own_Go _ _ _ _ Tz404 (mkF m 63 #[oR fi, oR be, oD Sc, oS, oI 0, oI 0, oI 2] [(.int 2), (.ref be), (.int 2), (.ref be)])
    obtain ⟨clz417, Arz417, qz417, Sz417, Mz417, HHz417, Gz417⟩ := id V_be
    have hinz417 : ¬ ((2 : Int32) < 0 ∨ clz417.slots.size ≤ ((2 : Int32)).toNatClampNeg) := inb_of Sz417 ⟨(by decide), (by decide)⟩
    have hatz417 : clz417.slots[((2 : Int32)).toNatClampNeg]? = some (.double B2) := HHz417.at hinz417 (rfl)
    refine own_go (fun _ k => Xz404.daload hx (j := (2 : Int32)) (v := (.double B2)) (by rw [ez404]; exact Arz417.1) (State.isArrayOf_alike hZ.alike Arz417.2.1) Arz417.2.2 hinz417 hatz417 (g := (mkF m 63 #[oR fi, oR be, oD Sc, oS, oI 0, oI 0, oI 2] [(.int 2), (.ref be), (.int 2), (.ref be)])) rfl rfl (hb hby own_d10_63) _ k) ?_
    show own_Go _ _ _ _ Tz404 (mkF m 64 #[oR fi, oR be, oD Sc, oS, oI 0, oI 0, oI 2] [(.double B2), (.int 2), (.ref be)])
    refine own_go (fun _ k => XS.dloadN Xz404.here hx rfl (hb hby own_d10_64) rfl k) ?_
    show own_Go _ _ _ _ Tz404 (mkF m 65 #[oR fi, oR be, oD Sc, oS, oI 0, oI 0, oI 2] [(.double Sc), (.double B2), (.int 2), (.ref be)])
    refine own_go (fun _ k => XS.aloadN Xz404.here hx rfl (hb hby own_d10_65) rfl rfl k) ?_
    show own_Go _ _ _ _ Tz404 (mkF m 66 #[oR fi, oR be, oD Sc, oS, oI 0, oI 0, oI 2] [(.ref fi), (.double Sc), (.double B2), (.int 2), (.ref be)])
    obtain ⟨Tz418, Xz418, ez418, stz418⟩ := getF Xz404 hx hZ hown (host := "") (Or.inl (hw _ (List.mem_of_getElem? (i := 39) rfl))) Via.refl ez404 F18 (g := (mkF m 66 #[oR fi, oR be, oD Sc, oS, oI 0, oI 0, oI 2] [(.ref fi), (.double Sc), (.double B2), (.int 2), (.ref be)])) rfl rfl (hb hby own_d10_66)
    refine own_go stz418 ?_
    show own_Go _ _ _ _ Tz418 (mkF m 69 #[oR fi, oR be, oD Sc, oS, oI 0, oI 0, oI 2] [(.ref le), (.double Sc), (.double B2), (.int 2), (.ref be)])
    refine own_go (fun _ k => own_getR Xz418 hx hZ hown (hw _ (List.mem_of_getElem? (i := 85) rfl)) ez418 F28 (g := (mkF m 69 #[oR fi, oR be, oD Sc, oS, oI 0, oI 0, oI 2] [(.ref le), (.double Sc), (.double B2), (.int 2), (.ref be)])) rfl rfl (hb hby own_d10_69) _ k) ?_
    show own_Go _ _ _ _ Tz418 (mkF m 72 #[oR fi, oR be, oD Sc, oS, oI 0, oI 0, oI 2] [(.ref pe), (.double Sc), (.double B2), (.int 2), (.ref be)])
    refine own_go (fun _ k => XS.iload Xz418.here hx rfl (hb hby own_d10_72) rfl k) ?_
    show own_Go _ _ _ _ Tz418 (mkF m 74 #[oR fi, oR be, oD Sc, oS, oI 0, oI 0, oI 2] [(.int 0), (.ref pe), (.double Sc), (.double B2), (.int 2), (.ref be)])
    obtain ⟨clz420, Arz420, qz420, Sz420, Mz420, HHz420, Gz420⟩ := id V_pe
    have hinz420 : ¬ ((0 : Int32) < 0 ∨ clz420.slots.size ≤ ((0 : Int32)).toNatClampNeg) := inb_of Sz420 ⟨(by decide), (by decide)⟩
    have hatz420 : clz420.slots[((0 : Int32)).toNatClampNeg]? = some (.double P0) := HHz420.at hinz420 (rfl)
    refine own_go (fun _ k => Xz418.daload hx (j := (0 : Int32)) (v := (.double P0)) (by rw [ez418]; exact Arz420.1) (State.isArrayOf_alike hZ.alike Arz420.2.1) Arz420.2.2 hinz420 hatz420 (g := (mkF m 74 #[oR fi, oR be, oD Sc, oS, oI 0, oI 0, oI 2] [(.int 0), (.ref pe), (.double Sc), (.double B2), (.int 2), (.ref be)])) rfl rfl (hb hby own_d10_74) _ k) ?_
    show own_Go _ _ _ _ Tz418 (mkF m 75 #[oR fi, oR be, oD Sc, oS, oI 0, oI 0, oI 2] [(.double P0), (.double Sc), (.double B2), (.int 2), (.ref be)])
    refine own_go (fun _ k => XS.dmulS Xz418.here hx rfl (hb hby own_d10_75) rfl (by rw [hD0]; exact hF0.noNaN) hD0 k) ?_
    show own_Go _ _ _ _ Tz418 (mkF m 76 #[oR fi, oR be, oD Sc, oS, oI 0, oI 0, oI 2] [(.double D0), (.double B2), (.int 2), (.ref be)])
    refine own_go (fun _ k => XS.daddS Xz418.here hx rfl (hb hby own_d10_76) rfl (dadd_out hB2 hF0) rfl k) ?_
    show own_Go _ _ _ _ Tz418 (mkF m 77 #[oR fi, oR be, oD Sc, oS, oI 0, oI 0, oI 2] [(.double (FP.dadd B2 D0)), (.int 2), (.ref be)])
    obtain ⟨clz421, Arz421, qz421, Sz421, Mz421, HHz421, Gz421⟩ := V_be
    have hinz421 : ¬ ((2 : Int32) < 0 ∨ clz421.slots.size ≤ ((2 : Int32)).toNatClampNeg) := inb_of Sz421 ⟨(by decide), (by decide)⟩
    obtain ⟨Tz421, hz421, Xz421, ez421, Wz421, stz421⟩ := stD Xz418 hx hZ ez418 Arz421 (j := (2 : Int32)) hinz421 (g := (mkF m 77 #[oR fi, oR be, oD Sc, oS, oI 0, oI 0, oI 2] [(.double (FP.dadd B2 D0)), (.int 2), (.ref be)])) rfl rfl (hb hby own_d10_77)
    refine own_go stz421 ?_
    have V_be_ : Arv Z hz421 be kbe .double (3 : Int32) [(.double B0), (.double B1), (.double (FP.dadd B2 D0))] (.double 0) := Arv.set Arz421 qz421 Sz421 Mz421 HHz421 Gz421 rfl Wz421 2 rfl (Nat.le_of_ble_eq_true rfl)
    have Nz421 := Fr.snoc Xz421 N0 g_be
    have F22 := F22.other Wz421 (own_o1 lt_fi_be)
    have F18 := F18.other Wz421 (own_o1 lt_fi_be)
    have F20 := F20.other Wz421 (own_o1 lt_fi_be)
    have F30 := F30.other Wz421 (own_o1 lt_fi_be)
    have F32 := F32.other Wz421 (own_o1 lt_fi_be)
    have F4 := F4.other Wz421 (own_o1 lt_le_be)
    have F28 := F28.other Wz421 (own_o1 lt_le_be)
    have V_fl := V_fl.other Wz421 (Nat.ne_of_lt lt_fl_be)
    have V_ex := V_ex.other Wz421 (Nat.ne_of_lt lt_ex_be)
    have V_pe := V_pe.other Wz421 (Nat.ne_of_lt lt_pe_be)
    have K := K.wr Wz421 (Or.inl (List.mem_of_getElem? (i := 0) rfl))
    have V_be := V_be_
    show own_Go _ _ _ _ Tz421 (mkF m 78 #[oR fi, oR be, oD Sc, oS, oI 0, oI 0, oI 2] [])
    refine own_go (fun _ k => XS.iinc Xz421.here hx rfl (hb hby own_d10_78) rfl (l' := #[oR fi, oR be, oD Sc, oS, oI ((0 : Int32) + (1 : Int32)), oI 0, oI 2]) rfl k) ?_
    show own_Go _ _ _ _ Tz421 (mkF m 81 #[oR fi, oR be, oD Sc, oS, oI ((0 : Int32) + (1 : Int32)), oI 0, oI 2] [])
    refine own_go (fun _ k => XS.goto Xz421.here hx rfl (pc0 := 81) (pc' := 23) rfl (hb hby own_d10_81) (by decide) (by decide) k) ?_
    show own_Go _ _ _ _ Tz421 (mkF m 23 #[oR fi, oR be, oD Sc, oS, oI ((0 : Int32) + (1 : Int32)), oI 0, oI 2] [])
    show own_Go _ _ _ _ Tz421 (mkF m 23 #[oR fi, oR be, oD Sc, oS, oI 1, oI 0, oI 2] [])
    exact k2 Tz421 hz421 _ Xz421 ez421 Nz421 B0 B1 (FP.dadd B2 D0) hB0 hB1 (dadd_out hB2 hF0) (by rw [← hr0, own_el, if_neg (by decide : ¬ ((2 : Int32) = (0 : Int32)))]) (by rw [← hr1, own_el, if_neg (by decide : ¬ ((2 : Int32) = (1 : Int32)))]) (by rw [← hr2, own_el, if_pos (rfl : (2 : Int32) = (2 : Int32))]) _ K F22 F18 F20 F30 F32 F4 F28 V_fl V_ex V_pe V_be
theorem own_ef12 (m : MethodId) (ix : Int32) (b_ : UInt64) (y0 : Int32) (d0 : UInt64) (y1 : Int32) (d1 : UInt64) : entryFrame m #[(.int ix), (.double b_), (.int y0), (.double d0), (.int y1), (.double d1)] 11 = mkF m 0 #[oI ix, oD b_, oS, oI y0, oD d0, oS, oI y1, oD d1, oS, oU, oU] [] := by first | (simp [entryFrame, mkF, argsToLocals, Value.category]; done) | rfl
theorem own_d12_0 : decode method_3_code 0 = .ok (.dload_n 1, 1) := by decide +kernel
theorem own_d12_1 : decode method_3_code 1 = .ok (.dstore 9, 2) := by decide +kernel
theorem own_d12_3 : decode method_3_code 3 = .ok (.iload_n 3, 1) := by decide +kernel
theorem own_d12_4 : decode method_3_code 4 = .ok (.iconst (-1), 1) := by decide +kernel
theorem own_d12_20 : decode method_3_code 20 = .ok (.iload 6, 2) := by decide +kernel
theorem own_d12_22 : decode method_3_code 22 = .ok (.iconst (-1), 1) := by decide +kernel
theorem own_d12_23 : decode method_3_code 23 = .ok (.if_icmp .eq 16, 3) := by decide +kernel
theorem own_d12_39 : decode method_3_code 39 = .ok (.dload 9, 2) := by decide +kernel
theorem own_d12_41 : decode method_3_code 41 = .ok (.dreturn, 1) := by decide +kernel
theorem own_d12_26 : decode method_3_code 26 = .ok (.iload 6, 2) := by decide +kernel
theorem own_d12_28 : decode method_3_code 28 = .ok (.iload_n 0, 1) := by decide +kernel
theorem own_d12_29 : decode method_3_code 29 = .ok (.if_icmp .ne 10, 3) := by decide +kernel
theorem own_d12_32 : decode method_3_code 32 = .ok (.dload 9, 2) := by decide +kernel
theorem own_d12_34 : decode method_3_code 34 = .ok (.dload 7, 2) := by decide +kernel
theorem own_d12_36 : decode method_3_code 36 = .ok (.dadd, 1) := by decide +kernel
theorem own_d12_37 : decode method_3_code 37 = .ok (.dstore 9, 2) := by decide +kernel
theorem own_d12_5 : decode method_3_code 5 = .ok (.if_icmp .eq 15, 3) := by decide +kernel
theorem own_d12_8 : decode method_3_code 8 = .ok (.iload_n 3, 1) := by decide +kernel
theorem own_d12_9 : decode method_3_code 9 = .ok (.iload_n 0, 1) := by decide +kernel
theorem own_d12_10 : decode method_3_code 10 = .ok (.if_icmp .ne 10, 3) := by decide +kernel
theorem own_d12_13 : decode method_3_code 13 = .ok (.dload 9, 2) := by decide +kernel
theorem own_d12_15 : decode method_3_code 15 = .ok (.dload 4, 2) := by decide +kernel
theorem own_d12_17 : decode method_3_code 17 = .ok (.dadd, 1) := by decide +kernel
theorem own_d12_18 : decode method_3_code 18 = .ok (.dstore 9, 2) := by decide +kernel
theorem own_pn2 : plainName "com/example/spillback/spillback/FifoTurnsPinLaw" = true := by first | (simp [plainName, overriddenIn]; done) | decide +kernel
def own_Q12 (Z : State) (ix : Int32) (b_ : UInt64) (y0 : Int32) (d0 : UInt64) (y1 : Int32) (d1 : UInt64) (h0 : Heap) (n0 : Nat) (v : Option Value) (h : Heap) (L : List Loc) : Prop := v = some (.double (own_el ix y0 y1 b_ d0 d1)) ∧ Fr n0 L ∧ h = h0
set_option maxRecDepth 65536 in
set_option maxHeartbeats 40000000 in
theorem own_rm12 (l : Launch) (Z : State) (a0 : Array Value) (hw : ∀ d ∈ tables_1, d.before a0 Z = true) (ws : List Jvm.Cond) (ix : Int32) (b_ : UInt64) (y0 : Int32) (d0 : UInt64) (y1 : Int32) (d1 : UInt64) (h0 : Heap) (n0 : Nat) (hi : ¬ (ix = (-1 : Int32))) (hbb : NoNaN64 b_) (hF0 : Fin64 d0) (hF1 : Fin64 d1) :
    own_Met l Z (⟨"com/example/spillback/spillback/FifoTurnsPinLaw", "expected", "(IDIDID)D"⟩ : MethodName) method_3_code 11 (some .double) ws ({ frames := 0, cells := 0, slots := 0, locals := 0 } : Room) #[(.int ix), (.double b_), (.int y0), (.double d0), (.int y1), (.double d1)] h0 (own_Q12 Z ix b_ y0 d0 y1 d1 h0 n0) := by
  refine own_met (plainFor_of_name own_pn2) ?_
  intro p e s m below meth c s₁ X0 hx hZ hby hml hown hnm hret hlk e0
  have N0 := Fr.nil n0
  refine own_go (fun t k => castTop (own_ef12 m ix b_ y0 d0 y1 d1) k) ?_
  show own_Go _ _ _ _ s₁ (mkF m 0 #[oI ix, oD b_, oS, oI y0, oD d0, oS, oI y1, oD d1, oS, oU, oU] [])
  refine own_go (fun _ k => XS.dloadN X0.here hx rfl (hb hby own_d12_0) rfl k) ?_
  show own_Go _ _ _ _ s₁ (mkF m 1 #[oI ix, oD b_, oS, oI y0, oD d0, oS, oI y1, oD d1, oS, oU, oU] [(.double b_)])
  refine own_go (fun _ k => XS.dstore X0.here hx rfl (hb hby own_d12_1) rfl (l' := #[oI ix, oD b_, oS, oI y0, oD d0, oS, oI y1, oD d1, oS, oD b_, oS]) rfl k) ?_
  show own_Go _ _ _ _ s₁ (mkF m 3 #[oI ix, oD b_, oS, oI y0, oD d0, oS, oI y1, oD d1, oS, oD b_, oS] [])
  refine own_go (fun _ k => XS.iloadN X0.here hx rfl (hb hby own_d12_3) rfl k) ?_
  show own_Go _ _ _ _ s₁ (mkF m 4 #[oI ix, oD b_, oS, oI y0, oD d0, oS, oI y1, oD d1, oS, oD b_, oS] [(.int y0)])
  refine own_go (fun _ k => XS.iconst X0.here hx rfl (hb hby own_d12_4) k) ?_
  show own_Go _ _ _ _ s₁ (mkF m 5 #[oI ix, oD b_, oS, oI y0, oD d0, oS, oI y1, oD d1, oS, oD b_, oS] [(.int (-1 : Int32)), (.int y0)])
  have k20 : ∀ (r : UInt64) (hnr : NoNaN64 r) (hr : (if y0 = ix then FP.dadd b_ d0 else b_) = r), own_Go p e below (own_Fin s (own_Q12 Z ix b_ y0 d0 y1 d1 h0 n0) ({ frames := 0, cells := 0, slots := 0, locals := 0 } : Room).cells ({ frames := 0, cells := 0, slots := 0, locals := 0 } : Room).slots) s₁ (mkF m 20 #[oI ix, oD b_, oS, oI y0, oD d0, oS, oI y1, oD d1, oS, oD r, oS] []) := by
    intro r hnr hr
    show own_Go _ _ _ _ s₁ (mkF m 20 #[oI ix, oD b_, oS, oI y0, oD d0, oS, oI y1, oD d1, oS, oD r, oS] [])
    refine own_go (fun _ k => XS.iload X0.here hx rfl (hb hby own_d12_20) rfl k) ?_
    show own_Go _ _ _ _ s₁ (mkF m 22 #[oI ix, oD b_, oS, oI y0, oD d0, oS, oI y1, oD d1, oS, oD r, oS] [(.int y1)])
    refine own_go (fun _ k => XS.iconst X0.here hx rfl (hb hby own_d12_22) k) ?_
    show own_Go _ _ _ _ s₁ (mkF m 23 #[oI ix, oD b_, oS, oI y0, oD d0, oS, oI y1, oD d1, oS, oD r, oS] [(.int (-1 : Int32)), (.int y1)])
    by_cases hA : y1 = (-1 : Int32)
    · refine own_go (fun _ k => XS.icmpYes X0.here hx rfl (pc0 := 23) (pc' := 39) rfl (hb hby own_d12_23) rfl (teq hA).1 (by decide) (by decide) k) ?_
      show own_Go _ _ _ _ s₁ (mkF m 39 #[oI ix, oD b_, oS, oI y0, oD d0, oS, oI y1, oD d1, oS, oD r, oS] [])
      refine own_go (fun _ k => XS.dload X0.here hx rfl (hb hby own_d12_39) rfl k) ?_
      show own_Go _ _ _ _ s₁ (mkF m 41 #[oI ix, oD b_, oS, oI y0, oD d0, oS, oI y1, oD d1, oS, oD r, oS] [(.double r)])
      exact own_end X0 hlk (v := (some (.double r))) (fun h => by rw [hret] at h; cases h) (fun fs hr => retOut X0 hx hret rfl (Or.inr (Or.inr (Or.inl ⟨rfl, rfl, _, rfl⟩))) (hb hby own_d12_41) hr) (by rw [e0]; exact ⟨by rw [own_el, hr, if_neg (fun q : y1 = ix => hi (q.symm.trans hA))], N0, rfl⟩) (by decide) (by decide)
    · refine own_go (fun _ k => XS.icmpNo X0.here hx rfl (hb hby own_d12_23) rfl (feq hA).1 k) ?_
      show own_Go _ _ _ _ s₁ (mkF m 26 #[oI ix, oD b_, oS, oI y0, oD d0, oS, oI y1, oD d1, oS, oD r, oS] [])
      refine own_go (fun _ k => XS.iload X0.here hx rfl (hb hby own_d12_26) rfl k) ?_
      show own_Go _ _ _ _ s₁ (mkF m 28 #[oI ix, oD b_, oS, oI y0, oD d0, oS, oI y1, oD d1, oS, oD r, oS] [(.int y1)])
      refine own_go (fun _ k => XS.iloadN X0.here hx rfl (hb hby own_d12_28) rfl k) ?_
      show own_Go _ _ _ _ s₁ (mkF m 29 #[oI ix, oD b_, oS, oI y0, oD d0, oS, oI y1, oD d1, oS, oD r, oS] [(.int ix), (.int y1)])
      by_cases hE : y1 = ix
      · refine own_go (fun _ k => XS.icmpNo X0.here hx rfl (hb hby own_d12_29) rfl (teq hE).2 k) ?_
        show own_Go _ _ _ _ s₁ (mkF m 32 #[oI ix, oD b_, oS, oI y0, oD d0, oS, oI y1, oD d1, oS, oD r, oS] [])
        refine own_go (fun _ k => XS.dload X0.here hx rfl (hb hby own_d12_32) rfl k) ?_
        show own_Go _ _ _ _ s₁ (mkF m 34 #[oI ix, oD b_, oS, oI y0, oD d0, oS, oI y1, oD d1, oS, oD r, oS] [(.double r)])
        refine own_go (fun _ k => XS.dload X0.here hx rfl (hb hby own_d12_34) rfl k) ?_
        show own_Go _ _ _ _ s₁ (mkF m 36 #[oI ix, oD b_, oS, oI y0, oD d0, oS, oI y1, oD d1, oS, oD r, oS] [(.double d1), (.double r)])
        refine own_go (fun _ k => XS.daddS X0.here hx rfl (hb hby own_d12_36) rfl (dadd_out hnr hF1) rfl k) ?_
        show own_Go _ _ _ _ s₁ (mkF m 37 #[oI ix, oD b_, oS, oI y0, oD d0, oS, oI y1, oD d1, oS, oD r, oS] [(.double (FP.dadd r d1))])
        refine own_go (fun _ k => XS.dstore X0.here hx rfl (hb hby own_d12_37) rfl (l' := #[oI ix, oD b_, oS, oI y0, oD d0, oS, oI y1, oD d1, oS, oD (FP.dadd r d1), oS]) rfl k) ?_
        show own_Go _ _ _ _ s₁ (mkF m 39 #[oI ix, oD b_, oS, oI y0, oD d0, oS, oI y1, oD d1, oS, oD (FP.dadd r d1), oS] [])
        refine own_go (fun _ k => XS.dload X0.here hx rfl (hb hby own_d12_39) rfl k) ?_
        show own_Go _ _ _ _ s₁ (mkF m 41 #[oI ix, oD b_, oS, oI y0, oD d0, oS, oI y1, oD d1, oS, oD (FP.dadd r d1), oS] [(.double (FP.dadd r d1))])
        exact own_end X0 hlk (v := (some (.double (FP.dadd r d1)))) (fun h => by rw [hret] at h; cases h) (fun fs hr => retOut X0 hx hret rfl (Or.inr (Or.inr (Or.inl ⟨rfl, rfl, _, rfl⟩))) (hb hby own_d12_41) hr) (by rw [e0]; exact ⟨by rw [own_el, hr, if_pos hE], N0, rfl⟩) (by decide) (by decide)
      · refine own_go (fun _ k => XS.icmpYes X0.here hx rfl (pc0 := 29) (pc' := 39) rfl (hb hby own_d12_29) rfl (feq hE).2 (by decide) (by decide) k) ?_
        show own_Go _ _ _ _ s₁ (mkF m 39 #[oI ix, oD b_, oS, oI y0, oD d0, oS, oI y1, oD d1, oS, oD r, oS] [])
        refine own_go (fun _ k => XS.dload X0.here hx rfl (hb hby own_d12_39) rfl k) ?_
        show own_Go _ _ _ _ s₁ (mkF m 41 #[oI ix, oD b_, oS, oI y0, oD d0, oS, oI y1, oD d1, oS, oD r, oS] [(.double r)])
        exact own_end X0 hlk (v := (some (.double r))) (fun h => by rw [hret] at h; cases h) (fun fs hr => retOut X0 hx hret rfl (Or.inr (Or.inr (Or.inl ⟨rfl, rfl, _, rfl⟩))) (hb hby own_d12_41) hr) (by rw [e0]; exact ⟨by rw [own_el, hr, if_neg hE], N0, rfl⟩) (by decide) (by decide)
  by_cases hA : y0 = (-1 : Int32)
  · refine own_go (fun _ k => XS.icmpYes X0.here hx rfl (pc0 := 5) (pc' := 20) rfl (hb hby own_d12_5) rfl (teq hA).1 (by decide) (by decide) k) ?_
    show own_Go _ _ _ _ s₁ (mkF m 20 #[oI ix, oD b_, oS, oI y0, oD d0, oS, oI y1, oD d1, oS, oD b_, oS] [])
    exact k20 b_ hbb (if_neg (fun q : y0 = ix => hi (q.symm.trans hA)))
  · refine own_go (fun _ k => XS.icmpNo X0.here hx rfl (hb hby own_d12_5) rfl (feq hA).1 k) ?_
    show own_Go _ _ _ _ s₁ (mkF m 8 #[oI ix, oD b_, oS, oI y0, oD d0, oS, oI y1, oD d1, oS, oD b_, oS] [])
    refine own_go (fun _ k => XS.iloadN X0.here hx rfl (hb hby own_d12_8) rfl k) ?_
    show own_Go _ _ _ _ s₁ (mkF m 9 #[oI ix, oD b_, oS, oI y0, oD d0, oS, oI y1, oD d1, oS, oD b_, oS] [(.int y0)])
    refine own_go (fun _ k => XS.iloadN X0.here hx rfl (hb hby own_d12_9) rfl k) ?_
    show own_Go _ _ _ _ s₁ (mkF m 10 #[oI ix, oD b_, oS, oI y0, oD d0, oS, oI y1, oD d1, oS, oD b_, oS] [(.int ix), (.int y0)])
    by_cases hE : y0 = ix
    · refine own_go (fun _ k => XS.icmpNo X0.here hx rfl (hb hby own_d12_10) rfl (teq hE).2 k) ?_
      show own_Go _ _ _ _ s₁ (mkF m 13 #[oI ix, oD b_, oS, oI y0, oD d0, oS, oI y1, oD d1, oS, oD b_, oS] [])
      refine own_go (fun _ k => XS.dload X0.here hx rfl (hb hby own_d12_13) rfl k) ?_
      show own_Go _ _ _ _ s₁ (mkF m 15 #[oI ix, oD b_, oS, oI y0, oD d0, oS, oI y1, oD d1, oS, oD b_, oS] [(.double b_)])
      refine own_go (fun _ k => XS.dload X0.here hx rfl (hb hby own_d12_15) rfl k) ?_
      show own_Go _ _ _ _ s₁ (mkF m 17 #[oI ix, oD b_, oS, oI y0, oD d0, oS, oI y1, oD d1, oS, oD b_, oS] [(.double d0), (.double b_)])
      refine own_go (fun _ k => XS.daddS X0.here hx rfl (hb hby own_d12_17) rfl (dadd_out hbb hF0) rfl k) ?_
      show own_Go _ _ _ _ s₁ (mkF m 18 #[oI ix, oD b_, oS, oI y0, oD d0, oS, oI y1, oD d1, oS, oD b_, oS] [(.double (FP.dadd b_ d0))])
      refine own_go (fun _ k => XS.dstore X0.here hx rfl (hb hby own_d12_18) rfl (l' := #[oI ix, oD b_, oS, oI y0, oD d0, oS, oI y1, oD d1, oS, oD (FP.dadd b_ d0), oS]) rfl k) ?_
      show own_Go _ _ _ _ s₁ (mkF m 20 #[oI ix, oD b_, oS, oI y0, oD d0, oS, oI y1, oD d1, oS, oD (FP.dadd b_ d0), oS] [])
      exact k20 _ (dadd_out hbb hF0) (if_pos hE)
    · refine own_go (fun _ k => XS.icmpYes X0.here hx rfl (pc0 := 10) (pc' := 20) rfl (hb hby own_d12_10) rfl (feq hE).2 (by decide) (by decide) k) ?_
      show own_Go _ _ _ _ s₁ (mkF m 20 #[oI ix, oD b_, oS, oI y0, oD d0, oS, oI y1, oD d1, oS, oD b_, oS] [])
      exact k20 b_ hbb (if_neg hE)
theorem own_ef11 (m : MethodId) (a_ : Int32) (b_ : Int32) : entryFrame m #[(.int a_), (.int b_)] 2 = mkF m 0 #[oI a_, oI b_] [] := by first | (simp [entryFrame, mkF, argsToLocals, Value.category]; done) | rfl
theorem own_d11_0 : decode jdk_29_method_69_code 0 = .ok (.iload_n 0, 1) := by decide +kernel
theorem own_d11_1 : decode jdk_29_method_69_code 1 = .ok (.iload_n 1, 1) := by decide +kernel
theorem own_d11_2 : decode jdk_29_method_69_code 2 = .ok (.if_icmp .gt 7, 3) := by decide +kernel
theorem own_d11_9 : decode jdk_29_method_69_code 9 = .ok (.iload_n 1, 1) := by decide +kernel
theorem own_d11_10 : decode jdk_29_method_69_code 10 = .ok (.ireturn, 1) := by decide +kernel
theorem own_d11_5 : decode jdk_29_method_69_code 5 = .ok (.iload_n 0, 1) := by decide +kernel
theorem own_d11_6 : decode jdk_29_method_69_code 6 = .ok (.goto 4, 3) := by decide +kernel
def own_Q11 (Z : State) (a_ : Int32) (b_ : Int32) (h0 : Heap) (n0 : Nat) (v : Option Value) (h : Heap) (L : List Loc) : Prop := v = some (.int (if b_ < a_ then b_ else a_)) ∧ Fr n0 L ∧ h = h0
set_option maxRecDepth 65536 in
set_option maxHeartbeats 40000000 in
theorem own_rm11 (l : Launch) (Z : State) (a0 : Array Value) (hw : ∀ d ∈ tables_1, d.before a0 Z = true) (ws : List Jvm.Cond) (a_ : Int32) (b_ : Int32) (h0 : Heap) (n0 : Nat)  :
    own_Met l Z (⟨"java/lang/Math", "min", "(II)I"⟩ : MethodName) jdk_29_method_69_code 2 (some .int) ws ({ frames := 0, cells := 0, slots := 0, locals := 0 } : Room) #[(.int a_), (.int b_)] h0 (own_Q11 Z a_ b_ h0 n0) := by
  refine own_met (Jvm.Free.JP.mathPlain rfl (by decide +kernel)) ?_
  intro p e s m below meth c s₁ X0 hx hZ hby hml hown hnm hret hlk e0
  have N0 := Fr.nil n0
  refine own_go (fun t k => castTop (own_ef11 m a_ b_) k) ?_
  show own_Go _ _ _ _ s₁ (mkF m 0 #[oI a_, oI b_] [])
  refine own_go (fun _ k => XS.iloadN X0.here hx rfl (hb hby own_d11_0) rfl k) ?_
  show own_Go _ _ _ _ s₁ (mkF m 1 #[oI a_, oI b_] [(.int a_)])
  refine own_go (fun _ k => XS.iloadN X0.here hx rfl (hb hby own_d11_1) rfl k) ?_
  show own_Go _ _ _ _ s₁ (mkF m 2 #[oI a_, oI b_] [(.int b_), (.int a_)])
  by_cases hC : b_ < a_
  · refine own_go (fun _ k => XS.icmpYes X0.here hx rfl (pc0 := 2) (pc' := 9) rfl (hb hby own_d11_2) rfl (tlt hC).2.2.1 (by decide) (by decide) k) ?_
    show own_Go _ _ _ _ s₁ (mkF m 9 #[oI a_, oI b_] [])
    refine own_go (fun _ k => XS.iloadN X0.here hx rfl (hb hby own_d11_9) rfl k) ?_
    show own_Go _ _ _ _ s₁ (mkF m 10 #[oI a_, oI b_] [(.int b_)])
    exact own_end X0 hlk (v := (some (.int b_))) (fun h => by rw [hret] at h; cases h) (fun fs hr => retOut X0 hx hret rfl (Or.inl ⟨rfl, Or.inl rfl, _, rfl⟩) (hb hby own_d11_10) hr) (by rw [e0]; exact ⟨by rw [if_pos hC], N0, rfl⟩) (by decide) (by decide)
  · refine own_go (fun _ k => XS.icmpNo X0.here hx rfl (hb hby own_d11_2) rfl (flt hC).2.2.1 k) ?_
    show own_Go _ _ _ _ s₁ (mkF m 5 #[oI a_, oI b_] [])
    refine own_go (fun _ k => XS.iloadN X0.here hx rfl (hb hby own_d11_5) rfl k) ?_
    show own_Go _ _ _ _ s₁ (mkF m 6 #[oI a_, oI b_] [(.int a_)])
    refine own_go (fun _ k => XS.goto X0.here hx rfl (pc0 := 6) (pc' := 10) rfl (hb hby own_d11_6) (by decide) (by decide) k) ?_
    show own_Go _ _ _ _ s₁ (mkF m 10 #[oI a_, oI b_] [(.int a_)])
    exact own_end X0 hlk (v := (some (.int a_))) (fun h => by rw [hret] at h; cases h) (fun fs hr => retOut X0 hx hret rfl (Or.inl ⟨rfl, Or.inl rfl, _, rfl⟩) (hb hby own_d11_10) hr) (by rw [e0]; exact ⟨by rw [if_neg hC], N0, rfl⟩) (by decide) (by decide)
theorem own_fn0 : Fin64 0 := by unfold Fin64; decide
theorem own_fq : ∀ m : Fin 17, Fin64 (FP.ddiv (FP.i2d (Int32.ofNat m.1)) 4625196817309499392) := by unfold Fin64; decide +kernel
theorem own_ef0 (m : MethodId) (p1 : Int32) (p2 : Int32) (p3 : Int32) (p4 : Int32) (p5 : Int32) (p6 : Int32) : entryFrame m #[(.int p1), (.int p2), (.int p3), (.int p4), (.int p5), (.int p6)] maxLocals = mkF m 0 #[oI p1, oI p2, oI p3, oI p4, oI p5, oI p6, oU, oU, oU, oU, oU, oU, oU, oU, oU, oU, oU, oU, oU, oU, oU, oU, oU, oU, oU] [] := by first | (simp [entryFrame, mkF, argsToLocals, Value.category, maxLocals]; done) | rfl
theorem own_pd2 : parseMethodDescriptor "([I)V" = some ⟨[(.array .int)], none⟩ := by decide +kernel
theorem own_pd3 : parseMethodDescriptor "(Lcom/example/spillback/spillback/Fifo$Legs;[D[D)V" = some ⟨[(.object "com/example/spillback/spillback/Fifo$Legs"), (.array .double), (.array .double)], none⟩ := by decide +kernel
theorem own_pd4 : parseMethodDescriptor "(ID)V" = some ⟨[.int, .double], none⟩ := by decide +kernel
theorem own_pd5 : parseMethodDescriptor "(I)V" = some ⟨[.int], none⟩ := by decide +kernel
theorem own_pd6 : parseMethodDescriptor "(IDIDID)D" = some ⟨[.int, .double, .int, .double, .int, .double], some .double⟩ := by decide +kernel
theorem own_pd7 : parseMethodDescriptor "(II)I" = some ⟨[.int, .int], some .int⟩ := by decide +kernel
theorem own_pd8 : parseMethodDescriptor "(ID)D" = some ⟨[.int, .double], some .double⟩ := by decide +kernel
theorem own_pd9 : parseMethodDescriptor "([D)V" = some ⟨[(.array .double)], none⟩ := by decide +kernel
def own_Q0 (Z : State) (p1 : Int32) (h0 : Heap) (n0 : Nat) (v : Option Value) (h : Heap) (L : List Loc) : Prop := v = some (.int 1) ∧ Fr n0 L
set_option maxRecDepth 65536 in
set_option maxHeartbeats 40000000 in
theorem own_rm0 (l : Launch) (Z : State) (a0 : Array Value) (hw : ∀ d ∈ tables_1, d.before a0 Z = true) (ws : List Jvm.Cond) (p1 : Int32) (p2 : Int32) (p3 : Int32) (p4 : Int32) (p5 : Int32) (p6 : Int32) (h0 : Heap) (n0 : Nat) (O : Old Z n0 h0) :
    own_Met l Z x code maxLocals ret ws room_1 #[(.int p1), (.int p2), (.int p3), (.int p4), (.int p5), (.int p6)] h0 (own_Q0 Z p1 h0 n0) := by
  refine own_met (plainFor_of_name own_pn2) ?_
  intro p e s m below meth c s₁ X0 hx hZ hby hml hown hnm hret hlk e0
  have N0 := Fr.nil n0
  refine own_go (fun t k => castTop (own_ef0 m p1 p2 p3 p4 p5 p6) k) ?_
  show own_Go _ _ _ _ s₁ (mkF m 0 #[oI p1, oI p2, oI p3, oI p4, oI p5, oI p6, oU, oU, oU, oU, oU, oU, oU, oU, oU, oU, oU, oU, oU, oU, oU, oU, oU, oU, oU] [])
  refine own_go (fun _ k => XS.iloadN X0.here hx rfl (hb hby at_0) rfl k) ?_
  show own_Go _ _ _ _ s₁ (mkF m 1 #[oI p1, oI p2, oI p3, oI p4, oI p5, oI p6, oU, oU, oU, oU, oU, oU, oU, oU, oU, oU, oU, oU, oU, oU, oU, oU, oU, oU, oU] [(.int p1)])
  refine own_go (fun _ k => XS.bipush X0.here hx rfl (hb hby at_1) k) ?_
  show own_Go _ _ _ _ s₁ (mkF m 3 #[oI p1, oI p2, oI p3, oI p4, oI p5, oI p6, oU, oU, oU, oU, oU, oU, oU, oU, oU, oU, oU, oU, oU, oU, oU, oU, oU, oU, oU] [(.int 15), (.int p1)])
  refine own_go (fun _ k => XS.iand X0.here hx rfl (hb hby at_3) rfl k) ?_
  show own_Go _ _ _ _ s₁ (mkF m 4 #[oI p1, oI p2, oI p3, oI p4, oI p5, oI p6, oU, oU, oU, oU, oU, oU, oU, oU, oU, oU, oU, oU, oU, oU, oU, oU, oU, oU, oU] [(.int (p1 &&& (15 : Int32)))])
  refine own_go (fun _ k => XS.istore X0.here hx rfl (hb hby at_4) rfl (l' := #[oI p1, oI p2, oI p3, oI p4, oI p5, oI p6, oI (p1 &&& (15 : Int32)), oU, oU, oU, oU, oU, oU, oU, oU, oU, oU, oU, oU, oU, oU, oU, oU, oU, oU]) rfl k) ?_
  show own_Go _ _ _ _ s₁ (mkF m 6 #[oI p1, oI p2, oI p3, oI p4, oI p5, oI p6, oI (p1 &&& (15 : Int32)), oU, oU, oU, oU, oU, oU, oU, oU, oU, oU, oU, oU, oU, oU, oU, oU, oU, oU] [])
  refine own_go (fun _ k => XS.bipush X0.here hx rfl (hb hby at_6) k) ?_
  show own_Go _ _ _ _ s₁ (mkF m 8 #[oI p1, oI p2, oI p3, oI p4, oI p5, oI p6, oI (p1 &&& (15 : Int32)), oU, oU, oU, oU, oU, oU, oU, oU, oU, oU, oU, oU, oU, oU, oU, oU, oU, oU] [(.int 16)])
  refine own_go (fun _ k => XS.iload X0.here hx rfl (hb hby at_8) rfl k) ?_
  show own_Go _ _ _ _ s₁ (mkF m 10 #[oI p1, oI p2, oI p3, oI p4, oI p5, oI p6, oI (p1 &&& (15 : Int32)), oU, oU, oU, oU, oU, oU, oU, oU, oU, oU, oU, oU, oU, oU, oU, oU, oU, oU] [(.int (p1 &&& (15 : Int32))), (.int 16)])
  refine own_go (fun _ k => XS.isub X0.here hx rfl (hb hby at_10) rfl k) ?_
  show own_Go _ _ _ _ s₁ (mkF m 11 #[oI p1, oI p2, oI p3, oI p4, oI p5, oI p6, oI (p1 &&& (15 : Int32)), oU, oU, oU, oU, oU, oU, oU, oU, oU, oU, oU, oU, oU, oU, oU, oU, oU, oU] [(.int ((16 : Int32) - (p1 &&& (15 : Int32))))])
  refine own_go (fun _ k => XS.istore X0.here hx rfl (hb hby at_11) rfl (l' := #[oI p1, oI p2, oI p3, oI p4, oI p5, oI p6, oI (p1 &&& (15 : Int32)), .val (.int ((16 : Int32) - (p1 &&& (15 : Int32)))), oU, oU, oU, oU, oU, oU, oU, oU, oU, oU, oU, oU, oU, oU, oU, oU, oU]) rfl k) ?_
  show own_Go _ _ _ _ s₁ (mkF m 13 #[oI p1, oI p2, oI p3, oI p4, oI p5, oI p6, oI (p1 &&& (15 : Int32)), .val (.int ((16 : Int32) - (p1 &&& (15 : Int32)))), oU, oU, oU, oU, oU, oU, oU, oU, oU, oU, oU, oU, oU, oU, oU, oU, oU] [])
  obtain ⟨nv, hnv, hv0⟩ := own_15 p1
  rw [hv0, own_16 hnv]
  show own_Go _ _ _ _ s₁ (mkF m 13 #[oI p1, oI p2, oI p3, oI p4, oI p5, oI p6, oI (Int32.ofNat nv), oI (Int32.ofNat (16 - nv)), oU, oU, oU, oU, oU, oU, oU, oU, oU, oU, oU, oU, oU, oU, oU, oU, oU] [])
  refine own_go (fun _ k => XS.iloadN X0.here hx rfl (hb hby at_13) rfl k) ?_
  show own_Go _ _ _ _ s₁ (mkF m 14 #[oI p1, oI p2, oI p3, oI p4, oI p5, oI p6, oI (Int32.ofNat nv), oI (Int32.ofNat (16 - nv)), oU, oU, oU, oU, oU, oU, oU, oU, oU, oU, oU, oU, oU, oU, oU, oU, oU] [(.int p3)])
  refine own_go (fun _ k => XS.iconst X0.here hx rfl (hb hby at_14) k) ?_
  show own_Go _ _ _ _ s₁ (mkF m 15 #[oI p1, oI p2, oI p3, oI p4, oI p5, oI p6, oI (Int32.ofNat nv), oI (Int32.ofNat (16 - nv)), oU, oU, oU, oU, oU, oU, oU, oU, oU, oU, oU, oU, oU, oU, oU, oU, oU] [(.int 3), (.int p3)])
  refine own_go (fun _ k => XS.iand X0.here hx rfl (hb hby at_15) rfl k) ?_
  show own_Go _ _ _ _ s₁ (mkF m 16 #[oI p1, oI p2, oI p3, oI p4, oI p5, oI p6, oI (Int32.ofNat nv), oI (Int32.ofNat (16 - nv)), oU, oU, oU, oU, oU, oU, oU, oU, oU, oU, oU, oU, oU, oU, oU, oU, oU] [(.int (p3 &&& (3 : Int32)))])
  refine own_go (fun _ k => XS.iconst X0.here hx rfl (hb hby at_16) k) ?_
  show own_Go _ _ _ _ s₁ (mkF m 17 #[oI p1, oI p2, oI p3, oI p4, oI p5, oI p6, oI (Int32.ofNat nv), oI (Int32.ofNat (16 - nv)), oU, oU, oU, oU, oU, oU, oU, oU, oU, oU, oU, oU, oU, oU, oU, oU, oU] [(.int 1), (.int (p3 &&& (3 : Int32)))])
  refine own_go (fun _ k => XS.isub X0.here hx rfl (hb hby at_17) rfl k) ?_
  show own_Go _ _ _ _ s₁ (mkF m 18 #[oI p1, oI p2, oI p3, oI p4, oI p5, oI p6, oI (Int32.ofNat nv), oI (Int32.ofNat (16 - nv)), oU, oU, oU, oU, oU, oU, oU, oU, oU, oU, oU, oU, oU, oU, oU, oU, oU] [(.int ((p3 &&& (3 : Int32)) - (1 : Int32)))])
  refine own_go (fun _ k => XS.istore X0.here hx rfl (hb hby at_18) rfl (l' := #[oI p1, oI p2, oI p3, oI p4, oI p5, oI p6, oI (Int32.ofNat nv), oI (Int32.ofNat (16 - nv)), .val (.int ((p3 &&& (3 : Int32)) - (1 : Int32))), oU, oU, oU, oU, oU, oU, oU, oU, oU, oU, oU, oU, oU, oU, oU, oU]) rfl k) ?_
  show own_Go _ _ _ _ s₁ (mkF m 20 #[oI p1, oI p2, oI p3, oI p4, oI p5, oI p6, oI (Int32.ofNat nv), oI (Int32.ofNat (16 - nv)), .val (.int ((p3 &&& (3 : Int32)) - (1 : Int32))), oU, oU, oU, oU, oU, oU, oU, oU, oU, oU, oU, oU, oU, oU, oU, oU] [])
  obtain ⟨y0, h_y0⟩ : ∃ z, z = ((p3 &&& (3 : Int32)) - (1 : Int32)) := ⟨_, rfl⟩
  have he0 := own_four p3
  rw [← h_y0] at he0
  rw [← h_y0]
  clear h_y0
  show own_Go _ _ _ _ s₁ (mkF m 20 #[oI p1, oI p2, oI p3, oI p4, oI p5, oI p6, oI (Int32.ofNat nv), oI (Int32.ofNat (16 - nv)), oI y0, oU, oU, oU, oU, oU, oU, oU, oU, oU, oU, oU, oU, oU, oU, oU, oU] [])
  refine own_go (fun _ k => XS.iloadN X0.here hx rfl (hb hby at_20) rfl k) ?_
  show own_Go _ _ _ _ s₁ (mkF m 21 #[oI p1, oI p2, oI p3, oI p4, oI p5, oI p6, oI (Int32.ofNat nv), oI (Int32.ofNat (16 - nv)), oI y0, oU, oU, oU, oU, oU, oU, oU, oU, oU, oU, oU, oU, oU, oU, oU, oU] [(.int p3)])
  refine own_go (fun _ k => XS.iconst X0.here hx rfl (hb hby at_21) k) ?_
  show own_Go _ _ _ _ s₁ (mkF m 22 #[oI p1, oI p2, oI p3, oI p4, oI p5, oI p6, oI (Int32.ofNat nv), oI (Int32.ofNat (16 - nv)), oI y0, oU, oU, oU, oU, oU, oU, oU, oU, oU, oU, oU, oU, oU, oU, oU, oU] [(.int 2), (.int p3)])
  refine own_go (fun _ k => XS.iushr X0.here hx rfl (hb hby at_22) rfl k) ?_
  show own_Go _ _ _ _ s₁ (mkF m 23 #[oI p1, oI p2, oI p3, oI p4, oI p5, oI p6, oI (Int32.ofNat nv), oI (Int32.ofNat (16 - nv)), oI y0, oU, oU, oU, oU, oU, oU, oU, oU, oU, oU, oU, oU, oU, oU, oU, oU] [(.int ((p3.toUInt32 >>> ((2 : Int32) &&& 31).toUInt32).toInt32))])
  refine own_go (fun _ k => XS.iconst X0.here hx rfl (hb hby at_23) k) ?_
  show own_Go _ _ _ _ s₁ (mkF m 24 #[oI p1, oI p2, oI p3, oI p4, oI p5, oI p6, oI (Int32.ofNat nv), oI (Int32.ofNat (16 - nv)), oI y0, oU, oU, oU, oU, oU, oU, oU, oU, oU, oU, oU, oU, oU, oU, oU, oU] [(.int 3), (.int ((p3.toUInt32 >>> ((2 : Int32) &&& 31).toUInt32).toInt32))])
  refine own_go (fun _ k => XS.iand X0.here hx rfl (hb hby at_24) rfl k) ?_
  show own_Go _ _ _ _ s₁ (mkF m 25 #[oI p1, oI p2, oI p3, oI p4, oI p5, oI p6, oI (Int32.ofNat nv), oI (Int32.ofNat (16 - nv)), oI y0, oU, oU, oU, oU, oU, oU, oU, oU, oU, oU, oU, oU, oU, oU, oU, oU] [(.int (((p3.toUInt32 >>> ((2 : Int32) &&& 31).toUInt32).toInt32) &&& (3 : Int32)))])
  refine own_go (fun _ k => XS.iconst X0.here hx rfl (hb hby at_25) k) ?_
  show own_Go _ _ _ _ s₁ (mkF m 26 #[oI p1, oI p2, oI p3, oI p4, oI p5, oI p6, oI (Int32.ofNat nv), oI (Int32.ofNat (16 - nv)), oI y0, oU, oU, oU, oU, oU, oU, oU, oU, oU, oU, oU, oU, oU, oU, oU, oU] [(.int 1), (.int (((p3.toUInt32 >>> ((2 : Int32) &&& 31).toUInt32).toInt32) &&& (3 : Int32)))])
  refine own_go (fun _ k => XS.isub X0.here hx rfl (hb hby at_26) rfl k) ?_
  show own_Go _ _ _ _ s₁ (mkF m 27 #[oI p1, oI p2, oI p3, oI p4, oI p5, oI p6, oI (Int32.ofNat nv), oI (Int32.ofNat (16 - nv)), oI y0, oU, oU, oU, oU, oU, oU, oU, oU, oU, oU, oU, oU, oU, oU, oU, oU] [(.int ((((p3.toUInt32 >>> ((2 : Int32) &&& 31).toUInt32).toInt32) &&& (3 : Int32)) - (1 : Int32)))])
  refine own_go (fun _ k => XS.istore X0.here hx rfl (hb hby at_27) rfl (l' := #[oI p1, oI p2, oI p3, oI p4, oI p5, oI p6, oI (Int32.ofNat nv), oI (Int32.ofNat (16 - nv)), oI y0, .val (.int ((((p3.toUInt32 >>> ((2 : Int32) &&& 31).toUInt32).toInt32) &&& (3 : Int32)) - (1 : Int32))), oU, oU, oU, oU, oU, oU, oU, oU, oU, oU, oU, oU, oU, oU, oU]) rfl k) ?_
  show own_Go _ _ _ _ s₁ (mkF m 29 #[oI p1, oI p2, oI p3, oI p4, oI p5, oI p6, oI (Int32.ofNat nv), oI (Int32.ofNat (16 - nv)), oI y0, .val (.int ((((p3.toUInt32 >>> ((2 : Int32) &&& 31).toUInt32).toInt32) &&& (3 : Int32)) - (1 : Int32))), oU, oU, oU, oU, oU, oU, oU, oU, oU, oU, oU, oU, oU, oU, oU] [])
  obtain ⟨y1, h_y1⟩ : ∃ z, z = ((((p3.toUInt32 >>> ((2 : Int32) &&& 31).toUInt32).toInt32) &&& (3 : Int32)) - (1 : Int32)) := ⟨_, rfl⟩
  have he1 := own_four ((p3.toUInt32 >>> ((2 : Int32) &&& 31).toUInt32).toInt32)
  rw [← h_y1] at he1
  rw [← h_y1]
  clear h_y1
  show own_Go _ _ _ _ s₁ (mkF m 29 #[oI p1, oI p2, oI p3, oI p4, oI p5, oI p6, oI (Int32.ofNat nv), oI (Int32.ofNat (16 - nv)), oI y0, oI y1, oU, oU, oU, oU, oU, oU, oU, oU, oU, oU, oU, oU, oU, oU, oU] [])
  refine own_go (fun _ k => XS.iloadN X0.here hx rfl (hb hby at_29) rfl k) ?_
  show own_Go _ _ _ _ s₁ (mkF m 30 #[oI p1, oI p2, oI p3, oI p4, oI p5, oI p6, oI (Int32.ofNat nv), oI (Int32.ofNat (16 - nv)), oI y0, oI y1, oU, oU, oU, oU, oU, oU, oU, oU, oU, oU, oU, oU, oU, oU, oU] [(.int p3)])
  refine own_go (fun _ k => XS.iconst X0.here hx rfl (hb hby at_30) k) ?_
  show own_Go _ _ _ _ s₁ (mkF m 31 #[oI p1, oI p2, oI p3, oI p4, oI p5, oI p6, oI (Int32.ofNat nv), oI (Int32.ofNat (16 - nv)), oI y0, oI y1, oU, oU, oU, oU, oU, oU, oU, oU, oU, oU, oU, oU, oU, oU, oU] [(.int 4), (.int p3)])
  refine own_go (fun _ k => XS.iushr X0.here hx rfl (hb hby at_31) rfl k) ?_
  show own_Go _ _ _ _ s₁ (mkF m 32 #[oI p1, oI p2, oI p3, oI p4, oI p5, oI p6, oI (Int32.ofNat nv), oI (Int32.ofNat (16 - nv)), oI y0, oI y1, oU, oU, oU, oU, oU, oU, oU, oU, oU, oU, oU, oU, oU, oU, oU] [(.int ((p3.toUInt32 >>> ((4 : Int32) &&& 31).toUInt32).toInt32))])
  refine own_go (fun _ k => XS.iconst X0.here hx rfl (hb hby at_32) k) ?_
  show own_Go _ _ _ _ s₁ (mkF m 33 #[oI p1, oI p2, oI p3, oI p4, oI p5, oI p6, oI (Int32.ofNat nv), oI (Int32.ofNat (16 - nv)), oI y0, oI y1, oU, oU, oU, oU, oU, oU, oU, oU, oU, oU, oU, oU, oU, oU, oU] [(.int 1), (.int ((p3.toUInt32 >>> ((4 : Int32) &&& 31).toUInt32).toInt32))])
  refine own_go (fun _ k => XS.iand X0.here hx rfl (hb hby at_33) rfl k) ?_
  show own_Go _ _ _ _ s₁ (mkF m 34 #[oI p1, oI p2, oI p3, oI p4, oI p5, oI p6, oI (Int32.ofNat nv), oI (Int32.ofNat (16 - nv)), oI y0, oI y1, oU, oU, oU, oU, oU, oU, oU, oU, oU, oU, oU, oU, oU, oU, oU] [(.int (((p3.toUInt32 >>> ((4 : Int32) &&& 31).toUInt32).toInt32) &&& (1 : Int32)))])
  refine own_dia (α := Int32) (C := (((p3.toUInt32 >>> ((4 : Int32) &&& 31).toUInt32).toInt32) &&& (1 : Int32)) = (0 : Int32)) (v1 := (0 : Int32)) (v0 := (1 : Int32)) (f := fun v => (mkF m 42 #[oI p1, oI p2, oI p3, oI p4, oI p5, oI p6, oI (Int32.ofNat nv), oI (Int32.ofNat (16 - nv)), oI y0, oI y1, oU, oU, oU, oU, oU, oU, oU, oU, oU, oU, oU, oU, oU, oU, oU] ((.int v) :: []))) (T' := s₁) (fun hC k => ?_) (fun hC k => ?_) ?_
  · show own_Go _ _ _ _ s₁ (mkF m 34 #[oI p1, oI p2, oI p3, oI p4, oI p5, oI p6, oI (Int32.ofNat nv), oI (Int32.ofNat (16 - nv)), oI y0, oI y1, oU, oU, oU, oU, oU, oU, oU, oU, oU, oU, oU, oU, oU, oU, oU] [(.int (((p3.toUInt32 >>> ((4 : Int32) &&& 31).toUInt32).toInt32) &&& (1 : Int32)))])
    refine own_go (fun _ k => XS.ifYes X0.here hx rfl (pc0 := 34) (pc' := 41) rfl (hb hby at_34) rfl ((if0 _ _).trans (teq hC).1) (by decide) (by decide) k) ?_
    show own_Go _ _ _ _ s₁ (mkF m 41 #[oI p1, oI p2, oI p3, oI p4, oI p5, oI p6, oI (Int32.ofNat nv), oI (Int32.ofNat (16 - nv)), oI y0, oI y1, oU, oU, oU, oU, oU, oU, oU, oU, oU, oU, oU, oU, oU, oU, oU] [])
    refine own_go (fun _ k => XS.iconst X0.here hx rfl (hb hby at_41) k) ?_
    show own_Go _ _ _ _ s₁ (mkF m 42 #[oI p1, oI p2, oI p3, oI p4, oI p5, oI p6, oI (Int32.ofNat nv), oI (Int32.ofNat (16 - nv)), oI y0, oI y1, oU, oU, oU, oU, oU, oU, oU, oU, oU, oU, oU, oU, oU, oU, oU] [(.int 0)])
    exact k
  · show own_Go _ _ _ _ s₁ (mkF m 34 #[oI p1, oI p2, oI p3, oI p4, oI p5, oI p6, oI (Int32.ofNat nv), oI (Int32.ofNat (16 - nv)), oI y0, oI y1, oU, oU, oU, oU, oU, oU, oU, oU, oU, oU, oU, oU, oU, oU, oU] [(.int (((p3.toUInt32 >>> ((4 : Int32) &&& 31).toUInt32).toInt32) &&& (1 : Int32)))])
    refine own_go (fun _ k => XS.ifNo X0.here hx rfl (hb hby at_34) rfl ((if0 _ _).trans (feq hC).1) k) ?_
    show own_Go _ _ _ _ s₁ (mkF m 37 #[oI p1, oI p2, oI p3, oI p4, oI p5, oI p6, oI (Int32.ofNat nv), oI (Int32.ofNat (16 - nv)), oI y0, oI y1, oU, oU, oU, oU, oU, oU, oU, oU, oU, oU, oU, oU, oU, oU, oU] [])
    refine own_go (fun _ k => XS.iconst X0.here hx rfl (hb hby at_37) k) ?_
    show own_Go _ _ _ _ s₁ (mkF m 38 #[oI p1, oI p2, oI p3, oI p4, oI p5, oI p6, oI (Int32.ofNat nv), oI (Int32.ofNat (16 - nv)), oI y0, oI y1, oU, oU, oU, oU, oU, oU, oU, oU, oU, oU, oU, oU, oU, oU, oU] [(.int 1)])
    refine own_go (fun _ k => XS.goto X0.here hx rfl (pc0 := 38) (pc' := 42) rfl (hb hby at_38) (by decide) (by decide) k) ?_
    show own_Go _ _ _ _ s₁ (mkF m 42 #[oI p1, oI p2, oI p3, oI p4, oI p5, oI p6, oI (Int32.ofNat nv), oI (Int32.ofNat (16 - nv)), oI y0, oI y1, oU, oU, oU, oU, oU, oU, oU, oU, oU, oU, oU, oU, oU, oU, oU] [(.int 1)])
    exact k
  show own_Go _ _ _ _ s₁ (mkF m 42 #[oI p1, oI p2, oI p3, oI p4, oI p5, oI p6, oI (Int32.ofNat nv), oI (Int32.ofNat (16 - nv)), oI y0, oI y1, oU, oU, oU, oU, oU, oU, oU, oU, oU, oU, oU, oU, oU, oU, oU] [(.int (if (((p3.toUInt32 >>> ((4 : Int32) &&& 31).toUInt32).toInt32) &&& (1 : Int32)) = (0 : Int32) then (0 : Int32) else (1 : Int32)))])
  obtain ⟨tw, h_tw⟩ : ∃ z, z = (if (((p3.toUInt32 >>> ((4 : Int32) &&& 31).toUInt32).toInt32) &&& (1 : Int32)) = (0 : Int32) then (0 : Int32) else (1 : Int32)) := ⟨_, rfl⟩
  rw [← h_tw]
  clear h_tw
  show own_Go _ _ _ _ s₁ (mkF m 42 #[oI p1, oI p2, oI p3, oI p4, oI p5, oI p6, oI (Int32.ofNat nv), oI (Int32.ofNat (16 - nv)), oI y0, oI y1, oU, oU, oU, oU, oU, oU, oU, oU, oU, oU, oU, oU, oU, oU, oU] [(.int tw)])
  refine own_go (fun _ k => XS.istore X0.here hx rfl (hb hby at_42) rfl (l' := #[oI p1, oI p2, oI p3, oI p4, oI p5, oI p6, oI (Int32.ofNat nv), oI (Int32.ofNat (16 - nv)), oI y0, oI y1, oI tw, oU, oU, oU, oU, oU, oU, oU, oU, oU, oU, oU, oU, oU, oU]) rfl k) ?_
  show own_Go _ _ _ _ s₁ (mkF m 44 #[oI p1, oI p2, oI p3, oI p4, oI p5, oI p6, oI (Int32.ofNat nv), oI (Int32.ofNat (16 - nv)), oI y0, oI y1, oI tw, oU, oU, oU, oU, oU, oU, oU, oU, oU, oU, oU, oU, oU, oU] [])
  refine own_go (fun _ k => XS.iloadN X0.here hx rfl (hb hby at_44) rfl k) ?_
  show own_Go _ _ _ _ s₁ (mkF m 45 #[oI p1, oI p2, oI p3, oI p4, oI p5, oI p6, oI (Int32.ofNat nv), oI (Int32.ofNat (16 - nv)), oI y0, oI y1, oI tw, oU, oU, oU, oU, oU, oU, oU, oU, oU, oU, oU, oU, oU, oU] [(.int p4)])
  refine own_go (fun _ k => XS.i2dS X0.here hx rfl (hb hby at_45) rfl rfl k) ?_
  show own_Go _ _ _ _ s₁ (mkF m 46 #[oI p1, oI p2, oI p3, oI p4, oI p5, oI p6, oI (Int32.ofNat nv), oI (Int32.ofNat (16 - nv)), oI y0, oI y1, oI tw, oU, oU, oU, oU, oU, oU, oU, oU, oU, oU, oU, oU, oU, oU] [(.double (FP.i2d p4))])
  obtain ⟨B0, h_B0⟩ : ∃ z, z = (FP.i2d p4) := ⟨_, rfl⟩
  rw [← h_B0]
  show own_Go _ _ _ _ s₁ (mkF m 46 #[oI p1, oI p2, oI p3, oI p4, oI p5, oI p6, oI (Int32.ofNat nv), oI (Int32.ofNat (16 - nv)), oI y0, oI y1, oI tw, oU, oU, oU, oU, oU, oU, oU, oU, oU, oU, oU, oU, oU, oU] [(.double B0)])
  have hB0 : NoNaN64 B0 := by rw [h_B0]; exact own_cN _
  refine own_go (fun _ k => XS.dstore X0.here hx rfl (hb hby at_46) rfl (l' := #[oI p1, oI p2, oI p3, oI p4, oI p5, oI p6, oI (Int32.ofNat nv), oI (Int32.ofNat (16 - nv)), oI y0, oI y1, oI tw, oD B0, oS, oU, oU, oU, oU, oU, oU, oU, oU, oU, oU, oU, oU]) rfl k) ?_
  show own_Go _ _ _ _ s₁ (mkF m 48 #[oI p1, oI p2, oI p3, oI p4, oI p5, oI p6, oI (Int32.ofNat nv), oI (Int32.ofNat (16 - nv)), oI y0, oI y1, oI tw, oD B0, oS, oU, oU, oU, oU, oU, oU, oU, oU, oU, oU, oU, oU] [])
  refine own_go (fun _ k => XS.iload X0.here hx rfl (hb hby at_48) rfl k) ?_
  show own_Go _ _ _ _ s₁ (mkF m 50 #[oI p1, oI p2, oI p3, oI p4, oI p5, oI p6, oI (Int32.ofNat nv), oI (Int32.ofNat (16 - nv)), oI y0, oI y1, oI tw, oD B0, oS, oU, oU, oU, oU, oU, oU, oU, oU, oU, oU, oU, oU] [(.int p5)])
  refine own_go (fun _ k => XS.i2dS X0.here hx rfl (hb hby at_50) rfl rfl k) ?_
  show own_Go _ _ _ _ s₁ (mkF m 51 #[oI p1, oI p2, oI p3, oI p4, oI p5, oI p6, oI (Int32.ofNat nv), oI (Int32.ofNat (16 - nv)), oI y0, oI y1, oI tw, oD B0, oS, oU, oU, oU, oU, oU, oU, oU, oU, oU, oU, oU, oU] [(.double (FP.i2d p5))])
  obtain ⟨B1, h_B1⟩ : ∃ z, z = (FP.i2d p5) := ⟨_, rfl⟩
  rw [← h_B1]
  show own_Go _ _ _ _ s₁ (mkF m 51 #[oI p1, oI p2, oI p3, oI p4, oI p5, oI p6, oI (Int32.ofNat nv), oI (Int32.ofNat (16 - nv)), oI y0, oI y1, oI tw, oD B0, oS, oU, oU, oU, oU, oU, oU, oU, oU, oU, oU, oU, oU] [(.double B1)])
  have hB1 : NoNaN64 B1 := by rw [h_B1]; exact own_cN _
  refine own_go (fun _ k => XS.dstore X0.here hx rfl (hb hby at_51) rfl (l' := #[oI p1, oI p2, oI p3, oI p4, oI p5, oI p6, oI (Int32.ofNat nv), oI (Int32.ofNat (16 - nv)), oI y0, oI y1, oI tw, oD B0, oS, oD B1, oS, oU, oU, oU, oU, oU, oU, oU, oU, oU, oU]) rfl k) ?_
  show own_Go _ _ _ _ s₁ (mkF m 53 #[oI p1, oI p2, oI p3, oI p4, oI p5, oI p6, oI (Int32.ofNat nv), oI (Int32.ofNat (16 - nv)), oI y0, oI y1, oI tw, oD B0, oS, oD B1, oS, oU, oU, oU, oU, oU, oU, oU, oU, oU, oU] [])
  refine own_go (fun _ k => XS.iload X0.here hx rfl (hb hby at_53) rfl k) ?_
  show own_Go _ _ _ _ s₁ (mkF m 55 #[oI p1, oI p2, oI p3, oI p4, oI p5, oI p6, oI (Int32.ofNat nv), oI (Int32.ofNat (16 - nv)), oI y0, oI y1, oI tw, oD B0, oS, oD B1, oS, oU, oU, oU, oU, oU, oU, oU, oU, oU, oU] [(.int p6)])
  refine own_go (fun _ k => XS.i2dS X0.here hx rfl (hb hby at_55) rfl rfl k) ?_
  show own_Go _ _ _ _ s₁ (mkF m 56 #[oI p1, oI p2, oI p3, oI p4, oI p5, oI p6, oI (Int32.ofNat nv), oI (Int32.ofNat (16 - nv)), oI y0, oI y1, oI tw, oD B0, oS, oD B1, oS, oU, oU, oU, oU, oU, oU, oU, oU, oU, oU] [(.double (FP.i2d p6))])
  obtain ⟨B2, h_B2⟩ : ∃ z, z = (FP.i2d p6) := ⟨_, rfl⟩
  rw [← h_B2]
  show own_Go _ _ _ _ s₁ (mkF m 56 #[oI p1, oI p2, oI p3, oI p4, oI p5, oI p6, oI (Int32.ofNat nv), oI (Int32.ofNat (16 - nv)), oI y0, oI y1, oI tw, oD B0, oS, oD B1, oS, oU, oU, oU, oU, oU, oU, oU, oU, oU, oU] [(.double B2)])
  have hB2 : NoNaN64 B2 := by rw [h_B2]; exact own_cN _
  refine own_go (fun _ k => XS.dstore X0.here hx rfl (hb hby at_56) rfl (l' := #[oI p1, oI p2, oI p3, oI p4, oI p5, oI p6, oI (Int32.ofNat nv), oI (Int32.ofNat (16 - nv)), oI y0, oI y1, oI tw, oD B0, oS, oD B1, oS, oD B2, oS, oU, oU, oU, oU, oU, oU, oU, oU]) rfl k) ?_
  show own_Go _ _ _ _ s₁ (mkF m 58 #[oI p1, oI p2, oI p3, oI p4, oI p5, oI p6, oI (Int32.ofNat nv), oI (Int32.ofNat (16 - nv)), oI y0, oI y1, oI tw, oD B0, oS, oD B1, oS, oD B2, oS, oU, oU, oU, oU, oU, oU, oU, oU] [])
  obtain ⟨Tz422, hz422, Xz422, ez422, Ez422, Az422, Dz422, -, stz422⟩ := newO X0 hx hZ hown (hw _ (List.mem_of_getElem? (i := 0) rfl)) (hw _ (List.mem_of_getElem? (i := 1) rfl)) (hw _ (List.mem_of_getElem? (i := 2) rfl)) e0 (g := (mkF m 58 #[oI p1, oI p2, oI p3, oI p4, oI p5, oI p6, oI (Int32.ofNat nv), oI (Int32.ofNat (16 - nv)), oI y0, oI y1, oI tw, oD B0, oS, oD B1, oS, oD B2, oS, oU, oU, oU, oU, oU, oU, oU, oU] [])) rfl (hb hby at_58) (by decide) (by decide)
  obtain ⟨le, gz422⟩ : ∃ z, z = h0.size := ⟨_, rfl⟩
  rw [← gz422] at Az422 Dz422 stz422
  have g_le : n0 ≤ le := by rw [gz422, ← O.1]; exact O.2.1
  have O := O.ext Ez422
  refine own_go stz422 ?_
  have E_le := Az422
  have F4 : Fld Z hz422 le "com/example/spillback/spillback/Fifo$Legs" "exits" "[I" .null := Dz422 (Or.inr (hw _ (List.mem_of_getElem? (i := 11) rfl))) (ty := (.array .int)) (by decide)
  have F14 : Fld Z hz422 le "com/example/spillback/spillback/Fifo$Legs" "joined" "[D" .null := Dz422 (Or.inr (hw _ (List.mem_of_getElem? (i := 14) rfl))) (ty := (.array .double)) (by decide)
  have F8 : Fld Z hz422 le "com/example/spillback/spillback/Fifo$Legs" "gone" "[D" .null := Dz422 (Or.inr (hw _ (List.mem_of_getElem? (i := 16) rfl))) (ty := (.array .double)) (by decide)
  have F28 : Fld Z hz422 le "com/example/spillback/spillback/Fifo$Legs" "pending" "[D" .null := Dz422 (Or.inr (hw _ (List.mem_of_getElem? (i := 18) rfl))) (ty := (.array .double)) (by decide)
  have F24 : Fld Z hz422 le "com/example/spillback/spillback/Fifo$Legs" "listed" "[Z" .null := Dz422 (Or.inr (hw _ (List.mem_of_getElem? (i := 21) rfl))) (ty := (.array .boolean)) (by decide)
  show own_Go _ _ _ _ Tz422 (mkF m 61 #[oI p1, oI p2, oI p3, oI p4, oI p5, oI p6, oI (Int32.ofNat nv), oI (Int32.ofNat (16 - nv)), oI y0, oI y1, oI tw, oD B0, oS, oD B1, oS, oD B2, oS, oU, oU, oU, oU, oU, oU, oU, oU] [(.ref le)])
  refine own_go (fun _ k => XS.dup Xz422.here hx rfl (hb hby at_61) rfl rfl k) ?_
  show own_Go _ _ _ _ Tz422 (mkF m 62 #[oI p1, oI p2, oI p3, oI p4, oI p5, oI p6, oI (Int32.ofNat nv), oI (Int32.ofNat (16 - nv)), oI y0, oI y1, oI tw, oD B0, oS, oD B1, oS, oD B2, oS, oU, oU, oU, oU, oU, oU, oU, oU] [(.ref le), (.ref le)])
  refine own_go (fun _ k => XS.iconst Xz422.here hx rfl (hb hby at_62) k) ?_
  show own_Go _ _ _ _ Tz422 (mkF m 63 #[oI p1, oI p2, oI p3, oI p4, oI p5, oI p6, oI (Int32.ofNat nv), oI (Int32.ofNat (16 - nv)), oI y0, oI y1, oI tw, oD B0, oS, oD B1, oS, oD B2, oS, oU, oU, oU, oU, oU, oU, oU, oU] [(.int 2), (.ref le), (.ref le)])
  obtain ⟨Tz423, hz423, kz423, Xz423, ez423, Ez423, Az423, stz423⟩ := newP Xz422 hx hZ (hw _ (List.mem_of_getElem? (i := 3) rfl)) ez422 (g := (mkF m 63 #[oI p1, oI p2, oI p3, oI p4, oI p5, oI p6, oI (Int32.ofNat nv), oI (Int32.ofNat (16 - nv)), oI y0, oI y1, oI tw, oD B0, oS, oD B1, oS, oD B2, oS, oU, oU, oU, oU, oU, oU, oU, oU] [(.int 2), (.ref le), (.ref le)])) rfl (hb hby at_63) rfl (by decide) (cap := 2) (by decide) (by decide) (by decide) (by decide)
  obtain ⟨ex, gz423⟩ : ∃ z, z = hz422.size := ⟨_, rfl⟩
  rw [← gz423] at Az423 stz423
  have lt_le_ex : @LT.lt Nat _ le ex := Nat.lt_of_lt_of_le E_le.lt (Nat.le_of_eq gz423.symm)
  have g_ex : n0 ≤ ex := by rw [gz423, ← O.1]; exact O.2.1
  have O := O.ext Ez423
  have E_le := E_le.ext Ez423
  have F4 := F4.ext Ez423
  have F14 := F14.ext Ez423
  have F8 := F8.ext Ez423
  have F28 := F28.ext Ez423
  have F24 := F24.ext Ez423
  refine own_go stz423 ?_
  have V_ex : Arv Z hz423 ex kz423 .int 2 [(.int 0), (.int 0)] (.int 0) := (Arv.new Az423 (by decide)).pad (pad_rep [] (.int 0) 2)
  show own_Go _ _ _ _ Tz423 (mkF m 65 #[oI p1, oI p2, oI p3, oI p4, oI p5, oI p6, oI (Int32.ofNat nv), oI (Int32.ofNat (16 - nv)), oI y0, oI y1, oI tw, oD B0, oS, oD B1, oS, oD B2, oS, oU, oU, oU, oU, oU, oU, oU, oU] [(.ref ex), (.ref le), (.ref le)])
  obtain ⟨kex, rfl⟩ : ∃ z, z = kz423 := ⟨_, rfl⟩
  refine own_go (fun _ k => XS.dup Xz423.here hx rfl (hb hby at_65) rfl rfl k) ?_
  show own_Go _ _ _ _ Tz423 (mkF m 66 #[oI p1, oI p2, oI p3, oI p4, oI p5, oI p6, oI (Int32.ofNat nv), oI (Int32.ofNat (16 - nv)), oI y0, oI y1, oI tw, oD B0, oS, oD B1, oS, oD B2, oS, oU, oU, oU, oU, oU, oU, oU, oU] [(.ref ex), (.ref ex), (.ref le), (.ref le)])
  refine own_go (fun _ k => XS.iconst Xz423.here hx rfl (hb hby at_66) k) ?_
  show own_Go _ _ _ _ Tz423 (mkF m 67 #[oI p1, oI p2, oI p3, oI p4, oI p5, oI p6, oI (Int32.ofNat nv), oI (Int32.ofNat (16 - nv)), oI y0, oI y1, oI tw, oD B0, oS, oD B1, oS, oD B2, oS, oU, oU, oU, oU, oU, oU, oU, oU] [(.int 0), (.ref ex), (.ref ex), (.ref le), (.ref le)])
  refine own_go (fun _ k => XS.iload Xz423.here hx rfl (hb hby at_67) rfl k) ?_
  show own_Go _ _ _ _ Tz423 (mkF m 69 #[oI p1, oI p2, oI p3, oI p4, oI p5, oI p6, oI (Int32.ofNat nv), oI (Int32.ofNat (16 - nv)), oI y0, oI y1, oI tw, oD B0, oS, oD B1, oS, oD B2, oS, oU, oU, oU, oU, oU, oU, oU, oU] [(.int y0), (.int 0), (.ref ex), (.ref ex), (.ref le), (.ref le)])
  obtain ⟨clz424, Arz424, qz424, Sz424, Mz424, HHz424, Gz424⟩ := V_ex
  have hinz424 : ¬ ((0 : Int32) < 0 ∨ clz424.slots.size ≤ ((0 : Int32)).toNatClampNeg) := inb_of Sz424 ⟨(by decide), (by decide)⟩
  obtain ⟨Tz424, hz424, Xz424, ez424, Wz424, stz424⟩ := stI Xz423 hx hZ ez423 Arz424 (j := (0 : Int32)) hinz424 (g := (mkF m 69 #[oI p1, oI p2, oI p3, oI p4, oI p5, oI p6, oI (Int32.ofNat nv), oI (Int32.ofNat (16 - nv)), oI y0, oI y1, oI tw, oD B0, oS, oD B1, oS, oD B2, oS, oU, oU, oU, oU, oU, oU, oU, oU] [(.int y0), (.int 0), (.ref ex), (.ref ex), (.ref le), (.ref le)])) rfl rfl (hb hby at_69)
  refine own_go stz424 ?_
  have V_ex_ : Arv Z hz424 ex kex .int 2 [(.int y0), (.int 0)] (.int 0) := Arv.set Arz424 qz424 Sz424 Mz424 HHz424 Gz424 rfl Wz424 0 rfl (Nat.le_of_ble_eq_true rfl)
  have Nz424 := Fr.snoc Xz424 N0 g_ex
  have O := O.wr Wz424 g_ex
  have E_le := E_le.wr Wz424
  have F4 := F4.other Wz424 (own_o1 lt_le_ex)
  have F14 := F14.other Wz424 (own_o1 lt_le_ex)
  have F8 := F8.other Wz424 (own_o1 lt_le_ex)
  have F28 := F28.other Wz424 (own_o1 lt_le_ex)
  have F24 := F24.other Wz424 (own_o1 lt_le_ex)
  have V_ex := V_ex_
  show own_Go _ _ _ _ Tz424 (mkF m 70 #[oI p1, oI p2, oI p3, oI p4, oI p5, oI p6, oI (Int32.ofNat nv), oI (Int32.ofNat (16 - nv)), oI y0, oI y1, oI tw, oD B0, oS, oD B1, oS, oD B2, oS, oU, oU, oU, oU, oU, oU, oU, oU] [(.ref ex), (.ref le), (.ref le)])
  refine own_go (fun _ k => XS.dup Xz424.here hx rfl (hb hby at_70) rfl rfl k) ?_
  show own_Go _ _ _ _ Tz424 (mkF m 71 #[oI p1, oI p2, oI p3, oI p4, oI p5, oI p6, oI (Int32.ofNat nv), oI (Int32.ofNat (16 - nv)), oI y0, oI y1, oI tw, oD B0, oS, oD B1, oS, oD B2, oS, oU, oU, oU, oU, oU, oU, oU, oU] [(.ref ex), (.ref ex), (.ref le), (.ref le)])
  refine own_go (fun _ k => XS.iconst Xz424.here hx rfl (hb hby at_71) k) ?_
  show own_Go _ _ _ _ Tz424 (mkF m 72 #[oI p1, oI p2, oI p3, oI p4, oI p5, oI p6, oI (Int32.ofNat nv), oI (Int32.ofNat (16 - nv)), oI y0, oI y1, oI tw, oD B0, oS, oD B1, oS, oD B2, oS, oU, oU, oU, oU, oU, oU, oU, oU] [(.int 1), (.ref ex), (.ref ex), (.ref le), (.ref le)])
  refine own_go (fun _ k => XS.iload Xz424.here hx rfl (hb hby at_72) rfl k) ?_
  show own_Go _ _ _ _ Tz424 (mkF m 74 #[oI p1, oI p2, oI p3, oI p4, oI p5, oI p6, oI (Int32.ofNat nv), oI (Int32.ofNat (16 - nv)), oI y0, oI y1, oI tw, oD B0, oS, oD B1, oS, oD B2, oS, oU, oU, oU, oU, oU, oU, oU, oU] [(.int y1), (.int 1), (.ref ex), (.ref ex), (.ref le), (.ref le)])
  obtain ⟨clz425, Arz425, qz425, Sz425, Mz425, HHz425, Gz425⟩ := V_ex
  have hinz425 : ¬ ((1 : Int32) < 0 ∨ clz425.slots.size ≤ ((1 : Int32)).toNatClampNeg) := inb_of Sz425 ⟨(by decide), (by decide)⟩
  obtain ⟨Tz425, hz425, Xz425, ez425, Wz425, stz425⟩ := stI Xz424 hx hZ ez424 Arz425 (j := (1 : Int32)) hinz425 (g := (mkF m 74 #[oI p1, oI p2, oI p3, oI p4, oI p5, oI p6, oI (Int32.ofNat nv), oI (Int32.ofNat (16 - nv)), oI y0, oI y1, oI tw, oD B0, oS, oD B1, oS, oD B2, oS, oU, oU, oU, oU, oU, oU, oU, oU] [(.int y1), (.int 1), (.ref ex), (.ref ex), (.ref le), (.ref le)])) rfl rfl (hb hby at_74)
  refine own_go stz425 ?_
  have V_ex_ : Arv Z hz425 ex kex .int 2 [(.int y0), (.int y1)] (.int 0) := Arv.set Arz425 qz425 Sz425 Mz425 HHz425 Gz425 rfl Wz425 1 rfl (Nat.le_of_ble_eq_true rfl)
  have Nz425 := Fr.snoc Xz425 Nz424 g_ex
  have O := O.wr Wz425 g_ex
  have E_le := E_le.wr Wz425
  have F4 := F4.other Wz425 (own_o1 lt_le_ex)
  have F14 := F14.other Wz425 (own_o1 lt_le_ex)
  have F8 := F8.other Wz425 (own_o1 lt_le_ex)
  have F28 := F28.other Wz425 (own_o1 lt_le_ex)
  have F24 := F24.other Wz425 (own_o1 lt_le_ex)
  have V_ex := V_ex_
  show own_Go _ _ _ _ Tz425 (mkF m 75 #[oI p1, oI p2, oI p3, oI p4, oI p5, oI p6, oI (Int32.ofNat nv), oI (Int32.ofNat (16 - nv)), oI y0, oI y1, oI tw, oD B0, oS, oD B1, oS, oD B2, oS, oU, oU, oU, oU, oU, oU, oU, oU] [(.ref ex), (.ref le), (.ref le)])
  obtain ⟨vz426, Tz426, Lz426, Xz426, hQz426, stz426⟩ := own_callI Xz425 hx hZ rfl hown (hw _ (List.mem_of_getElem? (i := 4) rfl)) (hw _ (List.mem_of_getElem? (i := 5) rfl)) (hw _ (List.mem_of_getElem? (i := 2) rfl)) (hw _ (List.mem_of_getElem? (i := 6) rfl)) (by decide) ez425 (own_rm1 l Z a0 hw [] le ex hz425 n0 kex y0 y1 g_le lt_le_ex E_le F4 F14 F8 F28 F24 V_ex) (W := 1) (by decide) (by decide) (by decide) (by decide) own_pd2 rfl (g := (mkF m 75 #[oI p1, oI p2, oI p3, oI p4, oI p5, oI p6, oI (Int32.ofNat nv), oI (Int32.ofNat (16 - nv)), oI y0, oI y1, oI tw, oD B0, oS, oD B1, oS, oD B2, oS, oU, oU, oU, oU, oU, oU, oU, oU] [(.ref ex), (.ref le), (.ref le)])) (argsL := [(.ref ex)]) (rest := [(.ref le)]) rfl (by rw [hml]; rfl) rfl (by show 2 * 0 + _ ≤ _; exact Nat.le_of_eq rfl) (hb hby at_75)
  obtain ⟨jo, go, pe, li, kjo, kgo, kpe, kli, rfl, Nz426q, Kz426, lt_ex_jo, lt_jo_go, lt_go_pe, lt_pe_li, c0_z426, c1_z426, c2_z426, c3_z426, c4_z426, c5_z426, c6_z426, c7_z426, c8_z426, c9_z426⟩ := hQz426
  have Nz426 := Fr.app Nz425 Nz426q
  refine own_go stz426 ?_
  have O := O.keep Kz426 (allS g_le all0)
  have E_le := E_le.keep Kz426
  have F4 := c0_z426
  have F14 := c1_z426
  have F8 := c2_z426
  have F28 := c3_z426
  have F24 := c4_z426
  have V_ex := c5_z426
  have V_jo := c6_z426
  have V_go := c7_z426
  have V_pe := c8_z426
  have V_li := c9_z426
  show own_Go _ _ _ _ Tz426 (mkF m 78 #[oI p1, oI p2, oI p3, oI p4, oI p5, oI p6, oI (Int32.ofNat nv), oI (Int32.ofNat (16 - nv)), oI y0, oI y1, oI tw, oD B0, oS, oD B1, oS, oD B2, oS, oU, oU, oU, oU, oU, oU, oU, oU] [(.ref le)])
  have lt_le_jo : @LT.lt Nat _ le jo := by omega
  have lt_le_go : @LT.lt Nat _ le go := by omega
  have lt_le_pe : @LT.lt Nat _ le pe := by omega
  have lt_le_li : @LT.lt Nat _ le li := by omega
  have lt_ex_go : @LT.lt Nat _ ex go := by omega
  have lt_ex_pe : @LT.lt Nat _ ex pe := by omega
  have lt_ex_li : @LT.lt Nat _ ex li := by omega
  have lt_jo_pe : @LT.lt Nat _ jo pe := by omega
  have lt_jo_li : @LT.lt Nat _ jo li := by omega
  have lt_go_li : @LT.lt Nat _ go li := by omega
  have g_jo : @LE.le Nat _ n0 jo := by omega
  have g_go : @LE.le Nat _ n0 go := by omega
  have g_pe : @LE.le Nat _ n0 pe := by omega
  have g_li : @LE.le Nat _ n0 li := by omega
  refine own_go (fun _ k => XS.astore Xz426.here hx rfl (hb hby at_78) rfl rfl (l' := #[oI p1, oI p2, oI p3, oI p4, oI p5, oI p6, oI (Int32.ofNat nv), oI (Int32.ofNat (16 - nv)), oI y0, oI y1, oI tw, oD B0, oS, oD B1, oS, oD B2, oS, oR le, oU, oU, oU, oU, oU, oU, oU]) rfl k) ?_
  show own_Go _ _ _ _ Tz426 (mkF m 80 #[oI p1, oI p2, oI p3, oI p4, oI p5, oI p6, oI (Int32.ofNat nv), oI (Int32.ofNat (16 - nv)), oI y0, oI y1, oI tw, oD B0, oS, oD B1, oS, oD B2, oS, oR le, oU, oU, oU, oU, oU, oU, oU] [])
  obtain ⟨Tz427, hz427, Xz427, ez427, Ez427, Az427, Dz427, -, stz427⟩ := newO Xz426 hx hZ hown (hw _ (List.mem_of_getElem? (i := 22) rfl)) (hw _ (List.mem_of_getElem? (i := 23) rfl)) (hw _ (List.mem_of_getElem? (i := 24) rfl)) rfl (g := (mkF m 80 #[oI p1, oI p2, oI p3, oI p4, oI p5, oI p6, oI (Int32.ofNat nv), oI (Int32.ofNat (16 - nv)), oI y0, oI y1, oI tw, oD B0, oS, oD B1, oS, oD B2, oS, oR le, oU, oU, oU, oU, oU, oU, oU] [])) rfl (hb hby at_80) (by decide) (by decide)
  obtain ⟨fi, gz427⟩ : ∃ z, z = Tz426.heap.size := ⟨_, rfl⟩
  rw [← gz427] at Az427 Dz427 stz427
  have lt_le_fi : @LT.lt Nat _ le fi := Nat.lt_of_lt_of_le E_le.lt (Nat.le_of_eq gz427.symm)
  have lt_ex_fi : @LT.lt Nat _ ex fi := Nat.lt_of_lt_of_le V_ex.lt (Nat.le_of_eq gz427.symm)
  have lt_jo_fi : @LT.lt Nat _ jo fi := Nat.lt_of_lt_of_le V_jo.lt (Nat.le_of_eq gz427.symm)
  have lt_go_fi : @LT.lt Nat _ go fi := Nat.lt_of_lt_of_le V_go.lt (Nat.le_of_eq gz427.symm)
  have lt_pe_fi : @LT.lt Nat _ pe fi := Nat.lt_of_lt_of_le V_pe.lt (Nat.le_of_eq gz427.symm)
  have lt_li_fi : @LT.lt Nat _ li fi := Nat.lt_of_lt_of_le V_li.lt (Nat.le_of_eq gz427.symm)
  have g_fi : n0 ≤ fi := by rw [gz427, ← O.1]; exact O.2.1
  have O := O.ext Ez427
  have E_le := E_le.ext Ez427
  have F4 := F4.ext Ez427
  have F14 := F14.ext Ez427
  have F8 := F8.ext Ez427
  have F28 := F28.ext Ez427
  have F24 := F24.ext Ez427
  have V_ex := V_ex.ext Ez427
  have V_jo := V_jo.ext Ez427
  have V_go := V_go.ext Ez427
  have V_pe := V_pe.ext Ez427
  have V_li := V_li.ext Ez427
  refine own_go stz427 ?_
  have E_fi := Az427
  have F22 : Fld Z hz427 fi "com/example/spillback/spillback/Fifo" "listed" "[I" .null := Dz427 (Or.inl (hw _ (List.mem_of_getElem? (i := 30) rfl))) (ty := (.array .int)) (by decide)
  have F0 : Fld Z hz427 fi "com/example/spillback/spillback/Fifo" "entryLegs" "[I" .null := Dz427 (Or.inl (hw _ (List.mem_of_getElem? (i := 32) rfl))) (ty := (.array .int)) (by decide)
  have F2 : Fld Z hz427 fi "com/example/spillback/spillback/Fifo" "entryVehicles" "[D" .null := Dz427 (Or.inl (hw _ (List.mem_of_getElem? (i := 34) rfl))) (ty := (.array .double)) (by decide)
  have F38 : Fld Z hz427 fi "com/example/spillback/spillback/Fifo" "steps" "[I" .null := Dz427 (Or.inl (hw _ (List.mem_of_getElem? (i := 36) rfl))) (ty := (.array .int)) (by decide)
  have F36 : Fld Z hz427 fi "com/example/spillback/spillback/Fifo" "stepEnds" "[I" .null := Dz427 (Or.inl (hw _ (List.mem_of_getElem? (i := 38) rfl))) (ty := (.array .int)) (by decide)
  have F18 : Fld Z hz427 fi "com/example/spillback/spillback/Fifo" "legs" "Lcom/example/spillback/spillback/Fifo$Legs;" .null := Dz427 (Or.inr (hw _ (List.mem_of_getElem? (i := 40) rfl))) (ty := (.object "com/example/spillback/spillback/Fifo$Legs")) (by decide)
  have F12 : Fld Z hz427 fi "com/example/spillback/spillback/Fifo" "in" "[D" .null := Dz427 (Or.inr (hw _ (List.mem_of_getElem? (i := 42) rfl))) (ty := (.array .double)) (by decide)
  have F26 : Fld Z hz427 fi "com/example/spillback/spillback/Fifo" "out" "[D" .null := Dz427 (Or.inr (hw _ (List.mem_of_getElem? (i := 44) rfl))) (ty := (.array .double)) (by decide)
  have F40 : Fld Z hz427 fi "com/example/spillback/spillback/Fifo" "tail" "I" (.int 0) := Dz427 (Or.inl (hw _ (List.mem_of_getElem? (i := 51) rfl))) (ty := .int) (by decide)
  have F16 : Fld Z hz427 fi "com/example/spillback/spillback/Fifo" "joiningStart" "I" (.int 0) := Dz427 (Or.inl (hw _ (List.mem_of_getElem? (i := 58) rfl))) (ty := .int) (by decide)
  have F6 : Fld Z hz427 fi "com/example/spillback/spillback/Fifo" "firstStep" "I" (.int 0) := Dz427 (Or.inl (hw _ (List.mem_of_getElem? (i := 60) rfl))) (ty := .int) (by decide)
  have F34 : Fld Z hz427 fi "com/example/spillback/spillback/Fifo" "stepCount" "I" (.int 0) := Dz427 (Or.inl (hw _ (List.mem_of_getElem? (i := 62) rfl))) (ty := .int) (by decide)
  have F30 : Fld Z hz427 fi "com/example/spillback/spillback/Fifo" "sliceTotal" "D" (.double 0) := Dz427 (Or.inl (hw _ (List.mem_of_getElem? (i := 69) rfl))) (ty := .double) (by decide)
  have F32 : Fld Z hz427 fi "com/example/spillback/spillback/Fifo" "sliceVehicles" "D" (.double 0) := Dz427 (Or.inl (hw _ (List.mem_of_getElem? (i := 71) rfl))) (ty := .double) (by decide)
  have F20 : Fld Z hz427 fi "com/example/spillback/spillback/Fifo" "listedCount" "I" (.int 0) := Dz427 (Or.inl (hw _ (List.mem_of_getElem? (i := 73) rfl))) (ty := .int) (by decide)
  have F10 : Fld Z hz427 fi "com/example/spillback/spillback/Fifo" "head" "I" (.int 0) := Dz427 (Or.inl (hw _ (List.mem_of_getElem? (i := 79) rfl))) (ty := .int) (by decide)
  show own_Go _ _ _ _ Tz427 (mkF m 83 #[oI p1, oI p2, oI p3, oI p4, oI p5, oI p6, oI (Int32.ofNat nv), oI (Int32.ofNat (16 - nv)), oI y0, oI y1, oI tw, oD B0, oS, oD B1, oS, oD B2, oS, oR le, oU, oU, oU, oU, oU, oU, oU] [(.ref fi)])
  refine own_go (fun _ k => XS.dup Xz427.here hx rfl (hb hby at_83) rfl rfl k) ?_
  show own_Go _ _ _ _ Tz427 (mkF m 84 #[oI p1, oI p2, oI p3, oI p4, oI p5, oI p6, oI (Int32.ofNat nv), oI (Int32.ofNat (16 - nv)), oI y0, oI y1, oI tw, oD B0, oS, oD B1, oS, oD B2, oS, oR le, oU, oU, oU, oU, oU, oU, oU] [(.ref fi), (.ref fi)])
  refine own_go (fun _ k => XS.aload Xz427.here hx rfl (hb hby at_84) rfl rfl k) ?_
  show own_Go _ _ _ _ Tz427 (mkF m 86 #[oI p1, oI p2, oI p3, oI p4, oI p5, oI p6, oI (Int32.ofNat nv), oI (Int32.ofNat (16 - nv)), oI y0, oI y1, oI tw, oD B0, oS, oD B1, oS, oD B2, oS, oR le, oU, oU, oU, oU, oU, oU, oU] [(.ref le), (.ref fi), (.ref fi)])
  refine own_go (fun _ k => XS.iconst Xz427.here hx rfl (hb hby at_86) k) ?_
  show own_Go _ _ _ _ Tz427 (mkF m 87 #[oI p1, oI p2, oI p3, oI p4, oI p5, oI p6, oI (Int32.ofNat nv), oI (Int32.ofNat (16 - nv)), oI y0, oI y1, oI tw, oD B0, oS, oD B1, oS, oD B2, oS, oR le, oU, oU, oU, oU, oU, oU, oU] [(.int 2), (.ref le), (.ref fi), (.ref fi)])
  obtain ⟨Tz428, hz428, kz428, Xz428, ez428, Ez428, Az428, stz428⟩ := newP Xz427 hx hZ (hw _ (List.mem_of_getElem? (i := 12) rfl)) ez427 (g := (mkF m 87 #[oI p1, oI p2, oI p3, oI p4, oI p5, oI p6, oI (Int32.ofNat nv), oI (Int32.ofNat (16 - nv)), oI y0, oI y1, oI tw, oD B0, oS, oD B1, oS, oD B2, oS, oR le, oU, oU, oU, oU, oU, oU, oU] [(.int 2), (.ref le), (.ref fi), (.ref fi)])) rfl (hb hby at_87) rfl (by decide) (cap := 2) (by decide) (by decide) (by decide) (by decide)
  obtain ⟨in_, gz428⟩ : ∃ z, z = hz427.size := ⟨_, rfl⟩
  rw [← gz428] at Az428 stz428
  have lt_le_in_ : @LT.lt Nat _ le in_ := Nat.lt_of_lt_of_le E_le.lt (Nat.le_of_eq gz428.symm)
  have lt_ex_in_ : @LT.lt Nat _ ex in_ := Nat.lt_of_lt_of_le V_ex.lt (Nat.le_of_eq gz428.symm)
  have lt_jo_in_ : @LT.lt Nat _ jo in_ := Nat.lt_of_lt_of_le V_jo.lt (Nat.le_of_eq gz428.symm)
  have lt_go_in_ : @LT.lt Nat _ go in_ := Nat.lt_of_lt_of_le V_go.lt (Nat.le_of_eq gz428.symm)
  have lt_pe_in_ : @LT.lt Nat _ pe in_ := Nat.lt_of_lt_of_le V_pe.lt (Nat.le_of_eq gz428.symm)
  have lt_li_in_ : @LT.lt Nat _ li in_ := Nat.lt_of_lt_of_le V_li.lt (Nat.le_of_eq gz428.symm)
  have lt_fi_in_ : @LT.lt Nat _ fi in_ := Nat.lt_of_lt_of_le E_fi.lt (Nat.le_of_eq gz428.symm)
  have g_in_ : n0 ≤ in_ := by rw [gz428, ← O.1]; exact O.2.1
  have O := O.ext Ez428
  have E_le := E_le.ext Ez428
  have F4 := F4.ext Ez428
  have F14 := F14.ext Ez428
  have F8 := F8.ext Ez428
  have F28 := F28.ext Ez428
  have F24 := F24.ext Ez428
  have V_ex := V_ex.ext Ez428
  have V_jo := V_jo.ext Ez428
  have V_go := V_go.ext Ez428
  have V_pe := V_pe.ext Ez428
  have V_li := V_li.ext Ez428
  have E_fi := E_fi.ext Ez428
  have F22 := F22.ext Ez428
  have F0 := F0.ext Ez428
  have F2 := F2.ext Ez428
  have F38 := F38.ext Ez428
  have F36 := F36.ext Ez428
  have F18 := F18.ext Ez428
  have F12 := F12.ext Ez428
  have F26 := F26.ext Ez428
  have F40 := F40.ext Ez428
  have F16 := F16.ext Ez428
  have F6 := F6.ext Ez428
  have F34 := F34.ext Ez428
  have F30 := F30.ext Ez428
  have F32 := F32.ext Ez428
  have F20 := F20.ext Ez428
  have F10 := F10.ext Ez428
  refine own_go stz428 ?_
  have V_in_ : Arv Z hz428 in_ kz428 .double (2 : Int32) [(.double 0), (.double 0)] (.double 0) := (Arv.new Az428 (by decide)).pad (pad_rep [] (.double 0) 2)
  show own_Go _ _ _ _ Tz428 (mkF m 89 #[oI p1, oI p2, oI p3, oI p4, oI p5, oI p6, oI (Int32.ofNat nv), oI (Int32.ofNat (16 - nv)), oI y0, oI y1, oI tw, oD B0, oS, oD B1, oS, oD B2, oS, oR le, oU, oU, oU, oU, oU, oU, oU] [(.ref in_), (.ref le), (.ref fi), (.ref fi)])
  obtain ⟨kin_, rfl⟩ : ∃ z, z = kz428 := ⟨_, rfl⟩
  refine own_go (fun _ k => XS.iconst Xz428.here hx rfl (hb hby at_89) k) ?_
  show own_Go _ _ _ _ Tz428 (mkF m 90 #[oI p1, oI p2, oI p3, oI p4, oI p5, oI p6, oI (Int32.ofNat nv), oI (Int32.ofNat (16 - nv)), oI y0, oI y1, oI tw, oD B0, oS, oD B1, oS, oD B2, oS, oR le, oU, oU, oU, oU, oU, oU, oU] [(.int 2), (.ref in_), (.ref le), (.ref fi), (.ref fi)])
  obtain ⟨Tz429, hz429, kz429, Xz429, ez429, Ez429, Az429, stz429⟩ := newP Xz428 hx hZ (hw _ (List.mem_of_getElem? (i := 12) rfl)) ez428 (g := (mkF m 90 #[oI p1, oI p2, oI p3, oI p4, oI p5, oI p6, oI (Int32.ofNat nv), oI (Int32.ofNat (16 - nv)), oI y0, oI y1, oI tw, oD B0, oS, oD B1, oS, oD B2, oS, oR le, oU, oU, oU, oU, oU, oU, oU] [(.int 2), (.ref in_), (.ref le), (.ref fi), (.ref fi)])) rfl (hb hby at_90) rfl (by decide) (cap := 2) (by decide) (by decide) (by decide) (by decide)
  obtain ⟨ou, gz429⟩ : ∃ z, z = hz428.size := ⟨_, rfl⟩
  rw [← gz429] at Az429 stz429
  have lt_le_ou : @LT.lt Nat _ le ou := Nat.lt_of_lt_of_le E_le.lt (Nat.le_of_eq gz429.symm)
  have lt_ex_ou : @LT.lt Nat _ ex ou := Nat.lt_of_lt_of_le V_ex.lt (Nat.le_of_eq gz429.symm)
  have lt_jo_ou : @LT.lt Nat _ jo ou := Nat.lt_of_lt_of_le V_jo.lt (Nat.le_of_eq gz429.symm)
  have lt_go_ou : @LT.lt Nat _ go ou := Nat.lt_of_lt_of_le V_go.lt (Nat.le_of_eq gz429.symm)
  have lt_pe_ou : @LT.lt Nat _ pe ou := Nat.lt_of_lt_of_le V_pe.lt (Nat.le_of_eq gz429.symm)
  have lt_li_ou : @LT.lt Nat _ li ou := Nat.lt_of_lt_of_le V_li.lt (Nat.le_of_eq gz429.symm)
  have lt_fi_ou : @LT.lt Nat _ fi ou := Nat.lt_of_lt_of_le E_fi.lt (Nat.le_of_eq gz429.symm)
  have lt_in__ou : @LT.lt Nat _ in_ ou := Nat.lt_of_lt_of_le V_in_.lt (Nat.le_of_eq gz429.symm)
  have g_ou : n0 ≤ ou := by rw [gz429, ← O.1]; exact O.2.1
  have O := O.ext Ez429
  have E_le := E_le.ext Ez429
  have F4 := F4.ext Ez429
  have F14 := F14.ext Ez429
  have F8 := F8.ext Ez429
  have F28 := F28.ext Ez429
  have F24 := F24.ext Ez429
  have V_ex := V_ex.ext Ez429
  have V_jo := V_jo.ext Ez429
  have V_go := V_go.ext Ez429
  have V_pe := V_pe.ext Ez429
  have V_li := V_li.ext Ez429
  have E_fi := E_fi.ext Ez429
  have F22 := F22.ext Ez429
  have F0 := F0.ext Ez429
  have F2 := F2.ext Ez429
  have F38 := F38.ext Ez429
  have F36 := F36.ext Ez429
  have F18 := F18.ext Ez429
  have F12 := F12.ext Ez429
  have F26 := F26.ext Ez429
  have F40 := F40.ext Ez429
  have F16 := F16.ext Ez429
  have F6 := F6.ext Ez429
  have F34 := F34.ext Ez429
  have F30 := F30.ext Ez429
  have F32 := F32.ext Ez429
  have F20 := F20.ext Ez429
  have F10 := F10.ext Ez429
  have V_in_ := V_in_.ext Ez429
  refine own_go stz429 ?_
  have V_ou : Arv Z hz429 ou kz429 .double (2 : Int32) [(.double 0), (.double 0)] (.double 0) := (Arv.new Az429 (by decide)).pad (pad_rep [] (.double 0) 2)
  show own_Go _ _ _ _ Tz429 (mkF m 92 #[oI p1, oI p2, oI p3, oI p4, oI p5, oI p6, oI (Int32.ofNat nv), oI (Int32.ofNat (16 - nv)), oI y0, oI y1, oI tw, oD B0, oS, oD B1, oS, oD B2, oS, oR le, oU, oU, oU, oU, oU, oU, oU] [(.ref ou), (.ref in_), (.ref le), (.ref fi), (.ref fi)])
  obtain ⟨kou, rfl⟩ : ∃ z, z = kz429 := ⟨_, rfl⟩
  obtain ⟨vz430, Tz430, Lz430, Xz430, hQz430, stz430⟩ := own_callI Xz429 hx hZ rfl hown (hw _ (List.mem_of_getElem? (i := 25) rfl)) (hw _ (List.mem_of_getElem? (i := 26) rfl)) (hw _ (List.mem_of_getElem? (i := 24) rfl)) (hw _ (List.mem_of_getElem? (i := 27) rfl)) (by decide) ez429 (own_rm3 l Z a0 hw [] fi le in_ ou hz429 n0 kin_ kou g_fi lt_fi_in_ lt_in__ou E_fi F22 F0 F2 F38 F36 F18 F12 F26 F40 F16 F6 F34 F20 F10 F30 F32 V_in_ V_ou) (W := 1) (by decide) (by decide) (by decide) (by decide) own_pd3 rfl (g := (mkF m 92 #[oI p1, oI p2, oI p3, oI p4, oI p5, oI p6, oI (Int32.ofNat nv), oI (Int32.ofNat (16 - nv)), oI y0, oI y1, oI tw, oD B0, oS, oD B1, oS, oD B2, oS, oR le, oU, oU, oU, oU, oU, oU, oU] [(.ref ou), (.ref in_), (.ref le), (.ref fi), (.ref fi)])) (argsL := [(.ref le), (.ref in_), (.ref ou)]) (rest := [(.ref fi)]) rfl (by rw [hml]; rfl) rfl (by show 2 * 0 + _ ≤ _; exact Nat.le_of_eq rfl) (hb hby at_92)
  obtain ⟨fl, el, ev, st, se, kfl, kel, kev, kst, kse, rfl, Nz430q, Kz430, lt_ou_fl, lt_fl_el, lt_el_ev, lt_ev_st, lt_st_se, c0_z430, c1_z430, c2_z430, c3_z430, c4_z430, c5_z430, c6_z430, c7_z430, c8_z430, c9_z430, c10_z430, c11_z430, c12_z430, c13_z430, c14_z430, c15_z430, c16_z430, c17_z430, c18_z430, c19_z430, c20_z430, c21_z430⟩ := hQz430
  have Nz430 := Fr.app Nz426 Nz430q
  refine own_go stz430 ?_
  have O := O.keep Kz430 (allS g_fi all0)
  have E_le := E_le.keep Kz430
  have F4 := F4.keep Kz430 (ninS (Nat.ne_of_lt lt_le_fi) nin0)
  have F14 := F14.keep Kz430 (ninS (Nat.ne_of_lt lt_le_fi) nin0)
  have F8 := F8.keep Kz430 (ninS (Nat.ne_of_lt lt_le_fi) nin0)
  have F28 := F28.keep Kz430 (ninS (Nat.ne_of_lt lt_le_fi) nin0)
  have F24 := F24.keep Kz430 (ninS (Nat.ne_of_lt lt_le_fi) nin0)
  have V_ex := V_ex.keep Kz430 (ninS (Nat.ne_of_lt lt_ex_fi) nin0)
  have V_jo := V_jo.keep Kz430 (ninS (Nat.ne_of_lt lt_jo_fi) nin0)
  have V_go := V_go.keep Kz430 (ninS (Nat.ne_of_lt lt_go_fi) nin0)
  have V_pe := V_pe.keep Kz430 (ninS (Nat.ne_of_lt lt_pe_fi) nin0)
  have V_li := V_li.keep Kz430 (ninS (Nat.ne_of_lt lt_li_fi) nin0)
  have V_in_ := V_in_.keep Kz430 (ninS (Nat.ne_of_gt lt_fi_in_) nin0)
  have V_ou := V_ou.keep Kz430 (ninS (Nat.ne_of_gt lt_fi_ou) nin0)
  have E_fi := c0_z430
  have F22 := c1_z430
  have F0 := c2_z430
  have F2 := c3_z430
  have F38 := c4_z430
  have F36 := c5_z430
  have F18 := c6_z430
  have F12 := c7_z430
  have F26 := c8_z430
  have F40 := c9_z430
  have F16 := c10_z430
  have F6 := c11_z430
  have F34 := c12_z430
  have F20 := c13_z430
  have F10 := c14_z430
  have F30 := c15_z430
  have F32 := c16_z430
  have V_fl := c17_z430
  have V_el := c18_z430
  have V_ev := c19_z430
  have V_st := c20_z430
  have V_se := c21_z430
  show own_Go _ _ _ _ Tz430 (mkF m 95 #[oI p1, oI p2, oI p3, oI p4, oI p5, oI p6, oI (Int32.ofNat nv), oI (Int32.ofNat (16 - nv)), oI y0, oI y1, oI tw, oD B0, oS, oD B1, oS, oD B2, oS, oR le, oU, oU, oU, oU, oU, oU, oU] [(.ref fi)])
  have lt_le_fl : @LT.lt Nat _ le fl := by omega
  have lt_le_el : @LT.lt Nat _ le el := by omega
  have lt_le_ev : @LT.lt Nat _ le ev := by omega
  have lt_le_st : @LT.lt Nat _ le st := by omega
  have lt_le_se : @LT.lt Nat _ le se := by omega
  have lt_ex_fl : @LT.lt Nat _ ex fl := by omega
  have lt_ex_el : @LT.lt Nat _ ex el := by omega
  have lt_ex_ev : @LT.lt Nat _ ex ev := by omega
  have lt_ex_st : @LT.lt Nat _ ex st := by omega
  have lt_ex_se : @LT.lt Nat _ ex se := by omega
  have lt_jo_fl : @LT.lt Nat _ jo fl := by omega
  have lt_jo_el : @LT.lt Nat _ jo el := by omega
  have lt_jo_ev : @LT.lt Nat _ jo ev := by omega
  have lt_jo_st : @LT.lt Nat _ jo st := by omega
  have lt_jo_se : @LT.lt Nat _ jo se := by omega
  have lt_go_fl : @LT.lt Nat _ go fl := by omega
  have lt_go_el : @LT.lt Nat _ go el := by omega
  have lt_go_ev : @LT.lt Nat _ go ev := by omega
  have lt_go_st : @LT.lt Nat _ go st := by omega
  have lt_go_se : @LT.lt Nat _ go se := by omega
  have lt_pe_fl : @LT.lt Nat _ pe fl := by omega
  have lt_pe_el : @LT.lt Nat _ pe el := by omega
  have lt_pe_ev : @LT.lt Nat _ pe ev := by omega
  have lt_pe_st : @LT.lt Nat _ pe st := by omega
  have lt_pe_se : @LT.lt Nat _ pe se := by omega
  have lt_li_fl : @LT.lt Nat _ li fl := by omega
  have lt_li_el : @LT.lt Nat _ li el := by omega
  have lt_li_ev : @LT.lt Nat _ li ev := by omega
  have lt_li_st : @LT.lt Nat _ li st := by omega
  have lt_li_se : @LT.lt Nat _ li se := by omega
  have lt_fi_fl : @LT.lt Nat _ fi fl := by omega
  have lt_fi_el : @LT.lt Nat _ fi el := by omega
  have lt_fi_ev : @LT.lt Nat _ fi ev := by omega
  have lt_fi_st : @LT.lt Nat _ fi st := by omega
  have lt_fi_se : @LT.lt Nat _ fi se := by omega
  have lt_in__fl : @LT.lt Nat _ in_ fl := by omega
  have lt_in__el : @LT.lt Nat _ in_ el := by omega
  have lt_in__ev : @LT.lt Nat _ in_ ev := by omega
  have lt_in__st : @LT.lt Nat _ in_ st := by omega
  have lt_in__se : @LT.lt Nat _ in_ se := by omega
  have lt_ou_el : @LT.lt Nat _ ou el := by omega
  have lt_ou_ev : @LT.lt Nat _ ou ev := by omega
  have lt_ou_st : @LT.lt Nat _ ou st := by omega
  have lt_ou_se : @LT.lt Nat _ ou se := by omega
  have lt_fl_ev : @LT.lt Nat _ fl ev := by omega
  have lt_fl_st : @LT.lt Nat _ fl st := by omega
  have lt_fl_se : @LT.lt Nat _ fl se := by omega
  have lt_el_st : @LT.lt Nat _ el st := by omega
  have lt_el_se : @LT.lt Nat _ el se := by omega
  have lt_ev_se : @LT.lt Nat _ ev se := by omega
  have g_fl : @LE.le Nat _ n0 fl := by omega
  have g_el : @LE.le Nat _ n0 el := by omega
  have g_ev : @LE.le Nat _ n0 ev := by omega
  have g_st : @LE.le Nat _ n0 st := by omega
  have g_se : @LE.le Nat _ n0 se := by omega
  refine own_go (fun _ k => XS.astore Xz430.here hx rfl (hb hby at_95) rfl rfl (l' := #[oI p1, oI p2, oI p3, oI p4, oI p5, oI p6, oI (Int32.ofNat nv), oI (Int32.ofNat (16 - nv)), oI y0, oI y1, oI tw, oD B0, oS, oD B1, oS, oD B2, oS, oR le, oR fi, oU, oU, oU, oU, oU, oU]) rfl k) ?_
  show own_Go _ _ _ _ Tz430 (mkF m 97 #[oI p1, oI p2, oI p3, oI p4, oI p5, oI p6, oI (Int32.ofNat nv), oI (Int32.ofNat (16 - nv)), oI y0, oI y1, oI tw, oD B0, oS, oD B1, oS, oD B2, oS, oR le, oR fi, oU, oU, oU, oU, oU, oU] [])
  refine own_go (fun _ k => XS.aload Xz430.here hx rfl (hb hby at_97) rfl rfl k) ?_
  show own_Go _ _ _ _ Tz430 (mkF m 99 #[oI p1, oI p2, oI p3, oI p4, oI p5, oI p6, oI (Int32.ofNat nv), oI (Int32.ofNat (16 - nv)), oI y0, oI y1, oI tw, oD B0, oS, oD B1, oS, oD B2, oS, oR le, oR fi, oU, oU, oU, oU, oU, oU] [(.ref fi)])
  refine own_go (fun _ k => XS.iconst Xz430.here hx rfl (hb hby at_99) k) ?_
  show own_Go _ _ _ _ Tz430 (mkF m 100 #[oI p1, oI p2, oI p3, oI p4, oI p5, oI p6, oI (Int32.ofNat nv), oI (Int32.ofNat (16 - nv)), oI y0, oI y1, oI tw, oD B0, oS, oD B1, oS, oD B2, oS, oR le, oR fi, oU, oU, oU, oU, oU, oU] [(.int 0), (.ref fi)])
  refine own_go (fun _ k => XS.iload Xz430.here hx rfl (hb hby at_100) rfl k) ?_
  show own_Go _ _ _ _ Tz430 (mkF m 102 #[oI p1, oI p2, oI p3, oI p4, oI p5, oI p6, oI (Int32.ofNat nv), oI (Int32.ofNat (16 - nv)), oI y0, oI y1, oI tw, oD B0, oS, oD B1, oS, oD B2, oS, oR le, oR fi, oU, oU, oU, oU, oU, oU] [(.int (Int32.ofNat nv)), (.int 0), (.ref fi)])
  refine own_go (fun _ k => XS.i2dS Xz430.here hx rfl (hb hby at_102) rfl rfl k) ?_
  show own_Go _ _ _ _ Tz430 (mkF m 103 #[oI p1, oI p2, oI p3, oI p4, oI p5, oI p6, oI (Int32.ofNat nv), oI (Int32.ofNat (16 - nv)), oI y0, oI y1, oI tw, oD B0, oS, oD B1, oS, oD B2, oS, oR le, oR fi, oU, oU, oU, oU, oU, oU] [(.double (FP.i2d (Int32.ofNat nv))), (.int 0), (.ref fi)])
  obtain ⟨V0, h_V0⟩ : ∃ z, z = (FP.i2d (Int32.ofNat nv)) := ⟨_, rfl⟩
  rw [← h_V0]
  show own_Go _ _ _ _ Tz430 (mkF m 103 #[oI p1, oI p2, oI p3, oI p4, oI p5, oI p6, oI (Int32.ofNat nv), oI (Int32.ofNat (16 - nv)), oI y0, oI y1, oI tw, oD B0, oS, oD B1, oS, oD B2, oS, oR le, oR fi, oU, oU, oU, oU, oU, oU] [(.double V0), (.int 0), (.ref fi)])
  have hnV0 : NoNaN64 V0 := by rw [h_V0]; exact own_cN _
  have haV0 : FP.dadd 0 V0 = V0 := by rw [h_V0]; exact (own_f6 ⟨nv, by omega⟩).2.1
  have hpV0 : FP.dsub V0 0 = V0 := by rw [h_V0]; exact (own_f6 ⟨nv, by omega⟩).1
  have hmV0 : Native.java_lang_Math.nans.pick64 true 0 V0 = V0 := by rw [h_V0]; exact (own_f6 ⟨nv, by omega⟩).2.2.1
  obtain ⟨vz431, Tz431, Lz431, Xz431, hQz431, stz431⟩ := own_callV Xz430 hx hZ hown (hw _ (List.mem_of_getElem? (i := 45) rfl)) (hw _ (List.mem_of_getElem? (i := 46) rfl)) (hw _ (List.mem_of_getElem? (i := 48) rfl)) (hw _ (List.mem_of_getElem? (i := 47) rfl)) (hw _ (List.mem_of_getElem? (i := 24) rfl)) (hw _ (List.mem_of_getElem? (i := 49) rfl)) (by decide) rfl E_fi (own_rmjoin0 l Z a0 hw [] fi 0 V0 Tz430.heap n0 le ex jo go pe li in_ ou fl el ev st se kex kjo kgo kpe kli kin_ kou kfl kel kev kst kse g_le lt_le_ex lt_ex_jo lt_jo_go lt_go_pe lt_pe_li lt_li_fi lt_fi_in_ lt_in__ou lt_ou_fl lt_fl_el lt_el_ev lt_ev_st lt_st_se rfl E_fi F22 F0 F2 F38 F36 F18 F12 F26 F40 F16 F6 F34 F20 F10 F30 F32 V_el V_ev) (W := 0) (by decide) (by decide) (by decide) (by decide) own_pd4 rfl (g := (mkF m 103 #[oI p1, oI p2, oI p3, oI p4, oI p5, oI p6, oI (Int32.ofNat nv), oI (Int32.ofNat (16 - nv)), oI y0, oI y1, oI tw, oD B0, oS, oD B1, oS, oD B2, oS, oR le, oR fi, oU, oU, oU, oU, oU, oU] [(.double V0), (.int 0), (.ref fi)])) (argsL := [(.int 0), (.double V0)]) (rest := []) rfl (by rw [hml]; rfl) rfl (by show 2 * 0 + _ ≤ _; exact Nat.le_of_eq rfl) (hb hby at_103)
  obtain ⟨rfl, Nz431q, Kz431, c0_z431, c1_z431, c2_z431, c3_z431, c4_z431, c5_z431, c6_z431, c7_z431, c8_z431, c9_z431, c10_z431, c11_z431, c12_z431, c13_z431, c14_z431, c15_z431, c16_z431, c17_z431, c18_z431⟩ := hQz431
  have Nz431 := Fr.app Nz430 Nz431q
  refine own_go stz431 ?_
  have O := O.keep Kz431 (allS g_fi (allS g_el (allS g_ev all0)))
  have E_le := E_le.keep Kz431
  have F4 := F4.keep Kz431 (ninS (Nat.ne_of_lt lt_le_fi) (ninS (Nat.ne_of_lt lt_le_el) (ninS (Nat.ne_of_lt lt_le_ev) nin0)))
  have F14 := F14.keep Kz431 (ninS (Nat.ne_of_lt lt_le_fi) (ninS (Nat.ne_of_lt lt_le_el) (ninS (Nat.ne_of_lt lt_le_ev) nin0)))
  have F8 := F8.keep Kz431 (ninS (Nat.ne_of_lt lt_le_fi) (ninS (Nat.ne_of_lt lt_le_el) (ninS (Nat.ne_of_lt lt_le_ev) nin0)))
  have F28 := F28.keep Kz431 (ninS (Nat.ne_of_lt lt_le_fi) (ninS (Nat.ne_of_lt lt_le_el) (ninS (Nat.ne_of_lt lt_le_ev) nin0)))
  have F24 := F24.keep Kz431 (ninS (Nat.ne_of_lt lt_le_fi) (ninS (Nat.ne_of_lt lt_le_el) (ninS (Nat.ne_of_lt lt_le_ev) nin0)))
  have V_ex := V_ex.keep Kz431 (ninS (Nat.ne_of_lt lt_ex_fi) (ninS (Nat.ne_of_lt lt_ex_el) (ninS (Nat.ne_of_lt lt_ex_ev) nin0)))
  have V_jo := V_jo.keep Kz431 (ninS (Nat.ne_of_lt lt_jo_fi) (ninS (Nat.ne_of_lt lt_jo_el) (ninS (Nat.ne_of_lt lt_jo_ev) nin0)))
  have V_go := V_go.keep Kz431 (ninS (Nat.ne_of_lt lt_go_fi) (ninS (Nat.ne_of_lt lt_go_el) (ninS (Nat.ne_of_lt lt_go_ev) nin0)))
  have V_pe := V_pe.keep Kz431 (ninS (Nat.ne_of_lt lt_pe_fi) (ninS (Nat.ne_of_lt lt_pe_el) (ninS (Nat.ne_of_lt lt_pe_ev) nin0)))
  have V_li := V_li.keep Kz431 (ninS (Nat.ne_of_lt lt_li_fi) (ninS (Nat.ne_of_lt lt_li_el) (ninS (Nat.ne_of_lt lt_li_ev) nin0)))
  have V_in_ := V_in_.keep Kz431 (ninS (Nat.ne_of_gt lt_fi_in_) (ninS (Nat.ne_of_lt lt_in__el) (ninS (Nat.ne_of_lt lt_in__ev) nin0)))
  have V_ou := V_ou.keep Kz431 (ninS (Nat.ne_of_gt lt_fi_ou) (ninS (Nat.ne_of_lt lt_ou_el) (ninS (Nat.ne_of_lt lt_ou_ev) nin0)))
  have V_fl := V_fl.keep Kz431 (ninS (Nat.ne_of_gt lt_fi_fl) (ninS (Nat.ne_of_lt lt_fl_el) (ninS (Nat.ne_of_lt lt_fl_ev) nin0)))
  have V_st := V_st.keep Kz431 (ninS (Nat.ne_of_gt lt_fi_st) (ninS (Nat.ne_of_gt lt_el_st) (ninS (Nat.ne_of_gt lt_ev_st) nin0)))
  have V_se := V_se.keep Kz431 (ninS (Nat.ne_of_gt lt_fi_se) (ninS (Nat.ne_of_gt lt_el_se) (ninS (Nat.ne_of_gt lt_ev_se) nin0)))
  have E_fi := c0_z431
  have F22 := c1_z431
  have F0 := c2_z431
  have F2 := c3_z431
  have F38 := c4_z431
  have F36 := c5_z431
  have F18 := c6_z431
  have F12 := c7_z431
  have F26 := c8_z431
  have F40 := c9_z431
  have F16 := c10_z431
  have F6 := c11_z431
  have F34 := c12_z431
  have F20 := c13_z431
  have F10 := c14_z431
  have F30 := c15_z431
  have F32 := c16_z431
  have V_el := c17_z431
  have V_ev := c18_z431
  show own_Go _ _ _ _ Tz431 (mkF m 106 #[oI p1, oI p2, oI p3, oI p4, oI p5, oI p6, oI (Int32.ofNat nv), oI (Int32.ofNat (16 - nv)), oI y0, oI y1, oI tw, oD B0, oS, oD B1, oS, oD B2, oS, oR le, oR fi, oU, oU, oU, oU, oU, oU] [])
  refine own_go (fun _ k => XS.aload Xz431.here hx rfl (hb hby at_106) rfl rfl k) ?_
  show own_Go _ _ _ _ Tz431 (mkF m 108 #[oI p1, oI p2, oI p3, oI p4, oI p5, oI p6, oI (Int32.ofNat nv), oI (Int32.ofNat (16 - nv)), oI y0, oI y1, oI tw, oD B0, oS, oD B1, oS, oD B2, oS, oR le, oR fi, oU, oU, oU, oU, oU, oU] [(.ref fi)])
  refine own_go (fun _ k => XS.iconst Xz431.here hx rfl (hb hby at_108) k) ?_
  show own_Go _ _ _ _ Tz431 (mkF m 109 #[oI p1, oI p2, oI p3, oI p4, oI p5, oI p6, oI (Int32.ofNat nv), oI (Int32.ofNat (16 - nv)), oI y0, oI y1, oI tw, oD B0, oS, oD B1, oS, oD B2, oS, oR le, oR fi, oU, oU, oU, oU, oU, oU] [(.int 1), (.ref fi)])
  refine own_go (fun _ k => XS.iload Xz431.here hx rfl (hb hby at_109) rfl k) ?_
  show own_Go _ _ _ _ Tz431 (mkF m 111 #[oI p1, oI p2, oI p3, oI p4, oI p5, oI p6, oI (Int32.ofNat nv), oI (Int32.ofNat (16 - nv)), oI y0, oI y1, oI tw, oD B0, oS, oD B1, oS, oD B2, oS, oR le, oR fi, oU, oU, oU, oU, oU, oU] [(.int (Int32.ofNat (16 - nv))), (.int 1), (.ref fi)])
  refine own_go (fun _ k => XS.i2dS Xz431.here hx rfl (hb hby at_111) rfl rfl k) ?_
  show own_Go _ _ _ _ Tz431 (mkF m 112 #[oI p1, oI p2, oI p3, oI p4, oI p5, oI p6, oI (Int32.ofNat nv), oI (Int32.ofNat (16 - nv)), oI y0, oI y1, oI tw, oD B0, oS, oD B1, oS, oD B2, oS, oR le, oR fi, oU, oU, oU, oU, oU, oU] [(.double (FP.i2d (Int32.ofNat (16 - nv)))), (.int 1), (.ref fi)])
  obtain ⟨V1, h_V1⟩ : ∃ z, z = (FP.i2d (Int32.ofNat (16 - nv))) := ⟨_, rfl⟩
  rw [← h_V1]
  show own_Go _ _ _ _ Tz431 (mkF m 112 #[oI p1, oI p2, oI p3, oI p4, oI p5, oI p6, oI (Int32.ofNat nv), oI (Int32.ofNat (16 - nv)), oI y0, oI y1, oI tw, oD B0, oS, oD B1, oS, oD B2, oS, oR le, oR fi, oU, oU, oU, oU, oU, oU] [(.double V1), (.int 1), (.ref fi)])
  have hnV1 : NoNaN64 V1 := by rw [h_V1]; exact own_cN _
  have haV1 : FP.dadd 0 V1 = V1 := by rw [h_V1]; exact (own_f6 ⟨16 - nv, by omega⟩).2.1
  have hpV1 : FP.dsub V1 0 = V1 := by rw [h_V1]; exact (own_f6 ⟨16 - nv, by omega⟩).1
  have hmV1 : Native.java_lang_Math.nans.pick64 true 0 V1 = V1 := by rw [h_V1]; exact (own_f6 ⟨16 - nv, by omega⟩).2.2.1
  obtain ⟨vz432, Tz432, Lz432, Xz432, hQz432, stz432⟩ := own_callV Xz431 hx hZ hown (hw _ (List.mem_of_getElem? (i := 45) rfl)) (hw _ (List.mem_of_getElem? (i := 46) rfl)) (hw _ (List.mem_of_getElem? (i := 48) rfl)) (hw _ (List.mem_of_getElem? (i := 47) rfl)) (hw _ (List.mem_of_getElem? (i := 24) rfl)) (hw _ (List.mem_of_getElem? (i := 49) rfl)) (by decide) rfl E_fi (own_rmjoin1 l Z a0 hw [] fi 1 V1 Tz431.heap n0 le ex jo go pe li in_ ou fl el ev st se kex kjo kgo kpe kli kin_ kou kfl kel kev kst kse g_le lt_le_ex lt_ex_jo lt_jo_go lt_go_pe lt_pe_li lt_li_fi lt_fi_in_ lt_in__ou lt_ou_fl lt_fl_el lt_el_ev lt_ev_st lt_st_se rfl V0 E_fi F22 F0 F2 F38 F36 F18 F12 F26 F40 F16 F6 F34 F20 F10 F30 F32 V_el V_ev) (W := 0) (by decide) (by decide) (by decide) (by decide) own_pd4 rfl (g := (mkF m 112 #[oI p1, oI p2, oI p3, oI p4, oI p5, oI p6, oI (Int32.ofNat nv), oI (Int32.ofNat (16 - nv)), oI y0, oI y1, oI tw, oD B0, oS, oD B1, oS, oD B2, oS, oR le, oR fi, oU, oU, oU, oU, oU, oU] [(.double V1), (.int 1), (.ref fi)])) (argsL := [(.int 1), (.double V1)]) (rest := []) rfl (by rw [hml]; rfl) rfl (by show 2 * 0 + _ ≤ _; exact Nat.le_of_eq rfl) (hb hby at_112)
  obtain ⟨rfl, Nz432q, Kz432, c0_z432, c1_z432, c2_z432, c3_z432, c4_z432, c5_z432, c6_z432, c7_z432, c8_z432, c9_z432, c10_z432, c11_z432, c12_z432, c13_z432, c14_z432, c15_z432, c16_z432, c17_z432, c18_z432⟩ := hQz432
  have Nz432 := Fr.app Nz431 Nz432q
  refine own_go stz432 ?_
  have O := O.keep Kz432 (allS g_fi (allS g_el (allS g_ev all0)))
  have E_le := E_le.keep Kz432
  have F4 := F4.keep Kz432 (ninS (Nat.ne_of_lt lt_le_fi) (ninS (Nat.ne_of_lt lt_le_el) (ninS (Nat.ne_of_lt lt_le_ev) nin0)))
  have F14 := F14.keep Kz432 (ninS (Nat.ne_of_lt lt_le_fi) (ninS (Nat.ne_of_lt lt_le_el) (ninS (Nat.ne_of_lt lt_le_ev) nin0)))
  have F8 := F8.keep Kz432 (ninS (Nat.ne_of_lt lt_le_fi) (ninS (Nat.ne_of_lt lt_le_el) (ninS (Nat.ne_of_lt lt_le_ev) nin0)))
  have F28 := F28.keep Kz432 (ninS (Nat.ne_of_lt lt_le_fi) (ninS (Nat.ne_of_lt lt_le_el) (ninS (Nat.ne_of_lt lt_le_ev) nin0)))
  have F24 := F24.keep Kz432 (ninS (Nat.ne_of_lt lt_le_fi) (ninS (Nat.ne_of_lt lt_le_el) (ninS (Nat.ne_of_lt lt_le_ev) nin0)))
  have V_ex := V_ex.keep Kz432 (ninS (Nat.ne_of_lt lt_ex_fi) (ninS (Nat.ne_of_lt lt_ex_el) (ninS (Nat.ne_of_lt lt_ex_ev) nin0)))
  have V_jo := V_jo.keep Kz432 (ninS (Nat.ne_of_lt lt_jo_fi) (ninS (Nat.ne_of_lt lt_jo_el) (ninS (Nat.ne_of_lt lt_jo_ev) nin0)))
  have V_go := V_go.keep Kz432 (ninS (Nat.ne_of_lt lt_go_fi) (ninS (Nat.ne_of_lt lt_go_el) (ninS (Nat.ne_of_lt lt_go_ev) nin0)))
  have V_pe := V_pe.keep Kz432 (ninS (Nat.ne_of_lt lt_pe_fi) (ninS (Nat.ne_of_lt lt_pe_el) (ninS (Nat.ne_of_lt lt_pe_ev) nin0)))
  have V_li := V_li.keep Kz432 (ninS (Nat.ne_of_lt lt_li_fi) (ninS (Nat.ne_of_lt lt_li_el) (ninS (Nat.ne_of_lt lt_li_ev) nin0)))
  have V_in_ := V_in_.keep Kz432 (ninS (Nat.ne_of_gt lt_fi_in_) (ninS (Nat.ne_of_lt lt_in__el) (ninS (Nat.ne_of_lt lt_in__ev) nin0)))
  have V_ou := V_ou.keep Kz432 (ninS (Nat.ne_of_gt lt_fi_ou) (ninS (Nat.ne_of_lt lt_ou_el) (ninS (Nat.ne_of_lt lt_ou_ev) nin0)))
  have V_fl := V_fl.keep Kz432 (ninS (Nat.ne_of_gt lt_fi_fl) (ninS (Nat.ne_of_lt lt_fl_el) (ninS (Nat.ne_of_lt lt_fl_ev) nin0)))
  have V_st := V_st.keep Kz432 (ninS (Nat.ne_of_gt lt_fi_st) (ninS (Nat.ne_of_gt lt_el_st) (ninS (Nat.ne_of_gt lt_ev_st) nin0)))
  have V_se := V_se.keep Kz432 (ninS (Nat.ne_of_gt lt_fi_se) (ninS (Nat.ne_of_gt lt_el_se) (ninS (Nat.ne_of_gt lt_ev_se) nin0)))
  have E_fi := c0_z432
  have F22 := c1_z432
  have F0 := c2_z432
  have F2 := c3_z432
  have F38 := c4_z432
  have F36 := c5_z432
  have F18 := c6_z432
  have F12 := c7_z432
  have F26 := c8_z432
  have F40 := c9_z432
  have F16 := c10_z432
  have F6 := c11_z432
  have F34 := c12_z432
  have F20 := c13_z432
  have F10 := c14_z432
  have F30 := c15_z432
  have F32 := c16_z432
  have V_el := c17_z432
  have V_ev := c18_z432
  show own_Go _ _ _ _ Tz432 (mkF m 115 #[oI p1, oI p2, oI p3, oI p4, oI p5, oI p6, oI (Int32.ofNat nv), oI (Int32.ofNat (16 - nv)), oI y0, oI y1, oI tw, oD B0, oS, oD B1, oS, oD B2, oS, oR le, oR fi, oU, oU, oU, oU, oU, oU] [])
  have hsV : FP.dadd V0 V1 = 4625196817309499392 := by rw [h_V0, h_V1]; exact own_f7 ⟨nv, by omega⟩
  refine own_go (fun _ k => XS.aload Xz432.here hx rfl (hb hby at_115) rfl rfl k) ?_
  show own_Go _ _ _ _ Tz432 (mkF m 117 #[oI p1, oI p2, oI p3, oI p4, oI p5, oI p6, oI (Int32.ofNat nv), oI (Int32.ofNat (16 - nv)), oI y0, oI y1, oI tw, oD B0, oS, oD B1, oS, oD B2, oS, oR le, oR fi, oU, oU, oU, oU, oU, oU] [(.ref fi)])
  refine own_go (fun _ k => XS.iconst Xz432.here hx rfl (hb hby at_117) k) ?_
  show own_Go _ _ _ _ Tz432 (mkF m 118 #[oI p1, oI p2, oI p3, oI p4, oI p5, oI p6, oI (Int32.ofNat nv), oI (Int32.ofNat (16 - nv)), oI y0, oI y1, oI tw, oD B0, oS, oD B1, oS, oD B2, oS, oR le, oR fi, oU, oU, oU, oU, oU, oU] [(.int 0), (.ref fi)])
  obtain ⟨vz433, Tz433, Lz433, Xz433, hQz433, stz433⟩ := own_callV Xz432 hx hZ hown (hw _ (List.mem_of_getElem? (i := 52) rfl)) (hw _ (List.mem_of_getElem? (i := 53) rfl)) (hw _ (List.mem_of_getElem? (i := 55) rfl)) (hw _ (List.mem_of_getElem? (i := 54) rfl)) (hw _ (List.mem_of_getElem? (i := 24) rfl)) (hw _ (List.mem_of_getElem? (i := 56) rfl)) (by decide) rfl E_fi (own_rmclose l Z a0 hw [] fi 0 Tz432.heap n0 le ex jo go pe li in_ ou fl el ev st se kex kjo kgo kpe kli kin_ kou kfl kel kev kst kse g_le lt_le_ex lt_ex_jo lt_jo_go lt_go_pe lt_pe_li lt_li_fi lt_fi_in_ lt_in__ou lt_ou_fl lt_fl_el lt_el_ev lt_ev_st lt_st_se V0 V1 rfl hnV0 haV0 hsV E_fi F22 F0 F2 F38 F36 F18 F12 F26 F40 F16 F6 F34 F20 F10 F30 F32 V_ev V_in_ V_st V_se) (W := 0) (by decide) (by decide) (by decide) (by decide) own_pd5 rfl (g := (mkF m 118 #[oI p1, oI p2, oI p3, oI p4, oI p5, oI p6, oI (Int32.ofNat nv), oI (Int32.ofNat (16 - nv)), oI y0, oI y1, oI tw, oD B0, oS, oD B1, oS, oD B2, oS, oR le, oR fi, oU, oU, oU, oU, oU, oU] [(.int 0), (.ref fi)])) (argsL := [(.int 0)]) (rest := []) rfl (by rw [hml]; rfl) rfl (by show 2 * 0 + _ ≤ _; exact Nat.le_of_eq rfl) (hb hby at_118)
  obtain ⟨rfl, Nz433q, Kz433, c0_z433, c1_z433, c2_z433, c3_z433, c4_z433, c5_z433, c6_z433, c7_z433, c8_z433, c9_z433, c10_z433, c11_z433, c12_z433, c13_z433, c14_z433, c15_z433, c16_z433, c17_z433, c18_z433, c19_z433, c20_z433⟩ := hQz433
  have Nz433 := Fr.app Nz432 Nz433q
  refine own_go stz433 ?_
  have O := O.keep Kz433 (allS g_fi (allS g_in_ (allS g_st (allS g_se all0))))
  have E_le := E_le.keep Kz433
  have F4 := F4.keep Kz433 (ninS (Nat.ne_of_lt lt_le_fi) (ninS (Nat.ne_of_lt lt_le_in_) (ninS (Nat.ne_of_lt lt_le_st) (ninS (Nat.ne_of_lt lt_le_se) nin0))))
  have F14 := F14.keep Kz433 (ninS (Nat.ne_of_lt lt_le_fi) (ninS (Nat.ne_of_lt lt_le_in_) (ninS (Nat.ne_of_lt lt_le_st) (ninS (Nat.ne_of_lt lt_le_se) nin0))))
  have F8 := F8.keep Kz433 (ninS (Nat.ne_of_lt lt_le_fi) (ninS (Nat.ne_of_lt lt_le_in_) (ninS (Nat.ne_of_lt lt_le_st) (ninS (Nat.ne_of_lt lt_le_se) nin0))))
  have F28 := F28.keep Kz433 (ninS (Nat.ne_of_lt lt_le_fi) (ninS (Nat.ne_of_lt lt_le_in_) (ninS (Nat.ne_of_lt lt_le_st) (ninS (Nat.ne_of_lt lt_le_se) nin0))))
  have F24 := F24.keep Kz433 (ninS (Nat.ne_of_lt lt_le_fi) (ninS (Nat.ne_of_lt lt_le_in_) (ninS (Nat.ne_of_lt lt_le_st) (ninS (Nat.ne_of_lt lt_le_se) nin0))))
  have V_ex := V_ex.keep Kz433 (ninS (Nat.ne_of_lt lt_ex_fi) (ninS (Nat.ne_of_lt lt_ex_in_) (ninS (Nat.ne_of_lt lt_ex_st) (ninS (Nat.ne_of_lt lt_ex_se) nin0))))
  have V_jo := V_jo.keep Kz433 (ninS (Nat.ne_of_lt lt_jo_fi) (ninS (Nat.ne_of_lt lt_jo_in_) (ninS (Nat.ne_of_lt lt_jo_st) (ninS (Nat.ne_of_lt lt_jo_se) nin0))))
  have V_go := V_go.keep Kz433 (ninS (Nat.ne_of_lt lt_go_fi) (ninS (Nat.ne_of_lt lt_go_in_) (ninS (Nat.ne_of_lt lt_go_st) (ninS (Nat.ne_of_lt lt_go_se) nin0))))
  have V_pe := V_pe.keep Kz433 (ninS (Nat.ne_of_lt lt_pe_fi) (ninS (Nat.ne_of_lt lt_pe_in_) (ninS (Nat.ne_of_lt lt_pe_st) (ninS (Nat.ne_of_lt lt_pe_se) nin0))))
  have V_li := V_li.keep Kz433 (ninS (Nat.ne_of_lt lt_li_fi) (ninS (Nat.ne_of_lt lt_li_in_) (ninS (Nat.ne_of_lt lt_li_st) (ninS (Nat.ne_of_lt lt_li_se) nin0))))
  have V_ou := V_ou.keep Kz433 (ninS (Nat.ne_of_gt lt_fi_ou) (ninS (Nat.ne_of_gt lt_in__ou) (ninS (Nat.ne_of_lt lt_ou_st) (ninS (Nat.ne_of_lt lt_ou_se) nin0))))
  have V_fl := V_fl.keep Kz433 (ninS (Nat.ne_of_gt lt_fi_fl) (ninS (Nat.ne_of_gt lt_in__fl) (ninS (Nat.ne_of_lt lt_fl_st) (ninS (Nat.ne_of_lt lt_fl_se) nin0))))
  have V_el := V_el.keep Kz433 (ninS (Nat.ne_of_gt lt_fi_el) (ninS (Nat.ne_of_gt lt_in__el) (ninS (Nat.ne_of_lt lt_el_st) (ninS (Nat.ne_of_lt lt_el_se) nin0))))
  have E_fi := c0_z433
  have F22 := c1_z433
  have F0 := c2_z433
  have F2 := c3_z433
  have F38 := c4_z433
  have F36 := c5_z433
  have F18 := c6_z433
  have F12 := c7_z433
  have F26 := c8_z433
  have F40 := c9_z433
  have F16 := c10_z433
  have F6 := c11_z433
  have F34 := c12_z433
  have F20 := c13_z433
  have F10 := c14_z433
  have F30 := c15_z433
  have F32 := c16_z433
  have V_ev := c17_z433
  have V_in_ := c18_z433
  have V_st := c19_z433
  have V_se := c20_z433
  show own_Go _ _ _ _ Tz433 (mkF m 121 #[oI p1, oI p2, oI p3, oI p4, oI p5, oI p6, oI (Int32.ofNat nv), oI (Int32.ofNat (16 - nv)), oI y0, oI y1, oI tw, oD B0, oS, oD B1, oS, oD B2, oS, oR le, oR fi, oU, oU, oU, oU, oU, oU] [])
  have k186 : ∀ (T : State) (hh : Heap) (locs : List Loc) (X : Stand p l e room_1 s m #[(.int p1), (.int p2), (.int p3), (.int p4), (.int p5), (.int p6)] below meth c T locs 15 106) (eT : T.heap = hh) (N : Fr n0 locs) (be : Addr) (kbe : ClassId) (r0 r1 r2 : UInt64) (V_be : Arv Z hh be kbe .double (3 : Int32) [(.double r0), (.double r1), (.double r2)] (.double 0)) (mm : Nat) (d0 d1 : UInt64) (hd0 : FP.ddiv (FP.i2d (Int32.ofNat mm * Int32.ofNat nv)) 4625196817309499392 = d0) (hd1 : FP.ddiv (FP.i2d (Int32.ofNat mm * Int32.ofNat (16 - nv))) 4625196817309499392 = d1) (hf0 : Fin64 d0) (hf1 : Fin64 d1) (hq0 : cmpValue (FP.dcmp r0 (own_el (0 : Int32) y0 y1 B0 d0 d1)) .l = 0) (hq1 : cmpValue (FP.dcmp r1 (own_el (1 : Int32) y0 y1 B1 d0 d1)) .l = 0) (hq2 : cmpValue (FP.dcmp r2 (own_el (2 : Int32) y0 y1 B2 d0 d1)) .l = 0), own_Go p e below (own_Fin s (own_Q0 Z p1 h0 n0) room_1.cells room_1.slots) T (mkF m 186 #[oI p1, oI p2, oI p3, oI p4, oI p5, oI p6, oI (Int32.ofNat nv), oI (Int32.ofNat (16 - nv)), oI y0, oI y1, oI tw, oD B0, oS, oD B1, oS, oD B2, oS, oR le, oR fi, oR be, oU, oU, oU, oU, oU] [(.int (Int32.ofNat mm))]) := by
    intro T hh locs X eT N be kbe r0 r1 r2 V_be mm d0 d1 hd0 hd1 hf0 hf1 hq0 hq1 hq2
    show own_Go _ _ _ _ T (mkF m 186 #[oI p1, oI p2, oI p3, oI p4, oI p5, oI p6, oI (Int32.ofNat nv), oI (Int32.ofNat (16 - nv)), oI y0, oI y1, oI tw, oD B0, oS, oD B1, oS, oD B2, oS, oR le, oR fi, oR be, oU, oU, oU, oU, oU] [(.int (Int32.ofNat mm))])
    refine own_go (fun _ k => XS.istore X.here hx rfl (hb hby at_186) rfl (l' := #[oI p1, oI p2, oI p3, oI p4, oI p5, oI p6, oI (Int32.ofNat nv), oI (Int32.ofNat (16 - nv)), oI y0, oI y1, oI tw, oD B0, oS, oD B1, oS, oD B2, oS, oR le, oR fi, oR be, oI (Int32.ofNat mm), oU, oU, oU, oU]) rfl k) ?_
    show own_Go _ _ _ _ T (mkF m 188 #[oI p1, oI p2, oI p3, oI p4, oI p5, oI p6, oI (Int32.ofNat nv), oI (Int32.ofNat (16 - nv)), oI y0, oI y1, oI tw, oD B0, oS, oD B1, oS, oD B2, oS, oR le, oR fi, oR be, oI (Int32.ofNat mm), oU, oU, oU, oU] [])
    refine own_go (fun _ k => XS.iload X.here hx rfl (hb hby at_188) rfl k) ?_
    show own_Go _ _ _ _ T (mkF m 190 #[oI p1, oI p2, oI p3, oI p4, oI p5, oI p6, oI (Int32.ofNat nv), oI (Int32.ofNat (16 - nv)), oI y0, oI y1, oI tw, oD B0, oS, oD B1, oS, oD B2, oS, oR le, oR fi, oR be, oI (Int32.ofNat mm), oU, oU, oU, oU] [(.int (Int32.ofNat mm))])
    refine own_go (fun _ k => XS.iload X.here hx rfl (hb hby at_190) rfl k) ?_
    show own_Go _ _ _ _ T (mkF m 192 #[oI p1, oI p2, oI p3, oI p4, oI p5, oI p6, oI (Int32.ofNat nv), oI (Int32.ofNat (16 - nv)), oI y0, oI y1, oI tw, oD B0, oS, oD B1, oS, oD B2, oS, oR le, oR fi, oR be, oI (Int32.ofNat mm), oU, oU, oU, oU] [(.int (Int32.ofNat nv)), (.int (Int32.ofNat mm))])
    refine own_go (fun _ k => XS.imul X.here hx rfl (hb hby at_192) rfl k) ?_
    show own_Go _ _ _ _ T (mkF m 193 #[oI p1, oI p2, oI p3, oI p4, oI p5, oI p6, oI (Int32.ofNat nv), oI (Int32.ofNat (16 - nv)), oI y0, oI y1, oI tw, oD B0, oS, oD B1, oS, oD B2, oS, oR le, oR fi, oR be, oI (Int32.ofNat mm), oU, oU, oU, oU] [(.int ((Int32.ofNat mm) * (Int32.ofNat nv)))])
    refine own_go (fun _ k => XS.i2dS X.here hx rfl (hb hby at_193) rfl rfl k) ?_
    show own_Go _ _ _ _ T (mkF m 194 #[oI p1, oI p2, oI p3, oI p4, oI p5, oI p6, oI (Int32.ofNat nv), oI (Int32.ofNat (16 - nv)), oI y0, oI y1, oI tw, oD B0, oS, oD B1, oS, oD B2, oS, oR le, oR fi, oR be, oI (Int32.ofNat mm), oU, oU, oU, oU] [(.double (FP.i2d ((Int32.ofNat mm) * (Int32.ofNat nv))))])
    refine own_go (fun _ k => X.ldc2DoubleC hx hown (mvT hZ (hw _ (List.mem_of_getElem? (i := 100) rfl))) (g := (mkF m 194 #[oI p1, oI p2, oI p3, oI p4, oI p5, oI p6, oI (Int32.ofNat nv), oI (Int32.ofNat (16 - nv)), oI y0, oI y1, oI tw, oD B0, oS, oD B1, oS, oD B2, oS, oR le, oR fi, oR be, oI (Int32.ofNat mm), oU, oU, oU, oU] [(.double (FP.i2d ((Int32.ofNat mm) * (Int32.ofNat nv))))])) rfl (hb hby at_194) _ k) ?_
    show own_Go _ _ _ _ T (mkF m 197 #[oI p1, oI p2, oI p3, oI p4, oI p5, oI p6, oI (Int32.ofNat nv), oI (Int32.ofNat (16 - nv)), oI y0, oI y1, oI tw, oD B0, oS, oD B1, oS, oD B2, oS, oR le, oR fi, oR be, oI (Int32.ofNat mm), oU, oU, oU, oU] [(.double oC), (.double (FP.i2d ((Int32.ofNat mm) * (Int32.ofNat nv))))])
    refine own_go (fun _ k => XS.ddivS X.here hx rfl (hb hby at_197) rfl (by rw [hd0]; exact hf0.noNaN) hd0 k) ?_
    show own_Go _ _ _ _ T (mkF m 198 #[oI p1, oI p2, oI p3, oI p4, oI p5, oI p6, oI (Int32.ofNat nv), oI (Int32.ofNat (16 - nv)), oI y0, oI y1, oI tw, oD B0, oS, oD B1, oS, oD B2, oS, oR le, oR fi, oR be, oI (Int32.ofNat mm), oU, oU, oU, oU] [(.double d0)])
    refine own_go (fun _ k => XS.dstore X.here hx rfl (hb hby at_198) rfl (l' := #[oI p1, oI p2, oI p3, oI p4, oI p5, oI p6, oI (Int32.ofNat nv), oI (Int32.ofNat (16 - nv)), oI y0, oI y1, oI tw, oD B0, oS, oD B1, oS, oD B2, oS, oR le, oR fi, oR be, oI (Int32.ofNat mm), oD d0, oS, oU, oU]) rfl k) ?_
    show own_Go _ _ _ _ T (mkF m 200 #[oI p1, oI p2, oI p3, oI p4, oI p5, oI p6, oI (Int32.ofNat nv), oI (Int32.ofNat (16 - nv)), oI y0, oI y1, oI tw, oD B0, oS, oD B1, oS, oD B2, oS, oR le, oR fi, oR be, oI (Int32.ofNat mm), oD d0, oS, oU, oU] [])
    refine own_go (fun _ k => XS.iload X.here hx rfl (hb hby at_200) rfl k) ?_
    show own_Go _ _ _ _ T (mkF m 202 #[oI p1, oI p2, oI p3, oI p4, oI p5, oI p6, oI (Int32.ofNat nv), oI (Int32.ofNat (16 - nv)), oI y0, oI y1, oI tw, oD B0, oS, oD B1, oS, oD B2, oS, oR le, oR fi, oR be, oI (Int32.ofNat mm), oD d0, oS, oU, oU] [(.int (Int32.ofNat mm))])
    refine own_go (fun _ k => XS.iload X.here hx rfl (hb hby at_202) rfl k) ?_
    show own_Go _ _ _ _ T (mkF m 204 #[oI p1, oI p2, oI p3, oI p4, oI p5, oI p6, oI (Int32.ofNat nv), oI (Int32.ofNat (16 - nv)), oI y0, oI y1, oI tw, oD B0, oS, oD B1, oS, oD B2, oS, oR le, oR fi, oR be, oI (Int32.ofNat mm), oD d0, oS, oU, oU] [(.int (Int32.ofNat (16 - nv))), (.int (Int32.ofNat mm))])
    refine own_go (fun _ k => XS.imul X.here hx rfl (hb hby at_204) rfl k) ?_
    show own_Go _ _ _ _ T (mkF m 205 #[oI p1, oI p2, oI p3, oI p4, oI p5, oI p6, oI (Int32.ofNat nv), oI (Int32.ofNat (16 - nv)), oI y0, oI y1, oI tw, oD B0, oS, oD B1, oS, oD B2, oS, oR le, oR fi, oR be, oI (Int32.ofNat mm), oD d0, oS, oU, oU] [(.int ((Int32.ofNat mm) * (Int32.ofNat (16 - nv))))])
    refine own_go (fun _ k => XS.i2dS X.here hx rfl (hb hby at_205) rfl rfl k) ?_
    show own_Go _ _ _ _ T (mkF m 206 #[oI p1, oI p2, oI p3, oI p4, oI p5, oI p6, oI (Int32.ofNat nv), oI (Int32.ofNat (16 - nv)), oI y0, oI y1, oI tw, oD B0, oS, oD B1, oS, oD B2, oS, oR le, oR fi, oR be, oI (Int32.ofNat mm), oD d0, oS, oU, oU] [(.double (FP.i2d ((Int32.ofNat mm) * (Int32.ofNat (16 - nv)))))])
    refine own_go (fun _ k => X.ldc2DoubleC hx hown (mvT hZ (hw _ (List.mem_of_getElem? (i := 100) rfl))) (g := (mkF m 206 #[oI p1, oI p2, oI p3, oI p4, oI p5, oI p6, oI (Int32.ofNat nv), oI (Int32.ofNat (16 - nv)), oI y0, oI y1, oI tw, oD B0, oS, oD B1, oS, oD B2, oS, oR le, oR fi, oR be, oI (Int32.ofNat mm), oD d0, oS, oU, oU] [(.double (FP.i2d ((Int32.ofNat mm) * (Int32.ofNat (16 - nv)))))])) rfl (hb hby at_206) _ k) ?_
    show own_Go _ _ _ _ T (mkF m 209 #[oI p1, oI p2, oI p3, oI p4, oI p5, oI p6, oI (Int32.ofNat nv), oI (Int32.ofNat (16 - nv)), oI y0, oI y1, oI tw, oD B0, oS, oD B1, oS, oD B2, oS, oR le, oR fi, oR be, oI (Int32.ofNat mm), oD d0, oS, oU, oU] [(.double oC), (.double (FP.i2d ((Int32.ofNat mm) * (Int32.ofNat (16 - nv)))))])
    refine own_go (fun _ k => XS.ddivS X.here hx rfl (hb hby at_209) rfl (by rw [hd1]; exact hf1.noNaN) hd1 k) ?_
    show own_Go _ _ _ _ T (mkF m 210 #[oI p1, oI p2, oI p3, oI p4, oI p5, oI p6, oI (Int32.ofNat nv), oI (Int32.ofNat (16 - nv)), oI y0, oI y1, oI tw, oD B0, oS, oD B1, oS, oD B2, oS, oR le, oR fi, oR be, oI (Int32.ofNat mm), oD d0, oS, oU, oU] [(.double d1)])
    refine own_go (fun _ k => XS.dstore X.here hx rfl (hb hby at_210) rfl (l' := #[oI p1, oI p2, oI p3, oI p4, oI p5, oI p6, oI (Int32.ofNat nv), oI (Int32.ofNat (16 - nv)), oI y0, oI y1, oI tw, oD B0, oS, oD B1, oS, oD B2, oS, oR le, oR fi, oR be, oI (Int32.ofNat mm), oD d0, oS, oD d1, oS]) rfl k) ?_
    show own_Go _ _ _ _ T (mkF m 212 #[oI p1, oI p2, oI p3, oI p4, oI p5, oI p6, oI (Int32.ofNat nv), oI (Int32.ofNat (16 - nv)), oI y0, oI y1, oI tw, oD B0, oS, oD B1, oS, oD B2, oS, oR le, oR fi, oR be, oI (Int32.ofNat mm), oD d0, oS, oD d1, oS] [])
    refine own_go (fun _ k => XS.aload X.here hx rfl (hb hby at_212) rfl rfl k) ?_
    show own_Go _ _ _ _ T (mkF m 214 #[oI p1, oI p2, oI p3, oI p4, oI p5, oI p6, oI (Int32.ofNat nv), oI (Int32.ofNat (16 - nv)), oI y0, oI y1, oI tw, oD B0, oS, oD B1, oS, oD B2, oS, oR le, oR fi, oR be, oI (Int32.ofNat mm), oD d0, oS, oD d1, oS] [(.ref be)])
    refine own_go (fun _ k => XS.iconst X.here hx rfl (hb hby at_214) k) ?_
    show own_Go _ _ _ _ T (mkF m 215 #[oI p1, oI p2, oI p3, oI p4, oI p5, oI p6, oI (Int32.ofNat nv), oI (Int32.ofNat (16 - nv)), oI y0, oI y1, oI tw, oD B0, oS, oD B1, oS, oD B2, oS, oR le, oR fi, oR be, oI (Int32.ofNat mm), oD d0, oS, oD d1, oS] [(.int 0), (.ref be)])
    obtain ⟨clz434, Arz434, qz434, Sz434, Mz434, HHz434, Gz434⟩ := id V_be
    have hinz434 : ¬ ((0 : Int32) < 0 ∨ clz434.slots.size ≤ ((0 : Int32)).toNatClampNeg) := inb_of Sz434 ⟨(by decide), (by decide)⟩
    have hatz434 : clz434.slots[((0 : Int32)).toNatClampNeg]? = some (.double r0) := HHz434.at hinz434 (rfl)
    refine own_go (fun _ k => X.daload hx (j := (0 : Int32)) (v := (.double r0)) (by rw [eT]; exact Arz434.1) (State.isArrayOf_alike hZ.alike Arz434.2.1) Arz434.2.2 hinz434 hatz434 (g := (mkF m 215 #[oI p1, oI p2, oI p3, oI p4, oI p5, oI p6, oI (Int32.ofNat nv), oI (Int32.ofNat (16 - nv)), oI y0, oI y1, oI tw, oD B0, oS, oD B1, oS, oD B2, oS, oR le, oR fi, oR be, oI (Int32.ofNat mm), oD d0, oS, oD d1, oS] [(.int 0), (.ref be)])) rfl rfl (hb hby at_215) _ k) ?_
    show own_Go _ _ _ _ T (mkF m 216 #[oI p1, oI p2, oI p3, oI p4, oI p5, oI p6, oI (Int32.ofNat nv), oI (Int32.ofNat (16 - nv)), oI y0, oI y1, oI tw, oD B0, oS, oD B1, oS, oD B2, oS, oR le, oR fi, oR be, oI (Int32.ofNat mm), oD d0, oS, oD d1, oS] [(.double r0)])
    refine own_go (fun _ k => XS.iconst X.here hx rfl (hb hby at_216) k) ?_
    show own_Go _ _ _ _ T (mkF m 217 #[oI p1, oI p2, oI p3, oI p4, oI p5, oI p6, oI (Int32.ofNat nv), oI (Int32.ofNat (16 - nv)), oI y0, oI y1, oI tw, oD B0, oS, oD B1, oS, oD B2, oS, oR le, oR fi, oR be, oI (Int32.ofNat mm), oD d0, oS, oD d1, oS] [(.int 0), (.double r0)])
    refine own_go (fun _ k => XS.dload X.here hx rfl (hb hby at_217) rfl k) ?_
    show own_Go _ _ _ _ T (mkF m 219 #[oI p1, oI p2, oI p3, oI p4, oI p5, oI p6, oI (Int32.ofNat nv), oI (Int32.ofNat (16 - nv)), oI y0, oI y1, oI tw, oD B0, oS, oD B1, oS, oD B2, oS, oR le, oR fi, oR be, oI (Int32.ofNat mm), oD d0, oS, oD d1, oS] [(.double B0), (.int 0), (.double r0)])
    refine own_go (fun _ k => XS.iload X.here hx rfl (hb hby at_219) rfl k) ?_
    show own_Go _ _ _ _ T (mkF m 221 #[oI p1, oI p2, oI p3, oI p4, oI p5, oI p6, oI (Int32.ofNat nv), oI (Int32.ofNat (16 - nv)), oI y0, oI y1, oI tw, oD B0, oS, oD B1, oS, oD B2, oS, oR le, oR fi, oR be, oI (Int32.ofNat mm), oD d0, oS, oD d1, oS] [(.int y0), (.double B0), (.int 0), (.double r0)])
    refine own_go (fun _ k => XS.dload X.here hx rfl (hb hby at_221) rfl k) ?_
    show own_Go _ _ _ _ T (mkF m 223 #[oI p1, oI p2, oI p3, oI p4, oI p5, oI p6, oI (Int32.ofNat nv), oI (Int32.ofNat (16 - nv)), oI y0, oI y1, oI tw, oD B0, oS, oD B1, oS, oD B2, oS, oR le, oR fi, oR be, oI (Int32.ofNat mm), oD d0, oS, oD d1, oS] [(.double d0), (.int y0), (.double B0), (.int 0), (.double r0)])
    refine own_go (fun _ k => XS.iload X.here hx rfl (hb hby at_223) rfl k) ?_
    show own_Go _ _ _ _ T (mkF m 225 #[oI p1, oI p2, oI p3, oI p4, oI p5, oI p6, oI (Int32.ofNat nv), oI (Int32.ofNat (16 - nv)), oI y0, oI y1, oI tw, oD B0, oS, oD B1, oS, oD B2, oS, oR le, oR fi, oR be, oI (Int32.ofNat mm), oD d0, oS, oD d1, oS] [(.int y1), (.double d0), (.int y0), (.double B0), (.int 0), (.double r0)])
    refine own_go (fun _ k => XS.dload X.here hx rfl (hb hby at_225) rfl k) ?_
    show own_Go _ _ _ _ T (mkF m 227 #[oI p1, oI p2, oI p3, oI p4, oI p5, oI p6, oI (Int32.ofNat nv), oI (Int32.ofNat (16 - nv)), oI y0, oI y1, oI tw, oD B0, oS, oD B1, oS, oD B2, oS, oR le, oR fi, oR be, oI (Int32.ofNat mm), oD d0, oS, oD d1, oS] [(.double d1), (.int y1), (.double d0), (.int y0), (.double B0), (.int 0), (.double r0)])
    obtain ⟨vz435, Tz435, Lz435, Xz435, hQz435, stz435⟩ := own_callS X hx hZ hown (hw _ (List.mem_of_getElem? (i := 101) rfl)) (hw _ (List.mem_of_getElem? (i := 102) rfl)) (hw _ (List.mem_of_getElem? (i := 103) rfl)) (hw _ (List.mem_of_getElem? (i := 104) rfl)) (by decide) eT (own_rm12 l Z a0 hw [] (0 : Int32) B0 y0 d0 y1 d1 hh n0 (by decide) hB0 hf0 hf1) (W := 2) (by decide) (by decide) (by decide) (by decide) own_pd6 rfl (g := (mkF m 227 #[oI p1, oI p2, oI p3, oI p4, oI p5, oI p6, oI (Int32.ofNat nv), oI (Int32.ofNat (16 - nv)), oI y0, oI y1, oI tw, oD B0, oS, oD B1, oS, oD B2, oS, oR le, oR fi, oR be, oI (Int32.ofNat mm), oD d0, oS, oD d1, oS] [(.double d1), (.int y1), (.double d0), (.int y0), (.double B0), (.int 0), (.double r0)])) (argsL := [(.int 0), (.double B0), (.int y0), (.double d0), (.int y1), (.double d1)]) (rest := [(.double r0)]) rfl (by rw [hml]; rfl) rfl (by show 2 * 0 + _ ≤ _; exact Nat.le_of_eq rfl) (hb hby at_227)
    obtain ⟨rfl, Nz435q, ehz435⟩ := hQz435
    have Nz435 := Fr.app N Nz435q
    refine own_go stz435 ?_
    show own_Go _ _ _ _ Tz435 (mkF m 230 #[oI p1, oI p2, oI p3, oI p4, oI p5, oI p6, oI (Int32.ofNat nv), oI (Int32.ofNat (16 - nv)), oI y0, oI y1, oI tw, oD B0, oS, oD B1, oS, oD B2, oS, oR le, oR fi, oR be, oI (Int32.ofNat mm), oD d0, oS, oD d1, oS] [(.double (own_el (0 : Int32) y0 y1 B0 d0 d1)), (.double r0)])
    refine own_go (fun _ k => XS.dcmpS Xz435.here hx rfl (hb hby at_230) rfl rfl k) ?_
    show own_Go _ _ _ _ Tz435 (mkF m 231 #[oI p1, oI p2, oI p3, oI p4, oI p5, oI p6, oI (Int32.ofNat nv), oI (Int32.ofNat (16 - nv)), oI y0, oI y1, oI tw, oD B0, oS, oD B1, oS, oD B2, oS, oR le, oR fi, oR be, oI (Int32.ofNat mm), oD d0, oS, oD d1, oS] [(.int (cmpValue (FP.dcmp r0 (own_el (0 : Int32) y0 y1 B0 d0 d1)) .l))])
    refine own_go (fun _ k => XS.ifNo Xz435.here hx rfl (hb hby at_231) rfl ((if0 _ _).trans (teq hq0).2) k) ?_
    show own_Go _ _ _ _ Tz435 (mkF m 234 #[oI p1, oI p2, oI p3, oI p4, oI p5, oI p6, oI (Int32.ofNat nv), oI (Int32.ofNat (16 - nv)), oI y0, oI y1, oI tw, oD B0, oS, oD B1, oS, oD B2, oS, oR le, oR fi, oR be, oI (Int32.ofNat mm), oD d0, oS, oD d1, oS] [])
    refine own_go (fun _ k => XS.aload Xz435.here hx rfl (hb hby at_234) rfl rfl k) ?_
    show own_Go _ _ _ _ Tz435 (mkF m 236 #[oI p1, oI p2, oI p3, oI p4, oI p5, oI p6, oI (Int32.ofNat nv), oI (Int32.ofNat (16 - nv)), oI y0, oI y1, oI tw, oD B0, oS, oD B1, oS, oD B2, oS, oR le, oR fi, oR be, oI (Int32.ofNat mm), oD d0, oS, oD d1, oS] [(.ref be)])
    refine own_go (fun _ k => XS.iconst Xz435.here hx rfl (hb hby at_236) k) ?_
    show own_Go _ _ _ _ Tz435 (mkF m 237 #[oI p1, oI p2, oI p3, oI p4, oI p5, oI p6, oI (Int32.ofNat nv), oI (Int32.ofNat (16 - nv)), oI y0, oI y1, oI tw, oD B0, oS, oD B1, oS, oD B2, oS, oR le, oR fi, oR be, oI (Int32.ofNat mm), oD d0, oS, oD d1, oS] [(.int 1), (.ref be)])
    obtain ⟨clz436, Arz436, qz436, Sz436, Mz436, HHz436, Gz436⟩ := id V_be
    have hinz436 : ¬ ((1 : Int32) < 0 ∨ clz436.slots.size ≤ ((1 : Int32)).toNatClampNeg) := inb_of Sz436 ⟨(by decide), (by decide)⟩
    have hatz436 : clz436.slots[((1 : Int32)).toNatClampNeg]? = some (.double r1) := HHz436.at hinz436 (rfl)
    refine own_go (fun _ k => Xz435.daload hx (j := (1 : Int32)) (v := (.double r1)) (by rw [ehz435]; exact Arz436.1) (State.isArrayOf_alike hZ.alike Arz436.2.1) Arz436.2.2 hinz436 hatz436 (g := (mkF m 237 #[oI p1, oI p2, oI p3, oI p4, oI p5, oI p6, oI (Int32.ofNat nv), oI (Int32.ofNat (16 - nv)), oI y0, oI y1, oI tw, oD B0, oS, oD B1, oS, oD B2, oS, oR le, oR fi, oR be, oI (Int32.ofNat mm), oD d0, oS, oD d1, oS] [(.int 1), (.ref be)])) rfl rfl (hb hby at_237) _ k) ?_
    show own_Go _ _ _ _ Tz435 (mkF m 238 #[oI p1, oI p2, oI p3, oI p4, oI p5, oI p6, oI (Int32.ofNat nv), oI (Int32.ofNat (16 - nv)), oI y0, oI y1, oI tw, oD B0, oS, oD B1, oS, oD B2, oS, oR le, oR fi, oR be, oI (Int32.ofNat mm), oD d0, oS, oD d1, oS] [(.double r1)])
    refine own_go (fun _ k => XS.iconst Xz435.here hx rfl (hb hby at_238) k) ?_
    show own_Go _ _ _ _ Tz435 (mkF m 239 #[oI p1, oI p2, oI p3, oI p4, oI p5, oI p6, oI (Int32.ofNat nv), oI (Int32.ofNat (16 - nv)), oI y0, oI y1, oI tw, oD B0, oS, oD B1, oS, oD B2, oS, oR le, oR fi, oR be, oI (Int32.ofNat mm), oD d0, oS, oD d1, oS] [(.int 1), (.double r1)])
    refine own_go (fun _ k => XS.dload Xz435.here hx rfl (hb hby at_239) rfl k) ?_
    show own_Go _ _ _ _ Tz435 (mkF m 241 #[oI p1, oI p2, oI p3, oI p4, oI p5, oI p6, oI (Int32.ofNat nv), oI (Int32.ofNat (16 - nv)), oI y0, oI y1, oI tw, oD B0, oS, oD B1, oS, oD B2, oS, oR le, oR fi, oR be, oI (Int32.ofNat mm), oD d0, oS, oD d1, oS] [(.double B1), (.int 1), (.double r1)])
    refine own_go (fun _ k => XS.iload Xz435.here hx rfl (hb hby at_241) rfl k) ?_
    show own_Go _ _ _ _ Tz435 (mkF m 243 #[oI p1, oI p2, oI p3, oI p4, oI p5, oI p6, oI (Int32.ofNat nv), oI (Int32.ofNat (16 - nv)), oI y0, oI y1, oI tw, oD B0, oS, oD B1, oS, oD B2, oS, oR le, oR fi, oR be, oI (Int32.ofNat mm), oD d0, oS, oD d1, oS] [(.int y0), (.double B1), (.int 1), (.double r1)])
    refine own_go (fun _ k => XS.dload Xz435.here hx rfl (hb hby at_243) rfl k) ?_
    show own_Go _ _ _ _ Tz435 (mkF m 245 #[oI p1, oI p2, oI p3, oI p4, oI p5, oI p6, oI (Int32.ofNat nv), oI (Int32.ofNat (16 - nv)), oI y0, oI y1, oI tw, oD B0, oS, oD B1, oS, oD B2, oS, oR le, oR fi, oR be, oI (Int32.ofNat mm), oD d0, oS, oD d1, oS] [(.double d0), (.int y0), (.double B1), (.int 1), (.double r1)])
    refine own_go (fun _ k => XS.iload Xz435.here hx rfl (hb hby at_245) rfl k) ?_
    show own_Go _ _ _ _ Tz435 (mkF m 247 #[oI p1, oI p2, oI p3, oI p4, oI p5, oI p6, oI (Int32.ofNat nv), oI (Int32.ofNat (16 - nv)), oI y0, oI y1, oI tw, oD B0, oS, oD B1, oS, oD B2, oS, oR le, oR fi, oR be, oI (Int32.ofNat mm), oD d0, oS, oD d1, oS] [(.int y1), (.double d0), (.int y0), (.double B1), (.int 1), (.double r1)])
    refine own_go (fun _ k => XS.dload Xz435.here hx rfl (hb hby at_247) rfl k) ?_
    show own_Go _ _ _ _ Tz435 (mkF m 249 #[oI p1, oI p2, oI p3, oI p4, oI p5, oI p6, oI (Int32.ofNat nv), oI (Int32.ofNat (16 - nv)), oI y0, oI y1, oI tw, oD B0, oS, oD B1, oS, oD B2, oS, oR le, oR fi, oR be, oI (Int32.ofNat mm), oD d0, oS, oD d1, oS] [(.double d1), (.int y1), (.double d0), (.int y0), (.double B1), (.int 1), (.double r1)])
    obtain ⟨vz437, Tz437, Lz437, Xz437, hQz437, stz437⟩ := own_callS Xz435 hx hZ hown (hw _ (List.mem_of_getElem? (i := 101) rfl)) (hw _ (List.mem_of_getElem? (i := 102) rfl)) (hw _ (List.mem_of_getElem? (i := 103) rfl)) (hw _ (List.mem_of_getElem? (i := 104) rfl)) (by decide) ehz435 (own_rm12 l Z a0 hw [] (1 : Int32) B1 y0 d0 y1 d1 hh n0 (by decide) hB1 hf0 hf1) (W := 2) (by decide) (by decide) (by decide) (by decide) own_pd6 rfl (g := (mkF m 249 #[oI p1, oI p2, oI p3, oI p4, oI p5, oI p6, oI (Int32.ofNat nv), oI (Int32.ofNat (16 - nv)), oI y0, oI y1, oI tw, oD B0, oS, oD B1, oS, oD B2, oS, oR le, oR fi, oR be, oI (Int32.ofNat mm), oD d0, oS, oD d1, oS] [(.double d1), (.int y1), (.double d0), (.int y0), (.double B1), (.int 1), (.double r1)])) (argsL := [(.int 1), (.double B1), (.int y0), (.double d0), (.int y1), (.double d1)]) (rest := [(.double r1)]) rfl (by rw [hml]; rfl) rfl (by show 2 * 0 + _ ≤ _; exact Nat.le_of_eq rfl) (hb hby at_249)
    obtain ⟨rfl, Nz437q, ehz437⟩ := hQz437
    have Nz437 := Fr.app Nz435 Nz437q
    refine own_go stz437 ?_
    show own_Go _ _ _ _ Tz437 (mkF m 252 #[oI p1, oI p2, oI p3, oI p4, oI p5, oI p6, oI (Int32.ofNat nv), oI (Int32.ofNat (16 - nv)), oI y0, oI y1, oI tw, oD B0, oS, oD B1, oS, oD B2, oS, oR le, oR fi, oR be, oI (Int32.ofNat mm), oD d0, oS, oD d1, oS] [(.double (own_el (1 : Int32) y0 y1 B1 d0 d1)), (.double r1)])
    refine own_go (fun _ k => XS.dcmpS Xz437.here hx rfl (hb hby at_252) rfl rfl k) ?_
    show own_Go _ _ _ _ Tz437 (mkF m 253 #[oI p1, oI p2, oI p3, oI p4, oI p5, oI p6, oI (Int32.ofNat nv), oI (Int32.ofNat (16 - nv)), oI y0, oI y1, oI tw, oD B0, oS, oD B1, oS, oD B2, oS, oR le, oR fi, oR be, oI (Int32.ofNat mm), oD d0, oS, oD d1, oS] [(.int (cmpValue (FP.dcmp r1 (own_el (1 : Int32) y0 y1 B1 d0 d1)) .l))])
    refine own_go (fun _ k => XS.ifNo Xz437.here hx rfl (hb hby at_253) rfl ((if0 _ _).trans (teq hq1).2) k) ?_
    show own_Go _ _ _ _ Tz437 (mkF m 256 #[oI p1, oI p2, oI p3, oI p4, oI p5, oI p6, oI (Int32.ofNat nv), oI (Int32.ofNat (16 - nv)), oI y0, oI y1, oI tw, oD B0, oS, oD B1, oS, oD B2, oS, oR le, oR fi, oR be, oI (Int32.ofNat mm), oD d0, oS, oD d1, oS] [])
    refine own_go (fun _ k => XS.aload Xz437.here hx rfl (hb hby at_256) rfl rfl k) ?_
    show own_Go _ _ _ _ Tz437 (mkF m 258 #[oI p1, oI p2, oI p3, oI p4, oI p5, oI p6, oI (Int32.ofNat nv), oI (Int32.ofNat (16 - nv)), oI y0, oI y1, oI tw, oD B0, oS, oD B1, oS, oD B2, oS, oR le, oR fi, oR be, oI (Int32.ofNat mm), oD d0, oS, oD d1, oS] [(.ref be)])
    refine own_go (fun _ k => XS.iconst Xz437.here hx rfl (hb hby at_258) k) ?_
    show own_Go _ _ _ _ Tz437 (mkF m 259 #[oI p1, oI p2, oI p3, oI p4, oI p5, oI p6, oI (Int32.ofNat nv), oI (Int32.ofNat (16 - nv)), oI y0, oI y1, oI tw, oD B0, oS, oD B1, oS, oD B2, oS, oR le, oR fi, oR be, oI (Int32.ofNat mm), oD d0, oS, oD d1, oS] [(.int 2), (.ref be)])
    obtain ⟨clz438, Arz438, qz438, Sz438, Mz438, HHz438, Gz438⟩ := id V_be
    have hinz438 : ¬ ((2 : Int32) < 0 ∨ clz438.slots.size ≤ ((2 : Int32)).toNatClampNeg) := inb_of Sz438 ⟨(by decide), (by decide)⟩
    have hatz438 : clz438.slots[((2 : Int32)).toNatClampNeg]? = some (.double r2) := HHz438.at hinz438 (rfl)
    refine own_go (fun _ k => Xz437.daload hx (j := (2 : Int32)) (v := (.double r2)) (by rw [ehz437]; exact Arz438.1) (State.isArrayOf_alike hZ.alike Arz438.2.1) Arz438.2.2 hinz438 hatz438 (g := (mkF m 259 #[oI p1, oI p2, oI p3, oI p4, oI p5, oI p6, oI (Int32.ofNat nv), oI (Int32.ofNat (16 - nv)), oI y0, oI y1, oI tw, oD B0, oS, oD B1, oS, oD B2, oS, oR le, oR fi, oR be, oI (Int32.ofNat mm), oD d0, oS, oD d1, oS] [(.int 2), (.ref be)])) rfl rfl (hb hby at_259) _ k) ?_
    show own_Go _ _ _ _ Tz437 (mkF m 260 #[oI p1, oI p2, oI p3, oI p4, oI p5, oI p6, oI (Int32.ofNat nv), oI (Int32.ofNat (16 - nv)), oI y0, oI y1, oI tw, oD B0, oS, oD B1, oS, oD B2, oS, oR le, oR fi, oR be, oI (Int32.ofNat mm), oD d0, oS, oD d1, oS] [(.double r2)])
    refine own_go (fun _ k => XS.iconst Xz437.here hx rfl (hb hby at_260) k) ?_
    show own_Go _ _ _ _ Tz437 (mkF m 261 #[oI p1, oI p2, oI p3, oI p4, oI p5, oI p6, oI (Int32.ofNat nv), oI (Int32.ofNat (16 - nv)), oI y0, oI y1, oI tw, oD B0, oS, oD B1, oS, oD B2, oS, oR le, oR fi, oR be, oI (Int32.ofNat mm), oD d0, oS, oD d1, oS] [(.int 2), (.double r2)])
    refine own_go (fun _ k => XS.dload Xz437.here hx rfl (hb hby at_261) rfl k) ?_
    show own_Go _ _ _ _ Tz437 (mkF m 263 #[oI p1, oI p2, oI p3, oI p4, oI p5, oI p6, oI (Int32.ofNat nv), oI (Int32.ofNat (16 - nv)), oI y0, oI y1, oI tw, oD B0, oS, oD B1, oS, oD B2, oS, oR le, oR fi, oR be, oI (Int32.ofNat mm), oD d0, oS, oD d1, oS] [(.double B2), (.int 2), (.double r2)])
    refine own_go (fun _ k => XS.iload Xz437.here hx rfl (hb hby at_263) rfl k) ?_
    show own_Go _ _ _ _ Tz437 (mkF m 265 #[oI p1, oI p2, oI p3, oI p4, oI p5, oI p6, oI (Int32.ofNat nv), oI (Int32.ofNat (16 - nv)), oI y0, oI y1, oI tw, oD B0, oS, oD B1, oS, oD B2, oS, oR le, oR fi, oR be, oI (Int32.ofNat mm), oD d0, oS, oD d1, oS] [(.int y0), (.double B2), (.int 2), (.double r2)])
    refine own_go (fun _ k => XS.dload Xz437.here hx rfl (hb hby at_265) rfl k) ?_
    show own_Go _ _ _ _ Tz437 (mkF m 267 #[oI p1, oI p2, oI p3, oI p4, oI p5, oI p6, oI (Int32.ofNat nv), oI (Int32.ofNat (16 - nv)), oI y0, oI y1, oI tw, oD B0, oS, oD B1, oS, oD B2, oS, oR le, oR fi, oR be, oI (Int32.ofNat mm), oD d0, oS, oD d1, oS] [(.double d0), (.int y0), (.double B2), (.int 2), (.double r2)])
    refine own_go (fun _ k => XS.iload Xz437.here hx rfl (hb hby at_267) rfl k) ?_
    show own_Go _ _ _ _ Tz437 (mkF m 269 #[oI p1, oI p2, oI p3, oI p4, oI p5, oI p6, oI (Int32.ofNat nv), oI (Int32.ofNat (16 - nv)), oI y0, oI y1, oI tw, oD B0, oS, oD B1, oS, oD B2, oS, oR le, oR fi, oR be, oI (Int32.ofNat mm), oD d0, oS, oD d1, oS] [(.int y1), (.double d0), (.int y0), (.double B2), (.int 2), (.double r2)])
    refine own_go (fun _ k => XS.dload Xz437.here hx rfl (hb hby at_269) rfl k) ?_
    show own_Go _ _ _ _ Tz437 (mkF m 271 #[oI p1, oI p2, oI p3, oI p4, oI p5, oI p6, oI (Int32.ofNat nv), oI (Int32.ofNat (16 - nv)), oI y0, oI y1, oI tw, oD B0, oS, oD B1, oS, oD B2, oS, oR le, oR fi, oR be, oI (Int32.ofNat mm), oD d0, oS, oD d1, oS] [(.double d1), (.int y1), (.double d0), (.int y0), (.double B2), (.int 2), (.double r2)])
    obtain ⟨vz439, Tz439, Lz439, Xz439, hQz439, stz439⟩ := own_callS Xz437 hx hZ hown (hw _ (List.mem_of_getElem? (i := 101) rfl)) (hw _ (List.mem_of_getElem? (i := 102) rfl)) (hw _ (List.mem_of_getElem? (i := 103) rfl)) (hw _ (List.mem_of_getElem? (i := 104) rfl)) (by decide) ehz437 (own_rm12 l Z a0 hw [] (2 : Int32) B2 y0 d0 y1 d1 hh n0 (by decide) hB2 hf0 hf1) (W := 2) (by decide) (by decide) (by decide) (by decide) own_pd6 rfl (g := (mkF m 271 #[oI p1, oI p2, oI p3, oI p4, oI p5, oI p6, oI (Int32.ofNat nv), oI (Int32.ofNat (16 - nv)), oI y0, oI y1, oI tw, oD B0, oS, oD B1, oS, oD B2, oS, oR le, oR fi, oR be, oI (Int32.ofNat mm), oD d0, oS, oD d1, oS] [(.double d1), (.int y1), (.double d0), (.int y0), (.double B2), (.int 2), (.double r2)])) (argsL := [(.int 2), (.double B2), (.int y0), (.double d0), (.int y1), (.double d1)]) (rest := [(.double r2)]) rfl (by rw [hml]; rfl) rfl (by show 2 * 0 + _ ≤ _; exact Nat.le_of_eq rfl) (hb hby at_271)
    obtain ⟨rfl, Nz439q, ehz439⟩ := hQz439
    have Nz439 := Fr.app Nz437 Nz439q
    refine own_go stz439 ?_
    show own_Go _ _ _ _ Tz439 (mkF m 274 #[oI p1, oI p2, oI p3, oI p4, oI p5, oI p6, oI (Int32.ofNat nv), oI (Int32.ofNat (16 - nv)), oI y0, oI y1, oI tw, oD B0, oS, oD B1, oS, oD B2, oS, oR le, oR fi, oR be, oI (Int32.ofNat mm), oD d0, oS, oD d1, oS] [(.double (own_el (2 : Int32) y0 y1 B2 d0 d1)), (.double r2)])
    refine own_go (fun _ k => XS.dcmpS Xz439.here hx rfl (hb hby at_274) rfl rfl k) ?_
    show own_Go _ _ _ _ Tz439 (mkF m 275 #[oI p1, oI p2, oI p3, oI p4, oI p5, oI p6, oI (Int32.ofNat nv), oI (Int32.ofNat (16 - nv)), oI y0, oI y1, oI tw, oD B0, oS, oD B1, oS, oD B2, oS, oR le, oR fi, oR be, oI (Int32.ofNat mm), oD d0, oS, oD d1, oS] [(.int (cmpValue (FP.dcmp r2 (own_el (2 : Int32) y0 y1 B2 d0 d1)) .l))])
    refine own_go (fun _ k => XS.ifNo Xz439.here hx rfl (hb hby at_275) rfl ((if0 _ _).trans (teq hq2).2) k) ?_
    show own_Go _ _ _ _ Tz439 (mkF m 278 #[oI p1, oI p2, oI p3, oI p4, oI p5, oI p6, oI (Int32.ofNat nv), oI (Int32.ofNat (16 - nv)), oI y0, oI y1, oI tw, oD B0, oS, oD B1, oS, oD B2, oS, oR le, oR fi, oR be, oI (Int32.ofNat mm), oD d0, oS, oD d1, oS] [])
    refine own_go (fun _ k => XS.iconst Xz439.here hx rfl (hb hby at_278) k) ?_
    show own_Go _ _ _ _ Tz439 (mkF m 279 #[oI p1, oI p2, oI p3, oI p4, oI p5, oI p6, oI (Int32.ofNat nv), oI (Int32.ofNat (16 - nv)), oI y0, oI y1, oI tw, oD B0, oS, oD B1, oS, oD B2, oS, oR le, oR fi, oR be, oI (Int32.ofNat mm), oD d0, oS, oD d1, oS] [(.int 1)])
    refine own_go (fun _ k => XS.goto Xz439.here hx rfl (pc0 := 279) (pc' := 283) rfl (hb hby at_279) (by decide) (by decide) k) ?_
    show own_Go _ _ _ _ Tz439 (mkF m 283 #[oI p1, oI p2, oI p3, oI p4, oI p5, oI p6, oI (Int32.ofNat nv), oI (Int32.ofNat (16 - nv)), oI y0, oI y1, oI tw, oD B0, oS, oD B1, oS, oD B2, oS, oR le, oR fi, oR be, oI (Int32.ofNat mm), oD d0, oS, oD d1, oS] [(.int 1)])
    exact own_end Xz439 hlk (v := (some (.int 1))) (fun h => by rw [hret] at h; cases h) (fun fs hr => retN Xz439 hx (t := .boolean) hret (by simp) (hb hby at_283) hr) (by rw [ehz439]; exact ⟨rfl, Nz439⟩) (by decide) (by decide)
  have k172 : ∀ (T : State) (hh : Heap) (locs : List Loc) (X : Stand p l e room_1 s m #[(.int p1), (.int p2), (.int p3), (.int p4), (.int p5), (.int p6)] below meth c T locs 15 106) (eT : T.heap = hh) (N : Fr n0 locs) (be : Addr) (kbe : ClassId) (r0 r1 r2 : UInt64) (V_be : Arv Z hh be kbe .double (3 : Int32) [(.double r0), (.double r1), (.double r2)] (.double 0)) (mm : Nat) (d0 d1 : UInt64) (hmm : (if (0 : Int32) < p2 then (if (16 : Int32) < p2 then (16 : Int32) else p2) else (0 : Int32)) = Int32.ofNat mm) (hd0 : FP.ddiv (FP.i2d (Int32.ofNat mm * Int32.ofNat nv)) 4625196817309499392 = d0) (hd1 : FP.ddiv (FP.i2d (Int32.ofNat mm * Int32.ofNat (16 - nv))) 4625196817309499392 = d1) (hf0 : Fin64 d0) (hf1 : Fin64 d1) (hq0 : cmpValue (FP.dcmp r0 (own_el (0 : Int32) y0 y1 B0 d0 d1)) .l = 0) (hq1 : cmpValue (FP.dcmp r1 (own_el (1 : Int32) y0 y1 B1 d0 d1)) .l = 0) (hq2 : cmpValue (FP.dcmp r2 (own_el (2 : Int32) y0 y1 B2 d0 d1)) .l = 0), own_Go p e below (own_Fin s (own_Q0 Z p1 h0 n0) room_1.cells room_1.slots) T (mkF m 172 #[oI p1, oI p2, oI p3, oI p4, oI p5, oI p6, oI (Int32.ofNat nv), oI (Int32.ofNat (16 - nv)), oI y0, oI y1, oI tw, oD B0, oS, oD B1, oS, oD B2, oS, oR le, oR fi, oR be, oU, oU, oU, oU, oU] []) := by
    intro T hh locs X eT N be kbe r0 r1 r2 V_be mm d0 d1 hmm hd0 hd1 hf0 hf1 hq0 hq1 hq2
    show own_Go _ _ _ _ T (mkF m 172 #[oI p1, oI p2, oI p3, oI p4, oI p5, oI p6, oI (Int32.ofNat nv), oI (Int32.ofNat (16 - nv)), oI y0, oI y1, oI tw, oD B0, oS, oD B1, oS, oD B2, oS, oR le, oR fi, oR be, oU, oU, oU, oU, oU] [])
    refine own_go (fun _ k => XS.iloadN X.here hx rfl (hb hby at_172) rfl k) ?_
    show own_Go _ _ _ _ T (mkF m 173 #[oI p1, oI p2, oI p3, oI p4, oI p5, oI p6, oI (Int32.ofNat nv), oI (Int32.ofNat (16 - nv)), oI y0, oI y1, oI tw, oD B0, oS, oD B1, oS, oD B2, oS, oR le, oR fi, oR be, oU, oU, oU, oU, oU] [(.int p2)])
    by_cases hG : (0 : Int32) < p2
    · refine own_go (fun _ k => XS.ifYes X.here hx rfl (pc0 := 173) (pc' := 180) rfl (hb hby at_173) rfl ((if0 _ _).trans (tlt hG).2.2.1) (by decide) (by decide) k) ?_
      show own_Go _ _ _ _ T (mkF m 180 #[oI p1, oI p2, oI p3, oI p4, oI p5, oI p6, oI (Int32.ofNat nv), oI (Int32.ofNat (16 - nv)), oI y0, oI y1, oI tw, oD B0, oS, oD B1, oS, oD B2, oS, oR le, oR fi, oR be, oU, oU, oU, oU, oU] [])
      refine own_go (fun _ k => XS.iloadN X.here hx rfl (hb hby at_180) rfl k) ?_
      show own_Go _ _ _ _ T (mkF m 181 #[oI p1, oI p2, oI p3, oI p4, oI p5, oI p6, oI (Int32.ofNat nv), oI (Int32.ofNat (16 - nv)), oI y0, oI y1, oI tw, oD B0, oS, oD B1, oS, oD B2, oS, oR le, oR fi, oR be, oU, oU, oU, oU, oU] [(.int p2)])
      refine own_go (fun _ k => XS.bipush X.here hx rfl (hb hby at_181) k) ?_
      show own_Go _ _ _ _ T (mkF m 183 #[oI p1, oI p2, oI p3, oI p4, oI p5, oI p6, oI (Int32.ofNat nv), oI (Int32.ofNat (16 - nv)), oI y0, oI y1, oI tw, oD B0, oS, oD B1, oS, oD B2, oS, oR le, oR fi, oR be, oU, oU, oU, oU, oU] [(.int 16), (.int p2)])
      obtain ⟨vz440, Tz440, Lz440, Xz440, hQz440, stz440⟩ := own_callS X hx hZ hown (hw _ (List.mem_of_getElem? (i := 97) rfl)) (hw _ (List.mem_of_getElem? (i := 98) rfl)) (hw _ (List.mem_of_getElem? (i := 76) rfl)) (hw _ (List.mem_of_getElem? (i := 99) rfl)) (by decide) eT (own_rm11 l Z a0 hw [] p2 (16 : Int32) hh n0) (W := 0) (by decide) (by decide) (by decide) (by decide) own_pd7 rfl (g := (mkF m 183 #[oI p1, oI p2, oI p3, oI p4, oI p5, oI p6, oI (Int32.ofNat nv), oI (Int32.ofNat (16 - nv)), oI y0, oI y1, oI tw, oD B0, oS, oD B1, oS, oD B2, oS, oR le, oR fi, oR be, oU, oU, oU, oU, oU] [(.int 16), (.int p2)])) (argsL := [(.int p2), (.int 16)]) (rest := []) rfl (by rw [hml]; rfl) rfl (by show 2 * 0 + _ ≤ _; exact Nat.le_of_eq rfl) (hb hby at_183)
      obtain ⟨rfl, Nz440q, ehz440⟩ := hQz440
      have Nz440 := Fr.app N Nz440q
      refine own_go stz440 ?_
      show own_Go _ _ _ _ Tz440 (mkF m 186 #[oI p1, oI p2, oI p3, oI p4, oI p5, oI p6, oI (Int32.ofNat nv), oI (Int32.ofNat (16 - nv)), oI y0, oI y1, oI tw, oD B0, oS, oD B1, oS, oD B2, oS, oR le, oR fi, oR be, oU, oU, oU, oU, oU] [(.int (if (16 : Int32) < p2 then (16 : Int32) else p2))])
      rw [if_pos hG] at hmm
      rw [hmm]
      exact k186 Tz440 hh _ Xz440 ehz440 Nz440 be kbe r0 r1 r2 V_be mm d0 d1 hd0 hd1 hf0 hf1 hq0 hq1 hq2
    · refine own_go (fun _ k => XS.ifNo X.here hx rfl (hb hby at_173) rfl ((if0 _ _).trans (flt hG).2.2.1) k) ?_
      show own_Go _ _ _ _ T (mkF m 176 #[oI p1, oI p2, oI p3, oI p4, oI p5, oI p6, oI (Int32.ofNat nv), oI (Int32.ofNat (16 - nv)), oI y0, oI y1, oI tw, oD B0, oS, oD B1, oS, oD B2, oS, oR le, oR fi, oR be, oU, oU, oU, oU, oU] [])
      refine own_go (fun _ k => XS.iconst X.here hx rfl (hb hby at_176) k) ?_
      show own_Go _ _ _ _ T (mkF m 177 #[oI p1, oI p2, oI p3, oI p4, oI p5, oI p6, oI (Int32.ofNat nv), oI (Int32.ofNat (16 - nv)), oI y0, oI y1, oI tw, oD B0, oS, oD B1, oS, oD B2, oS, oR le, oR fi, oR be, oU, oU, oU, oU, oU] [(.int 0)])
      refine own_go (fun _ k => XS.goto X.here hx rfl (pc0 := 177) (pc' := 186) rfl (hb hby at_177) (by decide) (by decide) k) ?_
      show own_Go _ _ _ _ T (mkF m 186 #[oI p1, oI p2, oI p3, oI p4, oI p5, oI p6, oI (Int32.ofNat nv), oI (Int32.ofNat (16 - nv)), oI y0, oI y1, oI tw, oD B0, oS, oD B1, oS, oD B2, oS, oR le, oR fi, oR be, oU, oU, oU, oU, oU] [(.int 0)])
      rw [if_neg hG] at hmm
      rw [hmm]
      exact k186 T hh _ X eT N be kbe r0 r1 r2 V_be mm d0 d1 hd0 hd1 hf0 hf1 hq0 hq1 hq2
  refine own_go (fun _ k => XS.iload Xz433.here hx rfl (hb hby at_121) rfl k) ?_
  show own_Go _ _ _ _ Tz433 (mkF m 123 #[oI p1, oI p2, oI p3, oI p4, oI p5, oI p6, oI (Int32.ofNat nv), oI (Int32.ofNat (16 - nv)), oI y0, oI y1, oI tw, oD B0, oS, oD B1, oS, oD B2, oS, oR le, oR fi, oU, oU, oU, oU, oU, oU] [(.int tw)])
  by_cases hT : tw = (0 : Int32)
  · refine own_go (fun _ k => XS.ifYes Xz433.here hx rfl (pc0 := 123) (pc' := 136) rfl (hb hby at_123) rfl ((if0 _ _).trans (teq hT).1) (by decide) (by decide) k) ?_
    show own_Go _ _ _ _ Tz433 (mkF m 136 #[oI p1, oI p2, oI p3, oI p4, oI p5, oI p6, oI (Int32.ofNat nv), oI (Int32.ofNat (16 - nv)), oI y0, oI y1, oI tw, oD B0, oS, oD B1, oS, oD B2, oS, oR le, oR fi, oU, oU, oU, oU, oU, oU] [])
    refine own_go (fun _ k => XS.aload Xz433.here hx rfl (hb hby at_136) rfl rfl k) ?_
    show own_Go _ _ _ _ Tz433 (mkF m 138 #[oI p1, oI p2, oI p3, oI p4, oI p5, oI p6, oI (Int32.ofNat nv), oI (Int32.ofNat (16 - nv)), oI y0, oI y1, oI tw, oD B0, oS, oD B1, oS, oD B2, oS, oR le, oR fi, oU, oU, oU, oU, oU, oU] [(.ref fi)])
    refine own_go (fun _ k => XS.iconst Xz433.here hx rfl (hb hby at_138) k) ?_
    show own_Go _ _ _ _ Tz433 (mkF m 139 #[oI p1, oI p2, oI p3, oI p4, oI p5, oI p6, oI (Int32.ofNat nv), oI (Int32.ofNat (16 - nv)), oI y0, oI y1, oI tw, oD B0, oS, oD B1, oS, oD B2, oS, oR le, oR fi, oU, oU, oU, oU, oU, oU] [(.int 0), (.ref fi)])
    refine own_go (fun _ k => XS.iloadN Xz433.here hx rfl (hb hby at_139) rfl k) ?_
    show own_Go _ _ _ _ Tz433 (mkF m 140 #[oI p1, oI p2, oI p3, oI p4, oI p5, oI p6, oI (Int32.ofNat nv), oI (Int32.ofNat (16 - nv)), oI y0, oI y1, oI tw, oD B0, oS, oD B1, oS, oD B2, oS, oR le, oR fi, oU, oU, oU, oU, oU, oU] [(.int p2), (.int 0), (.ref fi)])
    refine own_go (fun _ k => XS.i2dS Xz433.here hx rfl (hb hby at_140) rfl rfl k) ?_
    show own_Go _ _ _ _ Tz433 (mkF m 141 #[oI p1, oI p2, oI p3, oI p4, oI p5, oI p6, oI (Int32.ofNat nv), oI (Int32.ofNat (16 - nv)), oI y0, oI y1, oI tw, oD B0, oS, oD B1, oS, oD B2, oS, oR le, oR fi, oU, oU, oU, oU, oU, oU] [(.double (FP.i2d p2)), (.int 0), (.ref fi)])
    by_cases hpos : (0 : Int32) < p2
    · by_cases hbig : (15 : Int32) < p2
      · obtain ⟨hx0, hU, hge, hv⟩ := own_cb p2 hbig
        obtain ⟨vz441, Tz441, Lz441, Xz441, hQz441, stz441⟩ := own_callV Xz433 hx hZ hown (hw _ (List.mem_of_getElem? (i := 63) rfl)) (hw _ (List.mem_of_getElem? (i := 64) rfl)) (hw _ (List.mem_of_getElem? (i := 66) rfl)) (hw _ (List.mem_of_getElem? (i := 65) rfl)) (hw _ (List.mem_of_getElem? (i := 24) rfl)) (hw _ (List.mem_of_getElem? (i := 67) rfl)) (by decide) rfl E_fi (own_rmslB l Z a0 hw [] fi 0 (FP.i2d p2) Tz433.heap n0 le ex jo go pe li in_ ou fl el ev st se kex kjo kgo kpe kli kin_ kou kfl kel kev kst kse g_le lt_le_ex lt_ex_jo lt_jo_go lt_go_pe lt_pe_li lt_li_fi lt_fi_in_ lt_in__ou lt_ou_fl lt_fl_el lt_el_ev lt_ev_st lt_st_se V0 V1 (4625196817309499392 : UInt64) (0 : UInt64) (0 : UInt64) rfl hx0 hU (own_cN p2) hnV0 hnV1 haV0 haV1 hpV0 hpV1 hmV0 hmV1 hsV hv hge y0 y1 E_fi F22 F0 F2 F38 F36 F18 F12 F26 F40 F16 F6 F34 F20 F10 F30 F32 F4 F14 F8 F28 F24 V_jo V_go V_pe V_li V_in_ V_ou V_fl V_el V_ev V_st V_se) (W := 0) (by decide) (by decide) (by decide) (by decide) own_pd8 rfl (g := (mkF m 141 #[oI p1, oI p2, oI p3, oI p4, oI p5, oI p6, oI (Int32.ofNat nv), oI (Int32.ofNat (16 - nv)), oI y0, oI y1, oI tw, oD B0, oS, oD B1, oS, oD B2, oS, oR le, oR fi, oU, oU, oU, oU, oU, oU] [(.double (FP.i2d p2)), (.int 0), (.ref fi)])) (argsL := [(.int 0), (.double (FP.i2d p2))]) (rest := []) rfl (by rw [hml]; rfl) rfl (by show 2 * 0 + _ ≤ _; exact Nat.le_of_eq rfl) (hb hby at_141)
        obtain ⟨rfl, Nz441q, Kz441, c0_z441, c1_z441, c2_z441, c3_z441, c4_z441, c5_z441, c6_z441, c7_z441, c8_z441, c9_z441, c10_z441, c11_z441, c12_z441, c13_z441, c14_z441, c15_z441, c16_z441, c17_z441, c18_z441, c19_z441, c20_z441, c21_z441, c22_z441, c23_z441, c24_z441, c25_z441, c26_z441, c27_z441, c28_z441, c29_z441, c30_z441, c31_z441, c32_z441⟩ := hQz441
        have Nz441 := Fr.app Nz433 Nz441q
        refine own_go stz441 ?_
        have O := O.keep Kz441 (allS g_fi (allS g_jo (allS g_pe (allS g_li (allS g_fl all0)))))
        have E_le := E_le.keep Kz441
        have V_ex := V_ex.keep Kz441 (ninS (Nat.ne_of_lt lt_ex_fi) (ninS (Nat.ne_of_lt lt_ex_jo) (ninS (Nat.ne_of_lt lt_ex_pe) (ninS (Nat.ne_of_lt lt_ex_li) (ninS (Nat.ne_of_lt lt_ex_fl) nin0)))))
        have E_fi := c0_z441
        have F22 := c1_z441
        have F0 := c2_z441
        have F2 := c3_z441
        have F38 := c4_z441
        have F36 := c5_z441
        have F18 := c6_z441
        have F12 := c7_z441
        have F26 := c8_z441
        have F40 := c9_z441
        have F16 := c10_z441
        have F6 := c11_z441
        have F34 := c12_z441
        have F20 := c13_z441
        have F10 := c14_z441
        have F30 := c15_z441
        have F32 := c16_z441
        have F4 := c17_z441
        have F14 := c18_z441
        have F8 := c19_z441
        have F28 := c20_z441
        have F24 := c21_z441
        have V_jo := c22_z441
        have V_go := c23_z441
        have V_pe := c24_z441
        have V_li := c25_z441
        have V_in_ := c26_z441
        have V_ou := c27_z441
        have V_fl := c28_z441
        have V_el := c29_z441
        have V_ev := c30_z441
        have V_st := c31_z441
        have V_se := c32_z441
        show own_Go _ _ _ _ Tz441 (mkF m 144 #[oI p1, oI p2, oI p3, oI p4, oI p5, oI p6, oI (Int32.ofNat nv), oI (Int32.ofNat (16 - nv)), oI y0, oI y1, oI tw, oD B0, oS, oD B1, oS, oD B2, oS, oR le, oR fi, oU, oU, oU, oU, oU, oU] [(.double oC)])
        refine own_go (fun _ k => own_pop2D Xz441.here hx rfl (hb hby at_144) rfl k) ?_
        show own_Go _ _ _ _ Tz441 (mkF m 145 #[oI p1, oI p2, oI p3, oI p4, oI p5, oI p6, oI (Int32.ofNat nv), oI (Int32.ofNat (16 - nv)), oI y0, oI y1, oI tw, oD B0, oS, oD B1, oS, oD B2, oS, oR le, oR fi, oU, oU, oU, oU, oU, oU] [])
        refine own_go (fun _ k => XS.iconst Xz441.here hx rfl (hb hby at_145) k) ?_
        show own_Go _ _ _ _ Tz441 (mkF m 146 #[oI p1, oI p2, oI p3, oI p4, oI p5, oI p6, oI (Int32.ofNat nv), oI (Int32.ofNat (16 - nv)), oI y0, oI y1, oI tw, oD B0, oS, oD B1, oS, oD B2, oS, oR le, oR fi, oU, oU, oU, oU, oU, oU] [(.int 3)])
        obtain ⟨Tz442, hz442, kz442, Xz442, ez442, Ez442, Az442, stz442⟩ := newP Xz441 hx hZ (hw _ (List.mem_of_getElem? (i := 12) rfl)) rfl (g := (mkF m 146 #[oI p1, oI p2, oI p3, oI p4, oI p5, oI p6, oI (Int32.ofNat nv), oI (Int32.ofNat (16 - nv)), oI y0, oI y1, oI tw, oD B0, oS, oD B1, oS, oD B2, oS, oR le, oR fi, oU, oU, oU, oU, oU, oU] [(.int 3)])) rfl (hb hby at_146) rfl (by decide) (cap := 3) (by decide) (by decide) (by decide) (by decide)
        obtain ⟨be, gz442⟩ : ∃ z, z = Tz441.heap.size := ⟨_, rfl⟩
        rw [← gz442] at Az442 stz442
        have lt_ex_be : @LT.lt Nat _ ex be := Nat.lt_of_lt_of_le V_ex.lt (Nat.le_of_eq gz442.symm)
        have lt_fi_be : @LT.lt Nat _ fi be := Nat.lt_of_lt_of_le E_fi.lt (Nat.le_of_eq gz442.symm)
        have lt_le_be : @LT.lt Nat _ le be := Nat.lt_of_lt_of_le F4.lt (Nat.le_of_eq gz442.symm)
        have lt_pe_be : @LT.lt Nat _ pe be := Nat.lt_of_lt_of_le V_pe.lt (Nat.le_of_eq gz442.symm)
        have lt_fl_be : @LT.lt Nat _ fl be := Nat.lt_of_lt_of_le V_fl.lt (Nat.le_of_eq gz442.symm)
        have lt_se_be : @LT.lt Nat _ se be := Nat.lt_of_lt_of_le V_se.lt (Nat.le_of_eq gz442.symm)
        have g_be : n0 ≤ be := by rw [gz442, ← O.1]; exact O.2.1
        have O := O.ext Ez442
        have V_ex := V_ex.ext Ez442
        have E_fi := E_fi.ext Ez442
        have F22 := F22.ext Ez442
        have F18 := F18.ext Ez442
        have F20 := F20.ext Ez442
        have F30 := F30.ext Ez442
        have F32 := F32.ext Ez442
        have F4 := F4.ext Ez442
        have F28 := F28.ext Ez442
        have V_pe := V_pe.ext Ez442
        have V_fl := V_fl.ext Ez442
        have V_se := V_se.ext Ez442
        refine own_go stz442 ?_
        have V_be : Arv Z hz442 be kz442 .double (3 : Int32) [(.double 0), (.double 0), (.double 0)] (.double 0) := (Arv.new Az442 (by decide)).pad (pad_rep [] (.double 0) 3)
        show own_Go _ _ _ _ Tz442 (mkF m 148 #[oI p1, oI p2, oI p3, oI p4, oI p5, oI p6, oI (Int32.ofNat nv), oI (Int32.ofNat (16 - nv)), oI y0, oI y1, oI tw, oD B0, oS, oD B1, oS, oD B2, oS, oR le, oR fi, oU, oU, oU, oU, oU, oU] [(.ref be)])
        obtain ⟨kbe, rfl⟩ : ∃ z, z = kz442 := ⟨_, rfl⟩
        refine own_go (fun _ k => XS.dup Xz442.here hx rfl (hb hby at_148) rfl rfl k) ?_
        show own_Go _ _ _ _ Tz442 (mkF m 149 #[oI p1, oI p2, oI p3, oI p4, oI p5, oI p6, oI (Int32.ofNat nv), oI (Int32.ofNat (16 - nv)), oI y0, oI y1, oI tw, oD B0, oS, oD B1, oS, oD B2, oS, oR le, oR fi, oU, oU, oU, oU, oU, oU] [(.ref be), (.ref be)])
        refine own_go (fun _ k => XS.iconst Xz442.here hx rfl (hb hby at_149) k) ?_
        show own_Go _ _ _ _ Tz442 (mkF m 150 #[oI p1, oI p2, oI p3, oI p4, oI p5, oI p6, oI (Int32.ofNat nv), oI (Int32.ofNat (16 - nv)), oI y0, oI y1, oI tw, oD B0, oS, oD B1, oS, oD B2, oS, oR le, oR fi, oU, oU, oU, oU, oU, oU] [(.int 0), (.ref be), (.ref be)])
        refine own_go (fun _ k => XS.dload Xz442.here hx rfl (hb hby at_150) rfl k) ?_
        show own_Go _ _ _ _ Tz442 (mkF m 152 #[oI p1, oI p2, oI p3, oI p4, oI p5, oI p6, oI (Int32.ofNat nv), oI (Int32.ofNat (16 - nv)), oI y0, oI y1, oI tw, oD B0, oS, oD B1, oS, oD B2, oS, oR le, oR fi, oU, oU, oU, oU, oU, oU] [(.double B0), (.int 0), (.ref be), (.ref be)])
        obtain ⟨clz443, Arz443, qz443, Sz443, Mz443, HHz443, Gz443⟩ := V_be
        have hinz443 : ¬ ((0 : Int32) < 0 ∨ clz443.slots.size ≤ ((0 : Int32)).toNatClampNeg) := inb_of Sz443 ⟨(by decide), (by decide)⟩
        obtain ⟨Tz443, hz443, Xz443, ez443, Wz443, stz443⟩ := stD Xz442 hx hZ ez442 Arz443 (j := (0 : Int32)) hinz443 (g := (mkF m 152 #[oI p1, oI p2, oI p3, oI p4, oI p5, oI p6, oI (Int32.ofNat nv), oI (Int32.ofNat (16 - nv)), oI y0, oI y1, oI tw, oD B0, oS, oD B1, oS, oD B2, oS, oR le, oR fi, oU, oU, oU, oU, oU, oU] [(.double B0), (.int 0), (.ref be), (.ref be)])) rfl rfl (hb hby at_152)
        refine own_go stz443 ?_
        have V_be_ : Arv Z hz443 be kbe .double (3 : Int32) [(.double B0), (.double 0), (.double 0)] (.double 0) := Arv.set Arz443 qz443 Sz443 Mz443 HHz443 Gz443 rfl Wz443 0 rfl (Nat.le_of_ble_eq_true rfl)
        have Nz443 := Fr.snoc Xz443 Nz441 g_be
        have O := O.wr Wz443 g_be
        have V_ex := V_ex.other Wz443 (Nat.ne_of_lt lt_ex_be)
        have E_fi := E_fi.wr Wz443
        have F22 := F22.other Wz443 (own_o1 lt_fi_be)
        have F18 := F18.other Wz443 (own_o1 lt_fi_be)
        have F20 := F20.other Wz443 (own_o1 lt_fi_be)
        have F30 := F30.other Wz443 (own_o1 lt_fi_be)
        have F32 := F32.other Wz443 (own_o1 lt_fi_be)
        have F4 := F4.other Wz443 (own_o1 lt_le_be)
        have F28 := F28.other Wz443 (own_o1 lt_le_be)
        have V_pe := V_pe.other Wz443 (Nat.ne_of_lt lt_pe_be)
        have V_fl := V_fl.other Wz443 (Nat.ne_of_lt lt_fl_be)
        have V_be := V_be_
        show own_Go _ _ _ _ Tz443 (mkF m 153 #[oI p1, oI p2, oI p3, oI p4, oI p5, oI p6, oI (Int32.ofNat nv), oI (Int32.ofNat (16 - nv)), oI y0, oI y1, oI tw, oD B0, oS, oD B1, oS, oD B2, oS, oR le, oR fi, oU, oU, oU, oU, oU, oU] [(.ref be)])
        refine own_go (fun _ k => XS.dup Xz443.here hx rfl (hb hby at_153) rfl rfl k) ?_
        show own_Go _ _ _ _ Tz443 (mkF m 154 #[oI p1, oI p2, oI p3, oI p4, oI p5, oI p6, oI (Int32.ofNat nv), oI (Int32.ofNat (16 - nv)), oI y0, oI y1, oI tw, oD B0, oS, oD B1, oS, oD B2, oS, oR le, oR fi, oU, oU, oU, oU, oU, oU] [(.ref be), (.ref be)])
        refine own_go (fun _ k => XS.iconst Xz443.here hx rfl (hb hby at_154) k) ?_
        show own_Go _ _ _ _ Tz443 (mkF m 155 #[oI p1, oI p2, oI p3, oI p4, oI p5, oI p6, oI (Int32.ofNat nv), oI (Int32.ofNat (16 - nv)), oI y0, oI y1, oI tw, oD B0, oS, oD B1, oS, oD B2, oS, oR le, oR fi, oU, oU, oU, oU, oU, oU] [(.int 1), (.ref be), (.ref be)])
        refine own_go (fun _ k => XS.dload Xz443.here hx rfl (hb hby at_155) rfl k) ?_
        show own_Go _ _ _ _ Tz443 (mkF m 157 #[oI p1, oI p2, oI p3, oI p4, oI p5, oI p6, oI (Int32.ofNat nv), oI (Int32.ofNat (16 - nv)), oI y0, oI y1, oI tw, oD B0, oS, oD B1, oS, oD B2, oS, oR le, oR fi, oU, oU, oU, oU, oU, oU] [(.double B1), (.int 1), (.ref be), (.ref be)])
        obtain ⟨clz444, Arz444, qz444, Sz444, Mz444, HHz444, Gz444⟩ := V_be
        have hinz444 : ¬ ((1 : Int32) < 0 ∨ clz444.slots.size ≤ ((1 : Int32)).toNatClampNeg) := inb_of Sz444 ⟨(by decide), (by decide)⟩
        obtain ⟨Tz444, hz444, Xz444, ez444, Wz444, stz444⟩ := stD Xz443 hx hZ ez443 Arz444 (j := (1 : Int32)) hinz444 (g := (mkF m 157 #[oI p1, oI p2, oI p3, oI p4, oI p5, oI p6, oI (Int32.ofNat nv), oI (Int32.ofNat (16 - nv)), oI y0, oI y1, oI tw, oD B0, oS, oD B1, oS, oD B2, oS, oR le, oR fi, oU, oU, oU, oU, oU, oU] [(.double B1), (.int 1), (.ref be), (.ref be)])) rfl rfl (hb hby at_157)
        refine own_go stz444 ?_
        have V_be_ : Arv Z hz444 be kbe .double (3 : Int32) [(.double B0), (.double B1), (.double 0)] (.double 0) := Arv.set Arz444 qz444 Sz444 Mz444 HHz444 Gz444 rfl Wz444 1 rfl (Nat.le_of_ble_eq_true rfl)
        have Nz444 := Fr.snoc Xz444 Nz443 g_be
        have O := O.wr Wz444 g_be
        have V_ex := V_ex.other Wz444 (Nat.ne_of_lt lt_ex_be)
        have E_fi := E_fi.wr Wz444
        have F22 := F22.other Wz444 (own_o1 lt_fi_be)
        have F18 := F18.other Wz444 (own_o1 lt_fi_be)
        have F20 := F20.other Wz444 (own_o1 lt_fi_be)
        have F30 := F30.other Wz444 (own_o1 lt_fi_be)
        have F32 := F32.other Wz444 (own_o1 lt_fi_be)
        have F4 := F4.other Wz444 (own_o1 lt_le_be)
        have F28 := F28.other Wz444 (own_o1 lt_le_be)
        have V_pe := V_pe.other Wz444 (Nat.ne_of_lt lt_pe_be)
        have V_fl := V_fl.other Wz444 (Nat.ne_of_lt lt_fl_be)
        have V_be := V_be_
        show own_Go _ _ _ _ Tz444 (mkF m 158 #[oI p1, oI p2, oI p3, oI p4, oI p5, oI p6, oI (Int32.ofNat nv), oI (Int32.ofNat (16 - nv)), oI y0, oI y1, oI tw, oD B0, oS, oD B1, oS, oD B2, oS, oR le, oR fi, oU, oU, oU, oU, oU, oU] [(.ref be)])
        refine own_go (fun _ k => XS.dup Xz444.here hx rfl (hb hby at_158) rfl rfl k) ?_
        show own_Go _ _ _ _ Tz444 (mkF m 159 #[oI p1, oI p2, oI p3, oI p4, oI p5, oI p6, oI (Int32.ofNat nv), oI (Int32.ofNat (16 - nv)), oI y0, oI y1, oI tw, oD B0, oS, oD B1, oS, oD B2, oS, oR le, oR fi, oU, oU, oU, oU, oU, oU] [(.ref be), (.ref be)])
        refine own_go (fun _ k => XS.iconst Xz444.here hx rfl (hb hby at_159) k) ?_
        show own_Go _ _ _ _ Tz444 (mkF m 160 #[oI p1, oI p2, oI p3, oI p4, oI p5, oI p6, oI (Int32.ofNat nv), oI (Int32.ofNat (16 - nv)), oI y0, oI y1, oI tw, oD B0, oS, oD B1, oS, oD B2, oS, oR le, oR fi, oU, oU, oU, oU, oU, oU] [(.int 2), (.ref be), (.ref be)])
        refine own_go (fun _ k => XS.dload Xz444.here hx rfl (hb hby at_160) rfl k) ?_
        show own_Go _ _ _ _ Tz444 (mkF m 162 #[oI p1, oI p2, oI p3, oI p4, oI p5, oI p6, oI (Int32.ofNat nv), oI (Int32.ofNat (16 - nv)), oI y0, oI y1, oI tw, oD B0, oS, oD B1, oS, oD B2, oS, oR le, oR fi, oU, oU, oU, oU, oU, oU] [(.double B2), (.int 2), (.ref be), (.ref be)])
        obtain ⟨clz445, Arz445, qz445, Sz445, Mz445, HHz445, Gz445⟩ := V_be
        have hinz445 : ¬ ((2 : Int32) < 0 ∨ clz445.slots.size ≤ ((2 : Int32)).toNatClampNeg) := inb_of Sz445 ⟨(by decide), (by decide)⟩
        obtain ⟨Tz445, hz445, Xz445, ez445, Wz445, stz445⟩ := stD Xz444 hx hZ ez444 Arz445 (j := (2 : Int32)) hinz445 (g := (mkF m 162 #[oI p1, oI p2, oI p3, oI p4, oI p5, oI p6, oI (Int32.ofNat nv), oI (Int32.ofNat (16 - nv)), oI y0, oI y1, oI tw, oD B0, oS, oD B1, oS, oD B2, oS, oR le, oR fi, oU, oU, oU, oU, oU, oU] [(.double B2), (.int 2), (.ref be), (.ref be)])) rfl rfl (hb hby at_162)
        refine own_go stz445 ?_
        have V_be_ : Arv Z hz445 be kbe .double (3 : Int32) [(.double B0), (.double B1), (.double B2)] (.double 0) := Arv.set Arz445 qz445 Sz445 Mz445 HHz445 Gz445 rfl Wz445 2 rfl (Nat.le_of_ble_eq_true rfl)
        have Nz445 := Fr.snoc Xz445 Nz444 g_be
        have O := O.wr Wz445 g_be
        have V_ex := V_ex.other Wz445 (Nat.ne_of_lt lt_ex_be)
        have E_fi := E_fi.wr Wz445
        have F22 := F22.other Wz445 (own_o1 lt_fi_be)
        have F18 := F18.other Wz445 (own_o1 lt_fi_be)
        have F20 := F20.other Wz445 (own_o1 lt_fi_be)
        have F30 := F30.other Wz445 (own_o1 lt_fi_be)
        have F32 := F32.other Wz445 (own_o1 lt_fi_be)
        have F4 := F4.other Wz445 (own_o1 lt_le_be)
        have F28 := F28.other Wz445 (own_o1 lt_le_be)
        have V_pe := V_pe.other Wz445 (Nat.ne_of_lt lt_pe_be)
        have V_fl := V_fl.other Wz445 (Nat.ne_of_lt lt_fl_be)
        have V_be := V_be_
        show own_Go _ _ _ _ Tz445 (mkF m 163 #[oI p1, oI p2, oI p3, oI p4, oI p5, oI p6, oI (Int32.ofNat nv), oI (Int32.ofNat (16 - nv)), oI y0, oI y1, oI tw, oD B0, oS, oD B1, oS, oD B2, oS, oR le, oR fi, oU, oU, oU, oU, oU, oU] [(.ref be)])
        refine own_go (fun _ k => XS.astore Xz445.here hx rfl (hb hby at_163) rfl rfl (l' := #[oI p1, oI p2, oI p3, oI p4, oI p5, oI p6, oI (Int32.ofNat nv), oI (Int32.ofNat (16 - nv)), oI y0, oI y1, oI tw, oD B0, oS, oD B1, oS, oD B2, oS, oR le, oR fi, oR be, oU, oU, oU, oU, oU]) rfl k) ?_
        show own_Go _ _ _ _ Tz445 (mkF m 165 #[oI p1, oI p2, oI p3, oI p4, oI p5, oI p6, oI (Int32.ofNat nv), oI (Int32.ofNat (16 - nv)), oI y0, oI y1, oI tw, oD B0, oS, oD B1, oS, oD B2, oS, oR le, oR fi, oR be, oU, oU, oU, oU, oU] [])
        refine own_go (fun _ k => XS.aload Xz445.here hx rfl (hb hby at_165) rfl rfl k) ?_
        show own_Go _ _ _ _ Tz445 (mkF m 167 #[oI p1, oI p2, oI p3, oI p4, oI p5, oI p6, oI (Int32.ofNat nv), oI (Int32.ofNat (16 - nv)), oI y0, oI y1, oI tw, oD B0, oS, oD B1, oS, oD B2, oS, oR le, oR fi, oR be, oU, oU, oU, oU, oU] [(.ref fi)])
        refine own_go (fun _ k => XS.aload Xz445.here hx rfl (hb hby at_167) rfl rfl k) ?_
        show own_Go _ _ _ _ Tz445 (mkF m 169 #[oI p1, oI p2, oI p3, oI p4, oI p5, oI p6, oI (Int32.ofNat nv), oI (Int32.ofNat (16 - nv)), oI y0, oI y1, oI tw, oD B0, oS, oD B1, oS, oD B2, oS, oR le, oR fi, oR be, oU, oU, oU, oU, oU] [(.ref be), (.ref fi)])
        obtain ⟨vz446, Tz446, Lz446, Xz446, hQz446, stz446⟩ := own_callV Xz445 hx hZ hown (hw _ (List.mem_of_getElem? (i := 91) rfl)) (hw _ (List.mem_of_getElem? (i := 92) rfl)) (hw _ (List.mem_of_getElem? (i := 94) rfl)) (hw _ (List.mem_of_getElem? (i := 93) rfl)) (hw _ (List.mem_of_getElem? (i := 24) rfl)) (hw _ (List.mem_of_getElem? (i := 95) rfl)) (by decide) ez445 E_fi (own_rmtu l Z a0 hw [] fi be hz445 n0 le ex jo go pe li in_ ou fl el ev st se kex kjo kgo kpe kli kin_ kou kfl kel kev kst kse g_le lt_le_ex lt_ex_jo lt_jo_go lt_go_pe lt_pe_li lt_li_fi lt_fi_in_ lt_in__ou lt_ou_fl lt_fl_el lt_el_ev lt_ev_st lt_st_se kbe lt_se_be y0 y1 B0 B1 B2 (4625196817309499392 : UInt64) (4625196817309499392 : UInt64) (4607182418800017408 : UInt64) V0 V1 (own_fx 16 nv) (own_fx 16 (16 - nv)) _ _ _ he0 he1 (by decide +kernel) own_z00.2.2.2.2 own_fn1.noNaN (by rw [h_V0, (own_f11 ⟨nv, by omega⟩).2, (own_f11 ⟨nv, by omega⟩).1]) (by rw [h_V1, (own_f11 ⟨16 - nv, by omega⟩).2, (own_f11 ⟨16 - nv, by omega⟩).1]) (own_f5 ⟨16, by omega⟩ ⟨nv, by omega⟩) (own_f5 ⟨16, by omega⟩ ⟨16 - nv, by omega⟩) hB0 hB1 hB2 rfl rfl rfl F22 F18 F20 F30 F32 F4 F28 V_fl V_ex V_pe V_be) (W := 0) (by decide) (by decide) (by decide) (by decide) own_pd9 rfl (g := (mkF m 169 #[oI p1, oI p2, oI p3, oI p4, oI p5, oI p6, oI (Int32.ofNat nv), oI (Int32.ofNat (16 - nv)), oI y0, oI y1, oI tw, oD B0, oS, oD B1, oS, oD B2, oS, oR le, oR fi, oR be, oU, oU, oU, oU, oU] [(.ref be), (.ref fi)])) (argsL := [(.ref be)]) (rest := []) rfl (by rw [hml]; rfl) rfl (by show 2 * 0 + _ ≤ _; exact Nat.le_of_eq rfl) (hb hby at_169)
        obtain ⟨rfl, Nz446q, Kz446, c_z446⟩ := hQz446
        have Nz446 := Fr.app Nz445 Nz446q
        refine own_go stz446 ?_
        have O := O.keep Kz446 (allS g_be all0)
        have E_fi := E_fi.keep Kz446
        have V_be := c_z446
        show own_Go _ _ _ _ Tz446 (mkF m 172 #[oI p1, oI p2, oI p3, oI p4, oI p5, oI p6, oI (Int32.ofNat nv), oI (Int32.ofNat (16 - nv)), oI y0, oI y1, oI tw, oD B0, oS, oD B1, oS, oD B2, oS, oR le, oR fi, oR be, oU, oU, oU, oU, oU] [])
        exact k172 Tz446 Tz446.heap _ Xz446 rfl Nz446 be kbe _ _ _ V_be 16 (own_fx 16 nv) (own_fx 16 (16 - nv)) (by rw [if_pos hpos]; exact (own_mm p2).2.1 hpos hbig) (own_dd 16 nv) (own_dd 16 (16 - nv)) (own_f5 ⟨16, by omega⟩ ⟨nv, by omega⟩) (own_f5 ⟨16, by omega⟩ ⟨16 - nv, by omega⟩) (own_elS (0 : Int32) y0 y1 hB0 (own_f5 ⟨16, by omega⟩ ⟨nv, by omega⟩) (own_f5 ⟨16, by omega⟩ ⟨16 - nv, by omega⟩)) (own_elS (1 : Int32) y0 y1 hB1 (own_f5 ⟨16, by omega⟩ ⟨nv, by omega⟩) (own_f5 ⟨16, by omega⟩ ⟨16 - nv, by omega⟩)) (own_elS (2 : Int32) y0 y1 hB2 (own_f5 ⟨16, by omega⟩ ⟨nv, by omega⟩) (own_f5 ⟨16, by omega⟩ ⟨16 - nv, by omega⟩))
      · obtain ⟨m_, hm1_, hm2_, hcm⟩ := own_cs p2 hpos hbig
        obtain ⟨vz447, Tz447, Lz447, Xz447, hQz447, stz447⟩ := own_callV Xz433 hx hZ hown (hw _ (List.mem_of_getElem? (i := 63) rfl)) (hw _ (List.mem_of_getElem? (i := 64) rfl)) (hw _ (List.mem_of_getElem? (i := 66) rfl)) (hw _ (List.mem_of_getElem? (i := 65) rfl)) (hw _ (List.mem_of_getElem? (i := 24) rfl)) (hw _ (List.mem_of_getElem? (i := 67) rfl)) (by decide) rfl E_fi (own_rmslC l Z a0 hw [] fi 0 (FP.i2d p2) Tz433.heap n0 le ex jo go pe li in_ ou fl el ev st se kex kjo kgo kpe kli kin_ kou kfl kel kev kst kse g_le lt_le_ex lt_ex_jo lt_jo_go lt_go_pe lt_pe_li lt_li_fi lt_fi_in_ lt_in__ou lt_ou_fl lt_fl_el lt_el_ev lt_ev_st lt_st_se V0 V1 (FP.ddiv (FP.i2d p2) 4625196817309499392) (own_fx m_ nv) (own_fx m_ (16 - nv)) (0 : UInt64) (0 : UInt64) rfl (by rw [hcm]; exact own_f8 ⟨m_, by omega⟩ hm1_) (by rw [hcm]; exact (own_f6 ⟨m_, by omega⟩).2.1) (own_cN p2) (by rw [hcm]; exact own_f9 ⟨m_, by omega⟩) (by rw [hcm]; exact (own_f6 ⟨m_, by omega⟩).1) rfl (by rw [hcm]; exact (own_fq ⟨m_, by omega⟩).noNaN) (by rw [hcm]; exact (own_f6 ⟨m_, by omega⟩).2.2.2) (Fin64.noNaN (own_f5 ⟨m_, by omega⟩ ⟨nv, by omega⟩)) (Fin64.noNaN (own_f5 ⟨m_, by omega⟩ ⟨16 - nv, by omega⟩)) (by rw [hcm, h_V0]; exact own_f1 ⟨m_, by omega⟩ ⟨nv, by omega⟩) (by rw [hcm, h_V1]; exact own_f1 ⟨m_, by omega⟩ ⟨16 - nv, by omega⟩) ((own_f2 ⟨m_, by omega⟩ ⟨nv, by omega⟩).1) ((own_f2 ⟨m_, by omega⟩ ⟨16 - nv, by omega⟩).1) ((own_f2 ⟨m_, by omega⟩ ⟨nv, by omega⟩).2.1) ((own_f2 ⟨m_, by omega⟩ ⟨16 - nv, by omega⟩).2.1) (by rw [hcm]; exact own_f3 ⟨m_, by omega⟩ ⟨nv, by omega⟩) (by rw [hcm]; exact (own_f10 ⟨m_, by omega⟩).1) y0 y1 E_fi F22 F0 F2 F38 F36 F18 F12 F26 F40 F16 F6 F34 F20 F10 F30 F32 F4 F14 F8 F28 F24 V_jo V_go V_pe V_li V_in_ V_ou V_fl V_el V_ev V_st V_se) (W := 0) (by decide) (by decide) (by decide) (by decide) own_pd8 rfl (g := (mkF m 141 #[oI p1, oI p2, oI p3, oI p4, oI p5, oI p6, oI (Int32.ofNat nv), oI (Int32.ofNat (16 - nv)), oI y0, oI y1, oI tw, oD B0, oS, oD B1, oS, oD B2, oS, oR le, oR fi, oU, oU, oU, oU, oU, oU] [(.double (FP.i2d p2)), (.int 0), (.ref fi)])) (argsL := [(.int 0), (.double (FP.i2d p2))]) (rest := []) rfl (by rw [hml]; rfl) rfl (by show 2 * 0 + _ ≤ _; exact Nat.le_of_eq rfl) (hb hby at_141)
        obtain ⟨rfl, Nz447q, Kz447, c0_z447, c1_z447, c2_z447, c3_z447, c4_z447, c5_z447, c6_z447, c7_z447, c8_z447, c9_z447, c10_z447, c11_z447, c12_z447, c13_z447, c14_z447, c15_z447, c16_z447, c17_z447, c18_z447, c19_z447, c20_z447, c21_z447, c22_z447, c23_z447, c24_z447, c25_z447, c26_z447, c27_z447, c28_z447, c29_z447, c30_z447, c31_z447, c32_z447⟩ := hQz447
        have Nz447 := Fr.app Nz433 Nz447q
        refine own_go stz447 ?_
        have O := O.keep Kz447 (allS g_fi (allS g_jo (allS g_pe (allS g_li (allS g_fl all0)))))
        have E_le := E_le.keep Kz447
        have V_ex := V_ex.keep Kz447 (ninS (Nat.ne_of_lt lt_ex_fi) (ninS (Nat.ne_of_lt lt_ex_jo) (ninS (Nat.ne_of_lt lt_ex_pe) (ninS (Nat.ne_of_lt lt_ex_li) (ninS (Nat.ne_of_lt lt_ex_fl) nin0)))))
        have E_fi := c0_z447
        have F22 := c1_z447
        have F0 := c2_z447
        have F2 := c3_z447
        have F38 := c4_z447
        have F36 := c5_z447
        have F18 := c6_z447
        have F12 := c7_z447
        have F26 := c8_z447
        have F40 := c9_z447
        have F16 := c10_z447
        have F6 := c11_z447
        have F34 := c12_z447
        have F20 := c13_z447
        have F10 := c14_z447
        have F30 := c15_z447
        have F32 := c16_z447
        have F4 := c17_z447
        have F14 := c18_z447
        have F8 := c19_z447
        have F28 := c20_z447
        have F24 := c21_z447
        have V_jo := c22_z447
        have V_go := c23_z447
        have V_pe := c24_z447
        have V_li := c25_z447
        have V_in_ := c26_z447
        have V_ou := c27_z447
        have V_fl := c28_z447
        have V_el := c29_z447
        have V_ev := c30_z447
        have V_st := c31_z447
        have V_se := c32_z447
        show own_Go _ _ _ _ Tz447 (mkF m 144 #[oI p1, oI p2, oI p3, oI p4, oI p5, oI p6, oI (Int32.ofNat nv), oI (Int32.ofNat (16 - nv)), oI y0, oI y1, oI tw, oD B0, oS, oD B1, oS, oD B2, oS, oR le, oR fi, oU, oU, oU, oU, oU, oU] [(.double (FP.i2d p2))])
        refine own_go (fun _ k => own_pop2D Xz447.here hx rfl (hb hby at_144) rfl k) ?_
        show own_Go _ _ _ _ Tz447 (mkF m 145 #[oI p1, oI p2, oI p3, oI p4, oI p5, oI p6, oI (Int32.ofNat nv), oI (Int32.ofNat (16 - nv)), oI y0, oI y1, oI tw, oD B0, oS, oD B1, oS, oD B2, oS, oR le, oR fi, oU, oU, oU, oU, oU, oU] [])
        refine own_go (fun _ k => XS.iconst Xz447.here hx rfl (hb hby at_145) k) ?_
        show own_Go _ _ _ _ Tz447 (mkF m 146 #[oI p1, oI p2, oI p3, oI p4, oI p5, oI p6, oI (Int32.ofNat nv), oI (Int32.ofNat (16 - nv)), oI y0, oI y1, oI tw, oD B0, oS, oD B1, oS, oD B2, oS, oR le, oR fi, oU, oU, oU, oU, oU, oU] [(.int 3)])
        obtain ⟨Tz448, hz448, kz448, Xz448, ez448, Ez448, Az448, stz448⟩ := newP Xz447 hx hZ (hw _ (List.mem_of_getElem? (i := 12) rfl)) rfl (g := (mkF m 146 #[oI p1, oI p2, oI p3, oI p4, oI p5, oI p6, oI (Int32.ofNat nv), oI (Int32.ofNat (16 - nv)), oI y0, oI y1, oI tw, oD B0, oS, oD B1, oS, oD B2, oS, oR le, oR fi, oU, oU, oU, oU, oU, oU] [(.int 3)])) rfl (hb hby at_146) rfl (by decide) (cap := 3) (by decide) (by decide) (by decide) (by decide)
        obtain ⟨be, gz448⟩ : ∃ z, z = Tz447.heap.size := ⟨_, rfl⟩
        rw [← gz448] at Az448 stz448
        have lt_ex_be : @LT.lt Nat _ ex be := Nat.lt_of_lt_of_le V_ex.lt (Nat.le_of_eq gz448.symm)
        have lt_fi_be : @LT.lt Nat _ fi be := Nat.lt_of_lt_of_le E_fi.lt (Nat.le_of_eq gz448.symm)
        have lt_le_be : @LT.lt Nat _ le be := Nat.lt_of_lt_of_le F4.lt (Nat.le_of_eq gz448.symm)
        have lt_pe_be : @LT.lt Nat _ pe be := Nat.lt_of_lt_of_le V_pe.lt (Nat.le_of_eq gz448.symm)
        have lt_fl_be : @LT.lt Nat _ fl be := Nat.lt_of_lt_of_le V_fl.lt (Nat.le_of_eq gz448.symm)
        have lt_se_be : @LT.lt Nat _ se be := Nat.lt_of_lt_of_le V_se.lt (Nat.le_of_eq gz448.symm)
        have g_be : n0 ≤ be := by rw [gz448, ← O.1]; exact O.2.1
        have O := O.ext Ez448
        have V_ex := V_ex.ext Ez448
        have E_fi := E_fi.ext Ez448
        have F22 := F22.ext Ez448
        have F18 := F18.ext Ez448
        have F20 := F20.ext Ez448
        have F30 := F30.ext Ez448
        have F32 := F32.ext Ez448
        have F4 := F4.ext Ez448
        have F28 := F28.ext Ez448
        have V_pe := V_pe.ext Ez448
        have V_fl := V_fl.ext Ez448
        have V_se := V_se.ext Ez448
        refine own_go stz448 ?_
        have V_be : Arv Z hz448 be kz448 .double (3 : Int32) [(.double 0), (.double 0), (.double 0)] (.double 0) := (Arv.new Az448 (by decide)).pad (pad_rep [] (.double 0) 3)
        show own_Go _ _ _ _ Tz448 (mkF m 148 #[oI p1, oI p2, oI p3, oI p4, oI p5, oI p6, oI (Int32.ofNat nv), oI (Int32.ofNat (16 - nv)), oI y0, oI y1, oI tw, oD B0, oS, oD B1, oS, oD B2, oS, oR le, oR fi, oU, oU, oU, oU, oU, oU] [(.ref be)])
        obtain ⟨kbe, rfl⟩ : ∃ z, z = kz448 := ⟨_, rfl⟩
        refine own_go (fun _ k => XS.dup Xz448.here hx rfl (hb hby at_148) rfl rfl k) ?_
        show own_Go _ _ _ _ Tz448 (mkF m 149 #[oI p1, oI p2, oI p3, oI p4, oI p5, oI p6, oI (Int32.ofNat nv), oI (Int32.ofNat (16 - nv)), oI y0, oI y1, oI tw, oD B0, oS, oD B1, oS, oD B2, oS, oR le, oR fi, oU, oU, oU, oU, oU, oU] [(.ref be), (.ref be)])
        refine own_go (fun _ k => XS.iconst Xz448.here hx rfl (hb hby at_149) k) ?_
        show own_Go _ _ _ _ Tz448 (mkF m 150 #[oI p1, oI p2, oI p3, oI p4, oI p5, oI p6, oI (Int32.ofNat nv), oI (Int32.ofNat (16 - nv)), oI y0, oI y1, oI tw, oD B0, oS, oD B1, oS, oD B2, oS, oR le, oR fi, oU, oU, oU, oU, oU, oU] [(.int 0), (.ref be), (.ref be)])
        refine own_go (fun _ k => XS.dload Xz448.here hx rfl (hb hby at_150) rfl k) ?_
        show own_Go _ _ _ _ Tz448 (mkF m 152 #[oI p1, oI p2, oI p3, oI p4, oI p5, oI p6, oI (Int32.ofNat nv), oI (Int32.ofNat (16 - nv)), oI y0, oI y1, oI tw, oD B0, oS, oD B1, oS, oD B2, oS, oR le, oR fi, oU, oU, oU, oU, oU, oU] [(.double B0), (.int 0), (.ref be), (.ref be)])
        obtain ⟨clz449, Arz449, qz449, Sz449, Mz449, HHz449, Gz449⟩ := V_be
        have hinz449 : ¬ ((0 : Int32) < 0 ∨ clz449.slots.size ≤ ((0 : Int32)).toNatClampNeg) := inb_of Sz449 ⟨(by decide), (by decide)⟩
        obtain ⟨Tz449, hz449, Xz449, ez449, Wz449, stz449⟩ := stD Xz448 hx hZ ez448 Arz449 (j := (0 : Int32)) hinz449 (g := (mkF m 152 #[oI p1, oI p2, oI p3, oI p4, oI p5, oI p6, oI (Int32.ofNat nv), oI (Int32.ofNat (16 - nv)), oI y0, oI y1, oI tw, oD B0, oS, oD B1, oS, oD B2, oS, oR le, oR fi, oU, oU, oU, oU, oU, oU] [(.double B0), (.int 0), (.ref be), (.ref be)])) rfl rfl (hb hby at_152)
        refine own_go stz449 ?_
        have V_be_ : Arv Z hz449 be kbe .double (3 : Int32) [(.double B0), (.double 0), (.double 0)] (.double 0) := Arv.set Arz449 qz449 Sz449 Mz449 HHz449 Gz449 rfl Wz449 0 rfl (Nat.le_of_ble_eq_true rfl)
        have Nz449 := Fr.snoc Xz449 Nz447 g_be
        have O := O.wr Wz449 g_be
        have V_ex := V_ex.other Wz449 (Nat.ne_of_lt lt_ex_be)
        have E_fi := E_fi.wr Wz449
        have F22 := F22.other Wz449 (own_o1 lt_fi_be)
        have F18 := F18.other Wz449 (own_o1 lt_fi_be)
        have F20 := F20.other Wz449 (own_o1 lt_fi_be)
        have F30 := F30.other Wz449 (own_o1 lt_fi_be)
        have F32 := F32.other Wz449 (own_o1 lt_fi_be)
        have F4 := F4.other Wz449 (own_o1 lt_le_be)
        have F28 := F28.other Wz449 (own_o1 lt_le_be)
        have V_pe := V_pe.other Wz449 (Nat.ne_of_lt lt_pe_be)
        have V_fl := V_fl.other Wz449 (Nat.ne_of_lt lt_fl_be)
        have V_be := V_be_
        show own_Go _ _ _ _ Tz449 (mkF m 153 #[oI p1, oI p2, oI p3, oI p4, oI p5, oI p6, oI (Int32.ofNat nv), oI (Int32.ofNat (16 - nv)), oI y0, oI y1, oI tw, oD B0, oS, oD B1, oS, oD B2, oS, oR le, oR fi, oU, oU, oU, oU, oU, oU] [(.ref be)])
        refine own_go (fun _ k => XS.dup Xz449.here hx rfl (hb hby at_153) rfl rfl k) ?_
        show own_Go _ _ _ _ Tz449 (mkF m 154 #[oI p1, oI p2, oI p3, oI p4, oI p5, oI p6, oI (Int32.ofNat nv), oI (Int32.ofNat (16 - nv)), oI y0, oI y1, oI tw, oD B0, oS, oD B1, oS, oD B2, oS, oR le, oR fi, oU, oU, oU, oU, oU, oU] [(.ref be), (.ref be)])
        refine own_go (fun _ k => XS.iconst Xz449.here hx rfl (hb hby at_154) k) ?_
        show own_Go _ _ _ _ Tz449 (mkF m 155 #[oI p1, oI p2, oI p3, oI p4, oI p5, oI p6, oI (Int32.ofNat nv), oI (Int32.ofNat (16 - nv)), oI y0, oI y1, oI tw, oD B0, oS, oD B1, oS, oD B2, oS, oR le, oR fi, oU, oU, oU, oU, oU, oU] [(.int 1), (.ref be), (.ref be)])
        refine own_go (fun _ k => XS.dload Xz449.here hx rfl (hb hby at_155) rfl k) ?_
        show own_Go _ _ _ _ Tz449 (mkF m 157 #[oI p1, oI p2, oI p3, oI p4, oI p5, oI p6, oI (Int32.ofNat nv), oI (Int32.ofNat (16 - nv)), oI y0, oI y1, oI tw, oD B0, oS, oD B1, oS, oD B2, oS, oR le, oR fi, oU, oU, oU, oU, oU, oU] [(.double B1), (.int 1), (.ref be), (.ref be)])
        obtain ⟨clz450, Arz450, qz450, Sz450, Mz450, HHz450, Gz450⟩ := V_be
        have hinz450 : ¬ ((1 : Int32) < 0 ∨ clz450.slots.size ≤ ((1 : Int32)).toNatClampNeg) := inb_of Sz450 ⟨(by decide), (by decide)⟩
        obtain ⟨Tz450, hz450, Xz450, ez450, Wz450, stz450⟩ := stD Xz449 hx hZ ez449 Arz450 (j := (1 : Int32)) hinz450 (g := (mkF m 157 #[oI p1, oI p2, oI p3, oI p4, oI p5, oI p6, oI (Int32.ofNat nv), oI (Int32.ofNat (16 - nv)), oI y0, oI y1, oI tw, oD B0, oS, oD B1, oS, oD B2, oS, oR le, oR fi, oU, oU, oU, oU, oU, oU] [(.double B1), (.int 1), (.ref be), (.ref be)])) rfl rfl (hb hby at_157)
        refine own_go stz450 ?_
        have V_be_ : Arv Z hz450 be kbe .double (3 : Int32) [(.double B0), (.double B1), (.double 0)] (.double 0) := Arv.set Arz450 qz450 Sz450 Mz450 HHz450 Gz450 rfl Wz450 1 rfl (Nat.le_of_ble_eq_true rfl)
        have Nz450 := Fr.snoc Xz450 Nz449 g_be
        have O := O.wr Wz450 g_be
        have V_ex := V_ex.other Wz450 (Nat.ne_of_lt lt_ex_be)
        have E_fi := E_fi.wr Wz450
        have F22 := F22.other Wz450 (own_o1 lt_fi_be)
        have F18 := F18.other Wz450 (own_o1 lt_fi_be)
        have F20 := F20.other Wz450 (own_o1 lt_fi_be)
        have F30 := F30.other Wz450 (own_o1 lt_fi_be)
        have F32 := F32.other Wz450 (own_o1 lt_fi_be)
        have F4 := F4.other Wz450 (own_o1 lt_le_be)
        have F28 := F28.other Wz450 (own_o1 lt_le_be)
        have V_pe := V_pe.other Wz450 (Nat.ne_of_lt lt_pe_be)
        have V_fl := V_fl.other Wz450 (Nat.ne_of_lt lt_fl_be)
        have V_be := V_be_
        show own_Go _ _ _ _ Tz450 (mkF m 158 #[oI p1, oI p2, oI p3, oI p4, oI p5, oI p6, oI (Int32.ofNat nv), oI (Int32.ofNat (16 - nv)), oI y0, oI y1, oI tw, oD B0, oS, oD B1, oS, oD B2, oS, oR le, oR fi, oU, oU, oU, oU, oU, oU] [(.ref be)])
        refine own_go (fun _ k => XS.dup Xz450.here hx rfl (hb hby at_158) rfl rfl k) ?_
        show own_Go _ _ _ _ Tz450 (mkF m 159 #[oI p1, oI p2, oI p3, oI p4, oI p5, oI p6, oI (Int32.ofNat nv), oI (Int32.ofNat (16 - nv)), oI y0, oI y1, oI tw, oD B0, oS, oD B1, oS, oD B2, oS, oR le, oR fi, oU, oU, oU, oU, oU, oU] [(.ref be), (.ref be)])
        refine own_go (fun _ k => XS.iconst Xz450.here hx rfl (hb hby at_159) k) ?_
        show own_Go _ _ _ _ Tz450 (mkF m 160 #[oI p1, oI p2, oI p3, oI p4, oI p5, oI p6, oI (Int32.ofNat nv), oI (Int32.ofNat (16 - nv)), oI y0, oI y1, oI tw, oD B0, oS, oD B1, oS, oD B2, oS, oR le, oR fi, oU, oU, oU, oU, oU, oU] [(.int 2), (.ref be), (.ref be)])
        refine own_go (fun _ k => XS.dload Xz450.here hx rfl (hb hby at_160) rfl k) ?_
        show own_Go _ _ _ _ Tz450 (mkF m 162 #[oI p1, oI p2, oI p3, oI p4, oI p5, oI p6, oI (Int32.ofNat nv), oI (Int32.ofNat (16 - nv)), oI y0, oI y1, oI tw, oD B0, oS, oD B1, oS, oD B2, oS, oR le, oR fi, oU, oU, oU, oU, oU, oU] [(.double B2), (.int 2), (.ref be), (.ref be)])
        obtain ⟨clz451, Arz451, qz451, Sz451, Mz451, HHz451, Gz451⟩ := V_be
        have hinz451 : ¬ ((2 : Int32) < 0 ∨ clz451.slots.size ≤ ((2 : Int32)).toNatClampNeg) := inb_of Sz451 ⟨(by decide), (by decide)⟩
        obtain ⟨Tz451, hz451, Xz451, ez451, Wz451, stz451⟩ := stD Xz450 hx hZ ez450 Arz451 (j := (2 : Int32)) hinz451 (g := (mkF m 162 #[oI p1, oI p2, oI p3, oI p4, oI p5, oI p6, oI (Int32.ofNat nv), oI (Int32.ofNat (16 - nv)), oI y0, oI y1, oI tw, oD B0, oS, oD B1, oS, oD B2, oS, oR le, oR fi, oU, oU, oU, oU, oU, oU] [(.double B2), (.int 2), (.ref be), (.ref be)])) rfl rfl (hb hby at_162)
        refine own_go stz451 ?_
        have V_be_ : Arv Z hz451 be kbe .double (3 : Int32) [(.double B0), (.double B1), (.double B2)] (.double 0) := Arv.set Arz451 qz451 Sz451 Mz451 HHz451 Gz451 rfl Wz451 2 rfl (Nat.le_of_ble_eq_true rfl)
        have Nz451 := Fr.snoc Xz451 Nz450 g_be
        have O := O.wr Wz451 g_be
        have V_ex := V_ex.other Wz451 (Nat.ne_of_lt lt_ex_be)
        have E_fi := E_fi.wr Wz451
        have F22 := F22.other Wz451 (own_o1 lt_fi_be)
        have F18 := F18.other Wz451 (own_o1 lt_fi_be)
        have F20 := F20.other Wz451 (own_o1 lt_fi_be)
        have F30 := F30.other Wz451 (own_o1 lt_fi_be)
        have F32 := F32.other Wz451 (own_o1 lt_fi_be)
        have F4 := F4.other Wz451 (own_o1 lt_le_be)
        have F28 := F28.other Wz451 (own_o1 lt_le_be)
        have V_pe := V_pe.other Wz451 (Nat.ne_of_lt lt_pe_be)
        have V_fl := V_fl.other Wz451 (Nat.ne_of_lt lt_fl_be)
        have V_be := V_be_
        show own_Go _ _ _ _ Tz451 (mkF m 163 #[oI p1, oI p2, oI p3, oI p4, oI p5, oI p6, oI (Int32.ofNat nv), oI (Int32.ofNat (16 - nv)), oI y0, oI y1, oI tw, oD B0, oS, oD B1, oS, oD B2, oS, oR le, oR fi, oU, oU, oU, oU, oU, oU] [(.ref be)])
        refine own_go (fun _ k => XS.astore Xz451.here hx rfl (hb hby at_163) rfl rfl (l' := #[oI p1, oI p2, oI p3, oI p4, oI p5, oI p6, oI (Int32.ofNat nv), oI (Int32.ofNat (16 - nv)), oI y0, oI y1, oI tw, oD B0, oS, oD B1, oS, oD B2, oS, oR le, oR fi, oR be, oU, oU, oU, oU, oU]) rfl k) ?_
        show own_Go _ _ _ _ Tz451 (mkF m 165 #[oI p1, oI p2, oI p3, oI p4, oI p5, oI p6, oI (Int32.ofNat nv), oI (Int32.ofNat (16 - nv)), oI y0, oI y1, oI tw, oD B0, oS, oD B1, oS, oD B2, oS, oR le, oR fi, oR be, oU, oU, oU, oU, oU] [])
        refine own_go (fun _ k => XS.aload Xz451.here hx rfl (hb hby at_165) rfl rfl k) ?_
        show own_Go _ _ _ _ Tz451 (mkF m 167 #[oI p1, oI p2, oI p3, oI p4, oI p5, oI p6, oI (Int32.ofNat nv), oI (Int32.ofNat (16 - nv)), oI y0, oI y1, oI tw, oD B0, oS, oD B1, oS, oD B2, oS, oR le, oR fi, oR be, oU, oU, oU, oU, oU] [(.ref fi)])
        refine own_go (fun _ k => XS.aload Xz451.here hx rfl (hb hby at_167) rfl rfl k) ?_
        show own_Go _ _ _ _ Tz451 (mkF m 169 #[oI p1, oI p2, oI p3, oI p4, oI p5, oI p6, oI (Int32.ofNat nv), oI (Int32.ofNat (16 - nv)), oI y0, oI y1, oI tw, oD B0, oS, oD B1, oS, oD B2, oS, oR le, oR fi, oR be, oU, oU, oU, oU, oU] [(.ref be), (.ref fi)])
        obtain ⟨vz452, Tz452, Lz452, Xz452, hQz452, stz452⟩ := own_callV Xz451 hx hZ hown (hw _ (List.mem_of_getElem? (i := 91) rfl)) (hw _ (List.mem_of_getElem? (i := 92) rfl)) (hw _ (List.mem_of_getElem? (i := 94) rfl)) (hw _ (List.mem_of_getElem? (i := 93) rfl)) (hw _ (List.mem_of_getElem? (i := 24) rfl)) (hw _ (List.mem_of_getElem? (i := 95) rfl)) (by decide) ez451 E_fi (own_rmtu l Z a0 hw [] fi be hz451 n0 le ex jo go pe li in_ ou fl el ev st se kex kjo kgo kpe kli kin_ kou kfl kel kev kst kse g_le lt_le_ex lt_ex_jo lt_jo_go lt_go_pe lt_pe_li lt_li_fi lt_fi_in_ lt_in__ou lt_ou_fl lt_fl_el lt_el_ev lt_ev_st lt_st_se kbe lt_se_be y0 y1 B0 B1 B2 (FP.i2d p2) (FP.i2d p2) (4607182418800017408 : UInt64) (own_fx m_ nv) (own_fx m_ (16 - nv)) (own_fx m_ nv) (own_fx m_ (16 - nv)) _ _ _ he0 he1 (by rw [hcm]; exact own_f8 ⟨m_, by omega⟩ hm1_) (by rw [hcm]; exact own_f4 ⟨m_, by omega⟩ hm1_) own_fn1.noNaN (own_f2 ⟨m_, by omega⟩ ⟨nv, by omega⟩).2.2 (own_f2 ⟨m_, by omega⟩ ⟨16 - nv, by omega⟩).2.2 (own_f5 ⟨m_, by omega⟩ ⟨nv, by omega⟩) (own_f5 ⟨m_, by omega⟩ ⟨16 - nv, by omega⟩) hB0 hB1 hB2 rfl rfl rfl F22 F18 F20 F30 F32 F4 F28 V_fl V_ex V_pe V_be) (W := 0) (by decide) (by decide) (by decide) (by decide) own_pd9 rfl (g := (mkF m 169 #[oI p1, oI p2, oI p3, oI p4, oI p5, oI p6, oI (Int32.ofNat nv), oI (Int32.ofNat (16 - nv)), oI y0, oI y1, oI tw, oD B0, oS, oD B1, oS, oD B2, oS, oR le, oR fi, oR be, oU, oU, oU, oU, oU] [(.ref be), (.ref fi)])) (argsL := [(.ref be)]) (rest := []) rfl (by rw [hml]; rfl) rfl (by show 2 * 0 + _ ≤ _; exact Nat.le_of_eq rfl) (hb hby at_169)
        obtain ⟨rfl, Nz452q, Kz452, c_z452⟩ := hQz452
        have Nz452 := Fr.app Nz451 Nz452q
        refine own_go stz452 ?_
        have O := O.keep Kz452 (allS g_be all0)
        have E_fi := E_fi.keep Kz452
        have V_be := c_z452
        show own_Go _ _ _ _ Tz452 (mkF m 172 #[oI p1, oI p2, oI p3, oI p4, oI p5, oI p6, oI (Int32.ofNat nv), oI (Int32.ofNat (16 - nv)), oI y0, oI y1, oI tw, oD B0, oS, oD B1, oS, oD B2, oS, oR le, oR fi, oR be, oU, oU, oU, oU, oU] [])
        exact k172 Tz452 Tz452.heap _ Xz452 rfl Nz452 be kbe _ _ _ V_be m_ (own_fx m_ nv) (own_fx m_ (16 - nv)) (by rw [if_pos hpos, (own_mm p2).2.2 hpos hbig]; exact hcm) (own_dd m_ nv) (own_dd m_ (16 - nv)) (own_f5 ⟨m_, by omega⟩ ⟨nv, by omega⟩) (own_f5 ⟨m_, by omega⟩ ⟨16 - nv, by omega⟩) (own_elS (0 : Int32) y0 y1 hB0 (own_f5 ⟨m_, by omega⟩ ⟨nv, by omega⟩) (own_f5 ⟨m_, by omega⟩ ⟨16 - nv, by omega⟩)) (own_elS (1 : Int32) y0 y1 hB1 (own_f5 ⟨m_, by omega⟩ ⟨nv, by omega⟩) (own_f5 ⟨m_, by omega⟩ ⟨16 - nv, by omega⟩)) (own_elS (2 : Int32) y0 y1 hB2 (own_f5 ⟨m_, by omega⟩ ⟨nv, by omega⟩) (own_f5 ⟨m_, by omega⟩ ⟨16 - nv, by omega⟩))
    · obtain ⟨vz453, Tz453, Lz453, Xz453, hQz453, stz453⟩ := own_callV Xz433 hx hZ hown (hw _ (List.mem_of_getElem? (i := 63) rfl)) (hw _ (List.mem_of_getElem? (i := 64) rfl)) (hw _ (List.mem_of_getElem? (i := 66) rfl)) (hw _ (List.mem_of_getElem? (i := 65) rfl)) (hw _ (List.mem_of_getElem? (i := 24) rfl)) (hw _ (List.mem_of_getElem? (i := 67) rfl)) (by decide) rfl E_fi (own_rmslA l Z a0 hw [] fi 0 (FP.i2d p2) Tz433.heap n0 le ex jo go pe li in_ ou fl el ev st se kex kjo kgo kpe kli kin_ kou kfl kel kev kst kse g_le lt_le_ex lt_ex_jo lt_jo_go lt_go_pe lt_pe_li lt_li_fi lt_fi_in_ lt_in__ou lt_ou_fl lt_fl_el lt_el_ev lt_ev_st lt_st_se (2 : Int32) (2 : Int32) (0 : Int32) (1 : Int32) (0 : Int32) (0 : UInt64) (0 : UInt64) (0 : Int32) rfl (own_c0 p2 hpos) E_fi F22 F0 F2 F38 F36 F18 F12 F26 F40 F16 F6 F34 F20 F10 F30 F32) (W := 0) (by decide) (by decide) (by decide) (by decide) own_pd8 rfl (g := (mkF m 141 #[oI p1, oI p2, oI p3, oI p4, oI p5, oI p6, oI (Int32.ofNat nv), oI (Int32.ofNat (16 - nv)), oI y0, oI y1, oI tw, oD B0, oS, oD B1, oS, oD B2, oS, oR le, oR fi, oU, oU, oU, oU, oU, oU] [(.double (FP.i2d p2)), (.int 0), (.ref fi)])) (argsL := [(.int 0), (.double (FP.i2d p2))]) (rest := []) rfl (by rw [hml]; rfl) rfl (by show 2 * 0 + _ ≤ _; exact Nat.le_of_eq rfl) (hb hby at_141)
      obtain ⟨rfl, Nz453q, Kz453, c0_z453, c1_z453, c2_z453, c3_z453, c4_z453, c5_z453, c6_z453, c7_z453, c8_z453, c9_z453, c10_z453, c11_z453, c12_z453, c13_z453, c14_z453, c15_z453, c16_z453⟩ := hQz453
      have Nz453 := Fr.app Nz433 Nz453q
      refine own_go stz453 ?_
      have O := O.keep Kz453 (allS g_fi all0)
      have E_le := E_le.keep Kz453
      have F4 := F4.keep Kz453 (ninS (Nat.ne_of_lt lt_le_fi) nin0)
      have F14 := F14.keep Kz453 (ninS (Nat.ne_of_lt lt_le_fi) nin0)
      have F8 := F8.keep Kz453 (ninS (Nat.ne_of_lt lt_le_fi) nin0)
      have F28 := F28.keep Kz453 (ninS (Nat.ne_of_lt lt_le_fi) nin0)
      have F24 := F24.keep Kz453 (ninS (Nat.ne_of_lt lt_le_fi) nin0)
      have V_ex := V_ex.keep Kz453 (ninS (Nat.ne_of_lt lt_ex_fi) nin0)
      have V_jo := V_jo.keep Kz453 (ninS (Nat.ne_of_lt lt_jo_fi) nin0)
      have V_go := V_go.keep Kz453 (ninS (Nat.ne_of_lt lt_go_fi) nin0)
      have V_pe := V_pe.keep Kz453 (ninS (Nat.ne_of_lt lt_pe_fi) nin0)
      have V_li := V_li.keep Kz453 (ninS (Nat.ne_of_lt lt_li_fi) nin0)
      have V_ou := V_ou.keep Kz453 (ninS (Nat.ne_of_gt lt_fi_ou) nin0)
      have V_fl := V_fl.keep Kz453 (ninS (Nat.ne_of_gt lt_fi_fl) nin0)
      have V_el := V_el.keep Kz453 (ninS (Nat.ne_of_gt lt_fi_el) nin0)
      have V_ev := V_ev.keep Kz453 (ninS (Nat.ne_of_gt lt_fi_ev) nin0)
      have V_in_ := V_in_.keep Kz453 (ninS (Nat.ne_of_gt lt_fi_in_) nin0)
      have V_st := V_st.keep Kz453 (ninS (Nat.ne_of_gt lt_fi_st) nin0)
      have V_se := V_se.keep Kz453 (ninS (Nat.ne_of_gt lt_fi_se) nin0)
      have E_fi := c0_z453
      have F22 := c1_z453
      have F0 := c2_z453
      have F2 := c3_z453
      have F38 := c4_z453
      have F36 := c5_z453
      have F18 := c6_z453
      have F12 := c7_z453
      have F26 := c8_z453
      have F40 := c9_z453
      have F16 := c10_z453
      have F6 := c11_z453
      have F34 := c12_z453
      have F20 := c13_z453
      have F10 := c14_z453
      have F30 := c15_z453
      have F32 := c16_z453
      show own_Go _ _ _ _ Tz453 (mkF m 144 #[oI p1, oI p2, oI p3, oI p4, oI p5, oI p6, oI (Int32.ofNat nv), oI (Int32.ofNat (16 - nv)), oI y0, oI y1, oI tw, oD B0, oS, oD B1, oS, oD B2, oS, oR le, oR fi, oU, oU, oU, oU, oU, oU] [(.double 0)])
      refine own_go (fun _ k => own_pop2D Xz453.here hx rfl (hb hby at_144) rfl k) ?_
      show own_Go _ _ _ _ Tz453 (mkF m 145 #[oI p1, oI p2, oI p3, oI p4, oI p5, oI p6, oI (Int32.ofNat nv), oI (Int32.ofNat (16 - nv)), oI y0, oI y1, oI tw, oD B0, oS, oD B1, oS, oD B2, oS, oR le, oR fi, oU, oU, oU, oU, oU, oU] [])
      refine own_go (fun _ k => XS.iconst Xz453.here hx rfl (hb hby at_145) k) ?_
      show own_Go _ _ _ _ Tz453 (mkF m 146 #[oI p1, oI p2, oI p3, oI p4, oI p5, oI p6, oI (Int32.ofNat nv), oI (Int32.ofNat (16 - nv)), oI y0, oI y1, oI tw, oD B0, oS, oD B1, oS, oD B2, oS, oR le, oR fi, oU, oU, oU, oU, oU, oU] [(.int 3)])
      obtain ⟨Tz454, hz454, kz454, Xz454, ez454, Ez454, Az454, stz454⟩ := newP Xz453 hx hZ (hw _ (List.mem_of_getElem? (i := 12) rfl)) rfl (g := (mkF m 146 #[oI p1, oI p2, oI p3, oI p4, oI p5, oI p6, oI (Int32.ofNat nv), oI (Int32.ofNat (16 - nv)), oI y0, oI y1, oI tw, oD B0, oS, oD B1, oS, oD B2, oS, oR le, oR fi, oU, oU, oU, oU, oU, oU] [(.int 3)])) rfl (hb hby at_146) rfl (by decide) (cap := 3) (by decide) (by decide) (by decide) (by decide)
      obtain ⟨be, gz454⟩ : ∃ z, z = Tz453.heap.size := ⟨_, rfl⟩
      rw [← gz454] at Az454 stz454
      have lt_fi_be : @LT.lt Nat _ fi be := Nat.lt_of_lt_of_le E_fi.lt (Nat.le_of_eq gz454.symm)
      have g_be : n0 ≤ be := by rw [gz454, ← O.1]; exact O.2.1
      have O := O.ext Ez454
      have E_fi := E_fi.ext Ez454
      have F30 := F30.ext Ez454
      refine own_go stz454 ?_
      have V_be : Arv Z hz454 be kz454 .double (3 : Int32) [(.double 0), (.double 0), (.double 0)] (.double 0) := (Arv.new Az454 (by decide)).pad (pad_rep [] (.double 0) 3)
      show own_Go _ _ _ _ Tz454 (mkF m 148 #[oI p1, oI p2, oI p3, oI p4, oI p5, oI p6, oI (Int32.ofNat nv), oI (Int32.ofNat (16 - nv)), oI y0, oI y1, oI tw, oD B0, oS, oD B1, oS, oD B2, oS, oR le, oR fi, oU, oU, oU, oU, oU, oU] [(.ref be)])
      obtain ⟨kbe, rfl⟩ : ∃ z, z = kz454 := ⟨_, rfl⟩
      refine own_go (fun _ k => XS.dup Xz454.here hx rfl (hb hby at_148) rfl rfl k) ?_
      show own_Go _ _ _ _ Tz454 (mkF m 149 #[oI p1, oI p2, oI p3, oI p4, oI p5, oI p6, oI (Int32.ofNat nv), oI (Int32.ofNat (16 - nv)), oI y0, oI y1, oI tw, oD B0, oS, oD B1, oS, oD B2, oS, oR le, oR fi, oU, oU, oU, oU, oU, oU] [(.ref be), (.ref be)])
      refine own_go (fun _ k => XS.iconst Xz454.here hx rfl (hb hby at_149) k) ?_
      show own_Go _ _ _ _ Tz454 (mkF m 150 #[oI p1, oI p2, oI p3, oI p4, oI p5, oI p6, oI (Int32.ofNat nv), oI (Int32.ofNat (16 - nv)), oI y0, oI y1, oI tw, oD B0, oS, oD B1, oS, oD B2, oS, oR le, oR fi, oU, oU, oU, oU, oU, oU] [(.int 0), (.ref be), (.ref be)])
      refine own_go (fun _ k => XS.dload Xz454.here hx rfl (hb hby at_150) rfl k) ?_
      show own_Go _ _ _ _ Tz454 (mkF m 152 #[oI p1, oI p2, oI p3, oI p4, oI p5, oI p6, oI (Int32.ofNat nv), oI (Int32.ofNat (16 - nv)), oI y0, oI y1, oI tw, oD B0, oS, oD B1, oS, oD B2, oS, oR le, oR fi, oU, oU, oU, oU, oU, oU] [(.double B0), (.int 0), (.ref be), (.ref be)])
      obtain ⟨clz455, Arz455, qz455, Sz455, Mz455, HHz455, Gz455⟩ := V_be
      have hinz455 : ¬ ((0 : Int32) < 0 ∨ clz455.slots.size ≤ ((0 : Int32)).toNatClampNeg) := inb_of Sz455 ⟨(by decide), (by decide)⟩
      obtain ⟨Tz455, hz455, Xz455, ez455, Wz455, stz455⟩ := stD Xz454 hx hZ ez454 Arz455 (j := (0 : Int32)) hinz455 (g := (mkF m 152 #[oI p1, oI p2, oI p3, oI p4, oI p5, oI p6, oI (Int32.ofNat nv), oI (Int32.ofNat (16 - nv)), oI y0, oI y1, oI tw, oD B0, oS, oD B1, oS, oD B2, oS, oR le, oR fi, oU, oU, oU, oU, oU, oU] [(.double B0), (.int 0), (.ref be), (.ref be)])) rfl rfl (hb hby at_152)
      refine own_go stz455 ?_
      have V_be_ : Arv Z hz455 be kbe .double (3 : Int32) [(.double B0), (.double 0), (.double 0)] (.double 0) := Arv.set Arz455 qz455 Sz455 Mz455 HHz455 Gz455 rfl Wz455 0 rfl (Nat.le_of_ble_eq_true rfl)
      have Nz455 := Fr.snoc Xz455 Nz453 g_be
      have O := O.wr Wz455 g_be
      have E_fi := E_fi.wr Wz455
      have F30 := F30.other Wz455 (own_o1 lt_fi_be)
      have V_be := V_be_
      show own_Go _ _ _ _ Tz455 (mkF m 153 #[oI p1, oI p2, oI p3, oI p4, oI p5, oI p6, oI (Int32.ofNat nv), oI (Int32.ofNat (16 - nv)), oI y0, oI y1, oI tw, oD B0, oS, oD B1, oS, oD B2, oS, oR le, oR fi, oU, oU, oU, oU, oU, oU] [(.ref be)])
      refine own_go (fun _ k => XS.dup Xz455.here hx rfl (hb hby at_153) rfl rfl k) ?_
      show own_Go _ _ _ _ Tz455 (mkF m 154 #[oI p1, oI p2, oI p3, oI p4, oI p5, oI p6, oI (Int32.ofNat nv), oI (Int32.ofNat (16 - nv)), oI y0, oI y1, oI tw, oD B0, oS, oD B1, oS, oD B2, oS, oR le, oR fi, oU, oU, oU, oU, oU, oU] [(.ref be), (.ref be)])
      refine own_go (fun _ k => XS.iconst Xz455.here hx rfl (hb hby at_154) k) ?_
      show own_Go _ _ _ _ Tz455 (mkF m 155 #[oI p1, oI p2, oI p3, oI p4, oI p5, oI p6, oI (Int32.ofNat nv), oI (Int32.ofNat (16 - nv)), oI y0, oI y1, oI tw, oD B0, oS, oD B1, oS, oD B2, oS, oR le, oR fi, oU, oU, oU, oU, oU, oU] [(.int 1), (.ref be), (.ref be)])
      refine own_go (fun _ k => XS.dload Xz455.here hx rfl (hb hby at_155) rfl k) ?_
      show own_Go _ _ _ _ Tz455 (mkF m 157 #[oI p1, oI p2, oI p3, oI p4, oI p5, oI p6, oI (Int32.ofNat nv), oI (Int32.ofNat (16 - nv)), oI y0, oI y1, oI tw, oD B0, oS, oD B1, oS, oD B2, oS, oR le, oR fi, oU, oU, oU, oU, oU, oU] [(.double B1), (.int 1), (.ref be), (.ref be)])
      obtain ⟨clz456, Arz456, qz456, Sz456, Mz456, HHz456, Gz456⟩ := V_be
      have hinz456 : ¬ ((1 : Int32) < 0 ∨ clz456.slots.size ≤ ((1 : Int32)).toNatClampNeg) := inb_of Sz456 ⟨(by decide), (by decide)⟩
      obtain ⟨Tz456, hz456, Xz456, ez456, Wz456, stz456⟩ := stD Xz455 hx hZ ez455 Arz456 (j := (1 : Int32)) hinz456 (g := (mkF m 157 #[oI p1, oI p2, oI p3, oI p4, oI p5, oI p6, oI (Int32.ofNat nv), oI (Int32.ofNat (16 - nv)), oI y0, oI y1, oI tw, oD B0, oS, oD B1, oS, oD B2, oS, oR le, oR fi, oU, oU, oU, oU, oU, oU] [(.double B1), (.int 1), (.ref be), (.ref be)])) rfl rfl (hb hby at_157)
      refine own_go stz456 ?_
      have V_be_ : Arv Z hz456 be kbe .double (3 : Int32) [(.double B0), (.double B1), (.double 0)] (.double 0) := Arv.set Arz456 qz456 Sz456 Mz456 HHz456 Gz456 rfl Wz456 1 rfl (Nat.le_of_ble_eq_true rfl)
      have Nz456 := Fr.snoc Xz456 Nz455 g_be
      have O := O.wr Wz456 g_be
      have E_fi := E_fi.wr Wz456
      have F30 := F30.other Wz456 (own_o1 lt_fi_be)
      have V_be := V_be_
      show own_Go _ _ _ _ Tz456 (mkF m 158 #[oI p1, oI p2, oI p3, oI p4, oI p5, oI p6, oI (Int32.ofNat nv), oI (Int32.ofNat (16 - nv)), oI y0, oI y1, oI tw, oD B0, oS, oD B1, oS, oD B2, oS, oR le, oR fi, oU, oU, oU, oU, oU, oU] [(.ref be)])
      refine own_go (fun _ k => XS.dup Xz456.here hx rfl (hb hby at_158) rfl rfl k) ?_
      show own_Go _ _ _ _ Tz456 (mkF m 159 #[oI p1, oI p2, oI p3, oI p4, oI p5, oI p6, oI (Int32.ofNat nv), oI (Int32.ofNat (16 - nv)), oI y0, oI y1, oI tw, oD B0, oS, oD B1, oS, oD B2, oS, oR le, oR fi, oU, oU, oU, oU, oU, oU] [(.ref be), (.ref be)])
      refine own_go (fun _ k => XS.iconst Xz456.here hx rfl (hb hby at_159) k) ?_
      show own_Go _ _ _ _ Tz456 (mkF m 160 #[oI p1, oI p2, oI p3, oI p4, oI p5, oI p6, oI (Int32.ofNat nv), oI (Int32.ofNat (16 - nv)), oI y0, oI y1, oI tw, oD B0, oS, oD B1, oS, oD B2, oS, oR le, oR fi, oU, oU, oU, oU, oU, oU] [(.int 2), (.ref be), (.ref be)])
      refine own_go (fun _ k => XS.dload Xz456.here hx rfl (hb hby at_160) rfl k) ?_
      show own_Go _ _ _ _ Tz456 (mkF m 162 #[oI p1, oI p2, oI p3, oI p4, oI p5, oI p6, oI (Int32.ofNat nv), oI (Int32.ofNat (16 - nv)), oI y0, oI y1, oI tw, oD B0, oS, oD B1, oS, oD B2, oS, oR le, oR fi, oU, oU, oU, oU, oU, oU] [(.double B2), (.int 2), (.ref be), (.ref be)])
      obtain ⟨clz457, Arz457, qz457, Sz457, Mz457, HHz457, Gz457⟩ := V_be
      have hinz457 : ¬ ((2 : Int32) < 0 ∨ clz457.slots.size ≤ ((2 : Int32)).toNatClampNeg) := inb_of Sz457 ⟨(by decide), (by decide)⟩
      obtain ⟨Tz457, hz457, Xz457, ez457, Wz457, stz457⟩ := stD Xz456 hx hZ ez456 Arz457 (j := (2 : Int32)) hinz457 (g := (mkF m 162 #[oI p1, oI p2, oI p3, oI p4, oI p5, oI p6, oI (Int32.ofNat nv), oI (Int32.ofNat (16 - nv)), oI y0, oI y1, oI tw, oD B0, oS, oD B1, oS, oD B2, oS, oR le, oR fi, oU, oU, oU, oU, oU, oU] [(.double B2), (.int 2), (.ref be), (.ref be)])) rfl rfl (hb hby at_162)
      refine own_go stz457 ?_
      have V_be_ : Arv Z hz457 be kbe .double (3 : Int32) [(.double B0), (.double B1), (.double B2)] (.double 0) := Arv.set Arz457 qz457 Sz457 Mz457 HHz457 Gz457 rfl Wz457 2 rfl (Nat.le_of_ble_eq_true rfl)
      have Nz457 := Fr.snoc Xz457 Nz456 g_be
      have O := O.wr Wz457 g_be
      have E_fi := E_fi.wr Wz457
      have F30 := F30.other Wz457 (own_o1 lt_fi_be)
      have V_be := V_be_
      show own_Go _ _ _ _ Tz457 (mkF m 163 #[oI p1, oI p2, oI p3, oI p4, oI p5, oI p6, oI (Int32.ofNat nv), oI (Int32.ofNat (16 - nv)), oI y0, oI y1, oI tw, oD B0, oS, oD B1, oS, oD B2, oS, oR le, oR fi, oU, oU, oU, oU, oU, oU] [(.ref be)])
      refine own_go (fun _ k => XS.astore Xz457.here hx rfl (hb hby at_163) rfl rfl (l' := #[oI p1, oI p2, oI p3, oI p4, oI p5, oI p6, oI (Int32.ofNat nv), oI (Int32.ofNat (16 - nv)), oI y0, oI y1, oI tw, oD B0, oS, oD B1, oS, oD B2, oS, oR le, oR fi, oR be, oU, oU, oU, oU, oU]) rfl k) ?_
      show own_Go _ _ _ _ Tz457 (mkF m 165 #[oI p1, oI p2, oI p3, oI p4, oI p5, oI p6, oI (Int32.ofNat nv), oI (Int32.ofNat (16 - nv)), oI y0, oI y1, oI tw, oD B0, oS, oD B1, oS, oD B2, oS, oR le, oR fi, oR be, oU, oU, oU, oU, oU] [])
      refine own_go (fun _ k => XS.aload Xz457.here hx rfl (hb hby at_165) rfl rfl k) ?_
      show own_Go _ _ _ _ Tz457 (mkF m 167 #[oI p1, oI p2, oI p3, oI p4, oI p5, oI p6, oI (Int32.ofNat nv), oI (Int32.ofNat (16 - nv)), oI y0, oI y1, oI tw, oD B0, oS, oD B1, oS, oD B2, oS, oR le, oR fi, oR be, oU, oU, oU, oU, oU] [(.ref fi)])
      refine own_go (fun _ k => XS.aload Xz457.here hx rfl (hb hby at_167) rfl rfl k) ?_
      show own_Go _ _ _ _ Tz457 (mkF m 169 #[oI p1, oI p2, oI p3, oI p4, oI p5, oI p6, oI (Int32.ofNat nv), oI (Int32.ofNat (16 - nv)), oI y0, oI y1, oI tw, oD B0, oS, oD B1, oS, oD B2, oS, oR le, oR fi, oR be, oU, oU, oU, oU, oU] [(.ref be), (.ref fi)])
      obtain ⟨vz458, Tz458, Lz458, Xz458, hQz458, stz458⟩ := own_callV Xz457 hx hZ hown (hw _ (List.mem_of_getElem? (i := 91) rfl)) (hw _ (List.mem_of_getElem? (i := 92) rfl)) (hw _ (List.mem_of_getElem? (i := 94) rfl)) (hw _ (List.mem_of_getElem? (i := 93) rfl)) (hw _ (List.mem_of_getElem? (i := 24) rfl)) (hw _ (List.mem_of_getElem? (i := 95) rfl)) (by decide) ez457 E_fi (own_rmtu0 l Z a0 hw [] fi be hz457 n0 F30) (W := 0) (by decide) (by decide) (by decide) (by decide) own_pd9 rfl (g := (mkF m 169 #[oI p1, oI p2, oI p3, oI p4, oI p5, oI p6, oI (Int32.ofNat nv), oI (Int32.ofNat (16 - nv)), oI y0, oI y1, oI tw, oD B0, oS, oD B1, oS, oD B2, oS, oR le, oR fi, oR be, oU, oU, oU, oU, oU] [(.ref be), (.ref fi)])) (argsL := [(.ref be)]) (rest := []) rfl (by rw [hml]; rfl) rfl (by show 2 * 0 + _ ≤ _; exact Nat.le_of_eq rfl) (hb hby at_169)
      obtain ⟨rfl, Nz458q, ehz458⟩ := hQz458
      have Nz458 := Fr.app Nz457 Nz458q
      refine own_go stz458 ?_
      show own_Go _ _ _ _ Tz458 (mkF m 172 #[oI p1, oI p2, oI p3, oI p4, oI p5, oI p6, oI (Int32.ofNat nv), oI (Int32.ofNat (16 - nv)), oI y0, oI y1, oI tw, oD B0, oS, oD B1, oS, oD B2, oS, oR le, oR fi, oR be, oU, oU, oU, oU, oU] [])
      exact k172 Tz458 hz457 _ Xz458 ehz458 Nz458 be kbe _ _ _ V_be 0 0 0 (by rw [if_neg hpos]; rfl) ((own_dd 0 nv).trans (own_f0 ⟨nv, by omega⟩)) ((own_dd 0 (16 - nv)).trans (own_f0 ⟨16 - nv, by omega⟩)) own_fn0 own_fn0 (by rw [h_B0, own_el0]; exact dcmpV_self (own_cN _) .l) (by rw [h_B1, own_el0]; exact dcmpV_self (own_cN _) .l) (by rw [h_B2, own_el0]; exact dcmpV_self (own_cN _) .l)
  · refine own_go (fun _ k => XS.ifNo Xz433.here hx rfl (hb hby at_123) rfl ((if0 _ _).trans (feq hT).1) k) ?_
    show own_Go _ _ _ _ Tz433 (mkF m 126 #[oI p1, oI p2, oI p3, oI p4, oI p5, oI p6, oI (Int32.ofNat nv), oI (Int32.ofNat (16 - nv)), oI y0, oI y1, oI tw, oD B0, oS, oD B1, oS, oD B2, oS, oR le, oR fi, oU, oU, oU, oU, oU, oU] [])
    refine own_go (fun _ k => XS.aload Xz433.here hx rfl (hb hby at_126) rfl rfl k) ?_
    show own_Go _ _ _ _ Tz433 (mkF m 128 #[oI p1, oI p2, oI p3, oI p4, oI p5, oI p6, oI (Int32.ofNat nv), oI (Int32.ofNat (16 - nv)), oI y0, oI y1, oI tw, oD B0, oS, oD B1, oS, oD B2, oS, oR le, oR fi, oU, oU, oU, oU, oU, oU] [(.ref fi)])
    refine own_go (fun _ k => XS.iconst Xz433.here hx rfl (hb hby at_128) k) ?_
    show own_Go _ _ _ _ Tz433 (mkF m 129 #[oI p1, oI p2, oI p3, oI p4, oI p5, oI p6, oI (Int32.ofNat nv), oI (Int32.ofNat (16 - nv)), oI y0, oI y1, oI tw, oD B0, oS, oD B1, oS, oD B2, oS, oR le, oR fi, oU, oU, oU, oU, oU, oU] [(.int 0), (.ref fi)])
    refine own_go (fun _ k => Xz433.ldc2DoubleC hx hown (mvT hZ (hw _ (List.mem_of_getElem? (i := 100) rfl))) (g := (mkF m 129 #[oI p1, oI p2, oI p3, oI p4, oI p5, oI p6, oI (Int32.ofNat nv), oI (Int32.ofNat (16 - nv)), oI y0, oI y1, oI tw, oD B0, oS, oD B1, oS, oD B2, oS, oR le, oR fi, oU, oU, oU, oU, oU, oU] [(.int 0), (.ref fi)])) rfl (hb hby at_129) _ k) ?_
    show own_Go _ _ _ _ Tz433 (mkF m 132 #[oI p1, oI p2, oI p3, oI p4, oI p5, oI p6, oI (Int32.ofNat nv), oI (Int32.ofNat (16 - nv)), oI y0, oI y1, oI tw, oD B0, oS, oD B1, oS, oD B2, oS, oR le, oR fi, oU, oU, oU, oU, oU, oU] [(.double oC), (.int 0), (.ref fi)])
    obtain ⟨vz459, Tz459, Lz459, Xz459, hQz459, stz459⟩ := own_callV Xz433 hx hZ hown (hw _ (List.mem_of_getElem? (i := 63) rfl)) (hw _ (List.mem_of_getElem? (i := 64) rfl)) (hw _ (List.mem_of_getElem? (i := 66) rfl)) (hw _ (List.mem_of_getElem? (i := 65) rfl)) (hw _ (List.mem_of_getElem? (i := 24) rfl)) (hw _ (List.mem_of_getElem? (i := 67) rfl)) (by decide) rfl E_fi (own_rmslB l Z a0 hw [] fi 0 (4625196817309499392 : UInt64) Tz433.heap n0 le ex jo go pe li in_ ou fl el ev st se kex kjo kgo kpe kli kin_ kou kfl kel kev kst kse g_le lt_le_ex lt_ex_jo lt_jo_go lt_go_pe lt_pe_li lt_li_fi lt_fi_in_ lt_in__ou lt_ou_fl lt_fl_el lt_el_ev lt_ev_st lt_st_se V0 V1 (4625196817309499392 : UInt64) (0 : UInt64) (0 : UInt64) rfl (by decide +kernel) own_z00.2.2.1 own_nn16 hnV0 hnV1 haV0 haV1 hpV0 hpV1 hmV0 hmV1 hsV (by decide +kernel) (by decide +kernel) y0 y1 E_fi F22 F0 F2 F38 F36 F18 F12 F26 F40 F16 F6 F34 F20 F10 F30 F32 F4 F14 F8 F28 F24 V_jo V_go V_pe V_li V_in_ V_ou V_fl V_el V_ev V_st V_se) (W := 0) (by decide) (by decide) (by decide) (by decide) own_pd8 rfl (g := (mkF m 132 #[oI p1, oI p2, oI p3, oI p4, oI p5, oI p6, oI (Int32.ofNat nv), oI (Int32.ofNat (16 - nv)), oI y0, oI y1, oI tw, oD B0, oS, oD B1, oS, oD B2, oS, oR le, oR fi, oU, oU, oU, oU, oU, oU] [(.double oC), (.int 0), (.ref fi)])) (argsL := [(.int 0), (.double oC)]) (rest := []) rfl (by rw [hml]; rfl) rfl (by show 2 * 0 + _ ≤ _; exact Nat.le_of_eq rfl) (hb hby at_132)
    obtain ⟨rfl, Nz459q, Kz459, c0_z459, c1_z459, c2_z459, c3_z459, c4_z459, c5_z459, c6_z459, c7_z459, c8_z459, c9_z459, c10_z459, c11_z459, c12_z459, c13_z459, c14_z459, c15_z459, c16_z459, c17_z459, c18_z459, c19_z459, c20_z459, c21_z459, c22_z459, c23_z459, c24_z459, c25_z459, c26_z459, c27_z459, c28_z459, c29_z459, c30_z459, c31_z459, c32_z459⟩ := hQz459
    have Nz459 := Fr.app Nz433 Nz459q
    refine own_go stz459 ?_
    have O := O.keep Kz459 (allS g_fi (allS g_jo (allS g_pe (allS g_li (allS g_fl all0)))))
    have E_le := E_le.keep Kz459
    have V_ex := V_ex.keep Kz459 (ninS (Nat.ne_of_lt lt_ex_fi) (ninS (Nat.ne_of_lt lt_ex_jo) (ninS (Nat.ne_of_lt lt_ex_pe) (ninS (Nat.ne_of_lt lt_ex_li) (ninS (Nat.ne_of_lt lt_ex_fl) nin0)))))
    have E_fi := c0_z459
    have F22 := c1_z459
    have F0 := c2_z459
    have F2 := c3_z459
    have F38 := c4_z459
    have F36 := c5_z459
    have F18 := c6_z459
    have F12 := c7_z459
    have F26 := c8_z459
    have F40 := c9_z459
    have F16 := c10_z459
    have F6 := c11_z459
    have F34 := c12_z459
    have F20 := c13_z459
    have F10 := c14_z459
    have F30 := c15_z459
    have F32 := c16_z459
    have F4 := c17_z459
    have F14 := c18_z459
    have F8 := c19_z459
    have F28 := c20_z459
    have F24 := c21_z459
    have V_jo := c22_z459
    have V_go := c23_z459
    have V_pe := c24_z459
    have V_li := c25_z459
    have V_in_ := c26_z459
    have V_ou := c27_z459
    have V_fl := c28_z459
    have V_el := c29_z459
    have V_ev := c30_z459
    have V_st := c31_z459
    have V_se := c32_z459
    show own_Go _ _ _ _ Tz459 (mkF m 135 #[oI p1, oI p2, oI p3, oI p4, oI p5, oI p6, oI (Int32.ofNat nv), oI (Int32.ofNat (16 - nv)), oI y0, oI y1, oI tw, oD B0, oS, oD B1, oS, oD B2, oS, oR le, oR fi, oU, oU, oU, oU, oU, oU] [(.double oC)])
    refine own_go (fun _ k => own_pop2D Xz459.here hx rfl (hb hby at_135) rfl k) ?_
    show own_Go _ _ _ _ Tz459 (mkF m 136 #[oI p1, oI p2, oI p3, oI p4, oI p5, oI p6, oI (Int32.ofNat nv), oI (Int32.ofNat (16 - nv)), oI y0, oI y1, oI tw, oD B0, oS, oD B1, oS, oD B2, oS, oR le, oR fi, oU, oU, oU, oU, oU, oU] [])
    refine own_go (fun _ k => XS.aload Xz459.here hx rfl (hb hby at_136) rfl rfl k) ?_
    show own_Go _ _ _ _ Tz459 (mkF m 138 #[oI p1, oI p2, oI p3, oI p4, oI p5, oI p6, oI (Int32.ofNat nv), oI (Int32.ofNat (16 - nv)), oI y0, oI y1, oI tw, oD B0, oS, oD B1, oS, oD B2, oS, oR le, oR fi, oU, oU, oU, oU, oU, oU] [(.ref fi)])
    refine own_go (fun _ k => XS.iconst Xz459.here hx rfl (hb hby at_138) k) ?_
    show own_Go _ _ _ _ Tz459 (mkF m 139 #[oI p1, oI p2, oI p3, oI p4, oI p5, oI p6, oI (Int32.ofNat nv), oI (Int32.ofNat (16 - nv)), oI y0, oI y1, oI tw, oD B0, oS, oD B1, oS, oD B2, oS, oR le, oR fi, oU, oU, oU, oU, oU, oU] [(.int 0), (.ref fi)])
    refine own_go (fun _ k => XS.iloadN Xz459.here hx rfl (hb hby at_139) rfl k) ?_
    show own_Go _ _ _ _ Tz459 (mkF m 140 #[oI p1, oI p2, oI p3, oI p4, oI p5, oI p6, oI (Int32.ofNat nv), oI (Int32.ofNat (16 - nv)), oI y0, oI y1, oI tw, oD B0, oS, oD B1, oS, oD B2, oS, oR le, oR fi, oU, oU, oU, oU, oU, oU] [(.int p2), (.int 0), (.ref fi)])
    refine own_go (fun _ k => XS.i2dS Xz459.here hx rfl (hb hby at_140) rfl rfl k) ?_
    show own_Go _ _ _ _ Tz459 (mkF m 141 #[oI p1, oI p2, oI p3, oI p4, oI p5, oI p6, oI (Int32.ofNat nv), oI (Int32.ofNat (16 - nv)), oI y0, oI y1, oI tw, oD B0, oS, oD B1, oS, oD B2, oS, oR le, oR fi, oU, oU, oU, oU, oU, oU] [(.double (FP.i2d p2)), (.int 0), (.ref fi)])
    by_cases hpos : (0 : Int32) < p2
    · by_cases hbig : (15 : Int32) < p2
      · obtain ⟨hx0, hU, hge, hv⟩ := own_cb p2 hbig
        obtain ⟨vz460, Tz460, Lz460, Xz460, hQz460, stz460⟩ := own_callV Xz459 hx hZ hown (hw _ (List.mem_of_getElem? (i := 63) rfl)) (hw _ (List.mem_of_getElem? (i := 64) rfl)) (hw _ (List.mem_of_getElem? (i := 66) rfl)) (hw _ (List.mem_of_getElem? (i := 65) rfl)) (hw _ (List.mem_of_getElem? (i := 24) rfl)) (hw _ (List.mem_of_getElem? (i := 67) rfl)) (by decide) rfl E_fi (own_rmslD l Z a0 hw [] fi 0 (FP.i2d p2) Tz459.heap n0 le ex jo go pe li in_ ou fl el ev st se kex kjo kgo kpe kli kin_ kou kfl kel kev kst kse g_le lt_le_ex lt_ex_jo lt_jo_go lt_go_pe lt_pe_li lt_li_fi lt_fi_in_ lt_in__ou lt_ou_fl lt_fl_el lt_el_ev lt_ev_st lt_st_se V0 V1 (4625196817309499392 : UInt64) (4625196817309499392 : UInt64) (4625196817309499392 : UInt64) rfl hx0 hU (own_cN p2) hnV0 hnV1 haV0 haV1 hpV0 hpV1 hmV0 hmV1 hsV hv  y0 y1 E_fi F22 F0 F2 F38 F36 F18 F12 F26 F40 F16 F6 F34 F20 F10 F30 F32 F4 F14 F8 F28 F24 V_jo V_go V_pe V_li V_in_ V_ou V_fl V_el V_ev V_st V_se) (W := 0) (by decide) (by decide) (by decide) (by decide) own_pd8 rfl (g := (mkF m 141 #[oI p1, oI p2, oI p3, oI p4, oI p5, oI p6, oI (Int32.ofNat nv), oI (Int32.ofNat (16 - nv)), oI y0, oI y1, oI tw, oD B0, oS, oD B1, oS, oD B2, oS, oR le, oR fi, oU, oU, oU, oU, oU, oU] [(.double (FP.i2d p2)), (.int 0), (.ref fi)])) (argsL := [(.int 0), (.double (FP.i2d p2))]) (rest := []) rfl (by rw [hml]; rfl) rfl (by show 2 * 0 + _ ≤ _; exact Nat.le_of_eq rfl) (hb hby at_141)
        obtain ⟨rfl, Nz460q, Kz460, c0_z460, c1_z460, c2_z460, c3_z460, c4_z460, c5_z460, c6_z460, c7_z460, c8_z460, c9_z460, c10_z460, c11_z460, c12_z460, c13_z460, c14_z460, c15_z460, c16_z460, c17_z460, c18_z460, c19_z460, c20_z460, c21_z460, c22_z460, c23_z460, c24_z460, c25_z460, c26_z460, c27_z460, c28_z460, c29_z460, c30_z460, c31_z460, c32_z460⟩ := hQz460
        have Nz460 := Fr.app Nz459 Nz460q
        refine own_go stz460 ?_
        have O := O.keep Kz460 (allS g_fi (allS g_jo (allS g_pe (allS g_li (allS g_fl all0)))))
        have E_le := E_le.keep Kz460
        have V_ex := V_ex.keep Kz460 (ninS (Nat.ne_of_lt lt_ex_fi) (ninS (Nat.ne_of_lt lt_ex_jo) (ninS (Nat.ne_of_lt lt_ex_pe) (ninS (Nat.ne_of_lt lt_ex_li) (ninS (Nat.ne_of_lt lt_ex_fl) nin0)))))
        have E_fi := c0_z460
        have F22 := c1_z460
        have F0 := c2_z460
        have F2 := c3_z460
        have F38 := c4_z460
        have F36 := c5_z460
        have F18 := c6_z460
        have F12 := c7_z460
        have F26 := c8_z460
        have F40 := c9_z460
        have F16 := c10_z460
        have F6 := c11_z460
        have F34 := c12_z460
        have F20 := c13_z460
        have F10 := c14_z460
        have F30 := c15_z460
        have F32 := c16_z460
        have F4 := c17_z460
        have F14 := c18_z460
        have F8 := c19_z460
        have F28 := c20_z460
        have F24 := c21_z460
        have V_jo := c22_z460
        have V_go := c23_z460
        have V_pe := c24_z460
        have V_li := c25_z460
        have V_in_ := c26_z460
        have V_ou := c27_z460
        have V_fl := c28_z460
        have V_el := c29_z460
        have V_ev := c30_z460
        have V_st := c31_z460
        have V_se := c32_z460
        show own_Go _ _ _ _ Tz460 (mkF m 144 #[oI p1, oI p2, oI p3, oI p4, oI p5, oI p6, oI (Int32.ofNat nv), oI (Int32.ofNat (16 - nv)), oI y0, oI y1, oI tw, oD B0, oS, oD B1, oS, oD B2, oS, oR le, oR fi, oU, oU, oU, oU, oU, oU] [(.double oC)])
        refine own_go (fun _ k => own_pop2D Xz460.here hx rfl (hb hby at_144) rfl k) ?_
        show own_Go _ _ _ _ Tz460 (mkF m 145 #[oI p1, oI p2, oI p3, oI p4, oI p5, oI p6, oI (Int32.ofNat nv), oI (Int32.ofNat (16 - nv)), oI y0, oI y1, oI tw, oD B0, oS, oD B1, oS, oD B2, oS, oR le, oR fi, oU, oU, oU, oU, oU, oU] [])
        refine own_go (fun _ k => XS.iconst Xz460.here hx rfl (hb hby at_145) k) ?_
        show own_Go _ _ _ _ Tz460 (mkF m 146 #[oI p1, oI p2, oI p3, oI p4, oI p5, oI p6, oI (Int32.ofNat nv), oI (Int32.ofNat (16 - nv)), oI y0, oI y1, oI tw, oD B0, oS, oD B1, oS, oD B2, oS, oR le, oR fi, oU, oU, oU, oU, oU, oU] [(.int 3)])
        obtain ⟨Tz461, hz461, kz461, Xz461, ez461, Ez461, Az461, stz461⟩ := newP Xz460 hx hZ (hw _ (List.mem_of_getElem? (i := 12) rfl)) rfl (g := (mkF m 146 #[oI p1, oI p2, oI p3, oI p4, oI p5, oI p6, oI (Int32.ofNat nv), oI (Int32.ofNat (16 - nv)), oI y0, oI y1, oI tw, oD B0, oS, oD B1, oS, oD B2, oS, oR le, oR fi, oU, oU, oU, oU, oU, oU] [(.int 3)])) rfl (hb hby at_146) rfl (by decide) (cap := 3) (by decide) (by decide) (by decide) (by decide)
        obtain ⟨be, gz461⟩ : ∃ z, z = Tz460.heap.size := ⟨_, rfl⟩
        rw [← gz461] at Az461 stz461
        have lt_ex_be : @LT.lt Nat _ ex be := Nat.lt_of_lt_of_le V_ex.lt (Nat.le_of_eq gz461.symm)
        have lt_fi_be : @LT.lt Nat _ fi be := Nat.lt_of_lt_of_le E_fi.lt (Nat.le_of_eq gz461.symm)
        have lt_le_be : @LT.lt Nat _ le be := Nat.lt_of_lt_of_le F4.lt (Nat.le_of_eq gz461.symm)
        have lt_pe_be : @LT.lt Nat _ pe be := Nat.lt_of_lt_of_le V_pe.lt (Nat.le_of_eq gz461.symm)
        have lt_fl_be : @LT.lt Nat _ fl be := Nat.lt_of_lt_of_le V_fl.lt (Nat.le_of_eq gz461.symm)
        have lt_se_be : @LT.lt Nat _ se be := Nat.lt_of_lt_of_le V_se.lt (Nat.le_of_eq gz461.symm)
        have g_be : n0 ≤ be := by rw [gz461, ← O.1]; exact O.2.1
        have O := O.ext Ez461
        have V_ex := V_ex.ext Ez461
        have E_fi := E_fi.ext Ez461
        have F22 := F22.ext Ez461
        have F18 := F18.ext Ez461
        have F20 := F20.ext Ez461
        have F30 := F30.ext Ez461
        have F32 := F32.ext Ez461
        have F4 := F4.ext Ez461
        have F28 := F28.ext Ez461
        have V_pe := V_pe.ext Ez461
        have V_fl := V_fl.ext Ez461
        have V_se := V_se.ext Ez461
        refine own_go stz461 ?_
        have V_be : Arv Z hz461 be kz461 .double (3 : Int32) [(.double 0), (.double 0), (.double 0)] (.double 0) := (Arv.new Az461 (by decide)).pad (pad_rep [] (.double 0) 3)
        show own_Go _ _ _ _ Tz461 (mkF m 148 #[oI p1, oI p2, oI p3, oI p4, oI p5, oI p6, oI (Int32.ofNat nv), oI (Int32.ofNat (16 - nv)), oI y0, oI y1, oI tw, oD B0, oS, oD B1, oS, oD B2, oS, oR le, oR fi, oU, oU, oU, oU, oU, oU] [(.ref be)])
        obtain ⟨kbe, rfl⟩ : ∃ z, z = kz461 := ⟨_, rfl⟩
        refine own_go (fun _ k => XS.dup Xz461.here hx rfl (hb hby at_148) rfl rfl k) ?_
        show own_Go _ _ _ _ Tz461 (mkF m 149 #[oI p1, oI p2, oI p3, oI p4, oI p5, oI p6, oI (Int32.ofNat nv), oI (Int32.ofNat (16 - nv)), oI y0, oI y1, oI tw, oD B0, oS, oD B1, oS, oD B2, oS, oR le, oR fi, oU, oU, oU, oU, oU, oU] [(.ref be), (.ref be)])
        refine own_go (fun _ k => XS.iconst Xz461.here hx rfl (hb hby at_149) k) ?_
        show own_Go _ _ _ _ Tz461 (mkF m 150 #[oI p1, oI p2, oI p3, oI p4, oI p5, oI p6, oI (Int32.ofNat nv), oI (Int32.ofNat (16 - nv)), oI y0, oI y1, oI tw, oD B0, oS, oD B1, oS, oD B2, oS, oR le, oR fi, oU, oU, oU, oU, oU, oU] [(.int 0), (.ref be), (.ref be)])
        refine own_go (fun _ k => XS.dload Xz461.here hx rfl (hb hby at_150) rfl k) ?_
        show own_Go _ _ _ _ Tz461 (mkF m 152 #[oI p1, oI p2, oI p3, oI p4, oI p5, oI p6, oI (Int32.ofNat nv), oI (Int32.ofNat (16 - nv)), oI y0, oI y1, oI tw, oD B0, oS, oD B1, oS, oD B2, oS, oR le, oR fi, oU, oU, oU, oU, oU, oU] [(.double B0), (.int 0), (.ref be), (.ref be)])
        obtain ⟨clz462, Arz462, qz462, Sz462, Mz462, HHz462, Gz462⟩ := V_be
        have hinz462 : ¬ ((0 : Int32) < 0 ∨ clz462.slots.size ≤ ((0 : Int32)).toNatClampNeg) := inb_of Sz462 ⟨(by decide), (by decide)⟩
        obtain ⟨Tz462, hz462, Xz462, ez462, Wz462, stz462⟩ := stD Xz461 hx hZ ez461 Arz462 (j := (0 : Int32)) hinz462 (g := (mkF m 152 #[oI p1, oI p2, oI p3, oI p4, oI p5, oI p6, oI (Int32.ofNat nv), oI (Int32.ofNat (16 - nv)), oI y0, oI y1, oI tw, oD B0, oS, oD B1, oS, oD B2, oS, oR le, oR fi, oU, oU, oU, oU, oU, oU] [(.double B0), (.int 0), (.ref be), (.ref be)])) rfl rfl (hb hby at_152)
        refine own_go stz462 ?_
        have V_be_ : Arv Z hz462 be kbe .double (3 : Int32) [(.double B0), (.double 0), (.double 0)] (.double 0) := Arv.set Arz462 qz462 Sz462 Mz462 HHz462 Gz462 rfl Wz462 0 rfl (Nat.le_of_ble_eq_true rfl)
        have Nz462 := Fr.snoc Xz462 Nz460 g_be
        have O := O.wr Wz462 g_be
        have V_ex := V_ex.other Wz462 (Nat.ne_of_lt lt_ex_be)
        have E_fi := E_fi.wr Wz462
        have F22 := F22.other Wz462 (own_o1 lt_fi_be)
        have F18 := F18.other Wz462 (own_o1 lt_fi_be)
        have F20 := F20.other Wz462 (own_o1 lt_fi_be)
        have F30 := F30.other Wz462 (own_o1 lt_fi_be)
        have F32 := F32.other Wz462 (own_o1 lt_fi_be)
        have F4 := F4.other Wz462 (own_o1 lt_le_be)
        have F28 := F28.other Wz462 (own_o1 lt_le_be)
        have V_pe := V_pe.other Wz462 (Nat.ne_of_lt lt_pe_be)
        have V_fl := V_fl.other Wz462 (Nat.ne_of_lt lt_fl_be)
        have V_be := V_be_
        show own_Go _ _ _ _ Tz462 (mkF m 153 #[oI p1, oI p2, oI p3, oI p4, oI p5, oI p6, oI (Int32.ofNat nv), oI (Int32.ofNat (16 - nv)), oI y0, oI y1, oI tw, oD B0, oS, oD B1, oS, oD B2, oS, oR le, oR fi, oU, oU, oU, oU, oU, oU] [(.ref be)])
        refine own_go (fun _ k => XS.dup Xz462.here hx rfl (hb hby at_153) rfl rfl k) ?_
        show own_Go _ _ _ _ Tz462 (mkF m 154 #[oI p1, oI p2, oI p3, oI p4, oI p5, oI p6, oI (Int32.ofNat nv), oI (Int32.ofNat (16 - nv)), oI y0, oI y1, oI tw, oD B0, oS, oD B1, oS, oD B2, oS, oR le, oR fi, oU, oU, oU, oU, oU, oU] [(.ref be), (.ref be)])
        refine own_go (fun _ k => XS.iconst Xz462.here hx rfl (hb hby at_154) k) ?_
        show own_Go _ _ _ _ Tz462 (mkF m 155 #[oI p1, oI p2, oI p3, oI p4, oI p5, oI p6, oI (Int32.ofNat nv), oI (Int32.ofNat (16 - nv)), oI y0, oI y1, oI tw, oD B0, oS, oD B1, oS, oD B2, oS, oR le, oR fi, oU, oU, oU, oU, oU, oU] [(.int 1), (.ref be), (.ref be)])
        refine own_go (fun _ k => XS.dload Xz462.here hx rfl (hb hby at_155) rfl k) ?_
        show own_Go _ _ _ _ Tz462 (mkF m 157 #[oI p1, oI p2, oI p3, oI p4, oI p5, oI p6, oI (Int32.ofNat nv), oI (Int32.ofNat (16 - nv)), oI y0, oI y1, oI tw, oD B0, oS, oD B1, oS, oD B2, oS, oR le, oR fi, oU, oU, oU, oU, oU, oU] [(.double B1), (.int 1), (.ref be), (.ref be)])
        obtain ⟨clz463, Arz463, qz463, Sz463, Mz463, HHz463, Gz463⟩ := V_be
        have hinz463 : ¬ ((1 : Int32) < 0 ∨ clz463.slots.size ≤ ((1 : Int32)).toNatClampNeg) := inb_of Sz463 ⟨(by decide), (by decide)⟩
        obtain ⟨Tz463, hz463, Xz463, ez463, Wz463, stz463⟩ := stD Xz462 hx hZ ez462 Arz463 (j := (1 : Int32)) hinz463 (g := (mkF m 157 #[oI p1, oI p2, oI p3, oI p4, oI p5, oI p6, oI (Int32.ofNat nv), oI (Int32.ofNat (16 - nv)), oI y0, oI y1, oI tw, oD B0, oS, oD B1, oS, oD B2, oS, oR le, oR fi, oU, oU, oU, oU, oU, oU] [(.double B1), (.int 1), (.ref be), (.ref be)])) rfl rfl (hb hby at_157)
        refine own_go stz463 ?_
        have V_be_ : Arv Z hz463 be kbe .double (3 : Int32) [(.double B0), (.double B1), (.double 0)] (.double 0) := Arv.set Arz463 qz463 Sz463 Mz463 HHz463 Gz463 rfl Wz463 1 rfl (Nat.le_of_ble_eq_true rfl)
        have Nz463 := Fr.snoc Xz463 Nz462 g_be
        have O := O.wr Wz463 g_be
        have V_ex := V_ex.other Wz463 (Nat.ne_of_lt lt_ex_be)
        have E_fi := E_fi.wr Wz463
        have F22 := F22.other Wz463 (own_o1 lt_fi_be)
        have F18 := F18.other Wz463 (own_o1 lt_fi_be)
        have F20 := F20.other Wz463 (own_o1 lt_fi_be)
        have F30 := F30.other Wz463 (own_o1 lt_fi_be)
        have F32 := F32.other Wz463 (own_o1 lt_fi_be)
        have F4 := F4.other Wz463 (own_o1 lt_le_be)
        have F28 := F28.other Wz463 (own_o1 lt_le_be)
        have V_pe := V_pe.other Wz463 (Nat.ne_of_lt lt_pe_be)
        have V_fl := V_fl.other Wz463 (Nat.ne_of_lt lt_fl_be)
        have V_be := V_be_
        show own_Go _ _ _ _ Tz463 (mkF m 158 #[oI p1, oI p2, oI p3, oI p4, oI p5, oI p6, oI (Int32.ofNat nv), oI (Int32.ofNat (16 - nv)), oI y0, oI y1, oI tw, oD B0, oS, oD B1, oS, oD B2, oS, oR le, oR fi, oU, oU, oU, oU, oU, oU] [(.ref be)])
        refine own_go (fun _ k => XS.dup Xz463.here hx rfl (hb hby at_158) rfl rfl k) ?_
        show own_Go _ _ _ _ Tz463 (mkF m 159 #[oI p1, oI p2, oI p3, oI p4, oI p5, oI p6, oI (Int32.ofNat nv), oI (Int32.ofNat (16 - nv)), oI y0, oI y1, oI tw, oD B0, oS, oD B1, oS, oD B2, oS, oR le, oR fi, oU, oU, oU, oU, oU, oU] [(.ref be), (.ref be)])
        refine own_go (fun _ k => XS.iconst Xz463.here hx rfl (hb hby at_159) k) ?_
        show own_Go _ _ _ _ Tz463 (mkF m 160 #[oI p1, oI p2, oI p3, oI p4, oI p5, oI p6, oI (Int32.ofNat nv), oI (Int32.ofNat (16 - nv)), oI y0, oI y1, oI tw, oD B0, oS, oD B1, oS, oD B2, oS, oR le, oR fi, oU, oU, oU, oU, oU, oU] [(.int 2), (.ref be), (.ref be)])
        refine own_go (fun _ k => XS.dload Xz463.here hx rfl (hb hby at_160) rfl k) ?_
        show own_Go _ _ _ _ Tz463 (mkF m 162 #[oI p1, oI p2, oI p3, oI p4, oI p5, oI p6, oI (Int32.ofNat nv), oI (Int32.ofNat (16 - nv)), oI y0, oI y1, oI tw, oD B0, oS, oD B1, oS, oD B2, oS, oR le, oR fi, oU, oU, oU, oU, oU, oU] [(.double B2), (.int 2), (.ref be), (.ref be)])
        obtain ⟨clz464, Arz464, qz464, Sz464, Mz464, HHz464, Gz464⟩ := V_be
        have hinz464 : ¬ ((2 : Int32) < 0 ∨ clz464.slots.size ≤ ((2 : Int32)).toNatClampNeg) := inb_of Sz464 ⟨(by decide), (by decide)⟩
        obtain ⟨Tz464, hz464, Xz464, ez464, Wz464, stz464⟩ := stD Xz463 hx hZ ez463 Arz464 (j := (2 : Int32)) hinz464 (g := (mkF m 162 #[oI p1, oI p2, oI p3, oI p4, oI p5, oI p6, oI (Int32.ofNat nv), oI (Int32.ofNat (16 - nv)), oI y0, oI y1, oI tw, oD B0, oS, oD B1, oS, oD B2, oS, oR le, oR fi, oU, oU, oU, oU, oU, oU] [(.double B2), (.int 2), (.ref be), (.ref be)])) rfl rfl (hb hby at_162)
        refine own_go stz464 ?_
        have V_be_ : Arv Z hz464 be kbe .double (3 : Int32) [(.double B0), (.double B1), (.double B2)] (.double 0) := Arv.set Arz464 qz464 Sz464 Mz464 HHz464 Gz464 rfl Wz464 2 rfl (Nat.le_of_ble_eq_true rfl)
        have Nz464 := Fr.snoc Xz464 Nz463 g_be
        have O := O.wr Wz464 g_be
        have V_ex := V_ex.other Wz464 (Nat.ne_of_lt lt_ex_be)
        have E_fi := E_fi.wr Wz464
        have F22 := F22.other Wz464 (own_o1 lt_fi_be)
        have F18 := F18.other Wz464 (own_o1 lt_fi_be)
        have F20 := F20.other Wz464 (own_o1 lt_fi_be)
        have F30 := F30.other Wz464 (own_o1 lt_fi_be)
        have F32 := F32.other Wz464 (own_o1 lt_fi_be)
        have F4 := F4.other Wz464 (own_o1 lt_le_be)
        have F28 := F28.other Wz464 (own_o1 lt_le_be)
        have V_pe := V_pe.other Wz464 (Nat.ne_of_lt lt_pe_be)
        have V_fl := V_fl.other Wz464 (Nat.ne_of_lt lt_fl_be)
        have V_be := V_be_
        show own_Go _ _ _ _ Tz464 (mkF m 163 #[oI p1, oI p2, oI p3, oI p4, oI p5, oI p6, oI (Int32.ofNat nv), oI (Int32.ofNat (16 - nv)), oI y0, oI y1, oI tw, oD B0, oS, oD B1, oS, oD B2, oS, oR le, oR fi, oU, oU, oU, oU, oU, oU] [(.ref be)])
        refine own_go (fun _ k => XS.astore Xz464.here hx rfl (hb hby at_163) rfl rfl (l' := #[oI p1, oI p2, oI p3, oI p4, oI p5, oI p6, oI (Int32.ofNat nv), oI (Int32.ofNat (16 - nv)), oI y0, oI y1, oI tw, oD B0, oS, oD B1, oS, oD B2, oS, oR le, oR fi, oR be, oU, oU, oU, oU, oU]) rfl k) ?_
        show own_Go _ _ _ _ Tz464 (mkF m 165 #[oI p1, oI p2, oI p3, oI p4, oI p5, oI p6, oI (Int32.ofNat nv), oI (Int32.ofNat (16 - nv)), oI y0, oI y1, oI tw, oD B0, oS, oD B1, oS, oD B2, oS, oR le, oR fi, oR be, oU, oU, oU, oU, oU] [])
        refine own_go (fun _ k => XS.aload Xz464.here hx rfl (hb hby at_165) rfl rfl k) ?_
        show own_Go _ _ _ _ Tz464 (mkF m 167 #[oI p1, oI p2, oI p3, oI p4, oI p5, oI p6, oI (Int32.ofNat nv), oI (Int32.ofNat (16 - nv)), oI y0, oI y1, oI tw, oD B0, oS, oD B1, oS, oD B2, oS, oR le, oR fi, oR be, oU, oU, oU, oU, oU] [(.ref fi)])
        refine own_go (fun _ k => XS.aload Xz464.here hx rfl (hb hby at_167) rfl rfl k) ?_
        show own_Go _ _ _ _ Tz464 (mkF m 169 #[oI p1, oI p2, oI p3, oI p4, oI p5, oI p6, oI (Int32.ofNat nv), oI (Int32.ofNat (16 - nv)), oI y0, oI y1, oI tw, oD B0, oS, oD B1, oS, oD B2, oS, oR le, oR fi, oR be, oU, oU, oU, oU, oU] [(.ref be), (.ref fi)])
        obtain ⟨vz465, Tz465, Lz465, Xz465, hQz465, stz465⟩ := own_callV Xz464 hx hZ hown (hw _ (List.mem_of_getElem? (i := 91) rfl)) (hw _ (List.mem_of_getElem? (i := 92) rfl)) (hw _ (List.mem_of_getElem? (i := 94) rfl)) (hw _ (List.mem_of_getElem? (i := 93) rfl)) (hw _ (List.mem_of_getElem? (i := 24) rfl)) (hw _ (List.mem_of_getElem? (i := 95) rfl)) (by decide) ez464 E_fi (own_rmtu l Z a0 hw [] fi be hz464 n0 le ex jo go pe li in_ ou fl el ev st se kex kjo kgo kpe kli kin_ kou kfl kel kev kst kse g_le lt_le_ex lt_ex_jo lt_jo_go lt_go_pe lt_pe_li lt_li_fi lt_fi_in_ lt_in__ou lt_ou_fl lt_fl_el lt_el_ev lt_ev_st lt_st_se kbe lt_se_be y0 y1 B0 B1 B2 (4625196817309499392 : UInt64) (4625196817309499392 : UInt64) (4607182418800017408 : UInt64) V0 V1 (own_fx 16 nv) (own_fx 16 (16 - nv)) _ _ _ he0 he1 (by decide +kernel) own_z00.2.2.2.2 own_fn1.noNaN (by rw [h_V0, (own_f11 ⟨nv, by omega⟩).2, (own_f11 ⟨nv, by omega⟩).1]) (by rw [h_V1, (own_f11 ⟨16 - nv, by omega⟩).2, (own_f11 ⟨16 - nv, by omega⟩).1]) (own_f5 ⟨16, by omega⟩ ⟨nv, by omega⟩) (own_f5 ⟨16, by omega⟩ ⟨16 - nv, by omega⟩) hB0 hB1 hB2 rfl rfl rfl F22 F18 F20 F30 F32 F4 F28 V_fl V_ex V_pe V_be) (W := 0) (by decide) (by decide) (by decide) (by decide) own_pd9 rfl (g := (mkF m 169 #[oI p1, oI p2, oI p3, oI p4, oI p5, oI p6, oI (Int32.ofNat nv), oI (Int32.ofNat (16 - nv)), oI y0, oI y1, oI tw, oD B0, oS, oD B1, oS, oD B2, oS, oR le, oR fi, oR be, oU, oU, oU, oU, oU] [(.ref be), (.ref fi)])) (argsL := [(.ref be)]) (rest := []) rfl (by rw [hml]; rfl) rfl (by show 2 * 0 + _ ≤ _; exact Nat.le_of_eq rfl) (hb hby at_169)
        obtain ⟨rfl, Nz465q, Kz465, c_z465⟩ := hQz465
        have Nz465 := Fr.app Nz464 Nz465q
        refine own_go stz465 ?_
        have O := O.keep Kz465 (allS g_be all0)
        have E_fi := E_fi.keep Kz465
        have V_be := c_z465
        show own_Go _ _ _ _ Tz465 (mkF m 172 #[oI p1, oI p2, oI p3, oI p4, oI p5, oI p6, oI (Int32.ofNat nv), oI (Int32.ofNat (16 - nv)), oI y0, oI y1, oI tw, oD B0, oS, oD B1, oS, oD B2, oS, oR le, oR fi, oR be, oU, oU, oU, oU, oU] [])
        exact k172 Tz465 Tz465.heap _ Xz465 rfl Nz465 be kbe _ _ _ V_be 16 (own_fx 16 nv) (own_fx 16 (16 - nv)) (by rw [if_pos hpos]; exact (own_mm p2).2.1 hpos hbig) (own_dd 16 nv) (own_dd 16 (16 - nv)) (own_f5 ⟨16, by omega⟩ ⟨nv, by omega⟩) (own_f5 ⟨16, by omega⟩ ⟨16 - nv, by omega⟩) (own_elS (0 : Int32) y0 y1 hB0 (own_f5 ⟨16, by omega⟩ ⟨nv, by omega⟩) (own_f5 ⟨16, by omega⟩ ⟨16 - nv, by omega⟩)) (own_elS (1 : Int32) y0 y1 hB1 (own_f5 ⟨16, by omega⟩ ⟨nv, by omega⟩) (own_f5 ⟨16, by omega⟩ ⟨16 - nv, by omega⟩)) (own_elS (2 : Int32) y0 y1 hB2 (own_f5 ⟨16, by omega⟩ ⟨nv, by omega⟩) (own_f5 ⟨16, by omega⟩ ⟨16 - nv, by omega⟩))
      · obtain ⟨m_, hm1_, hm2_, hcm⟩ := own_cs p2 hpos hbig
        obtain ⟨vz466, Tz466, Lz466, Xz466, hQz466, stz466⟩ := own_callV Xz459 hx hZ hown (hw _ (List.mem_of_getElem? (i := 63) rfl)) (hw _ (List.mem_of_getElem? (i := 64) rfl)) (hw _ (List.mem_of_getElem? (i := 66) rfl)) (hw _ (List.mem_of_getElem? (i := 65) rfl)) (hw _ (List.mem_of_getElem? (i := 24) rfl)) (hw _ (List.mem_of_getElem? (i := 67) rfl)) (by decide) rfl E_fi (own_rmslD l Z a0 hw [] fi 0 (FP.i2d p2) Tz459.heap n0 le ex jo go pe li in_ ou fl el ev st se kex kjo kgo kpe kli kin_ kou kfl kel kev kst kse g_le lt_le_ex lt_ex_jo lt_jo_go lt_go_pe lt_pe_li lt_li_fi lt_fi_in_ lt_in__ou lt_ou_fl lt_fl_el lt_el_ev lt_ev_st lt_st_se V0 V1 (FP.i2d p2) (4625196817309499392 : UInt64) (4625196817309499392 : UInt64) rfl (by rw [hcm]; exact own_f8 ⟨m_, by omega⟩ hm1_) (by rw [hcm]; exact (own_f6 ⟨m_, by omega⟩).2.1) (own_cN p2) hnV0 hnV1 haV0 haV1 hpV0 hpV1 hmV0 hmV1 hsV (by rw [hcm]; exact (own_f10 ⟨m_, by omega⟩).2) y0 y1 E_fi F22 F0 F2 F38 F36 F18 F12 F26 F40 F16 F6 F34 F20 F10 F30 F32 F4 F14 F8 F28 F24 V_jo V_go V_pe V_li V_in_ V_ou V_fl V_el V_ev V_st V_se) (W := 0) (by decide) (by decide) (by decide) (by decide) own_pd8 rfl (g := (mkF m 141 #[oI p1, oI p2, oI p3, oI p4, oI p5, oI p6, oI (Int32.ofNat nv), oI (Int32.ofNat (16 - nv)), oI y0, oI y1, oI tw, oD B0, oS, oD B1, oS, oD B2, oS, oR le, oR fi, oU, oU, oU, oU, oU, oU] [(.double (FP.i2d p2)), (.int 0), (.ref fi)])) (argsL := [(.int 0), (.double (FP.i2d p2))]) (rest := []) rfl (by rw [hml]; rfl) rfl (by show 2 * 0 + _ ≤ _; exact Nat.le_of_eq rfl) (hb hby at_141)
        obtain ⟨rfl, Nz466q, Kz466, c0_z466, c1_z466, c2_z466, c3_z466, c4_z466, c5_z466, c6_z466, c7_z466, c8_z466, c9_z466, c10_z466, c11_z466, c12_z466, c13_z466, c14_z466, c15_z466, c16_z466, c17_z466, c18_z466, c19_z466, c20_z466, c21_z466, c22_z466, c23_z466, c24_z466, c25_z466, c26_z466, c27_z466, c28_z466, c29_z466, c30_z466, c31_z466, c32_z466⟩ := hQz466
        have Nz466 := Fr.app Nz459 Nz466q
        refine own_go stz466 ?_
        have O := O.keep Kz466 (allS g_fi (allS g_jo (allS g_pe (allS g_li (allS g_fl all0)))))
        have E_le := E_le.keep Kz466
        have V_ex := V_ex.keep Kz466 (ninS (Nat.ne_of_lt lt_ex_fi) (ninS (Nat.ne_of_lt lt_ex_jo) (ninS (Nat.ne_of_lt lt_ex_pe) (ninS (Nat.ne_of_lt lt_ex_li) (ninS (Nat.ne_of_lt lt_ex_fl) nin0)))))
        have E_fi := c0_z466
        have F22 := c1_z466
        have F0 := c2_z466
        have F2 := c3_z466
        have F38 := c4_z466
        have F36 := c5_z466
        have F18 := c6_z466
        have F12 := c7_z466
        have F26 := c8_z466
        have F40 := c9_z466
        have F16 := c10_z466
        have F6 := c11_z466
        have F34 := c12_z466
        have F20 := c13_z466
        have F10 := c14_z466
        have F30 := c15_z466
        have F32 := c16_z466
        have F4 := c17_z466
        have F14 := c18_z466
        have F8 := c19_z466
        have F28 := c20_z466
        have F24 := c21_z466
        have V_jo := c22_z466
        have V_go := c23_z466
        have V_pe := c24_z466
        have V_li := c25_z466
        have V_in_ := c26_z466
        have V_ou := c27_z466
        have V_fl := c28_z466
        have V_el := c29_z466
        have V_ev := c30_z466
        have V_st := c31_z466
        have V_se := c32_z466
        show own_Go _ _ _ _ Tz466 (mkF m 144 #[oI p1, oI p2, oI p3, oI p4, oI p5, oI p6, oI (Int32.ofNat nv), oI (Int32.ofNat (16 - nv)), oI y0, oI y1, oI tw, oD B0, oS, oD B1, oS, oD B2, oS, oR le, oR fi, oU, oU, oU, oU, oU, oU] [(.double (FP.i2d p2))])
        refine own_go (fun _ k => own_pop2D Xz466.here hx rfl (hb hby at_144) rfl k) ?_
        show own_Go _ _ _ _ Tz466 (mkF m 145 #[oI p1, oI p2, oI p3, oI p4, oI p5, oI p6, oI (Int32.ofNat nv), oI (Int32.ofNat (16 - nv)), oI y0, oI y1, oI tw, oD B0, oS, oD B1, oS, oD B2, oS, oR le, oR fi, oU, oU, oU, oU, oU, oU] [])
        refine own_go (fun _ k => XS.iconst Xz466.here hx rfl (hb hby at_145) k) ?_
        show own_Go _ _ _ _ Tz466 (mkF m 146 #[oI p1, oI p2, oI p3, oI p4, oI p5, oI p6, oI (Int32.ofNat nv), oI (Int32.ofNat (16 - nv)), oI y0, oI y1, oI tw, oD B0, oS, oD B1, oS, oD B2, oS, oR le, oR fi, oU, oU, oU, oU, oU, oU] [(.int 3)])
        obtain ⟨Tz467, hz467, kz467, Xz467, ez467, Ez467, Az467, stz467⟩ := newP Xz466 hx hZ (hw _ (List.mem_of_getElem? (i := 12) rfl)) rfl (g := (mkF m 146 #[oI p1, oI p2, oI p3, oI p4, oI p5, oI p6, oI (Int32.ofNat nv), oI (Int32.ofNat (16 - nv)), oI y0, oI y1, oI tw, oD B0, oS, oD B1, oS, oD B2, oS, oR le, oR fi, oU, oU, oU, oU, oU, oU] [(.int 3)])) rfl (hb hby at_146) rfl (by decide) (cap := 3) (by decide) (by decide) (by decide) (by decide)
        obtain ⟨be, gz467⟩ : ∃ z, z = Tz466.heap.size := ⟨_, rfl⟩
        rw [← gz467] at Az467 stz467
        have lt_ex_be : @LT.lt Nat _ ex be := Nat.lt_of_lt_of_le V_ex.lt (Nat.le_of_eq gz467.symm)
        have lt_fi_be : @LT.lt Nat _ fi be := Nat.lt_of_lt_of_le E_fi.lt (Nat.le_of_eq gz467.symm)
        have lt_le_be : @LT.lt Nat _ le be := Nat.lt_of_lt_of_le F4.lt (Nat.le_of_eq gz467.symm)
        have lt_pe_be : @LT.lt Nat _ pe be := Nat.lt_of_lt_of_le V_pe.lt (Nat.le_of_eq gz467.symm)
        have lt_fl_be : @LT.lt Nat _ fl be := Nat.lt_of_lt_of_le V_fl.lt (Nat.le_of_eq gz467.symm)
        have lt_se_be : @LT.lt Nat _ se be := Nat.lt_of_lt_of_le V_se.lt (Nat.le_of_eq gz467.symm)
        have g_be : n0 ≤ be := by rw [gz467, ← O.1]; exact O.2.1
        have O := O.ext Ez467
        have V_ex := V_ex.ext Ez467
        have E_fi := E_fi.ext Ez467
        have F22 := F22.ext Ez467
        have F18 := F18.ext Ez467
        have F20 := F20.ext Ez467
        have F30 := F30.ext Ez467
        have F32 := F32.ext Ez467
        have F4 := F4.ext Ez467
        have F28 := F28.ext Ez467
        have V_pe := V_pe.ext Ez467
        have V_fl := V_fl.ext Ez467
        have V_se := V_se.ext Ez467
        refine own_go stz467 ?_
        have V_be : Arv Z hz467 be kz467 .double (3 : Int32) [(.double 0), (.double 0), (.double 0)] (.double 0) := (Arv.new Az467 (by decide)).pad (pad_rep [] (.double 0) 3)
        show own_Go _ _ _ _ Tz467 (mkF m 148 #[oI p1, oI p2, oI p3, oI p4, oI p5, oI p6, oI (Int32.ofNat nv), oI (Int32.ofNat (16 - nv)), oI y0, oI y1, oI tw, oD B0, oS, oD B1, oS, oD B2, oS, oR le, oR fi, oU, oU, oU, oU, oU, oU] [(.ref be)])
        obtain ⟨kbe, rfl⟩ : ∃ z, z = kz467 := ⟨_, rfl⟩
        refine own_go (fun _ k => XS.dup Xz467.here hx rfl (hb hby at_148) rfl rfl k) ?_
        show own_Go _ _ _ _ Tz467 (mkF m 149 #[oI p1, oI p2, oI p3, oI p4, oI p5, oI p6, oI (Int32.ofNat nv), oI (Int32.ofNat (16 - nv)), oI y0, oI y1, oI tw, oD B0, oS, oD B1, oS, oD B2, oS, oR le, oR fi, oU, oU, oU, oU, oU, oU] [(.ref be), (.ref be)])
        refine own_go (fun _ k => XS.iconst Xz467.here hx rfl (hb hby at_149) k) ?_
        show own_Go _ _ _ _ Tz467 (mkF m 150 #[oI p1, oI p2, oI p3, oI p4, oI p5, oI p6, oI (Int32.ofNat nv), oI (Int32.ofNat (16 - nv)), oI y0, oI y1, oI tw, oD B0, oS, oD B1, oS, oD B2, oS, oR le, oR fi, oU, oU, oU, oU, oU, oU] [(.int 0), (.ref be), (.ref be)])
        refine own_go (fun _ k => XS.dload Xz467.here hx rfl (hb hby at_150) rfl k) ?_
        show own_Go _ _ _ _ Tz467 (mkF m 152 #[oI p1, oI p2, oI p3, oI p4, oI p5, oI p6, oI (Int32.ofNat nv), oI (Int32.ofNat (16 - nv)), oI y0, oI y1, oI tw, oD B0, oS, oD B1, oS, oD B2, oS, oR le, oR fi, oU, oU, oU, oU, oU, oU] [(.double B0), (.int 0), (.ref be), (.ref be)])
        obtain ⟨clz468, Arz468, qz468, Sz468, Mz468, HHz468, Gz468⟩ := V_be
        have hinz468 : ¬ ((0 : Int32) < 0 ∨ clz468.slots.size ≤ ((0 : Int32)).toNatClampNeg) := inb_of Sz468 ⟨(by decide), (by decide)⟩
        obtain ⟨Tz468, hz468, Xz468, ez468, Wz468, stz468⟩ := stD Xz467 hx hZ ez467 Arz468 (j := (0 : Int32)) hinz468 (g := (mkF m 152 #[oI p1, oI p2, oI p3, oI p4, oI p5, oI p6, oI (Int32.ofNat nv), oI (Int32.ofNat (16 - nv)), oI y0, oI y1, oI tw, oD B0, oS, oD B1, oS, oD B2, oS, oR le, oR fi, oU, oU, oU, oU, oU, oU] [(.double B0), (.int 0), (.ref be), (.ref be)])) rfl rfl (hb hby at_152)
        refine own_go stz468 ?_
        have V_be_ : Arv Z hz468 be kbe .double (3 : Int32) [(.double B0), (.double 0), (.double 0)] (.double 0) := Arv.set Arz468 qz468 Sz468 Mz468 HHz468 Gz468 rfl Wz468 0 rfl (Nat.le_of_ble_eq_true rfl)
        have Nz468 := Fr.snoc Xz468 Nz466 g_be
        have O := O.wr Wz468 g_be
        have V_ex := V_ex.other Wz468 (Nat.ne_of_lt lt_ex_be)
        have E_fi := E_fi.wr Wz468
        have F22 := F22.other Wz468 (own_o1 lt_fi_be)
        have F18 := F18.other Wz468 (own_o1 lt_fi_be)
        have F20 := F20.other Wz468 (own_o1 lt_fi_be)
        have F30 := F30.other Wz468 (own_o1 lt_fi_be)
        have F32 := F32.other Wz468 (own_o1 lt_fi_be)
        have F4 := F4.other Wz468 (own_o1 lt_le_be)
        have F28 := F28.other Wz468 (own_o1 lt_le_be)
        have V_pe := V_pe.other Wz468 (Nat.ne_of_lt lt_pe_be)
        have V_fl := V_fl.other Wz468 (Nat.ne_of_lt lt_fl_be)
        have V_be := V_be_
        show own_Go _ _ _ _ Tz468 (mkF m 153 #[oI p1, oI p2, oI p3, oI p4, oI p5, oI p6, oI (Int32.ofNat nv), oI (Int32.ofNat (16 - nv)), oI y0, oI y1, oI tw, oD B0, oS, oD B1, oS, oD B2, oS, oR le, oR fi, oU, oU, oU, oU, oU, oU] [(.ref be)])
        refine own_go (fun _ k => XS.dup Xz468.here hx rfl (hb hby at_153) rfl rfl k) ?_
        show own_Go _ _ _ _ Tz468 (mkF m 154 #[oI p1, oI p2, oI p3, oI p4, oI p5, oI p6, oI (Int32.ofNat nv), oI (Int32.ofNat (16 - nv)), oI y0, oI y1, oI tw, oD B0, oS, oD B1, oS, oD B2, oS, oR le, oR fi, oU, oU, oU, oU, oU, oU] [(.ref be), (.ref be)])
        refine own_go (fun _ k => XS.iconst Xz468.here hx rfl (hb hby at_154) k) ?_
        show own_Go _ _ _ _ Tz468 (mkF m 155 #[oI p1, oI p2, oI p3, oI p4, oI p5, oI p6, oI (Int32.ofNat nv), oI (Int32.ofNat (16 - nv)), oI y0, oI y1, oI tw, oD B0, oS, oD B1, oS, oD B2, oS, oR le, oR fi, oU, oU, oU, oU, oU, oU] [(.int 1), (.ref be), (.ref be)])
        refine own_go (fun _ k => XS.dload Xz468.here hx rfl (hb hby at_155) rfl k) ?_
        show own_Go _ _ _ _ Tz468 (mkF m 157 #[oI p1, oI p2, oI p3, oI p4, oI p5, oI p6, oI (Int32.ofNat nv), oI (Int32.ofNat (16 - nv)), oI y0, oI y1, oI tw, oD B0, oS, oD B1, oS, oD B2, oS, oR le, oR fi, oU, oU, oU, oU, oU, oU] [(.double B1), (.int 1), (.ref be), (.ref be)])
        obtain ⟨clz469, Arz469, qz469, Sz469, Mz469, HHz469, Gz469⟩ := V_be
        have hinz469 : ¬ ((1 : Int32) < 0 ∨ clz469.slots.size ≤ ((1 : Int32)).toNatClampNeg) := inb_of Sz469 ⟨(by decide), (by decide)⟩
        obtain ⟨Tz469, hz469, Xz469, ez469, Wz469, stz469⟩ := stD Xz468 hx hZ ez468 Arz469 (j := (1 : Int32)) hinz469 (g := (mkF m 157 #[oI p1, oI p2, oI p3, oI p4, oI p5, oI p6, oI (Int32.ofNat nv), oI (Int32.ofNat (16 - nv)), oI y0, oI y1, oI tw, oD B0, oS, oD B1, oS, oD B2, oS, oR le, oR fi, oU, oU, oU, oU, oU, oU] [(.double B1), (.int 1), (.ref be), (.ref be)])) rfl rfl (hb hby at_157)
        refine own_go stz469 ?_
        have V_be_ : Arv Z hz469 be kbe .double (3 : Int32) [(.double B0), (.double B1), (.double 0)] (.double 0) := Arv.set Arz469 qz469 Sz469 Mz469 HHz469 Gz469 rfl Wz469 1 rfl (Nat.le_of_ble_eq_true rfl)
        have Nz469 := Fr.snoc Xz469 Nz468 g_be
        have O := O.wr Wz469 g_be
        have V_ex := V_ex.other Wz469 (Nat.ne_of_lt lt_ex_be)
        have E_fi := E_fi.wr Wz469
        have F22 := F22.other Wz469 (own_o1 lt_fi_be)
        have F18 := F18.other Wz469 (own_o1 lt_fi_be)
        have F20 := F20.other Wz469 (own_o1 lt_fi_be)
        have F30 := F30.other Wz469 (own_o1 lt_fi_be)
        have F32 := F32.other Wz469 (own_o1 lt_fi_be)
        have F4 := F4.other Wz469 (own_o1 lt_le_be)
        have F28 := F28.other Wz469 (own_o1 lt_le_be)
        have V_pe := V_pe.other Wz469 (Nat.ne_of_lt lt_pe_be)
        have V_fl := V_fl.other Wz469 (Nat.ne_of_lt lt_fl_be)
        have V_be := V_be_
        show own_Go _ _ _ _ Tz469 (mkF m 158 #[oI p1, oI p2, oI p3, oI p4, oI p5, oI p6, oI (Int32.ofNat nv), oI (Int32.ofNat (16 - nv)), oI y0, oI y1, oI tw, oD B0, oS, oD B1, oS, oD B2, oS, oR le, oR fi, oU, oU, oU, oU, oU, oU] [(.ref be)])
        refine own_go (fun _ k => XS.dup Xz469.here hx rfl (hb hby at_158) rfl rfl k) ?_
        show own_Go _ _ _ _ Tz469 (mkF m 159 #[oI p1, oI p2, oI p3, oI p4, oI p5, oI p6, oI (Int32.ofNat nv), oI (Int32.ofNat (16 - nv)), oI y0, oI y1, oI tw, oD B0, oS, oD B1, oS, oD B2, oS, oR le, oR fi, oU, oU, oU, oU, oU, oU] [(.ref be), (.ref be)])
        refine own_go (fun _ k => XS.iconst Xz469.here hx rfl (hb hby at_159) k) ?_
        show own_Go _ _ _ _ Tz469 (mkF m 160 #[oI p1, oI p2, oI p3, oI p4, oI p5, oI p6, oI (Int32.ofNat nv), oI (Int32.ofNat (16 - nv)), oI y0, oI y1, oI tw, oD B0, oS, oD B1, oS, oD B2, oS, oR le, oR fi, oU, oU, oU, oU, oU, oU] [(.int 2), (.ref be), (.ref be)])
        refine own_go (fun _ k => XS.dload Xz469.here hx rfl (hb hby at_160) rfl k) ?_
        show own_Go _ _ _ _ Tz469 (mkF m 162 #[oI p1, oI p2, oI p3, oI p4, oI p5, oI p6, oI (Int32.ofNat nv), oI (Int32.ofNat (16 - nv)), oI y0, oI y1, oI tw, oD B0, oS, oD B1, oS, oD B2, oS, oR le, oR fi, oU, oU, oU, oU, oU, oU] [(.double B2), (.int 2), (.ref be), (.ref be)])
        obtain ⟨clz470, Arz470, qz470, Sz470, Mz470, HHz470, Gz470⟩ := V_be
        have hinz470 : ¬ ((2 : Int32) < 0 ∨ clz470.slots.size ≤ ((2 : Int32)).toNatClampNeg) := inb_of Sz470 ⟨(by decide), (by decide)⟩
        obtain ⟨Tz470, hz470, Xz470, ez470, Wz470, stz470⟩ := stD Xz469 hx hZ ez469 Arz470 (j := (2 : Int32)) hinz470 (g := (mkF m 162 #[oI p1, oI p2, oI p3, oI p4, oI p5, oI p6, oI (Int32.ofNat nv), oI (Int32.ofNat (16 - nv)), oI y0, oI y1, oI tw, oD B0, oS, oD B1, oS, oD B2, oS, oR le, oR fi, oU, oU, oU, oU, oU, oU] [(.double B2), (.int 2), (.ref be), (.ref be)])) rfl rfl (hb hby at_162)
        refine own_go stz470 ?_
        have V_be_ : Arv Z hz470 be kbe .double (3 : Int32) [(.double B0), (.double B1), (.double B2)] (.double 0) := Arv.set Arz470 qz470 Sz470 Mz470 HHz470 Gz470 rfl Wz470 2 rfl (Nat.le_of_ble_eq_true rfl)
        have Nz470 := Fr.snoc Xz470 Nz469 g_be
        have O := O.wr Wz470 g_be
        have V_ex := V_ex.other Wz470 (Nat.ne_of_lt lt_ex_be)
        have E_fi := E_fi.wr Wz470
        have F22 := F22.other Wz470 (own_o1 lt_fi_be)
        have F18 := F18.other Wz470 (own_o1 lt_fi_be)
        have F20 := F20.other Wz470 (own_o1 lt_fi_be)
        have F30 := F30.other Wz470 (own_o1 lt_fi_be)
        have F32 := F32.other Wz470 (own_o1 lt_fi_be)
        have F4 := F4.other Wz470 (own_o1 lt_le_be)
        have F28 := F28.other Wz470 (own_o1 lt_le_be)
        have V_pe := V_pe.other Wz470 (Nat.ne_of_lt lt_pe_be)
        have V_fl := V_fl.other Wz470 (Nat.ne_of_lt lt_fl_be)
        have V_be := V_be_
        show own_Go _ _ _ _ Tz470 (mkF m 163 #[oI p1, oI p2, oI p3, oI p4, oI p5, oI p6, oI (Int32.ofNat nv), oI (Int32.ofNat (16 - nv)), oI y0, oI y1, oI tw, oD B0, oS, oD B1, oS, oD B2, oS, oR le, oR fi, oU, oU, oU, oU, oU, oU] [(.ref be)])
        refine own_go (fun _ k => XS.astore Xz470.here hx rfl (hb hby at_163) rfl rfl (l' := #[oI p1, oI p2, oI p3, oI p4, oI p5, oI p6, oI (Int32.ofNat nv), oI (Int32.ofNat (16 - nv)), oI y0, oI y1, oI tw, oD B0, oS, oD B1, oS, oD B2, oS, oR le, oR fi, oR be, oU, oU, oU, oU, oU]) rfl k) ?_
        show own_Go _ _ _ _ Tz470 (mkF m 165 #[oI p1, oI p2, oI p3, oI p4, oI p5, oI p6, oI (Int32.ofNat nv), oI (Int32.ofNat (16 - nv)), oI y0, oI y1, oI tw, oD B0, oS, oD B1, oS, oD B2, oS, oR le, oR fi, oR be, oU, oU, oU, oU, oU] [])
        refine own_go (fun _ k => XS.aload Xz470.here hx rfl (hb hby at_165) rfl rfl k) ?_
        show own_Go _ _ _ _ Tz470 (mkF m 167 #[oI p1, oI p2, oI p3, oI p4, oI p5, oI p6, oI (Int32.ofNat nv), oI (Int32.ofNat (16 - nv)), oI y0, oI y1, oI tw, oD B0, oS, oD B1, oS, oD B2, oS, oR le, oR fi, oR be, oU, oU, oU, oU, oU] [(.ref fi)])
        refine own_go (fun _ k => XS.aload Xz470.here hx rfl (hb hby at_167) rfl rfl k) ?_
        show own_Go _ _ _ _ Tz470 (mkF m 169 #[oI p1, oI p2, oI p3, oI p4, oI p5, oI p6, oI (Int32.ofNat nv), oI (Int32.ofNat (16 - nv)), oI y0, oI y1, oI tw, oD B0, oS, oD B1, oS, oD B2, oS, oR le, oR fi, oR be, oU, oU, oU, oU, oU] [(.ref be), (.ref fi)])
        obtain ⟨vz471, Tz471, Lz471, Xz471, hQz471, stz471⟩ := own_callV Xz470 hx hZ hown (hw _ (List.mem_of_getElem? (i := 91) rfl)) (hw _ (List.mem_of_getElem? (i := 92) rfl)) (hw _ (List.mem_of_getElem? (i := 94) rfl)) (hw _ (List.mem_of_getElem? (i := 93) rfl)) (hw _ (List.mem_of_getElem? (i := 24) rfl)) (hw _ (List.mem_of_getElem? (i := 95) rfl)) (by decide) ez470 E_fi (own_rmtu l Z a0 hw [] fi be hz470 n0 le ex jo go pe li in_ ou fl el ev st se kex kjo kgo kpe kli kin_ kou kfl kel kev kst kse g_le lt_le_ex lt_ex_jo lt_jo_go lt_go_pe lt_pe_li lt_li_fi lt_fi_in_ lt_in__ou lt_ou_fl lt_fl_el lt_el_ev lt_ev_st lt_st_se kbe lt_se_be y0 y1 B0 B1 B2 (4625196817309499392 : UInt64) (FP.i2d p2) (FP.ddiv (FP.i2d p2) 4625196817309499392) V0 V1 (own_fx m_ nv) (own_fx m_ (16 - nv)) _ _ _ he0 he1 (by decide +kernel) rfl (by rw [hcm]; exact (own_fq ⟨m_, by omega⟩).noNaN) (by rw [hcm, h_V0]; exact own_f1 ⟨m_, by omega⟩ ⟨nv, by omega⟩) (by rw [hcm, h_V1]; exact own_f1 ⟨m_, by omega⟩ ⟨16 - nv, by omega⟩) (own_f5 ⟨m_, by omega⟩ ⟨nv, by omega⟩) (own_f5 ⟨m_, by omega⟩ ⟨16 - nv, by omega⟩) hB0 hB1 hB2 rfl rfl rfl F22 F18 F20 F30 F32 F4 F28 V_fl V_ex V_pe V_be) (W := 0) (by decide) (by decide) (by decide) (by decide) own_pd9 rfl (g := (mkF m 169 #[oI p1, oI p2, oI p3, oI p4, oI p5, oI p6, oI (Int32.ofNat nv), oI (Int32.ofNat (16 - nv)), oI y0, oI y1, oI tw, oD B0, oS, oD B1, oS, oD B2, oS, oR le, oR fi, oR be, oU, oU, oU, oU, oU] [(.ref be), (.ref fi)])) (argsL := [(.ref be)]) (rest := []) rfl (by rw [hml]; rfl) rfl (by show 2 * 0 + _ ≤ _; exact Nat.le_of_eq rfl) (hb hby at_169)
        obtain ⟨rfl, Nz471q, Kz471, c_z471⟩ := hQz471
        have Nz471 := Fr.app Nz470 Nz471q
        refine own_go stz471 ?_
        have O := O.keep Kz471 (allS g_be all0)
        have E_fi := E_fi.keep Kz471
        have V_be := c_z471
        show own_Go _ _ _ _ Tz471 (mkF m 172 #[oI p1, oI p2, oI p3, oI p4, oI p5, oI p6, oI (Int32.ofNat nv), oI (Int32.ofNat (16 - nv)), oI y0, oI y1, oI tw, oD B0, oS, oD B1, oS, oD B2, oS, oR le, oR fi, oR be, oU, oU, oU, oU, oU] [])
        exact k172 Tz471 Tz471.heap _ Xz471 rfl Nz471 be kbe _ _ _ V_be m_ (own_fx m_ nv) (own_fx m_ (16 - nv)) (by rw [if_pos hpos, (own_mm p2).2.2 hpos hbig]; exact hcm) (own_dd m_ nv) (own_dd m_ (16 - nv)) (own_f5 ⟨m_, by omega⟩ ⟨nv, by omega⟩) (own_f5 ⟨m_, by omega⟩ ⟨16 - nv, by omega⟩) (own_elS (0 : Int32) y0 y1 hB0 (own_f5 ⟨m_, by omega⟩ ⟨nv, by omega⟩) (own_f5 ⟨m_, by omega⟩ ⟨16 - nv, by omega⟩)) (own_elS (1 : Int32) y0 y1 hB1 (own_f5 ⟨m_, by omega⟩ ⟨nv, by omega⟩) (own_f5 ⟨m_, by omega⟩ ⟨16 - nv, by omega⟩)) (own_elS (2 : Int32) y0 y1 hB2 (own_f5 ⟨m_, by omega⟩ ⟨nv, by omega⟩) (own_f5 ⟨m_, by omega⟩ ⟨16 - nv, by omega⟩))
    · obtain ⟨vz472, Tz472, Lz472, Xz472, hQz472, stz472⟩ := own_callV Xz459 hx hZ hown (hw _ (List.mem_of_getElem? (i := 63) rfl)) (hw _ (List.mem_of_getElem? (i := 64) rfl)) (hw _ (List.mem_of_getElem? (i := 66) rfl)) (hw _ (List.mem_of_getElem? (i := 65) rfl)) (hw _ (List.mem_of_getElem? (i := 24) rfl)) (hw _ (List.mem_of_getElem? (i := 67) rfl)) (by decide) rfl E_fi (own_rmslA l Z a0 hw [] fi 0 (FP.i2d p2) Tz459.heap n0 le ex jo go pe li in_ ou fl el ev st se kex kjo kgo kpe kli kin_ kou kfl kel kev kst kse g_le lt_le_ex lt_ex_jo lt_jo_go lt_go_pe lt_pe_li lt_li_fi lt_fi_in_ lt_in__ou lt_ou_fl lt_fl_el lt_el_ev lt_ev_st lt_st_se (2 : Int32) (2 : Int32) (1 : Int32) (0 : Int32) (2 : Int32) (4625196817309499392 : UInt64) (4625196817309499392 : UInt64) (2 : Int32) rfl (own_c0 p2 hpos) E_fi F22 F0 F2 F38 F36 F18 F12 F26 F40 F16 F6 F34 F20 F10 F30 F32) (W := 0) (by decide) (by decide) (by decide) (by decide) own_pd8 rfl (g := (mkF m 141 #[oI p1, oI p2, oI p3, oI p4, oI p5, oI p6, oI (Int32.ofNat nv), oI (Int32.ofNat (16 - nv)), oI y0, oI y1, oI tw, oD B0, oS, oD B1, oS, oD B2, oS, oR le, oR fi, oU, oU, oU, oU, oU, oU] [(.double (FP.i2d p2)), (.int 0), (.ref fi)])) (argsL := [(.int 0), (.double (FP.i2d p2))]) (rest := []) rfl (by rw [hml]; rfl) rfl (by show 2 * 0 + _ ≤ _; exact Nat.le_of_eq rfl) (hb hby at_141)
      obtain ⟨rfl, Nz472q, Kz472, c0_z472, c1_z472, c2_z472, c3_z472, c4_z472, c5_z472, c6_z472, c7_z472, c8_z472, c9_z472, c10_z472, c11_z472, c12_z472, c13_z472, c14_z472, c15_z472, c16_z472⟩ := hQz472
      have Nz472 := Fr.app Nz459 Nz472q
      refine own_go stz472 ?_
      have O := O.keep Kz472 (allS g_fi all0)
      have E_le := E_le.keep Kz472
      have V_ex := V_ex.keep Kz472 (ninS (Nat.ne_of_lt lt_ex_fi) nin0)
      have F4 := F4.keep Kz472 (ninS (Nat.ne_of_lt lt_le_fi) nin0)
      have F14 := F14.keep Kz472 (ninS (Nat.ne_of_lt lt_le_fi) nin0)
      have F8 := F8.keep Kz472 (ninS (Nat.ne_of_lt lt_le_fi) nin0)
      have F28 := F28.keep Kz472 (ninS (Nat.ne_of_lt lt_le_fi) nin0)
      have F24 := F24.keep Kz472 (ninS (Nat.ne_of_lt lt_le_fi) nin0)
      have V_jo := V_jo.keep Kz472 (ninS (Nat.ne_of_lt lt_jo_fi) nin0)
      have V_go := V_go.keep Kz472 (ninS (Nat.ne_of_lt lt_go_fi) nin0)
      have V_pe := V_pe.keep Kz472 (ninS (Nat.ne_of_lt lt_pe_fi) nin0)
      have V_li := V_li.keep Kz472 (ninS (Nat.ne_of_lt lt_li_fi) nin0)
      have V_in_ := V_in_.keep Kz472 (ninS (Nat.ne_of_gt lt_fi_in_) nin0)
      have V_ou := V_ou.keep Kz472 (ninS (Nat.ne_of_gt lt_fi_ou) nin0)
      have V_fl := V_fl.keep Kz472 (ninS (Nat.ne_of_gt lt_fi_fl) nin0)
      have V_el := V_el.keep Kz472 (ninS (Nat.ne_of_gt lt_fi_el) nin0)
      have V_ev := V_ev.keep Kz472 (ninS (Nat.ne_of_gt lt_fi_ev) nin0)
      have V_st := V_st.keep Kz472 (ninS (Nat.ne_of_gt lt_fi_st) nin0)
      have V_se := V_se.keep Kz472 (ninS (Nat.ne_of_gt lt_fi_se) nin0)
      have E_fi := c0_z472
      have F22 := c1_z472
      have F0 := c2_z472
      have F2 := c3_z472
      have F38 := c4_z472
      have F36 := c5_z472
      have F18 := c6_z472
      have F12 := c7_z472
      have F26 := c8_z472
      have F40 := c9_z472
      have F16 := c10_z472
      have F6 := c11_z472
      have F34 := c12_z472
      have F20 := c13_z472
      have F10 := c14_z472
      have F30 := c15_z472
      have F32 := c16_z472
      show own_Go _ _ _ _ Tz472 (mkF m 144 #[oI p1, oI p2, oI p3, oI p4, oI p5, oI p6, oI (Int32.ofNat nv), oI (Int32.ofNat (16 - nv)), oI y0, oI y1, oI tw, oD B0, oS, oD B1, oS, oD B2, oS, oR le, oR fi, oU, oU, oU, oU, oU, oU] [(.double 0)])
      refine own_go (fun _ k => own_pop2D Xz472.here hx rfl (hb hby at_144) rfl k) ?_
      show own_Go _ _ _ _ Tz472 (mkF m 145 #[oI p1, oI p2, oI p3, oI p4, oI p5, oI p6, oI (Int32.ofNat nv), oI (Int32.ofNat (16 - nv)), oI y0, oI y1, oI tw, oD B0, oS, oD B1, oS, oD B2, oS, oR le, oR fi, oU, oU, oU, oU, oU, oU] [])
      refine own_go (fun _ k => XS.iconst Xz472.here hx rfl (hb hby at_145) k) ?_
      show own_Go _ _ _ _ Tz472 (mkF m 146 #[oI p1, oI p2, oI p3, oI p4, oI p5, oI p6, oI (Int32.ofNat nv), oI (Int32.ofNat (16 - nv)), oI y0, oI y1, oI tw, oD B0, oS, oD B1, oS, oD B2, oS, oR le, oR fi, oU, oU, oU, oU, oU, oU] [(.int 3)])
      obtain ⟨Tz473, hz473, kz473, Xz473, ez473, Ez473, Az473, stz473⟩ := newP Xz472 hx hZ (hw _ (List.mem_of_getElem? (i := 12) rfl)) rfl (g := (mkF m 146 #[oI p1, oI p2, oI p3, oI p4, oI p5, oI p6, oI (Int32.ofNat nv), oI (Int32.ofNat (16 - nv)), oI y0, oI y1, oI tw, oD B0, oS, oD B1, oS, oD B2, oS, oR le, oR fi, oU, oU, oU, oU, oU, oU] [(.int 3)])) rfl (hb hby at_146) rfl (by decide) (cap := 3) (by decide) (by decide) (by decide) (by decide)
      obtain ⟨be, gz473⟩ : ∃ z, z = Tz472.heap.size := ⟨_, rfl⟩
      rw [← gz473] at Az473 stz473
      have lt_fi_be : @LT.lt Nat _ fi be := Nat.lt_of_lt_of_le E_fi.lt (Nat.le_of_eq gz473.symm)
      have g_be : n0 ≤ be := by rw [gz473, ← O.1]; exact O.2.1
      have O := O.ext Ez473
      have E_fi := E_fi.ext Ez473
      have F30 := F30.ext Ez473
      refine own_go stz473 ?_
      have V_be : Arv Z hz473 be kz473 .double (3 : Int32) [(.double 0), (.double 0), (.double 0)] (.double 0) := (Arv.new Az473 (by decide)).pad (pad_rep [] (.double 0) 3)
      show own_Go _ _ _ _ Tz473 (mkF m 148 #[oI p1, oI p2, oI p3, oI p4, oI p5, oI p6, oI (Int32.ofNat nv), oI (Int32.ofNat (16 - nv)), oI y0, oI y1, oI tw, oD B0, oS, oD B1, oS, oD B2, oS, oR le, oR fi, oU, oU, oU, oU, oU, oU] [(.ref be)])
      obtain ⟨kbe, rfl⟩ : ∃ z, z = kz473 := ⟨_, rfl⟩
      refine own_go (fun _ k => XS.dup Xz473.here hx rfl (hb hby at_148) rfl rfl k) ?_
      show own_Go _ _ _ _ Tz473 (mkF m 149 #[oI p1, oI p2, oI p3, oI p4, oI p5, oI p6, oI (Int32.ofNat nv), oI (Int32.ofNat (16 - nv)), oI y0, oI y1, oI tw, oD B0, oS, oD B1, oS, oD B2, oS, oR le, oR fi, oU, oU, oU, oU, oU, oU] [(.ref be), (.ref be)])
      refine own_go (fun _ k => XS.iconst Xz473.here hx rfl (hb hby at_149) k) ?_
      show own_Go _ _ _ _ Tz473 (mkF m 150 #[oI p1, oI p2, oI p3, oI p4, oI p5, oI p6, oI (Int32.ofNat nv), oI (Int32.ofNat (16 - nv)), oI y0, oI y1, oI tw, oD B0, oS, oD B1, oS, oD B2, oS, oR le, oR fi, oU, oU, oU, oU, oU, oU] [(.int 0), (.ref be), (.ref be)])
      refine own_go (fun _ k => XS.dload Xz473.here hx rfl (hb hby at_150) rfl k) ?_
      show own_Go _ _ _ _ Tz473 (mkF m 152 #[oI p1, oI p2, oI p3, oI p4, oI p5, oI p6, oI (Int32.ofNat nv), oI (Int32.ofNat (16 - nv)), oI y0, oI y1, oI tw, oD B0, oS, oD B1, oS, oD B2, oS, oR le, oR fi, oU, oU, oU, oU, oU, oU] [(.double B0), (.int 0), (.ref be), (.ref be)])
      obtain ⟨clz474, Arz474, qz474, Sz474, Mz474, HHz474, Gz474⟩ := V_be
      have hinz474 : ¬ ((0 : Int32) < 0 ∨ clz474.slots.size ≤ ((0 : Int32)).toNatClampNeg) := inb_of Sz474 ⟨(by decide), (by decide)⟩
      obtain ⟨Tz474, hz474, Xz474, ez474, Wz474, stz474⟩ := stD Xz473 hx hZ ez473 Arz474 (j := (0 : Int32)) hinz474 (g := (mkF m 152 #[oI p1, oI p2, oI p3, oI p4, oI p5, oI p6, oI (Int32.ofNat nv), oI (Int32.ofNat (16 - nv)), oI y0, oI y1, oI tw, oD B0, oS, oD B1, oS, oD B2, oS, oR le, oR fi, oU, oU, oU, oU, oU, oU] [(.double B0), (.int 0), (.ref be), (.ref be)])) rfl rfl (hb hby at_152)
      refine own_go stz474 ?_
      have V_be_ : Arv Z hz474 be kbe .double (3 : Int32) [(.double B0), (.double 0), (.double 0)] (.double 0) := Arv.set Arz474 qz474 Sz474 Mz474 HHz474 Gz474 rfl Wz474 0 rfl (Nat.le_of_ble_eq_true rfl)
      have Nz474 := Fr.snoc Xz474 Nz472 g_be
      have O := O.wr Wz474 g_be
      have E_fi := E_fi.wr Wz474
      have F30 := F30.other Wz474 (own_o1 lt_fi_be)
      have V_be := V_be_
      show own_Go _ _ _ _ Tz474 (mkF m 153 #[oI p1, oI p2, oI p3, oI p4, oI p5, oI p6, oI (Int32.ofNat nv), oI (Int32.ofNat (16 - nv)), oI y0, oI y1, oI tw, oD B0, oS, oD B1, oS, oD B2, oS, oR le, oR fi, oU, oU, oU, oU, oU, oU] [(.ref be)])
      refine own_go (fun _ k => XS.dup Xz474.here hx rfl (hb hby at_153) rfl rfl k) ?_
      show own_Go _ _ _ _ Tz474 (mkF m 154 #[oI p1, oI p2, oI p3, oI p4, oI p5, oI p6, oI (Int32.ofNat nv), oI (Int32.ofNat (16 - nv)), oI y0, oI y1, oI tw, oD B0, oS, oD B1, oS, oD B2, oS, oR le, oR fi, oU, oU, oU, oU, oU, oU] [(.ref be), (.ref be)])
      refine own_go (fun _ k => XS.iconst Xz474.here hx rfl (hb hby at_154) k) ?_
      show own_Go _ _ _ _ Tz474 (mkF m 155 #[oI p1, oI p2, oI p3, oI p4, oI p5, oI p6, oI (Int32.ofNat nv), oI (Int32.ofNat (16 - nv)), oI y0, oI y1, oI tw, oD B0, oS, oD B1, oS, oD B2, oS, oR le, oR fi, oU, oU, oU, oU, oU, oU] [(.int 1), (.ref be), (.ref be)])
      refine own_go (fun _ k => XS.dload Xz474.here hx rfl (hb hby at_155) rfl k) ?_
      show own_Go _ _ _ _ Tz474 (mkF m 157 #[oI p1, oI p2, oI p3, oI p4, oI p5, oI p6, oI (Int32.ofNat nv), oI (Int32.ofNat (16 - nv)), oI y0, oI y1, oI tw, oD B0, oS, oD B1, oS, oD B2, oS, oR le, oR fi, oU, oU, oU, oU, oU, oU] [(.double B1), (.int 1), (.ref be), (.ref be)])
      obtain ⟨clz475, Arz475, qz475, Sz475, Mz475, HHz475, Gz475⟩ := V_be
      have hinz475 : ¬ ((1 : Int32) < 0 ∨ clz475.slots.size ≤ ((1 : Int32)).toNatClampNeg) := inb_of Sz475 ⟨(by decide), (by decide)⟩
      obtain ⟨Tz475, hz475, Xz475, ez475, Wz475, stz475⟩ := stD Xz474 hx hZ ez474 Arz475 (j := (1 : Int32)) hinz475 (g := (mkF m 157 #[oI p1, oI p2, oI p3, oI p4, oI p5, oI p6, oI (Int32.ofNat nv), oI (Int32.ofNat (16 - nv)), oI y0, oI y1, oI tw, oD B0, oS, oD B1, oS, oD B2, oS, oR le, oR fi, oU, oU, oU, oU, oU, oU] [(.double B1), (.int 1), (.ref be), (.ref be)])) rfl rfl (hb hby at_157)
      refine own_go stz475 ?_
      have V_be_ : Arv Z hz475 be kbe .double (3 : Int32) [(.double B0), (.double B1), (.double 0)] (.double 0) := Arv.set Arz475 qz475 Sz475 Mz475 HHz475 Gz475 rfl Wz475 1 rfl (Nat.le_of_ble_eq_true rfl)
      have Nz475 := Fr.snoc Xz475 Nz474 g_be
      have O := O.wr Wz475 g_be
      have E_fi := E_fi.wr Wz475
      have F30 := F30.other Wz475 (own_o1 lt_fi_be)
      have V_be := V_be_
      show own_Go _ _ _ _ Tz475 (mkF m 158 #[oI p1, oI p2, oI p3, oI p4, oI p5, oI p6, oI (Int32.ofNat nv), oI (Int32.ofNat (16 - nv)), oI y0, oI y1, oI tw, oD B0, oS, oD B1, oS, oD B2, oS, oR le, oR fi, oU, oU, oU, oU, oU, oU] [(.ref be)])
      refine own_go (fun _ k => XS.dup Xz475.here hx rfl (hb hby at_158) rfl rfl k) ?_
      show own_Go _ _ _ _ Tz475 (mkF m 159 #[oI p1, oI p2, oI p3, oI p4, oI p5, oI p6, oI (Int32.ofNat nv), oI (Int32.ofNat (16 - nv)), oI y0, oI y1, oI tw, oD B0, oS, oD B1, oS, oD B2, oS, oR le, oR fi, oU, oU, oU, oU, oU, oU] [(.ref be), (.ref be)])
      refine own_go (fun _ k => XS.iconst Xz475.here hx rfl (hb hby at_159) k) ?_
      show own_Go _ _ _ _ Tz475 (mkF m 160 #[oI p1, oI p2, oI p3, oI p4, oI p5, oI p6, oI (Int32.ofNat nv), oI (Int32.ofNat (16 - nv)), oI y0, oI y1, oI tw, oD B0, oS, oD B1, oS, oD B2, oS, oR le, oR fi, oU, oU, oU, oU, oU, oU] [(.int 2), (.ref be), (.ref be)])
      refine own_go (fun _ k => XS.dload Xz475.here hx rfl (hb hby at_160) rfl k) ?_
      show own_Go _ _ _ _ Tz475 (mkF m 162 #[oI p1, oI p2, oI p3, oI p4, oI p5, oI p6, oI (Int32.ofNat nv), oI (Int32.ofNat (16 - nv)), oI y0, oI y1, oI tw, oD B0, oS, oD B1, oS, oD B2, oS, oR le, oR fi, oU, oU, oU, oU, oU, oU] [(.double B2), (.int 2), (.ref be), (.ref be)])
      obtain ⟨clz476, Arz476, qz476, Sz476, Mz476, HHz476, Gz476⟩ := V_be
      have hinz476 : ¬ ((2 : Int32) < 0 ∨ clz476.slots.size ≤ ((2 : Int32)).toNatClampNeg) := inb_of Sz476 ⟨(by decide), (by decide)⟩
      obtain ⟨Tz476, hz476, Xz476, ez476, Wz476, stz476⟩ := stD Xz475 hx hZ ez475 Arz476 (j := (2 : Int32)) hinz476 (g := (mkF m 162 #[oI p1, oI p2, oI p3, oI p4, oI p5, oI p6, oI (Int32.ofNat nv), oI (Int32.ofNat (16 - nv)), oI y0, oI y1, oI tw, oD B0, oS, oD B1, oS, oD B2, oS, oR le, oR fi, oU, oU, oU, oU, oU, oU] [(.double B2), (.int 2), (.ref be), (.ref be)])) rfl rfl (hb hby at_162)
      refine own_go stz476 ?_
      have V_be_ : Arv Z hz476 be kbe .double (3 : Int32) [(.double B0), (.double B1), (.double B2)] (.double 0) := Arv.set Arz476 qz476 Sz476 Mz476 HHz476 Gz476 rfl Wz476 2 rfl (Nat.le_of_ble_eq_true rfl)
      have Nz476 := Fr.snoc Xz476 Nz475 g_be
      have O := O.wr Wz476 g_be
      have E_fi := E_fi.wr Wz476
      have F30 := F30.other Wz476 (own_o1 lt_fi_be)
      have V_be := V_be_
      show own_Go _ _ _ _ Tz476 (mkF m 163 #[oI p1, oI p2, oI p3, oI p4, oI p5, oI p6, oI (Int32.ofNat nv), oI (Int32.ofNat (16 - nv)), oI y0, oI y1, oI tw, oD B0, oS, oD B1, oS, oD B2, oS, oR le, oR fi, oU, oU, oU, oU, oU, oU] [(.ref be)])
      refine own_go (fun _ k => XS.astore Xz476.here hx rfl (hb hby at_163) rfl rfl (l' := #[oI p1, oI p2, oI p3, oI p4, oI p5, oI p6, oI (Int32.ofNat nv), oI (Int32.ofNat (16 - nv)), oI y0, oI y1, oI tw, oD B0, oS, oD B1, oS, oD B2, oS, oR le, oR fi, oR be, oU, oU, oU, oU, oU]) rfl k) ?_
      show own_Go _ _ _ _ Tz476 (mkF m 165 #[oI p1, oI p2, oI p3, oI p4, oI p5, oI p6, oI (Int32.ofNat nv), oI (Int32.ofNat (16 - nv)), oI y0, oI y1, oI tw, oD B0, oS, oD B1, oS, oD B2, oS, oR le, oR fi, oR be, oU, oU, oU, oU, oU] [])
      refine own_go (fun _ k => XS.aload Xz476.here hx rfl (hb hby at_165) rfl rfl k) ?_
      show own_Go _ _ _ _ Tz476 (mkF m 167 #[oI p1, oI p2, oI p3, oI p4, oI p5, oI p6, oI (Int32.ofNat nv), oI (Int32.ofNat (16 - nv)), oI y0, oI y1, oI tw, oD B0, oS, oD B1, oS, oD B2, oS, oR le, oR fi, oR be, oU, oU, oU, oU, oU] [(.ref fi)])
      refine own_go (fun _ k => XS.aload Xz476.here hx rfl (hb hby at_167) rfl rfl k) ?_
      show own_Go _ _ _ _ Tz476 (mkF m 169 #[oI p1, oI p2, oI p3, oI p4, oI p5, oI p6, oI (Int32.ofNat nv), oI (Int32.ofNat (16 - nv)), oI y0, oI y1, oI tw, oD B0, oS, oD B1, oS, oD B2, oS, oR le, oR fi, oR be, oU, oU, oU, oU, oU] [(.ref be), (.ref fi)])
      obtain ⟨vz477, Tz477, Lz477, Xz477, hQz477, stz477⟩ := own_callV Xz476 hx hZ hown (hw _ (List.mem_of_getElem? (i := 91) rfl)) (hw _ (List.mem_of_getElem? (i := 92) rfl)) (hw _ (List.mem_of_getElem? (i := 94) rfl)) (hw _ (List.mem_of_getElem? (i := 93) rfl)) (hw _ (List.mem_of_getElem? (i := 24) rfl)) (hw _ (List.mem_of_getElem? (i := 95) rfl)) (by decide) ez476 E_fi (own_rmtu0 l Z a0 hw [] fi be hz476 n0 F30) (W := 0) (by decide) (by decide) (by decide) (by decide) own_pd9 rfl (g := (mkF m 169 #[oI p1, oI p2, oI p3, oI p4, oI p5, oI p6, oI (Int32.ofNat nv), oI (Int32.ofNat (16 - nv)), oI y0, oI y1, oI tw, oD B0, oS, oD B1, oS, oD B2, oS, oR le, oR fi, oR be, oU, oU, oU, oU, oU] [(.ref be), (.ref fi)])) (argsL := [(.ref be)]) (rest := []) rfl (by rw [hml]; rfl) rfl (by show 2 * 0 + _ ≤ _; exact Nat.le_of_eq rfl) (hb hby at_169)
      obtain ⟨rfl, Nz477q, ehz477⟩ := hQz477
      have Nz477 := Fr.app Nz476 Nz477q
      refine own_go stz477 ?_
      show own_Go _ _ _ _ Tz477 (mkF m 172 #[oI p1, oI p2, oI p3, oI p4, oI p5, oI p6, oI (Int32.ofNat nv), oI (Int32.ofNat (16 - nv)), oI y0, oI y1, oI tw, oD B0, oS, oD B1, oS, oD B2, oS, oR le, oR fi, oR be, oU, oU, oU, oU, oU] [])
      exact k172 Tz477 hz476 _ Xz477 ehz477 Nz477 be kbe _ _ _ V_be 0 0 0 (by rw [if_neg hpos]; rfl) ((own_dd 0 nv).trans (own_f0 ⟨nv, by omega⟩)) ((own_dd 0 (16 - nv)).trans (own_f0 ⟨16 - nv, by omega⟩)) own_fn0 own_fn0 (by rw [h_B0, own_el0]; exact dcmpV_self (own_cN _) .l) (by rw [h_B1, own_el0]; exact dcmpV_self (own_cN _) .l) (by rw [h_B2, own_el0]; exact dcmpV_self (own_cN _) .l)
set_option maxRecDepth 65536 in
set_option maxHeartbeats 40000000 in
theorem own_comes {Post : Tables → Env → Array Value → State → Outcome → State → Prop} (hpost : ∀ tb e args s v u, (limb_1_1.after args s (.returned v) u = true ∧ limb_1_2.after args s (.returned v) u = true ∧ True) → FrameEnd s (.returned v) u (Jvm.fieldLocs frame_1_writes args s ++ Jvm.arrayLocs frame_1_arrays args s ++ Jvm.staticLocs frame_1_statics s) 40 320 → Post tb e args s (.returned v) u) :
    ArmFor flags0 classFile x code maxLocals ret World_1 tables_1 room_1 Calls_1 rest_1 Pre_1 Post := by
  intro l hfl _ _ p e ha hc hk s m args below hf hA hF happ hP
  obtain ⟨hcalls, hrest, hpre⟩ := hP
  obtain ⟨-, -, -, hnamed, -, -, -, hat⟩ := (Spec.applies_iff hf).mp happ
  obtain ⟨hg, hn⟩ := and_e (Cond.before_iff.mp (show (Jvm.Cond.and given_1 narrow_1).before args s = true from hpre))
  obtain ⟨g1, g2⟩ := and_e hg
  obtain ⟨g3, g4⟩ := and_e g2
  obtain ⟨g5, g6⟩ := and_e g4
  obtain ⟨g7, g8⟩ := and_e g6
  obtain ⟨g9, g10⟩ := and_e g8
  obtain ⟨g11, g12⟩ := and_e g10
  obtain ⟨w0, w1, w2, w3, w4, w5, rfl⟩ : ∃ w0 w1 w2 w3 w4 w5 : Value, args = #[w0, w1, w2, w3, w4, w5] := by
    have hs : args.size = 6 := by simpa [Cond.value, given_1] using g1
    obtain ⟨L⟩ := args
    match L, hs with
    | [w0, w1, w2, w3, w4, w5], _ => exact ⟨w0, w1, w2, w3, w4, w5, rfl⟩
  have hw := fun d (hd : d ∈ tables_1) => atoms_spec (ws := Jvm.Cond.code x code maxLocals ret :: tables_1) hat d (List.mem_cons_of_mem _ hd)
  have hfit : Fit s := fun {y c} hc i hi => by
    obtain ⟨ha, rfl⟩ := Array.getElem?_eq_some_iff.mp hc
    have q := List.all_eq_true.mp ((Array.all_eq_true_iff_forall_mem.mp hF) _ (Array.getElem_mem ha)) i (List.mem_range.mpr hi)
    simpa [Array.getElem?_eq_getElem hi] using q
  obtain ⟨i0, ei0⟩ := is_v g3
  obtain rfl : w0 = (.int i0) := Option.some.inj ei0
  obtain ⟨i1, ei1⟩ := is_v g5
  obtain rfl : w1 = (.int i1) := Option.some.inj ei1
  obtain ⟨i2, ei2⟩ := is_v g7
  obtain rfl : w2 = (.int i2) := Option.some.inj ei2
  obtain ⟨i3, ei3⟩ := is_v g9
  obtain rfl : w3 = (.int i3) := Option.some.inj ei3
  obtain ⟨i4, ei4⟩ := is_v g11
  obtain rfl : w4 = (.int i4) := Option.some.inj ei4
  obtain ⟨i5, ei5⟩ := is_v g12
  obtain rfl : w5 = (.int i5) := Option.some.inj ei5
  obtain ⟨n, o, h1, h2, h3, _, L, rfl, ⟨rfl, N⟩, hq⟩ := own_rm0 l s _ hw tables_1 i0 i1 i2 i3 i4 i5 s.heap s.heap.size (Old.start s) p e ha hc hk s m _ below hf ((Spec.applies_iff_loose hf).mp happ).1 ⟨rfl, State.Warmed39.refl s, rfl⟩ trivial
  refine ⟨n, _, h1, h2, h3, hpost _ _ _ _ _ _ ⟨Cond.after_iff.mpr rfl, Cond.after_iff.mpr (eq_i res_at (Term.int_eval (1)) rfl), trivial⟩ ⟨hq.1, hq.2.1, (hq.2.2.sift fun y hy => Or.inr (N y hy)).mono (by decide) (by decide)⟩⟩
theorem main_1_1 : Claimed_1_1 := own_comes fun _ _ _ _ _ _ h hF => ⟨h.1, hF⟩
theorem main_1_2 : Claimed_1_2 := own_comes fun _ _ _ _ _ _ h hF => ⟨h.2.1, hF⟩
end Jvm.Pilot.@@N@@
namespace Jvm.Pilot.@@N@@
open Jvm Jvm.ClassFile Sem Op Lib Jvm.Free Jvm.Stand Jvm.Pilot.@@N@@.Jvm.D
/-! MADE BY PROGRAM (witnessworld.py) out of the Statement's table words and the real class files: 13 classes; the members and pool entries that the words name. The judged class is class 1, her method 1. -/
namespace start1
open Jvm.ClassFile
def u (s : String) : CpInfo := .utf8 (stringToUtf16 s)
/-- a pool by its gaps: so many unusable entries, then the entry; so many at the end -/
def gap : Nat → List CpInfo → List CpInfo
  | 0, r => r
  | n + 1, r => .unusable :: gap n r
def poolList (es : List (Nat × CpInfo)) (last : Nat) : List CpInfo := es.foldr (fun e r => gap e.1 (e.2 :: r)) (gap last [])
def pool (es : List (Nat × CpInfo)) (last : Nat) : Array CpInfo := ⟨poolList es last⟩
def fileOf (pool : Array CpInfo) (this : Nat) (attrs : Array Attribute := #[]) (ms : Array MethodInfo := #[]) (fl : Nat := 33) (sup : Nat := 0) (ifs : Array Nat := #[]) (fds : Array FieldInfo := #[]) : ClassFile where
  minorVersion := 0
  majorVersion := 65
  constantPool := pool
  accessFlags := fl
  thisClass := this
  superClass := sup
  interfaces := ifs
  fields := fds
  methods := ms
  attributes := attrs
def plain (name : String) (sup : Option ClassId) : Class where
  name := name
  kind := .ordinary
  loader := none
  accessFlags := 33
  super := sup
  interfaces := #[]
  cf := none
  fields := #[]
  methods := #[]
  instanceTypes := #[]
  staticTypes := #[]
  resolved := #[]
  callSites := []
  init := .initialized
  statics := none
  mirror := none

def pool0 : Array CpInfo := pool [(5, u "<init>"), (0, u "()V"), (1, .class_ 10), (1, u "java/lang/Object")] 113

def k0c0 : Code := { maxStack := 0, maxLocals := 1, code := object_method_1_code, exceptionTable := #[], attributes := #[] }
def k0m0 : Method := { name := "<init>", desc := "()V", sig := { parameters := [], returnType := none }, accessFlags := 1, code := some k0c0 }
/-- java/lang/Object -/
def k0 : Class := { plain "java/lang/Object" none with
  accessFlags := 33
  interfaces := #[]
  cf := some (fileOf pool0 8 #[] #[{ accessFlags := 1, nameIndex := 5, descriptorIndex := 6, attributes := #[] }] 33 0 #[] #[])
  fields := #[]
  methods := #[k0m0]
  instanceTypes := #[]
  staticTypes := #[]
  resolved := Array.replicate 124 none
  statics := none }

def pool1 : Array CpInfo := pool [(2, .class_ 4), (1, u "java/lang/Object"), (0, u "<init>"), (0, u "()V"), (0, .class_ 8), (0, u "com/example/spillback/spillback/Fifo$Legs"), (0, .methodref 7 10), (0, .nameAndType 5 11), (0, u "([I)V"), (0, .class_ 13), (0, u "com/example/spillback/spillback/Fifo"), (0, .methodref 12 15), (0, .nameAndType 5 16), (0, u "(Lcom/example/spillback/spillback/Fifo$Legs;[D[D)V"), (0, .methodref 12 18), (0, .nameAndType 19 20), (0, u "join"), (0, u "(ID)V"), (0, .methodref 12 22), (0, .nameAndType 23 24), (0, u "close"), (0, u "(I)V"), (0, .double 4625196817309499392), (1, .methodref 12 28), (0, .nameAndType 29 30), (0, u "slice"), (0, u "(ID)D"), (0, .methodref 12 32), (0, .nameAndType 33 34), (0, u "turns"), (0, u "([D)V"), (0, .methodref 36 37), (0, .class_ 38), (0, .nameAndType 39 40), (0, u "java/lang/Math"), (0, u "min"), (0, u "(II)I"), (0, .methodref 42 43), (0, .class_ 44), (0, .nameAndType 45 46), (0, u "com/example/spillback/spillback/FifoTurnsPinLaw"), (0, u "expected"), (0, u "(IDIDID)D"), (4, u "law"), (0, u "(IIIIII)Z")] 7

def k1m0 : Method := { name := "<init>", desc := "()V", sig := { parameters := [], returnType := none }, accessFlags := 1, code := none }
def k1c1 : Code := { maxStack := 11, maxLocals := 25, code := code, exceptionTable := #[], attributes := #[] }
def k1m1 : Method := { name := "law", desc := "(IIIIII)Z", sig := { parameters := [.int, .int, .int, .int, .int, .int], returnType := some .boolean }, accessFlags := 9, code := some k1c1 }
def k1c2 : Code := { maxStack := 4, maxLocals := 11, code := method_3_code, exceptionTable := #[], attributes := #[] }
def k1m2 : Method := { name := "expected", desc := "(IDIDID)D", sig := { parameters := [.int, .double, .int, .double, .int, .double], returnType := some .double }, accessFlags := 10, code := some k1c2 }
/-- com/example/spillback/spillback/FifoTurnsPinLaw -/
def k1 : Class := { plain "com/example/spillback/spillback/FifoTurnsPinLaw" (some 0) with
  accessFlags := 49
  interfaces := #[]
  cf := some (fileOf pool1 42 #[] #[{ accessFlags := 1, nameIndex := 5, descriptorIndex := 6, attributes := #[] }, { accessFlags := 9, nameIndex := 51, descriptorIndex := 52, attributes := #[] }, { accessFlags := 10, nameIndex := 45, descriptorIndex := 46, attributes := #[] }] 49 2 #[] #[])
  fields := #[]
  methods := #[k1m0, k1m1, k1m2]
  instanceTypes := #[]
  staticTypes := #[]
  resolved := Array.replicate 60 none
  statics := none }

def pool2 : Array CpInfo := pool [(1, .methodref 2 3), (0, .class_ 4), (0, .nameAndType 5 6), (0, u "java/lang/Object"), (0, u "<init>"), (0, u "()V"), (0, .fieldref 8 9), (0, .class_ 10), (0, .nameAndType 11 12), (0, u "com/example/spillback/spillback/Fifo$Legs"), (0, u "exits"), (0, u "[I"), (0, .fieldref 8 14), (0, .nameAndType 15 16), (0, u "joined"), (0, u "[D"), (0, .fieldref 8 18), (0, .nameAndType 19 16), (0, u "gone"), (0, .fieldref 8 21), (0, .nameAndType 22 16), (0, u "pending"), (0, .fieldref 8 24), (0, .nameAndType 25 26), (0, u "listed"), (0, u "[Z"), (0, u "([I)V"), (5, .class_ 34), (0, u "com/example/spillback/spillback/Fifo")] 2

def k2c0 : Code := { maxStack := 2, maxLocals := 2, code := prog_13_method_1_code, exceptionTable := #[], attributes := #[] }
def k2m0 : Method := { name := "<init>", desc := "([I)V", sig := { parameters := [(.array .int)], returnType := none }, accessFlags := 0, code := some k2c0 }
/-- com/example/spillback/spillback/Fifo$Legs -/
def k2 : Class := { plain "com/example/spillback/spillback/Fifo$Legs" (some 0) with
  accessFlags := 48
  interfaces := #[]
  cf := some (fileOf pool2 8 #[.nestHost 33] #[{ accessFlags := 0, nameIndex := 5, descriptorIndex := 27, attributes := #[] }] 48 2 #[] #[{ accessFlags := 18, nameIndex := 11, descriptorIndex := 12, attributes := #[] }, { accessFlags := 18, nameIndex := 15, descriptorIndex := 16, attributes := #[] }, { accessFlags := 18, nameIndex := 19, descriptorIndex := 16, attributes := #[] }, { accessFlags := 18, nameIndex := 22, descriptorIndex := 16, attributes := #[] }, { accessFlags := 18, nameIndex := 25, descriptorIndex := 26, attributes := #[] }])
  fields := #[{ name := "exits", type := (.array .int), accessFlags := 18, slot := 0, constantValue := 0 }, { name := "joined", type := (.array .double), accessFlags := 18, slot := 1, constantValue := 0 }, { name := "gone", type := (.array .double), accessFlags := 18, slot := 2, constantValue := 0 }, { name := "pending", type := (.array .double), accessFlags := 18, slot := 3, constantValue := 0 }, { name := "listed", type := (.array .boolean), accessFlags := 18, slot := 4, constantValue := 0 }]
  methods := #[k2m0]
  instanceTypes := #[(.array .int), (.array .double), (.array .double), (.array .double), (.array .boolean)]
  staticTypes := #[]
  resolved := Array.replicate 37 none
  statics := none }

def pool3 : Array CpInfo := pool [(1, .methodref 2 3), (0, .class_ 4), (0, .nameAndType 5 6), (0, u "java/lang/Object"), (0, u "<init>"), (0, u "()V"), (0, .fieldref 8 9), (0, .class_ 10), (0, .nameAndType 11 12), (0, u "com/example/spillback/spillback/Fifo"), (0, u "listed"), (0, u "[I"), (0, .fieldref 8 14), (0, .nameAndType 15 12), (0, u "entryLegs"), (0, .fieldref 8 17), (0, .nameAndType 18 19), (0, u "entryVehicles"), (0, u "[D"), (0, .fieldref 8 21), (0, .nameAndType 22 12), (0, u "steps"), (0, .fieldref 8 24), (0, .nameAndType 25 12), (0, u "stepEnds"), (0, .fieldref 8 27), (0, .nameAndType 28 29), (0, u "legs"), (0, u "Lcom/example/spillback/spillback/Fifo$Legs;"), (0, .fieldref 8 31), (0, .nameAndType 32 19), (0, u "in"), (0, .fieldref 8 34), (0, .nameAndType 35 19), (0, u "out"), (0, .fieldref 8 37), (0, .nameAndType 38 39), (0, u "tail"), (0, u "I"), (3, .fieldref 8 44), (0, .nameAndType 45 39), (0, u "joiningStart"), (0, .fieldref 8 47), (0, .nameAndType 48 39), (0, u "firstStep"), (0, .fieldref 8 50), (0, .nameAndType 51 39), (0, u "stepCount"), (3, .fieldref 8 56), (0, .nameAndType 57 58), (0, u "sliceTotal"), (0, u "D"), (0, .fieldref 8 60), (0, .nameAndType 61 58), (0, u "sliceVehicles"), (0, .fieldref 8 63), (0, .nameAndType 64 39), (0, u "head"), (0, .fieldref 66 67), (0, .class_ 68), (0, .nameAndType 69 19), (0, u "com/example/spillback/spillback/Fifo$Legs"), (0, u "joined"), (0, .methodref 8 71), (0, .nameAndType 72 73), (0, u "list"), (0, u "(I)Z"), (0, .fieldref 8 75), (0, .nameAndType 76 39), (0, u "listedCount"), (0, .fieldref 66 78), (0, .nameAndType 79 19), (0, u "pending"), (0, .fieldref 66 81), (0, .nameAndType 82 19), (0, u "gone"), (0, .methodref 84 85), (0, .class_ 86), (0, .nameAndType 87 88), (0, u "java/lang/Math"), (0, u "max"), (0, u "(DD)D"), (0, .methodref 84 90), (0, .nameAndType 91 88), (0, u "min"), (0, .fieldref 66 93), (0, .nameAndType 94 12), (0, u "exits"), (3, .class_ 100), (1, u "com/example/spillback/spillback/Fifo$Onward"), (1, u "(ID)V"), (2, .fieldref 66 106), (0, .nameAndType 11 107), (0, u "[Z"), (15, u "SETTLED"), (1, u "(Lcom/example/spillback/spillback/Fifo$Legs;[D[D)V"), (2, u "join"), (1, u "close"), (0, u "(I)V"), (0, u "slice"), (0, u "(ID)D"), (0, u "turns"), (0, u "([D)V")] 8

def k3c0 : Code := { maxStack := 2, maxLocals := 4, code := prog_12_method_1_code, exceptionTable := #[], attributes := #[] }
def k3m0 : Method := { name := "<init>", desc := "(Lcom/example/spillback/spillback/Fifo$Legs;[D[D)V", sig := { parameters := [(.object "com/example/spillback/spillback/Fifo$Legs"), (.array .double), (.array .double)], returnType := none }, accessFlags := 0, code := some k3c0 }
def k3c1 : Code := { maxStack := 4, maxLocals := 4, code := prog_12_method_2_code, exceptionTable := #[], attributes := #[] }
def k3m1 : Method := { name := "join", desc := "(ID)V", sig := { parameters := [.int, .double], returnType := none }, accessFlags := 0, code := some k3c1 }
def k3c2 : Code := { maxStack := 6, maxLocals := 5, code := prog_12_method_3_code, exceptionTable := #[], attributes := #[] }
def k3m2 : Method := { name := "close", desc := "(I)V", sig := { parameters := [.int], returnType := none }, accessFlags := 0, code := some k3c2 }
def k3c3 : Code := { maxStack := 8, maxLocals := 14, code := prog_12_method_4_code, exceptionTable := #[], attributes := #[] }
def k3m3 : Method := { name := "slice", desc := "(ID)D", sig := { parameters := [.int, .double], returnType := some .double }, accessFlags := 0, code := some k3c3 }
def k3c4 : Code := { maxStack := 8, maxLocals := 7, code := prog_12_method_5_code, exceptionTable := #[], attributes := #[] }
def k3m4 : Method := { name := "turns", desc := "([D)V", sig := { parameters := [(.array .double)], returnType := none }, accessFlags := 0, code := some k3c4 }
def k3c5 : Code := { maxStack := 5, maxLocals := 2, code := prog_12_method_7_code, exceptionTable := #[], attributes := #[] }
def k3m5 : Method := { name := "list", desc := "(I)Z", sig := { parameters := [.int], returnType := some .boolean }, accessFlags := 2, code := some k3c5 }
/-- com/example/spillback/spillback/Fifo -/
def k3 : Class := { plain "com/example/spillback/spillback/Fifo" (some 0) with
  accessFlags := 48
  interfaces := #[]
  cf := some (fileOf pool3 8 #[.nestMembers #[66, 98]] #[{ accessFlags := 0, nameIndex := 5, descriptorIndex := 125, attributes := #[] }, { accessFlags := 0, nameIndex := 128, descriptorIndex := 102, attributes := #[] }, { accessFlags := 0, nameIndex := 130, descriptorIndex := 131, attributes := #[] }, { accessFlags := 0, nameIndex := 132, descriptorIndex := 133, attributes := #[] }, { accessFlags := 0, nameIndex := 134, descriptorIndex := 135, attributes := #[] }, { accessFlags := 2, nameIndex := 72, descriptorIndex := 73, attributes := #[] }] 48 2 #[] #[{ accessFlags := 26, nameIndex := 123, descriptorIndex := 58, attributes := #[] }, { accessFlags := 18, nameIndex := 28, descriptorIndex := 29, attributes := #[] }, { accessFlags := 18, nameIndex := 32, descriptorIndex := 19, attributes := #[] }, { accessFlags := 18, nameIndex := 35, descriptorIndex := 19, attributes := #[] }, { accessFlags := 2, nameIndex := 11, descriptorIndex := 12, attributes := #[] }, { accessFlags := 2, nameIndex := 76, descriptorIndex := 39, attributes := #[] }, { accessFlags := 2, nameIndex := 15, descriptorIndex := 12, attributes := #[] }, { accessFlags := 2, nameIndex := 18, descriptorIndex := 19, attributes := #[] }, { accessFlags := 2, nameIndex := 64, descriptorIndex := 39, attributes := #[] }, { accessFlags := 2, nameIndex := 38, descriptorIndex := 39, attributes := #[] }, { accessFlags := 2, nameIndex := 22, descriptorIndex := 12, attributes := #[] }, { accessFlags := 2, nameIndex := 25, descriptorIndex := 12, attributes := #[] }, { accessFlags := 2, nameIndex := 48, descriptorIndex := 39, attributes := #[] }, { accessFlags := 2, nameIndex := 51, descriptorIndex := 39, attributes := #[] }, { accessFlags := 2, nameIndex := 45, descriptorIndex := 39, attributes := #[] }, { accessFlags := 2, nameIndex := 57, descriptorIndex := 58, attributes := #[] }, { accessFlags := 2, nameIndex := 61, descriptorIndex := 58, attributes := #[] }])
  fields := #[{ name := "SETTLED", type := .double, accessFlags := 26, slot := 0, constantValue := 0 }, { name := "legs", type := (.object "com/example/spillback/spillback/Fifo$Legs"), accessFlags := 18, slot := 0, constantValue := 0 }, { name := "in", type := (.array .double), accessFlags := 18, slot := 1, constantValue := 0 }, { name := "out", type := (.array .double), accessFlags := 18, slot := 2, constantValue := 0 }, { name := "listed", type := (.array .int), accessFlags := 2, slot := 3, constantValue := 0 }, { name := "listedCount", type := .int, accessFlags := 2, slot := 4, constantValue := 0 }, { name := "entryLegs", type := (.array .int), accessFlags := 2, slot := 5, constantValue := 0 }, { name := "entryVehicles", type := (.array .double), accessFlags := 2, slot := 6, constantValue := 0 }, { name := "head", type := .int, accessFlags := 2, slot := 7, constantValue := 0 }, { name := "tail", type := .int, accessFlags := 2, slot := 8, constantValue := 0 }, { name := "steps", type := (.array .int), accessFlags := 2, slot := 9, constantValue := 0 }, { name := "stepEnds", type := (.array .int), accessFlags := 2, slot := 10, constantValue := 0 }, { name := "firstStep", type := .int, accessFlags := 2, slot := 11, constantValue := 0 }, { name := "stepCount", type := .int, accessFlags := 2, slot := 12, constantValue := 0 }, { name := "joiningStart", type := .int, accessFlags := 2, slot := 13, constantValue := 0 }, { name := "sliceTotal", type := .double, accessFlags := 2, slot := 14, constantValue := 0 }, { name := "sliceVehicles", type := .double, accessFlags := 2, slot := 15, constantValue := 0 }]
  methods := #[k3m0, k3m1, k3m2, k3m3, k3m4, k3m5]
  instanceTypes := #[(.object "com/example/spillback/spillback/Fifo$Legs"), (.array .double), (.array .double), (.array .int), .int, (.array .int), (.array .double), .int, .int, (.array .int), (.array .int), .int, .int, .int, .double, .double]
  staticTypes := #[.double]
  resolved := (((((Array.replicate 144 none).set! 105 (some (.field 2 4))).set! 77 (some (.field 2 3))).set! 65 (some (.field 2 1))).set! 80 (some (.field 2 2))).set! 92 (some (.field 2 0))
  statics := none }

def pool4 : Array CpInfo := pool [(1, .class_ 2), (0, u "java/lang/Math"), (1, .class_ 6), (1, u "java/lang/Object"), (0, u "<init>"), (0, u "()V"), (43, u "(DD)D"), (45, .class_ 100), (1, u "java/lang/Math$RandomNumberGeneratorHolder"), (71, u "negativeZeroFloatBits"), (0, u "J"), (2, u "negativeZeroDoubleBits"), (21, u "max"), (2, u "min"), (43, u "$assertionsDisabled"), (0, u "Z"), (88, u "(II)I"), (2, u "twoToTheDoubleScaleDown"), (0, u "D"), (4, u "twoToTheDoubleScaleUp"), (9, u "E"), (3, u "PI"), (2, u "TAU"), (2, u "DEGREES_TO_RADIANS"), (0, u "RADIANS_TO_DEGREES")] 94

def k4m0 : Method := { name := "<init>", desc := "()V", sig := { parameters := [], returnType := none }, accessFlags := 2, code := none }
def k4c1 : Code := { maxStack := 4, maxLocals := 4, code := jdk_29_method_68_code, exceptionTable := #[], attributes := #[] }
def k4m1 : Method := { name := "max", desc := "(DD)D", sig := { parameters := [.double, .double], returnType := some .double }, accessFlags := 9, code := some k4c1 }
def k4c2 : Code := { maxStack := 2, maxLocals := 2, code := jdk_29_method_69_code, exceptionTable := #[], attributes := #[] }
def k4m2 : Method := { name := "min", desc := "(II)I", sig := { parameters := [.int, .int], returnType := some .int }, accessFlags := 9, code := some k4c2 }
def k4c3 : Code := { maxStack := 4, maxLocals := 4, code := jdk_29_method_72_code, exceptionTable := #[], attributes := #[] }
def k4m3 : Method := { name := "min", desc := "(DD)D", sig := { parameters := [.double, .double], returnType := some .double }, accessFlags := 9, code := some k4c3 }
/-- java/lang/Math -/
def k4 : Class := { plain "java/lang/Math" (some 0) with
  accessFlags := 49
  interfaces := #[]
  cf := some (fileOf pool4 1 #[.nestMembers #[98]] #[{ accessFlags := 2, nameIndex := 7, descriptorIndex := 8, attributes := #[] }, { accessFlags := 9, nameIndex := 198, descriptorIndex := 52, attributes := #[] }, { accessFlags := 9, nameIndex := 201, descriptorIndex := 335, attributes := #[] }, { accessFlags := 9, nameIndex := 201, descriptorIndex := 52, attributes := #[] }] 49 4 #[] #[{ accessFlags := 25, nameIndex := 354, descriptorIndex := 339, attributes := #[] }, { accessFlags := 25, nameIndex := 358, descriptorIndex := 339, attributes := #[] }, { accessFlags := 25, nameIndex := 361, descriptorIndex := 339, attributes := #[] }, { accessFlags := 26, nameIndex := 364, descriptorIndex := 339, attributes := #[] }, { accessFlags := 26, nameIndex := 365, descriptorIndex := 339, attributes := #[] }, { accessFlags := 26, nameIndex := 172, descriptorIndex := 173, attributes := #[] }, { accessFlags := 26, nameIndex := 176, descriptorIndex := 173, attributes := #[] }, { accessFlags := 8, nameIndex := 344, descriptorIndex := 339, attributes := #[] }, { accessFlags := 8, nameIndex := 338, descriptorIndex := 339, attributes := #[] }, { accessFlags := 4120, nameIndex := 245, descriptorIndex := 246, attributes := #[] }])
  fields := #[{ name := "E", type := .double, accessFlags := 25, slot := 0, constantValue := 0 }, { name := "PI", type := .double, accessFlags := 25, slot := 1, constantValue := 0 }, { name := "TAU", type := .double, accessFlags := 25, slot := 2, constantValue := 0 }, { name := "DEGREES_TO_RADIANS", type := .double, accessFlags := 26, slot := 3, constantValue := 0 }, { name := "RADIANS_TO_DEGREES", type := .double, accessFlags := 26, slot := 4, constantValue := 0 }, { name := "negativeZeroFloatBits", type := .long, accessFlags := 26, slot := 5, constantValue := 0 }, { name := "negativeZeroDoubleBits", type := .long, accessFlags := 26, slot := 6, constantValue := 0 }, { name := "twoToTheDoubleScaleUp", type := .double, accessFlags := 8, slot := 7, constantValue := 0 }, { name := "twoToTheDoubleScaleDown", type := .double, accessFlags := 8, slot := 8, constantValue := 0 }, { name := "$assertionsDisabled", type := .boolean, accessFlags := 4120, slot := 9, constantValue := 0 }]
  methods := #[k4m0, k4m1, k4m2, k4m3]
  instanceTypes := #[]
  staticTypes := #[.double, .double, .double, .double, .double, .long, .long, .double, .double, .boolean]
  resolved := Array.replicate 460 none
  statics := none }

def pool5 : Array CpInfo := pool [(1, u "java/lang/Cloneable"), (0, .class_ 1), (0, u "java/lang/Object"), (0, .class_ 3)] 3

/-- java/lang/Cloneable -/
def k5 : Class := { plain "java/lang/Cloneable" (some 0) with
  accessFlags := 1537
  interfaces := #[]
  cf := some (fileOf pool5 2 #[] #[] 1537 4 #[] #[])
  fields := #[]
  methods := #[]
  instanceTypes := #[]
  staticTypes := #[]
  resolved := Array.replicate 8 none
  statics := none }

def pool6 : Array CpInfo := pool [(1, u "java/io/Serializable"), (0, .class_ 1), (0, u "java/lang/Object"), (0, .class_ 3)] 3

/-- java/io/Serializable -/
def k6 : Class := { plain "java/io/Serializable" (some 0) with
  accessFlags := 1537
  interfaces := #[]
  cf := some (fileOf pool6 2 #[] #[] 1537 4 #[] #[])
  fields := #[]
  methods := #[]
  instanceTypes := #[]
  staticTypes := #[]
  resolved := Array.replicate 8 none
  statics := none }

/-- the primitive boolean -/
def k7 : Class := { plain "boolean" none with kind := .primitive 'Z', accessFlags := 0x411 }
/-- [Z -/
def k8 : Class := { plain "[Z" (some 0) with kind := .array 7 .boolean, interfaces := #[5, 6], accessFlags := 1041 }

/-- the primitive byte -/
def k9 : Class := { plain "byte" none with kind := .primitive 'B', accessFlags := 0x411 }
/-- [B -/
def k10 : Class := { plain "[B" (some 0) with kind := .array 9 .byte, interfaces := #[5, 6], accessFlags := 1041 }

/-- the primitive int -/
def k11 : Class := { plain "int" none with kind := .primitive 'I', accessFlags := 0x411 }
/-- [I -/
def k12 : Class := { plain "[I" (some 0) with kind := .array 11 .int, interfaces := #[5, 6], accessFlags := 1041 }

def k13 : Class := { plain "double" none with kind := .primitive 'D', accessFlags := 0x411 }
def k14 : Class := { plain "[D" (some 0) with kind := .array 13 .double, interfaces := #[5, 6], accessFlags := 1041 }
def heap : Heap := #[]
def classes : Array Class := #[k0, k1, k2, k3, k4, k5, k6, k7, k8, k9, k10, k11, k12, k13, k14]
def interned : List (Array UInt16 × Addr) := []
def slotsUsed : Nat := 0
def theMethod : MethodId := ⟨1, 1⟩
def args0 : Array Value := #[.int 5, .int 3, .int 7, .int 2, .int 4, .int 6]
def aboutOver (below : List Frame) : State where
  vm := { classes := classes, interned := interned.toArray }
  heap := heap
  slotsUsed := slotsUsed
  threads := #[{ frames := .invoking theMethod args0 :: below }]
def below0 : List Frame := [.native { method := ⟨0, 0⟩, args := #[] }]
def about1 : State := aboutOver below0
def p0 : Program := .bare "" "" ""
def e0 : Env := launch0.env 0 0 0
theorem w_frames : about1.frames = Frame.invoking theMethod args0 :: below0 := rfl
set_option maxRecDepth 65536 in
theorem w_args : argsFit about1.vm theMethod args0 = true := by decide +kernel
set_option maxRecDepth 65536 in
theorem w_heap : heapFits about1 = true := by decide +kernel
set_option maxRecDepth 65536 in
theorem w_runnable : about1.curStatus? = some .runnable := by decide +kernel
set_option maxRecDepth 65536 in
theorem w_alone : about1.alone = true := by decide +kernel
set_option maxRecDepth 65536 in
theorem w_named : about1.methodNamed? x = some theMethod := by decide +kernel
set_option maxRecDepth 65536 in
theorem w_hears : about1.hears theMethod below0 = true := by decide +kernel
set_option maxRecDepth 65536 in
theorem w_ripe : about1.ripe theMethod args0 below0 = true := by decide +kernel
theorem w_running : about1.status = .running := rfl
set_option maxRecDepth 65536 in
theorem w_room : about1.hasRoom e0.platform room_1 = true :=
  launch0.hasRoom_least _ room_1 (by decide +kernel) (by decide +kernel) (by decide +kernel) (by decide +kernel) (by decide +kernel) (by decide +kernel)
theorem allAtoms_all (ts : List Jvm.Cond) (a : Array Jvm.Value) (st : Jvm.State) : (allAtoms ts).before a st = ts.all (fun c => c.before a st) := by
  induction ts with
  | nil => rfl
  | cons c t ih =>
    show (Jvm.Cond.and c (allAtoms t)).before a st = _
    rw [Jvm.Cond.before_and, ih, List.all_cons]
def words1 : List Jvm.Cond := Jvm.Cond.code x code maxLocals ret :: tables_1
/-- a 'code' word, met by the world's own term for the bytes: nothing is compared byte by byte -/
theorem code_word {y : MethodName} {bytes : ByteArray} {mx : Nat} {rt : Option FieldType} {a : Array Value} {s : State} {m : MethodId} {meth : Method} {c : Code} (h1 : s.methodNamed? y = some m) (h2 : s.vm.method? m = some meth) (h3 : meth.code = some c) (h4 : c.code = bytes)
    (h5 : (c.maxLocals == mx && c.exceptionTable.isEmpty && decide (c.maxStack ≤ mostOperands) && decide (meth.sig.returnType = rt) && !meth.locks && decide (parseMethodDescriptor y.desc = some meth.sig)) = true) : (Jvm.Cond.code y bytes mx rt).before a s = true := by
  simp only [Bool.and_eq_true, beq_iff_eq, Bool.not_eq_true', decide_eq_true_eq] at h5
  obtain ⟨⟨⟨⟨⟨g1, g2⟩, g3⟩, g4⟩, g5⟩, g6⟩ := h5
  simp [Cond.before, Cond.holds, Cond.value, h1, h2, h3, h4, g1, g2, g3, g4, g5, g6]
def isCode : Jvm.Cond → Bool
  | .code _ _ _ _ => true
  | _ => false
theorem all_split {L : List Jvm.Cond} {P : Jvm.Cond → Bool} (h1 : L.all (fun c => isCode c || P c) = true) (h2 : ∀ c ∈ L.filter isCode, P c = true) : L.all P = true := by
  refine List.all_eq_true.mpr fun c hc => ?_
  have h := List.all_eq_true.mp h1 c hc
  rcases Bool.eq_false_or_eq_true (isCode c) with hi | hi
  · exact h2 c (List.mem_filter.mpr ⟨hc, hi⟩)
  · simpa [hi] using h
set_option maxRecDepth 65536 in
theorem w_c0 : (Jvm.Cond.code x code maxLocals ret).before args0 about1 = true := code_word (m := ⟨1, 1⟩) (meth := k1m1) (c := k1c1) (by decide +kernel) rfl rfl rfl (by decide +kernel)
set_option maxRecDepth 65536 in
theorem w_c1 : (Jvm.Cond.code ({ cls := "com/example/spillback/spillback/Fifo$Legs", name := "<init>", desc := "([I)V" } : Jvm.MethodName) prog_13_method_1_code (2 : Nat) (Option.none : Option Jvm.ClassFile.FieldType)).before args0 about1 = true := code_word (m := ⟨2, 0⟩) (meth := k2m0) (c := k2c0) (by decide +kernel) rfl rfl rfl (by decide +kernel)
set_option maxRecDepth 65536 in
theorem w_c2 : (Jvm.Cond.code ({ cls := "java/lang/Object", name := "<init>", desc := "()V" } : Jvm.MethodName) object_method_1_code (1 : Nat) (Option.none : Option Jvm.ClassFile.FieldType)).before args0 about1 = true := code_word (m := ⟨0, 0⟩) (meth := k0m0) (c := k0c0) (by decide +kernel) rfl rfl rfl (by decide +kernel)
set_option maxRecDepth 65536 in
theorem w_c3 : (Jvm.Cond.code ({ cls := "com/example/spillback/spillback/Fifo", name := "<init>", desc := "(Lcom/example/spillback/spillback/Fifo$Legs;[D[D)V" } : Jvm.MethodName) prog_12_method_1_code (4 : Nat) (Option.none : Option Jvm.ClassFile.FieldType)).before args0 about1 = true := code_word (m := ⟨3, 0⟩) (meth := k3m0) (c := k3c0) (by decide +kernel) rfl rfl rfl (by decide +kernel)
set_option maxRecDepth 65536 in
theorem w_c4 : (Jvm.Cond.code ({ cls := "com/example/spillback/spillback/Fifo", name := "join", desc := "(ID)V" } : Jvm.MethodName) prog_12_method_2_code (4 : Nat) (Option.none : Option Jvm.ClassFile.FieldType)).before args0 about1 = true := code_word (m := ⟨3, 1⟩) (meth := k3m1) (c := k3c1) (by decide +kernel) rfl rfl rfl (by decide +kernel)
set_option maxRecDepth 65536 in
theorem w_c5 : (Jvm.Cond.code ({ cls := "com/example/spillback/spillback/Fifo", name := "close", desc := "(I)V" } : Jvm.MethodName) prog_12_method_3_code (5 : Nat) (Option.none : Option Jvm.ClassFile.FieldType)).before args0 about1 = true := code_word (m := ⟨3, 2⟩) (meth := k3m2) (c := k3c2) (by decide +kernel) rfl rfl rfl (by decide +kernel)
set_option maxRecDepth 65536 in
theorem w_c6 : (Jvm.Cond.code ({ cls := "com/example/spillback/spillback/Fifo", name := "slice", desc := "(ID)D" } : Jvm.MethodName) prog_12_method_4_code (14 : Nat) (Option.some Jvm.ClassFile.FieldType.double)).before args0 about1 = true := code_word (m := ⟨3, 3⟩) (meth := k3m3) (c := k3c3) (by decide +kernel) rfl rfl rfl (by decide +kernel)
set_option maxRecDepth 65536 in
theorem w_c7 : (Jvm.Cond.code ({ cls := "java/lang/Math", name := "max", desc := "(DD)D" } : Jvm.MethodName) jdk_29_method_68_code (4 : Nat) (Option.some Jvm.ClassFile.FieldType.double)).before args0 about1 = true := code_word (m := ⟨4, 1⟩) (meth := k4m1) (c := k4c1) (by decide +kernel) rfl rfl rfl (by decide +kernel)
set_option maxRecDepth 65536 in
theorem w_c8 : (Jvm.Cond.code ({ cls := "com/example/spillback/spillback/Fifo", name := "list", desc := "(I)Z" } : Jvm.MethodName) prog_12_method_7_code (2 : Nat) (Option.some Jvm.ClassFile.FieldType.boolean)).before args0 about1 = true := code_word (m := ⟨3, 5⟩) (meth := k3m5) (c := k3c5) (by decide +kernel) rfl rfl rfl (by decide +kernel)
set_option maxRecDepth 65536 in
theorem w_c9 : (Jvm.Cond.code ({ cls := "java/lang/Math", name := "min", desc := "(DD)D" } : Jvm.MethodName) jdk_29_method_72_code (4 : Nat) (Option.some Jvm.ClassFile.FieldType.double)).before args0 about1 = true := code_word (m := ⟨4, 3⟩) (meth := k4m3) (c := k4c3) (by decide +kernel) rfl rfl rfl (by decide +kernel)
set_option maxRecDepth 65536 in
theorem w_c10 : (Jvm.Cond.code ({ cls := "com/example/spillback/spillback/Fifo", name := "turns", desc := "([D)V" } : Jvm.MethodName) prog_12_method_5_code (7 : Nat) (Option.none : Option Jvm.ClassFile.FieldType)).before args0 about1 = true := code_word (m := ⟨3, 4⟩) (meth := k3m4) (c := k3c4) (by decide +kernel) rfl rfl rfl (by decide +kernel)
set_option maxRecDepth 65536 in
theorem w_c11 : (Jvm.Cond.code ({ cls := "java/lang/Math", name := "min", desc := "(II)I" } : Jvm.MethodName) jdk_29_method_69_code (2 : Nat) (Option.some Jvm.ClassFile.FieldType.int)).before args0 about1 = true := code_word (m := ⟨4, 2⟩) (meth := k4m2) (c := k4c2) (by decide +kernel) rfl rfl rfl (by decide +kernel)
set_option maxRecDepth 65536 in
theorem w_c12 : (Jvm.Cond.code ({ cls := "com/example/spillback/spillback/FifoTurnsPinLaw", name := "expected", desc := "(IDIDID)D" } : Jvm.MethodName) method_3_code (11 : Nat) (Option.some Jvm.ClassFile.FieldType.double)).before args0 about1 = true := code_word (m := ⟨1, 2⟩) (meth := k1m2) (c := k1c2) (by decide +kernel) rfl rfl rfl (by decide +kernel)
def codes1 : List Jvm.Cond := [Jvm.Cond.code x code maxLocals ret, Jvm.Cond.code ({ cls := "com/example/spillback/spillback/Fifo$Legs", name := "<init>", desc := "([I)V" } : Jvm.MethodName) prog_13_method_1_code (2 : Nat) (Option.none : Option Jvm.ClassFile.FieldType), Jvm.Cond.code ({ cls := "java/lang/Object", name := "<init>", desc := "()V" } : Jvm.MethodName) object_method_1_code (1 : Nat) (Option.none : Option Jvm.ClassFile.FieldType), Jvm.Cond.code ({ cls := "com/example/spillback/spillback/Fifo", name := "<init>", desc := "(Lcom/example/spillback/spillback/Fifo$Legs;[D[D)V" } : Jvm.MethodName) prog_12_method_1_code (4 : Nat) (Option.none : Option Jvm.ClassFile.FieldType), Jvm.Cond.code ({ cls := "com/example/spillback/spillback/Fifo", name := "join", desc := "(ID)V" } : Jvm.MethodName) prog_12_method_2_code (4 : Nat) (Option.none : Option Jvm.ClassFile.FieldType), Jvm.Cond.code ({ cls := "com/example/spillback/spillback/Fifo", name := "close", desc := "(I)V" } : Jvm.MethodName) prog_12_method_3_code (5 : Nat) (Option.none : Option Jvm.ClassFile.FieldType), Jvm.Cond.code ({ cls := "com/example/spillback/spillback/Fifo", name := "slice", desc := "(ID)D" } : Jvm.MethodName) prog_12_method_4_code (14 : Nat) (Option.some Jvm.ClassFile.FieldType.double), Jvm.Cond.code ({ cls := "java/lang/Math", name := "max", desc := "(DD)D" } : Jvm.MethodName) jdk_29_method_68_code (4 : Nat) (Option.some Jvm.ClassFile.FieldType.double), Jvm.Cond.code ({ cls := "com/example/spillback/spillback/Fifo", name := "list", desc := "(I)Z" } : Jvm.MethodName) prog_12_method_7_code (2 : Nat) (Option.some Jvm.ClassFile.FieldType.boolean), Jvm.Cond.code ({ cls := "java/lang/Math", name := "min", desc := "(DD)D" } : Jvm.MethodName) jdk_29_method_72_code (4 : Nat) (Option.some Jvm.ClassFile.FieldType.double), Jvm.Cond.code ({ cls := "com/example/spillback/spillback/Fifo", name := "turns", desc := "([D)V" } : Jvm.MethodName) prog_12_method_5_code (7 : Nat) (Option.none : Option Jvm.ClassFile.FieldType), Jvm.Cond.code ({ cls := "java/lang/Math", name := "min", desc := "(II)I" } : Jvm.MethodName) jdk_29_method_69_code (2 : Nat) (Option.some Jvm.ClassFile.FieldType.int), Jvm.Cond.code ({ cls := "com/example/spillback/spillback/FifoTurnsPinLaw", name := "expected", desc := "(IDIDID)D" } : Jvm.MethodName) method_3_code (11 : Nat) (Option.some Jvm.ClassFile.FieldType.double)]
set_option maxRecDepth 65536 in
theorem codes_eq : words1.filter isCode = codes1 := rfl
theorem w_codes : ∀ c ∈ words1.filter isCode, c.before args0 about1 = true := by
  rw [codes_eq]
  intro c hc
  simp only [codes1, List.mem_cons, List.not_mem_nil, or_false] at hc
  rcases hc with rfl | rfl | rfl | rfl | rfl | rfl | rfl | rfl | rfl | rfl | rfl | rfl | rfl
  · exact w_c0
  · exact w_c1
  · exact w_c2
  · exact w_c3
  · exact w_c4
  · exact w_c5
  · exact w_c6
  · exact w_c7
  · exact w_c8
  · exact w_c9
  · exact w_c10
  · exact w_c11
  · exact w_c12
set_option maxRecDepth 65536 in
theorem w_t1 : (words1.take 24).all (fun c => isCode c || c.before args0 about1) = true := by decide +kernel
set_option maxRecDepth 65536 in
theorem w_t2 : ((words1.drop 24).take 24).all (fun c => isCode c || c.before args0 about1) = true := by decide +kernel
set_option maxRecDepth 65536 in
theorem w_t3 : (((words1.drop 24).drop 24).take 24).all (fun c => isCode c || c.before args0 about1) = true := by decide +kernel
set_option maxRecDepth 65536 in
theorem w_t4 : ((((words1.drop 24).drop 24).drop 24).take 24).all (fun c => isCode c || c.before args0 about1) = true := by decide +kernel
set_option maxRecDepth 65536 in
theorem w_t5 : ((((words1.drop 24).drop 24).drop 24).drop 24).all (fun c => isCode c || c.before args0 about1) = true := by decide +kernel
theorem w_tables : (allAtoms (Jvm.Cond.code x code maxLocals ret :: tables_1)).before args0 about1 = true := by
  rw [allAtoms_all]
  show words1.all (fun c => c.before args0 about1) = true
  refine all_split ?_ w_codes
  rw [← List.take_append_drop 24 words1, List.all_append, w_t1, ← List.take_append_drop 24 (words1.drop 24), List.all_append, w_t2, ← List.take_append_drop 24 ((words1.drop 24).drop 24), List.all_append, w_t3, ← List.take_append_drop 24 (((words1.drop 24).drop 24).drop 24), List.all_append, w_t4, w_t5]
  rfl
set_option maxRecDepth 65536 in
theorem w_case : (Jvm.Cond.and given_1 narrow_1).before args0 about1 = true := by decide +kernel
theorem w_applies : (headSpec (Jvm.Cond.code x code maxLocals ret :: tables_1) room_1).applies x e0.platform about1 = true :=
  (Spec.applies_iff w_frames).mpr ⟨w_running, w_runnable, w_alone, w_named, w_hears, w_ripe, w_room, w_tables⟩
theorem atStart : AtStart classFile x code maxLocals ret World_1 tables_1 room_1 Calls_1 rest_1 Pre_1 launch0 p0 e0 about1 theMethod args0 below0 :=
  ⟨lists_1, trivial, launch0.admits_env _ _ _, launch0.least_env, fairChoices_fair.cas, fairChoices_fair.clock, w_frames, w_args, w_heap, w_applies, trivial, trivial, w_case⟩
end start1
theorem witness_1 : WitnessClaimed_1 := ⟨start1.p0, start1.e0, start1.about1, start1.theMethod, start1.args0, start1.below0, start1.atStart⟩
end Jvm.Pilot.@@N@@
