import JvmDerived
import JvmDerived.Pilot.@@N@@Statement
import JvmDerived.Pilot.@@N@@Code
set_option linter.unusedVariables false
set_option linter.unusedSimpArgs false
namespace Jvm.Pilot.@@N@@
open Jvm Jvm.ClassFile Sem Op Lib Jvm.Free Jvm.Stand Jvm.LawKit Jvm.RoadKit Bundle Jvm.Pilot.@@N@@.Jvm.D
/-! own_: the walk's goal, said once: from the frame g at T the run comes to an end that Fin holds of -/
def own_Go (p : Program) (e : Env) (below : List Frame) (Fin : Outcome → State → Prop) (T : State) (g : JFrame) : Prop :=
  ∃ s₂ o, Steps p.tables e below (T.setTop g) s₂ ∧ s₂.status = .running ∧ Ended s₂ below o ∧ Fin o s₂
def own_Fin (s : State) (Q : Option Value → Heap → List Loc → Prop) (k n : Nat) (o : Outcome) (t : State) : Prop :=
  ∃ v L, o = .returned v ∧ Q v t.heap L ∧ FrameEnd s o t L k n
section OwnGo
variable {p : Program} {l : Launch} {e : Env} {R : Room} {s : State} {m : MethodId} {args : Array Value} {below : List Frame} {meth : Method} {c : Code} {T T' : State} {locs : List Loc} {cells slots : Nat} {Z : State} {a0 : Array Value} {h : Heap} {g g' : JFrame} {Fin : Outcome → State → Prop} {k n : Nat} {Q : Option Value → Heap → List Loc → Prop}
theorem own_go (st : ∀ target, Steps p.tables e below (T'.setTop g') target → Steps p.tables e below (T.setTop g) target) (G : own_Go p e below Fin T' g') : own_Go p e below Fin T g := by
  obtain ⟨s₂, o, h, r⟩ := G
  exact ⟨s₂, o, st _ h, r⟩
theorem own_end (X : Stand p l e R s m args below meth c T locs cells slots) (hlk : meth.locks = false) {v : Option Value} (hv : meth.sig.returnType = none → v = none)
    (hr : ∀ fs, (∀ (f : JFrame) (acts : List Action), f.method = m → f.locked = none → f.entered = [] → (doReturn e (T.setTop f) acts v).1 = T.setFrames fs) → Steps p.tables e below (T.setTop g) (T.setFrames fs))
    (hQ : Q v T.heap locs) (hc : cells ≤ k) (hn : slots ≤ n) : own_Go p e below (own_Fin s Q k n) T g := by
  obtain ⟨fs, h1, hrun, hended, hW, hsame⟩ := X.leave hv hlk
  exact ⟨_, _, hr fs h1, hrun, hended, v, locs, rfl, hQ, ⟨_, rfl⟩, hW, hsame.mono hc hn⟩
theorem own_dia {α : Type} {C : Prop} [Decidable C] {v1 v0 : α} {f : α → JFrame} (h1 : C → own_Go p e below Fin T' (f v1) → own_Go p e below Fin T g) (h0 : ¬ C → own_Go p e below Fin T' (f v0) → own_Go p e below Fin T g) (G : own_Go p e below Fin T' (f (if C then v1 else v0))) : own_Go p e below Fin T g := by
  by_cases hC : C
  · rw [if_pos hC] at G; exact h1 hC G
  · rw [if_neg hC] at G; exact h0 hC G
end OwnGo
def own_Met (l : Launch) (Z : State) (y : MethodName) (bytes : ByteArray) (maxL : Nat) (ret : Option FieldType) (ws : List Jvm.Cond) (rm : Room) (as : Array Value) (h0 : Heap) (Q : Option Value → Heap → List Loc → Prop) : Prop :=
  MetFree l y (head1 (Jvm.Cond.code y bytes maxL ret :: ws) rm) (fun a U => a = as ∧ Z.Warmed39 U.vm ∧ U.heap = h0) (fun _ _ _ _ _ => True) (fun _ U o U' => ∃ v L, o = .returned v ∧ Q v U'.heap L ∧ FrameEnd U o U' L rm.cells rm.slots)
theorem own_met {l : Launch} {Z : State} {y : MethodName} {bytes : ByteArray} {maxL : Nat} {ret : Option FieldType} {ws : List Jvm.Cond} {rm : Room} {as : Array Value} {h0 : Heap} {Q : Option Value → Heap → List Loc → Prop} (hp : plainFor y = true)
    (body : ∀ (p : Program) (e : Env) (s : State) (m : MethodId) (below : List Frame) (meth : Method) (c : Code) (s₁ : State), Stand p l e rm s m as below meth c s₁ [] 0 0 → p.tables.exec = Jvm.exec → Z.Warmed39 s.vm → c.code = bytes → c.maxLocals = maxL → s.vm.findClass y.cls = some m.cls → meth.name = y.name → meth.sig.returnType = ret → meth.locks = false → s₁.heap = h0 →
      own_Go p e below (own_Fin s Q rm.cells rm.slots) s₁ (entryFrame m as maxL)) : own_Met l Z y bytes maxL ret ws rm as h0 Q := by
  refine MetFree.of_bodySF hp hisR ?_
  intro p e s m args below meth c s₁ Bd hml0 hP hK
  obtain ⟨rfl, hZ, hh⟩ := hP
  exact body p e s m below meth c s₁ (Stand.of_body Bd) Bd.exec hZ Bd.bytes hml0 (findClass_of_methodNamed Bd.named) (name_of_methodNamed Bd.named Bd.method).1 Bd.returns Bd.notSynchronized (by rw [← hh, Bd.state]; rfl)
section OwnCall
variable {p : Program} {l : Launch} {e : Env} {R : Room} {s : State} {m : MethodId} {args : Array Value} {below : List Frame} {meth : Method} {c : Code} {T : State} {locs : List Loc} {cells slots : Nat} {Z : State} {a0 : Array Value} {h : Heap} {g : JFrame} {Q : Option Value → Heap → List Loc → Prop} {own : String} {index : Nat} {y z : MethodName} {bytes : ByteArray} {maxL W : Nat} {ret r0 : Option FieldType} {rm : Room} {argsL rest : List Value} {ps : List FieldType} {b : Addr} {C : String}
theorem own_callS (X : Stand p l e R s m args below meth c T locs cells slots) (hx : p.tables.exec = Jvm.exec) (hZ : Z.Warmed39 s.vm) (hown : s.vm.findClass own = some m.cls) (wl : (Cond.methodLink own index y).before a0 Z = true) (ws : (Cond.static y).before a0 Z = true) (wi : (Cond.initialized y.cls).before a0 Z = true) (wc : (Cond.code y bytes maxL ret).before a0 Z = true)
    (hy : y.cls ≠ "java/lang/invoke/MethodHandle" ∧ y.cls ≠ "java/lang/invoke/VarHandle") (eT : T.heap = h) (hM : own_Met l Z y bytes maxL ret [] rm argsL.toArray h Q) (hf : rm.frames + 1 ≤ R.frames) (hl : W + (maxL + 11) + rm.locals ≤ R.locals) (hc : cells + rm.cells ≤ R.cells) (hn : slots + rm.slots ≤ R.slots)
    (hpd : parseMethodDescriptor y.desc = some ⟨ps, r0⟩) (hlen : argsL.length = ps.length) (hg : g.method = m) (hsize : g.locals.size = c.maxLocals) (hstack : g.stack = argsL.reverse ++ rest) (hW : 2 * g.monitorRoom + (rest.map fun v => v.category).sum ≤ W) (hd : decode c.code g.pc = .ok (.invokestatic index, 3)) :
    ∃ (v : Option Value) (T' : State) (L : List Loc), Stand p l e R s m args below meth c T' (locs ++ L) (cells + rm.cells) (slots + rm.slots) ∧ Q v T'.heap L ∧ ∀ target, Steps p.tables e below (T'.setTop { g with pc := g.pc + 3, stack := v.toList ++ rest }) target → Steps p.tables e below (T.setTop g) target := by
  obtain ⟨v, vm₁, ⟨T1, L1, k1, n1⟩, -, X1, ⟨Lc, hQ, l1, y1, z1⟩, st⟩ := Jvm.LawKit.callS X hx (y := y) hown (mvT hZ wl) (mvT hZ ws) (mvT hZ wi) (mvT hZ wc) hy (backOf (W := W) hM hZ wc wi hf hl) hg hsize (lenOf hpd hlen) hstack hW hd (fun _ _ => ⟨rfl, eT, hc, hn⟩)
  dsimp only [Pt.U, Pt.locs, Pt.cells, Pt.slots] at X1 l1 y1 z1 st hQ
  subst l1 y1 z1
  exact ⟨v, T1, Lc, X1, hQ, st⟩
theorem own_callI (X : Stand p l e R s m args below meth c T locs cells slots) (hx : p.tables.exec = Jvm.exec) (hZ : Z.Warmed39 s.vm) (hy1 : y.name = "<init>") (hown : s.vm.findClass own = some m.cls) (wl : (Cond.methodLink own index y).before a0 Z = true) (ws : (Cond.instanceMethod y).before a0 Z = true) (wi : (Cond.initialized y.cls).before a0 Z = true) (wc : (Cond.code y bytes maxL none).before a0 Z = true)
    (hy : y.cls ≠ "java/lang/invoke/MethodHandle" ∧ y.cls ≠ "java/lang/invoke/VarHandle") (eT : T.heap = h) (hM : own_Met l Z y bytes maxL none [] rm (.ref b :: argsL).toArray h Q) (hf : rm.frames + 1 ≤ R.frames) (hl : W + (maxL + 11) + rm.locals ≤ R.locals) (hc : cells + rm.cells ≤ R.cells) (hn : slots + rm.slots ≤ R.slots)
    (hpd : parseMethodDescriptor y.desc = some ⟨ps, r0⟩) (hlen : argsL.length = ps.length) (hg : g.method = m) (hsize : g.locals.size = c.maxLocals) (hstack : g.stack = argsL.reverse ++ .ref b :: rest) (hW : 2 * g.monitorRoom + (rest.map fun v => v.category).sum ≤ W) (hd : decode c.code g.pc = .ok (.invokespecial index, 3)) :
    ∃ (v : Option Value) (T' : State) (L : List Loc), Stand p l e R s m args below meth c T' (locs ++ L) (cells + rm.cells) (slots + rm.slots) ∧ Q v T'.heap L ∧ ∀ target, Steps p.tables e below (T'.setTop { g with pc := g.pc + 3, stack := v.toList ++ rest }) target → Steps p.tables e below (T.setTop g) target := by
  obtain ⟨v, vm₁, ⟨T1, L1, k1, n1⟩, -, X1, ⟨Lc, hQ, l1, y1, z1⟩, st⟩ := X.specialBack hx (y := y) hy1 hown (mvT hZ wl) (mvT hZ ws) (mvT hZ wc) hy (backOf (W := W) hM hZ wc wi hf hl) hg hsize (Steps.refl _) (lenOf hpd hlen) hstack hW hd (fun _ _ => ⟨rfl, eT, hc, hn⟩)
  dsimp only [Pt.U, Pt.locs, Pt.cells, Pt.slots] at X1 l1 y1 z1 st hQ
  subst l1 y1 z1
  exact ⟨v, T1, Lc, X1, hQ, fun _ k => st.trans k⟩
theorem own_callV (X : Stand p l e R s m args below meth c T locs cells slots) (hx : p.tables.exec = Jvm.exec) (hZ : Z.Warmed39 s.vm) (hown : s.vm.findClass own = some m.cls) (wl : (Cond.methodLink own index y).before a0 Z = true) (wd : (Cond.declares y).before a0 Z = true) (wsel : (Cond.selects C y y).before a0 Z = true) (ws : (Cond.instanceMethod y).before a0 Z = true) (wi : (Cond.initialized y.cls).before a0 Z = true) (wc : (Cond.code y bytes maxL ret).before a0 Z = true)
    (hy : y.cls ≠ "java/lang/invoke/MethodHandle" ∧ y.cls ≠ "java/lang/invoke/VarHandle") (eT : T.heap = h) (E : Exa Z h b C) (hM : own_Met l Z y bytes maxL ret [] rm (.ref b :: argsL).toArray h Q) (hf : rm.frames + 1 ≤ R.frames) (hl : W + (maxL + 11) + rm.locals ≤ R.locals) (hc : cells + rm.cells ≤ R.cells) (hn : slots + rm.slots ≤ R.slots)
    (hpd : parseMethodDescriptor y.desc = some ⟨ps, r0⟩) (hlen : argsL.length = ps.length) (hg : g.method = m) (hsize : g.locals.size = c.maxLocals) (hstack : g.stack = argsL.reverse ++ .ref b :: rest) (hW : 2 * g.monitorRoom + (rest.map fun v => v.category).sum ≤ W) (hd : decode c.code g.pc = .ok (.invokevirtual index, 3)) :
    ∃ (v : Option Value) (T' : State) (L : List Loc), Stand p l e R s m args below meth c T' (locs ++ L) (cells + rm.cells) (slots + rm.slots) ∧ Q v T'.heap L ∧ ∀ target, Steps p.tables e below (T'.setTop { g with pc := g.pc + 3, stack := v.toList ++ rest }) target → Steps p.tables e below (T.setTop g) target := by
  obtain ⟨cq, kq, qa, qb, qc⟩ := isOf hZ eT E
  obtain ⟨v, vm₁, ⟨T1, L1, k1, n1⟩, -, X1, ⟨Lc, hQ, l1, y1, z1⟩, st⟩ := X.virtualBack hx (y := y) (z := y) hown (mvT hZ wl) (mvT hZ wd) (notFace_of_selects (args := #[]) (mvT hZ wsel)) (mvT hZ wsel) (mvT hZ ws) hy (backOf (W := W) hM hZ wc wi hf hl) qa qc hg hsize (Steps.refl _) (lenOf hpd hlen) hstack hW hd (fun _ _ => ⟨rfl, eT, hc, hn⟩)
  dsimp only [Pt.U, Pt.locs, Pt.cells, Pt.slots] at X1 l1 y1 z1 st hQ
  subst l1 y1 z1
  exact ⟨v, T1, Lc, X1, hQ, fun _ k => st.trans k⟩
end OwnCall
theorem own_eqv {args : Array Value} {Z : State} {t : Term} {k : Int32} (h : (Cond.eq t (Term.int k)).value args Z none Z [] = some true) : t.eval args Z none [] Z = some (.int k) := by
  obtain ⟨x, y, e1, e2, k1, k2⟩ := cmp_v (Or.inl h)
  have e3 : (Term.int k).eval args Z none [] Z = some (.int k) := rfl
  cases e2.symm.trans e3
  cases x <;> simp [Kin, Value.isRef] at k1 k2
  simp [Cond.value, e1, e3] at h
  rw [e1, h]
theorem own_sta {args : Array Value} {Z : State} {C n d K : String} (wi : (Cond.initialized C).before args Z = true) (wl : (Cond.laysStatic C n d).before args Z = true) (h1 : (Cond.exactly (Term.static C n d) K).value args Z none Z [] = some true) :
    ∃ a, (Term.static C n d).eval args Z none [] Z = some (.ref a) ∧ Sta Z Z.heap C n d (.ref a) ∧ Exa Z Z.heap a K := by
  obtain ⟨a, ea⟩ := exa_v h1
  exact ⟨a, ea, Sta.start ea (Or.inr ⟨wi, wl⟩), Exa.start ea h1⟩
theorem own_fld {args : Array Value} {Z : State} {t : Term} {C n d : String} {k : Int32} {a : Addr} (ea : t.eval args Z none [] Z = some (.ref a)) (h : (Cond.eq (Term.field t C n d) (Term.int k)).value args Z none Z [] = some true) : Fld Z Z.heap a C n d (.int k) :=
  Fld.start ((fld_at ea).symm.trans (own_eqv h))
theorem own_callU {p : Program} {l : Launch} {e : Env} {R : Room} {s : State} {m : MethodId} {args : Array Value} {below : List Frame} {meth : Method} {c : Code} {T : State} {locs : List Loc} {cells slots : Nat} {Z : State} {a0 : Array Value} {h : Heap} {g : JFrame} {Q : Option Value → Heap → List Loc → Prop} {own owner : String} {index : Nat} {x y : MethodName} {bytes : ByteArray} {maxL W : Nat} {ret r0 : Option FieldType} {rm : Room} {argsL rest : List Value} {ps : List FieldType} {b : Addr} {C : String}
    (X : Stand p l e R s m args below meth c T locs cells slots) (hx : p.tables.exec = Jvm.exec) (hZ : Z.Warmed39 s.vm) (hown : s.vm.findClass own = some m.cls) (wl : (Cond.methodLink own index x).before a0 Z = true) (wsm : (Cond.sameMethod x.cls owner x.name x.desc).before a0 Z = true) (wd : (Cond.declares ⟨owner, x.name, x.desc⟩).before a0 Z = true) (hy : owner ≠ "java/lang/invoke/MethodHandle" ∧ owner ≠ "java/lang/invoke/VarHandle") (wsel : (Cond.selects C x y).before a0 Z = true) (ws : (Cond.instanceMethod y).before a0 Z = true) (wi : (Cond.initialized y.cls).before a0 Z = true) (wc : (Cond.code y bytes maxL ret).before a0 Z = true)
    (eT : T.heap = h) (E : Exa Z h b C) (hM : own_Met l Z y bytes maxL ret [] rm (.ref b :: argsL).toArray h Q) (hf : rm.frames + 1 ≤ R.frames) (hl : W + (maxL + 11) + rm.locals ≤ R.locals) (hc : cells + rm.cells ≤ R.cells) (hn : slots + rm.slots ≤ R.slots)
    (hpd : parseMethodDescriptor x.desc = some ⟨ps, r0⟩) (hlen : argsL.length = ps.length) (hg : g.method = m) (hsize : g.locals.size = c.maxLocals) (hstack : g.stack = argsL.reverse ++ .ref b :: rest) (hW : 2 * g.monitorRoom + (rest.map fun v => v.category).sum ≤ W) (hd : decode c.code g.pc = .ok (.invokevirtual index, 3)) :
    ∃ (v : Option Value) (T' : State) (L : List Loc), Stand p l e R s m args below meth c T' (locs ++ L) (cells + rm.cells) (slots + rm.slots) ∧ Q v T'.heap L ∧ ∀ target, Steps p.tables e below (T'.setTop { g with pc := g.pc + 3, stack := v.toList ++ rest }) target → Steps p.tables e below (T.setTop g) target := by
  obtain ⟨cq, kq, qa, qb, qc⟩ := isOf hZ eT E
  obtain ⟨v, vm₁, ⟨T1, L1, k1, n1⟩, -, X1, ⟨Lc, hQ, l1, y1, z1⟩, st⟩ := X.virtualBackUp hx (x := x) (y := y) hown (mvT hZ wl) (mvT hZ wsm) (mvT hZ wd) hy (mvT hZ wsel) (mvT hZ ws) (backOf (W := W) hM hZ wc wi hf hl) qa qc hg hsize (Steps.refl _) (lenOf hpd hlen) hstack hW hd (fun _ _ => ⟨rfl, eT, hc, hn⟩)
  dsimp only [Pt.U, Pt.locs, Pt.cells, Pt.slots] at X1 l1 y1 z1 st hQ
  subst l1 y1 z1
  exact ⟨v, T1, Lc, X1, hQ, fun _ k => st.trans k⟩
theorem own_len {args : Array Value} {s : State} {t : Term} {n : Int32} {a : Addr} {cc : Cell} (h : (Cond.eq (Term.length t) (.int n)).value args s none s [] = some true) (ev : t.eval args s none [] s = some (.ref a)) (hat : s.arrayAt? a = some cc) : cc.slots.size < 2 ^ 31 ∧ cc.slots.size.toInt32 = n := by
  have hl := own_eqv h
  simp only [Term.eval, ev, hat, Option.bind_eq_bind, Option.bind_some] at hl
  split at hl
  · rename_i hlt
    exact ⟨hlt, by simpa using hl⟩
  · cases hl
theorem own_str {args : Array Value} {s : State} {t : Term} {sy : Addr} {n x : Int32} (hf : Fit s) (ev : t.eval args s none [] s = some (.ref sy)) (h1 : (Cond.arrayOf (.field t "java/lang/String" "value" "[B") .byte).value args s none s [] = some true) (h2 : (Cond.eq (.length (.field t "java/lang/String" "value" "[B")) (.int n)).value args s none s [] = some true)
    (h3 : (Cond.eq (.field t "java/lang/String" "coder" "B") (.int 0)).value args s none s [] = some true) (h4 : (Cond.eq (.elem (.field t "java/lang/String" "value" "[B") (.int 0)) (.int x)).value args s none s [] = some true) (hn : ¬ n < 0) :
    ∃ va cc, Fld s s.heap sy "java/lang/String" "value" "[B" (.ref va) ∧ Fld s s.heap sy "java/lang/String" "coder" "B" (.int 0) ∧ Arr s s.heap va cc .byte ∧ cc.slots.size = n.toNatClampNeg ∧ cc.slots[0]? = some (.int x) := by
  obtain ⟨va, ev2⟩ := arr_v h1
  obtain ⟨cc, A⟩ := Arr.start ev2 h1
  have hat := IntBox.arrayAt_of A.1 A.2.1 A.2.2
  obtain ⟨hlt, hsz⟩ := own_len h2 ev2 hat
  have he := own_eqv h4
  obtain ⟨hin, hel⟩ := elem_in he ev2 (rfl : (Term.int 0).eval args s none [] s = some (.int 0)) A.1
  refine ⟨va, cc, Fld.start ((fld_at ev).symm.trans ev2), own_fld ev h3, A, ?_, hel⟩
  have e1 := len_toInt hlt
  rw [hsz, nat_of hn] at e1
  omega
theorem own_ef1 (m : MethodId) (a1 : Addr) : entryFrame m #[(.ref a1)] 1 = mkF m 0 #[.val (.ref a1)] [] := by first | (simp [entryFrame, mkF, argsToLocals, Value.category]; done) | rfl
theorem own_d1_0 : decode prog_38_method_4_code 0 = .ok (.aload_n 0, 1) := by decide +kernel
theorem own_d1_1 : decode prog_38_method_4_code 1 = .ok (.getfield 35, 3) := by decide +kernel
theorem own_d1_4 : decode prog_38_method_4_code 4 = .ok (.areturn, 1) := by decide +kernel
theorem own_pn0 : plainName "com/example/servweave/servweave/qos/Bound$Comparison" = true := by first | (simp [plainName, overriddenIn]; done) | decide +kernel
def own_Q1 (Z : State) (sy : Addr) (h0 : Heap) (n0 : Nat) (v : Option Value) (h : Heap) (L : List Loc) : Prop := v = some (.ref sy) ∧ Fr n0 L ∧ h = h0
set_option maxRecDepth 65536 in
set_option maxHeartbeats 40000000 in
theorem own_rm1 (l : Launch) (Z : State) (a0 : Array Value) (hw : ∀ d ∈ tables_1, d.before a0 Z = true) (ws : List Jvm.Cond) (a1 : Addr) (h0 : Heap) (n0 : Nat) (sy : Addr) (F_symbol_a1 : Fld Z h0 a1 "com/example/servweave/servweave/qos/Bound$Comparison" "symbol" "Ljava/lang/String;" (.ref sy)) :
    own_Met l Z (⟨"com/example/servweave/servweave/qos/Bound$Comparison", "symbol", "()Ljava/lang/String;"⟩ : MethodName) prog_38_method_4_code 1 (some (.object "java/lang/String")) ws ({ frames := 0, cells := 0, slots := 0, locals := 0 } : Room) #[(.ref a1)] h0 (own_Q1 Z sy h0 n0) := by
  refine own_met (plainFor_of_name own_pn0) ?_
  intro p e s m below meth c s₁ X0 hx hZ hby hml hown hnm hret hlk e0
  have N0 := Fr.nil n0
  refine own_go (fun t k => castTop (own_ef1 m a1) k) ?_
  show own_Go _ _ _ _ s₁ (mkF m 0 #[.val (.ref a1)] [])
  refine own_go (fun _ k => XS.aloadN X0.here hx rfl (hb hby own_d1_0) rfl rfl k) ?_
  show own_Go _ _ _ _ s₁ (mkF m 1 #[.val (.ref a1)] [(.ref a1)])
  obtain ⟨Tz1, Xz1, ez1, stz1⟩ := getF X0 hx hZ hown (host := "") (Or.inl (hw _ (List.mem_of_getElem? (i := 17) rfl))) Via.refl e0 F_symbol_a1 (g := (mkF m 1 #[.val (.ref a1)] [(.ref a1)])) rfl rfl (hb hby own_d1_1)
  refine own_go stz1 ?_
  show own_Go _ _ _ _ Tz1 (mkF m 4 #[.val (.ref a1)] [(.ref sy)])
  exact own_end Xz1 hlk (v := (some (.ref sy))) (fun h => by rw [hret] at h; cases h) (fun fs hr => retOut Xz1 hx hret rfl (Or.inr (Or.inr (Or.inr (Or.inr ⟨rfl, rfl, rfl⟩)))) (hb hby own_d1_4) hr) (by rw [ez1]; exact ⟨rfl, N0, rfl⟩) (by decide) (by decide)
theorem own_ef3 (m : MethodId) (a1 : Addr) : entryFrame m #[(.ref a1)] 1 = mkF m 0 #[.val (.ref a1)] [] := by first | (simp [entryFrame, mkF, argsToLocals, Value.category]; done) | rfl
theorem own_d3_0 : decode jdk_42_method_152_code 0 = .ok (.getstatic 38, 3) := by decide +kernel
theorem own_d3_3 : decode jdk_42_method_152_code 3 = .ok (.ifCond .eq 10, 3) := by decide +kernel
theorem own_d3_6 : decode jdk_42_method_152_code 6 = .ok (.aload_n 0, 1) := by decide +kernel
theorem own_d3_7 : decode jdk_42_method_152_code 7 = .ok (.getfield 15, 3) := by decide +kernel
theorem own_d3_10 : decode jdk_42_method_152_code 10 = .ok (.goto 4, 3) := by decide +kernel
theorem own_d3_14 : decode jdk_42_method_152_code 14 = .ok (.ireturn, 1) := by decide +kernel
theorem own_pn1 : plainName "java/lang/String" = true := by first | (simp [plainName, overriddenIn]; done) | decide +kernel
def own_Q3 (Z : State) (a1 : Addr) (h0 : Heap) (n0 : Nat) (v : Option Value) (h : Heap) (L : List Loc) : Prop := v = some (.int (0 : Int32)) ∧ Fr n0 L ∧ h = h0
set_option maxRecDepth 65536 in
set_option maxHeartbeats 40000000 in
theorem own_rm3 (l : Launch) (Z : State) (a0 : Array Value) (hw : ∀ d ∈ tables_1, d.before a0 Z = true) (ws : List Jvm.Cond) (a1 : Addr) (h0 : Heap) (n0 : Nat) (O : Old Z n0 h0) (cs : Int32) (hcs : ¬ cs = (0 : Int32)) (Scs : Sta Z Z.heap "java/lang/String" "COMPACT_STRINGS" "Z" (.int cs)) (F_coder_a1 : Fld Z h0 a1 "java/lang/String" "coder" "B" (.int (0 : Int32))) :
    own_Met l Z (⟨"java/lang/String", "coder", "()B"⟩ : MethodName) jdk_42_method_152_code 1 (some .byte) ws ({ frames := 0, cells := 0, slots := 0, locals := 0 } : Room) #[(.ref a1)] h0 (own_Q3 Z a1 h0 n0) := by
  refine own_met (plainFor_of_name own_pn1) ?_
  intro p e s m below meth c s₁ X0 hx hZ hby hml hown hnm hret hlk e0
  have N0 := Fr.nil n0
  refine own_go (fun t k => castTop (own_ef3 m a1) k) ?_
  show own_Go _ _ _ _ s₁ (mkF m 0 #[.val (.ref a1)] [])
  obtain ⟨Tz2, Xz2, ez2, stz2⟩ := getS2 X0 hx hZ hown (host := "") (Or.inl (hw _ (List.mem_of_getElem? (i := 32) rfl))) Via.refl e0 (Scs.ext O.2) (g := (mkF m 0 #[.val (.ref a1)] [])) rfl (hb hby own_d3_0)
  refine own_go stz2 ?_
  show own_Go _ _ _ _ Tz2 (mkF m 3 #[.val (.ref a1)] [(.int cs)])
  refine own_go (fun _ k => XS.ifNo Xz2.here hx rfl (hb hby own_d3_3) rfl ((if0 _ _).trans (feq hcs).1) k) ?_
  show own_Go _ _ _ _ Tz2 (mkF m 6 #[.val (.ref a1)] [])
  refine own_go (fun _ k => XS.aloadN Xz2.here hx rfl (hb hby own_d3_6) rfl rfl k) ?_
  show own_Go _ _ _ _ Tz2 (mkF m 7 #[.val (.ref a1)] [(.ref a1)])
  obtain ⟨Tz3, Xz3, ez3, stz3⟩ := getF Xz2 hx hZ hown (host := "") (Or.inl (hw _ (List.mem_of_getElem? (i := 33) rfl))) Via.refl ez2 F_coder_a1 (g := (mkF m 7 #[.val (.ref a1)] [(.ref a1)])) rfl rfl (hb hby own_d3_7)
  refine own_go stz3 ?_
  show own_Go _ _ _ _ Tz3 (mkF m 10 #[.val (.ref a1)] [(.int (0 : Int32))])
  refine own_go (fun _ k => XS.goto Xz3.here hx rfl (pc0 := 10) (pc' := 14) rfl (hb hby own_d3_10) (by decide) (by decide) k) ?_
  show own_Go _ _ _ _ Tz3 (mkF m 14 #[.val (.ref a1)] [(.int (0 : Int32))])
  exact own_end Xz3 hlk (v := (some (.int (0 : Int32)))) (fun h => by rw [hret] at h; cases h) (fun fs hr => retN Xz3 hx (t := .byte) hret (by simp) (hb hby own_d3_14) hr) (by rw [ez3]; exact ⟨rfl, N0, rfl⟩) (by decide) (by decide)
theorem own_ef5 (m : MethodId) (a1 : Addr) : entryFrame m #[(.ref a1)] 1 = mkF m 0 #[.val (.ref a1)] [] := by first | (simp [entryFrame, mkF, argsToLocals, Value.category]; done) | rfl
theorem own_d5_0 : decode jdk_42_method_154_code 0 = .ok (.getstatic 38, 3) := by decide +kernel
theorem own_d5_3 : decode jdk_42_method_154_code 3 = .ok (.ifCond .eq 14, 3) := by decide +kernel
theorem own_d5_6 : decode jdk_42_method_154_code 6 = .ok (.aload_n 0, 1) := by decide +kernel
theorem own_d5_7 : decode jdk_42_method_154_code 7 = .ok (.getfield 15, 3) := by decide +kernel
theorem own_d5_10 : decode jdk_42_method_154_code 10 = .ok (.ifCond .ne 7, 3) := by decide +kernel
theorem own_d5_13 : decode jdk_42_method_154_code 13 = .ok (.iconst 1, 1) := by decide +kernel
theorem own_d5_14 : decode jdk_42_method_154_code 14 = .ok (.goto 4, 3) := by decide +kernel
theorem own_d5_18 : decode jdk_42_method_154_code 18 = .ok (.ireturn, 1) := by decide +kernel
def own_Q5 (Z : State) (a1 : Addr) (h0 : Heap) (n0 : Nat) (v : Option Value) (h : Heap) (L : List Loc) : Prop := v = some (.int (1 : Int32)) ∧ Fr n0 L ∧ h = h0
set_option maxRecDepth 65536 in
set_option maxHeartbeats 40000000 in
theorem own_rm5 (l : Launch) (Z : State) (a0 : Array Value) (hw : ∀ d ∈ tables_1, d.before a0 Z = true) (ws : List Jvm.Cond) (a1 : Addr) (h0 : Heap) (n0 : Nat) (O : Old Z n0 h0) (cs : Int32) (hcs : ¬ cs = (0 : Int32)) (Scs : Sta Z Z.heap "java/lang/String" "COMPACT_STRINGS" "Z" (.int cs)) (F_coder_a1 : Fld Z h0 a1 "java/lang/String" "coder" "B" (.int (0 : Int32))) :
    own_Met l Z (⟨"java/lang/String", "isLatin1", "()Z"⟩ : MethodName) jdk_42_method_154_code 1 (some .boolean) ws ({ frames := 0, cells := 0, slots := 0, locals := 0 } : Room) #[(.ref a1)] h0 (own_Q5 Z a1 h0 n0) := by
  refine own_met (plainFor_of_name own_pn1) ?_
  intro p e s m below meth c s₁ X0 hx hZ hby hml hown hnm hret hlk e0
  have N0 := Fr.nil n0
  refine own_go (fun t k => castTop (own_ef5 m a1) k) ?_
  show own_Go _ _ _ _ s₁ (mkF m 0 #[.val (.ref a1)] [])
  obtain ⟨Tz4, Xz4, ez4, stz4⟩ := getS2 X0 hx hZ hown (host := "") (Or.inl (hw _ (List.mem_of_getElem? (i := 32) rfl))) Via.refl e0 (Scs.ext O.2) (g := (mkF m 0 #[.val (.ref a1)] [])) rfl (hb hby own_d5_0)
  refine own_go stz4 ?_
  show own_Go _ _ _ _ Tz4 (mkF m 3 #[.val (.ref a1)] [(.int cs)])
  refine own_go (fun _ k => XS.ifNo Xz4.here hx rfl (hb hby own_d5_3) rfl ((if0 _ _).trans (feq hcs).1) k) ?_
  show own_Go _ _ _ _ Tz4 (mkF m 6 #[.val (.ref a1)] [])
  refine own_go (fun _ k => XS.aloadN Xz4.here hx rfl (hb hby own_d5_6) rfl rfl k) ?_
  show own_Go _ _ _ _ Tz4 (mkF m 7 #[.val (.ref a1)] [(.ref a1)])
  obtain ⟨Tz5, Xz5, ez5, stz5⟩ := getF Xz4 hx hZ hown (host := "") (Or.inl (hw _ (List.mem_of_getElem? (i := 33) rfl))) Via.refl ez4 F_coder_a1 (g := (mkF m 7 #[.val (.ref a1)] [(.ref a1)])) rfl rfl (hb hby own_d5_7)
  refine own_go stz5 ?_
  show own_Go _ _ _ _ Tz5 (mkF m 10 #[.val (.ref a1)] [(.int (0 : Int32))])
  refine own_go (fun _ k => XS.ifNo Xz5.here hx rfl (hb hby own_d5_10) rfl ((if0 _ _).trans (teq (by decide : (0 : Int32) = (0 : Int32))).2) k) ?_
  show own_Go _ _ _ _ Tz5 (mkF m 13 #[.val (.ref a1)] [])
  refine own_go (fun _ k => XS.iconst Xz5.here hx rfl (hb hby own_d5_13) k) ?_
  show own_Go _ _ _ _ Tz5 (mkF m 14 #[.val (.ref a1)] [(.int (1 : Int32))])
  refine own_go (fun _ k => XS.goto Xz5.here hx rfl (pc0 := 14) (pc' := 18) rfl (hb hby own_d5_14) (by decide) (by decide) k) ?_
  show own_Go _ _ _ _ Tz5 (mkF m 18 #[.val (.ref a1)] [(.int (1 : Int32))])
  exact own_end Xz5 hlk (v := (some (.int (1 : Int32)))) (fun h => by rw [hret] at h; cases h) (fun fs hr => retN Xz5 hx (t := .boolean) hret (by simp) (hb hby own_d5_18) hr) (by rw [ez5]; exact ⟨rfl, N0, rfl⟩) (by decide) (by decide)
theorem own_shr0 (n : Int32) : (n >>> ((0 : Int32) &&& 31)) = n := by
  apply Int32.toInt_inj.mp
  have h := c_ishr n 0 0 (by decide)
  rw [h]
  omega
theorem own_ef2 (m : MethodId) (a1 : Addr) : entryFrame m #[(.ref a1)] 1 = mkF m 0 #[.val (.ref a1)] [] := by first | (simp [entryFrame, mkF, argsToLocals, Value.category]; done) | rfl
theorem own_d2_0 : decode jdk_42_method_54_code 0 = .ok (.aload_n 0, 1) := by decide +kernel
theorem own_d2_1 : decode jdk_42_method_54_code 1 = .ok (.getfield 9, 3) := by decide +kernel
theorem own_d2_4 : decode jdk_42_method_54_code 4 = .ok (.arraylength, 1) := by decide +kernel
theorem own_d2_5 : decode jdk_42_method_54_code 5 = .ok (.aload_n 0, 1) := by decide +kernel
theorem own_d2_6 : decode jdk_42_method_54_code 6 = .ok (.invokevirtual 335, 3) := by decide +kernel
theorem own_pd0 : parseMethodDescriptor "()B" = some ⟨[], some .byte⟩ := by decide +kernel
theorem own_d2_9 : decode jdk_42_method_54_code 9 = .ok (.ishr, 1) := by decide +kernel
theorem own_d2_10 : decode jdk_42_method_54_code 10 = .ok (.ireturn, 1) := by decide +kernel
def own_Q2 (Z : State) (n : Int32) (h0 : Heap) (n0 : Nat) (v : Option Value) (h : Heap) (L : List Loc) : Prop := v = some (.int n) ∧ Fr n0 L ∧ h = h0
set_option maxRecDepth 65536 in
set_option maxHeartbeats 40000000 in
theorem own_rm2 (l : Launch) (Z : State) (a0 : Array Value) (hw : ∀ d ∈ tables_1, d.before a0 Z = true) (ws : List Jvm.Cond) (a1 : Addr) (h0 : Heap) (n0 : Nat) (O : Old Z n0 h0) (cs : Int32) (hcs : ¬ cs = (0 : Int32)) (Scs : Sta Z Z.heap "java/lang/String" "COMPACT_STRINGS" "Z" (.int cs)) (E_a1 : Exa Z h0 a1 "java/lang/String") (F_coder_a1 : Fld Z h0 a1 "java/lang/String" "coder" "B" (.int (0 : Int32))) (va : Addr) (cv : Cell) (n x : Int32) (hn : ¬ n < 0) (A_va : Arr Z h0 va cv .byte) (S_va : cv.slots.size = n.toNatClampNeg) (F_value_a1 : Fld Z h0 a1 "java/lang/String" "value" "[B" (.ref va)) :
    own_Met l Z (⟨"java/lang/String", "length", "()I"⟩ : MethodName) jdk_42_method_54_code 1 (some .int) ws ({ frames := 1, cells := 0, slots := 0, locals := 20 } : Room) #[(.ref a1)] h0 (own_Q2 Z n h0 n0) := by
  refine own_met (plainFor_of_name own_pn1) ?_
  intro p e s m below meth c s₁ X0 hx hZ hby hml hown hnm hret hlk e0
  have N0 := Fr.nil n0
  refine own_go (fun t k => castTop (own_ef2 m a1) k) ?_
  show own_Go _ _ _ _ s₁ (mkF m 0 #[.val (.ref a1)] [])
  refine own_go (fun _ k => XS.aloadN X0.here hx rfl (hb hby own_d2_0) rfl rfl k) ?_
  show own_Go _ _ _ _ s₁ (mkF m 1 #[.val (.ref a1)] [(.ref a1)])
  obtain ⟨Tz6, Xz6, ez6, stz6⟩ := getF X0 hx hZ hown (host := "") (Or.inl (hw _ (List.mem_of_getElem? (i := 25) rfl))) Via.refl e0 F_value_a1 (g := (mkF m 1 #[.val (.ref a1)] [(.ref a1)])) rfl rfl (hb hby own_d2_1)
  refine own_go stz6 ?_
  show own_Go _ _ _ _ Tz6 (mkF m 4 #[.val (.ref a1)] [(.ref va)])
  refine own_go (fun _ k => Xz6.arraylength hx (by rw [ez6]; exact A_va.1) (State.isArrayOf_alike hZ.alike A_va.2.1) (g := (mkF m 4 #[.val (.ref a1)] [(.ref va)])) rfl rfl (hb hby own_d2_4) _ k) ?_
  rw [len_of S_va hn]
  show own_Go _ _ _ _ Tz6 (mkF m 5 #[.val (.ref a1)] [(.int n)])
  refine own_go (fun _ k => XS.aloadN Xz6.here hx rfl (hb hby own_d2_5) rfl rfl k) ?_
  show own_Go _ _ _ _ Tz6 (mkF m 6 #[.val (.ref a1)] [(.ref a1), (.int n)])
  obtain ⟨vz7, Tz7, Lz7, Xz7, hQz7, stz7⟩ := own_callV Xz6 hx hZ hown (hw _ (List.mem_of_getElem? (i := 27) rfl)) (hw _ (List.mem_of_getElem? (i := 28) rfl)) (hw _ (List.mem_of_getElem? (i := 30) rfl)) (hw _ (List.mem_of_getElem? (i := 29) rfl)) (hw _ (List.mem_of_getElem? (i := 23) rfl)) (hw _ (List.mem_of_getElem? (i := 31) rfl)) (by decide) ez6 E_a1 (own_rm3 l Z a0 hw [] a1 h0 n0 O cs hcs Scs F_coder_a1) (W := 1) (by decide) (by decide) (by decide) (by decide) own_pd0 rfl (g := (mkF m 6 #[.val (.ref a1)] [(.ref a1), (.int n)])) (argsL := []) (rest := [(.int n)]) rfl (by rw [hml]; rfl) rfl (by show 2 * 0 + _ ≤ _; exact Nat.le_of_eq rfl) (hb hby own_d2_6)
  obtain ⟨rfl, Nz7q, ehz7⟩ := hQz7
  have Nz7 := Fr.app N0 Nz7q
  refine own_go stz7 ?_
  show own_Go _ _ _ _ Tz7 (mkF m 9 #[.val (.ref a1)] [(.int (0 : Int32)), (.int n)])
  refine own_go (fun _ k => XS.ishr Xz7.here hx rfl (hb hby own_d2_9) rfl k) ?_
  show own_Go _ _ _ _ Tz7 (mkF m 10 #[.val (.ref a1)] [(.int (n >>> ((0 : Int32) &&& 31)))])
  rw [show (n >>> ((0 : Int32) &&& 31)) = n from own_shr0 n]
  show own_Go _ _ _ _ Tz7 (mkF m 10 #[.val (.ref a1)] [(.int n)])
  exact own_end Xz7 hlk (v := (some (.int n))) (fun h => by rw [hret] at h; cases h) (fun fs hr => retOut Xz7 hx hret rfl (Or.inl ⟨rfl, Or.inl rfl, _, rfl⟩) (hb hby own_d2_10) hr) (by rw [ehz7]; exact ⟨rfl, Nz7, rfl⟩) (by decide) (by decide)
theorem own_efpcR (m : MethodId) (p1 : Int32) (p2 : Int32) (a3 : Addr) : entryFrame m #[(.int p1), (.int p2), (.ref a3)] 3 = mkF m 0 #[.val (.int p1), .val (.int p2), .val (.ref a3)] [] := by first | (simp [entryFrame, mkF, argsToLocals, Value.category]; done) | rfl
theorem own_d8_0 : decode jdk_41_method_11_code 0 = .ok (.iload_n 0, 1) := by decide +kernel
theorem own_d8_1 : decode jdk_41_method_11_code 1 = .ok (.ifCond .lt 8, 3) := by decide +kernel
theorem own_d8_4 : decode jdk_41_method_11_code 4 = .ok (.iload_n 0, 1) := by decide +kernel
theorem own_d8_5 : decode jdk_41_method_11_code 5 = .ok (.iload_n 1, 1) := by decide +kernel
theorem own_d8_6 : decode jdk_41_method_11_code 6 = .ok (.if_icmp .lt 10, 3) := by decide +kernel
theorem own_d8_16 : decode jdk_41_method_11_code 16 = .ok (.iload_n 0, 1) := by decide +kernel
theorem own_d8_17 : decode jdk_41_method_11_code 17 = .ok (.ireturn, 1) := by decide +kernel
theorem own_pn2 : plainName "jdk/internal/util/Preconditions" = true := by first | (simp [plainName, overriddenIn]; done) | decide +kernel
def own_QpcR (Z : State) (p1 : Int32) (h0 : Heap) (n0 : Nat) (v : Option Value) (h : Heap) (L : List Loc) : Prop := v = some (.int p1) ∧ Fr n0 L ∧ h = h0
set_option maxRecDepth 65536 in
set_option maxHeartbeats 40000000 in
theorem own_rmpcR (l : Launch) (Z : State) (a0 : Array Value) (hw : ∀ d ∈ tables_1, d.before a0 Z = true) (ws : List Jvm.Cond) (p1 : Int32) (p2 : Int32) (a3 : Addr) (h0 : Heap) (n0 : Nat) (hlo : ¬ p1 < (0 : Int32)) (hhi : p1 < p2) :
    own_Met l Z (⟨"jdk/internal/util/Preconditions", "checkIndex", "(IILjava/util/function/BiFunction;)I"⟩ : MethodName) jdk_41_method_11_code 3 (some .int) ws ({ frames := 0, cells := 0, slots := 0, locals := 0 } : Room) #[(.int p1), (.int p2), (.ref a3)] h0 (own_QpcR Z p1 h0 n0) := by
  refine own_met (plainFor_of_name own_pn2) ?_
  intro p e s m below meth c s₁ X0 hx hZ hby hml hown hnm hret hlk e0
  have N0 := Fr.nil n0
  refine own_go (fun t k => castTop (own_efpcR m p1 p2 a3) k) ?_
  show own_Go _ _ _ _ s₁ (mkF m 0 #[.val (.int p1), .val (.int p2), .val (.ref a3)] [])
  refine own_go (fun _ k => XS.iloadN X0.here hx rfl (hb hby own_d8_0) rfl k) ?_
  show own_Go _ _ _ _ s₁ (mkF m 1 #[.val (.int p1), .val (.int p2), .val (.ref a3)] [(.int p1)])
  refine own_go (fun _ k => XS.ifNo X0.here hx rfl (hb hby own_d8_1) rfl ((if0 _ _).trans (flt hlo).1) k) ?_
  show own_Go _ _ _ _ s₁ (mkF m 4 #[.val (.int p1), .val (.int p2), .val (.ref a3)] [])
  refine own_go (fun _ k => XS.iloadN X0.here hx rfl (hb hby own_d8_4) rfl k) ?_
  show own_Go _ _ _ _ s₁ (mkF m 5 #[.val (.int p1), .val (.int p2), .val (.ref a3)] [(.int p1)])
  refine own_go (fun _ k => XS.iloadN X0.here hx rfl (hb hby own_d8_5) rfl k) ?_
  show own_Go _ _ _ _ s₁ (mkF m 6 #[.val (.int p1), .val (.int p2), .val (.ref a3)] [(.int p2), (.int p1)])
  refine own_go (fun _ k => XS.icmpYes X0.here hx rfl (pc0 := 6) (pc' := 16) rfl (hb hby own_d8_6) rfl (tlt hhi).1 (by decide) (by decide) k) ?_
  show own_Go _ _ _ _ s₁ (mkF m 16 #[.val (.int p1), .val (.int p2), .val (.ref a3)] [])
  refine own_go (fun _ k => XS.iloadN X0.here hx rfl (hb hby own_d8_16) rfl k) ?_
  show own_Go _ _ _ _ s₁ (mkF m 17 #[.val (.int p1), .val (.int p2), .val (.ref a3)] [(.int p1)])
  exact own_end X0 hlk (v := (some (.int p1))) (fun h => by rw [hret] at h; cases h) (fun fs hr => retOut X0 hx hret rfl (Or.inl ⟨rfl, Or.inl rfl, _, rfl⟩) (hb hby own_d8_17) hr) (by rw [e0]; exact ⟨rfl, N0, rfl⟩) (by decide) (by decide)
theorem own_efpcN (m : MethodId) (p1 : Int32) (p2 : Int32) : entryFrame m #[(.int p1), (.int p2), .null] 3 = mkF m 0 #[.val (.int p1), .val (.int p2), .val .null] [] := by first | (simp [entryFrame, mkF, argsToLocals, Value.category]; done) | rfl
def own_QpcN (Z : State) (p1 : Int32) (h0 : Heap) (n0 : Nat) (v : Option Value) (h : Heap) (L : List Loc) : Prop := v = some (.int p1) ∧ Fr n0 L ∧ h = h0
set_option maxRecDepth 65536 in
set_option maxHeartbeats 40000000 in
theorem own_rmpcN (l : Launch) (Z : State) (a0 : Array Value) (hw : ∀ d ∈ tables_1, d.before a0 Z = true) (ws : List Jvm.Cond) (p1 : Int32) (p2 : Int32) (h0 : Heap) (n0 : Nat) (hlo : ¬ p1 < (0 : Int32)) (hhi : p1 < p2) :
    own_Met l Z (⟨"jdk/internal/util/Preconditions", "checkIndex", "(IILjava/util/function/BiFunction;)I"⟩ : MethodName) jdk_41_method_11_code 3 (some .int) ws ({ frames := 0, cells := 0, slots := 0, locals := 0 } : Room) #[(.int p1), (.int p2), .null] h0 (own_QpcN Z p1 h0 n0) := by
  refine own_met (plainFor_of_name own_pn2) ?_
  intro p e s m below meth c s₁ X0 hx hZ hby hml hown hnm hret hlk e0
  have N0 := Fr.nil n0
  refine own_go (fun t k => castTop (own_efpcN m p1 p2) k) ?_
  show own_Go _ _ _ _ s₁ (mkF m 0 #[.val (.int p1), .val (.int p2), .val .null] [])
  refine own_go (fun _ k => XS.iloadN X0.here hx rfl (hb hby own_d8_0) rfl k) ?_
  show own_Go _ _ _ _ s₁ (mkF m 1 #[.val (.int p1), .val (.int p2), .val .null] [(.int p1)])
  refine own_go (fun _ k => XS.ifNo X0.here hx rfl (hb hby own_d8_1) rfl ((if0 _ _).trans (flt hlo).1) k) ?_
  show own_Go _ _ _ _ s₁ (mkF m 4 #[.val (.int p1), .val (.int p2), .val .null] [])
  refine own_go (fun _ k => XS.iloadN X0.here hx rfl (hb hby own_d8_4) rfl k) ?_
  show own_Go _ _ _ _ s₁ (mkF m 5 #[.val (.int p1), .val (.int p2), .val .null] [(.int p1)])
  refine own_go (fun _ k => XS.iloadN X0.here hx rfl (hb hby own_d8_5) rfl k) ?_
  show own_Go _ _ _ _ s₁ (mkF m 6 #[.val (.int p1), .val (.int p2), .val .null] [(.int p2), (.int p1)])
  refine own_go (fun _ k => XS.icmpYes X0.here hx rfl (pc0 := 6) (pc' := 16) rfl (hb hby own_d8_6) rfl (tlt hhi).1 (by decide) (by decide) k) ?_
  show own_Go _ _ _ _ s₁ (mkF m 16 #[.val (.int p1), .val (.int p2), .val .null] [])
  refine own_go (fun _ k => XS.iloadN X0.here hx rfl (hb hby own_d8_16) rfl k) ?_
  show own_Go _ _ _ _ s₁ (mkF m 17 #[.val (.int p1), .val (.int p2), .val .null] [(.int p1)])
  exact own_end X0 hlk (v := (some (.int p1))) (fun h => by rw [hret] at h; cases h) (fun fs hr => retOut X0 hx hret rfl (Or.inl ⟨rfl, Or.inl rfl, _, rfl⟩) (hb hby own_d8_17) hr) (by rw [e0]; exact ⟨rfl, N0, rfl⟩) (by decide) (by decide)
theorem own_ef7 (m : MethodId) (p1 : Int32) (p2 : Int32) : entryFrame m #[(.int p1), (.int p2)] 2 = mkF m 0 #[.val (.int p1), .val (.int p2)] [] := by first | (simp [entryFrame, mkF, argsToLocals, Value.category]; done) | rfl
theorem own_d7_0 : decode jdk_42_method_155_code 0 = .ok (.iload_n 0, 1) := by decide +kernel
theorem own_d7_1 : decode jdk_42_method_155_code 1 = .ok (.iload_n 1, 1) := by decide +kernel
theorem own_d7_2 : decode jdk_42_method_155_code 2 = .ok (.getstatic 1053, 3) := by decide +kernel
theorem own_d7_5 : decode jdk_42_method_155_code 5 = .ok (.invokestatic 1059, 3) := by decide +kernel
theorem own_pd1 : parseMethodDescriptor "(IILjava/util/function/BiFunction;)I" = some ⟨[.int, .int, (.object "java/util/function/BiFunction")], some .int⟩ := by decide +kernel
theorem own_d7_8 : decode jdk_42_method_155_code 8 = .ok (.pop, 1) := by decide +kernel
theorem own_d7_9 : decode jdk_42_method_155_code 9 = .ok (.return_, 1) := by decide +kernel
def own_Q7 (Z : State) (p1 : Int32) (h0 : Heap) (n0 : Nat) (v : Option Value) (h : Heap) (L : List Loc) : Prop := v = none ∧ Fr n0 L ∧ h = h0
set_option maxRecDepth 65536 in
set_option maxHeartbeats 40000000 in
theorem own_rm7 (l : Launch) (Z : State) (a0 : Array Value) (hw : ∀ d ∈ tables_1, d.before a0 Z = true) (ws : List Jvm.Cond) (p1 : Int32) (p2 : Int32) (h0 : Heap) (n0 : Nat) (O : Old Z n0 h0) (fv : Value) (hfv : fv = .null ∨ ∃ a, fv = .ref a) (Sfv : Sta Z Z.heap "jdk/internal/util/Preconditions" "SIOOBE_FORMATTER" "Ljava/util/function/BiFunction;" fv) (hlo : ¬ p1 < (0 : Int32)) (hhi : p1 < p2) :
    own_Met l Z (⟨"java/lang/String", "checkIndex", "(II)V"⟩ : MethodName) jdk_42_method_155_code 2 none ws ({ frames := 1, cells := 0, slots := 0, locals := 20 } : Room) #[(.int p1), (.int p2)] h0 (own_Q7 Z p1 h0 n0) := by
  refine own_met (plainFor_of_name own_pn1) ?_
  intro p e s m below meth c s₁ X0 hx hZ hby hml hown hnm hret hlk e0
  have N0 := Fr.nil n0
  refine own_go (fun t k => castTop (own_ef7 m p1 p2) k) ?_
  show own_Go _ _ _ _ s₁ (mkF m 0 #[.val (.int p1), .val (.int p2)] [])
  refine own_go (fun _ k => XS.iloadN X0.here hx rfl (hb hby own_d7_0) rfl k) ?_
  show own_Go _ _ _ _ s₁ (mkF m 1 #[.val (.int p1), .val (.int p2)] [(.int p1)])
  refine own_go (fun _ k => XS.iloadN X0.here hx rfl (hb hby own_d7_1) rfl k) ?_
  show own_Go _ _ _ _ s₁ (mkF m 2 #[.val (.int p1), .val (.int p2)] [(.int p2), (.int p1)])
  rcases hfv with rfl | ⟨fa, rfl⟩
  · show own_Go _ _ _ _ s₁ (mkF m 2 #[.val (.int p1), .val (.int p2)] [(.int p2), (.int p1)])
    obtain ⟨Tz8, Xz8, ez8, stz8⟩ := getS2 X0 hx hZ hown (host := "") (Or.inl (hw _ (List.mem_of_getElem? (i := 52) rfl))) Via.refl e0 (Sfv.ext O.2) (g := (mkF m 2 #[.val (.int p1), .val (.int p2)] [(.int p2), (.int p1)])) rfl (hb hby own_d7_2)
    refine own_go stz8 ?_
    show own_Go _ _ _ _ Tz8 (mkF m 5 #[.val (.int p1), .val (.int p2)] [.null, (.int p2), (.int p1)])
    obtain ⟨vz9, Tz9, Lz9, Xz9, hQz9, stz9⟩ := own_callS Xz8 hx hZ hown (hw _ (List.mem_of_getElem? (i := 54) rfl)) (hw _ (List.mem_of_getElem? (i := 55) rfl)) (hw _ (List.mem_of_getElem? (i := 53) rfl)) (hw _ (List.mem_of_getElem? (i := 56) rfl)) (by decide) ez8 (own_rmpcN l Z a0 hw [] p1 p2  h0 n0 hlo hhi) (W := 0) (by decide) (by decide) (by decide) (by decide) own_pd1 rfl (g := (mkF m 5 #[.val (.int p1), .val (.int p2)] [.null, (.int p2), (.int p1)])) (argsL := [(.int p1), (.int p2), .null]) (rest := []) rfl (by rw [hml]; rfl) rfl (by show 2 * 0 + _ ≤ _; exact Nat.le_of_eq rfl) (hb hby own_d7_5)
    obtain ⟨rfl, Nz9q, ehz9⟩ := hQz9
    have Nz9 := Fr.app N0 Nz9q
    refine own_go stz9 ?_
    show own_Go _ _ _ _ Tz9 (mkF m 8 #[.val (.int p1), .val (.int p2)] [(.int p1)])
    refine own_go (fun _ k => XS.pop Xz9.here hx rfl (hb hby own_d7_8) rfl rfl k) ?_
    show own_Go _ _ _ _ Tz9 (mkF m 9 #[.val (.int p1), .val (.int p2)] [])
    exact own_end Xz9 hlk (v := none) (fun _ => rfl) (fun fs hr => Xz9.returnOut hx hret (hb hby own_d7_9) hr) (by rw [ehz9]; exact ⟨rfl, Nz9, rfl⟩) (by decide) (by decide)
  · show own_Go _ _ _ _ s₁ (mkF m 2 #[.val (.int p1), .val (.int p2)] [(.int p2), (.int p1)])
    obtain ⟨Tz10, Xz10, ez10, stz10⟩ := getS2 X0 hx hZ hown (host := "") (Or.inl (hw _ (List.mem_of_getElem? (i := 52) rfl))) Via.refl e0 (Sfv.ext O.2) (g := (mkF m 2 #[.val (.int p1), .val (.int p2)] [(.int p2), (.int p1)])) rfl (hb hby own_d7_2)
    refine own_go stz10 ?_
    show own_Go _ _ _ _ Tz10 (mkF m 5 #[.val (.int p1), .val (.int p2)] [(.ref fa), (.int p2), (.int p1)])
    obtain ⟨vz11, Tz11, Lz11, Xz11, hQz11, stz11⟩ := own_callS Xz10 hx hZ hown (hw _ (List.mem_of_getElem? (i := 54) rfl)) (hw _ (List.mem_of_getElem? (i := 55) rfl)) (hw _ (List.mem_of_getElem? (i := 53) rfl)) (hw _ (List.mem_of_getElem? (i := 56) rfl)) (by decide) ez10 (own_rmpcR l Z a0 hw [] p1 p2 fa h0 n0 hlo hhi) (W := 0) (by decide) (by decide) (by decide) (by decide) own_pd1 rfl (g := (mkF m 5 #[.val (.int p1), .val (.int p2)] [(.ref fa), (.int p2), (.int p1)])) (argsL := [(.int p1), (.int p2), (.ref fa)]) (rest := []) rfl (by rw [hml]; rfl) rfl (by show 2 * 0 + _ ≤ _; exact Nat.le_of_eq rfl) (hb hby own_d7_5)
    obtain ⟨rfl, Nz11q, ehz11⟩ := hQz11
    have Nz11 := Fr.app N0 Nz11q
    refine own_go stz11 ?_
    show own_Go _ _ _ _ Tz11 (mkF m 8 #[.val (.int p1), .val (.int p2)] [(.int p1)])
    refine own_go (fun _ k => XS.pop Xz11.here hx rfl (hb hby own_d7_8) rfl rfl k) ?_
    show own_Go _ _ _ _ Tz11 (mkF m 9 #[.val (.int p1), .val (.int p2)] [])
    exact own_end Xz11 hlk (v := none) (fun _ => rfl) (fun fs hr => Xz11.returnOut hx hret (hb hby own_d7_9) hr) (by rw [ehz11]; exact ⟨rfl, Nz11, rfl⟩) (by decide) (by decide)
theorem own_ef6 (m : MethodId) (va : Addr) (p2 : Int32) : entryFrame m #[(.ref va), (.int p2)] 2 = mkF m 0 #[.val (.ref va), .val (.int p2)] [] := by first | (simp [entryFrame, mkF, argsToLocals, Value.category]; done) | rfl
theorem own_d6_0 : decode jdk_43_method_2_code 0 = .ok (.iload_n 1, 1) := by decide +kernel
theorem own_d6_1 : decode jdk_43_method_2_code 1 = .ok (.aload_n 0, 1) := by decide +kernel
theorem own_d6_2 : decode jdk_43_method_2_code 2 = .ok (.arraylength, 1) := by decide +kernel
theorem own_d6_3 : decode jdk_43_method_2_code 3 = .ok (.invokestatic 9, 3) := by decide +kernel
theorem own_pd2 : parseMethodDescriptor "(II)V" = some ⟨[.int, .int], none⟩ := by decide +kernel
theorem own_d6_6 : decode jdk_43_method_2_code 6 = .ok (.aload_n 0, 1) := by decide +kernel
theorem own_d6_7 : decode jdk_43_method_2_code 7 = .ok (.iload_n 1, 1) := by decide +kernel
theorem own_d6_8 : decode jdk_43_method_2_code 8 = .ok (.baload, 1) := by decide +kernel
theorem own_d6_9 : decode jdk_43_method_2_code 9 = .ok (.sipush 255, 3) := by decide +kernel
theorem own_d6_12 : decode jdk_43_method_2_code 12 = .ok (.iand, 1) := by decide +kernel
theorem own_d6_13 : decode jdk_43_method_2_code 13 = .ok (.i2c, 1) := by decide +kernel
theorem own_d6_14 : decode jdk_43_method_2_code 14 = .ok (.ireturn, 1) := by decide +kernel
theorem own_pn3 : plainName "java/lang/StringLatin1" = true := by first | (simp [plainName, overriddenIn]; done) | decide +kernel
def own_Q6 (Z : State) (x : Int32) (h0 : Heap) (n0 : Nat) (v : Option Value) (h : Heap) (L : List Loc) : Prop := v = some (.int x) ∧ Fr n0 L ∧ h = h0
set_option maxRecDepth 65536 in
set_option maxHeartbeats 40000000 in
theorem own_rm6 (l : Launch) (Z : State) (a0 : Array Value) (hw : ∀ d ∈ tables_1, d.before a0 Z = true) (ws : List Jvm.Cond) (va : Addr) (p2 : Int32) (h0 : Heap) (n0 : Nat) (O : Old Z n0 h0) (fv : Value) (hfv : fv = .null ∨ ∃ a, fv = .ref a) (Sfv : Sta Z Z.heap "jdk/internal/util/Preconditions" "SIOOBE_FORMATTER" "Ljava/util/function/BiFunction;" fv) (cv : Cell) (n x : Int32) (hn : ¬ n < 0) (A_va : Arr Z h0 va cv .byte) (S_va : cv.slots.size = n.toNatClampNeg) (h0x : cv.slots[(0 : Int32).toNatClampNeg]? = some (.int x)) (hhi : (0 : Int32) < n) (hxx : (x &&& (255 : Int32)).toUInt32.toUInt16.toUInt32.toInt32 = x) (hnx : narrow .char (.int x) = .int x) (hp2 : p2 = (0 : Int32)) :
    own_Met l Z (⟨"java/lang/StringLatin1", "charAt", "([BI)C"⟩ : MethodName) jdk_43_method_2_code 2 (some .char) ws ({ frames := 2, cells := 0, slots := 0, locals := 40 } : Room) #[(.ref va), (.int p2)] h0 (own_Q6 Z x h0 n0) := by
  refine own_met (plainFor_of_name own_pn3) ?_
  intro p e s m below meth c s₁ X0 hx hZ hby hml hown hnm hret hlk e0
  have N0 := Fr.nil n0
  refine own_go (fun t k => castTop (own_ef6 m va p2) k) ?_
  show own_Go _ _ _ _ s₁ (mkF m 0 #[.val (.ref va), .val (.int p2)] [])
  subst hp2
  show own_Go _ _ _ _ s₁ (mkF m 0 #[.val (.ref va), .val (.int (0 : Int32))] [])
  refine own_go (fun _ k => XS.iloadN X0.here hx rfl (hb hby own_d6_0) rfl k) ?_
  show own_Go _ _ _ _ s₁ (mkF m 1 #[.val (.ref va), .val (.int (0 : Int32))] [(.int (0 : Int32))])
  refine own_go (fun _ k => XS.aloadN X0.here hx rfl (hb hby own_d6_1) rfl rfl k) ?_
  show own_Go _ _ _ _ s₁ (mkF m 2 #[.val (.ref va), .val (.int (0 : Int32))] [(.ref va), (.int (0 : Int32))])
  refine own_go (fun _ k => X0.arraylength hx (by rw [e0]; exact A_va.1) (State.isArrayOf_alike hZ.alike A_va.2.1) (g := (mkF m 2 #[.val (.ref va), .val (.int (0 : Int32))] [(.ref va), (.int (0 : Int32))])) rfl rfl (hb hby own_d6_2) _ k) ?_
  rw [len_of S_va hn]
  show own_Go _ _ _ _ s₁ (mkF m 3 #[.val (.ref va), .val (.int (0 : Int32))] [(.int n), (.int (0 : Int32))])
  obtain ⟨vz12, Tz12, Lz12, Xz12, hQz12, stz12⟩ := own_callS X0 hx hZ hown (hw _ (List.mem_of_getElem? (i := 49) rfl)) (hw _ (List.mem_of_getElem? (i := 50) rfl)) (hw _ (List.mem_of_getElem? (i := 23) rfl)) (hw _ (List.mem_of_getElem? (i := 51) rfl)) (by decide) e0 (own_rm7 l Z a0 hw [] (0 : Int32) n h0 n0 O fv hfv Sfv (by decide) hhi) (W := 0) (by decide) (by decide) (by decide) (by decide) own_pd2 rfl (g := (mkF m 3 #[.val (.ref va), .val (.int (0 : Int32))] [(.int n), (.int (0 : Int32))])) (argsL := [(.int (0 : Int32)), (.int n)]) (rest := []) rfl (by rw [hml]; rfl) rfl (by show 2 * 0 + _ ≤ _; exact Nat.le_of_eq rfl) (hb hby own_d6_3)
  obtain ⟨rfl, Nz12q, ehz12⟩ := hQz12
  have Nz12 := Fr.app N0 Nz12q
  refine own_go stz12 ?_
  show own_Go _ _ _ _ Tz12 (mkF m 6 #[.val (.ref va), .val (.int (0 : Int32))] [])
  refine own_go (fun _ k => XS.aloadN Xz12.here hx rfl (hb hby own_d6_6) rfl rfl k) ?_
  show own_Go _ _ _ _ Tz12 (mkF m 7 #[.val (.ref va), .val (.int (0 : Int32))] [(.ref va)])
  refine own_go (fun _ k => XS.iloadN Xz12.here hx rfl (hb hby own_d6_7) rfl k) ?_
  show own_Go _ _ _ _ Tz12 (mkF m 8 #[.val (.ref va), .val (.int (0 : Int32))] [(.int (0 : Int32)), (.ref va)])
  have hin := inb_of (j := (0 : Int32)) S_va ⟨by decide, hhi⟩
  refine own_go (fun _ k => Xz12.baloadBytes hx (j := (0 : Int32)) (v := (.int x)) (by rw [ehz12]; exact A_va.1) (State.isArrayOf_alike hZ.alike A_va.2.1) A_va.2.2 hin h0x (g := (mkF m 8 #[.val (.ref va), .val (.int (0 : Int32))] [(.int (0 : Int32)), (.ref va)])) rfl rfl (hb hby own_d6_8) _ k) ?_
  show own_Go _ _ _ _ Tz12 (mkF m 9 #[.val (.ref va), .val (.int (0 : Int32))] [(.int x)])
  refine own_go (fun _ k => XS.sipush Xz12.here hx rfl (hb hby own_d6_9) k) ?_
  show own_Go _ _ _ _ Tz12 (mkF m 12 #[.val (.ref va), .val (.int (0 : Int32))] [(.int (255 : Int32)), (.int x)])
  refine own_go (fun _ k => XS.iand Xz12.here hx rfl (hb hby own_d6_12) rfl k) ?_
  show own_Go _ _ _ _ Tz12 (mkF m 13 #[.val (.ref va), .val (.int (0 : Int32))] [(.int (x &&& (255 : Int32)))])
  refine own_go (fun _ k => XS.i2c Xz12.here hx rfl (hb hby own_d6_13) rfl k) ?_
  show own_Go _ _ _ _ Tz12 (mkF m 14 #[.val (.ref va), .val (.int (0 : Int32))] [(.int (x &&& (255 : Int32)).toUInt32.toUInt16.toUInt32.toInt32)])
  rw [show (x &&& (255 : Int32)).toUInt32.toUInt16.toUInt32.toInt32 = x from hxx]
  show own_Go _ _ _ _ Tz12 (mkF m 14 #[.val (.ref va), .val (.int (0 : Int32))] [(.int x)])
  exact own_end Xz12 hlk (v := (some (.int x))) (fun h => by rw [hret] at h; cases h) (fun fs hr => retOut Xz12 hx hret hnx (Or.inl ⟨rfl, by simp, _, rfl⟩) (hb hby own_d6_14) hr) (by rw [ehz12]; exact ⟨rfl, Nz12, rfl⟩) (by decide) (by decide)
theorem own_ef4 (m : MethodId) (a1 : Addr) (p2 : Int32) : entryFrame m #[(.ref a1), (.int p2)] 2 = mkF m 0 #[.val (.ref a1), .val (.int p2)] [] := by first | (simp [entryFrame, mkF, argsToLocals, Value.category]; done) | rfl
theorem own_d4_0 : decode jdk_42_method_56_code 0 = .ok (.aload_n 0, 1) := by decide +kernel
theorem own_d4_1 : decode jdk_42_method_56_code 1 = .ok (.invokevirtual 492, 3) := by decide +kernel
theorem own_pd3 : parseMethodDescriptor "()Z" = some ⟨[], some .boolean⟩ := by decide +kernel
theorem own_d4_4 : decode jdk_42_method_56_code 4 = .ok (.ifCond .eq 12, 3) := by decide +kernel
theorem own_d4_7 : decode jdk_42_method_56_code 7 = .ok (.aload_n 0, 1) := by decide +kernel
theorem own_d4_8 : decode jdk_42_method_56_code 8 = .ok (.getfield 9, 3) := by decide +kernel
theorem own_d4_11 : decode jdk_42_method_56_code 11 = .ok (.iload_n 1, 1) := by decide +kernel
theorem own_d4_12 : decode jdk_42_method_56_code 12 = .ok (.invokestatic 495, 3) := by decide +kernel
theorem own_pd4 : parseMethodDescriptor "([BI)C" = some ⟨[(.array .byte), .int], some .char⟩ := by decide +kernel
theorem own_d4_15 : decode jdk_42_method_56_code 15 = .ok (.ireturn, 1) := by decide +kernel
def own_Q4 (Z : State) (x : Int32) (h0 : Heap) (n0 : Nat) (v : Option Value) (h : Heap) (L : List Loc) : Prop := v = some (.int x) ∧ Fr n0 L ∧ h = h0
set_option maxRecDepth 65536 in
set_option maxHeartbeats 40000000 in
theorem own_rm4 (l : Launch) (Z : State) (a0 : Array Value) (hw : ∀ d ∈ tables_1, d.before a0 Z = true) (ws : List Jvm.Cond) (a1 : Addr) (p2 : Int32) (h0 : Heap) (n0 : Nat) (O : Old Z n0 h0) (cs : Int32) (hcs : ¬ cs = (0 : Int32)) (Scs : Sta Z Z.heap "java/lang/String" "COMPACT_STRINGS" "Z" (.int cs)) (fv : Value) (hfv : fv = .null ∨ ∃ a, fv = .ref a) (Sfv : Sta Z Z.heap "jdk/internal/util/Preconditions" "SIOOBE_FORMATTER" "Ljava/util/function/BiFunction;" fv) (E_a1 : Exa Z h0 a1 "java/lang/String") (F_coder_a1 : Fld Z h0 a1 "java/lang/String" "coder" "B" (.int (0 : Int32))) (va : Addr) (cv : Cell) (n x : Int32) (hn : ¬ n < 0) (A_va : Arr Z h0 va cv .byte) (S_va : cv.slots.size = n.toNatClampNeg) (F_value_a1 : Fld Z h0 a1 "java/lang/String" "value" "[B" (.ref va)) (h0x : cv.slots[(0 : Int32).toNatClampNeg]? = some (.int x)) (hhi : (0 : Int32) < n) (hxx : (x &&& (255 : Int32)).toUInt32.toUInt16.toUInt32.toInt32 = x) (hnx : narrow .char (.int x) = .int x) (hp2 : p2 = (0 : Int32)) :
    own_Met l Z (⟨"java/lang/String", "charAt", "(I)C"⟩ : MethodName) jdk_42_method_56_code 2 (some .char) ws ({ frames := 3, cells := 0, slots := 0, locals := 60 } : Room) #[(.ref a1), (.int p2)] h0 (own_Q4 Z x h0 n0) := by
  refine own_met (plainFor_of_name own_pn1) ?_
  intro p e s m below meth c s₁ X0 hx hZ hby hml hown hnm hret hlk e0
  have N0 := Fr.nil n0
  refine own_go (fun t k => castTop (own_ef4 m a1 p2) k) ?_
  show own_Go _ _ _ _ s₁ (mkF m 0 #[.val (.ref a1), .val (.int p2)] [])
  refine own_go (fun _ k => XS.aloadN X0.here hx rfl (hb hby own_d4_0) rfl rfl k) ?_
  show own_Go _ _ _ _ s₁ (mkF m 1 #[.val (.ref a1), .val (.int p2)] [(.ref a1)])
  obtain ⟨vz13, Tz13, Lz13, Xz13, hQz13, stz13⟩ := own_callV X0 hx hZ hown (hw _ (List.mem_of_getElem? (i := 40) rfl)) (hw _ (List.mem_of_getElem? (i := 41) rfl)) (hw _ (List.mem_of_getElem? (i := 43) rfl)) (hw _ (List.mem_of_getElem? (i := 42) rfl)) (hw _ (List.mem_of_getElem? (i := 23) rfl)) (hw _ (List.mem_of_getElem? (i := 44) rfl)) (by decide) e0 E_a1 (own_rm5 l Z a0 hw [] a1 h0 n0 O cs hcs Scs F_coder_a1) (W := 0) (by decide) (by decide) (by decide) (by decide) own_pd3 rfl (g := (mkF m 1 #[.val (.ref a1), .val (.int p2)] [(.ref a1)])) (argsL := []) (rest := []) rfl (by rw [hml]; rfl) rfl (by show 2 * 0 + _ ≤ _; exact Nat.le_of_eq rfl) (hb hby own_d4_1)
  obtain ⟨rfl, Nz13q, ehz13⟩ := hQz13
  have Nz13 := Fr.app N0 Nz13q
  refine own_go stz13 ?_
  show own_Go _ _ _ _ Tz13 (mkF m 4 #[.val (.ref a1), .val (.int p2)] [(.int (1 : Int32))])
  refine own_go (fun _ k => XS.ifNo Xz13.here hx rfl (hb hby own_d4_4) rfl ((if0 _ _).trans (feq (by decide : ¬ ((1 : Int32) = (0 : Int32)))).1) k) ?_
  show own_Go _ _ _ _ Tz13 (mkF m 7 #[.val (.ref a1), .val (.int p2)] [])
  refine own_go (fun _ k => XS.aloadN Xz13.here hx rfl (hb hby own_d4_7) rfl rfl k) ?_
  show own_Go _ _ _ _ Tz13 (mkF m 8 #[.val (.ref a1), .val (.int p2)] [(.ref a1)])
  obtain ⟨Tz14, Xz14, ez14, stz14⟩ := getF Xz13 hx hZ hown (host := "") (Or.inl (hw _ (List.mem_of_getElem? (i := 25) rfl))) Via.refl ehz13 F_value_a1 (g := (mkF m 8 #[.val (.ref a1), .val (.int p2)] [(.ref a1)])) rfl rfl (hb hby own_d4_8)
  refine own_go stz14 ?_
  show own_Go _ _ _ _ Tz14 (mkF m 11 #[.val (.ref a1), .val (.int p2)] [(.ref va)])
  refine own_go (fun _ k => XS.iloadN Xz14.here hx rfl (hb hby own_d4_11) rfl k) ?_
  show own_Go _ _ _ _ Tz14 (mkF m 12 #[.val (.ref a1), .val (.int p2)] [(.int p2), (.ref va)])
  obtain ⟨vz15, Tz15, Lz15, Xz15, hQz15, stz15⟩ := own_callS Xz14 hx hZ hown (hw _ (List.mem_of_getElem? (i := 45) rfl)) (hw _ (List.mem_of_getElem? (i := 46) rfl)) (hw _ (List.mem_of_getElem? (i := 47) rfl)) (hw _ (List.mem_of_getElem? (i := 48) rfl)) (by decide) ez14 (own_rm6 l Z a0 hw [] va p2 h0 n0 O fv hfv Sfv cv n x hn A_va S_va h0x hhi hxx hnx hp2) (W := 0) (by decide) (by decide) (by decide) (by decide) own_pd4 rfl (g := (mkF m 12 #[.val (.ref a1), .val (.int p2)] [(.int p2), (.ref va)])) (argsL := [(.ref va), (.int p2)]) (rest := []) rfl (by rw [hml]; rfl) rfl (by show 2 * 0 + _ ≤ _; exact Nat.le_of_eq rfl) (hb hby own_d4_12)
  obtain ⟨rfl, Nz15q, ehz15⟩ := hQz15
  have Nz15 := Fr.app Nz13 Nz15q
  refine own_go stz15 ?_
  show own_Go _ _ _ _ Tz15 (mkF m 15 #[.val (.ref a1), .val (.int p2)] [(.int x)])
  exact own_end Xz15 hlk (v := (some (.int x))) (fun h => by rw [hret] at h; cases h) (fun fs hr => retOut Xz15 hx hret hnx (Or.inl ⟨rfl, by simp, _, rfl⟩) (hb hby own_d4_15) hr) (by rw [ehz15]; exact ⟨rfl, Nz15, rfl⟩) (by decide) (by decide)
theorem own_ef10 (m : MethodId) (a1 : Addr) : entryFrame m #[(.ref a1)] 1 = mkF m 0 #[.val (.ref a1)] [] := by first | (simp [entryFrame, mkF, argsToLocals, Value.category]; done) | rfl
theorem own_d10_0 : decode jdk_37_method_2_code 0 = .ok (.aload_n 0, 1) := by decide +kernel
theorem own_d10_1 : decode jdk_37_method_2_code 1 = .ok (.getfield 7, 3) := by decide +kernel
theorem own_d10_4 : decode jdk_37_method_2_code 4 = .ok (.ireturn, 1) := by decide +kernel
theorem own_pn4 : plainName "java/lang/Enum" = true := by first | (simp [plainName, overriddenIn]; done) | decide +kernel
def own_Q10 (Z : State) (od : Int32) (h0 : Heap) (n0 : Nat) (v : Option Value) (h : Heap) (L : List Loc) : Prop := v = some (.int od) ∧ Fr n0 L ∧ h = h0
set_option maxRecDepth 65536 in
set_option maxHeartbeats 40000000 in
theorem own_rm10 (l : Launch) (Z : State) (a0 : Array Value) (hw : ∀ d ∈ tables_1, d.before a0 Z = true) (ws : List Jvm.Cond) (a1 : Addr) (h0 : Heap) (n0 : Nat) (od : Int32) (F_ordinal_a1 : Fld Z h0 a1 "java/lang/Enum" "ordinal" "I" (.int od)) :
    own_Met l Z (⟨"java/lang/Enum", "ordinal", "()I"⟩ : MethodName) jdk_37_method_2_code 1 (some .int) ws ({ frames := 0, cells := 0, slots := 0, locals := 0 } : Room) #[(.ref a1)] h0 (own_Q10 Z od h0 n0) := by
  refine own_met (plainFor_of_name own_pn4) ?_
  intro p e s m below meth c s₁ X0 hx hZ hby hml hown hnm hret hlk e0
  have N0 := Fr.nil n0
  refine own_go (fun t k => castTop (own_ef10 m a1) k) ?_
  show own_Go _ _ _ _ s₁ (mkF m 0 #[.val (.ref a1)] [])
  refine own_go (fun _ k => XS.aloadN X0.here hx rfl (hb hby own_d10_0) rfl rfl k) ?_
  show own_Go _ _ _ _ s₁ (mkF m 1 #[.val (.ref a1)] [(.ref a1)])
  obtain ⟨Tz16, Xz16, ez16, stz16⟩ := getF X0 hx hZ hown (host := "") (Or.inl (hw _ (List.mem_of_getElem? (i := 69) rfl))) Via.refl e0 F_ordinal_a1 (g := (mkF m 1 #[.val (.ref a1)] [(.ref a1)])) rfl rfl (hb hby own_d10_1)
  refine own_go stz16 ?_
  show own_Go _ _ _ _ Tz16 (mkF m 4 #[.val (.ref a1)] [(.int od)])
  exact own_end Xz16 hlk (v := (some (.int od))) (fun h => by rw [hret] at h; cases h) (fun fs hr => retOut Xz16 hx hret rfl (Or.inl ⟨rfl, Or.inl rfl, _, rfl⟩) (hb hby own_d10_4) hr) (by rw [ez16]; exact ⟨rfl, N0, rfl⟩) (by decide) (by decide)
def own_holds (k : Nat) (o : Int32) : Int32 := match k with
  | 0 => if o < (0 : Int32) then 1 else 0
  | 1 => if (0 : Int32) < o then 0 else 1
  | 2 => if (0 : Int32) < o then 1 else 0
  | 3 => if o < (0 : Int32) then 0 else 1
  | _ => 0
theorem own_efho0 (m : MethodId) (a1 : Addr) (p2 : Int32) : entryFrame m #[(.ref a1), (.int p2)] 2 = mkF m 0 #[.val (.ref a1), .val (.int p2)] [] := by first | (simp [entryFrame, mkF, argsToLocals, Value.category]; done) | rfl
theorem own_d9_0 : decode prog_38_method_5_code 0 = .ok (.aload_n 0, 1) := by decide +kernel
theorem own_d9_1 : decode prog_38_method_5_code 1 = .ok (.invokevirtual 39, 3) := by decide +kernel
theorem own_pd5 : parseMethodDescriptor "()I" = some ⟨[], some .int⟩ := by decide +kernel
theorem own_d9_4 : decode prog_38_method_5_code 4 = .ok (.tableswitch 32 0 3 #[54, 42, 78, 66], 32) := by decide +kernel
theorem own_d9_58 : decode prog_38_method_5_code 58 = .ok (.iload_n 1, 1) := by decide +kernel
theorem own_d9_59 : decode prog_38_method_5_code 59 = .ok (.ifCond .ge 7, 3) := by decide +kernel
theorem own_d9_62 : decode prog_38_method_5_code 62 = .ok (.iconst 1, 1) := by decide +kernel
theorem own_d9_63 : decode prog_38_method_5_code 63 = .ok (.goto 28, 3) := by decide +kernel
theorem own_d9_91 : decode prog_38_method_5_code 91 = .ok (.ireturn, 1) := by decide +kernel
theorem own_d9_66 : decode prog_38_method_5_code 66 = .ok (.iconst 0, 1) := by decide +kernel
theorem own_d9_67 : decode prog_38_method_5_code 67 = .ok (.goto 24, 3) := by decide +kernel
def own_Qho0 (Z : State) (p2 : Int32) (h0 : Heap) (n0 : Nat) (v : Option Value) (h : Heap) (L : List Loc) : Prop := v = some (.int (own_holds 0 p2)) ∧ Fr n0 L ∧ h = h0
set_option maxRecDepth 65536 in
set_option maxHeartbeats 40000000 in
theorem own_rmho0 (l : Launch) (Z : State) (a0 : Array Value) (hw : ∀ d ∈ tables_1, d.before a0 Z = true) (ws : List Jvm.Cond) (a1 : Addr) (p2 : Int32) (h0 : Heap) (n0 : Nat) (E_a1 : Exa Z h0 a1 "com/example/servweave/servweave/qos/Bound$Comparison") (F_ordinal_a1 : Fld Z h0 a1 "java/lang/Enum" "ordinal" "I" (.int (0 : Int32))) :
    own_Met l Z (⟨"com/example/servweave/servweave/qos/Bound$Comparison", "holds", "(I)Z"⟩ : MethodName) prog_38_method_5_code 2 (some .boolean) ws ({ frames := 1, cells := 0, slots := 0, locals := 20 } : Room) #[(.ref a1), (.int p2)] h0 (own_Qho0 Z p2 h0 n0) := by
  refine own_met (plainFor_of_name own_pn0) ?_
  intro p e s m below meth c s₁ X0 hx hZ hby hml hown hnm hret hlk e0
  have N0 := Fr.nil n0
  refine own_go (fun t k => castTop (own_efho0 m a1 p2) k) ?_
  show own_Go _ _ _ _ s₁ (mkF m 0 #[.val (.ref a1), .val (.int p2)] [])
  refine own_go (fun _ k => XS.aloadN X0.here hx rfl (hb hby own_d9_0) rfl rfl k) ?_
  show own_Go _ _ _ _ s₁ (mkF m 1 #[.val (.ref a1), .val (.int p2)] [(.ref a1)])
  obtain ⟨vz17, Tz17, Lz17, Xz17, hQz17, stz17⟩ := own_callU X0 hx hZ hown (owner := "java/lang/Enum") (hw _ (List.mem_of_getElem? (i := 62) rfl)) (hw _ (List.mem_of_getElem? (i := 63) rfl)) (hw _ (List.mem_of_getElem? (i := 64) rfl)) (by decide) (hw _ (List.mem_of_getElem? (i := 66) rfl)) (hw _ (List.mem_of_getElem? (i := 65) rfl)) (hw _ (List.mem_of_getElem? (i := 67) rfl)) (hw _ (List.mem_of_getElem? (i := 68) rfl)) e0 E_a1 (own_rm10 l Z a0 hw [] a1 h0 n0 (0 : Int32) F_ordinal_a1) (W := 0) (by decide) (by decide) (by decide) (by decide) own_pd5 rfl (g := (mkF m 1 #[.val (.ref a1), .val (.int p2)] [(.ref a1)])) (argsL := []) (rest := []) rfl (by rw [hml]; rfl) rfl (by show 2 * 0 + _ ≤ _; exact Nat.le_of_eq rfl) (hb hby own_d9_1)
  obtain ⟨rfl, Nz17q, ehz17⟩ := hQz17
  have Nz17 := Fr.app N0 Nz17q
  refine own_go stz17 ?_
  show own_Go _ _ _ _ Tz17 (mkF m 4 #[.val (.ref a1), .val (.int p2)] [(.int (0 : Int32))])
  refine own_go (fun _ k => XS.tswIn Xz17.here hx rfl (o := 54) (pc0 := 4) (pc' := 58) rfl (hb hby own_d9_4) rfl (by decide) (by decide) (by decide) (by decide) k) ?_
  show own_Go _ _ _ _ Tz17 (mkF m 58 #[.val (.ref a1), .val (.int p2)] [])
  refine own_go (fun _ k => XS.iloadN Xz17.here hx rfl (hb hby own_d9_58) rfl k) ?_
  show own_Go _ _ _ _ Tz17 (mkF m 59 #[.val (.ref a1), .val (.int p2)] [(.int p2)])
  by_cases hC : p2 < (0 : Int32)
  · refine own_go (fun _ k => XS.ifNo Xz17.here hx rfl (hb hby own_d9_59) rfl ((if0 _ _).trans (tlt hC).2.1) k) ?_
    show own_Go _ _ _ _ Tz17 (mkF m 62 #[.val (.ref a1), .val (.int p2)] [])
    refine own_go (fun _ k => XS.iconst Xz17.here hx rfl (hb hby own_d9_62) k) ?_
    show own_Go _ _ _ _ Tz17 (mkF m 63 #[.val (.ref a1), .val (.int p2)] [(.int (1 : Int32))])
    refine own_go (fun _ k => XS.goto Xz17.here hx rfl (pc0 := 63) (pc' := 91) rfl (hb hby own_d9_63) (by decide) (by decide) k) ?_
    show own_Go _ _ _ _ Tz17 (mkF m 91 #[.val (.ref a1), .val (.int p2)] [(.int (1 : Int32))])
    exact own_end Xz17 hlk (v := (some (.int (1 : Int32)))) (fun h => by rw [hret] at h; cases h) (fun fs hr => retN Xz17 hx (t := .boolean) hret (by simp) (hb hby own_d9_91) hr) (by rw [ehz17]; exact ⟨by rw [own_holds, if_pos hC], Nz17, rfl⟩) (by decide) (by decide)
  · refine own_go (fun _ k => XS.ifYes Xz17.here hx rfl (pc0 := 59) (pc' := 66) rfl (hb hby own_d9_59) rfl ((if0 _ _).trans (flt hC).2.1) (by decide) (by decide) k) ?_
    show own_Go _ _ _ _ Tz17 (mkF m 66 #[.val (.ref a1), .val (.int p2)] [])
    refine own_go (fun _ k => XS.iconst Xz17.here hx rfl (hb hby own_d9_66) k) ?_
    show own_Go _ _ _ _ Tz17 (mkF m 67 #[.val (.ref a1), .val (.int p2)] [(.int (0 : Int32))])
    refine own_go (fun _ k => XS.goto Xz17.here hx rfl (pc0 := 67) (pc' := 91) rfl (hb hby own_d9_67) (by decide) (by decide) k) ?_
    show own_Go _ _ _ _ Tz17 (mkF m 91 #[.val (.ref a1), .val (.int p2)] [(.int (0 : Int32))])
    exact own_end Xz17 hlk (v := (some (.int (0 : Int32)))) (fun h => by rw [hret] at h; cases h) (fun fs hr => retN Xz17 hx (t := .boolean) hret (by simp) (hb hby own_d9_91) hr) (by rw [ehz17]; exact ⟨by rw [own_holds, if_neg hC], Nz17, rfl⟩) (by decide) (by decide)
theorem own_efho1 (m : MethodId) (a1 : Addr) (p2 : Int32) : entryFrame m #[(.ref a1), (.int p2)] 2 = mkF m 0 #[.val (.ref a1), .val (.int p2)] [] := by first | (simp [entryFrame, mkF, argsToLocals, Value.category]; done) | rfl
theorem own_d9_46 : decode prog_38_method_5_code 46 = .ok (.iload_n 1, 1) := by decide +kernel
theorem own_d9_47 : decode prog_38_method_5_code 47 = .ok (.ifCond .gt 7, 3) := by decide +kernel
theorem own_d9_54 : decode prog_38_method_5_code 54 = .ok (.iconst 0, 1) := by decide +kernel
theorem own_d9_55 : decode prog_38_method_5_code 55 = .ok (.goto 36, 3) := by decide +kernel
theorem own_d9_50 : decode prog_38_method_5_code 50 = .ok (.iconst 1, 1) := by decide +kernel
theorem own_d9_51 : decode prog_38_method_5_code 51 = .ok (.goto 40, 3) := by decide +kernel
def own_Qho1 (Z : State) (p2 : Int32) (h0 : Heap) (n0 : Nat) (v : Option Value) (h : Heap) (L : List Loc) : Prop := v = some (.int (own_holds 1 p2)) ∧ Fr n0 L ∧ h = h0
set_option maxRecDepth 65536 in
set_option maxHeartbeats 40000000 in
theorem own_rmho1 (l : Launch) (Z : State) (a0 : Array Value) (hw : ∀ d ∈ tables_1, d.before a0 Z = true) (ws : List Jvm.Cond) (a1 : Addr) (p2 : Int32) (h0 : Heap) (n0 : Nat) (E_a1 : Exa Z h0 a1 "com/example/servweave/servweave/qos/Bound$Comparison") (F_ordinal_a1 : Fld Z h0 a1 "java/lang/Enum" "ordinal" "I" (.int (1 : Int32))) :
    own_Met l Z (⟨"com/example/servweave/servweave/qos/Bound$Comparison", "holds", "(I)Z"⟩ : MethodName) prog_38_method_5_code 2 (some .boolean) ws ({ frames := 1, cells := 0, slots := 0, locals := 20 } : Room) #[(.ref a1), (.int p2)] h0 (own_Qho1 Z p2 h0 n0) := by
  refine own_met (plainFor_of_name own_pn0) ?_
  intro p e s m below meth c s₁ X0 hx hZ hby hml hown hnm hret hlk e0
  have N0 := Fr.nil n0
  refine own_go (fun t k => castTop (own_efho1 m a1 p2) k) ?_
  show own_Go _ _ _ _ s₁ (mkF m 0 #[.val (.ref a1), .val (.int p2)] [])
  refine own_go (fun _ k => XS.aloadN X0.here hx rfl (hb hby own_d9_0) rfl rfl k) ?_
  show own_Go _ _ _ _ s₁ (mkF m 1 #[.val (.ref a1), .val (.int p2)] [(.ref a1)])
  obtain ⟨vz18, Tz18, Lz18, Xz18, hQz18, stz18⟩ := own_callU X0 hx hZ hown (owner := "java/lang/Enum") (hw _ (List.mem_of_getElem? (i := 62) rfl)) (hw _ (List.mem_of_getElem? (i := 63) rfl)) (hw _ (List.mem_of_getElem? (i := 64) rfl)) (by decide) (hw _ (List.mem_of_getElem? (i := 66) rfl)) (hw _ (List.mem_of_getElem? (i := 65) rfl)) (hw _ (List.mem_of_getElem? (i := 67) rfl)) (hw _ (List.mem_of_getElem? (i := 68) rfl)) e0 E_a1 (own_rm10 l Z a0 hw [] a1 h0 n0 (1 : Int32) F_ordinal_a1) (W := 0) (by decide) (by decide) (by decide) (by decide) own_pd5 rfl (g := (mkF m 1 #[.val (.ref a1), .val (.int p2)] [(.ref a1)])) (argsL := []) (rest := []) rfl (by rw [hml]; rfl) rfl (by show 2 * 0 + _ ≤ _; exact Nat.le_of_eq rfl) (hb hby own_d9_1)
  obtain ⟨rfl, Nz18q, ehz18⟩ := hQz18
  have Nz18 := Fr.app N0 Nz18q
  refine own_go stz18 ?_
  show own_Go _ _ _ _ Tz18 (mkF m 4 #[.val (.ref a1), .val (.int p2)] [(.int (1 : Int32))])
  refine own_go (fun _ k => XS.tswIn Xz18.here hx rfl (o := 42) (pc0 := 4) (pc' := 46) rfl (hb hby own_d9_4) rfl (by decide) (by decide) (by decide) (by decide) k) ?_
  show own_Go _ _ _ _ Tz18 (mkF m 46 #[.val (.ref a1), .val (.int p2)] [])
  refine own_go (fun _ k => XS.iloadN Xz18.here hx rfl (hb hby own_d9_46) rfl k) ?_
  show own_Go _ _ _ _ Tz18 (mkF m 47 #[.val (.ref a1), .val (.int p2)] [(.int p2)])
  by_cases hC : (0 : Int32) < p2
  · refine own_go (fun _ k => XS.ifYes Xz18.here hx rfl (pc0 := 47) (pc' := 54) rfl (hb hby own_d9_47) rfl ((if0 _ _).trans (tlt hC).2.2.1) (by decide) (by decide) k) ?_
    show own_Go _ _ _ _ Tz18 (mkF m 54 #[.val (.ref a1), .val (.int p2)] [])
    refine own_go (fun _ k => XS.iconst Xz18.here hx rfl (hb hby own_d9_54) k) ?_
    show own_Go _ _ _ _ Tz18 (mkF m 55 #[.val (.ref a1), .val (.int p2)] [(.int (0 : Int32))])
    refine own_go (fun _ k => XS.goto Xz18.here hx rfl (pc0 := 55) (pc' := 91) rfl (hb hby own_d9_55) (by decide) (by decide) k) ?_
    show own_Go _ _ _ _ Tz18 (mkF m 91 #[.val (.ref a1), .val (.int p2)] [(.int (0 : Int32))])
    exact own_end Xz18 hlk (v := (some (.int (0 : Int32)))) (fun h => by rw [hret] at h; cases h) (fun fs hr => retN Xz18 hx (t := .boolean) hret (by simp) (hb hby own_d9_91) hr) (by rw [ehz18]; exact ⟨by rw [own_holds, if_pos hC], Nz18, rfl⟩) (by decide) (by decide)
  · refine own_go (fun _ k => XS.ifNo Xz18.here hx rfl (hb hby own_d9_47) rfl ((if0 _ _).trans (flt hC).2.2.1) k) ?_
    show own_Go _ _ _ _ Tz18 (mkF m 50 #[.val (.ref a1), .val (.int p2)] [])
    refine own_go (fun _ k => XS.iconst Xz18.here hx rfl (hb hby own_d9_50) k) ?_
    show own_Go _ _ _ _ Tz18 (mkF m 51 #[.val (.ref a1), .val (.int p2)] [(.int (1 : Int32))])
    refine own_go (fun _ k => XS.goto Xz18.here hx rfl (pc0 := 51) (pc' := 91) rfl (hb hby own_d9_51) (by decide) (by decide) k) ?_
    show own_Go _ _ _ _ Tz18 (mkF m 91 #[.val (.ref a1), .val (.int p2)] [(.int (1 : Int32))])
    exact own_end Xz18 hlk (v := (some (.int (1 : Int32)))) (fun h => by rw [hret] at h; cases h) (fun fs hr => retN Xz18 hx (t := .boolean) hret (by simp) (hb hby own_d9_91) hr) (by rw [ehz18]; exact ⟨by rw [own_holds, if_neg hC], Nz18, rfl⟩) (by decide) (by decide)
theorem own_efho2 (m : MethodId) (a1 : Addr) (p2 : Int32) : entryFrame m #[(.ref a1), (.int p2)] 2 = mkF m 0 #[.val (.ref a1), .val (.int p2)] [] := by first | (simp [entryFrame, mkF, argsToLocals, Value.category]; done) | rfl
theorem own_d9_82 : decode prog_38_method_5_code 82 = .ok (.iload_n 1, 1) := by decide +kernel
theorem own_d9_83 : decode prog_38_method_5_code 83 = .ok (.ifCond .le 7, 3) := by decide +kernel
theorem own_d9_86 : decode prog_38_method_5_code 86 = .ok (.iconst 1, 1) := by decide +kernel
theorem own_d9_87 : decode prog_38_method_5_code 87 = .ok (.goto 4, 3) := by decide +kernel
theorem own_d9_90 : decode prog_38_method_5_code 90 = .ok (.iconst 0, 1) := by decide +kernel
def own_Qho2 (Z : State) (p2 : Int32) (h0 : Heap) (n0 : Nat) (v : Option Value) (h : Heap) (L : List Loc) : Prop := v = some (.int (own_holds 2 p2)) ∧ Fr n0 L ∧ h = h0
set_option maxRecDepth 65536 in
set_option maxHeartbeats 40000000 in
theorem own_rmho2 (l : Launch) (Z : State) (a0 : Array Value) (hw : ∀ d ∈ tables_1, d.before a0 Z = true) (ws : List Jvm.Cond) (a1 : Addr) (p2 : Int32) (h0 : Heap) (n0 : Nat) (E_a1 : Exa Z h0 a1 "com/example/servweave/servweave/qos/Bound$Comparison") (F_ordinal_a1 : Fld Z h0 a1 "java/lang/Enum" "ordinal" "I" (.int (2 : Int32))) :
    own_Met l Z (⟨"com/example/servweave/servweave/qos/Bound$Comparison", "holds", "(I)Z"⟩ : MethodName) prog_38_method_5_code 2 (some .boolean) ws ({ frames := 1, cells := 0, slots := 0, locals := 20 } : Room) #[(.ref a1), (.int p2)] h0 (own_Qho2 Z p2 h0 n0) := by
  refine own_met (plainFor_of_name own_pn0) ?_
  intro p e s m below meth c s₁ X0 hx hZ hby hml hown hnm hret hlk e0
  have N0 := Fr.nil n0
  refine own_go (fun t k => castTop (own_efho2 m a1 p2) k) ?_
  show own_Go _ _ _ _ s₁ (mkF m 0 #[.val (.ref a1), .val (.int p2)] [])
  refine own_go (fun _ k => XS.aloadN X0.here hx rfl (hb hby own_d9_0) rfl rfl k) ?_
  show own_Go _ _ _ _ s₁ (mkF m 1 #[.val (.ref a1), .val (.int p2)] [(.ref a1)])
  obtain ⟨vz19, Tz19, Lz19, Xz19, hQz19, stz19⟩ := own_callU X0 hx hZ hown (owner := "java/lang/Enum") (hw _ (List.mem_of_getElem? (i := 62) rfl)) (hw _ (List.mem_of_getElem? (i := 63) rfl)) (hw _ (List.mem_of_getElem? (i := 64) rfl)) (by decide) (hw _ (List.mem_of_getElem? (i := 66) rfl)) (hw _ (List.mem_of_getElem? (i := 65) rfl)) (hw _ (List.mem_of_getElem? (i := 67) rfl)) (hw _ (List.mem_of_getElem? (i := 68) rfl)) e0 E_a1 (own_rm10 l Z a0 hw [] a1 h0 n0 (2 : Int32) F_ordinal_a1) (W := 0) (by decide) (by decide) (by decide) (by decide) own_pd5 rfl (g := (mkF m 1 #[.val (.ref a1), .val (.int p2)] [(.ref a1)])) (argsL := []) (rest := []) rfl (by rw [hml]; rfl) rfl (by show 2 * 0 + _ ≤ _; exact Nat.le_of_eq rfl) (hb hby own_d9_1)
  obtain ⟨rfl, Nz19q, ehz19⟩ := hQz19
  have Nz19 := Fr.app N0 Nz19q
  refine own_go stz19 ?_
  show own_Go _ _ _ _ Tz19 (mkF m 4 #[.val (.ref a1), .val (.int p2)] [(.int (2 : Int32))])
  refine own_go (fun _ k => XS.tswIn Xz19.here hx rfl (o := 78) (pc0 := 4) (pc' := 82) rfl (hb hby own_d9_4) rfl (by decide) (by decide) (by decide) (by decide) k) ?_
  show own_Go _ _ _ _ Tz19 (mkF m 82 #[.val (.ref a1), .val (.int p2)] [])
  refine own_go (fun _ k => XS.iloadN Xz19.here hx rfl (hb hby own_d9_82) rfl k) ?_
  show own_Go _ _ _ _ Tz19 (mkF m 83 #[.val (.ref a1), .val (.int p2)] [(.int p2)])
  by_cases hC : (0 : Int32) < p2
  · refine own_go (fun _ k => XS.ifNo Xz19.here hx rfl (hb hby own_d9_83) rfl ((if0 _ _).trans (tlt hC).2.2.2) k) ?_
    show own_Go _ _ _ _ Tz19 (mkF m 86 #[.val (.ref a1), .val (.int p2)] [])
    refine own_go (fun _ k => XS.iconst Xz19.here hx rfl (hb hby own_d9_86) k) ?_
    show own_Go _ _ _ _ Tz19 (mkF m 87 #[.val (.ref a1), .val (.int p2)] [(.int (1 : Int32))])
    refine own_go (fun _ k => XS.goto Xz19.here hx rfl (pc0 := 87) (pc' := 91) rfl (hb hby own_d9_87) (by decide) (by decide) k) ?_
    show own_Go _ _ _ _ Tz19 (mkF m 91 #[.val (.ref a1), .val (.int p2)] [(.int (1 : Int32))])
    exact own_end Xz19 hlk (v := (some (.int (1 : Int32)))) (fun h => by rw [hret] at h; cases h) (fun fs hr => retN Xz19 hx (t := .boolean) hret (by simp) (hb hby own_d9_91) hr) (by rw [ehz19]; exact ⟨by rw [own_holds, if_pos hC], Nz19, rfl⟩) (by decide) (by decide)
  · refine own_go (fun _ k => XS.ifYes Xz19.here hx rfl (pc0 := 83) (pc' := 90) rfl (hb hby own_d9_83) rfl ((if0 _ _).trans (flt hC).2.2.2) (by decide) (by decide) k) ?_
    show own_Go _ _ _ _ Tz19 (mkF m 90 #[.val (.ref a1), .val (.int p2)] [])
    refine own_go (fun _ k => XS.iconst Xz19.here hx rfl (hb hby own_d9_90) k) ?_
    show own_Go _ _ _ _ Tz19 (mkF m 91 #[.val (.ref a1), .val (.int p2)] [(.int (0 : Int32))])
    exact own_end Xz19 hlk (v := (some (.int (0 : Int32)))) (fun h => by rw [hret] at h; cases h) (fun fs hr => retN Xz19 hx (t := .boolean) hret (by simp) (hb hby own_d9_91) hr) (by rw [ehz19]; exact ⟨by rw [own_holds, if_neg hC], Nz19, rfl⟩) (by decide) (by decide)
theorem own_efho3 (m : MethodId) (a1 : Addr) (p2 : Int32) : entryFrame m #[(.ref a1), (.int p2)] 2 = mkF m 0 #[.val (.ref a1), .val (.int p2)] [] := by first | (simp [entryFrame, mkF, argsToLocals, Value.category]; done) | rfl
theorem own_d9_70 : decode prog_38_method_5_code 70 = .ok (.iload_n 1, 1) := by decide +kernel
theorem own_d9_71 : decode prog_38_method_5_code 71 = .ok (.ifCond .lt 7, 3) := by decide +kernel
theorem own_d9_78 : decode prog_38_method_5_code 78 = .ok (.iconst 0, 1) := by decide +kernel
theorem own_d9_79 : decode prog_38_method_5_code 79 = .ok (.goto 12, 3) := by decide +kernel
theorem own_d9_74 : decode prog_38_method_5_code 74 = .ok (.iconst 1, 1) := by decide +kernel
theorem own_d9_75 : decode prog_38_method_5_code 75 = .ok (.goto 16, 3) := by decide +kernel
def own_Qho3 (Z : State) (p2 : Int32) (h0 : Heap) (n0 : Nat) (v : Option Value) (h : Heap) (L : List Loc) : Prop := v = some (.int (own_holds 3 p2)) ∧ Fr n0 L ∧ h = h0
set_option maxRecDepth 65536 in
set_option maxHeartbeats 40000000 in
theorem own_rmho3 (l : Launch) (Z : State) (a0 : Array Value) (hw : ∀ d ∈ tables_1, d.before a0 Z = true) (ws : List Jvm.Cond) (a1 : Addr) (p2 : Int32) (h0 : Heap) (n0 : Nat) (E_a1 : Exa Z h0 a1 "com/example/servweave/servweave/qos/Bound$Comparison") (F_ordinal_a1 : Fld Z h0 a1 "java/lang/Enum" "ordinal" "I" (.int (3 : Int32))) :
    own_Met l Z (⟨"com/example/servweave/servweave/qos/Bound$Comparison", "holds", "(I)Z"⟩ : MethodName) prog_38_method_5_code 2 (some .boolean) ws ({ frames := 1, cells := 0, slots := 0, locals := 20 } : Room) #[(.ref a1), (.int p2)] h0 (own_Qho3 Z p2 h0 n0) := by
  refine own_met (plainFor_of_name own_pn0) ?_
  intro p e s m below meth c s₁ X0 hx hZ hby hml hown hnm hret hlk e0
  have N0 := Fr.nil n0
  refine own_go (fun t k => castTop (own_efho3 m a1 p2) k) ?_
  show own_Go _ _ _ _ s₁ (mkF m 0 #[.val (.ref a1), .val (.int p2)] [])
  refine own_go (fun _ k => XS.aloadN X0.here hx rfl (hb hby own_d9_0) rfl rfl k) ?_
  show own_Go _ _ _ _ s₁ (mkF m 1 #[.val (.ref a1), .val (.int p2)] [(.ref a1)])
  obtain ⟨vz20, Tz20, Lz20, Xz20, hQz20, stz20⟩ := own_callU X0 hx hZ hown (owner := "java/lang/Enum") (hw _ (List.mem_of_getElem? (i := 62) rfl)) (hw _ (List.mem_of_getElem? (i := 63) rfl)) (hw _ (List.mem_of_getElem? (i := 64) rfl)) (by decide) (hw _ (List.mem_of_getElem? (i := 66) rfl)) (hw _ (List.mem_of_getElem? (i := 65) rfl)) (hw _ (List.mem_of_getElem? (i := 67) rfl)) (hw _ (List.mem_of_getElem? (i := 68) rfl)) e0 E_a1 (own_rm10 l Z a0 hw [] a1 h0 n0 (3 : Int32) F_ordinal_a1) (W := 0) (by decide) (by decide) (by decide) (by decide) own_pd5 rfl (g := (mkF m 1 #[.val (.ref a1), .val (.int p2)] [(.ref a1)])) (argsL := []) (rest := []) rfl (by rw [hml]; rfl) rfl (by show 2 * 0 + _ ≤ _; exact Nat.le_of_eq rfl) (hb hby own_d9_1)
  obtain ⟨rfl, Nz20q, ehz20⟩ := hQz20
  have Nz20 := Fr.app N0 Nz20q
  refine own_go stz20 ?_
  show own_Go _ _ _ _ Tz20 (mkF m 4 #[.val (.ref a1), .val (.int p2)] [(.int (3 : Int32))])
  refine own_go (fun _ k => XS.tswIn Xz20.here hx rfl (o := 66) (pc0 := 4) (pc' := 70) rfl (hb hby own_d9_4) rfl (by decide) (by decide) (by decide) (by decide) k) ?_
  show own_Go _ _ _ _ Tz20 (mkF m 70 #[.val (.ref a1), .val (.int p2)] [])
  refine own_go (fun _ k => XS.iloadN Xz20.here hx rfl (hb hby own_d9_70) rfl k) ?_
  show own_Go _ _ _ _ Tz20 (mkF m 71 #[.val (.ref a1), .val (.int p2)] [(.int p2)])
  by_cases hC : p2 < (0 : Int32)
  · refine own_go (fun _ k => XS.ifYes Xz20.here hx rfl (pc0 := 71) (pc' := 78) rfl (hb hby own_d9_71) rfl ((if0 _ _).trans (tlt hC).1) (by decide) (by decide) k) ?_
    show own_Go _ _ _ _ Tz20 (mkF m 78 #[.val (.ref a1), .val (.int p2)] [])
    refine own_go (fun _ k => XS.iconst Xz20.here hx rfl (hb hby own_d9_78) k) ?_
    show own_Go _ _ _ _ Tz20 (mkF m 79 #[.val (.ref a1), .val (.int p2)] [(.int (0 : Int32))])
    refine own_go (fun _ k => XS.goto Xz20.here hx rfl (pc0 := 79) (pc' := 91) rfl (hb hby own_d9_79) (by decide) (by decide) k) ?_
    show own_Go _ _ _ _ Tz20 (mkF m 91 #[.val (.ref a1), .val (.int p2)] [(.int (0 : Int32))])
    exact own_end Xz20 hlk (v := (some (.int (0 : Int32)))) (fun h => by rw [hret] at h; cases h) (fun fs hr => retN Xz20 hx (t := .boolean) hret (by simp) (hb hby own_d9_91) hr) (by rw [ehz20]; exact ⟨by rw [own_holds, if_pos hC], Nz20, rfl⟩) (by decide) (by decide)
  · refine own_go (fun _ k => XS.ifNo Xz20.here hx rfl (hb hby own_d9_71) rfl ((if0 _ _).trans (flt hC).1) k) ?_
    show own_Go _ _ _ _ Tz20 (mkF m 74 #[.val (.ref a1), .val (.int p2)] [])
    refine own_go (fun _ k => XS.iconst Xz20.here hx rfl (hb hby own_d9_74) k) ?_
    show own_Go _ _ _ _ Tz20 (mkF m 75 #[.val (.ref a1), .val (.int p2)] [(.int (1 : Int32))])
    refine own_go (fun _ k => XS.goto Xz20.here hx rfl (pc0 := 75) (pc' := 91) rfl (hb hby own_d9_75) (by decide) (by decide) k) ?_
    show own_Go _ _ _ _ Tz20 (mkF m 91 #[.val (.ref a1), .val (.int p2)] [(.int (1 : Int32))])
    exact own_end Xz20 hlk (v := (some (.int (1 : Int32)))) (fun h => by rw [hret] at h; cases h) (fun fs hr => retN Xz20 hx (t := .boolean) hret (by simp) (hb hby own_d9_91) hr) (by rw [ehz20]; exact ⟨by rw [own_holds, if_neg hC], Nz20, rfl⟩) (by decide) (by decide)
theorem own_four (x : Int32) : x &&& (3 : Int32) = 0 ∨ x &&& (3 : Int32) = 1 ∨ x &&& (3 : Int32) = 2 ∨ x &&& (3 : Int32) = 3 := by
  have h1 := c_and x (3 : Int32) (by decide)
  have k3 : (3 : Int32).toInt = 3 := rfl
  have k0 : (0 : Int32).toInt = 0 := rfl
  have k1 : (1 : Int32).toInt = 1 := rfl
  have k2 : (2 : Int32).toInt = 2 := rfl
  simp only [← Int32.toInt_inj, k0, k1, k2, k3]
  omega
theorem own_w (k : Nat) (o b q : Int32) (h : k = 0 ∧ b = 1 ∧ q = 0 ∨ k = 1 ∧ b = 1 ∧ q = 1 ∨ k = 2 ∧ b = 0 ∧ q = 0 ∨ k = 3 ∧ b = 0 ∧ q = 1) : own_holds k o = (if o = (0 : Int32) then q else (if (if o < (0 : Int32) then (1 : Int32) else (0 : Int32)) = b then (1 : Int32) else (0 : Int32))) := by
  have k0 : (0 : Int32).toInt = 0 := rfl
  by_cases c1 : o = 0
  · subst c1
    rcases h with ⟨rfl, rfl, rfl⟩ | ⟨rfl, rfl, rfl⟩ | ⟨rfl, rfl, rfl⟩ | ⟨rfl, rfl, rfl⟩ <;> decide
  · rw [if_neg c1]
    by_cases c2 : o < 0
    · have c3 : ¬ (0 : Int32) < o := by rw [Int32.lt_iff_toInt_lt] at c2 ⊢; omega
      rcases h with ⟨rfl, rfl, rfl⟩ | ⟨rfl, rfl, rfl⟩ | ⟨rfl, rfl, rfl⟩ | ⟨rfl, rfl, rfl⟩ <;> simp [own_holds, c2, c3]
    · have c3 : (0 : Int32) < o := by
        rw [Int32.lt_iff_toInt_lt] at c2 ⊢
        have : o.toInt ≠ 0 := fun q => c1 (Int32.toInt_inj.mp q)
        omega
      rcases h with ⟨rfl, rfl, rfl⟩ | ⟨rfl, rfl, rfl⟩ | ⟨rfl, rfl, rfl⟩ | ⟨rfl, rfl, rfl⟩ <;> simp [own_holds, c2, c3]
theorem own_ef0 (m : MethodId) (p1 : Int32) (p2 : Int32) : entryFrame m #[(.int p1), (.int p2)] maxLocals = mkF m 0 #[.val (.int p1), .val (.int p2), .unset, .unset, .unset, .unset, .unset, .unset] [] := by first | (simp [entryFrame, mkF, argsToLocals, Value.category, maxLocals]; done) | rfl
theorem own_pd6 : parseMethodDescriptor "()Ljava/lang/String;" = some ⟨[], some (.object "java/lang/String")⟩ := by decide +kernel
theorem own_pd7 : parseMethodDescriptor "(I)C" = some ⟨[.int], some .char⟩ := by decide +kernel
theorem own_pd8 : parseMethodDescriptor "(I)Z" = some ⟨[.int], some .boolean⟩ := by decide +kernel
theorem own_pn5 : plainName "com/example/servweave/servweave/qos/ComparisonHoldsPinLaw" = true := by first | (simp [plainName, overriddenIn]; done) | decide +kernel
def own_Q0 (Z : State) (p1 : Int32) (p2 : Int32) (h0 : Heap) (n0 : Nat) (v : Option Value) (h : Heap) (L : List Loc) : Prop := v = some (.int 1) ∧ Fr n0 L
set_option maxRecDepth 65536 in
set_option maxHeartbeats 40000000 in
theorem own_rm0 (l : Launch) (Z : State) (a0 : Array Value) (hw : ∀ d ∈ tables_1, d.before a0 Z = true) (ws : List Jvm.Cond) (p1 : Int32) (p2 : Int32) (h0 : Heap) (n0 : Nat) (O : Old Z n0 h0) (cs : Int32) (hcs : ¬ cs = (0 : Int32)) (Scs : Sta Z Z.heap "java/lang/String" "COMPACT_STRINGS" "Z" (.int cs)) (fv : Value) (hfv : fv = .null ∨ ∃ a, fv = .ref a) (Sfv : Sta Z Z.heap "jdk/internal/util/Preconditions" "SIOOBE_FORMATTER" "Ljava/util/function/BiFunction;" fv) (t0 sy0 va0 : Addr) (cv0 : Cell) (S0 : (Sta Z Z.heap "com/example/servweave/servweave/qos/Bound$Comparison" "LESS" "Lcom/example/servweave/servweave/qos/Bound$Comparison;" (.ref t0))) (E0 : Exa Z Z.heap t0 "com/example/servweave/servweave/qos/Bound$Comparison") (Fy0 : Fld Z Z.heap t0 "com/example/servweave/servweave/qos/Bound$Comparison" "symbol" "Ljava/lang/String;" (.ref sy0)) (Es0 : Exa Z Z.heap sy0 "java/lang/String") (Fv0 : Fld Z Z.heap sy0 "java/lang/String" "value" "[B" (.ref va0)) (Fc0 : Fld Z Z.heap sy0 "java/lang/String" "coder" "B" (.int (0 : Int32))) (A0 : Arr Z Z.heap va0 cv0 .byte) (sz0 : cv0.slots.size = (1 : Int32).toNatClampNeg) (at0 : cv0.slots[0]? = some (.int (60 : Int32))) (Fo0 : Fld Z Z.heap t0 "java/lang/Enum" "ordinal" "I" (.int (0 : Int32))) (t1 sy1 va1 : Addr) (cv1 : Cell) (S1 : (Sta Z Z.heap "com/example/servweave/servweave/qos/Bound$Comparison" "AT_MOST" "Lcom/example/servweave/servweave/qos/Bound$Comparison;" (.ref t1))) (E1 : Exa Z Z.heap t1 "com/example/servweave/servweave/qos/Bound$Comparison") (Fy1 : Fld Z Z.heap t1 "com/example/servweave/servweave/qos/Bound$Comparison" "symbol" "Ljava/lang/String;" (.ref sy1)) (Es1 : Exa Z Z.heap sy1 "java/lang/String") (Fv1 : Fld Z Z.heap sy1 "java/lang/String" "value" "[B" (.ref va1)) (Fc1 : Fld Z Z.heap sy1 "java/lang/String" "coder" "B" (.int (0 : Int32))) (A1 : Arr Z Z.heap va1 cv1 .byte) (sz1 : cv1.slots.size = (2 : Int32).toNatClampNeg) (at1 : cv1.slots[0]? = some (.int (60 : Int32))) (Fo1 : Fld Z Z.heap t1 "java/lang/Enum" "ordinal" "I" (.int (1 : Int32))) (t2 sy2 va2 : Addr) (cv2 : Cell) (S2 : (Sta Z Z.heap "com/example/servweave/servweave/qos/Bound$Comparison" "GREATER" "Lcom/example/servweave/servweave/qos/Bound$Comparison;" (.ref t2))) (E2 : Exa Z Z.heap t2 "com/example/servweave/servweave/qos/Bound$Comparison") (Fy2 : Fld Z Z.heap t2 "com/example/servweave/servweave/qos/Bound$Comparison" "symbol" "Ljava/lang/String;" (.ref sy2)) (Es2 : Exa Z Z.heap sy2 "java/lang/String") (Fv2 : Fld Z Z.heap sy2 "java/lang/String" "value" "[B" (.ref va2)) (Fc2 : Fld Z Z.heap sy2 "java/lang/String" "coder" "B" (.int (0 : Int32))) (A2 : Arr Z Z.heap va2 cv2 .byte) (sz2 : cv2.slots.size = (1 : Int32).toNatClampNeg) (at2 : cv2.slots[0]? = some (.int (62 : Int32))) (Fo2 : Fld Z Z.heap t2 "java/lang/Enum" "ordinal" "I" (.int (2 : Int32))) (t3 sy3 va3 : Addr) (cv3 : Cell) (S3 : (Sta Z Z.heap "com/example/servweave/servweave/qos/Bound$Comparison" "AT_LEAST" "Lcom/example/servweave/servweave/qos/Bound$Comparison;" (.ref t3))) (E3 : Exa Z Z.heap t3 "com/example/servweave/servweave/qos/Bound$Comparison") (Fy3 : Fld Z Z.heap t3 "com/example/servweave/servweave/qos/Bound$Comparison" "symbol" "Ljava/lang/String;" (.ref sy3)) (Es3 : Exa Z Z.heap sy3 "java/lang/String") (Fv3 : Fld Z Z.heap sy3 "java/lang/String" "value" "[B" (.ref va3)) (Fc3 : Fld Z Z.heap sy3 "java/lang/String" "coder" "B" (.int (0 : Int32))) (A3 : Arr Z Z.heap va3 cv3 .byte) (sz3 : cv3.slots.size = (2 : Int32).toNatClampNeg) (at3 : cv3.slots[0]? = some (.int (62 : Int32))) (Fo3 : Fld Z Z.heap t3 "java/lang/Enum" "ordinal" "I" (.int (3 : Int32))) :
    own_Met l Z x code maxLocals ret ws room_1 #[(.int p1), (.int p2)] h0 (own_Q0 Z p1 p2 h0 n0) := by
  refine own_met (plainFor_of_name own_pn5) ?_
  intro p e s m below meth c s₁ X0 hx hZ hby hml hown hnm hret hlk e0
  have N0 := Fr.nil n0
  refine own_go (fun t k => castTop (own_ef0 m p1 p2) k) ?_
  show own_Go _ _ _ _ s₁ (mkF m 0 #[.val (.int p1), .val (.int p2), .unset, .unset, .unset, .unset, .unset, .unset] [])
  refine own_go (fun _ k => XS.iconst X0.here hx rfl (hb hby at_0) k) ?_
  show own_Go _ _ _ _ s₁ (mkF m 1 #[.val (.int p1), .val (.int p2), .unset, .unset, .unset, .unset, .unset, .unset] [(.int (4 : Int32))])
  obtain ⟨Tz21, hz21, kz21, Xz21, ez21, Ez21, Az21, Oz21, stz21⟩ := newR X0 hx hZ hown (hw _ (List.mem_of_getElem? (i := 0) rfl)) (hw _ (List.mem_of_getElem? (i := 1) rfl)) e0 (g := (mkF m 1 #[.val (.int p1), .val (.int p2), .unset, .unset, .unset, .unset, .unset, .unset] [(.int (4 : Int32))])) rfl (hb hby at_1) rfl (by decide) (cap := 4) (by decide) (by decide) (by decide) (by decide)
  obtain ⟨b, gz21⟩ : ∃ z, z = h0.size := ⟨_, rfl⟩
  rw [← gz21] at Az21 stz21
  have g_b : n0 ≤ b := by rw [gz21, ← O.1]; exact O.2.1
  have O := O.ext Ez21
  refine own_go stz21 ?_
  have V_b : Arv Z hz21 b kz21 (.object "com/example/servweave/servweave/qos/Bound$Comparison") (4 : Int32) [.null, .null, .null, .null] .null := (Arv.new Az21 (by decide)).pad (pad_rep [] .null 4)
  show own_Go _ _ _ _ Tz21 (mkF m 4 #[.val (.int p1), .val (.int p2), .unset, .unset, .unset, .unset, .unset, .unset] [(.ref b)])
  refine own_go (fun _ k => XS.dup Xz21.here hx rfl (hb hby at_4) rfl rfl k) ?_
  show own_Go _ _ _ _ Tz21 (mkF m 5 #[.val (.int p1), .val (.int p2), .unset, .unset, .unset, .unset, .unset, .unset] [(.ref b), (.ref b)])
  refine own_go (fun _ k => XS.iconst Xz21.here hx rfl (hb hby at_5) k) ?_
  show own_Go _ _ _ _ Tz21 (mkF m 6 #[.val (.int p1), .val (.int p2), .unset, .unset, .unset, .unset, .unset, .unset] [(.int (0 : Int32)), (.ref b), (.ref b)])
  obtain ⟨Tz22, Xz22, ez22, stz22⟩ := getS2 Xz21 hx hZ hown (host := "") (Or.inl (hw _ (List.mem_of_getElem? (i := 2) rfl))) Via.refl ez21 (S0.ext O.2) (g := (mkF m 6 #[.val (.int p1), .val (.int p2), .unset, .unset, .unset, .unset, .unset, .unset] [(.int (0 : Int32)), (.ref b), (.ref b)])) rfl (hb hby at_6)
  refine own_go stz22 ?_
  show own_Go _ _ _ _ Tz22 (mkF m 9 #[.val (.int p1), .val (.int p2), .unset, .unset, .unset, .unset, .unset, .unset] [(.ref t0), (.int (0 : Int32)), (.ref b), (.ref b)])
  obtain ⟨cz0, Az0, qz0, -⟩ := id V_b
  have Sto0 := Sto.ofV Az0 qz0 Oz21 (Ins.self (E0.ext O.2))
  obtain ⟨clz23, Arz23, qz23, Sz23, Mz23, HHz23, Gz23⟩ := V_b
  have hinz23 : ¬ ((0 : Int32) < 0 ∨ clz23.slots.size ≤ ((0 : Int32)).toNatClampNeg) := inb_of Sz23 ⟨(by decide), (by decide)⟩
  obtain ⟨Tz23, hz23, Xz23, ez23, Wz23, stz23⟩ := stR Xz22 hx hZ ez22 Arz23 (j := (0 : Int32)) hinz23 rfl Sto0 (g := (mkF m 9 #[.val (.int p1), .val (.int p2), .unset, .unset, .unset, .unset, .unset, .unset] [(.ref t0), (.int (0 : Int32)), (.ref b), (.ref b)])) rfl rfl (hb hby at_9)
  refine own_go stz23 ?_
  have V_b_ : Arv Z hz23 b kz21 (.object "com/example/servweave/servweave/qos/Bound$Comparison") (4 : Int32) [(.ref t0), .null, .null, .null] .null := Arv.set Arz23 qz23 Sz23 Mz23 HHz23 Gz23 rfl Wz23 0 rfl (Nat.le_of_ble_eq_true rfl)
  have Nz23 := Fr.snoc Xz23 N0 g_b
  have O := O.wr Wz23 g_b
  have V_b := V_b_
  show own_Go _ _ _ _ Tz23 (mkF m 10 #[.val (.int p1), .val (.int p2), .unset, .unset, .unset, .unset, .unset, .unset] [(.ref b)])
  refine own_go (fun _ k => XS.dup Xz23.here hx rfl (hb hby at_10) rfl rfl k) ?_
  show own_Go _ _ _ _ Tz23 (mkF m 11 #[.val (.int p1), .val (.int p2), .unset, .unset, .unset, .unset, .unset, .unset] [(.ref b), (.ref b)])
  refine own_go (fun _ k => XS.iconst Xz23.here hx rfl (hb hby at_11) k) ?_
  show own_Go _ _ _ _ Tz23 (mkF m 12 #[.val (.int p1), .val (.int p2), .unset, .unset, .unset, .unset, .unset, .unset] [(.int (1 : Int32)), (.ref b), (.ref b)])
  obtain ⟨Tz24, Xz24, ez24, stz24⟩ := getS2 Xz23 hx hZ hown (host := "") (Or.inl (hw _ (List.mem_of_getElem? (i := 6) rfl))) Via.refl ez23 (S1.ext O.2) (g := (mkF m 12 #[.val (.int p1), .val (.int p2), .unset, .unset, .unset, .unset, .unset, .unset] [(.int (1 : Int32)), (.ref b), (.ref b)])) rfl (hb hby at_12)
  refine own_go stz24 ?_
  show own_Go _ _ _ _ Tz24 (mkF m 15 #[.val (.int p1), .val (.int p2), .unset, .unset, .unset, .unset, .unset, .unset] [(.ref t1), (.int (1 : Int32)), (.ref b), (.ref b)])
  obtain ⟨cz1, Az1, qz1, -⟩ := id V_b
  have Sto1 := Sto.ofV Az1 qz1 Oz21 (Ins.self (E1.ext O.2))
  obtain ⟨clz25, Arz25, qz25, Sz25, Mz25, HHz25, Gz25⟩ := V_b
  have hinz25 : ¬ ((1 : Int32) < 0 ∨ clz25.slots.size ≤ ((1 : Int32)).toNatClampNeg) := inb_of Sz25 ⟨(by decide), (by decide)⟩
  obtain ⟨Tz25, hz25, Xz25, ez25, Wz25, stz25⟩ := stR Xz24 hx hZ ez24 Arz25 (j := (1 : Int32)) hinz25 rfl Sto1 (g := (mkF m 15 #[.val (.int p1), .val (.int p2), .unset, .unset, .unset, .unset, .unset, .unset] [(.ref t1), (.int (1 : Int32)), (.ref b), (.ref b)])) rfl rfl (hb hby at_15)
  refine own_go stz25 ?_
  have V_b_ : Arv Z hz25 b kz21 (.object "com/example/servweave/servweave/qos/Bound$Comparison") (4 : Int32) [(.ref t0), (.ref t1), .null, .null] .null := Arv.set Arz25 qz25 Sz25 Mz25 HHz25 Gz25 rfl Wz25 1 rfl (Nat.le_of_ble_eq_true rfl)
  have Nz25 := Fr.snoc Xz25 Nz23 g_b
  have O := O.wr Wz25 g_b
  have V_b := V_b_
  show own_Go _ _ _ _ Tz25 (mkF m 16 #[.val (.int p1), .val (.int p2), .unset, .unset, .unset, .unset, .unset, .unset] [(.ref b)])
  refine own_go (fun _ k => XS.dup Xz25.here hx rfl (hb hby at_16) rfl rfl k) ?_
  show own_Go _ _ _ _ Tz25 (mkF m 17 #[.val (.int p1), .val (.int p2), .unset, .unset, .unset, .unset, .unset, .unset] [(.ref b), (.ref b)])
  refine own_go (fun _ k => XS.iconst Xz25.here hx rfl (hb hby at_17) k) ?_
  show own_Go _ _ _ _ Tz25 (mkF m 18 #[.val (.int p1), .val (.int p2), .unset, .unset, .unset, .unset, .unset, .unset] [(.int (2 : Int32)), (.ref b), (.ref b)])
  obtain ⟨Tz26, Xz26, ez26, stz26⟩ := getS2 Xz25 hx hZ hown (host := "") (Or.inl (hw _ (List.mem_of_getElem? (i := 8) rfl))) Via.refl ez25 (S2.ext O.2) (g := (mkF m 18 #[.val (.int p1), .val (.int p2), .unset, .unset, .unset, .unset, .unset, .unset] [(.int (2 : Int32)), (.ref b), (.ref b)])) rfl (hb hby at_18)
  refine own_go stz26 ?_
  show own_Go _ _ _ _ Tz26 (mkF m 21 #[.val (.int p1), .val (.int p2), .unset, .unset, .unset, .unset, .unset, .unset] [(.ref t2), (.int (2 : Int32)), (.ref b), (.ref b)])
  obtain ⟨cz2, Az2, qz2, -⟩ := id V_b
  have Sto2 := Sto.ofV Az2 qz2 Oz21 (Ins.self (E2.ext O.2))
  obtain ⟨clz27, Arz27, qz27, Sz27, Mz27, HHz27, Gz27⟩ := V_b
  have hinz27 : ¬ ((2 : Int32) < 0 ∨ clz27.slots.size ≤ ((2 : Int32)).toNatClampNeg) := inb_of Sz27 ⟨(by decide), (by decide)⟩
  obtain ⟨Tz27, hz27, Xz27, ez27, Wz27, stz27⟩ := stR Xz26 hx hZ ez26 Arz27 (j := (2 : Int32)) hinz27 rfl Sto2 (g := (mkF m 21 #[.val (.int p1), .val (.int p2), .unset, .unset, .unset, .unset, .unset, .unset] [(.ref t2), (.int (2 : Int32)), (.ref b), (.ref b)])) rfl rfl (hb hby at_21)
  refine own_go stz27 ?_
  have V_b_ : Arv Z hz27 b kz21 (.object "com/example/servweave/servweave/qos/Bound$Comparison") (4 : Int32) [(.ref t0), (.ref t1), (.ref t2), .null] .null := Arv.set Arz27 qz27 Sz27 Mz27 HHz27 Gz27 rfl Wz27 2 rfl (Nat.le_of_ble_eq_true rfl)
  have Nz27 := Fr.snoc Xz27 Nz25 g_b
  have O := O.wr Wz27 g_b
  have V_b := V_b_
  show own_Go _ _ _ _ Tz27 (mkF m 22 #[.val (.int p1), .val (.int p2), .unset, .unset, .unset, .unset, .unset, .unset] [(.ref b)])
  refine own_go (fun _ k => XS.dup Xz27.here hx rfl (hb hby at_22) rfl rfl k) ?_
  show own_Go _ _ _ _ Tz27 (mkF m 23 #[.val (.int p1), .val (.int p2), .unset, .unset, .unset, .unset, .unset, .unset] [(.ref b), (.ref b)])
  refine own_go (fun _ k => XS.iconst Xz27.here hx rfl (hb hby at_23) k) ?_
  show own_Go _ _ _ _ Tz27 (mkF m 24 #[.val (.int p1), .val (.int p2), .unset, .unset, .unset, .unset, .unset, .unset] [(.int (3 : Int32)), (.ref b), (.ref b)])
  obtain ⟨Tz28, Xz28, ez28, stz28⟩ := getS2 Xz27 hx hZ hown (host := "") (Or.inl (hw _ (List.mem_of_getElem? (i := 10) rfl))) Via.refl ez27 (S3.ext O.2) (g := (mkF m 24 #[.val (.int p1), .val (.int p2), .unset, .unset, .unset, .unset, .unset, .unset] [(.int (3 : Int32)), (.ref b), (.ref b)])) rfl (hb hby at_24)
  refine own_go stz28 ?_
  show own_Go _ _ _ _ Tz28 (mkF m 27 #[.val (.int p1), .val (.int p2), .unset, .unset, .unset, .unset, .unset, .unset] [(.ref t3), (.int (3 : Int32)), (.ref b), (.ref b)])
  obtain ⟨cz3, Az3, qz3, -⟩ := id V_b
  have Sto3 := Sto.ofV Az3 qz3 Oz21 (Ins.self (E3.ext O.2))
  obtain ⟨clz29, Arz29, qz29, Sz29, Mz29, HHz29, Gz29⟩ := V_b
  have hinz29 : ¬ ((3 : Int32) < 0 ∨ clz29.slots.size ≤ ((3 : Int32)).toNatClampNeg) := inb_of Sz29 ⟨(by decide), (by decide)⟩
  obtain ⟨Tz29, hz29, Xz29, ez29, Wz29, stz29⟩ := stR Xz28 hx hZ ez28 Arz29 (j := (3 : Int32)) hinz29 rfl Sto3 (g := (mkF m 27 #[.val (.int p1), .val (.int p2), .unset, .unset, .unset, .unset, .unset, .unset] [(.ref t3), (.int (3 : Int32)), (.ref b), (.ref b)])) rfl rfl (hb hby at_27)
  refine own_go stz29 ?_
  have V_b_ : Arv Z hz29 b kz21 (.object "com/example/servweave/servweave/qos/Bound$Comparison") (4 : Int32) [(.ref t0), (.ref t1), (.ref t2), (.ref t3)] .null := Arv.set Arz29 qz29 Sz29 Mz29 HHz29 Gz29 rfl Wz29 3 rfl (Nat.le_of_ble_eq_true rfl)
  have Nz29 := Fr.snoc Xz29 Nz27 g_b
  have O := O.wr Wz29 g_b
  have V_b := V_b_
  show own_Go _ _ _ _ Tz29 (mkF m 28 #[.val (.int p1), .val (.int p2), .unset, .unset, .unset, .unset, .unset, .unset] [(.ref b)])
  refine own_go (fun _ k => XS.astoreN Xz29.here hx rfl (hb hby at_28) rfl rfl (l' := #[.val (.int p1), .val (.int p2), .val (.ref b), .unset, .unset, .unset, .unset, .unset]) rfl k) ?_
  show own_Go _ _ _ _ Tz29 (mkF m 29 #[.val (.int p1), .val (.int p2), .val (.ref b), .unset, .unset, .unset, .unset, .unset] [])
  refine own_go (fun _ k => XS.aloadN Xz29.here hx rfl (hb hby at_29) rfl rfl k) ?_
  show own_Go _ _ _ _ Tz29 (mkF m 30 #[.val (.int p1), .val (.int p2), .val (.ref b), .unset, .unset, .unset, .unset, .unset] [(.ref b)])
  refine own_go (fun _ k => XS.iloadN Xz29.here hx rfl (hb hby at_30) rfl k) ?_
  show own_Go _ _ _ _ Tz29 (mkF m 31 #[.val (.int p1), .val (.int p2), .val (.ref b), .unset, .unset, .unset, .unset, .unset] [(.int p1), (.ref b)])
  refine own_go (fun _ k => XS.iconst Xz29.here hx rfl (hb hby at_31) k) ?_
  show own_Go _ _ _ _ Tz29 (mkF m 32 #[.val (.int p1), .val (.int p2), .val (.ref b), .unset, .unset, .unset, .unset, .unset] [(.int (3 : Int32)), (.int p1), (.ref b)])
  refine own_go (fun _ k => XS.iand Xz29.here hx rfl (hb hby at_32) rfl k) ?_
  show own_Go _ _ _ _ Tz29 (mkF m 33 #[.val (.int p1), .val (.int p2), .val (.ref b), .unset, .unset, .unset, .unset, .unset] [(.int (p1 &&& (3 : Int32))), (.ref b)])
  obtain ⟨iv, hiv⟩ : ∃ z, z = (p1 &&& (3 : Int32)) := ⟨_, rfl⟩
  have hcs4 := own_four p1
  rw [← hiv] at hcs4
  rw [← hiv]
  clear hiv
  show own_Go _ _ _ _ Tz29 (mkF m 33 #[.val (.int p1), .val (.int p2), .val (.ref b), .unset, .unset, .unset, .unset, .unset] [(.int iv), (.ref b)])
  rcases hcs4 with rfl | rfl | rfl | rfl
  · show own_Go _ _ _ _ Tz29 (mkF m 33 #[.val (.int p1), .val (.int p2), .val (.ref b), .unset, .unset, .unset, .unset, .unset] [(.int (0 : Int32)), (.ref b)])
    obtain ⟨clz30, Arz30, qz30, Sz30, Mz30, HHz30, Gz30⟩ := id V_b
    have hinz30 : ¬ ((0 : Int32) < 0 ∨ clz30.slots.size ≤ ((0 : Int32)).toNatClampNeg) := inb_of Sz30 ⟨(by decide), (by decide)⟩
    have hatz30 : clz30.slots[((0 : Int32)).toNatClampNeg]? = some (.ref t0) := HHz30.at hinz30 (rfl)
    refine own_go (fun _ k => Xz29.aaload hx (j := (0 : Int32)) (v := (.ref t0)) (by rw [ez29]; exact Arz30.1) (State.isArrayOf_alike hZ.alike Arz30.2.1) rfl Arz30.2.2 hinz30 hatz30 (g := (mkF m 33 #[.val (.int p1), .val (.int p2), .val (.ref b), .unset, .unset, .unset, .unset, .unset] [(.int (0 : Int32)), (.ref b)])) rfl rfl (hb hby at_33) _ k) ?_
    show own_Go _ _ _ _ Tz29 (mkF m 34 #[.val (.int p1), .val (.int p2), .val (.ref b), .unset, .unset, .unset, .unset, .unset] [(.ref t0)])
    refine own_go (fun _ k => XS.astoreN Xz29.here hx rfl (hb hby at_34) rfl rfl (l' := #[.val (.int p1), .val (.int p2), .val (.ref b), .val (.ref t0), .unset, .unset, .unset, .unset]) rfl k) ?_
    show own_Go _ _ _ _ Tz29 (mkF m 35 #[.val (.int p1), .val (.int p2), .val (.ref b), .val (.ref t0), .unset, .unset, .unset, .unset] [])
    refine own_go (fun _ k => XS.aloadN Xz29.here hx rfl (hb hby at_35) rfl rfl k) ?_
    show own_Go _ _ _ _ Tz29 (mkF m 36 #[.val (.int p1), .val (.int p2), .val (.ref b), .val (.ref t0), .unset, .unset, .unset, .unset] [(.ref t0)])
    have E_t := E0.ext O.2
    have E_s := Es0.ext O.2
    obtain ⟨vz31, Tz31, Lz31, Xz31, hQz31, stz31⟩ := own_callV Xz29 hx hZ hown (hw _ (List.mem_of_getElem? (i := 12) rfl)) (hw _ (List.mem_of_getElem? (i := 13) rfl)) (hw _ (List.mem_of_getElem? (i := 15) rfl)) (hw _ (List.mem_of_getElem? (i := 14) rfl)) (hw _ (List.mem_of_getElem? (i := 3) rfl)) (hw _ (List.mem_of_getElem? (i := 16) rfl)) (by decide) ez29 E_t (own_rm1 l Z a0 hw [] t0 hz29 n0 sy0 (Fy0.ext O.2)) (W := 0) (by decide) (by decide) (by decide) (by decide) own_pd6 rfl (g := (mkF m 36 #[.val (.int p1), .val (.int p2), .val (.ref b), .val (.ref t0), .unset, .unset, .unset, .unset] [(.ref t0)])) (argsL := []) (rest := []) rfl (by rw [hml]; rfl) rfl (by show 2 * 0 + _ ≤ _; exact Nat.le_of_eq rfl) (hb hby at_36)
    obtain ⟨rfl, Nz31q, ehz31⟩ := hQz31
    have Nz31 := Fr.app Nz29 Nz31q
    refine own_go stz31 ?_
    show own_Go _ _ _ _ Tz31 (mkF m 39 #[.val (.int p1), .val (.int p2), .val (.ref b), .val (.ref t0), .unset, .unset, .unset, .unset] [(.ref sy0)])
    refine own_go (fun _ k => XS.astore Xz31.here hx rfl (hb hby at_39) rfl rfl (l' := #[.val (.int p1), .val (.int p2), .val (.ref b), .val (.ref t0), .val (.ref sy0), .unset, .unset, .unset]) rfl k) ?_
    show own_Go _ _ _ _ Tz31 (mkF m 41 #[.val (.int p1), .val (.int p2), .val (.ref b), .val (.ref t0), .val (.ref sy0), .unset, .unset, .unset] [])
    refine own_go (fun _ k => XS.aload Xz31.here hx rfl (hb hby at_41) rfl rfl k) ?_
    show own_Go _ _ _ _ Tz31 (mkF m 43 #[.val (.int p1), .val (.int p2), .val (.ref b), .val (.ref t0), .val (.ref sy0), .unset, .unset, .unset] [(.ref sy0)])
    obtain ⟨vz32, Tz32, Lz32, Xz32, hQz32, stz32⟩ := own_callV Xz31 hx hZ hown (hw _ (List.mem_of_getElem? (i := 19) rfl)) (hw _ (List.mem_of_getElem? (i := 20) rfl)) (hw _ (List.mem_of_getElem? (i := 22) rfl)) (hw _ (List.mem_of_getElem? (i := 21) rfl)) (hw _ (List.mem_of_getElem? (i := 23) rfl)) (hw _ (List.mem_of_getElem? (i := 24) rfl)) (by decide) ehz31 E_s (own_rm2 l Z a0 hw [] sy0 hz29 n0 O cs hcs Scs E_s (Fc0.ext O.2) va0 cv0 (1 : Int32) (0 : Int32) (by decide) (A0.ext O.2) sz0 (Fv0.ext O.2)) (W := 0) (by decide) (by decide) (by decide) (by decide) own_pd5 rfl (g := (mkF m 43 #[.val (.int p1), .val (.int p2), .val (.ref b), .val (.ref t0), .val (.ref sy0), .unset, .unset, .unset] [(.ref sy0)])) (argsL := []) (rest := []) rfl (by rw [hml]; rfl) rfl (by show 2 * 0 + _ ≤ _; exact Nat.le_of_eq rfl) (hb hby at_43)
    obtain ⟨rfl, Nz32q, ehz32⟩ := hQz32
    have Nz32 := Fr.app Nz31 Nz32q
    refine own_go stz32 ?_
    show own_Go _ _ _ _ Tz32 (mkF m 46 #[.val (.int p1), .val (.int p2), .val (.ref b), .val (.ref t0), .val (.ref sy0), .unset, .unset, .unset] [(.int (1 : Int32))])
    refine own_go (fun _ k => XS.ifNo Xz32.here hx rfl (hb hby at_46) rfl ((if0 _ _).trans (tlt (by decide : (0 : Int32) < (1 : Int32))).2.2.2) k) ?_
    show own_Go _ _ _ _ Tz32 (mkF m 49 #[.val (.int p1), .val (.int p2), .val (.ref b), .val (.ref t0), .val (.ref sy0), .unset, .unset, .unset] [])
    refine own_go (fun _ k => XS.aload Xz32.here hx rfl (hb hby at_49) rfl rfl k) ?_
    show own_Go _ _ _ _ Tz32 (mkF m 51 #[.val (.int p1), .val (.int p2), .val (.ref b), .val (.ref t0), .val (.ref sy0), .unset, .unset, .unset] [(.ref sy0)])
    refine own_go (fun _ k => XS.iconst Xz32.here hx rfl (hb hby at_51) k) ?_
    show own_Go _ _ _ _ Tz32 (mkF m 52 #[.val (.int p1), .val (.int p2), .val (.ref b), .val (.ref t0), .val (.ref sy0), .unset, .unset, .unset] [(.int (0 : Int32)), (.ref sy0)])
    obtain ⟨vz33, Tz33, Lz33, Xz33, hQz33, stz33⟩ := own_callV Xz32 hx hZ hown (hw _ (List.mem_of_getElem? (i := 35) rfl)) (hw _ (List.mem_of_getElem? (i := 36) rfl)) (hw _ (List.mem_of_getElem? (i := 38) rfl)) (hw _ (List.mem_of_getElem? (i := 37) rfl)) (hw _ (List.mem_of_getElem? (i := 23) rfl)) (hw _ (List.mem_of_getElem? (i := 39) rfl)) (by decide) ehz32 E_s (own_rm4 l Z a0 hw [] sy0 (0 : Int32) hz29 n0 O cs hcs Scs fv hfv Sfv E_s (Fc0.ext O.2) va0 cv0 (1 : Int32) (60 : Int32) (by decide) (A0.ext O.2) sz0 (Fv0.ext O.2) at0 (by decide) (by decide) rfl rfl) (W := 0) (by decide) (by decide) (by decide) (by decide) own_pd7 rfl (g := (mkF m 52 #[.val (.int p1), .val (.int p2), .val (.ref b), .val (.ref t0), .val (.ref sy0), .unset, .unset, .unset] [(.int (0 : Int32)), (.ref sy0)])) (argsL := [(.int (0 : Int32))]) (rest := []) rfl (by rw [hml]; rfl) rfl (by show 2 * 0 + _ ≤ _; exact Nat.le_of_eq rfl) (hb hby at_52)
    obtain ⟨rfl, Nz33q, ehz33⟩ := hQz33
    have Nz33 := Fr.app Nz32 Nz33q
    refine own_go stz33 ?_
    show own_Go _ _ _ _ Tz33 (mkF m 55 #[.val (.int p1), .val (.int p2), .val (.ref b), .val (.ref t0), .val (.ref sy0), .unset, .unset, .unset] [(.int (60 : Int32))])
    refine own_go (fun _ k => XS.bipush Xz33.here hx rfl (hb hby at_55) k) ?_
    show own_Go _ _ _ _ Tz33 (mkF m 57 #[.val (.int p1), .val (.int p2), .val (.ref b), .val (.ref t0), .val (.ref sy0), .unset, .unset, .unset] [(.int (60 : Int32)), (.int (60 : Int32))])
    refine own_go (fun _ k => XS.icmpNo Xz33.here hx rfl (hb hby at_57) rfl (teq (by decide : (60 : Int32) = (60 : Int32))).2 k) ?_
    show own_Go _ _ _ _ Tz33 (mkF m 60 #[.val (.int p1), .val (.int p2), .val (.ref b), .val (.ref t0), .val (.ref sy0), .unset, .unset, .unset] [])
    refine own_go (fun _ k => XS.iconst Xz33.here hx rfl (hb hby at_60) k) ?_
    show own_Go _ _ _ _ Tz33 (mkF m 61 #[.val (.int p1), .val (.int p2), .val (.ref b), .val (.ref t0), .val (.ref sy0), .unset, .unset, .unset] [(.int (1 : Int32))])
    refine own_go (fun _ k => XS.goto Xz33.here hx rfl (pc0 := 61) (pc' := 65) rfl (hb hby at_61) (by decide) (by decide) k) ?_
    show own_Go _ _ _ _ Tz33 (mkF m 65 #[.val (.int p1), .val (.int p2), .val (.ref b), .val (.ref t0), .val (.ref sy0), .unset, .unset, .unset] [(.int (1 : Int32))])
    refine own_go (fun _ k => XS.istore Xz33.here hx rfl (hb hby at_65) rfl (l' := #[.val (.int p1), .val (.int p2), .val (.ref b), .val (.ref t0), .val (.ref sy0), .val (.int (1 : Int32)), .unset, .unset]) rfl k) ?_
    show own_Go _ _ _ _ Tz33 (mkF m 67 #[.val (.int p1), .val (.int p2), .val (.ref b), .val (.ref t0), .val (.ref sy0), .val (.int (1 : Int32)), .unset, .unset] [])
    refine own_go (fun _ k => XS.aload Xz33.here hx rfl (hb hby at_67) rfl rfl k) ?_
    show own_Go _ _ _ _ Tz33 (mkF m 69 #[.val (.int p1), .val (.int p2), .val (.ref b), .val (.ref t0), .val (.ref sy0), .val (.int (1 : Int32)), .unset, .unset] [(.ref sy0)])
    obtain ⟨vz34, Tz34, Lz34, Xz34, hQz34, stz34⟩ := own_callV Xz33 hx hZ hown (hw _ (List.mem_of_getElem? (i := 19) rfl)) (hw _ (List.mem_of_getElem? (i := 20) rfl)) (hw _ (List.mem_of_getElem? (i := 22) rfl)) (hw _ (List.mem_of_getElem? (i := 21) rfl)) (hw _ (List.mem_of_getElem? (i := 23) rfl)) (hw _ (List.mem_of_getElem? (i := 24) rfl)) (by decide) ehz33 E_s (own_rm2 l Z a0 hw [] sy0 hz29 n0 O cs hcs Scs E_s (Fc0.ext O.2) va0 cv0 (1 : Int32) (0 : Int32) (by decide) (A0.ext O.2) sz0 (Fv0.ext O.2)) (W := 0) (by decide) (by decide) (by decide) (by decide) own_pd5 rfl (g := (mkF m 69 #[.val (.int p1), .val (.int p2), .val (.ref b), .val (.ref t0), .val (.ref sy0), .val (.int (1 : Int32)), .unset, .unset] [(.ref sy0)])) (argsL := []) (rest := []) rfl (by rw [hml]; rfl) rfl (by show 2 * 0 + _ ≤ _; exact Nat.le_of_eq rfl) (hb hby at_69)
    obtain ⟨rfl, Nz34q, ehz34⟩ := hQz34
    have Nz34 := Fr.app Nz33 Nz34q
    refine own_go stz34 ?_
    show own_Go _ _ _ _ Tz34 (mkF m 72 #[.val (.int p1), .val (.int p2), .val (.ref b), .val (.ref t0), .val (.ref sy0), .val (.int (1 : Int32)), .unset, .unset] [(.int (1 : Int32))])
    refine own_go (fun _ k => XS.iconst Xz34.here hx rfl (hb hby at_72) k) ?_
    show own_Go _ _ _ _ Tz34 (mkF m 73 #[.val (.int p1), .val (.int p2), .val (.ref b), .val (.ref t0), .val (.ref sy0), .val (.int (1 : Int32)), .unset, .unset] [(.int (2 : Int32)), (.int (1 : Int32))])
    refine own_go (fun _ k => XS.icmpYes Xz34.here hx rfl (pc0 := 73) (pc' := 80) rfl (hb hby at_73) rfl (feq (by decide : ¬ ((1 : Int32) = (2 : Int32)))).2 (by decide) (by decide) k) ?_
    show own_Go _ _ _ _ Tz34 (mkF m 80 #[.val (.int p1), .val (.int p2), .val (.ref b), .val (.ref t0), .val (.ref sy0), .val (.int (1 : Int32)), .unset, .unset] [])
    refine own_go (fun _ k => XS.iconst Xz34.here hx rfl (hb hby at_80) k) ?_
    show own_Go _ _ _ _ Tz34 (mkF m 81 #[.val (.int p1), .val (.int p2), .val (.ref b), .val (.ref t0), .val (.ref sy0), .val (.int (1 : Int32)), .unset, .unset] [(.int (0 : Int32))])
    refine own_go (fun _ k => XS.istore Xz34.here hx rfl (hb hby at_81) rfl (l' := #[.val (.int p1), .val (.int p2), .val (.ref b), .val (.ref t0), .val (.ref sy0), .val (.int (1 : Int32)), .val (.int (0 : Int32)), .unset]) rfl k) ?_
    show own_Go _ _ _ _ Tz34 (mkF m 83 #[.val (.int p1), .val (.int p2), .val (.ref b), .val (.ref t0), .val (.ref sy0), .val (.int (1 : Int32)), .val (.int (0 : Int32)), .unset] [])
    refine own_go (fun _ k => XS.iloadN Xz34.here hx rfl (hb hby at_83) rfl k) ?_
    show own_Go _ _ _ _ Tz34 (mkF m 84 #[.val (.int p1), .val (.int p2), .val (.ref b), .val (.ref t0), .val (.ref sy0), .val (.int (1 : Int32)), .val (.int (0 : Int32)), .unset] [(.int p2)])
    refine own_dia (α := Int32) (C := p2 = (0 : Int32)) (v1 := (0 : Int32)) (v0 := (if (if p2 < (0 : Int32) then (1 : Int32) else (0 : Int32)) = (1 : Int32) then (1 : Int32) else (0 : Int32))) (f := fun v => (mkF m 111 #[.val (.int p1), .val (.int p2), .val (.ref b), .val (.ref t0), .val (.ref sy0), .val (.int (1 : Int32)), .val (.int (0 : Int32)), .unset] ((.int v) :: []))) (T' := Tz34) (fun hC k => ?_) (fun hC k => ?_) ?_
    · show own_Go _ _ _ _ Tz34 (mkF m 84 #[.val (.int p1), .val (.int p2), .val (.ref b), .val (.ref t0), .val (.ref sy0), .val (.int (1 : Int32)), .val (.int (0 : Int32)), .unset] [(.int p2)])
      refine own_go (fun _ k => XS.ifNo Xz34.here hx rfl (hb hby at_84) rfl ((if0 _ _).trans (teq hC).2) k) ?_
      show own_Go _ _ _ _ Tz34 (mkF m 87 #[.val (.int p1), .val (.int p2), .val (.ref b), .val (.ref t0), .val (.ref sy0), .val (.int (1 : Int32)), .val (.int (0 : Int32)), .unset] [])
      refine own_go (fun _ k => XS.iload Xz34.here hx rfl (hb hby at_87) rfl k) ?_
      show own_Go _ _ _ _ Tz34 (mkF m 89 #[.val (.int p1), .val (.int p2), .val (.ref b), .val (.ref t0), .val (.ref sy0), .val (.int (1 : Int32)), .val (.int (0 : Int32)), .unset] [(.int (0 : Int32))])
      refine own_go (fun _ k => XS.goto Xz34.here hx rfl (pc0 := 89) (pc' := 111) rfl (hb hby at_89) (by decide) (by decide) k) ?_
      show own_Go _ _ _ _ Tz34 (mkF m 111 #[.val (.int p1), .val (.int p2), .val (.ref b), .val (.ref t0), .val (.ref sy0), .val (.int (1 : Int32)), .val (.int (0 : Int32)), .unset] [(.int (0 : Int32))])
      exact k
    · show own_Go _ _ _ _ Tz34 (mkF m 84 #[.val (.int p1), .val (.int p2), .val (.ref b), .val (.ref t0), .val (.ref sy0), .val (.int (1 : Int32)), .val (.int (0 : Int32)), .unset] [(.int p2)])
      refine own_go (fun _ k => XS.ifYes Xz34.here hx rfl (pc0 := 84) (pc' := 92) rfl (hb hby at_84) rfl ((if0 _ _).trans (feq hC).2) (by decide) (by decide) k) ?_
      show own_Go _ _ _ _ Tz34 (mkF m 92 #[.val (.int p1), .val (.int p2), .val (.ref b), .val (.ref t0), .val (.ref sy0), .val (.int (1 : Int32)), .val (.int (0 : Int32)), .unset] [])
      refine own_go (fun _ k => XS.iloadN Xz34.here hx rfl (hb hby at_92) rfl k) ?_
      show own_Go _ _ _ _ Tz34 (mkF m 93 #[.val (.int p1), .val (.int p2), .val (.ref b), .val (.ref t0), .val (.ref sy0), .val (.int (1 : Int32)), .val (.int (0 : Int32)), .unset] [(.int p2)])
      refine own_dia (α := Int32) (C := p2 < (0 : Int32)) (v1 := (1 : Int32)) (v0 := (0 : Int32)) (f := fun v => (mkF m 101 #[.val (.int p1), .val (.int p2), .val (.ref b), .val (.ref t0), .val (.ref sy0), .val (.int (1 : Int32)), .val (.int (0 : Int32)), .unset] ((.int v) :: []))) (T' := Tz34) (fun hC k => ?_) (fun hC k => ?_) ?_
      · show own_Go _ _ _ _ Tz34 (mkF m 93 #[.val (.int p1), .val (.int p2), .val (.ref b), .val (.ref t0), .val (.ref sy0), .val (.int (1 : Int32)), .val (.int (0 : Int32)), .unset] [(.int p2)])
        refine own_go (fun _ k => XS.ifNo Xz34.here hx rfl (hb hby at_93) rfl ((if0 _ _).trans (tlt hC).2.1) k) ?_
        show own_Go _ _ _ _ Tz34 (mkF m 96 #[.val (.int p1), .val (.int p2), .val (.ref b), .val (.ref t0), .val (.ref sy0), .val (.int (1 : Int32)), .val (.int (0 : Int32)), .unset] [])
        refine own_go (fun _ k => XS.iconst Xz34.here hx rfl (hb hby at_96) k) ?_
        show own_Go _ _ _ _ Tz34 (mkF m 97 #[.val (.int p1), .val (.int p2), .val (.ref b), .val (.ref t0), .val (.ref sy0), .val (.int (1 : Int32)), .val (.int (0 : Int32)), .unset] [(.int (1 : Int32))])
        refine own_go (fun _ k => XS.goto Xz34.here hx rfl (pc0 := 97) (pc' := 101) rfl (hb hby at_97) (by decide) (by decide) k) ?_
        show own_Go _ _ _ _ Tz34 (mkF m 101 #[.val (.int p1), .val (.int p2), .val (.ref b), .val (.ref t0), .val (.ref sy0), .val (.int (1 : Int32)), .val (.int (0 : Int32)), .unset] [(.int (1 : Int32))])
        exact k
      · show own_Go _ _ _ _ Tz34 (mkF m 93 #[.val (.int p1), .val (.int p2), .val (.ref b), .val (.ref t0), .val (.ref sy0), .val (.int (1 : Int32)), .val (.int (0 : Int32)), .unset] [(.int p2)])
        refine own_go (fun _ k => XS.ifYes Xz34.here hx rfl (pc0 := 93) (pc' := 100) rfl (hb hby at_93) rfl ((if0 _ _).trans (flt hC).2.1) (by decide) (by decide) k) ?_
        show own_Go _ _ _ _ Tz34 (mkF m 100 #[.val (.int p1), .val (.int p2), .val (.ref b), .val (.ref t0), .val (.ref sy0), .val (.int (1 : Int32)), .val (.int (0 : Int32)), .unset] [])
        refine own_go (fun _ k => XS.iconst Xz34.here hx rfl (hb hby at_100) k) ?_
        show own_Go _ _ _ _ Tz34 (mkF m 101 #[.val (.int p1), .val (.int p2), .val (.ref b), .val (.ref t0), .val (.ref sy0), .val (.int (1 : Int32)), .val (.int (0 : Int32)), .unset] [(.int (0 : Int32))])
        exact k
      show own_Go _ _ _ _ Tz34 (mkF m 101 #[.val (.int p1), .val (.int p2), .val (.ref b), .val (.ref t0), .val (.ref sy0), .val (.int (1 : Int32)), .val (.int (0 : Int32)), .unset] [(.int (if p2 < (0 : Int32) then (1 : Int32) else (0 : Int32)))])
      refine own_go (fun _ k => XS.iload Xz34.here hx rfl (hb hby at_101) rfl k) ?_
      show own_Go _ _ _ _ Tz34 (mkF m 103 #[.val (.int p1), .val (.int p2), .val (.ref b), .val (.ref t0), .val (.ref sy0), .val (.int (1 : Int32)), .val (.int (0 : Int32)), .unset] [(.int (1 : Int32)), (.int (if p2 < (0 : Int32) then (1 : Int32) else (0 : Int32)))])
      refine own_dia (α := Int32) (C := (if p2 < (0 : Int32) then (1 : Int32) else (0 : Int32)) = (1 : Int32)) (v1 := (1 : Int32)) (v0 := (0 : Int32)) (f := fun v => (mkF m 111 #[.val (.int p1), .val (.int p2), .val (.ref b), .val (.ref t0), .val (.ref sy0), .val (.int (1 : Int32)), .val (.int (0 : Int32)), .unset] ((.int v) :: []))) (T' := Tz34) (fun hC k => ?_) (fun hC k => ?_) ?_
      · show own_Go _ _ _ _ Tz34 (mkF m 103 #[.val (.int p1), .val (.int p2), .val (.ref b), .val (.ref t0), .val (.ref sy0), .val (.int (1 : Int32)), .val (.int (0 : Int32)), .unset] [(.int (1 : Int32)), (.int (if p2 < (0 : Int32) then (1 : Int32) else (0 : Int32)))])
        refine own_go (fun _ k => XS.icmpNo Xz34.here hx rfl (hb hby at_103) rfl (teq hC).2 k) ?_
        show own_Go _ _ _ _ Tz34 (mkF m 106 #[.val (.int p1), .val (.int p2), .val (.ref b), .val (.ref t0), .val (.ref sy0), .val (.int (1 : Int32)), .val (.int (0 : Int32)), .unset] [])
        refine own_go (fun _ k => XS.iconst Xz34.here hx rfl (hb hby at_106) k) ?_
        show own_Go _ _ _ _ Tz34 (mkF m 107 #[.val (.int p1), .val (.int p2), .val (.ref b), .val (.ref t0), .val (.ref sy0), .val (.int (1 : Int32)), .val (.int (0 : Int32)), .unset] [(.int (1 : Int32))])
        refine own_go (fun _ k => XS.goto Xz34.here hx rfl (pc0 := 107) (pc' := 111) rfl (hb hby at_107) (by decide) (by decide) k) ?_
        show own_Go _ _ _ _ Tz34 (mkF m 111 #[.val (.int p1), .val (.int p2), .val (.ref b), .val (.ref t0), .val (.ref sy0), .val (.int (1 : Int32)), .val (.int (0 : Int32)), .unset] [(.int (1 : Int32))])
        exact k
      · show own_Go _ _ _ _ Tz34 (mkF m 103 #[.val (.int p1), .val (.int p2), .val (.ref b), .val (.ref t0), .val (.ref sy0), .val (.int (1 : Int32)), .val (.int (0 : Int32)), .unset] [(.int (1 : Int32)), (.int (if p2 < (0 : Int32) then (1 : Int32) else (0 : Int32)))])
        refine own_go (fun _ k => XS.icmpYes Xz34.here hx rfl (pc0 := 103) (pc' := 110) rfl (hb hby at_103) rfl (feq hC).2 (by decide) (by decide) k) ?_
        show own_Go _ _ _ _ Tz34 (mkF m 110 #[.val (.int p1), .val (.int p2), .val (.ref b), .val (.ref t0), .val (.ref sy0), .val (.int (1 : Int32)), .val (.int (0 : Int32)), .unset] [])
        refine own_go (fun _ k => XS.iconst Xz34.here hx rfl (hb hby at_110) k) ?_
        show own_Go _ _ _ _ Tz34 (mkF m 111 #[.val (.int p1), .val (.int p2), .val (.ref b), .val (.ref t0), .val (.ref sy0), .val (.int (1 : Int32)), .val (.int (0 : Int32)), .unset] [(.int (0 : Int32))])
        exact k
      show own_Go _ _ _ _ Tz34 (mkF m 111 #[.val (.int p1), .val (.int p2), .val (.ref b), .val (.ref t0), .val (.ref sy0), .val (.int (1 : Int32)), .val (.int (0 : Int32)), .unset] [(.int (if (if p2 < (0 : Int32) then (1 : Int32) else (0 : Int32)) = (1 : Int32) then (1 : Int32) else (0 : Int32)))])
      exact k
    show own_Go _ _ _ _ Tz34 (mkF m 111 #[.val (.int p1), .val (.int p2), .val (.ref b), .val (.ref t0), .val (.ref sy0), .val (.int (1 : Int32)), .val (.int (0 : Int32)), .unset] [(.int (if p2 = (0 : Int32) then (0 : Int32) else (if (if p2 < (0 : Int32) then (1 : Int32) else (0 : Int32)) = (1 : Int32) then (1 : Int32) else (0 : Int32))))])
    refine own_go (fun _ k => XS.istore Xz34.here hx rfl (hb hby at_111) rfl (l' := #[.val (.int p1), .val (.int p2), .val (.ref b), .val (.ref t0), .val (.ref sy0), .val (.int (1 : Int32)), .val (.int (0 : Int32)), .val (.int (if p2 = (0 : Int32) then (0 : Int32) else (if (if p2 < (0 : Int32) then (1 : Int32) else (0 : Int32)) = (1 : Int32) then (1 : Int32) else (0 : Int32))))]) rfl k) ?_
    show own_Go _ _ _ _ Tz34 (mkF m 113 #[.val (.int p1), .val (.int p2), .val (.ref b), .val (.ref t0), .val (.ref sy0), .val (.int (1 : Int32)), .val (.int (0 : Int32)), .val (.int (if p2 = (0 : Int32) then (0 : Int32) else (if (if p2 < (0 : Int32) then (1 : Int32) else (0 : Int32)) = (1 : Int32) then (1 : Int32) else (0 : Int32))))] [])
    refine own_go (fun _ k => XS.aloadN Xz34.here hx rfl (hb hby at_113) rfl rfl k) ?_
    show own_Go _ _ _ _ Tz34 (mkF m 114 #[.val (.int p1), .val (.int p2), .val (.ref b), .val (.ref t0), .val (.ref sy0), .val (.int (1 : Int32)), .val (.int (0 : Int32)), .val (.int (if p2 = (0 : Int32) then (0 : Int32) else (if (if p2 < (0 : Int32) then (1 : Int32) else (0 : Int32)) = (1 : Int32) then (1 : Int32) else (0 : Int32))))] [(.ref t0)])
    refine own_go (fun _ k => XS.iloadN Xz34.here hx rfl (hb hby at_114) rfl k) ?_
    show own_Go _ _ _ _ Tz34 (mkF m 115 #[.val (.int p1), .val (.int p2), .val (.ref b), .val (.ref t0), .val (.ref sy0), .val (.int (1 : Int32)), .val (.int (0 : Int32)), .val (.int (if p2 = (0 : Int32) then (0 : Int32) else (if (if p2 < (0 : Int32) then (1 : Int32) else (0 : Int32)) = (1 : Int32) then (1 : Int32) else (0 : Int32))))] [(.int p2), (.ref t0)])
    obtain ⟨vz35, Tz35, Lz35, Xz35, hQz35, stz35⟩ := own_callV Xz34 hx hZ hown (hw _ (List.mem_of_getElem? (i := 57) rfl)) (hw _ (List.mem_of_getElem? (i := 58) rfl)) (hw _ (List.mem_of_getElem? (i := 60) rfl)) (hw _ (List.mem_of_getElem? (i := 59) rfl)) (hw _ (List.mem_of_getElem? (i := 3) rfl)) (hw _ (List.mem_of_getElem? (i := 61) rfl)) (by decide) ehz34 E_t (own_rmho0 l Z a0 hw [] t0 p2 hz29 n0 E_t (Fo0.ext O.2)) (W := 0) (by decide) (by decide) (by decide) (by decide) own_pd8 rfl (g := (mkF m 115 #[.val (.int p1), .val (.int p2), .val (.ref b), .val (.ref t0), .val (.ref sy0), .val (.int (1 : Int32)), .val (.int (0 : Int32)), .val (.int (if p2 = (0 : Int32) then (0 : Int32) else (if (if p2 < (0 : Int32) then (1 : Int32) else (0 : Int32)) = (1 : Int32) then (1 : Int32) else (0 : Int32))))] [(.int p2), (.ref t0)])) (argsL := [(.int p2)]) (rest := []) rfl (by rw [hml]; rfl) rfl (by show 2 * 0 + _ ≤ _; exact Nat.le_of_eq rfl) (hb hby at_115)
    obtain ⟨rfl, Nz35q, ehz35⟩ := hQz35
    have Nz35 := Fr.app Nz34 Nz35q
    refine own_go stz35 ?_
    show own_Go _ _ _ _ Tz35 (mkF m 118 #[.val (.int p1), .val (.int p2), .val (.ref b), .val (.ref t0), .val (.ref sy0), .val (.int (1 : Int32)), .val (.int (0 : Int32)), .val (.int (if p2 = (0 : Int32) then (0 : Int32) else (if (if p2 < (0 : Int32) then (1 : Int32) else (0 : Int32)) = (1 : Int32) then (1 : Int32) else (0 : Int32))))] [(.int (own_holds 0 p2))])
    refine own_go (fun _ k => XS.iload Xz35.here hx rfl (hb hby at_118) rfl k) ?_
    show own_Go _ _ _ _ Tz35 (mkF m 120 #[.val (.int p1), .val (.int p2), .val (.ref b), .val (.ref t0), .val (.ref sy0), .val (.int (1 : Int32)), .val (.int (0 : Int32)), .val (.int (if p2 = (0 : Int32) then (0 : Int32) else (if (if p2 < (0 : Int32) then (1 : Int32) else (0 : Int32)) = (1 : Int32) then (1 : Int32) else (0 : Int32))))] [(.int (if p2 = (0 : Int32) then (0 : Int32) else (if (if p2 < (0 : Int32) then (1 : Int32) else (0 : Int32)) = (1 : Int32) then (1 : Int32) else (0 : Int32)))), (.int (own_holds 0 p2))])
    refine own_go (fun _ k => XS.icmpNo Xz35.here hx rfl (hb hby at_120) rfl (teq (own_w 0 p2 (1 : Int32) (0 : Int32) (by simp))).2 k) ?_
    show own_Go _ _ _ _ Tz35 (mkF m 123 #[.val (.int p1), .val (.int p2), .val (.ref b), .val (.ref t0), .val (.ref sy0), .val (.int (1 : Int32)), .val (.int (0 : Int32)), .val (.int (if p2 = (0 : Int32) then (0 : Int32) else (if (if p2 < (0 : Int32) then (1 : Int32) else (0 : Int32)) = (1 : Int32) then (1 : Int32) else (0 : Int32))))] [])
    refine own_go (fun _ k => XS.iconst Xz35.here hx rfl (hb hby at_123) k) ?_
    show own_Go _ _ _ _ Tz35 (mkF m 124 #[.val (.int p1), .val (.int p2), .val (.ref b), .val (.ref t0), .val (.ref sy0), .val (.int (1 : Int32)), .val (.int (0 : Int32)), .val (.int (if p2 = (0 : Int32) then (0 : Int32) else (if (if p2 < (0 : Int32) then (1 : Int32) else (0 : Int32)) = (1 : Int32) then (1 : Int32) else (0 : Int32))))] [(.int (1 : Int32))])
    refine own_go (fun _ k => XS.goto Xz35.here hx rfl (pc0 := 124) (pc' := 128) rfl (hb hby at_124) (by decide) (by decide) k) ?_
    show own_Go _ _ _ _ Tz35 (mkF m 128 #[.val (.int p1), .val (.int p2), .val (.ref b), .val (.ref t0), .val (.ref sy0), .val (.int (1 : Int32)), .val (.int (0 : Int32)), .val (.int (if p2 = (0 : Int32) then (0 : Int32) else (if (if p2 < (0 : Int32) then (1 : Int32) else (0 : Int32)) = (1 : Int32) then (1 : Int32) else (0 : Int32))))] [(.int (1 : Int32))])
    exact own_end Xz35 hlk (v := (some (.int (1 : Int32)))) (fun h => by rw [hret] at h; cases h) (fun fs hr => retN Xz35 hx (t := .boolean) hret (by simp) (hb hby at_128) hr) (by rw [ehz35]; exact ⟨rfl, Nz35⟩) (by decide) (by decide)
  · show own_Go _ _ _ _ Tz29 (mkF m 33 #[.val (.int p1), .val (.int p2), .val (.ref b), .unset, .unset, .unset, .unset, .unset] [(.int (1 : Int32)), (.ref b)])
    obtain ⟨clz36, Arz36, qz36, Sz36, Mz36, HHz36, Gz36⟩ := id V_b
    have hinz36 : ¬ ((1 : Int32) < 0 ∨ clz36.slots.size ≤ ((1 : Int32)).toNatClampNeg) := inb_of Sz36 ⟨(by decide), (by decide)⟩
    have hatz36 : clz36.slots[((1 : Int32)).toNatClampNeg]? = some (.ref t1) := HHz36.at hinz36 (rfl)
    refine own_go (fun _ k => Xz29.aaload hx (j := (1 : Int32)) (v := (.ref t1)) (by rw [ez29]; exact Arz36.1) (State.isArrayOf_alike hZ.alike Arz36.2.1) rfl Arz36.2.2 hinz36 hatz36 (g := (mkF m 33 #[.val (.int p1), .val (.int p2), .val (.ref b), .unset, .unset, .unset, .unset, .unset] [(.int (1 : Int32)), (.ref b)])) rfl rfl (hb hby at_33) _ k) ?_
    show own_Go _ _ _ _ Tz29 (mkF m 34 #[.val (.int p1), .val (.int p2), .val (.ref b), .unset, .unset, .unset, .unset, .unset] [(.ref t1)])
    refine own_go (fun _ k => XS.astoreN Xz29.here hx rfl (hb hby at_34) rfl rfl (l' := #[.val (.int p1), .val (.int p2), .val (.ref b), .val (.ref t1), .unset, .unset, .unset, .unset]) rfl k) ?_
    show own_Go _ _ _ _ Tz29 (mkF m 35 #[.val (.int p1), .val (.int p2), .val (.ref b), .val (.ref t1), .unset, .unset, .unset, .unset] [])
    refine own_go (fun _ k => XS.aloadN Xz29.here hx rfl (hb hby at_35) rfl rfl k) ?_
    show own_Go _ _ _ _ Tz29 (mkF m 36 #[.val (.int p1), .val (.int p2), .val (.ref b), .val (.ref t1), .unset, .unset, .unset, .unset] [(.ref t1)])
    have E_t := E1.ext O.2
    have E_s := Es1.ext O.2
    obtain ⟨vz37, Tz37, Lz37, Xz37, hQz37, stz37⟩ := own_callV Xz29 hx hZ hown (hw _ (List.mem_of_getElem? (i := 12) rfl)) (hw _ (List.mem_of_getElem? (i := 13) rfl)) (hw _ (List.mem_of_getElem? (i := 15) rfl)) (hw _ (List.mem_of_getElem? (i := 14) rfl)) (hw _ (List.mem_of_getElem? (i := 3) rfl)) (hw _ (List.mem_of_getElem? (i := 16) rfl)) (by decide) ez29 E_t (own_rm1 l Z a0 hw [] t1 hz29 n0 sy1 (Fy1.ext O.2)) (W := 0) (by decide) (by decide) (by decide) (by decide) own_pd6 rfl (g := (mkF m 36 #[.val (.int p1), .val (.int p2), .val (.ref b), .val (.ref t1), .unset, .unset, .unset, .unset] [(.ref t1)])) (argsL := []) (rest := []) rfl (by rw [hml]; rfl) rfl (by show 2 * 0 + _ ≤ _; exact Nat.le_of_eq rfl) (hb hby at_36)
    obtain ⟨rfl, Nz37q, ehz37⟩ := hQz37
    have Nz37 := Fr.app Nz29 Nz37q
    refine own_go stz37 ?_
    show own_Go _ _ _ _ Tz37 (mkF m 39 #[.val (.int p1), .val (.int p2), .val (.ref b), .val (.ref t1), .unset, .unset, .unset, .unset] [(.ref sy1)])
    refine own_go (fun _ k => XS.astore Xz37.here hx rfl (hb hby at_39) rfl rfl (l' := #[.val (.int p1), .val (.int p2), .val (.ref b), .val (.ref t1), .val (.ref sy1), .unset, .unset, .unset]) rfl k) ?_
    show own_Go _ _ _ _ Tz37 (mkF m 41 #[.val (.int p1), .val (.int p2), .val (.ref b), .val (.ref t1), .val (.ref sy1), .unset, .unset, .unset] [])
    refine own_go (fun _ k => XS.aload Xz37.here hx rfl (hb hby at_41) rfl rfl k) ?_
    show own_Go _ _ _ _ Tz37 (mkF m 43 #[.val (.int p1), .val (.int p2), .val (.ref b), .val (.ref t1), .val (.ref sy1), .unset, .unset, .unset] [(.ref sy1)])
    obtain ⟨vz38, Tz38, Lz38, Xz38, hQz38, stz38⟩ := own_callV Xz37 hx hZ hown (hw _ (List.mem_of_getElem? (i := 19) rfl)) (hw _ (List.mem_of_getElem? (i := 20) rfl)) (hw _ (List.mem_of_getElem? (i := 22) rfl)) (hw _ (List.mem_of_getElem? (i := 21) rfl)) (hw _ (List.mem_of_getElem? (i := 23) rfl)) (hw _ (List.mem_of_getElem? (i := 24) rfl)) (by decide) ehz37 E_s (own_rm2 l Z a0 hw [] sy1 hz29 n0 O cs hcs Scs E_s (Fc1.ext O.2) va1 cv1 (2 : Int32) (0 : Int32) (by decide) (A1.ext O.2) sz1 (Fv1.ext O.2)) (W := 0) (by decide) (by decide) (by decide) (by decide) own_pd5 rfl (g := (mkF m 43 #[.val (.int p1), .val (.int p2), .val (.ref b), .val (.ref t1), .val (.ref sy1), .unset, .unset, .unset] [(.ref sy1)])) (argsL := []) (rest := []) rfl (by rw [hml]; rfl) rfl (by show 2 * 0 + _ ≤ _; exact Nat.le_of_eq rfl) (hb hby at_43)
    obtain ⟨rfl, Nz38q, ehz38⟩ := hQz38
    have Nz38 := Fr.app Nz37 Nz38q
    refine own_go stz38 ?_
    show own_Go _ _ _ _ Tz38 (mkF m 46 #[.val (.int p1), .val (.int p2), .val (.ref b), .val (.ref t1), .val (.ref sy1), .unset, .unset, .unset] [(.int (2 : Int32))])
    refine own_go (fun _ k => XS.ifNo Xz38.here hx rfl (hb hby at_46) rfl ((if0 _ _).trans (tlt (by decide : (0 : Int32) < (2 : Int32))).2.2.2) k) ?_
    show own_Go _ _ _ _ Tz38 (mkF m 49 #[.val (.int p1), .val (.int p2), .val (.ref b), .val (.ref t1), .val (.ref sy1), .unset, .unset, .unset] [])
    refine own_go (fun _ k => XS.aload Xz38.here hx rfl (hb hby at_49) rfl rfl k) ?_
    show own_Go _ _ _ _ Tz38 (mkF m 51 #[.val (.int p1), .val (.int p2), .val (.ref b), .val (.ref t1), .val (.ref sy1), .unset, .unset, .unset] [(.ref sy1)])
    refine own_go (fun _ k => XS.iconst Xz38.here hx rfl (hb hby at_51) k) ?_
    show own_Go _ _ _ _ Tz38 (mkF m 52 #[.val (.int p1), .val (.int p2), .val (.ref b), .val (.ref t1), .val (.ref sy1), .unset, .unset, .unset] [(.int (0 : Int32)), (.ref sy1)])
    obtain ⟨vz39, Tz39, Lz39, Xz39, hQz39, stz39⟩ := own_callV Xz38 hx hZ hown (hw _ (List.mem_of_getElem? (i := 35) rfl)) (hw _ (List.mem_of_getElem? (i := 36) rfl)) (hw _ (List.mem_of_getElem? (i := 38) rfl)) (hw _ (List.mem_of_getElem? (i := 37) rfl)) (hw _ (List.mem_of_getElem? (i := 23) rfl)) (hw _ (List.mem_of_getElem? (i := 39) rfl)) (by decide) ehz38 E_s (own_rm4 l Z a0 hw [] sy1 (0 : Int32) hz29 n0 O cs hcs Scs fv hfv Sfv E_s (Fc1.ext O.2) va1 cv1 (2 : Int32) (60 : Int32) (by decide) (A1.ext O.2) sz1 (Fv1.ext O.2) at1 (by decide) (by decide) rfl rfl) (W := 0) (by decide) (by decide) (by decide) (by decide) own_pd7 rfl (g := (mkF m 52 #[.val (.int p1), .val (.int p2), .val (.ref b), .val (.ref t1), .val (.ref sy1), .unset, .unset, .unset] [(.int (0 : Int32)), (.ref sy1)])) (argsL := [(.int (0 : Int32))]) (rest := []) rfl (by rw [hml]; rfl) rfl (by show 2 * 0 + _ ≤ _; exact Nat.le_of_eq rfl) (hb hby at_52)
    obtain ⟨rfl, Nz39q, ehz39⟩ := hQz39
    have Nz39 := Fr.app Nz38 Nz39q
    refine own_go stz39 ?_
    show own_Go _ _ _ _ Tz39 (mkF m 55 #[.val (.int p1), .val (.int p2), .val (.ref b), .val (.ref t1), .val (.ref sy1), .unset, .unset, .unset] [(.int (60 : Int32))])
    refine own_go (fun _ k => XS.bipush Xz39.here hx rfl (hb hby at_55) k) ?_
    show own_Go _ _ _ _ Tz39 (mkF m 57 #[.val (.int p1), .val (.int p2), .val (.ref b), .val (.ref t1), .val (.ref sy1), .unset, .unset, .unset] [(.int (60 : Int32)), (.int (60 : Int32))])
    refine own_go (fun _ k => XS.icmpNo Xz39.here hx rfl (hb hby at_57) rfl (teq (by decide : (60 : Int32) = (60 : Int32))).2 k) ?_
    show own_Go _ _ _ _ Tz39 (mkF m 60 #[.val (.int p1), .val (.int p2), .val (.ref b), .val (.ref t1), .val (.ref sy1), .unset, .unset, .unset] [])
    refine own_go (fun _ k => XS.iconst Xz39.here hx rfl (hb hby at_60) k) ?_
    show own_Go _ _ _ _ Tz39 (mkF m 61 #[.val (.int p1), .val (.int p2), .val (.ref b), .val (.ref t1), .val (.ref sy1), .unset, .unset, .unset] [(.int (1 : Int32))])
    refine own_go (fun _ k => XS.goto Xz39.here hx rfl (pc0 := 61) (pc' := 65) rfl (hb hby at_61) (by decide) (by decide) k) ?_
    show own_Go _ _ _ _ Tz39 (mkF m 65 #[.val (.int p1), .val (.int p2), .val (.ref b), .val (.ref t1), .val (.ref sy1), .unset, .unset, .unset] [(.int (1 : Int32))])
    refine own_go (fun _ k => XS.istore Xz39.here hx rfl (hb hby at_65) rfl (l' := #[.val (.int p1), .val (.int p2), .val (.ref b), .val (.ref t1), .val (.ref sy1), .val (.int (1 : Int32)), .unset, .unset]) rfl k) ?_
    show own_Go _ _ _ _ Tz39 (mkF m 67 #[.val (.int p1), .val (.int p2), .val (.ref b), .val (.ref t1), .val (.ref sy1), .val (.int (1 : Int32)), .unset, .unset] [])
    refine own_go (fun _ k => XS.aload Xz39.here hx rfl (hb hby at_67) rfl rfl k) ?_
    show own_Go _ _ _ _ Tz39 (mkF m 69 #[.val (.int p1), .val (.int p2), .val (.ref b), .val (.ref t1), .val (.ref sy1), .val (.int (1 : Int32)), .unset, .unset] [(.ref sy1)])
    obtain ⟨vz40, Tz40, Lz40, Xz40, hQz40, stz40⟩ := own_callV Xz39 hx hZ hown (hw _ (List.mem_of_getElem? (i := 19) rfl)) (hw _ (List.mem_of_getElem? (i := 20) rfl)) (hw _ (List.mem_of_getElem? (i := 22) rfl)) (hw _ (List.mem_of_getElem? (i := 21) rfl)) (hw _ (List.mem_of_getElem? (i := 23) rfl)) (hw _ (List.mem_of_getElem? (i := 24) rfl)) (by decide) ehz39 E_s (own_rm2 l Z a0 hw [] sy1 hz29 n0 O cs hcs Scs E_s (Fc1.ext O.2) va1 cv1 (2 : Int32) (0 : Int32) (by decide) (A1.ext O.2) sz1 (Fv1.ext O.2)) (W := 0) (by decide) (by decide) (by decide) (by decide) own_pd5 rfl (g := (mkF m 69 #[.val (.int p1), .val (.int p2), .val (.ref b), .val (.ref t1), .val (.ref sy1), .val (.int (1 : Int32)), .unset, .unset] [(.ref sy1)])) (argsL := []) (rest := []) rfl (by rw [hml]; rfl) rfl (by show 2 * 0 + _ ≤ _; exact Nat.le_of_eq rfl) (hb hby at_69)
    obtain ⟨rfl, Nz40q, ehz40⟩ := hQz40
    have Nz40 := Fr.app Nz39 Nz40q
    refine own_go stz40 ?_
    show own_Go _ _ _ _ Tz40 (mkF m 72 #[.val (.int p1), .val (.int p2), .val (.ref b), .val (.ref t1), .val (.ref sy1), .val (.int (1 : Int32)), .unset, .unset] [(.int (2 : Int32))])
    refine own_go (fun _ k => XS.iconst Xz40.here hx rfl (hb hby at_72) k) ?_
    show own_Go _ _ _ _ Tz40 (mkF m 73 #[.val (.int p1), .val (.int p2), .val (.ref b), .val (.ref t1), .val (.ref sy1), .val (.int (1 : Int32)), .unset, .unset] [(.int (2 : Int32)), (.int (2 : Int32))])
    refine own_go (fun _ k => XS.icmpNo Xz40.here hx rfl (hb hby at_73) rfl (teq (by decide : (2 : Int32) = (2 : Int32))).2 k) ?_
    show own_Go _ _ _ _ Tz40 (mkF m 76 #[.val (.int p1), .val (.int p2), .val (.ref b), .val (.ref t1), .val (.ref sy1), .val (.int (1 : Int32)), .unset, .unset] [])
    refine own_go (fun _ k => XS.iconst Xz40.here hx rfl (hb hby at_76) k) ?_
    show own_Go _ _ _ _ Tz40 (mkF m 77 #[.val (.int p1), .val (.int p2), .val (.ref b), .val (.ref t1), .val (.ref sy1), .val (.int (1 : Int32)), .unset, .unset] [(.int (1 : Int32))])
    refine own_go (fun _ k => XS.goto Xz40.here hx rfl (pc0 := 77) (pc' := 81) rfl (hb hby at_77) (by decide) (by decide) k) ?_
    show own_Go _ _ _ _ Tz40 (mkF m 81 #[.val (.int p1), .val (.int p2), .val (.ref b), .val (.ref t1), .val (.ref sy1), .val (.int (1 : Int32)), .unset, .unset] [(.int (1 : Int32))])
    refine own_go (fun _ k => XS.istore Xz40.here hx rfl (hb hby at_81) rfl (l' := #[.val (.int p1), .val (.int p2), .val (.ref b), .val (.ref t1), .val (.ref sy1), .val (.int (1 : Int32)), .val (.int (1 : Int32)), .unset]) rfl k) ?_
    show own_Go _ _ _ _ Tz40 (mkF m 83 #[.val (.int p1), .val (.int p2), .val (.ref b), .val (.ref t1), .val (.ref sy1), .val (.int (1 : Int32)), .val (.int (1 : Int32)), .unset] [])
    refine own_go (fun _ k => XS.iloadN Xz40.here hx rfl (hb hby at_83) rfl k) ?_
    show own_Go _ _ _ _ Tz40 (mkF m 84 #[.val (.int p1), .val (.int p2), .val (.ref b), .val (.ref t1), .val (.ref sy1), .val (.int (1 : Int32)), .val (.int (1 : Int32)), .unset] [(.int p2)])
    refine own_dia (α := Int32) (C := p2 = (0 : Int32)) (v1 := (1 : Int32)) (v0 := (if (if p2 < (0 : Int32) then (1 : Int32) else (0 : Int32)) = (1 : Int32) then (1 : Int32) else (0 : Int32))) (f := fun v => (mkF m 111 #[.val (.int p1), .val (.int p2), .val (.ref b), .val (.ref t1), .val (.ref sy1), .val (.int (1 : Int32)), .val (.int (1 : Int32)), .unset] ((.int v) :: []))) (T' := Tz40) (fun hC k => ?_) (fun hC k => ?_) ?_
    · show own_Go _ _ _ _ Tz40 (mkF m 84 #[.val (.int p1), .val (.int p2), .val (.ref b), .val (.ref t1), .val (.ref sy1), .val (.int (1 : Int32)), .val (.int (1 : Int32)), .unset] [(.int p2)])
      refine own_go (fun _ k => XS.ifNo Xz40.here hx rfl (hb hby at_84) rfl ((if0 _ _).trans (teq hC).2) k) ?_
      show own_Go _ _ _ _ Tz40 (mkF m 87 #[.val (.int p1), .val (.int p2), .val (.ref b), .val (.ref t1), .val (.ref sy1), .val (.int (1 : Int32)), .val (.int (1 : Int32)), .unset] [])
      refine own_go (fun _ k => XS.iload Xz40.here hx rfl (hb hby at_87) rfl k) ?_
      show own_Go _ _ _ _ Tz40 (mkF m 89 #[.val (.int p1), .val (.int p2), .val (.ref b), .val (.ref t1), .val (.ref sy1), .val (.int (1 : Int32)), .val (.int (1 : Int32)), .unset] [(.int (1 : Int32))])
      refine own_go (fun _ k => XS.goto Xz40.here hx rfl (pc0 := 89) (pc' := 111) rfl (hb hby at_89) (by decide) (by decide) k) ?_
      show own_Go _ _ _ _ Tz40 (mkF m 111 #[.val (.int p1), .val (.int p2), .val (.ref b), .val (.ref t1), .val (.ref sy1), .val (.int (1 : Int32)), .val (.int (1 : Int32)), .unset] [(.int (1 : Int32))])
      exact k
    · show own_Go _ _ _ _ Tz40 (mkF m 84 #[.val (.int p1), .val (.int p2), .val (.ref b), .val (.ref t1), .val (.ref sy1), .val (.int (1 : Int32)), .val (.int (1 : Int32)), .unset] [(.int p2)])
      refine own_go (fun _ k => XS.ifYes Xz40.here hx rfl (pc0 := 84) (pc' := 92) rfl (hb hby at_84) rfl ((if0 _ _).trans (feq hC).2) (by decide) (by decide) k) ?_
      show own_Go _ _ _ _ Tz40 (mkF m 92 #[.val (.int p1), .val (.int p2), .val (.ref b), .val (.ref t1), .val (.ref sy1), .val (.int (1 : Int32)), .val (.int (1 : Int32)), .unset] [])
      refine own_go (fun _ k => XS.iloadN Xz40.here hx rfl (hb hby at_92) rfl k) ?_
      show own_Go _ _ _ _ Tz40 (mkF m 93 #[.val (.int p1), .val (.int p2), .val (.ref b), .val (.ref t1), .val (.ref sy1), .val (.int (1 : Int32)), .val (.int (1 : Int32)), .unset] [(.int p2)])
      refine own_dia (α := Int32) (C := p2 < (0 : Int32)) (v1 := (1 : Int32)) (v0 := (0 : Int32)) (f := fun v => (mkF m 101 #[.val (.int p1), .val (.int p2), .val (.ref b), .val (.ref t1), .val (.ref sy1), .val (.int (1 : Int32)), .val (.int (1 : Int32)), .unset] ((.int v) :: []))) (T' := Tz40) (fun hC k => ?_) (fun hC k => ?_) ?_
      · show own_Go _ _ _ _ Tz40 (mkF m 93 #[.val (.int p1), .val (.int p2), .val (.ref b), .val (.ref t1), .val (.ref sy1), .val (.int (1 : Int32)), .val (.int (1 : Int32)), .unset] [(.int p2)])
        refine own_go (fun _ k => XS.ifNo Xz40.here hx rfl (hb hby at_93) rfl ((if0 _ _).trans (tlt hC).2.1) k) ?_
        show own_Go _ _ _ _ Tz40 (mkF m 96 #[.val (.int p1), .val (.int p2), .val (.ref b), .val (.ref t1), .val (.ref sy1), .val (.int (1 : Int32)), .val (.int (1 : Int32)), .unset] [])
        refine own_go (fun _ k => XS.iconst Xz40.here hx rfl (hb hby at_96) k) ?_
        show own_Go _ _ _ _ Tz40 (mkF m 97 #[.val (.int p1), .val (.int p2), .val (.ref b), .val (.ref t1), .val (.ref sy1), .val (.int (1 : Int32)), .val (.int (1 : Int32)), .unset] [(.int (1 : Int32))])
        refine own_go (fun _ k => XS.goto Xz40.here hx rfl (pc0 := 97) (pc' := 101) rfl (hb hby at_97) (by decide) (by decide) k) ?_
        show own_Go _ _ _ _ Tz40 (mkF m 101 #[.val (.int p1), .val (.int p2), .val (.ref b), .val (.ref t1), .val (.ref sy1), .val (.int (1 : Int32)), .val (.int (1 : Int32)), .unset] [(.int (1 : Int32))])
        exact k
      · show own_Go _ _ _ _ Tz40 (mkF m 93 #[.val (.int p1), .val (.int p2), .val (.ref b), .val (.ref t1), .val (.ref sy1), .val (.int (1 : Int32)), .val (.int (1 : Int32)), .unset] [(.int p2)])
        refine own_go (fun _ k => XS.ifYes Xz40.here hx rfl (pc0 := 93) (pc' := 100) rfl (hb hby at_93) rfl ((if0 _ _).trans (flt hC).2.1) (by decide) (by decide) k) ?_
        show own_Go _ _ _ _ Tz40 (mkF m 100 #[.val (.int p1), .val (.int p2), .val (.ref b), .val (.ref t1), .val (.ref sy1), .val (.int (1 : Int32)), .val (.int (1 : Int32)), .unset] [])
        refine own_go (fun _ k => XS.iconst Xz40.here hx rfl (hb hby at_100) k) ?_
        show own_Go _ _ _ _ Tz40 (mkF m 101 #[.val (.int p1), .val (.int p2), .val (.ref b), .val (.ref t1), .val (.ref sy1), .val (.int (1 : Int32)), .val (.int (1 : Int32)), .unset] [(.int (0 : Int32))])
        exact k
      show own_Go _ _ _ _ Tz40 (mkF m 101 #[.val (.int p1), .val (.int p2), .val (.ref b), .val (.ref t1), .val (.ref sy1), .val (.int (1 : Int32)), .val (.int (1 : Int32)), .unset] [(.int (if p2 < (0 : Int32) then (1 : Int32) else (0 : Int32)))])
      refine own_go (fun _ k => XS.iload Xz40.here hx rfl (hb hby at_101) rfl k) ?_
      show own_Go _ _ _ _ Tz40 (mkF m 103 #[.val (.int p1), .val (.int p2), .val (.ref b), .val (.ref t1), .val (.ref sy1), .val (.int (1 : Int32)), .val (.int (1 : Int32)), .unset] [(.int (1 : Int32)), (.int (if p2 < (0 : Int32) then (1 : Int32) else (0 : Int32)))])
      refine own_dia (α := Int32) (C := (if p2 < (0 : Int32) then (1 : Int32) else (0 : Int32)) = (1 : Int32)) (v1 := (1 : Int32)) (v0 := (0 : Int32)) (f := fun v => (mkF m 111 #[.val (.int p1), .val (.int p2), .val (.ref b), .val (.ref t1), .val (.ref sy1), .val (.int (1 : Int32)), .val (.int (1 : Int32)), .unset] ((.int v) :: []))) (T' := Tz40) (fun hC k => ?_) (fun hC k => ?_) ?_
      · show own_Go _ _ _ _ Tz40 (mkF m 103 #[.val (.int p1), .val (.int p2), .val (.ref b), .val (.ref t1), .val (.ref sy1), .val (.int (1 : Int32)), .val (.int (1 : Int32)), .unset] [(.int (1 : Int32)), (.int (if p2 < (0 : Int32) then (1 : Int32) else (0 : Int32)))])
        refine own_go (fun _ k => XS.icmpNo Xz40.here hx rfl (hb hby at_103) rfl (teq hC).2 k) ?_
        show own_Go _ _ _ _ Tz40 (mkF m 106 #[.val (.int p1), .val (.int p2), .val (.ref b), .val (.ref t1), .val (.ref sy1), .val (.int (1 : Int32)), .val (.int (1 : Int32)), .unset] [])
        refine own_go (fun _ k => XS.iconst Xz40.here hx rfl (hb hby at_106) k) ?_
        show own_Go _ _ _ _ Tz40 (mkF m 107 #[.val (.int p1), .val (.int p2), .val (.ref b), .val (.ref t1), .val (.ref sy1), .val (.int (1 : Int32)), .val (.int (1 : Int32)), .unset] [(.int (1 : Int32))])
        refine own_go (fun _ k => XS.goto Xz40.here hx rfl (pc0 := 107) (pc' := 111) rfl (hb hby at_107) (by decide) (by decide) k) ?_
        show own_Go _ _ _ _ Tz40 (mkF m 111 #[.val (.int p1), .val (.int p2), .val (.ref b), .val (.ref t1), .val (.ref sy1), .val (.int (1 : Int32)), .val (.int (1 : Int32)), .unset] [(.int (1 : Int32))])
        exact k
      · show own_Go _ _ _ _ Tz40 (mkF m 103 #[.val (.int p1), .val (.int p2), .val (.ref b), .val (.ref t1), .val (.ref sy1), .val (.int (1 : Int32)), .val (.int (1 : Int32)), .unset] [(.int (1 : Int32)), (.int (if p2 < (0 : Int32) then (1 : Int32) else (0 : Int32)))])
        refine own_go (fun _ k => XS.icmpYes Xz40.here hx rfl (pc0 := 103) (pc' := 110) rfl (hb hby at_103) rfl (feq hC).2 (by decide) (by decide) k) ?_
        show own_Go _ _ _ _ Tz40 (mkF m 110 #[.val (.int p1), .val (.int p2), .val (.ref b), .val (.ref t1), .val (.ref sy1), .val (.int (1 : Int32)), .val (.int (1 : Int32)), .unset] [])
        refine own_go (fun _ k => XS.iconst Xz40.here hx rfl (hb hby at_110) k) ?_
        show own_Go _ _ _ _ Tz40 (mkF m 111 #[.val (.int p1), .val (.int p2), .val (.ref b), .val (.ref t1), .val (.ref sy1), .val (.int (1 : Int32)), .val (.int (1 : Int32)), .unset] [(.int (0 : Int32))])
        exact k
      show own_Go _ _ _ _ Tz40 (mkF m 111 #[.val (.int p1), .val (.int p2), .val (.ref b), .val (.ref t1), .val (.ref sy1), .val (.int (1 : Int32)), .val (.int (1 : Int32)), .unset] [(.int (if (if p2 < (0 : Int32) then (1 : Int32) else (0 : Int32)) = (1 : Int32) then (1 : Int32) else (0 : Int32)))])
      exact k
    show own_Go _ _ _ _ Tz40 (mkF m 111 #[.val (.int p1), .val (.int p2), .val (.ref b), .val (.ref t1), .val (.ref sy1), .val (.int (1 : Int32)), .val (.int (1 : Int32)), .unset] [(.int (if p2 = (0 : Int32) then (1 : Int32) else (if (if p2 < (0 : Int32) then (1 : Int32) else (0 : Int32)) = (1 : Int32) then (1 : Int32) else (0 : Int32))))])
    refine own_go (fun _ k => XS.istore Xz40.here hx rfl (hb hby at_111) rfl (l' := #[.val (.int p1), .val (.int p2), .val (.ref b), .val (.ref t1), .val (.ref sy1), .val (.int (1 : Int32)), .val (.int (1 : Int32)), .val (.int (if p2 = (0 : Int32) then (1 : Int32) else (if (if p2 < (0 : Int32) then (1 : Int32) else (0 : Int32)) = (1 : Int32) then (1 : Int32) else (0 : Int32))))]) rfl k) ?_
    show own_Go _ _ _ _ Tz40 (mkF m 113 #[.val (.int p1), .val (.int p2), .val (.ref b), .val (.ref t1), .val (.ref sy1), .val (.int (1 : Int32)), .val (.int (1 : Int32)), .val (.int (if p2 = (0 : Int32) then (1 : Int32) else (if (if p2 < (0 : Int32) then (1 : Int32) else (0 : Int32)) = (1 : Int32) then (1 : Int32) else (0 : Int32))))] [])
    refine own_go (fun _ k => XS.aloadN Xz40.here hx rfl (hb hby at_113) rfl rfl k) ?_
    show own_Go _ _ _ _ Tz40 (mkF m 114 #[.val (.int p1), .val (.int p2), .val (.ref b), .val (.ref t1), .val (.ref sy1), .val (.int (1 : Int32)), .val (.int (1 : Int32)), .val (.int (if p2 = (0 : Int32) then (1 : Int32) else (if (if p2 < (0 : Int32) then (1 : Int32) else (0 : Int32)) = (1 : Int32) then (1 : Int32) else (0 : Int32))))] [(.ref t1)])
    refine own_go (fun _ k => XS.iloadN Xz40.here hx rfl (hb hby at_114) rfl k) ?_
    show own_Go _ _ _ _ Tz40 (mkF m 115 #[.val (.int p1), .val (.int p2), .val (.ref b), .val (.ref t1), .val (.ref sy1), .val (.int (1 : Int32)), .val (.int (1 : Int32)), .val (.int (if p2 = (0 : Int32) then (1 : Int32) else (if (if p2 < (0 : Int32) then (1 : Int32) else (0 : Int32)) = (1 : Int32) then (1 : Int32) else (0 : Int32))))] [(.int p2), (.ref t1)])
    obtain ⟨vz41, Tz41, Lz41, Xz41, hQz41, stz41⟩ := own_callV Xz40 hx hZ hown (hw _ (List.mem_of_getElem? (i := 57) rfl)) (hw _ (List.mem_of_getElem? (i := 58) rfl)) (hw _ (List.mem_of_getElem? (i := 60) rfl)) (hw _ (List.mem_of_getElem? (i := 59) rfl)) (hw _ (List.mem_of_getElem? (i := 3) rfl)) (hw _ (List.mem_of_getElem? (i := 61) rfl)) (by decide) ehz40 E_t (own_rmho1 l Z a0 hw [] t1 p2 hz29 n0 E_t (Fo1.ext O.2)) (W := 0) (by decide) (by decide) (by decide) (by decide) own_pd8 rfl (g := (mkF m 115 #[.val (.int p1), .val (.int p2), .val (.ref b), .val (.ref t1), .val (.ref sy1), .val (.int (1 : Int32)), .val (.int (1 : Int32)), .val (.int (if p2 = (0 : Int32) then (1 : Int32) else (if (if p2 < (0 : Int32) then (1 : Int32) else (0 : Int32)) = (1 : Int32) then (1 : Int32) else (0 : Int32))))] [(.int p2), (.ref t1)])) (argsL := [(.int p2)]) (rest := []) rfl (by rw [hml]; rfl) rfl (by show 2 * 0 + _ ≤ _; exact Nat.le_of_eq rfl) (hb hby at_115)
    obtain ⟨rfl, Nz41q, ehz41⟩ := hQz41
    have Nz41 := Fr.app Nz40 Nz41q
    refine own_go stz41 ?_
    show own_Go _ _ _ _ Tz41 (mkF m 118 #[.val (.int p1), .val (.int p2), .val (.ref b), .val (.ref t1), .val (.ref sy1), .val (.int (1 : Int32)), .val (.int (1 : Int32)), .val (.int (if p2 = (0 : Int32) then (1 : Int32) else (if (if p2 < (0 : Int32) then (1 : Int32) else (0 : Int32)) = (1 : Int32) then (1 : Int32) else (0 : Int32))))] [(.int (own_holds 1 p2))])
    refine own_go (fun _ k => XS.iload Xz41.here hx rfl (hb hby at_118) rfl k) ?_
    show own_Go _ _ _ _ Tz41 (mkF m 120 #[.val (.int p1), .val (.int p2), .val (.ref b), .val (.ref t1), .val (.ref sy1), .val (.int (1 : Int32)), .val (.int (1 : Int32)), .val (.int (if p2 = (0 : Int32) then (1 : Int32) else (if (if p2 < (0 : Int32) then (1 : Int32) else (0 : Int32)) = (1 : Int32) then (1 : Int32) else (0 : Int32))))] [(.int (if p2 = (0 : Int32) then (1 : Int32) else (if (if p2 < (0 : Int32) then (1 : Int32) else (0 : Int32)) = (1 : Int32) then (1 : Int32) else (0 : Int32)))), (.int (own_holds 1 p2))])
    refine own_go (fun _ k => XS.icmpNo Xz41.here hx rfl (hb hby at_120) rfl (teq (own_w 1 p2 (1 : Int32) (1 : Int32) (by simp))).2 k) ?_
    show own_Go _ _ _ _ Tz41 (mkF m 123 #[.val (.int p1), .val (.int p2), .val (.ref b), .val (.ref t1), .val (.ref sy1), .val (.int (1 : Int32)), .val (.int (1 : Int32)), .val (.int (if p2 = (0 : Int32) then (1 : Int32) else (if (if p2 < (0 : Int32) then (1 : Int32) else (0 : Int32)) = (1 : Int32) then (1 : Int32) else (0 : Int32))))] [])
    refine own_go (fun _ k => XS.iconst Xz41.here hx rfl (hb hby at_123) k) ?_
    show own_Go _ _ _ _ Tz41 (mkF m 124 #[.val (.int p1), .val (.int p2), .val (.ref b), .val (.ref t1), .val (.ref sy1), .val (.int (1 : Int32)), .val (.int (1 : Int32)), .val (.int (if p2 = (0 : Int32) then (1 : Int32) else (if (if p2 < (0 : Int32) then (1 : Int32) else (0 : Int32)) = (1 : Int32) then (1 : Int32) else (0 : Int32))))] [(.int (1 : Int32))])
    refine own_go (fun _ k => XS.goto Xz41.here hx rfl (pc0 := 124) (pc' := 128) rfl (hb hby at_124) (by decide) (by decide) k) ?_
    show own_Go _ _ _ _ Tz41 (mkF m 128 #[.val (.int p1), .val (.int p2), .val (.ref b), .val (.ref t1), .val (.ref sy1), .val (.int (1 : Int32)), .val (.int (1 : Int32)), .val (.int (if p2 = (0 : Int32) then (1 : Int32) else (if (if p2 < (0 : Int32) then (1 : Int32) else (0 : Int32)) = (1 : Int32) then (1 : Int32) else (0 : Int32))))] [(.int (1 : Int32))])
    exact own_end Xz41 hlk (v := (some (.int (1 : Int32)))) (fun h => by rw [hret] at h; cases h) (fun fs hr => retN Xz41 hx (t := .boolean) hret (by simp) (hb hby at_128) hr) (by rw [ehz41]; exact ⟨rfl, Nz41⟩) (by decide) (by decide)
  · show own_Go _ _ _ _ Tz29 (mkF m 33 #[.val (.int p1), .val (.int p2), .val (.ref b), .unset, .unset, .unset, .unset, .unset] [(.int (2 : Int32)), (.ref b)])
    obtain ⟨clz42, Arz42, qz42, Sz42, Mz42, HHz42, Gz42⟩ := id V_b
    have hinz42 : ¬ ((2 : Int32) < 0 ∨ clz42.slots.size ≤ ((2 : Int32)).toNatClampNeg) := inb_of Sz42 ⟨(by decide), (by decide)⟩
    have hatz42 : clz42.slots[((2 : Int32)).toNatClampNeg]? = some (.ref t2) := HHz42.at hinz42 (rfl)
    refine own_go (fun _ k => Xz29.aaload hx (j := (2 : Int32)) (v := (.ref t2)) (by rw [ez29]; exact Arz42.1) (State.isArrayOf_alike hZ.alike Arz42.2.1) rfl Arz42.2.2 hinz42 hatz42 (g := (mkF m 33 #[.val (.int p1), .val (.int p2), .val (.ref b), .unset, .unset, .unset, .unset, .unset] [(.int (2 : Int32)), (.ref b)])) rfl rfl (hb hby at_33) _ k) ?_
    show own_Go _ _ _ _ Tz29 (mkF m 34 #[.val (.int p1), .val (.int p2), .val (.ref b), .unset, .unset, .unset, .unset, .unset] [(.ref t2)])
    refine own_go (fun _ k => XS.astoreN Xz29.here hx rfl (hb hby at_34) rfl rfl (l' := #[.val (.int p1), .val (.int p2), .val (.ref b), .val (.ref t2), .unset, .unset, .unset, .unset]) rfl k) ?_
    show own_Go _ _ _ _ Tz29 (mkF m 35 #[.val (.int p1), .val (.int p2), .val (.ref b), .val (.ref t2), .unset, .unset, .unset, .unset] [])
    refine own_go (fun _ k => XS.aloadN Xz29.here hx rfl (hb hby at_35) rfl rfl k) ?_
    show own_Go _ _ _ _ Tz29 (mkF m 36 #[.val (.int p1), .val (.int p2), .val (.ref b), .val (.ref t2), .unset, .unset, .unset, .unset] [(.ref t2)])
    have E_t := E2.ext O.2
    have E_s := Es2.ext O.2
    obtain ⟨vz43, Tz43, Lz43, Xz43, hQz43, stz43⟩ := own_callV Xz29 hx hZ hown (hw _ (List.mem_of_getElem? (i := 12) rfl)) (hw _ (List.mem_of_getElem? (i := 13) rfl)) (hw _ (List.mem_of_getElem? (i := 15) rfl)) (hw _ (List.mem_of_getElem? (i := 14) rfl)) (hw _ (List.mem_of_getElem? (i := 3) rfl)) (hw _ (List.mem_of_getElem? (i := 16) rfl)) (by decide) ez29 E_t (own_rm1 l Z a0 hw [] t2 hz29 n0 sy2 (Fy2.ext O.2)) (W := 0) (by decide) (by decide) (by decide) (by decide) own_pd6 rfl (g := (mkF m 36 #[.val (.int p1), .val (.int p2), .val (.ref b), .val (.ref t2), .unset, .unset, .unset, .unset] [(.ref t2)])) (argsL := []) (rest := []) rfl (by rw [hml]; rfl) rfl (by show 2 * 0 + _ ≤ _; exact Nat.le_of_eq rfl) (hb hby at_36)
    obtain ⟨rfl, Nz43q, ehz43⟩ := hQz43
    have Nz43 := Fr.app Nz29 Nz43q
    refine own_go stz43 ?_
    show own_Go _ _ _ _ Tz43 (mkF m 39 #[.val (.int p1), .val (.int p2), .val (.ref b), .val (.ref t2), .unset, .unset, .unset, .unset] [(.ref sy2)])
    refine own_go (fun _ k => XS.astore Xz43.here hx rfl (hb hby at_39) rfl rfl (l' := #[.val (.int p1), .val (.int p2), .val (.ref b), .val (.ref t2), .val (.ref sy2), .unset, .unset, .unset]) rfl k) ?_
    show own_Go _ _ _ _ Tz43 (mkF m 41 #[.val (.int p1), .val (.int p2), .val (.ref b), .val (.ref t2), .val (.ref sy2), .unset, .unset, .unset] [])
    refine own_go (fun _ k => XS.aload Xz43.here hx rfl (hb hby at_41) rfl rfl k) ?_
    show own_Go _ _ _ _ Tz43 (mkF m 43 #[.val (.int p1), .val (.int p2), .val (.ref b), .val (.ref t2), .val (.ref sy2), .unset, .unset, .unset] [(.ref sy2)])
    obtain ⟨vz44, Tz44, Lz44, Xz44, hQz44, stz44⟩ := own_callV Xz43 hx hZ hown (hw _ (List.mem_of_getElem? (i := 19) rfl)) (hw _ (List.mem_of_getElem? (i := 20) rfl)) (hw _ (List.mem_of_getElem? (i := 22) rfl)) (hw _ (List.mem_of_getElem? (i := 21) rfl)) (hw _ (List.mem_of_getElem? (i := 23) rfl)) (hw _ (List.mem_of_getElem? (i := 24) rfl)) (by decide) ehz43 E_s (own_rm2 l Z a0 hw [] sy2 hz29 n0 O cs hcs Scs E_s (Fc2.ext O.2) va2 cv2 (1 : Int32) (0 : Int32) (by decide) (A2.ext O.2) sz2 (Fv2.ext O.2)) (W := 0) (by decide) (by decide) (by decide) (by decide) own_pd5 rfl (g := (mkF m 43 #[.val (.int p1), .val (.int p2), .val (.ref b), .val (.ref t2), .val (.ref sy2), .unset, .unset, .unset] [(.ref sy2)])) (argsL := []) (rest := []) rfl (by rw [hml]; rfl) rfl (by show 2 * 0 + _ ≤ _; exact Nat.le_of_eq rfl) (hb hby at_43)
    obtain ⟨rfl, Nz44q, ehz44⟩ := hQz44
    have Nz44 := Fr.app Nz43 Nz44q
    refine own_go stz44 ?_
    show own_Go _ _ _ _ Tz44 (mkF m 46 #[.val (.int p1), .val (.int p2), .val (.ref b), .val (.ref t2), .val (.ref sy2), .unset, .unset, .unset] [(.int (1 : Int32))])
    refine own_go (fun _ k => XS.ifNo Xz44.here hx rfl (hb hby at_46) rfl ((if0 _ _).trans (tlt (by decide : (0 : Int32) < (1 : Int32))).2.2.2) k) ?_
    show own_Go _ _ _ _ Tz44 (mkF m 49 #[.val (.int p1), .val (.int p2), .val (.ref b), .val (.ref t2), .val (.ref sy2), .unset, .unset, .unset] [])
    refine own_go (fun _ k => XS.aload Xz44.here hx rfl (hb hby at_49) rfl rfl k) ?_
    show own_Go _ _ _ _ Tz44 (mkF m 51 #[.val (.int p1), .val (.int p2), .val (.ref b), .val (.ref t2), .val (.ref sy2), .unset, .unset, .unset] [(.ref sy2)])
    refine own_go (fun _ k => XS.iconst Xz44.here hx rfl (hb hby at_51) k) ?_
    show own_Go _ _ _ _ Tz44 (mkF m 52 #[.val (.int p1), .val (.int p2), .val (.ref b), .val (.ref t2), .val (.ref sy2), .unset, .unset, .unset] [(.int (0 : Int32)), (.ref sy2)])
    obtain ⟨vz45, Tz45, Lz45, Xz45, hQz45, stz45⟩ := own_callV Xz44 hx hZ hown (hw _ (List.mem_of_getElem? (i := 35) rfl)) (hw _ (List.mem_of_getElem? (i := 36) rfl)) (hw _ (List.mem_of_getElem? (i := 38) rfl)) (hw _ (List.mem_of_getElem? (i := 37) rfl)) (hw _ (List.mem_of_getElem? (i := 23) rfl)) (hw _ (List.mem_of_getElem? (i := 39) rfl)) (by decide) ehz44 E_s (own_rm4 l Z a0 hw [] sy2 (0 : Int32) hz29 n0 O cs hcs Scs fv hfv Sfv E_s (Fc2.ext O.2) va2 cv2 (1 : Int32) (62 : Int32) (by decide) (A2.ext O.2) sz2 (Fv2.ext O.2) at2 (by decide) (by decide) rfl rfl) (W := 0) (by decide) (by decide) (by decide) (by decide) own_pd7 rfl (g := (mkF m 52 #[.val (.int p1), .val (.int p2), .val (.ref b), .val (.ref t2), .val (.ref sy2), .unset, .unset, .unset] [(.int (0 : Int32)), (.ref sy2)])) (argsL := [(.int (0 : Int32))]) (rest := []) rfl (by rw [hml]; rfl) rfl (by show 2 * 0 + _ ≤ _; exact Nat.le_of_eq rfl) (hb hby at_52)
    obtain ⟨rfl, Nz45q, ehz45⟩ := hQz45
    have Nz45 := Fr.app Nz44 Nz45q
    refine own_go stz45 ?_
    show own_Go _ _ _ _ Tz45 (mkF m 55 #[.val (.int p1), .val (.int p2), .val (.ref b), .val (.ref t2), .val (.ref sy2), .unset, .unset, .unset] [(.int (62 : Int32))])
    refine own_go (fun _ k => XS.bipush Xz45.here hx rfl (hb hby at_55) k) ?_
    show own_Go _ _ _ _ Tz45 (mkF m 57 #[.val (.int p1), .val (.int p2), .val (.ref b), .val (.ref t2), .val (.ref sy2), .unset, .unset, .unset] [(.int (60 : Int32)), (.int (62 : Int32))])
    refine own_go (fun _ k => XS.icmpYes Xz45.here hx rfl (pc0 := 57) (pc' := 64) rfl (hb hby at_57) rfl (feq (by decide : ¬ ((62 : Int32) = (60 : Int32)))).2 (by decide) (by decide) k) ?_
    show own_Go _ _ _ _ Tz45 (mkF m 64 #[.val (.int p1), .val (.int p2), .val (.ref b), .val (.ref t2), .val (.ref sy2), .unset, .unset, .unset] [])
    refine own_go (fun _ k => XS.iconst Xz45.here hx rfl (hb hby at_64) k) ?_
    show own_Go _ _ _ _ Tz45 (mkF m 65 #[.val (.int p1), .val (.int p2), .val (.ref b), .val (.ref t2), .val (.ref sy2), .unset, .unset, .unset] [(.int (0 : Int32))])
    refine own_go (fun _ k => XS.istore Xz45.here hx rfl (hb hby at_65) rfl (l' := #[.val (.int p1), .val (.int p2), .val (.ref b), .val (.ref t2), .val (.ref sy2), .val (.int (0 : Int32)), .unset, .unset]) rfl k) ?_
    show own_Go _ _ _ _ Tz45 (mkF m 67 #[.val (.int p1), .val (.int p2), .val (.ref b), .val (.ref t2), .val (.ref sy2), .val (.int (0 : Int32)), .unset, .unset] [])
    refine own_go (fun _ k => XS.aload Xz45.here hx rfl (hb hby at_67) rfl rfl k) ?_
    show own_Go _ _ _ _ Tz45 (mkF m 69 #[.val (.int p1), .val (.int p2), .val (.ref b), .val (.ref t2), .val (.ref sy2), .val (.int (0 : Int32)), .unset, .unset] [(.ref sy2)])
    obtain ⟨vz46, Tz46, Lz46, Xz46, hQz46, stz46⟩ := own_callV Xz45 hx hZ hown (hw _ (List.mem_of_getElem? (i := 19) rfl)) (hw _ (List.mem_of_getElem? (i := 20) rfl)) (hw _ (List.mem_of_getElem? (i := 22) rfl)) (hw _ (List.mem_of_getElem? (i := 21) rfl)) (hw _ (List.mem_of_getElem? (i := 23) rfl)) (hw _ (List.mem_of_getElem? (i := 24) rfl)) (by decide) ehz45 E_s (own_rm2 l Z a0 hw [] sy2 hz29 n0 O cs hcs Scs E_s (Fc2.ext O.2) va2 cv2 (1 : Int32) (0 : Int32) (by decide) (A2.ext O.2) sz2 (Fv2.ext O.2)) (W := 0) (by decide) (by decide) (by decide) (by decide) own_pd5 rfl (g := (mkF m 69 #[.val (.int p1), .val (.int p2), .val (.ref b), .val (.ref t2), .val (.ref sy2), .val (.int (0 : Int32)), .unset, .unset] [(.ref sy2)])) (argsL := []) (rest := []) rfl (by rw [hml]; rfl) rfl (by show 2 * 0 + _ ≤ _; exact Nat.le_of_eq rfl) (hb hby at_69)
    obtain ⟨rfl, Nz46q, ehz46⟩ := hQz46
    have Nz46 := Fr.app Nz45 Nz46q
    refine own_go stz46 ?_
    show own_Go _ _ _ _ Tz46 (mkF m 72 #[.val (.int p1), .val (.int p2), .val (.ref b), .val (.ref t2), .val (.ref sy2), .val (.int (0 : Int32)), .unset, .unset] [(.int (1 : Int32))])
    refine own_go (fun _ k => XS.iconst Xz46.here hx rfl (hb hby at_72) k) ?_
    show own_Go _ _ _ _ Tz46 (mkF m 73 #[.val (.int p1), .val (.int p2), .val (.ref b), .val (.ref t2), .val (.ref sy2), .val (.int (0 : Int32)), .unset, .unset] [(.int (2 : Int32)), (.int (1 : Int32))])
    refine own_go (fun _ k => XS.icmpYes Xz46.here hx rfl (pc0 := 73) (pc' := 80) rfl (hb hby at_73) rfl (feq (by decide : ¬ ((1 : Int32) = (2 : Int32)))).2 (by decide) (by decide) k) ?_
    show own_Go _ _ _ _ Tz46 (mkF m 80 #[.val (.int p1), .val (.int p2), .val (.ref b), .val (.ref t2), .val (.ref sy2), .val (.int (0 : Int32)), .unset, .unset] [])
    refine own_go (fun _ k => XS.iconst Xz46.here hx rfl (hb hby at_80) k) ?_
    show own_Go _ _ _ _ Tz46 (mkF m 81 #[.val (.int p1), .val (.int p2), .val (.ref b), .val (.ref t2), .val (.ref sy2), .val (.int (0 : Int32)), .unset, .unset] [(.int (0 : Int32))])
    refine own_go (fun _ k => XS.istore Xz46.here hx rfl (hb hby at_81) rfl (l' := #[.val (.int p1), .val (.int p2), .val (.ref b), .val (.ref t2), .val (.ref sy2), .val (.int (0 : Int32)), .val (.int (0 : Int32)), .unset]) rfl k) ?_
    show own_Go _ _ _ _ Tz46 (mkF m 83 #[.val (.int p1), .val (.int p2), .val (.ref b), .val (.ref t2), .val (.ref sy2), .val (.int (0 : Int32)), .val (.int (0 : Int32)), .unset] [])
    refine own_go (fun _ k => XS.iloadN Xz46.here hx rfl (hb hby at_83) rfl k) ?_
    show own_Go _ _ _ _ Tz46 (mkF m 84 #[.val (.int p1), .val (.int p2), .val (.ref b), .val (.ref t2), .val (.ref sy2), .val (.int (0 : Int32)), .val (.int (0 : Int32)), .unset] [(.int p2)])
    refine own_dia (α := Int32) (C := p2 = (0 : Int32)) (v1 := (0 : Int32)) (v0 := (if (if p2 < (0 : Int32) then (1 : Int32) else (0 : Int32)) = (0 : Int32) then (1 : Int32) else (0 : Int32))) (f := fun v => (mkF m 111 #[.val (.int p1), .val (.int p2), .val (.ref b), .val (.ref t2), .val (.ref sy2), .val (.int (0 : Int32)), .val (.int (0 : Int32)), .unset] ((.int v) :: []))) (T' := Tz46) (fun hC k => ?_) (fun hC k => ?_) ?_
    · show own_Go _ _ _ _ Tz46 (mkF m 84 #[.val (.int p1), .val (.int p2), .val (.ref b), .val (.ref t2), .val (.ref sy2), .val (.int (0 : Int32)), .val (.int (0 : Int32)), .unset] [(.int p2)])
      refine own_go (fun _ k => XS.ifNo Xz46.here hx rfl (hb hby at_84) rfl ((if0 _ _).trans (teq hC).2) k) ?_
      show own_Go _ _ _ _ Tz46 (mkF m 87 #[.val (.int p1), .val (.int p2), .val (.ref b), .val (.ref t2), .val (.ref sy2), .val (.int (0 : Int32)), .val (.int (0 : Int32)), .unset] [])
      refine own_go (fun _ k => XS.iload Xz46.here hx rfl (hb hby at_87) rfl k) ?_
      show own_Go _ _ _ _ Tz46 (mkF m 89 #[.val (.int p1), .val (.int p2), .val (.ref b), .val (.ref t2), .val (.ref sy2), .val (.int (0 : Int32)), .val (.int (0 : Int32)), .unset] [(.int (0 : Int32))])
      refine own_go (fun _ k => XS.goto Xz46.here hx rfl (pc0 := 89) (pc' := 111) rfl (hb hby at_89) (by decide) (by decide) k) ?_
      show own_Go _ _ _ _ Tz46 (mkF m 111 #[.val (.int p1), .val (.int p2), .val (.ref b), .val (.ref t2), .val (.ref sy2), .val (.int (0 : Int32)), .val (.int (0 : Int32)), .unset] [(.int (0 : Int32))])
      exact k
    · show own_Go _ _ _ _ Tz46 (mkF m 84 #[.val (.int p1), .val (.int p2), .val (.ref b), .val (.ref t2), .val (.ref sy2), .val (.int (0 : Int32)), .val (.int (0 : Int32)), .unset] [(.int p2)])
      refine own_go (fun _ k => XS.ifYes Xz46.here hx rfl (pc0 := 84) (pc' := 92) rfl (hb hby at_84) rfl ((if0 _ _).trans (feq hC).2) (by decide) (by decide) k) ?_
      show own_Go _ _ _ _ Tz46 (mkF m 92 #[.val (.int p1), .val (.int p2), .val (.ref b), .val (.ref t2), .val (.ref sy2), .val (.int (0 : Int32)), .val (.int (0 : Int32)), .unset] [])
      refine own_go (fun _ k => XS.iloadN Xz46.here hx rfl (hb hby at_92) rfl k) ?_
      show own_Go _ _ _ _ Tz46 (mkF m 93 #[.val (.int p1), .val (.int p2), .val (.ref b), .val (.ref t2), .val (.ref sy2), .val (.int (0 : Int32)), .val (.int (0 : Int32)), .unset] [(.int p2)])
      refine own_dia (α := Int32) (C := p2 < (0 : Int32)) (v1 := (1 : Int32)) (v0 := (0 : Int32)) (f := fun v => (mkF m 101 #[.val (.int p1), .val (.int p2), .val (.ref b), .val (.ref t2), .val (.ref sy2), .val (.int (0 : Int32)), .val (.int (0 : Int32)), .unset] ((.int v) :: []))) (T' := Tz46) (fun hC k => ?_) (fun hC k => ?_) ?_
      · show own_Go _ _ _ _ Tz46 (mkF m 93 #[.val (.int p1), .val (.int p2), .val (.ref b), .val (.ref t2), .val (.ref sy2), .val (.int (0 : Int32)), .val (.int (0 : Int32)), .unset] [(.int p2)])
        refine own_go (fun _ k => XS.ifNo Xz46.here hx rfl (hb hby at_93) rfl ((if0 _ _).trans (tlt hC).2.1) k) ?_
        show own_Go _ _ _ _ Tz46 (mkF m 96 #[.val (.int p1), .val (.int p2), .val (.ref b), .val (.ref t2), .val (.ref sy2), .val (.int (0 : Int32)), .val (.int (0 : Int32)), .unset] [])
        refine own_go (fun _ k => XS.iconst Xz46.here hx rfl (hb hby at_96) k) ?_
        show own_Go _ _ _ _ Tz46 (mkF m 97 #[.val (.int p1), .val (.int p2), .val (.ref b), .val (.ref t2), .val (.ref sy2), .val (.int (0 : Int32)), .val (.int (0 : Int32)), .unset] [(.int (1 : Int32))])
        refine own_go (fun _ k => XS.goto Xz46.here hx rfl (pc0 := 97) (pc' := 101) rfl (hb hby at_97) (by decide) (by decide) k) ?_
        show own_Go _ _ _ _ Tz46 (mkF m 101 #[.val (.int p1), .val (.int p2), .val (.ref b), .val (.ref t2), .val (.ref sy2), .val (.int (0 : Int32)), .val (.int (0 : Int32)), .unset] [(.int (1 : Int32))])
        exact k
      · show own_Go _ _ _ _ Tz46 (mkF m 93 #[.val (.int p1), .val (.int p2), .val (.ref b), .val (.ref t2), .val (.ref sy2), .val (.int (0 : Int32)), .val (.int (0 : Int32)), .unset] [(.int p2)])
        refine own_go (fun _ k => XS.ifYes Xz46.here hx rfl (pc0 := 93) (pc' := 100) rfl (hb hby at_93) rfl ((if0 _ _).trans (flt hC).2.1) (by decide) (by decide) k) ?_
        show own_Go _ _ _ _ Tz46 (mkF m 100 #[.val (.int p1), .val (.int p2), .val (.ref b), .val (.ref t2), .val (.ref sy2), .val (.int (0 : Int32)), .val (.int (0 : Int32)), .unset] [])
        refine own_go (fun _ k => XS.iconst Xz46.here hx rfl (hb hby at_100) k) ?_
        show own_Go _ _ _ _ Tz46 (mkF m 101 #[.val (.int p1), .val (.int p2), .val (.ref b), .val (.ref t2), .val (.ref sy2), .val (.int (0 : Int32)), .val (.int (0 : Int32)), .unset] [(.int (0 : Int32))])
        exact k
      show own_Go _ _ _ _ Tz46 (mkF m 101 #[.val (.int p1), .val (.int p2), .val (.ref b), .val (.ref t2), .val (.ref sy2), .val (.int (0 : Int32)), .val (.int (0 : Int32)), .unset] [(.int (if p2 < (0 : Int32) then (1 : Int32) else (0 : Int32)))])
      refine own_go (fun _ k => XS.iload Xz46.here hx rfl (hb hby at_101) rfl k) ?_
      show own_Go _ _ _ _ Tz46 (mkF m 103 #[.val (.int p1), .val (.int p2), .val (.ref b), .val (.ref t2), .val (.ref sy2), .val (.int (0 : Int32)), .val (.int (0 : Int32)), .unset] [(.int (0 : Int32)), (.int (if p2 < (0 : Int32) then (1 : Int32) else (0 : Int32)))])
      refine own_dia (α := Int32) (C := (if p2 < (0 : Int32) then (1 : Int32) else (0 : Int32)) = (0 : Int32)) (v1 := (1 : Int32)) (v0 := (0 : Int32)) (f := fun v => (mkF m 111 #[.val (.int p1), .val (.int p2), .val (.ref b), .val (.ref t2), .val (.ref sy2), .val (.int (0 : Int32)), .val (.int (0 : Int32)), .unset] ((.int v) :: []))) (T' := Tz46) (fun hC k => ?_) (fun hC k => ?_) ?_
      · show own_Go _ _ _ _ Tz46 (mkF m 103 #[.val (.int p1), .val (.int p2), .val (.ref b), .val (.ref t2), .val (.ref sy2), .val (.int (0 : Int32)), .val (.int (0 : Int32)), .unset] [(.int (0 : Int32)), (.int (if p2 < (0 : Int32) then (1 : Int32) else (0 : Int32)))])
        refine own_go (fun _ k => XS.icmpNo Xz46.here hx rfl (hb hby at_103) rfl (teq hC).2 k) ?_
        show own_Go _ _ _ _ Tz46 (mkF m 106 #[.val (.int p1), .val (.int p2), .val (.ref b), .val (.ref t2), .val (.ref sy2), .val (.int (0 : Int32)), .val (.int (0 : Int32)), .unset] [])
        refine own_go (fun _ k => XS.iconst Xz46.here hx rfl (hb hby at_106) k) ?_
        show own_Go _ _ _ _ Tz46 (mkF m 107 #[.val (.int p1), .val (.int p2), .val (.ref b), .val (.ref t2), .val (.ref sy2), .val (.int (0 : Int32)), .val (.int (0 : Int32)), .unset] [(.int (1 : Int32))])
        refine own_go (fun _ k => XS.goto Xz46.here hx rfl (pc0 := 107) (pc' := 111) rfl (hb hby at_107) (by decide) (by decide) k) ?_
        show own_Go _ _ _ _ Tz46 (mkF m 111 #[.val (.int p1), .val (.int p2), .val (.ref b), .val (.ref t2), .val (.ref sy2), .val (.int (0 : Int32)), .val (.int (0 : Int32)), .unset] [(.int (1 : Int32))])
        exact k
      · show own_Go _ _ _ _ Tz46 (mkF m 103 #[.val (.int p1), .val (.int p2), .val (.ref b), .val (.ref t2), .val (.ref sy2), .val (.int (0 : Int32)), .val (.int (0 : Int32)), .unset] [(.int (0 : Int32)), (.int (if p2 < (0 : Int32) then (1 : Int32) else (0 : Int32)))])
        refine own_go (fun _ k => XS.icmpYes Xz46.here hx rfl (pc0 := 103) (pc' := 110) rfl (hb hby at_103) rfl (feq hC).2 (by decide) (by decide) k) ?_
        show own_Go _ _ _ _ Tz46 (mkF m 110 #[.val (.int p1), .val (.int p2), .val (.ref b), .val (.ref t2), .val (.ref sy2), .val (.int (0 : Int32)), .val (.int (0 : Int32)), .unset] [])
        refine own_go (fun _ k => XS.iconst Xz46.here hx rfl (hb hby at_110) k) ?_
        show own_Go _ _ _ _ Tz46 (mkF m 111 #[.val (.int p1), .val (.int p2), .val (.ref b), .val (.ref t2), .val (.ref sy2), .val (.int (0 : Int32)), .val (.int (0 : Int32)), .unset] [(.int (0 : Int32))])
        exact k
      show own_Go _ _ _ _ Tz46 (mkF m 111 #[.val (.int p1), .val (.int p2), .val (.ref b), .val (.ref t2), .val (.ref sy2), .val (.int (0 : Int32)), .val (.int (0 : Int32)), .unset] [(.int (if (if p2 < (0 : Int32) then (1 : Int32) else (0 : Int32)) = (0 : Int32) then (1 : Int32) else (0 : Int32)))])
      exact k
    show own_Go _ _ _ _ Tz46 (mkF m 111 #[.val (.int p1), .val (.int p2), .val (.ref b), .val (.ref t2), .val (.ref sy2), .val (.int (0 : Int32)), .val (.int (0 : Int32)), .unset] [(.int (if p2 = (0 : Int32) then (0 : Int32) else (if (if p2 < (0 : Int32) then (1 : Int32) else (0 : Int32)) = (0 : Int32) then (1 : Int32) else (0 : Int32))))])
    refine own_go (fun _ k => XS.istore Xz46.here hx rfl (hb hby at_111) rfl (l' := #[.val (.int p1), .val (.int p2), .val (.ref b), .val (.ref t2), .val (.ref sy2), .val (.int (0 : Int32)), .val (.int (0 : Int32)), .val (.int (if p2 = (0 : Int32) then (0 : Int32) else (if (if p2 < (0 : Int32) then (1 : Int32) else (0 : Int32)) = (0 : Int32) then (1 : Int32) else (0 : Int32))))]) rfl k) ?_
    show own_Go _ _ _ _ Tz46 (mkF m 113 #[.val (.int p1), .val (.int p2), .val (.ref b), .val (.ref t2), .val (.ref sy2), .val (.int (0 : Int32)), .val (.int (0 : Int32)), .val (.int (if p2 = (0 : Int32) then (0 : Int32) else (if (if p2 < (0 : Int32) then (1 : Int32) else (0 : Int32)) = (0 : Int32) then (1 : Int32) else (0 : Int32))))] [])
    refine own_go (fun _ k => XS.aloadN Xz46.here hx rfl (hb hby at_113) rfl rfl k) ?_
    show own_Go _ _ _ _ Tz46 (mkF m 114 #[.val (.int p1), .val (.int p2), .val (.ref b), .val (.ref t2), .val (.ref sy2), .val (.int (0 : Int32)), .val (.int (0 : Int32)), .val (.int (if p2 = (0 : Int32) then (0 : Int32) else (if (if p2 < (0 : Int32) then (1 : Int32) else (0 : Int32)) = (0 : Int32) then (1 : Int32) else (0 : Int32))))] [(.ref t2)])
    refine own_go (fun _ k => XS.iloadN Xz46.here hx rfl (hb hby at_114) rfl k) ?_
    show own_Go _ _ _ _ Tz46 (mkF m 115 #[.val (.int p1), .val (.int p2), .val (.ref b), .val (.ref t2), .val (.ref sy2), .val (.int (0 : Int32)), .val (.int (0 : Int32)), .val (.int (if p2 = (0 : Int32) then (0 : Int32) else (if (if p2 < (0 : Int32) then (1 : Int32) else (0 : Int32)) = (0 : Int32) then (1 : Int32) else (0 : Int32))))] [(.int p2), (.ref t2)])
    obtain ⟨vz47, Tz47, Lz47, Xz47, hQz47, stz47⟩ := own_callV Xz46 hx hZ hown (hw _ (List.mem_of_getElem? (i := 57) rfl)) (hw _ (List.mem_of_getElem? (i := 58) rfl)) (hw _ (List.mem_of_getElem? (i := 60) rfl)) (hw _ (List.mem_of_getElem? (i := 59) rfl)) (hw _ (List.mem_of_getElem? (i := 3) rfl)) (hw _ (List.mem_of_getElem? (i := 61) rfl)) (by decide) ehz46 E_t (own_rmho2 l Z a0 hw [] t2 p2 hz29 n0 E_t (Fo2.ext O.2)) (W := 0) (by decide) (by decide) (by decide) (by decide) own_pd8 rfl (g := (mkF m 115 #[.val (.int p1), .val (.int p2), .val (.ref b), .val (.ref t2), .val (.ref sy2), .val (.int (0 : Int32)), .val (.int (0 : Int32)), .val (.int (if p2 = (0 : Int32) then (0 : Int32) else (if (if p2 < (0 : Int32) then (1 : Int32) else (0 : Int32)) = (0 : Int32) then (1 : Int32) else (0 : Int32))))] [(.int p2), (.ref t2)])) (argsL := [(.int p2)]) (rest := []) rfl (by rw [hml]; rfl) rfl (by show 2 * 0 + _ ≤ _; exact Nat.le_of_eq rfl) (hb hby at_115)
    obtain ⟨rfl, Nz47q, ehz47⟩ := hQz47
    have Nz47 := Fr.app Nz46 Nz47q
    refine own_go stz47 ?_
    show own_Go _ _ _ _ Tz47 (mkF m 118 #[.val (.int p1), .val (.int p2), .val (.ref b), .val (.ref t2), .val (.ref sy2), .val (.int (0 : Int32)), .val (.int (0 : Int32)), .val (.int (if p2 = (0 : Int32) then (0 : Int32) else (if (if p2 < (0 : Int32) then (1 : Int32) else (0 : Int32)) = (0 : Int32) then (1 : Int32) else (0 : Int32))))] [(.int (own_holds 2 p2))])
    refine own_go (fun _ k => XS.iload Xz47.here hx rfl (hb hby at_118) rfl k) ?_
    show own_Go _ _ _ _ Tz47 (mkF m 120 #[.val (.int p1), .val (.int p2), .val (.ref b), .val (.ref t2), .val (.ref sy2), .val (.int (0 : Int32)), .val (.int (0 : Int32)), .val (.int (if p2 = (0 : Int32) then (0 : Int32) else (if (if p2 < (0 : Int32) then (1 : Int32) else (0 : Int32)) = (0 : Int32) then (1 : Int32) else (0 : Int32))))] [(.int (if p2 = (0 : Int32) then (0 : Int32) else (if (if p2 < (0 : Int32) then (1 : Int32) else (0 : Int32)) = (0 : Int32) then (1 : Int32) else (0 : Int32)))), (.int (own_holds 2 p2))])
    refine own_go (fun _ k => XS.icmpNo Xz47.here hx rfl (hb hby at_120) rfl (teq (own_w 2 p2 (0 : Int32) (0 : Int32) (by simp))).2 k) ?_
    show own_Go _ _ _ _ Tz47 (mkF m 123 #[.val (.int p1), .val (.int p2), .val (.ref b), .val (.ref t2), .val (.ref sy2), .val (.int (0 : Int32)), .val (.int (0 : Int32)), .val (.int (if p2 = (0 : Int32) then (0 : Int32) else (if (if p2 < (0 : Int32) then (1 : Int32) else (0 : Int32)) = (0 : Int32) then (1 : Int32) else (0 : Int32))))] [])
    refine own_go (fun _ k => XS.iconst Xz47.here hx rfl (hb hby at_123) k) ?_
    show own_Go _ _ _ _ Tz47 (mkF m 124 #[.val (.int p1), .val (.int p2), .val (.ref b), .val (.ref t2), .val (.ref sy2), .val (.int (0 : Int32)), .val (.int (0 : Int32)), .val (.int (if p2 = (0 : Int32) then (0 : Int32) else (if (if p2 < (0 : Int32) then (1 : Int32) else (0 : Int32)) = (0 : Int32) then (1 : Int32) else (0 : Int32))))] [(.int (1 : Int32))])
    refine own_go (fun _ k => XS.goto Xz47.here hx rfl (pc0 := 124) (pc' := 128) rfl (hb hby at_124) (by decide) (by decide) k) ?_
    show own_Go _ _ _ _ Tz47 (mkF m 128 #[.val (.int p1), .val (.int p2), .val (.ref b), .val (.ref t2), .val (.ref sy2), .val (.int (0 : Int32)), .val (.int (0 : Int32)), .val (.int (if p2 = (0 : Int32) then (0 : Int32) else (if (if p2 < (0 : Int32) then (1 : Int32) else (0 : Int32)) = (0 : Int32) then (1 : Int32) else (0 : Int32))))] [(.int (1 : Int32))])
    exact own_end Xz47 hlk (v := (some (.int (1 : Int32)))) (fun h => by rw [hret] at h; cases h) (fun fs hr => retN Xz47 hx (t := .boolean) hret (by simp) (hb hby at_128) hr) (by rw [ehz47]; exact ⟨rfl, Nz47⟩) (by decide) (by decide)
  · show own_Go _ _ _ _ Tz29 (mkF m 33 #[.val (.int p1), .val (.int p2), .val (.ref b), .unset, .unset, .unset, .unset, .unset] [(.int (3 : Int32)), (.ref b)])
    obtain ⟨clz48, Arz48, qz48, Sz48, Mz48, HHz48, Gz48⟩ := id V_b
    have hinz48 : ¬ ((3 : Int32) < 0 ∨ clz48.slots.size ≤ ((3 : Int32)).toNatClampNeg) := inb_of Sz48 ⟨(by decide), (by decide)⟩
    have hatz48 : clz48.slots[((3 : Int32)).toNatClampNeg]? = some (.ref t3) := HHz48.at hinz48 (rfl)
    refine own_go (fun _ k => Xz29.aaload hx (j := (3 : Int32)) (v := (.ref t3)) (by rw [ez29]; exact Arz48.1) (State.isArrayOf_alike hZ.alike Arz48.2.1) rfl Arz48.2.2 hinz48 hatz48 (g := (mkF m 33 #[.val (.int p1), .val (.int p2), .val (.ref b), .unset, .unset, .unset, .unset, .unset] [(.int (3 : Int32)), (.ref b)])) rfl rfl (hb hby at_33) _ k) ?_
    show own_Go _ _ _ _ Tz29 (mkF m 34 #[.val (.int p1), .val (.int p2), .val (.ref b), .unset, .unset, .unset, .unset, .unset] [(.ref t3)])
    refine own_go (fun _ k => XS.astoreN Xz29.here hx rfl (hb hby at_34) rfl rfl (l' := #[.val (.int p1), .val (.int p2), .val (.ref b), .val (.ref t3), .unset, .unset, .unset, .unset]) rfl k) ?_
    show own_Go _ _ _ _ Tz29 (mkF m 35 #[.val (.int p1), .val (.int p2), .val (.ref b), .val (.ref t3), .unset, .unset, .unset, .unset] [])
    refine own_go (fun _ k => XS.aloadN Xz29.here hx rfl (hb hby at_35) rfl rfl k) ?_
    show own_Go _ _ _ _ Tz29 (mkF m 36 #[.val (.int p1), .val (.int p2), .val (.ref b), .val (.ref t3), .unset, .unset, .unset, .unset] [(.ref t3)])
    have E_t := E3.ext O.2
    have E_s := Es3.ext O.2
    obtain ⟨vz49, Tz49, Lz49, Xz49, hQz49, stz49⟩ := own_callV Xz29 hx hZ hown (hw _ (List.mem_of_getElem? (i := 12) rfl)) (hw _ (List.mem_of_getElem? (i := 13) rfl)) (hw _ (List.mem_of_getElem? (i := 15) rfl)) (hw _ (List.mem_of_getElem? (i := 14) rfl)) (hw _ (List.mem_of_getElem? (i := 3) rfl)) (hw _ (List.mem_of_getElem? (i := 16) rfl)) (by decide) ez29 E_t (own_rm1 l Z a0 hw [] t3 hz29 n0 sy3 (Fy3.ext O.2)) (W := 0) (by decide) (by decide) (by decide) (by decide) own_pd6 rfl (g := (mkF m 36 #[.val (.int p1), .val (.int p2), .val (.ref b), .val (.ref t3), .unset, .unset, .unset, .unset] [(.ref t3)])) (argsL := []) (rest := []) rfl (by rw [hml]; rfl) rfl (by show 2 * 0 + _ ≤ _; exact Nat.le_of_eq rfl) (hb hby at_36)
    obtain ⟨rfl, Nz49q, ehz49⟩ := hQz49
    have Nz49 := Fr.app Nz29 Nz49q
    refine own_go stz49 ?_
    show own_Go _ _ _ _ Tz49 (mkF m 39 #[.val (.int p1), .val (.int p2), .val (.ref b), .val (.ref t3), .unset, .unset, .unset, .unset] [(.ref sy3)])
    refine own_go (fun _ k => XS.astore Xz49.here hx rfl (hb hby at_39) rfl rfl (l' := #[.val (.int p1), .val (.int p2), .val (.ref b), .val (.ref t3), .val (.ref sy3), .unset, .unset, .unset]) rfl k) ?_
    show own_Go _ _ _ _ Tz49 (mkF m 41 #[.val (.int p1), .val (.int p2), .val (.ref b), .val (.ref t3), .val (.ref sy3), .unset, .unset, .unset] [])
    refine own_go (fun _ k => XS.aload Xz49.here hx rfl (hb hby at_41) rfl rfl k) ?_
    show own_Go _ _ _ _ Tz49 (mkF m 43 #[.val (.int p1), .val (.int p2), .val (.ref b), .val (.ref t3), .val (.ref sy3), .unset, .unset, .unset] [(.ref sy3)])
    obtain ⟨vz50, Tz50, Lz50, Xz50, hQz50, stz50⟩ := own_callV Xz49 hx hZ hown (hw _ (List.mem_of_getElem? (i := 19) rfl)) (hw _ (List.mem_of_getElem? (i := 20) rfl)) (hw _ (List.mem_of_getElem? (i := 22) rfl)) (hw _ (List.mem_of_getElem? (i := 21) rfl)) (hw _ (List.mem_of_getElem? (i := 23) rfl)) (hw _ (List.mem_of_getElem? (i := 24) rfl)) (by decide) ehz49 E_s (own_rm2 l Z a0 hw [] sy3 hz29 n0 O cs hcs Scs E_s (Fc3.ext O.2) va3 cv3 (2 : Int32) (0 : Int32) (by decide) (A3.ext O.2) sz3 (Fv3.ext O.2)) (W := 0) (by decide) (by decide) (by decide) (by decide) own_pd5 rfl (g := (mkF m 43 #[.val (.int p1), .val (.int p2), .val (.ref b), .val (.ref t3), .val (.ref sy3), .unset, .unset, .unset] [(.ref sy3)])) (argsL := []) (rest := []) rfl (by rw [hml]; rfl) rfl (by show 2 * 0 + _ ≤ _; exact Nat.le_of_eq rfl) (hb hby at_43)
    obtain ⟨rfl, Nz50q, ehz50⟩ := hQz50
    have Nz50 := Fr.app Nz49 Nz50q
    refine own_go stz50 ?_
    show own_Go _ _ _ _ Tz50 (mkF m 46 #[.val (.int p1), .val (.int p2), .val (.ref b), .val (.ref t3), .val (.ref sy3), .unset, .unset, .unset] [(.int (2 : Int32))])
    refine own_go (fun _ k => XS.ifNo Xz50.here hx rfl (hb hby at_46) rfl ((if0 _ _).trans (tlt (by decide : (0 : Int32) < (2 : Int32))).2.2.2) k) ?_
    show own_Go _ _ _ _ Tz50 (mkF m 49 #[.val (.int p1), .val (.int p2), .val (.ref b), .val (.ref t3), .val (.ref sy3), .unset, .unset, .unset] [])
    refine own_go (fun _ k => XS.aload Xz50.here hx rfl (hb hby at_49) rfl rfl k) ?_
    show own_Go _ _ _ _ Tz50 (mkF m 51 #[.val (.int p1), .val (.int p2), .val (.ref b), .val (.ref t3), .val (.ref sy3), .unset, .unset, .unset] [(.ref sy3)])
    refine own_go (fun _ k => XS.iconst Xz50.here hx rfl (hb hby at_51) k) ?_
    show own_Go _ _ _ _ Tz50 (mkF m 52 #[.val (.int p1), .val (.int p2), .val (.ref b), .val (.ref t3), .val (.ref sy3), .unset, .unset, .unset] [(.int (0 : Int32)), (.ref sy3)])
    obtain ⟨vz51, Tz51, Lz51, Xz51, hQz51, stz51⟩ := own_callV Xz50 hx hZ hown (hw _ (List.mem_of_getElem? (i := 35) rfl)) (hw _ (List.mem_of_getElem? (i := 36) rfl)) (hw _ (List.mem_of_getElem? (i := 38) rfl)) (hw _ (List.mem_of_getElem? (i := 37) rfl)) (hw _ (List.mem_of_getElem? (i := 23) rfl)) (hw _ (List.mem_of_getElem? (i := 39) rfl)) (by decide) ehz50 E_s (own_rm4 l Z a0 hw [] sy3 (0 : Int32) hz29 n0 O cs hcs Scs fv hfv Sfv E_s (Fc3.ext O.2) va3 cv3 (2 : Int32) (62 : Int32) (by decide) (A3.ext O.2) sz3 (Fv3.ext O.2) at3 (by decide) (by decide) rfl rfl) (W := 0) (by decide) (by decide) (by decide) (by decide) own_pd7 rfl (g := (mkF m 52 #[.val (.int p1), .val (.int p2), .val (.ref b), .val (.ref t3), .val (.ref sy3), .unset, .unset, .unset] [(.int (0 : Int32)), (.ref sy3)])) (argsL := [(.int (0 : Int32))]) (rest := []) rfl (by rw [hml]; rfl) rfl (by show 2 * 0 + _ ≤ _; exact Nat.le_of_eq rfl) (hb hby at_52)
    obtain ⟨rfl, Nz51q, ehz51⟩ := hQz51
    have Nz51 := Fr.app Nz50 Nz51q
    refine own_go stz51 ?_
    show own_Go _ _ _ _ Tz51 (mkF m 55 #[.val (.int p1), .val (.int p2), .val (.ref b), .val (.ref t3), .val (.ref sy3), .unset, .unset, .unset] [(.int (62 : Int32))])
    refine own_go (fun _ k => XS.bipush Xz51.here hx rfl (hb hby at_55) k) ?_
    show own_Go _ _ _ _ Tz51 (mkF m 57 #[.val (.int p1), .val (.int p2), .val (.ref b), .val (.ref t3), .val (.ref sy3), .unset, .unset, .unset] [(.int (60 : Int32)), (.int (62 : Int32))])
    refine own_go (fun _ k => XS.icmpYes Xz51.here hx rfl (pc0 := 57) (pc' := 64) rfl (hb hby at_57) rfl (feq (by decide : ¬ ((62 : Int32) = (60 : Int32)))).2 (by decide) (by decide) k) ?_
    show own_Go _ _ _ _ Tz51 (mkF m 64 #[.val (.int p1), .val (.int p2), .val (.ref b), .val (.ref t3), .val (.ref sy3), .unset, .unset, .unset] [])
    refine own_go (fun _ k => XS.iconst Xz51.here hx rfl (hb hby at_64) k) ?_
    show own_Go _ _ _ _ Tz51 (mkF m 65 #[.val (.int p1), .val (.int p2), .val (.ref b), .val (.ref t3), .val (.ref sy3), .unset, .unset, .unset] [(.int (0 : Int32))])
    refine own_go (fun _ k => XS.istore Xz51.here hx rfl (hb hby at_65) rfl (l' := #[.val (.int p1), .val (.int p2), .val (.ref b), .val (.ref t3), .val (.ref sy3), .val (.int (0 : Int32)), .unset, .unset]) rfl k) ?_
    show own_Go _ _ _ _ Tz51 (mkF m 67 #[.val (.int p1), .val (.int p2), .val (.ref b), .val (.ref t3), .val (.ref sy3), .val (.int (0 : Int32)), .unset, .unset] [])
    refine own_go (fun _ k => XS.aload Xz51.here hx rfl (hb hby at_67) rfl rfl k) ?_
    show own_Go _ _ _ _ Tz51 (mkF m 69 #[.val (.int p1), .val (.int p2), .val (.ref b), .val (.ref t3), .val (.ref sy3), .val (.int (0 : Int32)), .unset, .unset] [(.ref sy3)])
    obtain ⟨vz52, Tz52, Lz52, Xz52, hQz52, stz52⟩ := own_callV Xz51 hx hZ hown (hw _ (List.mem_of_getElem? (i := 19) rfl)) (hw _ (List.mem_of_getElem? (i := 20) rfl)) (hw _ (List.mem_of_getElem? (i := 22) rfl)) (hw _ (List.mem_of_getElem? (i := 21) rfl)) (hw _ (List.mem_of_getElem? (i := 23) rfl)) (hw _ (List.mem_of_getElem? (i := 24) rfl)) (by decide) ehz51 E_s (own_rm2 l Z a0 hw [] sy3 hz29 n0 O cs hcs Scs E_s (Fc3.ext O.2) va3 cv3 (2 : Int32) (0 : Int32) (by decide) (A3.ext O.2) sz3 (Fv3.ext O.2)) (W := 0) (by decide) (by decide) (by decide) (by decide) own_pd5 rfl (g := (mkF m 69 #[.val (.int p1), .val (.int p2), .val (.ref b), .val (.ref t3), .val (.ref sy3), .val (.int (0 : Int32)), .unset, .unset] [(.ref sy3)])) (argsL := []) (rest := []) rfl (by rw [hml]; rfl) rfl (by show 2 * 0 + _ ≤ _; exact Nat.le_of_eq rfl) (hb hby at_69)
    obtain ⟨rfl, Nz52q, ehz52⟩ := hQz52
    have Nz52 := Fr.app Nz51 Nz52q
    refine own_go stz52 ?_
    show own_Go _ _ _ _ Tz52 (mkF m 72 #[.val (.int p1), .val (.int p2), .val (.ref b), .val (.ref t3), .val (.ref sy3), .val (.int (0 : Int32)), .unset, .unset] [(.int (2 : Int32))])
    refine own_go (fun _ k => XS.iconst Xz52.here hx rfl (hb hby at_72) k) ?_
    show own_Go _ _ _ _ Tz52 (mkF m 73 #[.val (.int p1), .val (.int p2), .val (.ref b), .val (.ref t3), .val (.ref sy3), .val (.int (0 : Int32)), .unset, .unset] [(.int (2 : Int32)), (.int (2 : Int32))])
    refine own_go (fun _ k => XS.icmpNo Xz52.here hx rfl (hb hby at_73) rfl (teq (by decide : (2 : Int32) = (2 : Int32))).2 k) ?_
    show own_Go _ _ _ _ Tz52 (mkF m 76 #[.val (.int p1), .val (.int p2), .val (.ref b), .val (.ref t3), .val (.ref sy3), .val (.int (0 : Int32)), .unset, .unset] [])
    refine own_go (fun _ k => XS.iconst Xz52.here hx rfl (hb hby at_76) k) ?_
    show own_Go _ _ _ _ Tz52 (mkF m 77 #[.val (.int p1), .val (.int p2), .val (.ref b), .val (.ref t3), .val (.ref sy3), .val (.int (0 : Int32)), .unset, .unset] [(.int (1 : Int32))])
    refine own_go (fun _ k => XS.goto Xz52.here hx rfl (pc0 := 77) (pc' := 81) rfl (hb hby at_77) (by decide) (by decide) k) ?_
    show own_Go _ _ _ _ Tz52 (mkF m 81 #[.val (.int p1), .val (.int p2), .val (.ref b), .val (.ref t3), .val (.ref sy3), .val (.int (0 : Int32)), .unset, .unset] [(.int (1 : Int32))])
    refine own_go (fun _ k => XS.istore Xz52.here hx rfl (hb hby at_81) rfl (l' := #[.val (.int p1), .val (.int p2), .val (.ref b), .val (.ref t3), .val (.ref sy3), .val (.int (0 : Int32)), .val (.int (1 : Int32)), .unset]) rfl k) ?_
    show own_Go _ _ _ _ Tz52 (mkF m 83 #[.val (.int p1), .val (.int p2), .val (.ref b), .val (.ref t3), .val (.ref sy3), .val (.int (0 : Int32)), .val (.int (1 : Int32)), .unset] [])
    refine own_go (fun _ k => XS.iloadN Xz52.here hx rfl (hb hby at_83) rfl k) ?_
    show own_Go _ _ _ _ Tz52 (mkF m 84 #[.val (.int p1), .val (.int p2), .val (.ref b), .val (.ref t3), .val (.ref sy3), .val (.int (0 : Int32)), .val (.int (1 : Int32)), .unset] [(.int p2)])
    refine own_dia (α := Int32) (C := p2 = (0 : Int32)) (v1 := (1 : Int32)) (v0 := (if (if p2 < (0 : Int32) then (1 : Int32) else (0 : Int32)) = (0 : Int32) then (1 : Int32) else (0 : Int32))) (f := fun v => (mkF m 111 #[.val (.int p1), .val (.int p2), .val (.ref b), .val (.ref t3), .val (.ref sy3), .val (.int (0 : Int32)), .val (.int (1 : Int32)), .unset] ((.int v) :: []))) (T' := Tz52) (fun hC k => ?_) (fun hC k => ?_) ?_
    · show own_Go _ _ _ _ Tz52 (mkF m 84 #[.val (.int p1), .val (.int p2), .val (.ref b), .val (.ref t3), .val (.ref sy3), .val (.int (0 : Int32)), .val (.int (1 : Int32)), .unset] [(.int p2)])
      refine own_go (fun _ k => XS.ifNo Xz52.here hx rfl (hb hby at_84) rfl ((if0 _ _).trans (teq hC).2) k) ?_
      show own_Go _ _ _ _ Tz52 (mkF m 87 #[.val (.int p1), .val (.int p2), .val (.ref b), .val (.ref t3), .val (.ref sy3), .val (.int (0 : Int32)), .val (.int (1 : Int32)), .unset] [])
      refine own_go (fun _ k => XS.iload Xz52.here hx rfl (hb hby at_87) rfl k) ?_
      show own_Go _ _ _ _ Tz52 (mkF m 89 #[.val (.int p1), .val (.int p2), .val (.ref b), .val (.ref t3), .val (.ref sy3), .val (.int (0 : Int32)), .val (.int (1 : Int32)), .unset] [(.int (1 : Int32))])
      refine own_go (fun _ k => XS.goto Xz52.here hx rfl (pc0 := 89) (pc' := 111) rfl (hb hby at_89) (by decide) (by decide) k) ?_
      show own_Go _ _ _ _ Tz52 (mkF m 111 #[.val (.int p1), .val (.int p2), .val (.ref b), .val (.ref t3), .val (.ref sy3), .val (.int (0 : Int32)), .val (.int (1 : Int32)), .unset] [(.int (1 : Int32))])
      exact k
    · show own_Go _ _ _ _ Tz52 (mkF m 84 #[.val (.int p1), .val (.int p2), .val (.ref b), .val (.ref t3), .val (.ref sy3), .val (.int (0 : Int32)), .val (.int (1 : Int32)), .unset] [(.int p2)])
      refine own_go (fun _ k => XS.ifYes Xz52.here hx rfl (pc0 := 84) (pc' := 92) rfl (hb hby at_84) rfl ((if0 _ _).trans (feq hC).2) (by decide) (by decide) k) ?_
      show own_Go _ _ _ _ Tz52 (mkF m 92 #[.val (.int p1), .val (.int p2), .val (.ref b), .val (.ref t3), .val (.ref sy3), .val (.int (0 : Int32)), .val (.int (1 : Int32)), .unset] [])
      refine own_go (fun _ k => XS.iloadN Xz52.here hx rfl (hb hby at_92) rfl k) ?_
      show own_Go _ _ _ _ Tz52 (mkF m 93 #[.val (.int p1), .val (.int p2), .val (.ref b), .val (.ref t3), .val (.ref sy3), .val (.int (0 : Int32)), .val (.int (1 : Int32)), .unset] [(.int p2)])
      refine own_dia (α := Int32) (C := p2 < (0 : Int32)) (v1 := (1 : Int32)) (v0 := (0 : Int32)) (f := fun v => (mkF m 101 #[.val (.int p1), .val (.int p2), .val (.ref b), .val (.ref t3), .val (.ref sy3), .val (.int (0 : Int32)), .val (.int (1 : Int32)), .unset] ((.int v) :: []))) (T' := Tz52) (fun hC k => ?_) (fun hC k => ?_) ?_
      · show own_Go _ _ _ _ Tz52 (mkF m 93 #[.val (.int p1), .val (.int p2), .val (.ref b), .val (.ref t3), .val (.ref sy3), .val (.int (0 : Int32)), .val (.int (1 : Int32)), .unset] [(.int p2)])
        refine own_go (fun _ k => XS.ifNo Xz52.here hx rfl (hb hby at_93) rfl ((if0 _ _).trans (tlt hC).2.1) k) ?_
        show own_Go _ _ _ _ Tz52 (mkF m 96 #[.val (.int p1), .val (.int p2), .val (.ref b), .val (.ref t3), .val (.ref sy3), .val (.int (0 : Int32)), .val (.int (1 : Int32)), .unset] [])
        refine own_go (fun _ k => XS.iconst Xz52.here hx rfl (hb hby at_96) k) ?_
        show own_Go _ _ _ _ Tz52 (mkF m 97 #[.val (.int p1), .val (.int p2), .val (.ref b), .val (.ref t3), .val (.ref sy3), .val (.int (0 : Int32)), .val (.int (1 : Int32)), .unset] [(.int (1 : Int32))])
        refine own_go (fun _ k => XS.goto Xz52.here hx rfl (pc0 := 97) (pc' := 101) rfl (hb hby at_97) (by decide) (by decide) k) ?_
        show own_Go _ _ _ _ Tz52 (mkF m 101 #[.val (.int p1), .val (.int p2), .val (.ref b), .val (.ref t3), .val (.ref sy3), .val (.int (0 : Int32)), .val (.int (1 : Int32)), .unset] [(.int (1 : Int32))])
        exact k
      · show own_Go _ _ _ _ Tz52 (mkF m 93 #[.val (.int p1), .val (.int p2), .val (.ref b), .val (.ref t3), .val (.ref sy3), .val (.int (0 : Int32)), .val (.int (1 : Int32)), .unset] [(.int p2)])
        refine own_go (fun _ k => XS.ifYes Xz52.here hx rfl (pc0 := 93) (pc' := 100) rfl (hb hby at_93) rfl ((if0 _ _).trans (flt hC).2.1) (by decide) (by decide) k) ?_
        show own_Go _ _ _ _ Tz52 (mkF m 100 #[.val (.int p1), .val (.int p2), .val (.ref b), .val (.ref t3), .val (.ref sy3), .val (.int (0 : Int32)), .val (.int (1 : Int32)), .unset] [])
        refine own_go (fun _ k => XS.iconst Xz52.here hx rfl (hb hby at_100) k) ?_
        show own_Go _ _ _ _ Tz52 (mkF m 101 #[.val (.int p1), .val (.int p2), .val (.ref b), .val (.ref t3), .val (.ref sy3), .val (.int (0 : Int32)), .val (.int (1 : Int32)), .unset] [(.int (0 : Int32))])
        exact k
      show own_Go _ _ _ _ Tz52 (mkF m 101 #[.val (.int p1), .val (.int p2), .val (.ref b), .val (.ref t3), .val (.ref sy3), .val (.int (0 : Int32)), .val (.int (1 : Int32)), .unset] [(.int (if p2 < (0 : Int32) then (1 : Int32) else (0 : Int32)))])
      refine own_go (fun _ k => XS.iload Xz52.here hx rfl (hb hby at_101) rfl k) ?_
      show own_Go _ _ _ _ Tz52 (mkF m 103 #[.val (.int p1), .val (.int p2), .val (.ref b), .val (.ref t3), .val (.ref sy3), .val (.int (0 : Int32)), .val (.int (1 : Int32)), .unset] [(.int (0 : Int32)), (.int (if p2 < (0 : Int32) then (1 : Int32) else (0 : Int32)))])
      refine own_dia (α := Int32) (C := (if p2 < (0 : Int32) then (1 : Int32) else (0 : Int32)) = (0 : Int32)) (v1 := (1 : Int32)) (v0 := (0 : Int32)) (f := fun v => (mkF m 111 #[.val (.int p1), .val (.int p2), .val (.ref b), .val (.ref t3), .val (.ref sy3), .val (.int (0 : Int32)), .val (.int (1 : Int32)), .unset] ((.int v) :: []))) (T' := Tz52) (fun hC k => ?_) (fun hC k => ?_) ?_
      · show own_Go _ _ _ _ Tz52 (mkF m 103 #[.val (.int p1), .val (.int p2), .val (.ref b), .val (.ref t3), .val (.ref sy3), .val (.int (0 : Int32)), .val (.int (1 : Int32)), .unset] [(.int (0 : Int32)), (.int (if p2 < (0 : Int32) then (1 : Int32) else (0 : Int32)))])
        refine own_go (fun _ k => XS.icmpNo Xz52.here hx rfl (hb hby at_103) rfl (teq hC).2 k) ?_
        show own_Go _ _ _ _ Tz52 (mkF m 106 #[.val (.int p1), .val (.int p2), .val (.ref b), .val (.ref t3), .val (.ref sy3), .val (.int (0 : Int32)), .val (.int (1 : Int32)), .unset] [])
        refine own_go (fun _ k => XS.iconst Xz52.here hx rfl (hb hby at_106) k) ?_
        show own_Go _ _ _ _ Tz52 (mkF m 107 #[.val (.int p1), .val (.int p2), .val (.ref b), .val (.ref t3), .val (.ref sy3), .val (.int (0 : Int32)), .val (.int (1 : Int32)), .unset] [(.int (1 : Int32))])
        refine own_go (fun _ k => XS.goto Xz52.here hx rfl (pc0 := 107) (pc' := 111) rfl (hb hby at_107) (by decide) (by decide) k) ?_
        show own_Go _ _ _ _ Tz52 (mkF m 111 #[.val (.int p1), .val (.int p2), .val (.ref b), .val (.ref t3), .val (.ref sy3), .val (.int (0 : Int32)), .val (.int (1 : Int32)), .unset] [(.int (1 : Int32))])
        exact k
      · show own_Go _ _ _ _ Tz52 (mkF m 103 #[.val (.int p1), .val (.int p2), .val (.ref b), .val (.ref t3), .val (.ref sy3), .val (.int (0 : Int32)), .val (.int (1 : Int32)), .unset] [(.int (0 : Int32)), (.int (if p2 < (0 : Int32) then (1 : Int32) else (0 : Int32)))])
        refine own_go (fun _ k => XS.icmpYes Xz52.here hx rfl (pc0 := 103) (pc' := 110) rfl (hb hby at_103) rfl (feq hC).2 (by decide) (by decide) k) ?_
        show own_Go _ _ _ _ Tz52 (mkF m 110 #[.val (.int p1), .val (.int p2), .val (.ref b), .val (.ref t3), .val (.ref sy3), .val (.int (0 : Int32)), .val (.int (1 : Int32)), .unset] [])
        refine own_go (fun _ k => XS.iconst Xz52.here hx rfl (hb hby at_110) k) ?_
        show own_Go _ _ _ _ Tz52 (mkF m 111 #[.val (.int p1), .val (.int p2), .val (.ref b), .val (.ref t3), .val (.ref sy3), .val (.int (0 : Int32)), .val (.int (1 : Int32)), .unset] [(.int (0 : Int32))])
        exact k
      show own_Go _ _ _ _ Tz52 (mkF m 111 #[.val (.int p1), .val (.int p2), .val (.ref b), .val (.ref t3), .val (.ref sy3), .val (.int (0 : Int32)), .val (.int (1 : Int32)), .unset] [(.int (if (if p2 < (0 : Int32) then (1 : Int32) else (0 : Int32)) = (0 : Int32) then (1 : Int32) else (0 : Int32)))])
      exact k
    show own_Go _ _ _ _ Tz52 (mkF m 111 #[.val (.int p1), .val (.int p2), .val (.ref b), .val (.ref t3), .val (.ref sy3), .val (.int (0 : Int32)), .val (.int (1 : Int32)), .unset] [(.int (if p2 = (0 : Int32) then (1 : Int32) else (if (if p2 < (0 : Int32) then (1 : Int32) else (0 : Int32)) = (0 : Int32) then (1 : Int32) else (0 : Int32))))])
    refine own_go (fun _ k => XS.istore Xz52.here hx rfl (hb hby at_111) rfl (l' := #[.val (.int p1), .val (.int p2), .val (.ref b), .val (.ref t3), .val (.ref sy3), .val (.int (0 : Int32)), .val (.int (1 : Int32)), .val (.int (if p2 = (0 : Int32) then (1 : Int32) else (if (if p2 < (0 : Int32) then (1 : Int32) else (0 : Int32)) = (0 : Int32) then (1 : Int32) else (0 : Int32))))]) rfl k) ?_
    show own_Go _ _ _ _ Tz52 (mkF m 113 #[.val (.int p1), .val (.int p2), .val (.ref b), .val (.ref t3), .val (.ref sy3), .val (.int (0 : Int32)), .val (.int (1 : Int32)), .val (.int (if p2 = (0 : Int32) then (1 : Int32) else (if (if p2 < (0 : Int32) then (1 : Int32) else (0 : Int32)) = (0 : Int32) then (1 : Int32) else (0 : Int32))))] [])
    refine own_go (fun _ k => XS.aloadN Xz52.here hx rfl (hb hby at_113) rfl rfl k) ?_
    show own_Go _ _ _ _ Tz52 (mkF m 114 #[.val (.int p1), .val (.int p2), .val (.ref b), .val (.ref t3), .val (.ref sy3), .val (.int (0 : Int32)), .val (.int (1 : Int32)), .val (.int (if p2 = (0 : Int32) then (1 : Int32) else (if (if p2 < (0 : Int32) then (1 : Int32) else (0 : Int32)) = (0 : Int32) then (1 : Int32) else (0 : Int32))))] [(.ref t3)])
    refine own_go (fun _ k => XS.iloadN Xz52.here hx rfl (hb hby at_114) rfl k) ?_
    show own_Go _ _ _ _ Tz52 (mkF m 115 #[.val (.int p1), .val (.int p2), .val (.ref b), .val (.ref t3), .val (.ref sy3), .val (.int (0 : Int32)), .val (.int (1 : Int32)), .val (.int (if p2 = (0 : Int32) then (1 : Int32) else (if (if p2 < (0 : Int32) then (1 : Int32) else (0 : Int32)) = (0 : Int32) then (1 : Int32) else (0 : Int32))))] [(.int p2), (.ref t3)])
    obtain ⟨vz53, Tz53, Lz53, Xz53, hQz53, stz53⟩ := own_callV Xz52 hx hZ hown (hw _ (List.mem_of_getElem? (i := 57) rfl)) (hw _ (List.mem_of_getElem? (i := 58) rfl)) (hw _ (List.mem_of_getElem? (i := 60) rfl)) (hw _ (List.mem_of_getElem? (i := 59) rfl)) (hw _ (List.mem_of_getElem? (i := 3) rfl)) (hw _ (List.mem_of_getElem? (i := 61) rfl)) (by decide) ehz52 E_t (own_rmho3 l Z a0 hw [] t3 p2 hz29 n0 E_t (Fo3.ext O.2)) (W := 0) (by decide) (by decide) (by decide) (by decide) own_pd8 rfl (g := (mkF m 115 #[.val (.int p1), .val (.int p2), .val (.ref b), .val (.ref t3), .val (.ref sy3), .val (.int (0 : Int32)), .val (.int (1 : Int32)), .val (.int (if p2 = (0 : Int32) then (1 : Int32) else (if (if p2 < (0 : Int32) then (1 : Int32) else (0 : Int32)) = (0 : Int32) then (1 : Int32) else (0 : Int32))))] [(.int p2), (.ref t3)])) (argsL := [(.int p2)]) (rest := []) rfl (by rw [hml]; rfl) rfl (by show 2 * 0 + _ ≤ _; exact Nat.le_of_eq rfl) (hb hby at_115)
    obtain ⟨rfl, Nz53q, ehz53⟩ := hQz53
    have Nz53 := Fr.app Nz52 Nz53q
    refine own_go stz53 ?_
    show own_Go _ _ _ _ Tz53 (mkF m 118 #[.val (.int p1), .val (.int p2), .val (.ref b), .val (.ref t3), .val (.ref sy3), .val (.int (0 : Int32)), .val (.int (1 : Int32)), .val (.int (if p2 = (0 : Int32) then (1 : Int32) else (if (if p2 < (0 : Int32) then (1 : Int32) else (0 : Int32)) = (0 : Int32) then (1 : Int32) else (0 : Int32))))] [(.int (own_holds 3 p2))])
    refine own_go (fun _ k => XS.iload Xz53.here hx rfl (hb hby at_118) rfl k) ?_
    show own_Go _ _ _ _ Tz53 (mkF m 120 #[.val (.int p1), .val (.int p2), .val (.ref b), .val (.ref t3), .val (.ref sy3), .val (.int (0 : Int32)), .val (.int (1 : Int32)), .val (.int (if p2 = (0 : Int32) then (1 : Int32) else (if (if p2 < (0 : Int32) then (1 : Int32) else (0 : Int32)) = (0 : Int32) then (1 : Int32) else (0 : Int32))))] [(.int (if p2 = (0 : Int32) then (1 : Int32) else (if (if p2 < (0 : Int32) then (1 : Int32) else (0 : Int32)) = (0 : Int32) then (1 : Int32) else (0 : Int32)))), (.int (own_holds 3 p2))])
    refine own_go (fun _ k => XS.icmpNo Xz53.here hx rfl (hb hby at_120) rfl (teq (own_w 3 p2 (0 : Int32) (1 : Int32) (by simp))).2 k) ?_
    show own_Go _ _ _ _ Tz53 (mkF m 123 #[.val (.int p1), .val (.int p2), .val (.ref b), .val (.ref t3), .val (.ref sy3), .val (.int (0 : Int32)), .val (.int (1 : Int32)), .val (.int (if p2 = (0 : Int32) then (1 : Int32) else (if (if p2 < (0 : Int32) then (1 : Int32) else (0 : Int32)) = (0 : Int32) then (1 : Int32) else (0 : Int32))))] [])
    refine own_go (fun _ k => XS.iconst Xz53.here hx rfl (hb hby at_123) k) ?_
    show own_Go _ _ _ _ Tz53 (mkF m 124 #[.val (.int p1), .val (.int p2), .val (.ref b), .val (.ref t3), .val (.ref sy3), .val (.int (0 : Int32)), .val (.int (1 : Int32)), .val (.int (if p2 = (0 : Int32) then (1 : Int32) else (if (if p2 < (0 : Int32) then (1 : Int32) else (0 : Int32)) = (0 : Int32) then (1 : Int32) else (0 : Int32))))] [(.int (1 : Int32))])
    refine own_go (fun _ k => XS.goto Xz53.here hx rfl (pc0 := 124) (pc' := 128) rfl (hb hby at_124) (by decide) (by decide) k) ?_
    show own_Go _ _ _ _ Tz53 (mkF m 128 #[.val (.int p1), .val (.int p2), .val (.ref b), .val (.ref t3), .val (.ref sy3), .val (.int (0 : Int32)), .val (.int (1 : Int32)), .val (.int (if p2 = (0 : Int32) then (1 : Int32) else (if (if p2 < (0 : Int32) then (1 : Int32) else (0 : Int32)) = (0 : Int32) then (1 : Int32) else (0 : Int32))))] [(.int (1 : Int32))])
    exact own_end Xz53 hlk (v := (some (.int (1 : Int32)))) (fun h => by rw [hret] at h; cases h) (fun fs hr => retN Xz53 hx (t := .boolean) hret (by simp) (hb hby at_128) hr) (by rw [ehz53]; exact ⟨rfl, Nz53⟩) (by decide) (by decide)
set_option maxRecDepth 65536 in
set_option maxHeartbeats 40000000 in
theorem own_comes {Post : Tables → Env → Array Value → State → Outcome → State → Prop} (hpost : ∀ tb e args s v u, (limb_1_1.after args s (.returned v) u = true ∧ limb_1_2.after args s (.returned v) u = true ∧ True) → FrameEnd s (.returned v) u (Jvm.fieldLocs frame_1_writes args s ++ Jvm.arrayLocs frame_1_arrays args s ++ Jvm.staticLocs frame_1_statics s) 16 128 → Post tb e args s (.returned v) u) :
    ArmFor flags0 classFile x code maxLocals ret World_1 tables_1 room_1 Calls_1 rest_1 Pre_1 Post := by
  intro l hfl _ _ p e ha hc hk s m args below hf hA hF happ hP
  obtain ⟨hcalls, hrest, hpre⟩ := hP
  obtain ⟨-, -, -, hnamed, -, -, -, hat⟩ := (Spec.applies_iff hf).mp happ
  obtain ⟨hg, hn⟩ := and_e (Cond.before_iff.mp (show (Jvm.Cond.and given_1 narrow_1).before args s = true from hpre))
  obtain ⟨g1, g2⟩ := and_e hg
  obtain ⟨g3, g4⟩ := and_e g2
  obtain ⟨w0, w1, rfl⟩ : ∃ w0 w1 : Value, args = #[w0, w1] := by
    have hs : args.size = 2 := by simpa [Cond.value, given_1] using g1
    obtain ⟨L⟩ := args
    match L, hs with
    | [w0, w1], _ => exact ⟨w0, w1, rfl⟩
  have hw := fun d (hd : d ∈ tables_1) => atoms_spec (ws := Jvm.Cond.code x code maxLocals ret :: tables_1) hat d (List.mem_cons_of_mem _ hd)
  have hfit : Fit s := fun {y c} hc i hi => by
    obtain ⟨ha, rfl⟩ := Array.getElem?_eq_some_iff.mp hc
    have q := List.all_eq_true.mp ((Array.all_eq_true_iff_forall_mem.mp hF) _ (Array.getElem_mem ha)) i (List.mem_range.mpr hi)
    simpa [Array.getElem?_eq_getElem hi] using q
  obtain ⟨hsets, hown0⟩ := atoms_of _ (rest_1_c_eq ▸ (show rest_1_c.before _ s = true from hrest))
  have hr0 := Cond.before_iff.mp hown0
  obtain ⟨i0, ei0⟩ := is_v g3
  obtain rfl : w0 = (.int i0) := Option.some.inj ei0
  obtain ⟨i1, ei1⟩ := is_v g4
  obtain rfl : w1 = (.int i1) := Option.some.inj ei1
  obtain ⟨x_0, hn⟩ := and_e hn
  obtain ⟨x_1, hn⟩ := and_e hn
  obtain ⟨x_2, hn⟩ := and_e hn
  obtain ⟨x_3, hn⟩ := and_e hn
  obtain ⟨s_0, hn⟩ := and_e hn
  obtain ⟨a_0, hn⟩ := and_e hn
  obtain ⟨l_0, hn⟩ := and_e hn
  obtain ⟨c_0, hn⟩ := and_e hn
  obtain ⟨e0_0, hn⟩ := and_e hn
  obtain ⟨o_0, hn⟩ := and_e hn
  obtain ⟨s_2, hn⟩ := and_e hn
  obtain ⟨a_2, hn⟩ := and_e hn
  obtain ⟨l_2, hn⟩ := and_e hn
  obtain ⟨c_2, hn⟩ := and_e hn
  obtain ⟨e0_2, hn⟩ := and_e hn
  obtain ⟨o_2, hn⟩ := and_e hn
  obtain ⟨s_1, hn⟩ := and_e hn
  obtain ⟨a_1, hn⟩ := and_e hn
  obtain ⟨l_1, hn⟩ := and_e hn
  obtain ⟨c_1, hn⟩ := and_e hn
  obtain ⟨e0_1, hn⟩ := and_e hn
  obtain ⟨o_1, hn⟩ := and_e hn
  obtain ⟨s_3, hn⟩ := and_e hn
  obtain ⟨a_3, hn⟩ := and_e hn
  obtain ⟨l_3, hn⟩ := and_e hn
  obtain ⟨c_3, hn⟩ := and_e hn
  obtain ⟨e0_3, hn⟩ := and_e hn
  obtain ⟨o_3, hn⟩ := and_e hn
  obtain ⟨e1_1, hn⟩ := and_e hn
  have e1_3 := hn
  obtain ⟨t0, ev0, S0, E0⟩ := own_sta (hw _ (List.mem_of_getElem? (i := 3) rfl)) (hw _ (List.mem_of_getElem? (i := 4) rfl)) x_0
  obtain ⟨sy0, es0⟩ := exa_v s_0
  have Fy0 := Fld.start ((fld_at ev0).symm.trans es0)
  have Es0 := Exa.start es0 s_0
  obtain ⟨va0, cv0, Fv0, Fc0, A0, sz0, at0⟩ := own_str hfit es0 a_0 l_0 c_0 e0_0 (by decide)
  have Fo0 := own_fld ev0 o_0
  obtain ⟨t1, ev1, S1, E1⟩ := own_sta (hw _ (List.mem_of_getElem? (i := 3) rfl)) (hw _ (List.mem_of_getElem? (i := 7) rfl)) x_1
  obtain ⟨sy1, es1⟩ := exa_v s_1
  have Fy1 := Fld.start ((fld_at ev1).symm.trans es1)
  have Es1 := Exa.start es1 s_1
  obtain ⟨va1, cv1, Fv1, Fc1, A1, sz1, at1⟩ := own_str hfit es1 a_1 l_1 c_1 e0_1 (by decide)
  have Fo1 := own_fld ev1 o_1
  obtain ⟨t2, ev2, S2, E2⟩ := own_sta (hw _ (List.mem_of_getElem? (i := 3) rfl)) (hw _ (List.mem_of_getElem? (i := 9) rfl)) x_2
  obtain ⟨sy2, es2⟩ := exa_v s_2
  have Fy2 := Fld.start ((fld_at ev2).symm.trans es2)
  have Es2 := Exa.start es2 s_2
  obtain ⟨va2, cv2, Fv2, Fc2, A2, sz2, at2⟩ := own_str hfit es2 a_2 l_2 c_2 e0_2 (by decide)
  have Fo2 := own_fld ev2 o_2
  obtain ⟨t3, ev3, S3, E3⟩ := own_sta (hw _ (List.mem_of_getElem? (i := 3) rfl)) (hw _ (List.mem_of_getElem? (i := 11) rfl)) x_3
  obtain ⟨sy3, es3⟩ := exa_v s_3
  have Fy3 := Fld.start ((fld_at ev3).symm.trans es3)
  have Es3 := Exa.start es3 s_3
  obtain ⟨va3, cv3, Fv3, Fc3, A3, sz3, at3⟩ := own_str hfit es3 a_3 l_3 c_3 e0_3 (by decide)
  have Fo3 := own_fld ev3 o_3
  obtain ⟨cs, ecs⟩ := is_v (Cond.before_iff.mp (hsets _ (List.mem_of_getElem? (i := 1) rfl)))
  have hcs : ¬ cs = (0 : Int32) := by
      have q := not_v (Cond.before_iff.mp (hsets _ (List.mem_of_getElem? (i := 2) rfl)))
      intro z
      rw [z] at ecs
      rw [eq_i ecs (rfl : (Term.int 0).eval _ s none [] s = some (.int 0)) rfl] at q
      cases q
  have Scs := Sta.start ecs (Or.inl (hsets _ (List.mem_of_getElem? (i := 0) rfl)))
  obtain ⟨fv, efv, hfr⟩ := isR_v (Cond.before_iff.mp (hsets _ (List.mem_of_getElem? (i := 8) rfl)))
  have hfv := ref_cases hfr
  have Sfv := Sta.start efv (Or.inl (hsets _ (List.mem_of_getElem? (i := 7) rfl)))
  obtain ⟨n, o, h1, h2, h3, _, L, rfl, ⟨rfl, N⟩, hq⟩ := own_rm0 l s _ hw tables_1 i0 i1 s.heap s.heap.size (Old.start s) cs hcs Scs fv hfv Sfv t0 sy0 va0 cv0 S0 E0 Fy0 Es0 Fv0 Fc0 A0 sz0 at0 Fo0 t1 sy1 va1 cv1 S1 E1 Fy1 Es1 Fv1 Fc1 A1 sz1 at1 Fo1 t2 sy2 va2 cv2 S2 E2 Fy2 Es2 Fv2 Fc2 A2 sz2 at2 Fo2 t3 sy3 va3 cv3 S3 E3 Fy3 Es3 Fv3 Fc3 A3 sz3 at3 Fo3 p e ha hc hk s m _ below hf ((Spec.applies_iff_loose hf).mp happ).1 ⟨rfl, State.Warmed39.refl s, rfl⟩ trivial
  refine ⟨n, _, h1, h2, h3, hpost _ _ _ _ _ _ ⟨Cond.after_iff.mpr rfl, Cond.after_iff.mpr (eq_i res_at (Term.int_eval (1)) rfl), trivial⟩ ⟨hq.1, hq.2.1, (hq.2.2.sift fun y hy => Or.inr (N y hy)).mono (by decide) (by decide)⟩⟩
theorem main_1_1 : Claimed_1_1 := own_comes fun _ _ _ _ _ _ h hF => ⟨h.1, hF⟩
theorem main_1_2 : Claimed_1_2 := own_comes fun _ _ _ _ _ _ h hF => ⟨h.2.1, hF⟩
end Jvm.Pilot.@@N@@
namespace Jvm.Pilot.@@N@@
open Jvm Jvm.ClassFile Sem Op Lib Jvm.Free Jvm.Stand Jvm.Pilot.@@N@@.Jvm.D
/-! MADE BY PROGRAM (witnessworld.py) out of the Statement's table words and the real class files: 19 classes; the members and pool entries that the words name. The judged class is class 1, her method 1. -/
namespace start1
open Jvm.ClassFile
def u (s : String) : CpInfo := .utf8 (stringToUtf16 s)
/-- a pool by its gaps: so many unusable entries, then the entry; so many at the end -/
def gap : Nat → List CpInfo → List CpInfo
  | 0, r => r
  | n + 1, r => .unusable :: gap n r
def poolList (es : List (Nat × CpInfo)) (last : Nat) : List CpInfo := es.foldr (fun e r => gap e.1 (e.2 :: r)) (gap last [])
def pool (es : List (Nat × CpInfo)) (last : Nat) : Array CpInfo := ⟨poolList es last⟩
def fileOf (pool : Array CpInfo) (this : Nat) (attrs : Array Attribute := #[]) (ms : Array MethodInfo := #[]) (fl : Nat := 33) (sup : Nat := 0) (ifs : Array Nat := #[]) (fds : Array FieldInfo := #[]) : ClassFile where
  minorVersion := 0
  majorVersion := 65
  constantPool := pool
  accessFlags := fl
  thisClass := this
  superClass := sup
  interfaces := ifs
  fields := fds
  methods := ms
  attributes := attrs
def plain (name : String) (sup : Option ClassId) : Class where
  name := name
  kind := .ordinary
  loader := none
  accessFlags := 33
  super := sup
  interfaces := #[]
  cf := none
  fields := #[]
  methods := #[]
  instanceTypes := #[]
  staticTypes := #[]
  resolved := #[]
  callSites := []
  init := .initialized
  statics := none
  mirror := none

def pool0 : Array CpInfo := pool [(5, u "<init>"), (0, u "()V"), (1, .class_ 10), (1, u "java/lang/Object")] 113

def k0m0 : Method := { name := "<init>", desc := "()V", sig := { parameters := [], returnType := none }, accessFlags := 1, code := none }
/-- java/lang/Object -/
def k0 : Class := { plain "java/lang/Object" none with
  accessFlags := 33
  interfaces := #[]
  cf := some (fileOf pool0 8 #[] #[{ accessFlags := 1, nameIndex := 5, descriptorIndex := 6, attributes := #[] }] 33 0 #[] #[])
  fields := #[]
  methods := #[k0m0]
  instanceTypes := #[]
  staticTypes := #[]
  resolved := Array.replicate 124 none
  statics := none }

def pool1 : Array CpInfo := pool [(2, .class_ 4), (1, u "java/lang/Object"), (0, u "<init>"), (0, u "()V"), (0, .class_ 8), (0, u "com/example/servweave/servweave/qos/Bound$Comparison"), (0, .fieldref 7 10), (0, .nameAndType 11 12), (0, u "LESS"), (0, u "Lcom/example/servweave/servweave/qos/Bound$Comparison;"), (0, .fieldref 7 14), (0, .nameAndType 15 12), (0, u "AT_MOST"), (0, .fieldref 7 17), (0, .nameAndType 18 12), (0, u "GREATER"), (0, .fieldref 7 20), (0, .nameAndType 21 12), (0, u "AT_LEAST"), (0, .methodref 7 23), (0, .nameAndType 24 25), (0, u "symbol"), (0, u "()Ljava/lang/String;"), (0, .methodref 27 28), (0, .class_ 29), (0, .nameAndType 30 31), (0, u "java/lang/String"), (0, u "length"), (0, u "()I"), (0, .methodref 27 33), (0, .nameAndType 34 35), (0, u "charAt"), (0, u "(I)C"), (0, .methodref 7 37), (0, .nameAndType 38 39), (0, u "holds"), (0, u "(I)Z"), (0, .class_ 41), (0, u "com/example/servweave/servweave/qos/ComparisonHoldsPinLaw"), (2, u "law"), (0, u "(II)Z")] 9

def k1m0 : Method := { name := "<init>", desc := "()V", sig := { parameters := [], returnType := none }, accessFlags := 1, code := none }
def k1c1 : Code := { maxStack := 4, maxLocals := 8, code := code, exceptionTable := #[], attributes := #[] }
def k1m1 : Method := { name := "law", desc := "(II)Z", sig := { parameters := [.int, .int], returnType := some .boolean }, accessFlags := 9, code := some k1c1 }
/-- com/example/servweave/servweave/qos/ComparisonHoldsPinLaw -/
def k1 : Class := { plain "com/example/servweave/servweave/qos/ComparisonHoldsPinLaw" (some 0) with
  accessFlags := 49
  interfaces := #[]
  cf := some (fileOf pool1 40 #[] #[{ accessFlags := 1, nameIndex := 5, descriptorIndex := 6, attributes := #[] }, { accessFlags := 9, nameIndex := 44, descriptorIndex := 45, attributes := #[] }] 49 2 #[] #[])
  fields := #[]
  methods := #[k1m0, k1m1]
  instanceTypes := #[]
  staticTypes := #[]
  resolved := Array.replicate 55 none
  statics := none }

def pool2 : Array CpInfo := pool [(1, .class_ 2), (0, u "java/lang/constant/Constable"), (0, .class_ 4), (0, u "java/lang/Object")] 6

/-- java/lang/constant/Constable -/
def k2 : Class := { plain "java/lang/constant/Constable" (some 0) with
  accessFlags := 1537
  interfaces := #[]
  cf := some (fileOf pool2 1 #[] #[] 1537 3 #[] #[])
  fields := #[]
  methods := #[]
  instanceTypes := #[]
  staticTypes := #[]
  resolved := Array.replicate 11 none
  statics := none }

def pool3 : Array CpInfo := pool [(1, .class_ 2), (0, u "java/lang/Comparable"), (0, .class_ 4), (0, u "java/lang/Object")] 7

/-- java/lang/Comparable -/
def k3 : Class := { plain "java/lang/Comparable" (some 0) with
  accessFlags := 1537
  interfaces := #[]
  cf := some (fileOf pool3 1 #[] #[] 1537 3 #[] #[])
  fields := #[]
  methods := #[]
  instanceTypes := #[]
  staticTypes := #[]
  resolved := Array.replicate 12 none
  statics := none }

def pool4 : Array CpInfo := pool [(1, .class_ 2), (0, u "java/io/Serializable"), (0, .class_ 4), (0, u "java/lang/Object")] 2

/-- java/io/Serializable -/
def k4 : Class := { plain "java/io/Serializable" (some 0) with
  accessFlags := 1537
  interfaces := #[]
  cf := some (fileOf pool4 1 #[] #[] 1537 3 #[] #[])
  fields := #[]
  methods := #[]
  instanceTypes := #[]
  staticTypes := #[]
  resolved := Array.replicate 7 none
  statics := none }

def pool5 : Array CpInfo := pool [(2, .class_ 4), (1, u "java/lang/Enum"), (0, u "name"), (0, u "Ljava/lang/String;"), (0, .fieldref 2 8), (0, .nameAndType 9 10), (0, u "ordinal"), (0, u "I"), (1, .class_ 14), (1, u "java/lang/Object"), (4, u "hash"), (86, .class_ 108), (1, u "java/lang/Enum$EnumDesc"), (2, .class_ 112), (0, u "java/lang/constant/Constable"), (0, .class_ 114), (0, u "java/lang/Comparable"), (0, .class_ 116), (0, u "java/io/Serializable"), (9, u "()I")] 77

def k5c0 : Code := { maxStack := 1, maxLocals := 1, code := jdk_37_method_2_code, exceptionTable := #[], attributes := #[] }
def k5m0 : Method := { name := "ordinal", desc := "()I", sig := { parameters := [], returnType := some .int }, accessFlags := 17, code := some k5c0 }
/-- java/lang/Enum -/
def k5 : Class := { plain "java/lang/Enum" (some 0) with
  accessFlags := 1057
  interfaces := #[2, 3, 4]
  cf := some (fileOf pool5 2 #[.nestMembers #[106]] #[{ accessFlags := 17, nameIndex := 9, descriptorIndex := 126, attributes := #[] }] 1057 12 #[111, 113, 115] #[{ accessFlags := 18, nameIndex := 5, descriptorIndex := 6, attributes := #[] }, { accessFlags := 18, nameIndex := 9, descriptorIndex := 10, attributes := #[] }, { accessFlags := 2, nameIndex := 19, descriptorIndex := 10, attributes := #[] }])
  fields := #[{ name := "name", type := (.object "java/lang/String"), accessFlags := 18, slot := 0, constantValue := 0 }, { name := "ordinal", type := .int, accessFlags := 18, slot := 1, constantValue := 0 }, { name := "hash", type := .int, accessFlags := 2, slot := 2, constantValue := 0 }]
  methods := #[k5m0]
  instanceTypes := #[(.object "java/lang/String"), .int, .int]
  staticTypes := #[]
  resolved := Array.replicate 204 none
  statics := none }

def pool6 : Array CpInfo := pool [(1, .class_ 2), (0, u "com/example/servweave/servweave/qos/Bound$Comparison"), (2, u "LESS"), (0, u "Lcom/example/servweave/servweave/qos/Bound$Comparison;"), (2, u "AT_MOST"), (2, u "GREATER"), (2, u "AT_LEAST"), (2, u "$VALUES"), (0, u "[Lcom/example/servweave/servweave/qos/Bound$Comparison;"), (6, .class_ 28), (1, u "java/lang/Enum"), (6, .fieldref 1 36), (0, .nameAndType 37 38), (0, u "symbol"), (0, u "Ljava/lang/String;"), (0, .methodref 1 40), (0, .nameAndType 41 42), (0, u "ordinal"), (0, u "()I"), (31, u "()Ljava/lang/String;"), (0, u "holds"), (0, u "(I)Z"), (7, .class_ 85), (0, u "com/example/servweave/servweave/qos/Bound")] 2

def k6c0 : Code := { maxStack := 1, maxLocals := 1, code := prog_38_method_4_code, exceptionTable := #[], attributes := #[] }
def k6m0 : Method := { name := "symbol", desc := "()Ljava/lang/String;", sig := { parameters := [], returnType := some (.object "java/lang/String") }, accessFlags := 1, code := some k6c0 }
def k6c1 : Code := { maxStack := 4, maxLocals := 2, code := prog_38_method_5_code, exceptionTable := #[], attributes := #[] }
def k6m1 : Method := { name := "holds", desc := "(I)Z", sig := { parameters := [.int], returnType := some .boolean }, accessFlags := 0, code := some k6c1 }
/-- com/example/servweave/servweave/qos/Bound$Comparison -/
def k6 : Class := { plain "com/example/servweave/servweave/qos/Bound$Comparison" (some 5) with
  accessFlags := 16433
  interfaces := #[]
  cf := some (fileOf pool6 1 #[.nestHost 84] #[{ accessFlags := 1, nameIndex := 37, descriptorIndex := 74, attributes := #[] }, { accessFlags := 0, nameIndex := 75, descriptorIndex := 76, attributes := #[] }] 16433 26 #[] #[{ accessFlags := 16409, nameIndex := 5, descriptorIndex := 6, attributes := #[] }, { accessFlags := 16409, nameIndex := 9, descriptorIndex := 6, attributes := #[] }, { accessFlags := 16409, nameIndex := 12, descriptorIndex := 6, attributes := #[] }, { accessFlags := 16409, nameIndex := 15, descriptorIndex := 6, attributes := #[] }, { accessFlags := 18, nameIndex := 37, descriptorIndex := 38, attributes := #[] }, { accessFlags := 4122, nameIndex := 18, descriptorIndex := 19, attributes := #[] }])
  fields := #[{ name := "LESS", type := (.object "com/example/servweave/servweave/qos/Bound$Comparison"), accessFlags := 16409, slot := 0, constantValue := 0 }, { name := "AT_MOST", type := (.object "com/example/servweave/servweave/qos/Bound$Comparison"), accessFlags := 16409, slot := 1, constantValue := 0 }, { name := "GREATER", type := (.object "com/example/servweave/servweave/qos/Bound$Comparison"), accessFlags := 16409, slot := 2, constantValue := 0 }, { name := "AT_LEAST", type := (.object "com/example/servweave/servweave/qos/Bound$Comparison"), accessFlags := 16409, slot := 3, constantValue := 0 }, { name := "symbol", type := (.object "java/lang/String"), accessFlags := 18, slot := 3, constantValue := 0 }, { name := "$VALUES", type := (.array (.object "com/example/servweave/servweave/qos/Bound$Comparison")), accessFlags := 4122, slot := 4, constantValue := 0 }]
  methods := #[k6m0, k6m1]
  instanceTypes := #[(.object "java/lang/String"), .int, .int, (.object "java/lang/String")]
  staticTypes := #[(.object "com/example/servweave/servweave/qos/Bound$Comparison"), (.object "com/example/servweave/servweave/qos/Bound$Comparison"), (.object "com/example/servweave/servweave/qos/Bound$Comparison"), (.object "com/example/servweave/servweave/qos/Bound$Comparison"), (.array (.object "com/example/servweave/servweave/qos/Bound$Comparison"))]
  resolved := Array.replicate 88 none
  statics := some 0 }

def pool7 : Array CpInfo := pool [(2, .class_ 4), (1, u "java/lang/CharSequence"), (42, .class_ 48), (0, u "java/lang/CharSequence$1CodePointIterator"), (10, .class_ 60), (0, u "java/lang/CharSequence$1CharIterator"), (5, .class_ 67), (0, u "java/lang/Object")] 63

/-- java/lang/CharSequence -/
def k7 : Class := { plain "java/lang/CharSequence" (some 0) with
  accessFlags := 1537
  interfaces := #[]
  cf := some (fileOf pool7 2 #[.nestMembers #[47, 59]] #[] 1537 66 #[] #[])
  fields := #[]
  methods := #[]
  instanceTypes := #[]
  staticTypes := #[]
  resolved := Array.replicate 131 none
  statics := none }

def pool8 : Array CpInfo := pool [(1, .class_ 2), (0, u "java/lang/constant/ConstantDesc"), (0, .class_ 4), (0, u "java/lang/Object")] 32

/-- java/lang/constant/ConstantDesc -/
def k8 : Class := { plain "java/lang/constant/ConstantDesc" (some 0) with
  accessFlags := 1537
  interfaces := #[]
  cf := some (fileOf pool8 1 #[] #[] 1537 3 #[] #[])
  fields := #[]
  methods := #[]
  instanceTypes := #[]
  staticTypes := #[]
  resolved := Array.replicate 37 none
  statics := none }

def pool9 : Array CpInfo := pool [(2, .class_ 4), (1, u "java/lang/Object"), (0, u "<init>"), (0, u "()V"), (2, .fieldref 10 11), (0, .class_ 12), (0, .nameAndType 13 14), (0, u "java/lang/String"), (0, u "value"), (0, u "[B"), (0, .fieldref 10 16), (0, .nameAndType 17 18), (0, u "coder"), (0, u "B"), (2, u "hash"), (0, u "I"), (2, u "hashIsZero"), (0, u "Z"), (11, .fieldref 10 39), (0, .nameAndType 40 26), (0, u "COMPACT_STRINGS"), (66, .class_ 109), (1, u "java/lang/StringLatin1"), (32, u "()Z"), (191, u "()I"), (0, .methodref 10 336), (0, .nameAndType 17 337), (0, u "()B"), (25, u "([BI)C"), (27, u "(II)V"), (35, u "(I)C"), (64, .methodref 10 493), (0, .nameAndType 494 142), (0, u "isLatin1"), (0, .methodref 107 496), (0, .nameAndType 497 363), (0, u "charAt"), (3, u "checkIndex"), (5, u "length"), (67, .class_ 576), (0, u "java/lang/CharSequence"), (22, u "CASE_INSENSITIVE_ORDER"), (0, u "Ljava/util/Comparator;"), (452, .fieldref 1054 1055), (0, .class_ 1056), (0, .nameAndType 1057 1058), (0, u "jdk/internal/util/Preconditions"), (0, u "SIOOBE_FORMATTER"), (0, u "Ljava/util/function/BiFunction;"), (0, .methodref 1054 1060), (0, .nameAndType 501 1061), (0, u "(IILjava/util/function/BiFunction;)I"), (39, u "serialPersistentFields"), (0, u "[Ljava/io/ObjectStreamField;"), (0, .class_ 1104), (0, u "java/lang/String$CaseInsensitiveComparator"), (1, .class_ 1107), (0, u "java/io/Serializable"), (0, .class_ 1109), (0, u "java/lang/Comparable"), (0, .class_ 1111), (0, u "java/lang/constant/Constable"), (0, .class_ 1113), (0, u "java/lang/constant/ConstantDesc"), (2, u "serialVersionUID"), (0, u "J"), (3, u "REPL"), (0, u "C"), (2, u "LATIN1"), (1, u "UTF16")] 323

def k9m0 : Method := { name := "<init>", desc := "()V", sig := { parameters := [], returnType := none }, accessFlags := 1, code := none }
def k9c1 : Code := { maxStack := 2, maxLocals := 1, code := jdk_42_method_54_code, exceptionTable := #[], attributes := #[] }
def k9m1 : Method := { name := "length", desc := "()I", sig := { parameters := [], returnType := some .int }, accessFlags := 1, code := some k9c1 }
def k9c2 : Code := { maxStack := 2, maxLocals := 2, code := jdk_42_method_56_code, exceptionTable := #[], attributes := #[] }
def k9m2 : Method := { name := "charAt", desc := "(I)C", sig := { parameters := [.int], returnType := some .char }, accessFlags := 1, code := some k9c2 }
def k9c3 : Code := { maxStack := 1, maxLocals := 1, code := jdk_42_method_152_code, exceptionTable := #[], attributes := #[] }
def k9m3 : Method := { name := "coder", desc := "()B", sig := { parameters := [], returnType := some .byte }, accessFlags := 0, code := some k9c3 }
def k9c4 : Code := { maxStack := 1, maxLocals := 1, code := jdk_42_method_154_code, exceptionTable := #[], attributes := #[] }
def k9m4 : Method := { name := "isLatin1", desc := "()Z", sig := { parameters := [], returnType := some .boolean }, accessFlags := 0, code := some k9c4 }
def k9c5 : Code := { maxStack := 3, maxLocals := 2, code := jdk_42_method_155_code, exceptionTable := #[], attributes := #[] }
def k9m5 : Method := { name := "checkIndex", desc := "(II)V", sig := { parameters := [.int, .int], returnType := none }, accessFlags := 8, code := some k9c5 }
/-- java/lang/String -/
def k9 : Class := { plain "java/lang/String" (some 0) with
  accessFlags := 49
  interfaces := #[4, 3, 7, 2, 8]
  cf := some (fileOf pool9 10 #[.nestMembers #[1103]] #[{ accessFlags := 1, nameIndex := 5, descriptorIndex := 6, attributes := #[] }, { accessFlags := 1, nameIndex := 507, descriptorIndex := 334, attributes := #[] }, { accessFlags := 1, nameIndex := 497, descriptorIndex := 427, attributes := #[] }, { accessFlags := 0, nameIndex := 17, descriptorIndex := 337, attributes := #[] }, { accessFlags := 0, nameIndex := 494, descriptorIndex := 142, attributes := #[] }, { accessFlags := 8, nameIndex := 501, descriptorIndex := 391, attributes := #[] }] 49 2 #[1106, 1108, 575, 1110, 1112] #[{ accessFlags := 18, nameIndex := 13, descriptorIndex := 14, attributes := #[] }, { accessFlags := 18, nameIndex := 17, descriptorIndex := 18, attributes := #[] }, { accessFlags := 2, nameIndex := 21, descriptorIndex := 22, attributes := #[] }, { accessFlags := 2, nameIndex := 25, descriptorIndex := 26, attributes := #[] }, { accessFlags := 26, nameIndex := 1116, descriptorIndex := 1117, attributes := #[] }, { accessFlags := 24, nameIndex := 40, descriptorIndex := 26, attributes := #[] }, { accessFlags := 26, nameIndex := 1101, descriptorIndex := 1102, attributes := #[] }, { accessFlags := 26, nameIndex := 1121, descriptorIndex := 1122, attributes := #[] }, { accessFlags := 25, nameIndex := 599, descriptorIndex := 600, attributes := #[] }, { accessFlags := 24, nameIndex := 1125, descriptorIndex := 18, attributes := #[] }, { accessFlags := 24, nameIndex := 1127, descriptorIndex := 18, attributes := #[] }])
  fields := #[{ name := "value", type := (.array .byte), accessFlags := 18, slot := 0, constantValue := 0 }, { name := "coder", type := .byte, accessFlags := 18, slot := 1, constantValue := 0 }, { name := "hash", type := .int, accessFlags := 2, slot := 2, constantValue := 0 }, { name := "hashIsZero", type := .boolean, accessFlags := 2, slot := 3, constantValue := 0 }, { name := "serialVersionUID", type := .long, accessFlags := 26, slot := 0, constantValue := 0 }, { name := "COMPACT_STRINGS", type := .boolean, accessFlags := 24, slot := 1, constantValue := 0 }, { name := "serialPersistentFields", type := (.array (.object "java/io/ObjectStreamField")), accessFlags := 26, slot := 2, constantValue := 0 }, { name := "REPL", type := .char, accessFlags := 26, slot := 3, constantValue := 0 }, { name := "CASE_INSENSITIVE_ORDER", type := (.object "java/util/Comparator"), accessFlags := 25, slot := 4, constantValue := 0 }, { name := "LATIN1", type := .byte, accessFlags := 24, slot := 5, constantValue := 0 }, { name := "UTF16", type := .byte, accessFlags := 24, slot := 6, constantValue := 0 }]
  methods := #[k9m0, k9m1, k9m2, k9m3, k9m4, k9m5]
  instanceTypes := #[(.array .byte), .byte, .int, .boolean]
  staticTypes := #[.long, .boolean, (.array (.object "java/io/ObjectStreamField")), .char, (.object "java/util/Comparator"), .byte, .byte]
  resolved := Array.replicate 1451 none
  statics := some 1 }

def pool10 : Array CpInfo := pool [(1, .class_ 2), (0, u "java/lang/String"), (1, .class_ 6), (1, u "java/lang/Object"), (0, u "<init>"), (0, u "()V"), (0, .methodref 1 10), (0, .nameAndType 11 12), (0, u "checkIndex"), (0, u "(II)V"), (1, .class_ 16), (1, u "java/lang/StringLatin1"), (36, u "([BI)C"), (67, u "$assertionsDisabled"), (0, u "Z"), (98, .class_ 223), (1, u "java/lang/StringLatin1$LinesSpliterator"), (28, u "charAt"), (137, .class_ 391), (0, u "java/lang/StringLatin1$CharsSpliterator")] 3

def k10m0 : Method := { name := "<init>", desc := "()V", sig := { parameters := [], returnType := none }, accessFlags := 0, code := none }
def k10c1 : Code := { maxStack := 2, maxLocals := 2, code := jdk_43_method_2_code, exceptionTable := #[], attributes := #[] }
def k10m1 : Method := { name := "charAt", desc := "([BI)C", sig := { parameters := [(.array .byte), .int], returnType := some .char }, accessFlags := 9, code := some k10c1 }
/-- java/lang/StringLatin1 -/
def k10 : Class := { plain "java/lang/StringLatin1" (some 0) with
  accessFlags := 48
  interfaces := #[]
  cf := some (fileOf pool10 14 #[.nestMembers #[390, 221]] #[{ accessFlags := 0, nameIndex := 7, descriptorIndex := 8, attributes := #[] }, { accessFlags := 9, nameIndex := 252, descriptorIndex := 53, attributes := #[] }] 48 4 #[] #[{ accessFlags := 4120, nameIndex := 121, descriptorIndex := 122, attributes := #[] }])
  fields := #[{ name := "$assertionsDisabled", type := .boolean, accessFlags := 4120, slot := 0, constantValue := 0 }]
  methods := #[k10m0, k10m1]
  instanceTypes := #[]
  staticTypes := #[.boolean]
  resolved := Array.replicate 395 none
  statics := none }

def pool11 : Array CpInfo := pool [(2, .class_ 4), (1, u "java/lang/Object"), (0, u "<init>"), (0, u "()V"), (17, .class_ 26), (1, u "jdk/internal/util/Preconditions"), (6, u "checkIndex"), (21, .class_ 56), (0, u "jdk/internal/util/Preconditions$4"), (57, .class_ 115), (0, u "jdk/internal/util/Preconditions$1"), (7, u "SIOOBE_FORMATTER"), (0, u "Ljava/util/function/BiFunction;"), (0, .class_ 126), (0, u "jdk/internal/util/Preconditions$2"), (3, u "AIOOBE_FORMATTER"), (0, .class_ 132), (0, u "jdk/internal/util/Preconditions$3"), (3, u "IOOBE_FORMATTER"), (41, u "(IILjava/util/function/BiFunction;)I")] 15

def k11m0 : Method := { name := "<init>", desc := "()V", sig := { parameters := [], returnType := none }, accessFlags := 1, code := none }
def k11c1 : Code := { maxStack := 3, maxLocals := 3, code := jdk_41_method_11_code, exceptionTable := #[], attributes := #[] }
def k11m1 : Method := { name := "checkIndex", desc := "(IILjava/util/function/BiFunction;)I", sig := { parameters := [.int, .int, (.object "java/util/function/BiFunction")], returnType := some .int }, accessFlags := 9, code := some k11c1 }
/-- jdk/internal/util/Preconditions -/
def k11 : Class := { plain "jdk/internal/util/Preconditions" (some 0) with
  accessFlags := 33
  interfaces := #[]
  cf := some (fileOf pool11 24 #[.nestMembers #[55, 131, 125, 114]] #[{ accessFlags := 1, nameIndex := 5, descriptorIndex := 6, attributes := #[] }, { accessFlags := 9, nameIndex := 33, descriptorIndex := 178, attributes := #[] }] 33 2 #[] #[{ accessFlags := 25, nameIndex := 123, descriptorIndex := 124, attributes := #[] }, { accessFlags := 25, nameIndex := 130, descriptorIndex := 124, attributes := #[] }, { accessFlags := 25, nameIndex := 136, descriptorIndex := 124, attributes := #[] }])
  fields := #[{ name := "SIOOBE_FORMATTER", type := (.object "java/util/function/BiFunction"), accessFlags := 25, slot := 0, constantValue := 0 }, { name := "AIOOBE_FORMATTER", type := (.object "java/util/function/BiFunction"), accessFlags := 25, slot := 1, constantValue := 0 }, { name := "IOOBE_FORMATTER", type := (.object "java/util/function/BiFunction"), accessFlags := 25, slot := 2, constantValue := 0 }]
  methods := #[k11m0, k11m1]
  instanceTypes := #[]
  staticTypes := #[(.object "java/util/function/BiFunction"), (.object "java/util/function/BiFunction"), (.object "java/util/function/BiFunction")]
  resolved := Array.replicate 194 none
  statics := some 2 }

def pool12 : Array CpInfo := pool [(9, u "<init>"), (6, .class_ 18), (1, u "java/lang/Object"), (0, u "()V"), (1, .class_ 23), (1, u "jdk/internal/util/ArraysSupport"), (0, u "LOG2_ARRAY_LONG_INDEX_SCALE"), (0, u "I"), (2, u "U"), (0, u "Ljdk/internal/misc/Unsafe;"), (8, u "BIG_ENDIAN"), (0, u "Z"), (8, u "LOG2_BYTE_BIT_SIZE"), (4, u "LOG2_ARRAY_INT_INDEX_SCALE"), (54, u "JLA"), (0, u "Ljdk/internal/access/JavaLangAccess;"), (11, u "LOG2_ARRAY_BOOLEAN_INDEX_SCALE"), (9, u "LOG2_ARRAY_BYTE_INDEX_SCALE"), (5, u "LOG2_ARRAY_CHAR_INDEX_SCALE"), (5, u "LOG2_ARRAY_SHORT_INDEX_SCALE"), (18, u "LOG2_ARRAY_FLOAT_INDEX_SCALE"), (24, u "LOG2_ARRAY_DOUBLE_INDEX_SCALE"), (89, u "T_BOOLEAN"), (2, u "T_CHAR"), (1, u "T_FLOAT"), (1, u "T_DOUBLE"), (1, u "T_BYTE"), (1, u "T_SHORT"), (1, u "T_INT"), (1, u "T_LONG"), (1, u "SOFT_MAX_ARRAY_LENGTH")] 83

def k12m0 : Method := { name := "<init>", desc := "()V", sig := { parameters := [], returnType := none }, accessFlags := 2, code := none }
/-- jdk/internal/util/ArraysSupport -/
def k12 : Class := { plain "jdk/internal/util/ArraysSupport" (some 0) with
  accessFlags := 33
  interfaces := #[]
  cf := some (fileOf pool12 21 #[] #[{ accessFlags := 2, nameIndex := 9, descriptorIndex := 19, attributes := #[] }] 33 16 #[] #[{ accessFlags := 24, nameIndex := 28, descriptorIndex := 29, attributes := #[] }, { accessFlags := 26, nameIndex := 38, descriptorIndex := 39, attributes := #[] }, { accessFlags := 25, nameIndex := 121, descriptorIndex := 25, attributes := #[] }, { accessFlags := 25, nameIndex := 131, descriptorIndex := 25, attributes := #[] }, { accessFlags := 25, nameIndex := 137, descriptorIndex := 25, attributes := #[] }, { accessFlags := 25, nameIndex := 143, descriptorIndex := 25, attributes := #[] }, { accessFlags := 25, nameIndex := 53, descriptorIndex := 25, attributes := #[] }, { accessFlags := 25, nameIndex := 24, descriptorIndex := 25, attributes := #[] }, { accessFlags := 25, nameIndex := 162, descriptorIndex := 25, attributes := #[] }, { accessFlags := 25, nameIndex := 187, descriptorIndex := 25, attributes := #[] }, { accessFlags := 26, nameIndex := 48, descriptorIndex := 25, attributes := #[] }, { accessFlags := 25, nameIndex := 277, descriptorIndex := 25, attributes := #[] }, { accessFlags := 25, nameIndex := 280, descriptorIndex := 25, attributes := #[] }, { accessFlags := 25, nameIndex := 282, descriptorIndex := 25, attributes := #[] }, { accessFlags := 25, nameIndex := 284, descriptorIndex := 25, attributes := #[] }, { accessFlags := 25, nameIndex := 286, descriptorIndex := 25, attributes := #[] }, { accessFlags := 25, nameIndex := 288, descriptorIndex := 25, attributes := #[] }, { accessFlags := 25, nameIndex := 290, descriptorIndex := 25, attributes := #[] }, { accessFlags := 25, nameIndex := 292, descriptorIndex := 25, attributes := #[] }, { accessFlags := 26, nameIndex := 108, descriptorIndex := 109, attributes := #[] }, { accessFlags := 25, nameIndex := 294, descriptorIndex := 25, attributes := #[] }])
  fields := #[{ name := "U", type := (.object "jdk/internal/misc/Unsafe"), accessFlags := 24, slot := 0, constantValue := 0 }, { name := "BIG_ENDIAN", type := .boolean, accessFlags := 26, slot := 1, constantValue := 0 }, { name := "LOG2_ARRAY_BOOLEAN_INDEX_SCALE", type := .int, accessFlags := 25, slot := 2, constantValue := 0 }, { name := "LOG2_ARRAY_BYTE_INDEX_SCALE", type := .int, accessFlags := 25, slot := 3, constantValue := 0 }, { name := "LOG2_ARRAY_CHAR_INDEX_SCALE", type := .int, accessFlags := 25, slot := 4, constantValue := 0 }, { name := "LOG2_ARRAY_SHORT_INDEX_SCALE", type := .int, accessFlags := 25, slot := 5, constantValue := 0 }, { name := "LOG2_ARRAY_INT_INDEX_SCALE", type := .int, accessFlags := 25, slot := 6, constantValue := 0 }, { name := "LOG2_ARRAY_LONG_INDEX_SCALE", type := .int, accessFlags := 25, slot := 7, constantValue := 0 }, { name := "LOG2_ARRAY_FLOAT_INDEX_SCALE", type := .int, accessFlags := 25, slot := 8, constantValue := 0 }, { name := "LOG2_ARRAY_DOUBLE_INDEX_SCALE", type := .int, accessFlags := 25, slot := 9, constantValue := 0 }, { name := "LOG2_BYTE_BIT_SIZE", type := .int, accessFlags := 26, slot := 10, constantValue := 0 }, { name := "T_BOOLEAN", type := .int, accessFlags := 25, slot := 11, constantValue := 0 }, { name := "T_CHAR", type := .int, accessFlags := 25, slot := 12, constantValue := 0 }, { name := "T_FLOAT", type := .int, accessFlags := 25, slot := 13, constantValue := 0 }, { name := "T_DOUBLE", type := .int, accessFlags := 25, slot := 14, constantValue := 0 }, { name := "T_BYTE", type := .int, accessFlags := 25, slot := 15, constantValue := 0 }, { name := "T_SHORT", type := .int, accessFlags := 25, slot := 16, constantValue := 0 }, { name := "T_INT", type := .int, accessFlags := 25, slot := 17, constantValue := 0 }, { name := "T_LONG", type := .int, accessFlags := 25, slot := 18, constantValue := 0 }, { name := "JLA", type := (.object "jdk/internal/access/JavaLangAccess"), accessFlags := 26, slot := 19, constantValue := 0 }, { name := "SOFT_MAX_ARRAY_LENGTH", type := .int, accessFlags := 25, slot := 20, constantValue := 0 }]
  methods := #[k12m0]
  instanceTypes := #[]
  staticTypes := #[(.object "jdk/internal/misc/Unsafe"), .boolean, .int, .int, .int, .int, .int, .int, .int, .int, .int, .int, .int, .int, .int, .int, .int, .int, .int, (.object "jdk/internal/access/JavaLangAccess"), .int]
  resolved := Array.replicate 378 none
  statics := none }

def pool13 : Array CpInfo := pool [(1, u "java/lang/Cloneable"), (0, .class_ 1), (0, u "java/lang/Object"), (0, .class_ 3)] 3

/-- java/lang/Cloneable -/
def k13 : Class := { plain "java/lang/Cloneable" (some 0) with
  accessFlags := 1537
  interfaces := #[]
  cf := some (fileOf pool13 2 #[] #[] 1537 4 #[] #[])
  fields := #[]
  methods := #[]
  instanceTypes := #[]
  staticTypes := #[]
  resolved := Array.replicate 8 none
  statics := none }

/-- the primitive byte -/
def k14 : Class := { plain "byte" none with kind := .primitive 'B', accessFlags := 0x411 }
/-- [B -/
def k15 : Class := { plain "[B" (some 0) with kind := .array 14 .byte, interfaces := #[13, 4], accessFlags := 1041 }

/-- the primitive int -/
def k16 : Class := { plain "int" none with kind := .primitive 'I', accessFlags := 0x411 }
/-- [I -/
def k17 : Class := { plain "[I" (some 0) with kind := .array 16 .int, interfaces := #[13, 4], accessFlags := 1041 }

/-- [Lcom/example/servweave/servweave/qos/Bound$Comparison; -/
def k18 : Class := { plain "[Lcom/example/servweave/servweave/qos/Bound$Comparison;" (some 0) with kind := .array 6 (.object "com/example/servweave/servweave/qos/Bound$Comparison"), interfaces := #[13, 4], accessFlags := 1041 }

def heap : Heap := #[{ cls := 6, slots := #[.ref 5, .ref 8, .ref 11, .ref 14, .null], vm := .statics 6 },
  { cls := 9, slots := #[.long 0, .int 1, .null, .int 0, .null, .int 0, .int 0], vm := .statics 9 },
  { cls := 11, slots := #[.null, .null, .null], vm := .statics 11 },
  { cls := 15, slots := #[.int 60], vm := .none },
  { cls := 9, slots := #[.ref 3, .int 0, .int 0, .int 0], vm := .none },
  { cls := 6, slots := #[.null, .int 0, .int 0, .ref 4], vm := .none },
  { cls := 15, slots := #[.int 60, .int 61], vm := .none },
  { cls := 9, slots := #[.ref 6, .int 0, .int 0, .int 0], vm := .none },
  { cls := 6, slots := #[.null, .int 1, .int 0, .ref 7], vm := .none },
  { cls := 15, slots := #[.int 62], vm := .none },
  { cls := 9, slots := #[.ref 9, .int 0, .int 0, .int 0], vm := .none },
  { cls := 6, slots := #[.null, .int 2, .int 0, .ref 10], vm := .none },
  { cls := 15, slots := #[.int 62, .int 61], vm := .none },
  { cls := 9, slots := #[.ref 12, .int 0, .int 0, .int 0], vm := .none },
  { cls := 6, slots := #[.null, .int 3, .int 0, .ref 13], vm := .none }]
def classes : Array Class := #[k0, k1, k2, k3, k4, k5, k6, k7, k8, k9, k10, k11, k12, k13, k14, k15, k16, k17, k18]
def interned : List (Array UInt16 × Addr) := []
def slotsUsed : Nat := 53
def theMethod : MethodId := ⟨1, 1⟩
def args0 : Array Value := #[.int 5, .int 7]
def aboutOver (below : List Frame) : State where
  vm := { classes := classes, interned := interned.toArray }
  heap := heap
  slotsUsed := slotsUsed
  threads := #[{ frames := .invoking theMethod args0 :: below }]
def below0 : List Frame := [.native { method := ⟨0, 0⟩, args := #[] }]
def about1 : State := aboutOver below0
def p0 : Program := .bare "" "" ""
def e0 : Env := launch0.env 0 0 0
theorem w_frames : about1.frames = Frame.invoking theMethod args0 :: below0 := rfl
set_option maxRecDepth 65536 in
theorem w_args : argsFit about1.vm theMethod args0 = true := by decide +kernel
set_option maxRecDepth 65536 in
theorem w_heap : heapFits about1 = true := by decide +kernel
set_option maxRecDepth 65536 in
theorem w_runnable : about1.curStatus? = some .runnable := by decide +kernel
set_option maxRecDepth 65536 in
theorem w_alone : about1.alone = true := by decide +kernel
set_option maxRecDepth 65536 in
theorem w_named : about1.methodNamed? x = some theMethod := by decide +kernel
set_option maxRecDepth 65536 in
theorem w_hears : about1.hears theMethod below0 = true := by decide +kernel
set_option maxRecDepth 65536 in
theorem w_ripe : about1.ripe theMethod args0 below0 = true := by decide +kernel
theorem w_running : about1.status = .running := rfl
set_option maxRecDepth 65536 in
theorem w_room : about1.hasRoom e0.platform room_1 = true :=
  launch0.hasRoom_least _ room_1 (by decide +kernel) (by decide +kernel) (by decide +kernel) (by decide +kernel) (by decide +kernel) (by decide +kernel)
theorem allAtoms_all (ts : List Jvm.Cond) (a : Array Jvm.Value) (st : Jvm.State) : (allAtoms ts).before a st = ts.all (fun c => c.before a st) := by
  induction ts with
  | nil => rfl
  | cons c t ih =>
    show (Jvm.Cond.and c (allAtoms t)).before a st = _
    rw [Jvm.Cond.before_and, ih, List.all_cons]
def words1 : List Jvm.Cond := Jvm.Cond.code x code maxLocals ret :: tables_1
/-- a 'code' word, met by the world's own term for the bytes: nothing is compared byte by byte -/
theorem code_word {y : MethodName} {bytes : ByteArray} {mx : Nat} {rt : Option FieldType} {a : Array Value} {s : State} {m : MethodId} {meth : Method} {c : Code} (h1 : s.methodNamed? y = some m) (h2 : s.vm.method? m = some meth) (h3 : meth.code = some c) (h4 : c.code = bytes)
    (h5 : (c.maxLocals == mx && c.exceptionTable.isEmpty && decide (c.maxStack ≤ mostOperands) && decide (meth.sig.returnType = rt) && !meth.locks && decide (parseMethodDescriptor y.desc = some meth.sig)) = true) : (Jvm.Cond.code y bytes mx rt).before a s = true := by
  simp only [Bool.and_eq_true, beq_iff_eq, Bool.not_eq_true', decide_eq_true_eq] at h5
  obtain ⟨⟨⟨⟨⟨g1, g2⟩, g3⟩, g4⟩, g5⟩, g6⟩ := h5
  simp [Cond.before, Cond.holds, Cond.value, h1, h2, h3, h4, g1, g2, g3, g4, g5, g6]
def isCode : Jvm.Cond → Bool
  | .code _ _ _ _ => true
  | _ => false
theorem all_split {L : List Jvm.Cond} {P : Jvm.Cond → Bool} (h1 : L.all (fun c => isCode c || P c) = true) (h2 : ∀ c ∈ L.filter isCode, P c = true) : L.all P = true := by
  refine List.all_eq_true.mpr fun c hc => ?_
  have h := List.all_eq_true.mp h1 c hc
  rcases Bool.eq_false_or_eq_true (isCode c) with hi | hi
  · exact h2 c (List.mem_filter.mpr ⟨hc, hi⟩)
  · simpa [hi] using h
set_option maxRecDepth 65536 in
theorem w_c0 : (Jvm.Cond.code x code maxLocals ret).before args0 about1 = true := code_word (m := ⟨1, 1⟩) (meth := k1m1) (c := k1c1) (by decide +kernel) rfl rfl rfl (by decide +kernel)
set_option maxRecDepth 65536 in
theorem w_c1 : (Jvm.Cond.code ({ cls := "com/example/servweave/servweave/qos/Bound$Comparison", name := "symbol", desc := "()Ljava/lang/String;" } : Jvm.MethodName) prog_38_method_4_code (1 : Nat) (Option.some (Jvm.ClassFile.FieldType.object "java/lang/String"))).before args0 about1 = true := code_word (m := ⟨6, 0⟩) (meth := k6m0) (c := k6c0) (by decide +kernel) rfl rfl rfl (by decide +kernel)
set_option maxRecDepth 65536 in
theorem w_c2 : (Jvm.Cond.code ({ cls := "java/lang/String", name := "length", desc := "()I" } : Jvm.MethodName) jdk_42_method_54_code (1 : Nat) (Option.some Jvm.ClassFile.FieldType.int)).before args0 about1 = true := code_word (m := ⟨9, 1⟩) (meth := k9m1) (c := k9c1) (by decide +kernel) rfl rfl rfl (by decide +kernel)
set_option maxRecDepth 65536 in
theorem w_c3 : (Jvm.Cond.code ({ cls := "java/lang/String", name := "coder", desc := "()B" } : Jvm.MethodName) jdk_42_method_152_code (1 : Nat) (Option.some Jvm.ClassFile.FieldType.byte)).before args0 about1 = true := code_word (m := ⟨9, 3⟩) (meth := k9m3) (c := k9c3) (by decide +kernel) rfl rfl rfl (by decide +kernel)
set_option maxRecDepth 65536 in
theorem w_c4 : (Jvm.Cond.code ({ cls := "java/lang/String", name := "charAt", desc := "(I)C" } : Jvm.MethodName) jdk_42_method_56_code (2 : Nat) (Option.some Jvm.ClassFile.FieldType.char)).before args0 about1 = true := code_word (m := ⟨9, 2⟩) (meth := k9m2) (c := k9c2) (by decide +kernel) rfl rfl rfl (by decide +kernel)
set_option maxRecDepth 65536 in
theorem w_c5 : (Jvm.Cond.code ({ cls := "java/lang/String", name := "isLatin1", desc := "()Z" } : Jvm.MethodName) jdk_42_method_154_code (1 : Nat) (Option.some Jvm.ClassFile.FieldType.boolean)).before args0 about1 = true := code_word (m := ⟨9, 4⟩) (meth := k9m4) (c := k9c4) (by decide +kernel) rfl rfl rfl (by decide +kernel)
set_option maxRecDepth 65536 in
theorem w_c6 : (Jvm.Cond.code ({ cls := "java/lang/StringLatin1", name := "charAt", desc := "([BI)C" } : Jvm.MethodName) jdk_43_method_2_code (2 : Nat) (Option.some Jvm.ClassFile.FieldType.char)).before args0 about1 = true := code_word (m := ⟨10, 1⟩) (meth := k10m1) (c := k10c1) (by decide +kernel) rfl rfl rfl (by decide +kernel)
set_option maxRecDepth 65536 in
theorem w_c7 : (Jvm.Cond.code ({ cls := "java/lang/String", name := "checkIndex", desc := "(II)V" } : Jvm.MethodName) jdk_42_method_155_code (2 : Nat) (Option.none : Option Jvm.ClassFile.FieldType)).before args0 about1 = true := code_word (m := ⟨9, 5⟩) (meth := k9m5) (c := k9c5) (by decide +kernel) rfl rfl rfl (by decide +kernel)
set_option maxRecDepth 65536 in
theorem w_c8 : (Jvm.Cond.code ({ cls := "jdk/internal/util/Preconditions", name := "checkIndex", desc := "(IILjava/util/function/BiFunction;)I" } : Jvm.MethodName) jdk_41_method_11_code (3 : Nat) (Option.some Jvm.ClassFile.FieldType.int)).before args0 about1 = true := code_word (m := ⟨11, 1⟩) (meth := k11m1) (c := k11c1) (by decide +kernel) rfl rfl rfl (by decide +kernel)
set_option maxRecDepth 65536 in
theorem w_c9 : (Jvm.Cond.code ({ cls := "com/example/servweave/servweave/qos/Bound$Comparison", name := "holds", desc := "(I)Z" } : Jvm.MethodName) prog_38_method_5_code (2 : Nat) (Option.some Jvm.ClassFile.FieldType.boolean)).before args0 about1 = true := code_word (m := ⟨6, 1⟩) (meth := k6m1) (c := k6c1) (by decide +kernel) rfl rfl rfl (by decide +kernel)
set_option maxRecDepth 65536 in
theorem w_c10 : (Jvm.Cond.code ({ cls := "java/lang/Enum", name := "ordinal", desc := "()I" } : Jvm.MethodName) jdk_37_method_2_code (1 : Nat) (Option.some Jvm.ClassFile.FieldType.int)).before args0 about1 = true := code_word (m := ⟨5, 0⟩) (meth := k5m0) (c := k5c0) (by decide +kernel) rfl rfl rfl (by decide +kernel)
def codes1 : List Jvm.Cond := [Jvm.Cond.code x code maxLocals ret, Jvm.Cond.code ({ cls := "com/example/servweave/servweave/qos/Bound$Comparison", name := "symbol", desc := "()Ljava/lang/String;" } : Jvm.MethodName) prog_38_method_4_code (1 : Nat) (Option.some (Jvm.ClassFile.FieldType.object "java/lang/String")), Jvm.Cond.code ({ cls := "java/lang/String", name := "length", desc := "()I" } : Jvm.MethodName) jdk_42_method_54_code (1 : Nat) (Option.some Jvm.ClassFile.FieldType.int), Jvm.Cond.code ({ cls := "java/lang/String", name := "coder", desc := "()B" } : Jvm.MethodName) jdk_42_method_152_code (1 : Nat) (Option.some Jvm.ClassFile.FieldType.byte), Jvm.Cond.code ({ cls := "java/lang/String", name := "charAt", desc := "(I)C" } : Jvm.MethodName) jdk_42_method_56_code (2 : Nat) (Option.some Jvm.ClassFile.FieldType.char), Jvm.Cond.code ({ cls := "java/lang/String", name := "isLatin1", desc := "()Z" } : Jvm.MethodName) jdk_42_method_154_code (1 : Nat) (Option.some Jvm.ClassFile.FieldType.boolean), Jvm.Cond.code ({ cls := "java/lang/StringLatin1", name := "charAt", desc := "([BI)C" } : Jvm.MethodName) jdk_43_method_2_code (2 : Nat) (Option.some Jvm.ClassFile.FieldType.char), Jvm.Cond.code ({ cls := "java/lang/String", name := "checkIndex", desc := "(II)V" } : Jvm.MethodName) jdk_42_method_155_code (2 : Nat) (Option.none : Option Jvm.ClassFile.FieldType), Jvm.Cond.code ({ cls := "jdk/internal/util/Preconditions", name := "checkIndex", desc := "(IILjava/util/function/BiFunction;)I" } : Jvm.MethodName) jdk_41_method_11_code (3 : Nat) (Option.some Jvm.ClassFile.FieldType.int), Jvm.Cond.code ({ cls := "com/example/servweave/servweave/qos/Bound$Comparison", name := "holds", desc := "(I)Z" } : Jvm.MethodName) prog_38_method_5_code (2 : Nat) (Option.some Jvm.ClassFile.FieldType.boolean), Jvm.Cond.code ({ cls := "java/lang/Enum", name := "ordinal", desc := "()I" } : Jvm.MethodName) jdk_37_method_2_code (1 : Nat) (Option.some Jvm.ClassFile.FieldType.int)]
set_option maxRecDepth 65536 in
theorem codes_eq : words1.filter isCode = codes1 := rfl
theorem w_codes : ∀ c ∈ words1.filter isCode, c.before args0 about1 = true := by
  rw [codes_eq]
  intro c hc
  simp only [codes1, List.mem_cons, List.not_mem_nil, or_false] at hc
  rcases hc with rfl | rfl | rfl | rfl | rfl | rfl | rfl | rfl | rfl | rfl | rfl
  · exact w_c0
  · exact w_c1
  · exact w_c2
  · exact w_c3
  · exact w_c4
  · exact w_c5
  · exact w_c6
  · exact w_c7
  · exact w_c8
  · exact w_c9
  · exact w_c10
set_option maxRecDepth 65536 in
theorem w_t1 : (words1.take 24).all (fun c => isCode c || c.before args0 about1) = true := by decide +kernel
set_option maxRecDepth 65536 in
theorem w_t2 : ((words1.drop 24).take 24).all (fun c => isCode c || c.before args0 about1) = true := by decide +kernel
set_option maxRecDepth 65536 in
theorem w_t3 : ((words1.drop 24).drop 24).all (fun c => isCode c || c.before args0 about1) = true := by decide +kernel
theorem w_tables : (allAtoms (Jvm.Cond.code x code maxLocals ret :: tables_1)).before args0 about1 = true := by
  rw [allAtoms_all]
  show words1.all (fun c => c.before args0 about1) = true
  refine all_split ?_ w_codes
  rw [← List.take_append_drop 24 words1, List.all_append, w_t1, ← List.take_append_drop 24 (words1.drop 24), List.all_append, w_t2, w_t3]
  rfl
set_option maxRecDepth 65536 in
theorem w_rest : rest_1_c.before args0 about1 = true := by decide +kernel
set_option maxRecDepth 65536 in
theorem w_case : (Jvm.Cond.and given_1 narrow_1).before args0 about1 = true := by decide +kernel
theorem w_applies : (headSpec (Jvm.Cond.code x code maxLocals ret :: tables_1) room_1).applies x e0.platform about1 = true :=
  (Spec.applies_iff w_frames).mpr ⟨w_running, w_runnable, w_alone, w_named, w_hears, w_ripe, w_room, w_tables⟩
theorem atStart : AtStart classFile x code maxLocals ret World_1 tables_1 room_1 Calls_1 rest_1 Pre_1 launch0 p0 e0 about1 theMethod args0 below0 :=
  ⟨lists_1, trivial, launch0.admits_env _ _ _, launch0.least_env, fairChoices_fair.cas, fairChoices_fair.clock, w_frames, w_args, w_heap, w_applies, trivial, w_rest, w_case⟩
end start1
theorem witness_1 : WitnessClaimed_1 := ⟨start1.p0, start1.e0, start1.about1, start1.theMethod, start1.args0, start1.below0, start1.atStart⟩
end Jvm.Pilot.@@N@@
