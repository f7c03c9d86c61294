import JvmDerived
import JvmDerived.Pilot.@@N@@Statement
import JvmDerived.Pilot.@@N@@Code
set_option linter.unusedVariables false
set_option linter.unusedSimpArgs false
namespace Jvm.Pilot.@@N@@
open Jvm Jvm.ClassFile Sem Op Lib Jvm.Free Jvm.Stand Jvm.LawKit Jvm.RoadKit Bundle Jvm.Pilot.@@N@@.Jvm.D Jvm.Free.Fl
/-! own_: the walk's goal, said once: from the frame g at T the run comes to an end that Fin holds of -/
def own_Go (p : Program) (e : Env) (below : List Frame) (Fin : Outcome → State → Prop) (T : State) (g : JFrame) : Prop :=
  ∃ s₂ o, Steps p.tables e below (T.setTop g) s₂ ∧ s₂.status = .running ∧ Ended s₂ below o ∧ Fin o s₂
def own_Fin (s : State) (Q : Option Value → Heap → List Loc → Prop) (k n : Nat) (o : Outcome) (t : State) : Prop :=
  ∃ v L, o = .returned v ∧ Q v t.heap L ∧ FrameEnd s o t L k n
section OwnGo
variable {p : Program} {l : Launch} {e : Env} {R : Room} {s : State} {m : MethodId} {args : Array Value} {below : List Frame} {meth : Method} {c : Code} {T T' : State} {locs : List Loc} {cells slots : Nat} {Z : State} {a0 : Array Value} {h : Heap} {g g' : JFrame} {Fin : Outcome → State → Prop} {k n : Nat} {Q : Option Value → Heap → List Loc → Prop}
theorem own_go (st : ∀ target, Steps p.tables e below (T'.setTop g') target → Steps p.tables e below (T.setTop g) target) (G : own_Go p e below Fin T' g') : own_Go p e below Fin T g := by
  obtain ⟨s₂, o, h, r⟩ := G
  exact ⟨s₂, o, st _ h, r⟩
theorem own_end (X : Stand p l e R s m args below meth c T locs cells slots) (hlk : meth.locks = false) {v : Option Value} (hv : meth.sig.returnType = none → v = none)
    (hr : ∀ fs, (∀ (f : JFrame) (acts : List Action), f.method = m → f.locked = none → f.entered = [] → (doReturn e (T.setTop f) acts v).1 = T.setFrames fs) → Steps p.tables e below (T.setTop g) (T.setFrames fs))
    (hQ : Q v T.heap locs) (hc : cells ≤ k) (hn : slots ≤ n) : own_Go p e below (own_Fin s Q k n) T g := by
  obtain ⟨fs, h1, hrun, hended, hW, hsame⟩ := X.leave hv hlk
  exact ⟨_, _, hr fs h1, hrun, hended, v, locs, rfl, hQ, ⟨_, rfl⟩, hW, hsame.mono hc hn⟩
theorem own_dia {α : Type} {C : Prop} [Decidable C] {v1 v0 : α} {f : α → JFrame} (h1 : C → own_Go p e below Fin T' (f v1) → own_Go p e below Fin T g) (h0 : ¬ C → own_Go p e below Fin T' (f v0) → own_Go p e below Fin T g) (G : own_Go p e below Fin T' (f (if C then v1 else v0))) : own_Go p e below Fin T g := by
  by_cases hC : C
  · rw [if_pos hC] at G; exact h1 hC G
  · rw [if_neg hC] at G; exact h0 hC G
end OwnGo
def own_Met (l : Launch) (Z : State) (y : MethodName) (bytes : ByteArray) (maxL : Nat) (ret : Option FieldType) (ws : List Jvm.Cond) (rm : Room) (as : Array Value) (h0 : Heap) (Q : Option Value → Heap → List Loc → Prop) : Prop :=
  MetFree l y (head1 (Jvm.Cond.code y bytes maxL ret :: ws) rm) (fun a U => a = as ∧ Z.Warmed39 U.vm ∧ U.heap = h0) (fun _ _ _ _ _ => True) (fun _ U o U' => ∃ v L, o = .returned v ∧ Q v U'.heap L ∧ FrameEnd U o U' L rm.cells rm.slots)
theorem own_met {l : Launch} {Z : State} {y : MethodName} {bytes : ByteArray} {maxL : Nat} {ret : Option FieldType} {ws : List Jvm.Cond} {rm : Room} {as : Array Value} {h0 : Heap} {Q : Option Value → Heap → List Loc → Prop} (hp : plainFor y = true)
    (body : ∀ (p : Program) (e : Env) (s : State) (m : MethodId) (below : List Frame) (meth : Method) (c : Code) (s₁ : State), Stand p l e rm s m as below meth c s₁ [] 0 0 → p.tables.exec = Jvm.exec → Z.Warmed39 s.vm → c.code = bytes → c.maxLocals = maxL → s.vm.findClass y.cls = some m.cls → meth.name = y.name → meth.sig.returnType = ret → meth.locks = false → s₁.heap = h0 →
      own_Go p e below (own_Fin s Q rm.cells rm.slots) s₁ (entryFrame m as maxL)) : own_Met l Z y bytes maxL ret ws rm as h0 Q := by
  refine MetFree.of_bodySF hp hisR ?_
  intro p e s m args below meth c s₁ Bd hml0 hP hK
  obtain ⟨rfl, hZ, hh⟩ := hP
  exact body p e s m below meth c s₁ (Stand.of_body Bd) Bd.exec hZ Bd.bytes hml0 (findClass_of_methodNamed Bd.named) (name_of_methodNamed Bd.named Bd.method).1 Bd.returns Bd.notSynchronized (by rw [← hh, Bd.state]; rfl)
section OwnCall
variable {p : Program} {l : Launch} {e : Env} {R : Room} {s : State} {m : MethodId} {args : Array Value} {below : List Frame} {meth : Method} {c : Code} {T : State} {locs : List Loc} {cells slots : Nat} {Z : State} {a0 : Array Value} {h : Heap} {g : JFrame} {Q : Option Value → Heap → List Loc → Prop} {own : String} {index : Nat} {y z : MethodName} {bytes : ByteArray} {maxL W : Nat} {ret r0 : Option FieldType} {rm : Room} {argsL rest : List Value} {ps : List FieldType} {b : Addr} {C : String}
theorem own_callS (X : Stand p l e R s m args below meth c T locs cells slots) (hx : p.tables.exec = Jvm.exec) (hZ : Z.Warmed39 s.vm) (hown : s.vm.findClass own = some m.cls) (wl : (Cond.methodLink own index y).before a0 Z = true) (ws : (Cond.static y).before a0 Z = true) (wi : (Cond.initialized y.cls).before a0 Z = true) (wc : (Cond.code y bytes maxL ret).before a0 Z = true)
    (hy : y.cls ≠ "java/lang/invoke/MethodHandle" ∧ y.cls ≠ "java/lang/invoke/VarHandle") (eT : T.heap = h) (hM : own_Met l Z y bytes maxL ret [] rm argsL.toArray h Q) (hf : rm.frames + 1 ≤ R.frames) (hl : W + (maxL + 11) + rm.locals ≤ R.locals) (hc : cells + rm.cells ≤ R.cells) (hn : slots + rm.slots ≤ R.slots)
    (hpd : parseMethodDescriptor y.desc = some ⟨ps, r0⟩) (hlen : argsL.length = ps.length) (hg : g.method = m) (hsize : g.locals.size = c.maxLocals) (hstack : g.stack = argsL.reverse ++ rest) (hW : 2 * g.monitorRoom + (rest.map fun v => v.category).sum ≤ W) (hd : decode c.code g.pc = .ok (.invokestatic index, 3)) :
    ∃ (v : Option Value) (T' : State) (L : List Loc), Stand p l e R s m args below meth c T' (locs ++ L) (cells + rm.cells) (slots + rm.slots) ∧ Q v T'.heap L ∧ ∀ target, Steps p.tables e below (T'.setTop { g with pc := g.pc + 3, stack := v.toList ++ rest }) target → Steps p.tables e below (T.setTop g) target := by
  obtain ⟨v, vm₁, ⟨T1, L1, k1, n1⟩, -, X1, ⟨Lc, hQ, l1, y1, z1⟩, st⟩ := Jvm.LawKit.callS X hx (y := y) hown (mvT hZ wl) (mvT hZ ws) (mvT hZ wi) (mvT hZ wc) hy (backOf (W := W) hM hZ wc wi hf hl) hg hsize (lenOf hpd hlen) hstack hW hd (fun _ _ => ⟨rfl, eT, hc, hn⟩)
  dsimp only [Pt.U, Pt.locs, Pt.cells, Pt.slots] at X1 l1 y1 z1 st hQ
  subst l1 y1 z1
  exact ⟨v, T1, Lc, X1, hQ, st⟩
theorem own_callI (X : Stand p l e R s m args below meth c T locs cells slots) (hx : p.tables.exec = Jvm.exec) (hZ : Z.Warmed39 s.vm) (hy1 : y.name = "<init>") (hown : s.vm.findClass own = some m.cls) (wl : (Cond.methodLink own index y).before a0 Z = true) (ws : (Cond.instanceMethod y).before a0 Z = true) (wi : (Cond.initialized y.cls).before a0 Z = true) (wc : (Cond.code y bytes maxL none).before a0 Z = true)
    (hy : y.cls ≠ "java/lang/invoke/MethodHandle" ∧ y.cls ≠ "java/lang/invoke/VarHandle") (eT : T.heap = h) (hM : own_Met l Z y bytes maxL none [] rm (.ref b :: argsL).toArray h Q) (hf : rm.frames + 1 ≤ R.frames) (hl : W + (maxL + 11) + rm.locals ≤ R.locals) (hc : cells + rm.cells ≤ R.cells) (hn : slots + rm.slots ≤ R.slots)
    (hpd : parseMethodDescriptor y.desc = some ⟨ps, r0⟩) (hlen : argsL.length = ps.length) (hg : g.method = m) (hsize : g.locals.size = c.maxLocals) (hstack : g.stack = argsL.reverse ++ .ref b :: rest) (hW : 2 * g.monitorRoom + (rest.map fun v => v.category).sum ≤ W) (hd : decode c.code g.pc = .ok (.invokespecial index, 3)) :
    ∃ (v : Option Value) (T' : State) (L : List Loc), Stand p l e R s m args below meth c T' (locs ++ L) (cells + rm.cells) (slots + rm.slots) ∧ Q v T'.heap L ∧ ∀ target, Steps p.tables e below (T'.setTop { g with pc := g.pc + 3, stack := v.toList ++ rest }) target → Steps p.tables e below (T.setTop g) target := by
  obtain ⟨v, vm₁, ⟨T1, L1, k1, n1⟩, -, X1, ⟨Lc, hQ, l1, y1, z1⟩, st⟩ := X.specialBack hx (y := y) hy1 hown (mvT hZ wl) (mvT hZ ws) (mvT hZ wc) hy (backOf (W := W) hM hZ wc wi hf hl) hg hsize (Steps.refl _) (lenOf hpd hlen) hstack hW hd (fun _ _ => ⟨rfl, eT, hc, hn⟩)
  dsimp only [Pt.U, Pt.locs, Pt.cells, Pt.slots] at X1 l1 y1 z1 st hQ
  subst l1 y1 z1
  exact ⟨v, T1, Lc, X1, hQ, fun _ k => st.trans k⟩
theorem own_callV (X : Stand p l e R s m args below meth c T locs cells slots) (hx : p.tables.exec = Jvm.exec) (hZ : Z.Warmed39 s.vm) (hown : s.vm.findClass own = some m.cls) (wl : (Cond.methodLink own index y).before a0 Z = true) (wd : (Cond.declares y).before a0 Z = true) (wsel : (Cond.selects C y y).before a0 Z = true) (ws : (Cond.instanceMethod y).before a0 Z = true) (wi : (Cond.initialized y.cls).before a0 Z = true) (wc : (Cond.code y bytes maxL ret).before a0 Z = true)
    (hy : y.cls ≠ "java/lang/invoke/MethodHandle" ∧ y.cls ≠ "java/lang/invoke/VarHandle") (eT : T.heap = h) (E : Exa Z h b C) (hM : own_Met l Z y bytes maxL ret [] rm (.ref b :: argsL).toArray h Q) (hf : rm.frames + 1 ≤ R.frames) (hl : W + (maxL + 11) + rm.locals ≤ R.locals) (hc : cells + rm.cells ≤ R.cells) (hn : slots + rm.slots ≤ R.slots)
    (hpd : parseMethodDescriptor y.desc = some ⟨ps, r0⟩) (hlen : argsL.length = ps.length) (hg : g.method = m) (hsize : g.locals.size = c.maxLocals) (hstack : g.stack = argsL.reverse ++ .ref b :: rest) (hW : 2 * g.monitorRoom + (rest.map fun v => v.category).sum ≤ W) (hd : decode c.code g.pc = .ok (.invokevirtual index, 3)) :
    ∃ (v : Option Value) (T' : State) (L : List Loc), Stand p l e R s m args below meth c T' (locs ++ L) (cells + rm.cells) (slots + rm.slots) ∧ Q v T'.heap L ∧ ∀ target, Steps p.tables e below (T'.setTop { g with pc := g.pc + 3, stack := v.toList ++ rest }) target → Steps p.tables e below (T.setTop g) target := by
  obtain ⟨cq, kq, qa, qb, qc⟩ := isOf hZ eT E
  obtain ⟨v, vm₁, ⟨T1, L1, k1, n1⟩, -, X1, ⟨Lc, hQ, l1, y1, z1⟩, st⟩ := X.virtualBack hx (y := y) (z := y) hown (mvT hZ wl) (mvT hZ wd) (notFace_of_selects (args := #[]) (mvT hZ wsel)) (mvT hZ wsel) (mvT hZ ws) hy (backOf (W := W) hM hZ wc wi hf hl) qa qc hg hsize (Steps.refl _) (lenOf hpd hlen) hstack hW hd (fun _ _ => ⟨rfl, eT, hc, hn⟩)
  dsimp only [Pt.U, Pt.locs, Pt.cells, Pt.slots] at X1 l1 y1 z1 st hQ
  subst l1 y1 z1
  exact ⟨v, T1, Lc, X1, hQ, fun _ k => st.trans k⟩
end OwnCall
theorem own_ef1 (m : MethodId) (q1 : UInt64) : entryFrame m #[(.double q1)] 2 = mkF m 0 #[.val (.double q1), .second] [] := by first | (simp [entryFrame, mkF, argsToLocals, Value.category]; done) | rfl
theorem own_d1_0 : decode prog_19_method_5_code 0 = .ok (.dload_n 0, 1) := by decide +kernel
theorem own_d1_1 : decode prog_19_method_5_code 1 = .ok (.dconst 0, 1) := by decide +kernel
theorem own_d1_2 : decode prog_19_method_5_code 2 = .ok (.dcmp .l, 1) := by decide +kernel
theorem own_d1_3 : decode prog_19_method_5_code 3 = .ok (.ifCond .le 9, 3) := by decide +kernel
theorem own_d1_6 : decode prog_19_method_5_code 6 = .ok (.dload_n 0, 1) := by decide +kernel
theorem own_d1_7 : decode prog_19_method_5_code 7 = .ok (.dconst 1, 1) := by decide +kernel
theorem own_d1_8 : decode prog_19_method_5_code 8 = .ok (.dcmp .g, 1) := by decide +kernel
theorem own_d1_9 : decode prog_19_method_5_code 9 = .ok (.ifCond .lt 17, 3) := by decide +kernel
theorem own_d1_26 : decode prog_19_method_5_code 26 = .ok (.dload_n 0, 1) := by decide +kernel
theorem own_d1_27 : decode prog_19_method_5_code 27 = .ok (.dreturn, 1) := by decide +kernel
theorem own_pn0 : plainName "com/example/tailgauge/tailgauge/model/RiskModel" = true := by first | (simp [plainName, overriddenIn]; done) | decide +kernel
def own_Q1 (Z : State) (q1 : UInt64) (h0 : Heap) (n0 : Nat) (v : Option Value) (h : Heap) (L : List Loc) : Prop := v = some (.double q1) ∧ Fr n0 L ∧ h = h0
set_option maxRecDepth 65536 in
set_option maxHeartbeats 40000000 in
theorem own_rm1 (l : Launch) (Z : State) (a0 : Array Value) (hw : ∀ d ∈ tables_1, d.before a0 Z = true) (ws : List Jvm.Cond) (q1 : UInt64) (h0 : Heap) (n0 : Nat) (h1 : (0 : Int32) < (cmpValue (FP.dcmp q1 FP.dconst0) .l)) (h2 : (cmpValue (FP.dcmp q1 FP.dconst1) .g) < (0 : Int32)) :
    own_Met l Z (⟨"com/example/tailgauge/tailgauge/model/RiskModel", "checkConfidence", "(D)D"⟩ : MethodName) prog_19_method_5_code 2 (some .double) ws ({ frames := 0, cells := 0, slots := 0, locals := 0 } : Room) #[(.double q1)] h0 (own_Q1 Z q1 h0 n0) := by
  refine own_met (plainFor_of_name own_pn0) ?_
  intro p e s m below meth c s₁ X0 hx hZ hby hml hown hnm hret hlk e0
  have N0 := Fr.nil n0
  refine own_go (fun t k => castTop (own_ef1 m q1) k) ?_
  show own_Go _ _ _ _ s₁ (mkF m 0 #[.val (.double q1), .second] [])
  refine own_go (fun _ k => XS.dloadN X0.here hx rfl (hb hby own_d1_0) rfl k) ?_
  show own_Go _ _ _ _ s₁ (mkF m 1 #[.val (.double q1), .second] [(.double q1)])
  refine own_go (fun _ k => XS.dconst0 X0.here hx rfl (hb hby own_d1_1) rfl k) ?_
  show own_Go _ _ _ _ s₁ (mkF m 2 #[.val (.double q1), .second] [(.double FP.dconst0), (.double q1)])
  refine own_go (fun _ k => XS.dcmpS X0.here hx rfl (hb hby own_d1_2) rfl rfl k) ?_
  show own_Go _ _ _ _ s₁ (mkF m 3 #[.val (.double q1), .second] [(.int (cmpValue (FP.dcmp q1 FP.dconst0) .l))])
  refine own_go (fun _ k => XS.ifNo X0.here hx rfl (hb hby own_d1_3) rfl ((if0 _ _).trans (tlt h1).2.2.2) k) ?_
  show own_Go _ _ _ _ s₁ (mkF m 6 #[.val (.double q1), .second] [])
  refine own_go (fun _ k => XS.dloadN X0.here hx rfl (hb hby own_d1_6) rfl k) ?_
  show own_Go _ _ _ _ s₁ (mkF m 7 #[.val (.double q1), .second] [(.double q1)])
  refine own_go (fun _ k => XS.dconst1 X0.here hx rfl (hb hby own_d1_7) rfl k) ?_
  show own_Go _ _ _ _ s₁ (mkF m 8 #[.val (.double q1), .second] [(.double FP.dconst1), (.double q1)])
  refine own_go (fun _ k => XS.dcmpS X0.here hx rfl (hb hby own_d1_8) rfl rfl k) ?_
  show own_Go _ _ _ _ s₁ (mkF m 9 #[.val (.double q1), .second] [(.int (cmpValue (FP.dcmp q1 FP.dconst1) .g))])
  refine own_go (fun _ k => XS.ifYes X0.here hx rfl (pc0 := 9) (pc' := 26) rfl (hb hby own_d1_9) rfl ((if0 _ _).trans (tlt h2).1) (by decide) (by decide) k) ?_
  show own_Go _ _ _ _ s₁ (mkF m 26 #[.val (.double q1), .second] [])
  refine own_go (fun _ k => XS.dloadN X0.here hx rfl (hb hby own_d1_26) rfl k) ?_
  show own_Go _ _ _ _ s₁ (mkF m 27 #[.val (.double q1), .second] [(.double q1)])
  exact own_end X0 hlk (v := (some (.double q1))) (fun h => by rw [hret] at h; cases h) (fun fs hr => retOut X0 hx hret rfl (Or.inr (Or.inr (Or.inl ⟨rfl, rfl, _, rfl⟩))) (hb hby own_d1_27) hr) (by rw [e0]; exact ⟨rfl, N0, rfl⟩) (by decide) (by decide)
theorem own_b (y : Int32) : 2 ≤ ((y &&& (1073741823 : Int32)) + (2 : Int32)).toInt ∧ ((y &&& (1073741823 : Int32)) + (2 : Int32)).toInt ≤ 1073741825 := by
  have h1 := c_and y (1073741823 : Int32) (by decide)
  have k1 : (1073741823 : Int32).toInt = 1073741823 := rfl
  have k2 : (2 : Int32).toInt = 2 := rfl
  have h2 := c_iadd (y &&& (1073741823 : Int32)) (2 : Int32)
  have r := rng32 ((y &&& (1073741823 : Int32)) + (2 : Int32))
  omega
theorem own_nz {b : Int32} (h : 2 ≤ b.toInt) : b - (1 : Int32) ≠ 0 := fun q => by
  have h2 := c_isub b (1 : Int32)
  rw [q] at h2
  have k1 : (1 : Int32).toInt = 1 := rfl
  have k0 : (0 : Int32).toInt = 0 := rfl
  have r := rng32 b
  omega
theorem own_i2dnz {b : Int32} (h : 2 ≤ b.toInt) : Nz64 (FP.i2d b) := i2d_nz (fun q => by rw [q] at h; exact absurd h (by decide))
theorem own_ef0 (m : MethodId) (p1 : Int32) (p2 : Int32) : entryFrame m #[(.int p1), (.int p2)] maxLocals = mkF m 0 #[.val (.int p1), .val (.int p2), .unset, .unset, .unset, .unset, .unset, .unset] [] := by first | (simp [entryFrame, mkF, argsToLocals, Value.category, maxLocals]; done) | rfl
theorem own_pd0 : parseMethodDescriptor "(D)D" = some ⟨[.double], some .double⟩ := by decide +kernel
theorem own_pn1 : plainName "com/example/tailgauge/tailgauge/model/RiskModelCheckConfidencePinLaw" = true := by first | (simp [plainName, overriddenIn]; done) | decide +kernel
def own_Q0 (Z : State) (p1 : Int32) (h0 : Heap) (n0 : Nat) (v : Option Value) (h : Heap) (L : List Loc) : Prop := v = some (.int 1) ∧ Fr n0 L
set_option maxRecDepth 65536 in
set_option maxHeartbeats 40000000 in
theorem own_rm0 (l : Launch) (Z : State) (a0 : Array Value) (hw : ∀ d ∈ tables_1, d.before a0 Z = true) (ws : List Jvm.Cond) (p1 : Int32) (p2 : Int32) (h0 : Heap) (n0 : Nat)  :
    own_Met l Z x code maxLocals ret ws room_1 #[(.int p1), (.int p2)] h0 (own_Q0 Z p1 h0 n0) := by
  refine own_met (plainFor_of_name own_pn1) ?_
  intro p e s m below meth c s₁ X0 hx hZ hby hml hown hnm hret hlk e0
  have N0 := Fr.nil n0
  refine own_go (fun t k => castTop (own_ef0 m p1 p2) k) ?_
  show own_Go _ _ _ _ s₁ (mkF m 0 #[.val (.int p1), .val (.int p2), .unset, .unset, .unset, .unset, .unset, .unset] [])
  refine own_go (fun _ k => XS.iloadN X0.here hx rfl (hb hby at_0) rfl k) ?_
  show own_Go _ _ _ _ s₁ (mkF m 1 #[.val (.int p1), .val (.int p2), .unset, .unset, .unset, .unset, .unset, .unset] [(.int p2)])
  refine own_go (fun _ k => X0.ldcInt hx hown (mvT hZ (hw _ (List.mem_of_getElem? (i := 0) rfl))) (g := (mkF m 1 #[.val (.int p1), .val (.int p2), .unset, .unset, .unset, .unset, .unset, .unset] [(.int p2)])) rfl (hb hby at_1) _ k) ?_
  show own_Go _ _ _ _ s₁ (mkF m 3 #[.val (.int p1), .val (.int p2), .unset, .unset, .unset, .unset, .unset, .unset] [(.int (1073741823 : Int32)), (.int p2)])
  refine own_go (fun _ k => XS.iand X0.here hx rfl (hb hby at_3) rfl k) ?_
  show own_Go _ _ _ _ s₁ (mkF m 4 #[.val (.int p1), .val (.int p2), .unset, .unset, .unset, .unset, .unset, .unset] [(.int (p2 &&& (1073741823 : Int32)))])
  refine own_go (fun _ k => XS.iconst X0.here hx rfl (hb hby at_4) k) ?_
  show own_Go _ _ _ _ s₁ (mkF m 5 #[.val (.int p1), .val (.int p2), .unset, .unset, .unset, .unset, .unset, .unset] [(.int (2 : Int32)), (.int (p2 &&& (1073741823 : Int32)))])
  refine own_go (fun _ k => XS.iadd X0.here hx rfl (hb hby at_5) rfl k) ?_
  show own_Go _ _ _ _ s₁ (mkF m 6 #[.val (.int p1), .val (.int p2), .unset, .unset, .unset, .unset, .unset, .unset] [(.int ((p2 &&& (1073741823 : Int32)) + (2 : Int32)))])
  refine own_go (fun _ k => XS.istoreN X0.here hx rfl (hb hby at_6) rfl (l' := #[.val (.int p1), .val (.int p2), .val (.int ((p2 &&& (1073741823 : Int32)) + (2 : Int32))), .unset, .unset, .unset, .unset, .unset]) rfl k) ?_
  show own_Go _ _ _ _ s₁ (mkF m 7 #[.val (.int p1), .val (.int p2), .val (.int ((p2 &&& (1073741823 : Int32)) + (2 : Int32))), .unset, .unset, .unset, .unset, .unset] [])
  obtain ⟨b, h_b⟩ : ∃ z, z = ((p2 &&& (1073741823 : Int32)) + (2 : Int32)) := ⟨_, rfl⟩
  have hbb := own_b p2
  rw [← h_b] at hbb
  rw [← h_b]
  clear h_b
  show own_Go _ _ _ _ s₁ (mkF m 7 #[.val (.int p1), .val (.int p2), .val (.int b), .unset, .unset, .unset, .unset, .unset] [])
  refine own_go (fun _ k => XS.iloadN X0.here hx rfl (hb hby at_7) rfl k) ?_
  show own_Go _ _ _ _ s₁ (mkF m 8 #[.val (.int p1), .val (.int p2), .val (.int b), .unset, .unset, .unset, .unset, .unset] [(.int p1)])
  refine own_go (fun _ k => X0.ldcInt hx hown (mvT hZ (hw _ (List.mem_of_getElem? (i := 1) rfl))) (g := (mkF m 8 #[.val (.int p1), .val (.int p2), .val (.int b), .unset, .unset, .unset, .unset, .unset] [(.int p1)])) rfl (hb hby at_8) _ k) ?_
  show own_Go _ _ _ _ s₁ (mkF m 10 #[.val (.int p1), .val (.int p2), .val (.int b), .unset, .unset, .unset, .unset, .unset] [(.int (2147483647 : Int32)), (.int p1)])
  refine own_go (fun _ k => XS.iand X0.here hx rfl (hb hby at_10) rfl k) ?_
  show own_Go _ _ _ _ s₁ (mkF m 11 #[.val (.int p1), .val (.int p2), .val (.int b), .unset, .unset, .unset, .unset, .unset] [(.int (p1 &&& (2147483647 : Int32)))])
  refine own_go (fun _ k => XS.iloadN X0.here hx rfl (hb hby at_11) rfl k) ?_
  show own_Go _ _ _ _ s₁ (mkF m 12 #[.val (.int p1), .val (.int p2), .val (.int b), .unset, .unset, .unset, .unset, .unset] [(.int b), (.int (p1 &&& (2147483647 : Int32)))])
  refine own_go (fun _ k => XS.iconst X0.here hx rfl (hb hby at_12) k) ?_
  show own_Go _ _ _ _ s₁ (mkF m 13 #[.val (.int p1), .val (.int p2), .val (.int b), .unset, .unset, .unset, .unset, .unset] [(.int (1 : Int32)), (.int b), (.int (p1 &&& (2147483647 : Int32)))])
  refine own_go (fun _ k => XS.isub X0.here hx rfl (hb hby at_13) rfl k) ?_
  show own_Go _ _ _ _ s₁ (mkF m 14 #[.val (.int p1), .val (.int p2), .val (.int b), .unset, .unset, .unset, .unset, .unset] [(.int (b - (1 : Int32))), (.int (p1 &&& (2147483647 : Int32)))])
  refine own_go (fun _ k => iremM X0 hx rfl (hb hby at_14) rfl (own_nz hbb.1) k) ?_
  show own_Go _ _ _ _ s₁ (mkF m 15 #[.val (.int p1), .val (.int p2), .val (.int b), .unset, .unset, .unset, .unset, .unset] [(.int ((p1 &&& (2147483647 : Int32)) % (b - (1 : Int32))))])
  refine own_go (fun _ k => XS.iconst X0.here hx rfl (hb hby at_15) k) ?_
  show own_Go _ _ _ _ s₁ (mkF m 16 #[.val (.int p1), .val (.int p2), .val (.int b), .unset, .unset, .unset, .unset, .unset] [(.int (1 : Int32)), (.int ((p1 &&& (2147483647 : Int32)) % (b - (1 : Int32))))])
  refine own_go (fun _ k => XS.iadd X0.here hx rfl (hb hby at_16) rfl k) ?_
  show own_Go _ _ _ _ s₁ (mkF m 17 #[.val (.int p1), .val (.int p2), .val (.int b), .unset, .unset, .unset, .unset, .unset] [(.int (((p1 &&& (2147483647 : Int32)) % (b - (1 : Int32))) + (1 : Int32)))])
  refine own_go (fun _ k => XS.istoreN X0.here hx rfl (hb hby at_17) rfl (l' := #[.val (.int p1), .val (.int p2), .val (.int b), .val (.int (((p1 &&& (2147483647 : Int32)) % (b - (1 : Int32))) + (1 : Int32))), .unset, .unset, .unset, .unset]) rfl k) ?_
  show own_Go _ _ _ _ s₁ (mkF m 18 #[.val (.int p1), .val (.int p2), .val (.int b), .val (.int (((p1 &&& (2147483647 : Int32)) % (b - (1 : Int32))) + (1 : Int32))), .unset, .unset, .unset, .unset] [])
  obtain ⟨a, h_a⟩ : ∃ z, z = (((p1 &&& (2147483647 : Int32)) % (b - (1 : Int32))) + (1 : Int32)) := ⟨_, rfl⟩
  rw [← h_a]
  clear h_a
  show own_Go _ _ _ _ s₁ (mkF m 18 #[.val (.int p1), .val (.int p2), .val (.int b), .val (.int a), .unset, .unset, .unset, .unset] [])
  refine own_go (fun _ k => XS.iloadN X0.here hx rfl (hb hby at_18) rfl k) ?_
  show own_Go _ _ _ _ s₁ (mkF m 19 #[.val (.int p1), .val (.int p2), .val (.int b), .val (.int a), .unset, .unset, .unset, .unset] [(.int a)])
  refine own_go (fun _ k => XS.i2dS X0.here hx rfl (hb hby at_19) rfl rfl k) ?_
  show own_Go _ _ _ _ s₁ (mkF m 20 #[.val (.int p1), .val (.int p2), .val (.int b), .val (.int a), .unset, .unset, .unset, .unset] [(.double (FP.i2d a))])
  refine own_go (fun _ k => XS.iloadN X0.here hx rfl (hb hby at_20) rfl k) ?_
  show own_Go _ _ _ _ s₁ (mkF m 21 #[.val (.int p1), .val (.int p2), .val (.int b), .val (.int a), .unset, .unset, .unset, .unset] [(.int b), (.double (FP.i2d a))])
  refine own_go (fun _ k => XS.i2dS X0.here hx rfl (hb hby at_21) rfl rfl k) ?_
  show own_Go _ _ _ _ s₁ (mkF m 22 #[.val (.int p1), .val (.int p2), .val (.int b), .val (.int a), .unset, .unset, .unset, .unset] [(.double (FP.i2d b)), (.double (FP.i2d a))])
  have hnn : NoNaN64 (FP.ddiv (FP.i2d a) (FP.i2d b)) := ddiv_out (i2d_fin a).noNaN (i2d_fin b) (own_i2dnz hbb.1)
  refine own_go (fun _ k => XS.ddivS X0.here hx rfl (hb hby at_22) rfl hnn rfl k) ?_
  show own_Go _ _ _ _ s₁ (mkF m 23 #[.val (.int p1), .val (.int p2), .val (.int b), .val (.int a), .unset, .unset, .unset, .unset] [(.double (FP.ddiv (FP.i2d a) (FP.i2d b)))])
  refine own_go (fun _ k => XS.dstore X0.here hx rfl (hb hby at_23) rfl (l' := #[.val (.int p1), .val (.int p2), .val (.int b), .val (.int a), .val (.double (FP.ddiv (FP.i2d a) (FP.i2d b))), .second, .unset, .unset]) rfl k) ?_
  show own_Go _ _ _ _ s₁ (mkF m 25 #[.val (.int p1), .val (.int p2), .val (.int b), .val (.int a), .val (.double (FP.ddiv (FP.i2d a) (FP.i2d b))), .second, .unset, .unset] [])
  obtain ⟨d, h_d⟩ : ∃ z, z = (FP.ddiv (FP.i2d a) (FP.i2d b)) := ⟨_, rfl⟩
  rw [← h_d] at hnn
  rw [← h_d]
  clear h_d
  show own_Go _ _ _ _ s₁ (mkF m 25 #[.val (.int p1), .val (.int p2), .val (.int b), .val (.int a), .val (.double d), .second, .unset, .unset] [])
  refine own_go (fun _ k => XS.dload X0.here hx rfl (hb hby at_25) rfl k) ?_
  show own_Go _ _ _ _ s₁ (mkF m 27 #[.val (.int p1), .val (.int p2), .val (.int b), .val (.int a), .val (.double d), .second, .unset, .unset] [(.double d)])
  refine own_go (fun _ k => XS.dconst0 X0.here hx rfl (hb hby at_27) rfl k) ?_
  show own_Go _ _ _ _ s₁ (mkF m 28 #[.val (.int p1), .val (.int p2), .val (.int b), .val (.int a), .val (.double d), .second, .unset, .unset] [(.double FP.dconst0), (.double d)])
  refine own_go (fun _ k => XS.dcmpS X0.here hx rfl (hb hby at_28) rfl rfl k) ?_
  show own_Go _ _ _ _ s₁ (mkF m 29 #[.val (.int p1), .val (.int p2), .val (.int b), .val (.int a), .val (.double d), .second, .unset, .unset] [(.int (cmpValue (FP.dcmp d FP.dconst0) .l))])
  by_cases h1 : (0 : Int32) < (cmpValue (FP.dcmp d FP.dconst0) .l)
  · refine own_go (fun _ k => XS.ifNo X0.here hx rfl (hb hby at_29) rfl ((if0 _ _).trans (tlt h1).2.2.2) k) ?_
    show own_Go _ _ _ _ s₁ (mkF m 32 #[.val (.int p1), .val (.int p2), .val (.int b), .val (.int a), .val (.double d), .second, .unset, .unset] [])
    refine own_go (fun _ k => XS.dload X0.here hx rfl (hb hby at_32) rfl k) ?_
    show own_Go _ _ _ _ s₁ (mkF m 34 #[.val (.int p1), .val (.int p2), .val (.int b), .val (.int a), .val (.double d), .second, .unset, .unset] [(.double d)])
    refine own_go (fun _ k => XS.dconst1 X0.here hx rfl (hb hby at_34) rfl k) ?_
    show own_Go _ _ _ _ s₁ (mkF m 35 #[.val (.int p1), .val (.int p2), .val (.int b), .val (.int a), .val (.double d), .second, .unset, .unset] [(.double FP.dconst1), (.double d)])
    refine own_go (fun _ k => XS.dcmpS X0.here hx rfl (hb hby at_35) rfl rfl k) ?_
    show own_Go _ _ _ _ s₁ (mkF m 36 #[.val (.int p1), .val (.int p2), .val (.int b), .val (.int a), .val (.double d), .second, .unset, .unset] [(.int (cmpValue (FP.dcmp d FP.dconst1) .g))])
    by_cases h2 : (cmpValue (FP.dcmp d FP.dconst1) .g) < (0 : Int32)
    · refine own_go (fun _ k => XS.ifYes X0.here hx rfl (pc0 := 36) (pc' := 41) rfl (hb hby at_36) rfl ((if0 _ _).trans (tlt h2).1) (by decide) (by decide) k) ?_
      show own_Go _ _ _ _ s₁ (mkF m 41 #[.val (.int p1), .val (.int p2), .val (.int b), .val (.int a), .val (.double d), .second, .unset, .unset] [])
      refine own_go (fun _ k => XS.dload X0.here hx rfl (hb hby at_41) rfl k) ?_
      show own_Go _ _ _ _ s₁ (mkF m 43 #[.val (.int p1), .val (.int p2), .val (.int b), .val (.int a), .val (.double d), .second, .unset, .unset] [(.double d)])
      obtain ⟨vz1, Tz1, Lz1, Xz1, hQz1, stz1⟩ := own_callS X0 hx hZ hown (hw _ (List.mem_of_getElem? (i := 2) rfl)) (hw _ (List.mem_of_getElem? (i := 3) rfl)) (hw _ (List.mem_of_getElem? (i := 4) rfl)) (hw _ (List.mem_of_getElem? (i := 5) rfl)) (by decide) e0 (own_rm1 l Z a0 hw [] d h0 n0 h1 h2) (W := 0) (by decide) (by decide) (by decide) (by decide) own_pd0 rfl (g := (mkF m 43 #[.val (.int p1), .val (.int p2), .val (.int b), .val (.int a), .val (.double d), .second, .unset, .unset] [(.double d)])) (argsL := [(.double d)]) (rest := []) rfl (by rw [hml]; rfl) rfl (by show 2 * 0 + _ ≤ _; exact Nat.le_of_eq rfl) (hb hby at_43)
      obtain ⟨rfl, Nz1q, ehz1⟩ := hQz1
      have Nz1 := Fr.app N0 Nz1q
      refine own_go stz1 ?_
      show own_Go _ _ _ _ Tz1 (mkF m 46 #[.val (.int p1), .val (.int p2), .val (.int b), .val (.int a), .val (.double d), .second, .unset, .unset] [(.double d)])
      refine own_go (fun _ k => XS.dstore Xz1.here hx rfl (hb hby at_46) rfl (l' := #[.val (.int p1), .val (.int p2), .val (.int b), .val (.int a), .val (.double d), .second, .val (.double d), .second]) rfl k) ?_
      show own_Go _ _ _ _ Tz1 (mkF m 48 #[.val (.int p1), .val (.int p2), .val (.int b), .val (.int a), .val (.double d), .second, .val (.double d), .second] [])
      refine own_go (fun _ k => XS.dload Xz1.here hx rfl (hb hby at_48) rfl k) ?_
      show own_Go _ _ _ _ Tz1 (mkF m 50 #[.val (.int p1), .val (.int p2), .val (.int b), .val (.int a), .val (.double d), .second, .val (.double d), .second] [(.double d)])
      refine own_go (fun _ k => XS.dload Xz1.here hx rfl (hb hby at_50) rfl k) ?_
      show own_Go _ _ _ _ Tz1 (mkF m 52 #[.val (.int p1), .val (.int p2), .val (.int b), .val (.int a), .val (.double d), .second, .val (.double d), .second] [(.double d), (.double d)])
      refine own_go (fun _ k => XS.dcmpS Xz1.here hx rfl (hb hby at_52) rfl (dcmpV_self hnn _) k) ?_
      show own_Go _ _ _ _ Tz1 (mkF m 53 #[.val (.int p1), .val (.int p2), .val (.int b), .val (.int a), .val (.double d), .second, .val (.double d), .second] [(.int (0 : Int32))])
      refine own_go (fun _ k => XS.ifNo Xz1.here hx rfl (hb hby at_53) rfl ((if0 _ _).trans (teq (by decide : (0 : Int32) = (0 : Int32))).2) k) ?_
      show own_Go _ _ _ _ Tz1 (mkF m 56 #[.val (.int p1), .val (.int p2), .val (.int b), .val (.int a), .val (.double d), .second, .val (.double d), .second] [])
      refine own_go (fun _ k => XS.iconst Xz1.here hx rfl (hb hby at_56) k) ?_
      show own_Go _ _ _ _ Tz1 (mkF m 57 #[.val (.int p1), .val (.int p2), .val (.int b), .val (.int a), .val (.double d), .second, .val (.double d), .second] [(.int (1 : Int32))])
      refine own_go (fun _ k => XS.goto Xz1.here hx rfl (pc0 := 57) (pc' := 61) rfl (hb hby at_57) (by decide) (by decide) k) ?_
      show own_Go _ _ _ _ Tz1 (mkF m 61 #[.val (.int p1), .val (.int p2), .val (.int b), .val (.int a), .val (.double d), .second, .val (.double d), .second] [(.int (1 : Int32))])
      exact own_end Xz1 hlk (v := (some (.int (1 : Int32)))) (fun h => by rw [hret] at h; cases h) (fun fs hr => retN Xz1 hx (t := .boolean) hret (by simp) (hb hby at_61) hr) (by rw [ehz1]; exact ⟨rfl, Nz1⟩) (by decide) (by decide)
    · refine own_go (fun _ k => XS.ifNo X0.here hx rfl (hb hby at_36) rfl ((if0 _ _).trans (flt h2).1) k) ?_
      show own_Go _ _ _ _ s₁ (mkF m 39 #[.val (.int p1), .val (.int p2), .val (.int b), .val (.int a), .val (.double d), .second, .unset, .unset] [])
      refine own_go (fun _ k => XS.iconst X0.here hx rfl (hb hby at_39) k) ?_
      show own_Go _ _ _ _ s₁ (mkF m 40 #[.val (.int p1), .val (.int p2), .val (.int b), .val (.int a), .val (.double d), .second, .unset, .unset] [(.int (1 : Int32))])
      exact own_end X0 hlk (v := (some (.int (1 : Int32)))) (fun h => by rw [hret] at h; cases h) (fun fs hr => retN X0 hx (t := .boolean) hret (by simp) (hb hby at_40) hr) (by rw [e0]; exact ⟨rfl, N0⟩) (by decide) (by decide)
  · refine own_go (fun _ k => XS.ifYes X0.here hx rfl (pc0 := 29) (pc' := 39) rfl (hb hby at_29) rfl ((if0 _ _).trans (flt h1).2.2.2) (by decide) (by decide) k) ?_
    show own_Go _ _ _ _ s₁ (mkF m 39 #[.val (.int p1), .val (.int p2), .val (.int b), .val (.int a), .val (.double d), .second, .unset, .unset] [])
    refine own_go (fun _ k => XS.iconst X0.here hx rfl (hb hby at_39) k) ?_
    show own_Go _ _ _ _ s₁ (mkF m 40 #[.val (.int p1), .val (.int p2), .val (.int b), .val (.int a), .val (.double d), .second, .unset, .unset] [(.int (1 : Int32))])
    exact own_end X0 hlk (v := (some (.int (1 : Int32)))) (fun h => by rw [hret] at h; cases h) (fun fs hr => retN X0 hx (t := .boolean) hret (by simp) (hb hby at_40) hr) (by rw [e0]; exact ⟨rfl, N0⟩) (by decide) (by decide)
set_option maxRecDepth 65536 in
set_option maxHeartbeats 40000000 in
theorem own_comes {Post : Tables → Env → Array Value → State → Outcome → State → Prop} (hpost : ∀ tb e args s v u, (limb_1_1.after args s (.returned v) u = true ∧ limb_1_2.after args s (.returned v) u = true ∧ True) → FrameEnd s (.returned v) u (Jvm.fieldLocs frame_1_writes args s ++ Jvm.arrayLocs frame_1_arrays args s ++ Jvm.staticLocs frame_1_statics s) 0 0 → Post tb e args s (.returned v) u) :
    ArmFor flags0 classFile x code maxLocals ret World_1 tables_1 room_1 Calls_1 rest_1 Pre_1 Post := by
  intro l hfl _ _ p e ha hc hk s m args below hf hA hF happ hP
  obtain ⟨hcalls, hrest, hpre⟩ := hP
  obtain ⟨-, -, -, hnamed, -, -, -, hat⟩ := (Spec.applies_iff hf).mp happ
  obtain ⟨hg, hn⟩ := and_e (Cond.before_iff.mp (show (Jvm.Cond.and given_1 narrow_1).before args s = true from hpre))
  obtain ⟨g1, g2⟩ := and_e hg
  obtain ⟨g3, g4⟩ := and_e g2
  obtain ⟨w0, w1, rfl⟩ : ∃ w0 w1 : Value, args = #[w0, w1] := by
    have hs : args.size = 2 := by simpa [Cond.value, given_1] using g1
    obtain ⟨L⟩ := args
    match L, hs with
    | [w0, w1], _ => exact ⟨w0, w1, rfl⟩
  have hw := fun d (hd : d ∈ tables_1) => atoms_spec (ws := Jvm.Cond.code x code maxLocals ret :: tables_1) hat d (List.mem_cons_of_mem _ hd)
  have hfit : Fit s := fun {y c} hc i hi => by
    obtain ⟨ha, rfl⟩ := Array.getElem?_eq_some_iff.mp hc
    have q := List.all_eq_true.mp ((Array.all_eq_true_iff_forall_mem.mp hF) _ (Array.getElem_mem ha)) i (List.mem_range.mpr hi)
    simpa [Array.getElem?_eq_getElem hi] using q
  obtain ⟨i0, ei0⟩ := is_v g3
  obtain rfl : w0 = (.int i0) := Option.some.inj ei0
  obtain ⟨i1, ei1⟩ := is_v g4
  obtain rfl : w1 = (.int i1) := Option.some.inj ei1
  obtain ⟨n, o, h1, h2, h3, _, L, rfl, ⟨rfl, N⟩, hq⟩ := own_rm0 l s _ hw tables_1 i0 i1 s.heap s.heap.size  p e ha hc hk s m _ below hf ((Spec.applies_iff_loose hf).mp happ).1 ⟨rfl, State.Warmed39.refl s, rfl⟩ trivial
  refine ⟨n, _, h1, h2, h3, hpost _ _ _ _ _ _ ⟨Cond.after_iff.mpr rfl, Cond.after_iff.mpr (eq_i res_at (Term.int_eval (1)) rfl), trivial⟩ ⟨hq.1, hq.2.1, (hq.2.2.sift fun y hy => Or.inr (N y hy)).mono (by decide) (by decide)⟩⟩
theorem main_1_1 : Claimed_1_1 := own_comes fun _ _ _ _ _ _ h hF => ⟨h.1, hF⟩
theorem main_1_2 : Claimed_1_2 := own_comes fun _ _ _ _ _ _ h hF => ⟨h.2.1, hF⟩
end Jvm.Pilot.@@N@@
namespace Jvm.Pilot.@@N@@
open Jvm Jvm.ClassFile Sem Op Lib Jvm.Free Jvm.Stand Jvm.Pilot.@@N@@.Jvm.D
/-! MADE BY PROGRAM (witnessworld.py) out of the Statement's table words and the real class files: 9 classes; the members and pool entries that the words name. The judged class is class 1, her method 1. -/
namespace start1
open Jvm.ClassFile
def u (s : String) : CpInfo := .utf8 (stringToUtf16 s)
/-- a pool by its gaps: so many unusable entries, then the entry; so many at the end -/
def gap : Nat → List CpInfo → List CpInfo
  | 0, r => r
  | n + 1, r => .unusable :: gap n r
def poolList (es : List (Nat × CpInfo)) (last : Nat) : List CpInfo := es.foldr (fun e r => gap e.1 (e.2 :: r)) (gap last [])
def pool (es : List (Nat × CpInfo)) (last : Nat) : Array CpInfo := ⟨poolList es last⟩
def fileOf (pool : Array CpInfo) (this : Nat) (attrs : Array Attribute := #[]) (ms : Array MethodInfo := #[]) (fl : Nat := 33) (sup : Nat := 0) (ifs : Array Nat := #[]) (fds : Array FieldInfo := #[]) : ClassFile where
  minorVersion := 0
  majorVersion := 65
  constantPool := pool
  accessFlags := fl
  thisClass := this
  superClass := sup
  interfaces := ifs
  fields := fds
  methods := ms
  attributes := attrs
def plain (name : String) (sup : Option ClassId) : Class where
  name := name
  kind := .ordinary
  loader := none
  accessFlags := 33
  super := sup
  interfaces := #[]
  cf := none
  fields := #[]
  methods := #[]
  instanceTypes := #[]
  staticTypes := #[]
  resolved := #[]
  callSites := []
  init := .initialized
  statics := none
  mirror := none

def pool0 : Array CpInfo := pool [(5, u "<init>"), (0, u "()V"), (1, .class_ 10), (1, u "java/lang/Object")] 113

def k0m0 : Method := { name := "<init>", desc := "()V", sig := { parameters := [], returnType := none }, accessFlags := 1, code := none }
/-- java/lang/Object -/
def k0 : Class := { plain "java/lang/Object" none with
  accessFlags := 33
  interfaces := #[]
  cf := some (fileOf pool0 8 #[] #[{ accessFlags := 1, nameIndex := 5, descriptorIndex := 6, attributes := #[] }] 33 0 #[] #[])
  fields := #[]
  methods := #[k0m0]
  instanceTypes := #[]
  staticTypes := #[]
  resolved := Array.replicate 124 none
  statics := none }

def pool1 : Array CpInfo := pool [(2, .class_ 4), (1, u "java/lang/Object"), (0, u "<init>"), (0, u "()V"), (0, .integer 1073741823), (0, .integer 2147483647), (0, .methodref 10 11), (0, .class_ 12), (0, .nameAndType 13 14), (0, u "com/example/tailgauge/tailgauge/model/RiskModel"), (0, u "checkConfidence"), (0, u "(D)D"), (0, .class_ 16), (0, u "com/example/tailgauge/tailgauge/model/RiskModelCheckConfidencePinLaw"), (2, u "law"), (0, u "(II)Z")] 3

def k1m0 : Method := { name := "<init>", desc := "()V", sig := { parameters := [], returnType := none }, accessFlags := 1, code := none }
def k1c1 : Code := { maxStack := 4, maxLocals := 8, code := code, exceptionTable := #[], attributes := #[] }
def k1m1 : Method := { name := "law", desc := "(II)Z", sig := { parameters := [.int, .int], returnType := some .boolean }, accessFlags := 9, code := some k1c1 }
/-- com/example/tailgauge/tailgauge/model/RiskModelCheckConfidencePinLaw -/
def k1 : Class := { plain "com/example/tailgauge/tailgauge/model/RiskModelCheckConfidencePinLaw" (some 0) with
  accessFlags := 49
  interfaces := #[]
  cf := some (fileOf pool1 15 #[] #[{ accessFlags := 1, nameIndex := 5, descriptorIndex := 6, attributes := #[] }, { accessFlags := 9, nameIndex := 19, descriptorIndex := 20, attributes := #[] }] 49 2 #[] #[])
  fields := #[]
  methods := #[k1m0, k1m1]
  instanceTypes := #[]
  staticTypes := #[]
  resolved := Array.replicate 24 none
  statics := none }

def pool2 : Array CpInfo := pool [(2, .class_ 4), (1, u "java/lang/Object"), (0, u "<init>"), (0, u "()V"), (1, .class_ 10), (1, u "com/example/tailgauge/tailgauge/model/RiskModel"), (0, u "checkConfidence"), (0, u "(D)D")] 54

def k2m0 : Method := { name := "<init>", desc := "()V", sig := { parameters := [], returnType := none }, accessFlags := 4, code := none }
def k2c1 : Code := { maxStack := 4, maxLocals := 2, code := prog_19_method_5_code, exceptionTable := #[], attributes := #[] }
def k2m1 : Method := { name := "checkConfidence", desc := "(D)D", sig := { parameters := [.double], returnType := some .double }, accessFlags := 9, code := some k2c1 }
/-- com/example/tailgauge/tailgauge/model/RiskModel -/
def k2 : Class := { plain "com/example/tailgauge/tailgauge/model/RiskModel" (some 0) with
  accessFlags := 1057
  interfaces := #[]
  cf := some (fileOf pool2 8 #[] #[{ accessFlags := 4, nameIndex := 5, descriptorIndex := 6, attributes := #[] }, { accessFlags := 9, nameIndex := 11, descriptorIndex := 12, attributes := #[] }] 1057 2 #[] #[])
  fields := #[]
  methods := #[k2m0, k2m1]
  instanceTypes := #[]
  staticTypes := #[]
  resolved := Array.replicate 67 none
  statics := none }

def pool3 : Array CpInfo := pool [(1, u "java/lang/Cloneable"), (0, .class_ 1), (0, u "java/lang/Object"), (0, .class_ 3)] 3

/-- java/lang/Cloneable -/
def k3 : Class := { plain "java/lang/Cloneable" (some 0) with
  accessFlags := 1537
  interfaces := #[]
  cf := some (fileOf pool3 2 #[] #[] 1537 4 #[] #[])
  fields := #[]
  methods := #[]
  instanceTypes := #[]
  staticTypes := #[]
  resolved := Array.replicate 8 none
  statics := none }

def pool4 : Array CpInfo := pool [(1, u "java/io/Serializable"), (0, .class_ 1), (0, u "java/lang/Object"), (0, .class_ 3)] 3

/-- java/io/Serializable -/
def k4 : Class := { plain "java/io/Serializable" (some 0) with
  accessFlags := 1537
  interfaces := #[]
  cf := some (fileOf pool4 2 #[] #[] 1537 4 #[] #[])
  fields := #[]
  methods := #[]
  instanceTypes := #[]
  staticTypes := #[]
  resolved := Array.replicate 8 none
  statics := none }

/-- the primitive byte -/
def k5 : Class := { plain "byte" none with kind := .primitive 'B', accessFlags := 0x411 }
/-- [B -/
def k6 : Class := { plain "[B" (some 0) with kind := .array 5 .byte, interfaces := #[3, 4], accessFlags := 1041 }

/-- the primitive int -/
def k7 : Class := { plain "int" none with kind := .primitive 'I', accessFlags := 0x411 }
/-- [I -/
def k8 : Class := { plain "[I" (some 0) with kind := .array 7 .int, interfaces := #[3, 4], accessFlags := 1041 }

def heap : Heap := #[]
def classes : Array Class := #[k0, k1, k2, k3, k4, k5, k6, k7, k8]
def interned : List (Array UInt16 × Addr) := []
def slotsUsed : Nat := 0
def theMethod : MethodId := ⟨1, 1⟩
def args0 : Array Value := #[.int 1, .int 2]
def aboutOver (below : List Frame) : State where
  vm := { classes := classes, interned := interned.toArray }
  heap := heap
  slotsUsed := slotsUsed
  threads := #[{ frames := .invoking theMethod args0 :: below }]
def below0 : List Frame := [.native { method := ⟨0, 0⟩, args := #[] }]
def about1 : State := aboutOver below0
def p0 : Program := .bare "" "" ""
def e0 : Env := launch0.env 0 0 0
theorem w_frames : about1.frames = Frame.invoking theMethod args0 :: below0 := rfl
set_option maxRecDepth 65536 in
theorem w_args : argsFit about1.vm theMethod args0 = true := by decide +kernel
set_option maxRecDepth 65536 in
theorem w_heap : heapFits about1 = true := by decide +kernel
set_option maxRecDepth 65536 in
theorem w_runnable : about1.curStatus? = some .runnable := by decide +kernel
set_option maxRecDepth 65536 in
theorem w_alone : about1.alone = true := by decide +kernel
set_option maxRecDepth 65536 in
theorem w_named : about1.methodNamed? x = some theMethod := by decide +kernel
set_option maxRecDepth 65536 in
theorem w_hears : about1.hears theMethod below0 = true := by decide +kernel
set_option maxRecDepth 65536 in
theorem w_ripe : about1.ripe theMethod args0 below0 = true := by decide +kernel
theorem w_running : about1.status = .running := rfl
set_option maxRecDepth 65536 in
theorem w_room : about1.hasRoom e0.platform room_1 = true :=
  launch0.hasRoom_least _ room_1 (by decide +kernel) (by decide +kernel) (by decide +kernel) (by decide +kernel) (by decide +kernel) (by decide +kernel)
theorem allAtoms_all (ts : List Jvm.Cond) (a : Array Jvm.Value) (st : Jvm.State) : (allAtoms ts).before a st = ts.all (fun c => c.before a st) := by
  induction ts with
  | nil => rfl
  | cons c t ih =>
    show (Jvm.Cond.and c (allAtoms t)).before a st = _
    rw [Jvm.Cond.before_and, ih, List.all_cons]
def words1 : List Jvm.Cond := Jvm.Cond.code x code maxLocals ret :: tables_1
/-- a 'code' word, met by the world's own term for the bytes: nothing is compared byte by byte -/
theorem code_word {y : MethodName} {bytes : ByteArray} {mx : Nat} {rt : Option FieldType} {a : Array Value} {s : State} {m : MethodId} {meth : Method} {c : Code} (h1 : s.methodNamed? y = some m) (h2 : s.vm.method? m = some meth) (h3 : meth.code = some c) (h4 : c.code = bytes)
    (h5 : (c.maxLocals == mx && c.exceptionTable.isEmpty && decide (c.maxStack ≤ mostOperands) && decide (meth.sig.returnType = rt) && !meth.locks && decide (parseMethodDescriptor y.desc = some meth.sig)) = true) : (Jvm.Cond.code y bytes mx rt).before a s = true := by
  simp only [Bool.and_eq_true, beq_iff_eq, Bool.not_eq_true', decide_eq_true_eq] at h5
  obtain ⟨⟨⟨⟨⟨g1, g2⟩, g3⟩, g4⟩, g5⟩, g6⟩ := h5
  simp [Cond.before, Cond.holds, Cond.value, h1, h2, h3, h4, g1, g2, g3, g4, g5, g6]
def isCode : Jvm.Cond → Bool
  | .code _ _ _ _ => true
  | _ => false
theorem all_split {L : List Jvm.Cond} {P : Jvm.Cond → Bool} (h1 : L.all (fun c => isCode c || P c) = true) (h2 : ∀ c ∈ L.filter isCode, P c = true) : L.all P = true := by
  refine List.all_eq_true.mpr fun c hc => ?_
  have h := List.all_eq_true.mp h1 c hc
  rcases Bool.eq_false_or_eq_true (isCode c) with hi | hi
  · exact h2 c (List.mem_filter.mpr ⟨hc, hi⟩)
  · simpa [hi] using h
set_option maxRecDepth 65536 in
theorem w_c0 : (Jvm.Cond.code x code maxLocals ret).before args0 about1 = true := code_word (m := ⟨1, 1⟩) (meth := k1m1) (c := k1c1) (by decide +kernel) rfl rfl rfl (by decide +kernel)
set_option maxRecDepth 65536 in
theorem w_c1 : (Jvm.Cond.code ({ cls := "com/example/tailgauge/tailgauge/model/RiskModel", name := "checkConfidence", desc := "(D)D" } : Jvm.MethodName) prog_19_method_5_code (2 : Nat) (Option.some Jvm.ClassFile.FieldType.double)).before args0 about1 = true := code_word (m := ⟨2, 1⟩) (meth := k2m1) (c := k2c1) (by decide +kernel) rfl rfl rfl (by decide +kernel)
def codes1 : List Jvm.Cond := [Jvm.Cond.code x code maxLocals ret, Jvm.Cond.code ({ cls := "com/example/tailgauge/tailgauge/model/RiskModel", name := "checkConfidence", desc := "(D)D" } : Jvm.MethodName) prog_19_method_5_code (2 : Nat) (Option.some Jvm.ClassFile.FieldType.double)]
set_option maxRecDepth 65536 in
theorem codes_eq : words1.filter isCode = codes1 := rfl
theorem w_codes : ∀ c ∈ words1.filter isCode, c.before args0 about1 = true := by
  rw [codes_eq]
  intro c hc
  simp only [codes1, List.mem_cons, List.not_mem_nil, or_false] at hc
  rcases hc with rfl | rfl
  · exact w_c0
  · exact w_c1
set_option maxRecDepth 65536 in
theorem w_t1 : words1.all (fun c => isCode c || c.before args0 about1) = true := by decide +kernel
theorem w_tables : (allAtoms (Jvm.Cond.code x code maxLocals ret :: tables_1)).before args0 about1 = true := by
  rw [allAtoms_all]
  show words1.all (fun c => c.before args0 about1) = true
  refine all_split ?_ w_codes
  rw [w_t1]
set_option maxRecDepth 65536 in
theorem w_case : (Jvm.Cond.and given_1 narrow_1).before args0 about1 = true := by decide +kernel
theorem w_applies : (headSpec (Jvm.Cond.code x code maxLocals ret :: tables_1) room_1).applies x e0.platform about1 = true :=
  (Spec.applies_iff w_frames).mpr ⟨w_running, w_runnable, w_alone, w_named, w_hears, w_ripe, w_room, w_tables⟩
theorem atStart : AtStart classFile x code maxLocals ret World_1 tables_1 room_1 Calls_1 rest_1 Pre_1 launch0 p0 e0 about1 theMethod args0 below0 :=
  ⟨lists_1, trivial, launch0.admits_env _ _ _, launch0.least_env, fairChoices_fair.cas, fairChoices_fair.clock, w_frames, w_args, w_heap, w_applies, trivial, trivial, w_case⟩
end start1
theorem witness_1 : WitnessClaimed_1 := ⟨start1.p0, start1.e0, start1.about1, start1.theMethod, start1.args0, start1.below0, start1.atStart⟩
end Jvm.Pilot.@@N@@
