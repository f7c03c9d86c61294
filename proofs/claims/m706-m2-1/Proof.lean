import JvmDerived
import JvmDerived.Pilot.@@N@@Statement
import JvmDerived.Pilot.@@N@@Code
set_option linter.unusedVariables false
set_option linter.unusedSimpArgs false
namespace Jvm.Pilot.@@N@@
open Jvm Jvm.ClassFile Sem Op Lib Jvm.Free Jvm.Stand Jvm.LawKit Jvm.RoadKit Bundle Jvm.Pilot.@@N@@.Jvm.D
/-! own_: the walk's goal, said once: from the frame g at T the run comes to an end that Fin holds of -/
def own_Go (p : Program) (e : Env) (below : List Frame) (Fin : Outcome → State → Prop) (T : State) (g : JFrame) : Prop :=
  ∃ s₂ o, Steps p.tables e below (T.setTop g) s₂ ∧ s₂.status = .running ∧ Ended s₂ below o ∧ Fin o s₂
def own_Fin (s : State) (Q : Option Value → Heap → List Loc → Prop) (k n : Nat) (o : Outcome) (t : State) : Prop :=
  ∃ v L, o = .returned v ∧ Q v t.heap L ∧ FrameEnd s o t L k n
section OwnGo
variable {p : Program} {l : Launch} {e : Env} {R : Room} {s : State} {m : MethodId} {args : Array Value} {below : List Frame} {meth : Method} {c : Code} {T T' : State} {locs : List Loc} {cells slots : Nat} {Z : State} {a0 : Array Value} {h : Heap} {g g' : JFrame} {Fin : Outcome → State → Prop} {k n : Nat} {Q : Option Value → Heap → List Loc → Prop}
theorem own_go (st : ∀ target, Steps p.tables e below (T'.setTop g') target → Steps p.tables e below (T.setTop g) target) (G : own_Go p e below Fin T' g') : own_Go p e below Fin T g := by
  obtain ⟨s₂, o, h, r⟩ := G
  exact ⟨s₂, o, st _ h, r⟩
theorem own_end (X : Stand p l e R s m args below meth c T locs cells slots) (hlk : meth.locks = false) {v : Option Value} (hv : meth.sig.returnType = none → v = none)
    (hr : ∀ fs, (∀ (f : JFrame) (acts : List Action), f.method = m → f.locked = none → f.entered = [] → (doReturn e (T.setTop f) acts v).1 = T.setFrames fs) → Steps p.tables e below (T.setTop g) (T.setFrames fs))
    (hQ : Q v T.heap locs) (hc : cells ≤ k) (hn : slots ≤ n) : own_Go p e below (own_Fin s Q k n) T g := by
  obtain ⟨fs, h1, hrun, hended, hW, hsame⟩ := X.leave hv hlk
  exact ⟨_, _, hr fs h1, hrun, hended, v, locs, rfl, hQ, ⟨_, rfl⟩, hW, hsame.mono hc hn⟩
theorem own_dia {α : Type} {C : Prop} [Decidable C] {v1 v0 : α} {f : α → JFrame} (h1 : C → own_Go p e below Fin T' (f v1) → own_Go p e below Fin T g) (h0 : ¬ C → own_Go p e below Fin T' (f v0) → own_Go p e below Fin T g) (G : own_Go p e below Fin T' (f (if C then v1 else v0))) : own_Go p e below Fin T g := by
  by_cases hC : C
  · rw [if_pos hC] at G; exact h1 hC G
  · rw [if_neg hC] at G; exact h0 hC G
end OwnGo
def own_Met (l : Launch) (Z : State) (y : MethodName) (bytes : ByteArray) (maxL : Nat) (ret : Option FieldType) (ws : List Jvm.Cond) (rm : Room) (as : Array Value) (h0 : Heap) (Q : Option Value → Heap → List Loc → Prop) : Prop :=
  MetFree l y (head1 (Jvm.Cond.code y bytes maxL ret :: ws) rm) (fun a U => a = as ∧ Z.Warmed39 U.vm ∧ U.heap = h0) (fun _ _ _ _ _ => True) (fun _ U o U' => ∃ v L, o = .returned v ∧ Q v U'.heap L ∧ FrameEnd U o U' L rm.cells rm.slots)
theorem own_met {l : Launch} {Z : State} {y : MethodName} {bytes : ByteArray} {maxL : Nat} {ret : Option FieldType} {ws : List Jvm.Cond} {rm : Room} {as : Array Value} {h0 : Heap} {Q : Option Value → Heap → List Loc → Prop} (hp : plainFor y = true)
    (body : ∀ (p : Program) (e : Env) (s : State) (m : MethodId) (below : List Frame) (meth : Method) (c : Code) (s₁ : State), Stand p l e rm s m as below meth c s₁ [] 0 0 → p.tables.exec = Jvm.exec → Z.Warmed39 s.vm → c.code = bytes → c.maxLocals = maxL → s.vm.findClass y.cls = some m.cls → meth.name = y.name → meth.sig.returnType = ret → meth.locks = false → s₁.heap = h0 →
      own_Go p e below (own_Fin s Q rm.cells rm.slots) s₁ (entryFrame m as maxL)) : own_Met l Z y bytes maxL ret ws rm as h0 Q := by
  refine MetFree.of_bodySF hp hisR ?_
  intro p e s m args below meth c s₁ Bd hml0 hP hK
  obtain ⟨rfl, hZ, hh⟩ := hP
  exact body p e s m below meth c s₁ (Stand.of_body Bd) Bd.exec hZ Bd.bytes hml0 (findClass_of_methodNamed Bd.named) (name_of_methodNamed Bd.named Bd.method).1 Bd.returns Bd.notSynchronized (by rw [← hh, Bd.state]; rfl)
section OwnCall
variable {p : Program} {l : Launch} {e : Env} {R : Room} {s : State} {m : MethodId} {args : Array Value} {below : List Frame} {meth : Method} {c : Code} {T : State} {locs : List Loc} {cells slots : Nat} {Z : State} {a0 : Array Value} {h : Heap} {g : JFrame} {Q : Option Value → Heap → List Loc → Prop} {own : String} {index : Nat} {y z : MethodName} {bytes : ByteArray} {maxL W : Nat} {ret r0 : Option FieldType} {rm : Room} {argsL rest : List Value} {ps : List FieldType} {b : Addr} {C : String}
theorem own_callS (X : Stand p l e R s m args below meth c T locs cells slots) (hx : p.tables.exec = Jvm.exec) (hZ : Z.Warmed39 s.vm) (hown : s.vm.findClass own = some m.cls) (wl : (Cond.methodLink own index y).before a0 Z = true) (ws : (Cond.static y).before a0 Z = true) (wi : (Cond.initialized y.cls).before a0 Z = true) (wc : (Cond.code y bytes maxL ret).before a0 Z = true)
    (hy : y.cls ≠ "java/lang/invoke/MethodHandle" ∧ y.cls ≠ "java/lang/invoke/VarHandle") (eT : T.heap = h) (hM : own_Met l Z y bytes maxL ret [] rm argsL.toArray h Q) (hf : rm.frames + 1 ≤ R.frames) (hl : W + (maxL + 11) + rm.locals ≤ R.locals) (hc : cells + rm.cells ≤ R.cells) (hn : slots + rm.slots ≤ R.slots)
    (hpd : parseMethodDescriptor y.desc = some ⟨ps, r0⟩) (hlen : argsL.length = ps.length) (hg : g.method = m) (hsize : g.locals.size = c.maxLocals) (hstack : g.stack = argsL.reverse ++ rest) (hW : 2 * g.monitorRoom + (rest.map fun v => v.category).sum ≤ W) (hd : decode c.code g.pc = .ok (.invokestatic index, 3)) :
    ∃ (v : Option Value) (T' : State) (L : List Loc), Stand p l e R s m args below meth c T' (locs ++ L) (cells + rm.cells) (slots + rm.slots) ∧ Q v T'.heap L ∧ ∀ target, Steps p.tables e below (T'.setTop { g with pc := g.pc + 3, stack := v.toList ++ rest }) target → Steps p.tables e below (T.setTop g) target := by
  obtain ⟨v, vm₁, ⟨T1, L1, k1, n1⟩, -, X1, ⟨Lc, hQ, l1, y1, z1⟩, st⟩ := Jvm.LawKit.callS X hx (y := y) hown (mvT hZ wl) (mvT hZ ws) (mvT hZ wi) (mvT hZ wc) hy (backOf (W := W) hM hZ wc wi hf hl) hg hsize (lenOf hpd hlen) hstack hW hd (fun _ _ => ⟨rfl, eT, hc, hn⟩)
  dsimp only [Pt.U, Pt.locs, Pt.cells, Pt.slots] at X1 l1 y1 z1 st hQ
  subst l1 y1 z1
  exact ⟨v, T1, Lc, X1, hQ, st⟩
theorem own_callI (X : Stand p l e R s m args below meth c T locs cells slots) (hx : p.tables.exec = Jvm.exec) (hZ : Z.Warmed39 s.vm) (hy1 : y.name = "<init>") (hown : s.vm.findClass own = some m.cls) (wl : (Cond.methodLink own index y).before a0 Z = true) (ws : (Cond.instanceMethod y).before a0 Z = true) (wi : (Cond.initialized y.cls).before a0 Z = true) (wc : (Cond.code y bytes maxL none).before a0 Z = true)
    (hy : y.cls ≠ "java/lang/invoke/MethodHandle" ∧ y.cls ≠ "java/lang/invoke/VarHandle") (eT : T.heap = h) (hM : own_Met l Z y bytes maxL none [] rm (.ref b :: argsL).toArray h Q) (hf : rm.frames + 1 ≤ R.frames) (hl : W + (maxL + 11) + rm.locals ≤ R.locals) (hc : cells + rm.cells ≤ R.cells) (hn : slots + rm.slots ≤ R.slots)
    (hpd : parseMethodDescriptor y.desc = some ⟨ps, r0⟩) (hlen : argsL.length = ps.length) (hg : g.method = m) (hsize : g.locals.size = c.maxLocals) (hstack : g.stack = argsL.reverse ++ .ref b :: rest) (hW : 2 * g.monitorRoom + (rest.map fun v => v.category).sum ≤ W) (hd : decode c.code g.pc = .ok (.invokespecial index, 3)) :
    ∃ (v : Option Value) (T' : State) (L : List Loc), Stand p l e R s m args below meth c T' (locs ++ L) (cells + rm.cells) (slots + rm.slots) ∧ Q v T'.heap L ∧ ∀ target, Steps p.tables e below (T'.setTop { g with pc := g.pc + 3, stack := v.toList ++ rest }) target → Steps p.tables e below (T.setTop g) target := by
  obtain ⟨v, vm₁, ⟨T1, L1, k1, n1⟩, -, X1, ⟨Lc, hQ, l1, y1, z1⟩, st⟩ := X.specialBack hx (y := y) hy1 hown (mvT hZ wl) (mvT hZ ws) (mvT hZ wc) hy (backOf (W := W) hM hZ wc wi hf hl) hg hsize (Steps.refl _) (lenOf hpd hlen) hstack hW hd (fun _ _ => ⟨rfl, eT, hc, hn⟩)
  dsimp only [Pt.U, Pt.locs, Pt.cells, Pt.slots] at X1 l1 y1 z1 st hQ
  subst l1 y1 z1
  exact ⟨v, T1, Lc, X1, hQ, fun _ k => st.trans k⟩
theorem own_callV (X : Stand p l e R s m args below meth c T locs cells slots) (hx : p.tables.exec = Jvm.exec) (hZ : Z.Warmed39 s.vm) (hown : s.vm.findClass own = some m.cls) (wl : (Cond.methodLink own index y).before a0 Z = true) (wd : (Cond.declares y).before a0 Z = true) (wsel : (Cond.selects C y y).before a0 Z = true) (ws : (Cond.instanceMethod y).before a0 Z = true) (wi : (Cond.initialized y.cls).before a0 Z = true) (wc : (Cond.code y bytes maxL ret).before a0 Z = true)
    (hy : y.cls ≠ "java/lang/invoke/MethodHandle" ∧ y.cls ≠ "java/lang/invoke/VarHandle") (eT : T.heap = h) (E : Exa Z h b C) (hM : own_Met l Z y bytes maxL ret [] rm (.ref b :: argsL).toArray h Q) (hf : rm.frames + 1 ≤ R.frames) (hl : W + (maxL + 11) + rm.locals ≤ R.locals) (hc : cells + rm.cells ≤ R.cells) (hn : slots + rm.slots ≤ R.slots)
    (hpd : parseMethodDescriptor y.desc = some ⟨ps, r0⟩) (hlen : argsL.length = ps.length) (hg : g.method = m) (hsize : g.locals.size = c.maxLocals) (hstack : g.stack = argsL.reverse ++ .ref b :: rest) (hW : 2 * g.monitorRoom + (rest.map fun v => v.category).sum ≤ W) (hd : decode c.code g.pc = .ok (.invokevirtual index, 3)) :
    ∃ (v : Option Value) (T' : State) (L : List Loc), Stand p l e R s m args below meth c T' (locs ++ L) (cells + rm.cells) (slots + rm.slots) ∧ Q v T'.heap L ∧ ∀ target, Steps p.tables e below (T'.setTop { g with pc := g.pc + 3, stack := v.toList ++ rest }) target → Steps p.tables e below (T.setTop g) target := by
  obtain ⟨cq, kq, qa, qb, qc⟩ := isOf hZ eT E
  obtain ⟨v, vm₁, ⟨T1, L1, k1, n1⟩, -, X1, ⟨Lc, hQ, l1, y1, z1⟩, st⟩ := X.virtualBack hx (y := y) (z := y) hown (mvT hZ wl) (mvT hZ wd) (notFace_of_selects (args := #[]) (mvT hZ wsel)) (mvT hZ wsel) (mvT hZ ws) hy (backOf (W := W) hM hZ wc wi hf hl) qa qc hg hsize (Steps.refl _) (lenOf hpd hlen) hstack hW hd (fun _ _ => ⟨rfl, eT, hc, hn⟩)
  dsimp only [Pt.U, Pt.locs, Pt.cells, Pt.slots] at X1 l1 y1 z1 st hQ
  subst l1 y1 z1
  exact ⟨v, T1, Lc, X1, hQ, fun _ k => st.trans k⟩
end OwnCall
theorem own_eqv {args : Array Value} {Z : State} {t : Term} {k : Int32} (h : (Cond.eq t (Term.int k)).value args Z none Z [] = some true) : t.eval args Z none [] Z = some (.int k) := by
  obtain ⟨x, y, e1, e2, k1, k2⟩ := cmp_v (Or.inl h)
  have e3 : (Term.int k).eval args Z none [] Z = some (.int k) := rfl
  cases e2.symm.trans e3
  cases x <;> simp [Kin, Value.isRef] at k1 k2
  simp [Cond.value, e1, e3] at h
  rw [e1, h]
theorem own_sta {args : Array Value} {Z : State} {C n d K : String} (wi : (Cond.initialized C).before args Z = true) (wl : (Cond.laysStatic C n d).before args Z = true) (h1 : (Cond.exactly (Term.static C n d) K).value args Z none Z [] = some true) :
    ∃ a, (Term.static C n d).eval args Z none [] Z = some (.ref a) ∧ Sta Z Z.heap C n d (.ref a) ∧ Exa Z Z.heap a K := by
  obtain ⟨a, ea⟩ := exa_v h1
  exact ⟨a, ea, Sta.start ea (Or.inr ⟨wi, wl⟩), Exa.start ea h1⟩
theorem own_fld {args : Array Value} {Z : State} {t : Term} {C n d : String} {k : Int32} {a : Addr} (ea : t.eval args Z none [] Z = some (.ref a)) (h : (Cond.eq (Term.field t C n d) (Term.int k)).value args Z none Z [] = some true) : Fld Z Z.heap a C n d (.int k) :=
  Fld.start ((fld_at ea).symm.trans (own_eqv h))
def own_sg (v : Int32) : Int32 := if 0 < v then 1 else if v < 0 then -1 else 0
theorem own_ef1 (m : MethodId) (p1 : Int32) : entryFrame m #[(.int p1)] 1 = mkF m 0 #[.val (.int p1)] [] := by first | (simp [entryFrame, mkF, argsToLocals, Value.category]; done) | rfl
theorem own_d1_0 : decode method_2_code 0 = .ok (.iload_n 0, 1) := by decide +kernel
theorem own_d1_1 : decode method_2_code 1 = .ok (.ifCond .le 5, 3) := by decide +kernel
theorem own_d1_4 : decode method_2_code 4 = .ok (.iconst 1, 1) := by decide +kernel
theorem own_d1_5 : decode method_2_code 5 = .ok (.ireturn, 1) := by decide +kernel
theorem own_d1_6 : decode method_2_code 6 = .ok (.iload_n 0, 1) := by decide +kernel
theorem own_d1_7 : decode method_2_code 7 = .ok (.ifCond .ge 5, 3) := by decide +kernel
theorem own_d1_10 : decode method_2_code 10 = .ok (.iconst (-1), 1) := by decide +kernel
theorem own_d1_11 : decode method_2_code 11 = .ok (.ireturn, 1) := by decide +kernel
theorem own_d1_12 : decode method_2_code 12 = .ok (.iconst 0, 1) := by decide +kernel
theorem own_d1_13 : decode method_2_code 13 = .ok (.ireturn, 1) := by decide +kernel
theorem own_pn0 : plainName "com/example/servweave/servweave/qos/AttributeQualityPinLaw" = true := by first | (simp [plainName, overriddenIn]; done) | decide +kernel
def own_Q1 (Z : State) (p1 : Int32) (h0 : Heap) (n0 : Nat) (v : Option Value) (h : Heap) (L : List Loc) : Prop := v = some (.int (own_sg p1)) ∧ Fr n0 L ∧ h = h0
set_option maxRecDepth 65536 in
set_option maxHeartbeats 40000000 in
theorem own_rm1 (l : Launch) (Z : State) (a0 : Array Value) (hw : ∀ d ∈ tables_1, d.before a0 Z = true) (ws : List Jvm.Cond) (p1 : Int32) (h0 : Heap) (n0 : Nat)  :
    own_Met l Z (⟨"com/example/servweave/servweave/qos/AttributeQualityPinLaw", "sign", "(I)I"⟩ : MethodName) method_2_code 1 (some .int) ws ({ frames := 0, cells := 0, slots := 0, locals := 0 } : Room) #[(.int p1)] h0 (own_Q1 Z p1 h0 n0) := by
  refine own_met (plainFor_of_name own_pn0) ?_
  intro p e s m below meth c s₁ X0 hx hZ hby hml hown hnm hret hlk e0
  have N0 := Fr.nil n0
  refine own_go (fun t k => castTop (own_ef1 m p1) k) ?_
  show own_Go _ _ _ _ s₁ (mkF m 0 #[.val (.int p1)] [])
  refine own_go (fun _ k => XS.iloadN X0.here hx rfl (hb hby own_d1_0) rfl k) ?_
  show own_Go _ _ _ _ s₁ (mkF m 1 #[.val (.int p1)] [(.int p1)])
  by_cases hC : (0 : Int32) < p1
  · refine own_go (fun _ k => XS.ifNo X0.here hx rfl (hb hby own_d1_1) rfl ((if0 _ _).trans (tlt hC).2.2.2) k) ?_
    show own_Go _ _ _ _ s₁ (mkF m 4 #[.val (.int p1)] [])
    refine own_go (fun _ k => XS.iconst X0.here hx rfl (hb hby own_d1_4) k) ?_
    show own_Go _ _ _ _ s₁ (mkF m 5 #[.val (.int p1)] [(.int (1 : Int32))])
    exact own_end X0 hlk (v := (some (.int (1 : Int32)))) (fun h => by rw [hret] at h; cases h) (fun fs hr => retOut X0 hx hret rfl (Or.inl ⟨rfl, Or.inl rfl, _, rfl⟩) (hb hby own_d1_5) hr) (by rw [e0]; exact ⟨by rw [own_sg, if_pos hC], N0, rfl⟩) (by decide) (by decide)
  · refine own_go (fun _ k => XS.ifYes X0.here hx rfl (pc0 := 1) (pc' := 6) rfl (hb hby own_d1_1) rfl ((if0 _ _).trans (flt hC).2.2.2) (by decide) (by decide) k) ?_
    show own_Go _ _ _ _ s₁ (mkF m 6 #[.val (.int p1)] [])
    refine own_go (fun _ k => XS.iloadN X0.here hx rfl (hb hby own_d1_6) rfl k) ?_
    show own_Go _ _ _ _ s₁ (mkF m 7 #[.val (.int p1)] [(.int p1)])
    by_cases hD : p1 < (0 : Int32)
    · refine own_go (fun _ k => XS.ifNo X0.here hx rfl (hb hby own_d1_7) rfl ((if0 _ _).trans (tlt hD).2.1) k) ?_
      show own_Go _ _ _ _ s₁ (mkF m 10 #[.val (.int p1)] [])
      refine own_go (fun _ k => XS.iconst X0.here hx rfl (hb hby own_d1_10) k) ?_
      show own_Go _ _ _ _ s₁ (mkF m 11 #[.val (.int p1)] [(.int (-1 : Int32))])
      exact own_end X0 hlk (v := (some (.int (-1 : Int32)))) (fun h => by rw [hret] at h; cases h) (fun fs hr => retOut X0 hx hret rfl (Or.inl ⟨rfl, Or.inl rfl, _, rfl⟩) (hb hby own_d1_11) hr) (by rw [e0]; exact ⟨by rw [own_sg, if_neg hC, if_pos hD], N0, rfl⟩) (by decide) (by decide)
    · refine own_go (fun _ k => XS.ifYes X0.here hx rfl (pc0 := 7) (pc' := 12) rfl (hb hby own_d1_7) rfl ((if0 _ _).trans (flt hD).2.1) (by decide) (by decide) k) ?_
      show own_Go _ _ _ _ s₁ (mkF m 12 #[.val (.int p1)] [])
      refine own_go (fun _ k => XS.iconst X0.here hx rfl (hb hby own_d1_12) k) ?_
      show own_Go _ _ _ _ s₁ (mkF m 13 #[.val (.int p1)] [(.int (0 : Int32))])
      exact own_end X0 hlk (v := (some (.int (0 : Int32)))) (fun h => by rw [hret] at h; cases h) (fun fs hr => retOut X0 hx hret rfl (Or.inl ⟨rfl, Or.inl rfl, _, rfl⟩) (hb hby own_d1_13) hr) (by rw [e0]; exact ⟨by rw [own_sg, if_neg hC, if_neg hD], N0, rfl⟩) (by decide) (by decide)
theorem own_ef3 (m : MethodId) (a1 : Addr) : entryFrame m #[(.ref a1)] 1 = mkF m 0 #[.val (.ref a1)] [] := by first | (simp [entryFrame, mkF, argsToLocals, Value.category]; done) | rfl
theorem own_d3_0 : decode prog_36_method_6_code 0 = .ok (.aload_n 0, 1) := by decide +kernel
theorem own_d3_1 : decode prog_36_method_6_code 1 = .ok (.getstatic 3, 3) := by decide +kernel
theorem own_d3_4 : decode prog_36_method_6_code 4 = .ok (.if_acmp .eq 14, 3) := by decide +kernel
theorem own_d3_18 : decode prog_36_method_6_code 18 = .ok (.iconst 0, 1) := by decide +kernel
theorem own_d3_19 : decode prog_36_method_6_code 19 = .ok (.ireturn, 1) := by decide +kernel
theorem own_d3_7 : decode prog_36_method_6_code 7 = .ok (.aload_n 0, 1) := by decide +kernel
theorem own_d3_8 : decode prog_36_method_6_code 8 = .ok (.getstatic 7, 3) := by decide +kernel
theorem own_d3_11 : decode prog_36_method_6_code 11 = .ok (.if_acmp .eq 7, 3) := by decide +kernel
theorem own_d3_14 : decode prog_36_method_6_code 14 = .ok (.iconst 1, 1) := by decide +kernel
theorem own_d3_15 : decode prog_36_method_6_code 15 = .ok (.goto 4, 3) := by decide +kernel
theorem own_pn1 : plainName "com/example/servweave/servweave/qos/Attribute" = true := by first | (simp [plainName, overriddenIn]; done) | decide +kernel
def own_Q3 (Z : State) (r : Int32) (h0 : Heap) (n0 : Nat) (v : Option Value) (h : Heap) (L : List Loc) : Prop := v = some (.int r) ∧ Fr n0 L ∧ h = h0
set_option maxRecDepth 65536 in
set_option maxHeartbeats 40000000 in
theorem own_rm3 (l : Launch) (Z : State) (a0 : Array Value) (hw : ∀ d ∈ tables_1, d.before a0 Z = true) (ws : List Jvm.Cond) (a1 : Addr) (h0 : Heap) (n0 : Nat) (t0 t1 : Addr) (r : Int32) (O : Old Z n0 h0) (S0 : (Sta Z Z.heap "com/example/servweave/servweave/qos/Attribute" "TIME" "Lcom/example/servweave/servweave/qos/Attribute;" (.ref t0))) (S1 : (Sta Z Z.heap "com/example/servweave/servweave/qos/Attribute" "COST" "Lcom/example/servweave/servweave/qos/Attribute;" (.ref t1))) (hr : (if a1 = t0 then (0 : Int32) else if a1 = t1 then 0 else 1) = r) :
    own_Met l Z (⟨"com/example/servweave/servweave/qos/Attribute", "higherIsBetter", "()Z"⟩ : MethodName) prog_36_method_6_code 1 (some .boolean) ws ({ frames := 0, cells := 0, slots := 0, locals := 0 } : Room) #[(.ref a1)] h0 (own_Q3 Z r h0 n0) := by
  refine own_met (plainFor_of_name own_pn1) ?_
  intro p e s m below meth c s₁ X0 hx hZ hby hml hown hnm hret hlk e0
  have N0 := Fr.nil n0
  refine own_go (fun t k => castTop (own_ef3 m a1) k) ?_
  show own_Go _ _ _ _ s₁ (mkF m 0 #[.val (.ref a1)] [])
  refine own_go (fun _ k => XS.aloadN X0.here hx rfl (hb hby own_d3_0) rfl rfl k) ?_
  show own_Go _ _ _ _ s₁ (mkF m 1 #[.val (.ref a1)] [(.ref a1)])
  obtain ⟨Tz1, Xz1, ez1, stz1⟩ := getS2 X0 hx hZ hown (host := "") (Or.inl (hw _ (List.mem_of_getElem? (i := 32) rfl))) Via.refl e0 (S0.ext O.2) (g := (mkF m 1 #[.val (.ref a1)] [(.ref a1)])) rfl (hb hby own_d3_1)
  refine own_go stz1 ?_
  show own_Go _ _ _ _ Tz1 (mkF m 4 #[.val (.ref a1)] [(.ref t0), (.ref a1)])
  by_cases hC : a1 = t0
  · refine own_go (fun _ k => Jvm.RoadKit.acmp (g := (mkF m 4 #[.val (.ref a1)] [(.ref t0), (.ref a1)])) Xz1 hx rfl rfl rfl (pc0 := 4) (pc' := 18) (same := true) rfl (hb hby own_d3_4) rfl (decide_eq_true (congrArg Value.ref hC)) (by decide) (by decide) k) ?_
    show own_Go _ _ _ _ Tz1 (mkF m 18 #[.val (.ref a1)] [])
    refine own_go (fun _ k => XS.iconst Xz1.here hx rfl (hb hby own_d3_18) k) ?_
    show own_Go _ _ _ _ Tz1 (mkF m 19 #[.val (.ref a1)] [(.int (0 : Int32))])
    exact own_end Xz1 hlk (v := (some (.int (0 : Int32)))) (fun h => by rw [hret] at h; cases h) (fun fs hr => retN Xz1 hx (t := .boolean) hret (by simp) (hb hby own_d3_19) hr) (by rw [ez1]; exact ⟨by rw [← hr, if_pos hC], N0, rfl⟩) (by decide) (by decide)
  · refine own_go (fun _ k => Jvm.RoadKit.acmp (g := (mkF m 4 #[.val (.ref a1)] [(.ref t0), (.ref a1)])) Xz1 hx rfl rfl rfl (pc0 := 4) (pc' := 7) (same := false) rfl (hb hby own_d3_4) rfl (decide_eq_false fun q => hC (Value.ref.inj q)) (by decide) (by decide) k) ?_
    show own_Go _ _ _ _ Tz1 (mkF m 7 #[.val (.ref a1)] [])
    refine own_go (fun _ k => XS.aloadN Xz1.here hx rfl (hb hby own_d3_7) rfl rfl k) ?_
    show own_Go _ _ _ _ Tz1 (mkF m 8 #[.val (.ref a1)] [(.ref a1)])
    obtain ⟨Tz2, Xz2, ez2, stz2⟩ := getS2 Xz1 hx hZ hown (host := "") (Or.inl (hw _ (List.mem_of_getElem? (i := 33) rfl))) Via.refl ez1 (S1.ext O.2) (g := (mkF m 8 #[.val (.ref a1)] [(.ref a1)])) rfl (hb hby own_d3_8)
    refine own_go stz2 ?_
    show own_Go _ _ _ _ Tz2 (mkF m 11 #[.val (.ref a1)] [(.ref t1), (.ref a1)])
    by_cases hD : a1 = t1
    · refine own_go (fun _ k => Jvm.RoadKit.acmp (g := (mkF m 11 #[.val (.ref a1)] [(.ref t1), (.ref a1)])) Xz2 hx rfl rfl rfl (pc0 := 11) (pc' := 18) (same := true) rfl (hb hby own_d3_11) rfl (decide_eq_true (congrArg Value.ref hD)) (by decide) (by decide) k) ?_
      show own_Go _ _ _ _ Tz2 (mkF m 18 #[.val (.ref a1)] [])
      refine own_go (fun _ k => XS.iconst Xz2.here hx rfl (hb hby own_d3_18) k) ?_
      show own_Go _ _ _ _ Tz2 (mkF m 19 #[.val (.ref a1)] [(.int (0 : Int32))])
      exact own_end Xz2 hlk (v := (some (.int (0 : Int32)))) (fun h => by rw [hret] at h; cases h) (fun fs hr => retN Xz2 hx (t := .boolean) hret (by simp) (hb hby own_d3_19) hr) (by rw [ez2]; exact ⟨by rw [← hr, if_neg hC, if_pos hD], N0, rfl⟩) (by decide) (by decide)
    · refine own_go (fun _ k => Jvm.RoadKit.acmp (g := (mkF m 11 #[.val (.ref a1)] [(.ref t1), (.ref a1)])) Xz2 hx rfl rfl rfl (pc0 := 11) (pc' := 14) (same := false) rfl (hb hby own_d3_11) rfl (decide_eq_false fun q => hD (Value.ref.inj q)) (by decide) (by decide) k) ?_
      show own_Go _ _ _ _ Tz2 (mkF m 14 #[.val (.ref a1)] [])
      refine own_go (fun _ k => XS.iconst Xz2.here hx rfl (hb hby own_d3_14) k) ?_
      show own_Go _ _ _ _ Tz2 (mkF m 15 #[.val (.ref a1)] [(.int (1 : Int32))])
      refine own_go (fun _ k => XS.goto Xz2.here hx rfl (pc0 := 15) (pc' := 19) rfl (hb hby own_d3_15) (by decide) (by decide) k) ?_
      show own_Go _ _ _ _ Tz2 (mkF m 19 #[.val (.ref a1)] [(.int (1 : Int32))])
      exact own_end Xz2 hlk (v := (some (.int (1 : Int32)))) (fun h => by rw [hret] at h; cases h) (fun fs hr => retN Xz2 hx (t := .boolean) hret (by simp) (hb hby own_d3_19) hr) (by rw [ez2]; exact ⟨by rw [← hr, if_neg hC, if_neg hD], N0, rfl⟩) (by decide) (by decide)
theorem own_ef2 (m : MethodId) (a1 : Addr) (p2 : Int32) : entryFrame m #[(.ref a1), (.int p2)] 2 = mkF m 0 #[.val (.ref a1), .val (.int p2)] [] := by first | (simp [entryFrame, mkF, argsToLocals, Value.category]; done) | rfl
theorem own_d2_0 : decode prog_36_method_8_code 0 = .ok (.aload_n 0, 1) := by decide +kernel
theorem own_d2_1 : decode prog_36_method_8_code 1 = .ok (.invokevirtual 101, 3) := by decide +kernel
theorem own_pd0 : parseMethodDescriptor "()Z" = some ⟨[], some .boolean⟩ := by decide +kernel
theorem own_d2_4 : decode prog_36_method_8_code 4 = .ok (.ifCond .eq 7, 3) := by decide +kernel
theorem own_d2_11 : decode prog_36_method_8_code 11 = .ok (.iload_n 1, 1) := by decide +kernel
theorem own_d2_12 : decode prog_36_method_8_code 12 = .ok (.ineg, 1) := by decide +kernel
theorem own_d2_13 : decode prog_36_method_8_code 13 = .ok (.ireturn, 1) := by decide +kernel
theorem own_d2_7 : decode prog_36_method_8_code 7 = .ok (.iload_n 1, 1) := by decide +kernel
theorem own_d2_8 : decode prog_36_method_8_code 8 = .ok (.goto 5, 3) := by decide +kernel
def own_Q2 (Z : State) (p2 : Int32) (r : Int32) (h0 : Heap) (n0 : Nat) (v : Option Value) (h : Heap) (L : List Loc) : Prop := v = some (.int (if r = (0 : Int32) then -p2 else p2)) ∧ Fr n0 L ∧ h = h0
set_option maxRecDepth 65536 in
set_option maxHeartbeats 40000000 in
theorem own_rm2 (l : Launch) (Z : State) (a0 : Array Value) (hw : ∀ d ∈ tables_1, d.before a0 Z = true) (ws : List Jvm.Cond) (a1 : Addr) (p2 : Int32) (h0 : Heap) (n0 : Nat) (t0 t1 : Addr) (r : Int32) (O : Old Z n0 h0) (S0 : (Sta Z Z.heap "com/example/servweave/servweave/qos/Attribute" "TIME" "Lcom/example/servweave/servweave/qos/Attribute;" (.ref t0))) (S1 : (Sta Z Z.heap "com/example/servweave/servweave/qos/Attribute" "COST" "Lcom/example/servweave/servweave/qos/Attribute;" (.ref t1))) (hr : (if a1 = t0 then (0 : Int32) else if a1 = t1 then 0 else 1) = r) (E_a1 : Exa Z h0 a1 "com/example/servweave/servweave/qos/Attribute") :
    own_Met l Z (⟨"com/example/servweave/servweave/qos/Attribute", "quality", "(I)I"⟩ : MethodName) prog_36_method_8_code 2 (some .int) ws ({ frames := 1, cells := 0, slots := 0, locals := 20 } : Room) #[(.ref a1), (.int p2)] h0 (own_Q2 Z p2 r h0 n0) := by
  refine own_met (plainFor_of_name own_pn1) ?_
  intro p e s m below meth c s₁ X0 hx hZ hby hml hown hnm hret hlk e0
  have N0 := Fr.nil n0
  refine own_go (fun t k => castTop (own_ef2 m a1 p2) k) ?_
  show own_Go _ _ _ _ s₁ (mkF m 0 #[.val (.ref a1), .val (.int p2)] [])
  refine own_go (fun _ k => XS.aloadN X0.here hx rfl (hb hby own_d2_0) rfl rfl k) ?_
  show own_Go _ _ _ _ s₁ (mkF m 1 #[.val (.ref a1), .val (.int p2)] [(.ref a1)])
  obtain ⟨vz3, Tz3, Lz3, Xz3, hQz3, stz3⟩ := own_callV X0 hx hZ hown (hw _ (List.mem_of_getElem? (i := 27) rfl)) (hw _ (List.mem_of_getElem? (i := 28) rfl)) (hw _ (List.mem_of_getElem? (i := 30) rfl)) (hw _ (List.mem_of_getElem? (i := 29) rfl)) (hw _ (List.mem_of_getElem? (i := 4) rfl)) (hw _ (List.mem_of_getElem? (i := 31) rfl)) (by decide) e0 E_a1 (own_rm3 l Z a0 hw [] a1 h0 n0 t0 t1 r O S0 S1 hr) (W := 0) (by decide) (by decide) (by decide) (by decide) own_pd0 rfl (g := (mkF m 1 #[.val (.ref a1), .val (.int p2)] [(.ref a1)])) (argsL := []) (rest := []) rfl (by rw [hml]; rfl) rfl (by show 2 * 0 + _ ≤ _; exact Nat.le_of_eq rfl) (hb hby own_d2_1)
  obtain ⟨rfl, Nz3q, ehz3⟩ := hQz3
  have Nz3 := Fr.app N0 Nz3q
  refine own_go stz3 ?_
  show own_Go _ _ _ _ Tz3 (mkF m 4 #[.val (.ref a1), .val (.int p2)] [(.int r)])
  by_cases hC : r = (0 : Int32)
  · refine own_go (fun _ k => XS.ifYes Xz3.here hx rfl (pc0 := 4) (pc' := 11) rfl (hb hby own_d2_4) rfl ((if0 _ _).trans (teq hC).1) (by decide) (by decide) k) ?_
    show own_Go _ _ _ _ Tz3 (mkF m 11 #[.val (.ref a1), .val (.int p2)] [])
    refine own_go (fun _ k => XS.iloadN Xz3.here hx rfl (hb hby own_d2_11) rfl k) ?_
    show own_Go _ _ _ _ Tz3 (mkF m 12 #[.val (.ref a1), .val (.int p2)] [(.int p2)])
    refine own_go (fun _ k => XS.ineg Xz3.here hx rfl (hb hby own_d2_12) rfl k) ?_
    show own_Go _ _ _ _ Tz3 (mkF m 13 #[.val (.ref a1), .val (.int p2)] [(.int (-p2))])
    exact own_end Xz3 hlk (v := (some (.int (-p2)))) (fun h => by rw [hret] at h; cases h) (fun fs hr => retOut Xz3 hx hret rfl (Or.inl ⟨rfl, Or.inl rfl, _, rfl⟩) (hb hby own_d2_13) hr) (by rw [ehz3]; exact ⟨by rw [if_pos hC], Nz3, rfl⟩) (by decide) (by decide)
  · refine own_go (fun _ k => XS.ifNo Xz3.here hx rfl (hb hby own_d2_4) rfl ((if0 _ _).trans (feq hC).1) k) ?_
    show own_Go _ _ _ _ Tz3 (mkF m 7 #[.val (.ref a1), .val (.int p2)] [])
    refine own_go (fun _ k => XS.iloadN Xz3.here hx rfl (hb hby own_d2_7) rfl k) ?_
    show own_Go _ _ _ _ Tz3 (mkF m 8 #[.val (.ref a1), .val (.int p2)] [(.int p2)])
    refine own_go (fun _ k => XS.goto Xz3.here hx rfl (pc0 := 8) (pc' := 13) rfl (hb hby own_d2_8) (by decide) (by decide) k) ?_
    show own_Go _ _ _ _ Tz3 (mkF m 13 #[.val (.ref a1), .val (.int p2)] [(.int p2)])
    exact own_end Xz3 hlk (v := (some (.int p2))) (fun h => by rw [hret] at h; cases h) (fun fs hr => retOut Xz3 hx hret rfl (Or.inl ⟨rfl, Or.inl rfl, _, rfl⟩) (hb hby own_d2_13) hr) (by rw [ehz3]; exact ⟨by rw [if_neg hC], Nz3, rfl⟩) (by decide) (by decide)
theorem own_six (k : Int32) : (k &&& (2147483647 : Int32)) % (6 : Int32) = 0 ∨ (k &&& (2147483647 : Int32)) % (6 : Int32) = 1 ∨ (k &&& (2147483647 : Int32)) % (6 : Int32) = 2 ∨ (k &&& (2147483647 : Int32)) % (6 : Int32) = 3 ∨ (k &&& (2147483647 : Int32)) % (6 : Int32) = 4 ∨ (k &&& (2147483647 : Int32)) % (6 : Int32) = 5 := by
  have h1 := c_and k (2147483647 : Int32) (by decide)
  have h2 := (c_irem (k &&& (2147483647 : Int32)) (6 : Int32) 6 rfl).1 h1.1
  simp only [← Int32.toInt_inj]
  have k0 : (0 : Int32).toInt = 0 := rfl
  have k1 : (1 : Int32).toInt = 1 := rfl
  have k2 : (2 : Int32).toInt = 2 := rfl
  have k3 : (3 : Int32).toInt = 3 := rfl
  have k4 : (4 : Int32).toInt = 4 := rfl
  have k5 : (5 : Int32).toInt = 5 := rfl
  rw [h2, k0, k1, k2, k3, k4, k5]
  omega
theorem own_sgneg (o : Int32) (ho : o ≠ (-2147483648 : Int32)) : own_sg (-o) = -(own_sg o) := by
  have h1 := c_ineg o
  have r1 := rng32 o
  have r2 := rng32 (-o)
  have h3 : o.toInt ≠ -2147483648 := fun q => ho (Int32.toInt_inj.mp q)
  have h0 : (0 : Int32).toInt = 0 := rfl
  simp only [own_sg, Int32.lt_iff_toInt_lt, h0]
  by_cases p : 0 < o.toInt
  · rw [if_neg (by omega), if_pos (by omega), if_pos p]
  · by_cases q : o.toInt < 0
    · rw [if_pos (by omega), if_neg p, if_pos q]; decide
    · rw [if_neg (by omega), if_neg (by omega), if_neg p, if_neg q]; decide
theorem own_ok (p : Int32) : (if p = (-2147483648 : Int32) then (-1 : Int32) else p) ≠ (-2147483648 : Int32) := by
  by_cases h : p = (-2147483648 : Int32)
  · rw [if_pos h]; decide
  · rw [if_neg h]; exact h
theorem own_ef0 (m : MethodId) (p1 : Int32) (p2 : Int32) : entryFrame m #[(.int p1), (.int p2)] maxLocals = mkF m 0 #[.val (.int p1), .val (.int p2), .unset, .unset, .unset, .unset, .unset, .unset] [] := by first | (simp [entryFrame, mkF, argsToLocals, Value.category, maxLocals]; done) | rfl
theorem own_pd1 : parseMethodDescriptor "(I)I" = some ⟨[.int], some .int⟩ := by decide +kernel
def own_Q0 (Z : State) (p1 : Int32) (p2 : Int32) (h0 : Heap) (n0 : Nat) (v : Option Value) (h : Heap) (L : List Loc) : Prop := v = some (.int 1) ∧ Fr n0 L
set_option maxRecDepth 65536 in
set_option maxHeartbeats 40000000 in
theorem own_rm0 (l : Launch) (Z : State) (a0 : Array Value) (hw : ∀ d ∈ tables_1, d.before a0 Z = true) (ws : List Jvm.Cond) (p1 : Int32) (p2 : Int32) (h0 : Heap) (n0 : Nat) (t0 t1 t2 t3 t4 t5 : Addr) (O : Old Z n0 h0) (S0 : (Sta Z Z.heap "com/example/servweave/servweave/qos/Attribute" "TIME" "Lcom/example/servweave/servweave/qos/Attribute;" (.ref t0))) (E0 : Exa Z Z.heap t0 "com/example/servweave/servweave/qos/Attribute") (S1 : (Sta Z Z.heap "com/example/servweave/servweave/qos/Attribute" "COST" "Lcom/example/servweave/servweave/qos/Attribute;" (.ref t1))) (E1 : Exa Z Z.heap t1 "com/example/servweave/servweave/qos/Attribute") (S2 : (Sta Z Z.heap "com/example/servweave/servweave/qos/Attribute" "AVAILABILITY" "Lcom/example/servweave/servweave/qos/Attribute;" (.ref t2))) (E2 : Exa Z Z.heap t2 "com/example/servweave/servweave/qos/Attribute") (S3 : (Sta Z Z.heap "com/example/servweave/servweave/qos/Attribute" "RELIABILITY" "Lcom/example/servweave/servweave/qos/Attribute;" (.ref t3))) (E3 : Exa Z Z.heap t3 "com/example/servweave/servweave/qos/Attribute") (S4 : (Sta Z Z.heap "com/example/servweave/servweave/qos/Attribute" "THROUGHPUT" "Lcom/example/servweave/servweave/qos/Attribute;" (.ref t4))) (E4 : Exa Z Z.heap t4 "com/example/servweave/servweave/qos/Attribute") (S5 : (Sta Z Z.heap "com/example/servweave/servweave/qos/Attribute" "REPUTATION" "Lcom/example/servweave/servweave/qos/Attribute;" (.ref t5))) (E5 : Exa Z Z.heap t5 "com/example/servweave/servweave/qos/Attribute") (n01 : t0 ≠ t1) (n02 : t0 ≠ t2) (n12 : t1 ≠ t2) (n03 : t0 ≠ t3) (n13 : t1 ≠ t3) (n04 : t0 ≠ t4) (n14 : t1 ≠ t4) (n05 : t0 ≠ t5) (n15 : t1 ≠ t5) :
    own_Met l Z x code maxLocals ret ws room_1 #[(.int p1), (.int p2)] h0 (own_Q0 Z p1 p2 h0 n0) := by
  refine own_met (plainFor_of_name own_pn0) ?_
  intro p e s m below meth c s₁ X0 hx hZ hby hml hown hnm hret hlk e0
  have N0 := Fr.nil n0
  refine own_go (fun t k => castTop (own_ef0 m p1 p2) k) ?_
  show own_Go _ _ _ _ s₁ (mkF m 0 #[.val (.int p1), .val (.int p2), .unset, .unset, .unset, .unset, .unset, .unset] [])
  refine own_go (fun _ k => XS.iloadN X0.here hx rfl (hb hby at_0) rfl k) ?_
  show own_Go _ _ _ _ s₁ (mkF m 1 #[.val (.int p1), .val (.int p2), .unset, .unset, .unset, .unset, .unset, .unset] [(.int p1)])
  refine own_go (fun _ k => X0.ldcInt hx hown (mvT hZ (hw _ (List.mem_of_getElem? (i := 0) rfl))) (g := (mkF m 1 #[.val (.int p1), .val (.int p2), .unset, .unset, .unset, .unset, .unset, .unset] [(.int p1)])) rfl (hb hby at_1) _ k) ?_
  show own_Go _ _ _ _ s₁ (mkF m 3 #[.val (.int p1), .val (.int p2), .unset, .unset, .unset, .unset, .unset, .unset] [(.int (2147483647 : Int32)), (.int p1)])
  refine own_go (fun _ k => XS.iand X0.here hx rfl (hb hby at_3) rfl k) ?_
  show own_Go _ _ _ _ s₁ (mkF m 4 #[.val (.int p1), .val (.int p2), .unset, .unset, .unset, .unset, .unset, .unset] [(.int (p1 &&& (2147483647 : Int32)))])
  refine own_go (fun _ k => XS.bipush X0.here hx rfl (hb hby at_4) k) ?_
  show own_Go _ _ _ _ s₁ (mkF m 6 #[.val (.int p1), .val (.int p2), .unset, .unset, .unset, .unset, .unset, .unset] [(.int (6 : Int32)), (.int (p1 &&& (2147483647 : Int32)))])
  refine own_go (fun _ k => iremM X0 hx rfl (hb hby at_6) rfl (by decide) k) ?_
  show own_Go _ _ _ _ s₁ (mkF m 7 #[.val (.int p1), .val (.int p2), .unset, .unset, .unset, .unset, .unset, .unset] [(.int ((p1 &&& (2147483647 : Int32)) % (6 : Int32)))])
  obtain ⟨iv, hiv⟩ : ∃ z, z = ((p1 &&& (2147483647 : Int32)) % (6 : Int32)) := ⟨_, rfl⟩
  rw [← hiv]
  show own_Go _ _ _ _ s₁ (mkF m 7 #[.val (.int p1), .val (.int p2), .unset, .unset, .unset, .unset, .unset, .unset] [(.int iv)])
  refine own_go (fun _ k => XS.istoreN X0.here hx rfl (hb hby at_7) rfl (l' := #[.val (.int p1), .val (.int p2), .val (.int iv), .unset, .unset, .unset, .unset, .unset]) rfl k) ?_
  show own_Go _ _ _ _ s₁ (mkF m 8 #[.val (.int p1), .val (.int p2), .val (.int iv), .unset, .unset, .unset, .unset, .unset] [])
  refine own_go (fun _ k => XS.bipush X0.here hx rfl (hb hby at_8) k) ?_
  show own_Go _ _ _ _ s₁ (mkF m 10 #[.val (.int p1), .val (.int p2), .val (.int iv), .unset, .unset, .unset, .unset, .unset] [(.int (6 : Int32))])
  obtain ⟨Tz4, hz4, kz4, Xz4, ez4, Ez4, Az4, Oz4, stz4⟩ := newR X0 hx hZ hown (hw _ (List.mem_of_getElem? (i := 1) rfl)) (hw _ (List.mem_of_getElem? (i := 2) rfl)) e0 (g := (mkF m 10 #[.val (.int p1), .val (.int p2), .val (.int iv), .unset, .unset, .unset, .unset, .unset] [(.int (6 : Int32))])) rfl (hb hby at_10) rfl (by decide) (cap := 6) (by decide) (by decide) (by decide) (by decide)
  obtain ⟨b, gz4⟩ : ∃ z, z = h0.size := ⟨_, rfl⟩
  rw [← gz4] at Az4 stz4
  have g_b : n0 ≤ b := by rw [gz4, ← O.1]; exact O.2.1
  have O := O.ext Ez4
  refine own_go stz4 ?_
  have V_b : Arv Z hz4 b kz4 (.object "com/example/servweave/servweave/qos/Attribute") (6 : Int32) [.null, .null, .null, .null, .null, .null] .null := (Arv.new Az4 (by decide)).pad (pad_rep [] .null 6)
  show own_Go _ _ _ _ Tz4 (mkF m 13 #[.val (.int p1), .val (.int p2), .val (.int iv), .unset, .unset, .unset, .unset, .unset] [(.ref b)])
  refine own_go (fun _ k => XS.dup Xz4.here hx rfl (hb hby at_13) rfl rfl k) ?_
  show own_Go _ _ _ _ Tz4 (mkF m 14 #[.val (.int p1), .val (.int p2), .val (.int iv), .unset, .unset, .unset, .unset, .unset] [(.ref b), (.ref b)])
  refine own_go (fun _ k => XS.iconst Xz4.here hx rfl (hb hby at_14) k) ?_
  show own_Go _ _ _ _ Tz4 (mkF m 15 #[.val (.int p1), .val (.int p2), .val (.int iv), .unset, .unset, .unset, .unset, .unset] [(.int (0 : Int32)), (.ref b), (.ref b)])
  obtain ⟨Tz5, Xz5, ez5, stz5⟩ := getS2 Xz4 hx hZ hown (host := "") (Or.inl (hw _ (List.mem_of_getElem? (i := 3) rfl))) Via.refl ez4 (S0.ext O.2) (g := (mkF m 15 #[.val (.int p1), .val (.int p2), .val (.int iv), .unset, .unset, .unset, .unset, .unset] [(.int (0 : Int32)), (.ref b), (.ref b)])) rfl (hb hby at_15)
  refine own_go stz5 ?_
  show own_Go _ _ _ _ Tz5 (mkF m 18 #[.val (.int p1), .val (.int p2), .val (.int iv), .unset, .unset, .unset, .unset, .unset] [(.ref t0), (.int (0 : Int32)), (.ref b), (.ref b)])
  obtain ⟨cz0, Az0, qz0, -⟩ := id V_b
  have Sto0 := Sto.ofV Az0 qz0 Oz4 (Ins.self (E0.ext O.2))
  obtain ⟨clz6, Arz6, qz6, Sz6, Mz6, HHz6, Gz6⟩ := V_b
  have hinz6 : ¬ ((0 : Int32) < 0 ∨ clz6.slots.size ≤ ((0 : Int32)).toNatClampNeg) := inb_of Sz6 ⟨(by decide), (by decide)⟩
  obtain ⟨Tz6, hz6, Xz6, ez6, Wz6, stz6⟩ := stR Xz5 hx hZ ez5 Arz6 (j := (0 : Int32)) hinz6 rfl Sto0 (g := (mkF m 18 #[.val (.int p1), .val (.int p2), .val (.int iv), .unset, .unset, .unset, .unset, .unset] [(.ref t0), (.int (0 : Int32)), (.ref b), (.ref b)])) rfl rfl (hb hby at_18)
  refine own_go stz6 ?_
  have V_b_ : Arv Z hz6 b kz4 (.object "com/example/servweave/servweave/qos/Attribute") (6 : Int32) [(.ref t0), .null, .null, .null, .null, .null] .null := Arv.set Arz6 qz6 Sz6 Mz6 HHz6 Gz6 rfl Wz6 0 rfl (Nat.le_of_ble_eq_true rfl)
  have Nz6 := Fr.snoc Xz6 N0 g_b
  have O := O.wr Wz6 g_b
  have V_b := V_b_
  show own_Go _ _ _ _ Tz6 (mkF m 19 #[.val (.int p1), .val (.int p2), .val (.int iv), .unset, .unset, .unset, .unset, .unset] [(.ref b)])
  refine own_go (fun _ k => XS.dup Xz6.here hx rfl (hb hby at_19) rfl rfl k) ?_
  show own_Go _ _ _ _ Tz6 (mkF m 20 #[.val (.int p1), .val (.int p2), .val (.int iv), .unset, .unset, .unset, .unset, .unset] [(.ref b), (.ref b)])
  refine own_go (fun _ k => XS.iconst Xz6.here hx rfl (hb hby at_20) k) ?_
  show own_Go _ _ _ _ Tz6 (mkF m 21 #[.val (.int p1), .val (.int p2), .val (.int iv), .unset, .unset, .unset, .unset, .unset] [(.int (1 : Int32)), (.ref b), (.ref b)])
  obtain ⟨Tz7, Xz7, ez7, stz7⟩ := getS2 Xz6 hx hZ hown (host := "") (Or.inl (hw _ (List.mem_of_getElem? (i := 7) rfl))) Via.refl ez6 (S1.ext O.2) (g := (mkF m 21 #[.val (.int p1), .val (.int p2), .val (.int iv), .unset, .unset, .unset, .unset, .unset] [(.int (1 : Int32)), (.ref b), (.ref b)])) rfl (hb hby at_21)
  refine own_go stz7 ?_
  show own_Go _ _ _ _ Tz7 (mkF m 24 #[.val (.int p1), .val (.int p2), .val (.int iv), .unset, .unset, .unset, .unset, .unset] [(.ref t1), (.int (1 : Int32)), (.ref b), (.ref b)])
  obtain ⟨cz1, Az1, qz1, -⟩ := id V_b
  have Sto1 := Sto.ofV Az1 qz1 Oz4 (Ins.self (E1.ext O.2))
  obtain ⟨clz8, Arz8, qz8, Sz8, Mz8, HHz8, Gz8⟩ := V_b
  have hinz8 : ¬ ((1 : Int32) < 0 ∨ clz8.slots.size ≤ ((1 : Int32)).toNatClampNeg) := inb_of Sz8 ⟨(by decide), (by decide)⟩
  obtain ⟨Tz8, hz8, Xz8, ez8, Wz8, stz8⟩ := stR Xz7 hx hZ ez7 Arz8 (j := (1 : Int32)) hinz8 rfl Sto1 (g := (mkF m 24 #[.val (.int p1), .val (.int p2), .val (.int iv), .unset, .unset, .unset, .unset, .unset] [(.ref t1), (.int (1 : Int32)), (.ref b), (.ref b)])) rfl rfl (hb hby at_24)
  refine own_go stz8 ?_
  have V_b_ : Arv Z hz8 b kz4 (.object "com/example/servweave/servweave/qos/Attribute") (6 : Int32) [(.ref t0), (.ref t1), .null, .null, .null, .null] .null := Arv.set Arz8 qz8 Sz8 Mz8 HHz8 Gz8 rfl Wz8 1 rfl (Nat.le_of_ble_eq_true rfl)
  have Nz8 := Fr.snoc Xz8 Nz6 g_b
  have O := O.wr Wz8 g_b
  have V_b := V_b_
  show own_Go _ _ _ _ Tz8 (mkF m 25 #[.val (.int p1), .val (.int p2), .val (.int iv), .unset, .unset, .unset, .unset, .unset] [(.ref b)])
  refine own_go (fun _ k => XS.dup Xz8.here hx rfl (hb hby at_25) rfl rfl k) ?_
  show own_Go _ _ _ _ Tz8 (mkF m 26 #[.val (.int p1), .val (.int p2), .val (.int iv), .unset, .unset, .unset, .unset, .unset] [(.ref b), (.ref b)])
  refine own_go (fun _ k => XS.iconst Xz8.here hx rfl (hb hby at_26) k) ?_
  show own_Go _ _ _ _ Tz8 (mkF m 27 #[.val (.int p1), .val (.int p2), .val (.int iv), .unset, .unset, .unset, .unset, .unset] [(.int (2 : Int32)), (.ref b), (.ref b)])
  obtain ⟨Tz9, Xz9, ez9, stz9⟩ := getS2 Xz8 hx hZ hown (host := "") (Or.inl (hw _ (List.mem_of_getElem? (i := 9) rfl))) Via.refl ez8 (S2.ext O.2) (g := (mkF m 27 #[.val (.int p1), .val (.int p2), .val (.int iv), .unset, .unset, .unset, .unset, .unset] [(.int (2 : Int32)), (.ref b), (.ref b)])) rfl (hb hby at_27)
  refine own_go stz9 ?_
  show own_Go _ _ _ _ Tz9 (mkF m 30 #[.val (.int p1), .val (.int p2), .val (.int iv), .unset, .unset, .unset, .unset, .unset] [(.ref t2), (.int (2 : Int32)), (.ref b), (.ref b)])
  obtain ⟨cz2, Az2, qz2, -⟩ := id V_b
  have Sto2 := Sto.ofV Az2 qz2 Oz4 (Ins.self (E2.ext O.2))
  obtain ⟨clz10, Arz10, qz10, Sz10, Mz10, HHz10, Gz10⟩ := V_b
  have hinz10 : ¬ ((2 : Int32) < 0 ∨ clz10.slots.size ≤ ((2 : Int32)).toNatClampNeg) := inb_of Sz10 ⟨(by decide), (by decide)⟩
  obtain ⟨Tz10, hz10, Xz10, ez10, Wz10, stz10⟩ := stR Xz9 hx hZ ez9 Arz10 (j := (2 : Int32)) hinz10 rfl Sto2 (g := (mkF m 30 #[.val (.int p1), .val (.int p2), .val (.int iv), .unset, .unset, .unset, .unset, .unset] [(.ref t2), (.int (2 : Int32)), (.ref b), (.ref b)])) rfl rfl (hb hby at_30)
  refine own_go stz10 ?_
  have V_b_ : Arv Z hz10 b kz4 (.object "com/example/servweave/servweave/qos/Attribute") (6 : Int32) [(.ref t0), (.ref t1), (.ref t2), .null, .null, .null] .null := Arv.set Arz10 qz10 Sz10 Mz10 HHz10 Gz10 rfl Wz10 2 rfl (Nat.le_of_ble_eq_true rfl)
  have Nz10 := Fr.snoc Xz10 Nz8 g_b
  have O := O.wr Wz10 g_b
  have V_b := V_b_
  show own_Go _ _ _ _ Tz10 (mkF m 31 #[.val (.int p1), .val (.int p2), .val (.int iv), .unset, .unset, .unset, .unset, .unset] [(.ref b)])
  refine own_go (fun _ k => XS.dup Xz10.here hx rfl (hb hby at_31) rfl rfl k) ?_
  show own_Go _ _ _ _ Tz10 (mkF m 32 #[.val (.int p1), .val (.int p2), .val (.int iv), .unset, .unset, .unset, .unset, .unset] [(.ref b), (.ref b)])
  refine own_go (fun _ k => XS.iconst Xz10.here hx rfl (hb hby at_32) k) ?_
  show own_Go _ _ _ _ Tz10 (mkF m 33 #[.val (.int p1), .val (.int p2), .val (.int iv), .unset, .unset, .unset, .unset, .unset] [(.int (3 : Int32)), (.ref b), (.ref b)])
  obtain ⟨Tz11, Xz11, ez11, stz11⟩ := getS2 Xz10 hx hZ hown (host := "") (Or.inl (hw _ (List.mem_of_getElem? (i := 11) rfl))) Via.refl ez10 (S3.ext O.2) (g := (mkF m 33 #[.val (.int p1), .val (.int p2), .val (.int iv), .unset, .unset, .unset, .unset, .unset] [(.int (3 : Int32)), (.ref b), (.ref b)])) rfl (hb hby at_33)
  refine own_go stz11 ?_
  show own_Go _ _ _ _ Tz11 (mkF m 36 #[.val (.int p1), .val (.int p2), .val (.int iv), .unset, .unset, .unset, .unset, .unset] [(.ref t3), (.int (3 : Int32)), (.ref b), (.ref b)])
  obtain ⟨cz3, Az3, qz3, -⟩ := id V_b
  have Sto3 := Sto.ofV Az3 qz3 Oz4 (Ins.self (E3.ext O.2))
  obtain ⟨clz12, Arz12, qz12, Sz12, Mz12, HHz12, Gz12⟩ := V_b
  have hinz12 : ¬ ((3 : Int32) < 0 ∨ clz12.slots.size ≤ ((3 : Int32)).toNatClampNeg) := inb_of Sz12 ⟨(by decide), (by decide)⟩
  obtain ⟨Tz12, hz12, Xz12, ez12, Wz12, stz12⟩ := stR Xz11 hx hZ ez11 Arz12 (j := (3 : Int32)) hinz12 rfl Sto3 (g := (mkF m 36 #[.val (.int p1), .val (.int p2), .val (.int iv), .unset, .unset, .unset, .unset, .unset] [(.ref t3), (.int (3 : Int32)), (.ref b), (.ref b)])) rfl rfl (hb hby at_36)
  refine own_go stz12 ?_
  have V_b_ : Arv Z hz12 b kz4 (.object "com/example/servweave/servweave/qos/Attribute") (6 : Int32) [(.ref t0), (.ref t1), (.ref t2), (.ref t3), .null, .null] .null := Arv.set Arz12 qz12 Sz12 Mz12 HHz12 Gz12 rfl Wz12 3 rfl (Nat.le_of_ble_eq_true rfl)
  have Nz12 := Fr.snoc Xz12 Nz10 g_b
  have O := O.wr Wz12 g_b
  have V_b := V_b_
  show own_Go _ _ _ _ Tz12 (mkF m 37 #[.val (.int p1), .val (.int p2), .val (.int iv), .unset, .unset, .unset, .unset, .unset] [(.ref b)])
  refine own_go (fun _ k => XS.dup Xz12.here hx rfl (hb hby at_37) rfl rfl k) ?_
  show own_Go _ _ _ _ Tz12 (mkF m 38 #[.val (.int p1), .val (.int p2), .val (.int iv), .unset, .unset, .unset, .unset, .unset] [(.ref b), (.ref b)])
  refine own_go (fun _ k => XS.iconst Xz12.here hx rfl (hb hby at_38) k) ?_
  show own_Go _ _ _ _ Tz12 (mkF m 39 #[.val (.int p1), .val (.int p2), .val (.int iv), .unset, .unset, .unset, .unset, .unset] [(.int (4 : Int32)), (.ref b), (.ref b)])
  obtain ⟨Tz13, Xz13, ez13, stz13⟩ := getS2 Xz12 hx hZ hown (host := "") (Or.inl (hw _ (List.mem_of_getElem? (i := 13) rfl))) Via.refl ez12 (S4.ext O.2) (g := (mkF m 39 #[.val (.int p1), .val (.int p2), .val (.int iv), .unset, .unset, .unset, .unset, .unset] [(.int (4 : Int32)), (.ref b), (.ref b)])) rfl (hb hby at_39)
  refine own_go stz13 ?_
  show own_Go _ _ _ _ Tz13 (mkF m 42 #[.val (.int p1), .val (.int p2), .val (.int iv), .unset, .unset, .unset, .unset, .unset] [(.ref t4), (.int (4 : Int32)), (.ref b), (.ref b)])
  obtain ⟨cz4, Az4, qz4, -⟩ := id V_b
  have Sto4 := Sto.ofV Az4 qz4 Oz4 (Ins.self (E4.ext O.2))
  obtain ⟨clz14, Arz14, qz14, Sz14, Mz14, HHz14, Gz14⟩ := V_b
  have hinz14 : ¬ ((4 : Int32) < 0 ∨ clz14.slots.size ≤ ((4 : Int32)).toNatClampNeg) := inb_of Sz14 ⟨(by decide), (by decide)⟩
  obtain ⟨Tz14, hz14, Xz14, ez14, Wz14, stz14⟩ := stR Xz13 hx hZ ez13 Arz14 (j := (4 : Int32)) hinz14 rfl Sto4 (g := (mkF m 42 #[.val (.int p1), .val (.int p2), .val (.int iv), .unset, .unset, .unset, .unset, .unset] [(.ref t4), (.int (4 : Int32)), (.ref b), (.ref b)])) rfl rfl (hb hby at_42)
  refine own_go stz14 ?_
  have V_b_ : Arv Z hz14 b kz4 (.object "com/example/servweave/servweave/qos/Attribute") (6 : Int32) [(.ref t0), (.ref t1), (.ref t2), (.ref t3), (.ref t4), .null] .null := Arv.set Arz14 qz14 Sz14 Mz14 HHz14 Gz14 rfl Wz14 4 rfl (Nat.le_of_ble_eq_true rfl)
  have Nz14 := Fr.snoc Xz14 Nz12 g_b
  have O := O.wr Wz14 g_b
  have V_b := V_b_
  show own_Go _ _ _ _ Tz14 (mkF m 43 #[.val (.int p1), .val (.int p2), .val (.int iv), .unset, .unset, .unset, .unset, .unset] [(.ref b)])
  refine own_go (fun _ k => XS.dup Xz14.here hx rfl (hb hby at_43) rfl rfl k) ?_
  show own_Go _ _ _ _ Tz14 (mkF m 44 #[.val (.int p1), .val (.int p2), .val (.int iv), .unset, .unset, .unset, .unset, .unset] [(.ref b), (.ref b)])
  refine own_go (fun _ k => XS.iconst Xz14.here hx rfl (hb hby at_44) k) ?_
  show own_Go _ _ _ _ Tz14 (mkF m 45 #[.val (.int p1), .val (.int p2), .val (.int iv), .unset, .unset, .unset, .unset, .unset] [(.int (5 : Int32)), (.ref b), (.ref b)])
  obtain ⟨Tz15, Xz15, ez15, stz15⟩ := getS2 Xz14 hx hZ hown (host := "") (Or.inl (hw _ (List.mem_of_getElem? (i := 15) rfl))) Via.refl ez14 (S5.ext O.2) (g := (mkF m 45 #[.val (.int p1), .val (.int p2), .val (.int iv), .unset, .unset, .unset, .unset, .unset] [(.int (5 : Int32)), (.ref b), (.ref b)])) rfl (hb hby at_45)
  refine own_go stz15 ?_
  show own_Go _ _ _ _ Tz15 (mkF m 48 #[.val (.int p1), .val (.int p2), .val (.int iv), .unset, .unset, .unset, .unset, .unset] [(.ref t5), (.int (5 : Int32)), (.ref b), (.ref b)])
  obtain ⟨cz5, Az5, qz5, -⟩ := id V_b
  have Sto5 := Sto.ofV Az5 qz5 Oz4 (Ins.self (E5.ext O.2))
  obtain ⟨clz16, Arz16, qz16, Sz16, Mz16, HHz16, Gz16⟩ := V_b
  have hinz16 : ¬ ((5 : Int32) < 0 ∨ clz16.slots.size ≤ ((5 : Int32)).toNatClampNeg) := inb_of Sz16 ⟨(by decide), (by decide)⟩
  obtain ⟨Tz16, hz16, Xz16, ez16, Wz16, stz16⟩ := stR Xz15 hx hZ ez15 Arz16 (j := (5 : Int32)) hinz16 rfl Sto5 (g := (mkF m 48 #[.val (.int p1), .val (.int p2), .val (.int iv), .unset, .unset, .unset, .unset, .unset] [(.ref t5), (.int (5 : Int32)), (.ref b), (.ref b)])) rfl rfl (hb hby at_48)
  refine own_go stz16 ?_
  have V_b_ : Arv Z hz16 b kz4 (.object "com/example/servweave/servweave/qos/Attribute") (6 : Int32) [(.ref t0), (.ref t1), (.ref t2), (.ref t3), (.ref t4), (.ref t5)] .null := Arv.set Arz16 qz16 Sz16 Mz16 HHz16 Gz16 rfl Wz16 5 rfl (Nat.le_of_ble_eq_true rfl)
  have Nz16 := Fr.snoc Xz16 Nz14 g_b
  have O := O.wr Wz16 g_b
  have V_b := V_b_
  show own_Go _ _ _ _ Tz16 (mkF m 49 #[.val (.int p1), .val (.int p2), .val (.int iv), .unset, .unset, .unset, .unset, .unset] [(.ref b)])
  refine own_go (fun _ k => XS.astoreN Xz16.here hx rfl (hb hby at_49) rfl rfl (l' := #[.val (.int p1), .val (.int p2), .val (.int iv), .val (.ref b), .unset, .unset, .unset, .unset]) rfl k) ?_
  show own_Go _ _ _ _ Tz16 (mkF m 50 #[.val (.int p1), .val (.int p2), .val (.int iv), .val (.ref b), .unset, .unset, .unset, .unset] [])
  refine own_go (fun _ k => XS.aloadN Xz16.here hx rfl (hb hby at_50) rfl rfl k) ?_
  show own_Go _ _ _ _ Tz16 (mkF m 51 #[.val (.int p1), .val (.int p2), .val (.int iv), .val (.ref b), .unset, .unset, .unset, .unset] [(.ref b)])
  refine own_go (fun _ k => XS.iloadN Xz16.here hx rfl (hb hby at_51) rfl k) ?_
  show own_Go _ _ _ _ Tz16 (mkF m 52 #[.val (.int p1), .val (.int p2), .val (.int iv), .val (.ref b), .unset, .unset, .unset, .unset] [(.int iv), (.ref b)])
  have hcs : iv = 0 ∨ iv = 1 ∨ iv = 2 ∨ iv = 3 ∨ iv = 4 ∨ iv = 5 := by rw [hiv]; exact own_six _
  clear hiv
  rcases hcs with rfl | rfl | rfl | rfl | rfl | rfl
  · show own_Go _ _ _ _ Tz16 (mkF m 52 #[.val (.int p1), .val (.int p2), .val (.int (0 : Int32)), .val (.ref b), .unset, .unset, .unset, .unset] [(.int (0 : Int32)), (.ref b)])
    obtain ⟨clz17, Arz17, qz17, Sz17, Mz17, HHz17, Gz17⟩ := id V_b
    have hinz17 : ¬ ((0 : Int32) < 0 ∨ clz17.slots.size ≤ ((0 : Int32)).toNatClampNeg) := inb_of Sz17 ⟨(by decide), (by decide)⟩
    have hatz17 : clz17.slots[((0 : Int32)).toNatClampNeg]? = some (.ref t0) := HHz17.at hinz17 (rfl)
    refine own_go (fun _ k => Xz16.aaload hx (j := (0 : Int32)) (v := (.ref t0)) (by rw [ez16]; exact Arz17.1) (State.isArrayOf_alike hZ.alike Arz17.2.1) rfl Arz17.2.2 hinz17 hatz17 (g := (mkF m 52 #[.val (.int p1), .val (.int p2), .val (.int (0 : Int32)), .val (.ref b), .unset, .unset, .unset, .unset] [(.int (0 : Int32)), (.ref b)])) rfl rfl (hb hby at_52) _ k) ?_
    show own_Go _ _ _ _ Tz16 (mkF m 53 #[.val (.int p1), .val (.int p2), .val (.int (0 : Int32)), .val (.ref b), .unset, .unset, .unset, .unset] [(.ref t0)])
    refine own_go (fun _ k => XS.astore Xz16.here hx rfl (hb hby at_53) rfl rfl (l' := #[.val (.int p1), .val (.int p2), .val (.int (0 : Int32)), .val (.ref b), .val (.ref t0), .unset, .unset, .unset]) rfl k) ?_
    show own_Go _ _ _ _ Tz16 (mkF m 55 #[.val (.int p1), .val (.int p2), .val (.int (0 : Int32)), .val (.ref b), .val (.ref t0), .unset, .unset, .unset] [])
    refine own_go (fun _ k => XS.iloadN Xz16.here hx rfl (hb hby at_55) rfl k) ?_
    show own_Go _ _ _ _ Tz16 (mkF m 56 #[.val (.int p1), .val (.int p2), .val (.int (0 : Int32)), .val (.ref b), .val (.ref t0), .unset, .unset, .unset] [(.int p2)])
    refine own_go (fun _ k => Xz16.ldcInt hx hown (mvT hZ (hw _ (List.mem_of_getElem? (i := 17) rfl))) (g := (mkF m 56 #[.val (.int p1), .val (.int p2), .val (.int (0 : Int32)), .val (.ref b), .val (.ref t0), .unset, .unset, .unset] [(.int p2)])) rfl (hb hby at_56) _ k) ?_
    show own_Go _ _ _ _ Tz16 (mkF m 58 #[.val (.int p1), .val (.int p2), .val (.int (0 : Int32)), .val (.ref b), .val (.ref t0), .unset, .unset, .unset] [(.int (-2147483648 : Int32)), (.int p2)])
    refine own_dia (α := Int32) (C := p2 = (-2147483648 : Int32)) (v1 := (-1 : Int32)) (v0 := p2) (f := fun v => (mkF m 66 #[.val (.int p1), .val (.int p2), .val (.int (0 : Int32)), .val (.ref b), .val (.ref t0), .unset, .unset, .unset] ((.int v) :: []))) (T' := Tz16) (fun hC k => ?_) (fun hC k => ?_) ?_
    · show own_Go _ _ _ _ Tz16 (mkF m 58 #[.val (.int p1), .val (.int p2), .val (.int (0 : Int32)), .val (.ref b), .val (.ref t0), .unset, .unset, .unset] [(.int (-2147483648 : Int32)), (.int p2)])
      refine own_go (fun _ k => XS.icmpNo Xz16.here hx rfl (hb hby at_58) rfl (teq hC).2 k) ?_
      show own_Go _ _ _ _ Tz16 (mkF m 61 #[.val (.int p1), .val (.int p2), .val (.int (0 : Int32)), .val (.ref b), .val (.ref t0), .unset, .unset, .unset] [])
      refine own_go (fun _ k => XS.iconst Xz16.here hx rfl (hb hby at_61) k) ?_
      show own_Go _ _ _ _ Tz16 (mkF m 62 #[.val (.int p1), .val (.int p2), .val (.int (0 : Int32)), .val (.ref b), .val (.ref t0), .unset, .unset, .unset] [(.int (-1 : Int32))])
      refine own_go (fun _ k => XS.goto Xz16.here hx rfl (pc0 := 62) (pc' := 66) rfl (hb hby at_62) (by decide) (by decide) k) ?_
      show own_Go _ _ _ _ Tz16 (mkF m 66 #[.val (.int p1), .val (.int p2), .val (.int (0 : Int32)), .val (.ref b), .val (.ref t0), .unset, .unset, .unset] [(.int (-1 : Int32))])
      exact k
    · show own_Go _ _ _ _ Tz16 (mkF m 58 #[.val (.int p1), .val (.int p2), .val (.int (0 : Int32)), .val (.ref b), .val (.ref t0), .unset, .unset, .unset] [(.int (-2147483648 : Int32)), (.int p2)])
      refine own_go (fun _ k => XS.icmpYes Xz16.here hx rfl (pc0 := 58) (pc' := 65) rfl (hb hby at_58) rfl (feq hC).2 (by decide) (by decide) k) ?_
      show own_Go _ _ _ _ Tz16 (mkF m 65 #[.val (.int p1), .val (.int p2), .val (.int (0 : Int32)), .val (.ref b), .val (.ref t0), .unset, .unset, .unset] [])
      refine own_go (fun _ k => XS.iloadN Xz16.here hx rfl (hb hby at_65) rfl k) ?_
      show own_Go _ _ _ _ Tz16 (mkF m 66 #[.val (.int p1), .val (.int p2), .val (.int (0 : Int32)), .val (.ref b), .val (.ref t0), .unset, .unset, .unset] [(.int p2)])
      exact k
    show own_Go _ _ _ _ Tz16 (mkF m 66 #[.val (.int p1), .val (.int p2), .val (.int (0 : Int32)), .val (.ref b), .val (.ref t0), .unset, .unset, .unset] [(.int (if p2 = (-2147483648 : Int32) then (-1 : Int32) else p2))])
    obtain ⟨o, ho⟩ : ∃ z, z = (if p2 = (-2147483648 : Int32) then (-1 : Int32) else p2) := ⟨_, rfl⟩
    have hok := own_ok p2
    rw [← ho] at hok
    rw [← ho]
    show own_Go _ _ _ _ Tz16 (mkF m 66 #[.val (.int p1), .val (.int p2), .val (.int (0 : Int32)), .val (.ref b), .val (.ref t0), .unset, .unset, .unset] [(.int o)])
    refine own_go (fun _ k => XS.istore Xz16.here hx rfl (hb hby at_66) rfl (l' := #[.val (.int p1), .val (.int p2), .val (.int (0 : Int32)), .val (.ref b), .val (.ref t0), .val (.int o), .unset, .unset]) rfl k) ?_
    show own_Go _ _ _ _ Tz16 (mkF m 68 #[.val (.int p1), .val (.int p2), .val (.int (0 : Int32)), .val (.ref b), .val (.ref t0), .val (.int o), .unset, .unset] [])
    refine own_go (fun _ k => XS.iloadN Xz16.here hx rfl (hb hby at_68) rfl k) ?_
    show own_Go _ _ _ _ Tz16 (mkF m 69 #[.val (.int p1), .val (.int p2), .val (.int (0 : Int32)), .val (.ref b), .val (.ref t0), .val (.int o), .unset, .unset] [(.int (0 : Int32))])
    refine own_go (fun _ k => XS.iconst Xz16.here hx rfl (hb hby at_69) k) ?_
    show own_Go _ _ _ _ Tz16 (mkF m 70 #[.val (.int p1), .val (.int p2), .val (.int (0 : Int32)), .val (.ref b), .val (.ref t0), .val (.int o), .unset, .unset] [(.int (2 : Int32)), (.int (0 : Int32))])
    refine own_go (fun _ k => XS.icmpNo Xz16.here hx rfl (hb hby at_70) rfl (tlt (by decide : (0 : Int32) < (2 : Int32))).2.1 k) ?_
    show own_Go _ _ _ _ Tz16 (mkF m 73 #[.val (.int p1), .val (.int p2), .val (.int (0 : Int32)), .val (.ref b), .val (.ref t0), .val (.int o), .unset, .unset] [])
    refine own_go (fun _ k => XS.iconst Xz16.here hx rfl (hb hby at_73) k) ?_
    show own_Go _ _ _ _ Tz16 (mkF m 74 #[.val (.int p1), .val (.int p2), .val (.int (0 : Int32)), .val (.ref b), .val (.ref t0), .val (.int o), .unset, .unset] [(.int (1 : Int32))])
    refine own_go (fun _ k => XS.goto Xz16.here hx rfl (pc0 := 74) (pc' := 78) rfl (hb hby at_74) (by decide) (by decide) k) ?_
    show own_Go _ _ _ _ Tz16 (mkF m 78 #[.val (.int p1), .val (.int p2), .val (.int (0 : Int32)), .val (.ref b), .val (.ref t0), .val (.int o), .unset, .unset] [(.int (1 : Int32))])
    refine own_go (fun _ k => XS.istore Xz16.here hx rfl (hb hby at_78) rfl (l' := #[.val (.int p1), .val (.int p2), .val (.int (0 : Int32)), .val (.ref b), .val (.ref t0), .val (.int o), .val (.int (1 : Int32)), .unset]) rfl k) ?_
    show own_Go _ _ _ _ Tz16 (mkF m 80 #[.val (.int p1), .val (.int p2), .val (.int (0 : Int32)), .val (.ref b), .val (.ref t0), .val (.int o), .val (.int (1 : Int32)), .unset] [])
    refine own_go (fun _ k => XS.iload Xz16.here hx rfl (hb hby at_80) rfl k) ?_
    show own_Go _ _ _ _ Tz16 (mkF m 82 #[.val (.int p1), .val (.int p2), .val (.int (0 : Int32)), .val (.ref b), .val (.ref t0), .val (.int o), .val (.int (1 : Int32)), .unset] [(.int (1 : Int32))])
    refine own_go (fun _ k => XS.ifNo Xz16.here hx rfl (hb hby at_82) rfl ((if0 _ _).trans (feq (by decide : ¬ ((1 : Int32) = (0 : Int32)))).1) k) ?_
    show own_Go _ _ _ _ Tz16 (mkF m 85 #[.val (.int p1), .val (.int p2), .val (.int (0 : Int32)), .val (.ref b), .val (.ref t0), .val (.int o), .val (.int (1 : Int32)), .unset] [])
    refine own_go (fun _ k => XS.iload Xz16.here hx rfl (hb hby at_85) rfl k) ?_
    show own_Go _ _ _ _ Tz16 (mkF m 87 #[.val (.int p1), .val (.int p2), .val (.int (0 : Int32)), .val (.ref b), .val (.ref t0), .val (.int o), .val (.int (1 : Int32)), .unset] [(.int o)])
    obtain ⟨vz18, Tz18, Lz18, Xz18, hQz18, stz18⟩ := own_callS Xz16 hx hZ hown (hw _ (List.mem_of_getElem? (i := 18) rfl)) (hw _ (List.mem_of_getElem? (i := 19) rfl)) (hw _ (List.mem_of_getElem? (i := 20) rfl)) (hw _ (List.mem_of_getElem? (i := 21) rfl)) (by decide) ez16 (own_rm1 l Z a0 hw [] o hz16 n0) (W := 0) (by decide) (by decide) (by decide) (by decide) own_pd1 rfl (g := (mkF m 87 #[.val (.int p1), .val (.int p2), .val (.int (0 : Int32)), .val (.ref b), .val (.ref t0), .val (.int o), .val (.int (1 : Int32)), .unset] [(.int o)])) (argsL := [(.int o)]) (rest := []) rfl (by rw [hml]; rfl) rfl (by show 2 * 0 + _ ≤ _; exact Nat.le_of_eq rfl) (hb hby at_87)
    obtain ⟨rfl, Nz18q, ehz18⟩ := hQz18
    have Nz18 := Fr.app Nz16 Nz18q
    refine own_go stz18 ?_
    show own_Go _ _ _ _ Tz18 (mkF m 90 #[.val (.int p1), .val (.int p2), .val (.int (0 : Int32)), .val (.ref b), .val (.ref t0), .val (.int o), .val (.int (1 : Int32)), .unset] [(.int (own_sg o))])
    refine own_go (fun _ k => XS.ineg Xz18.here hx rfl (hb hby at_90) rfl k) ?_
    show own_Go _ _ _ _ Tz18 (mkF m 91 #[.val (.int p1), .val (.int p2), .val (.int (0 : Int32)), .val (.ref b), .val (.ref t0), .val (.int o), .val (.int (1 : Int32)), .unset] [(.int (-(own_sg o)))])
    refine own_go (fun _ k => XS.goto Xz18.here hx rfl (pc0 := 91) (pc' := 99) rfl (hb hby at_91) (by decide) (by decide) k) ?_
    show own_Go _ _ _ _ Tz18 (mkF m 99 #[.val (.int p1), .val (.int p2), .val (.int (0 : Int32)), .val (.ref b), .val (.ref t0), .val (.int o), .val (.int (1 : Int32)), .unset] [(.int (-(own_sg o)))])
    refine own_go (fun _ k => XS.istore Xz18.here hx rfl (hb hby at_99) rfl (l' := #[.val (.int p1), .val (.int p2), .val (.int (0 : Int32)), .val (.ref b), .val (.ref t0), .val (.int o), .val (.int (1 : Int32)), .val (.int (-(own_sg o)))]) rfl k) ?_
    show own_Go _ _ _ _ Tz18 (mkF m 101 #[.val (.int p1), .val (.int p2), .val (.int (0 : Int32)), .val (.ref b), .val (.ref t0), .val (.int o), .val (.int (1 : Int32)), .val (.int (-(own_sg o)))] [])
    refine own_go (fun _ k => XS.aload Xz18.here hx rfl (hb hby at_101) rfl rfl k) ?_
    show own_Go _ _ _ _ Tz18 (mkF m 103 #[.val (.int p1), .val (.int p2), .val (.int (0 : Int32)), .val (.ref b), .val (.ref t0), .val (.int o), .val (.int (1 : Int32)), .val (.int (-(own_sg o)))] [(.ref t0)])
    refine own_go (fun _ k => XS.iload Xz18.here hx rfl (hb hby at_103) rfl k) ?_
    show own_Go _ _ _ _ Tz18 (mkF m 105 #[.val (.int p1), .val (.int p2), .val (.int (0 : Int32)), .val (.ref b), .val (.ref t0), .val (.int o), .val (.int (1 : Int32)), .val (.int (-(own_sg o)))] [(.int o), (.ref t0)])
    have E_t := E0.ext O.2
    obtain ⟨vz19, Tz19, Lz19, Xz19, hQz19, stz19⟩ := own_callV Xz18 hx hZ hown (hw _ (List.mem_of_getElem? (i := 22) rfl)) (hw _ (List.mem_of_getElem? (i := 23) rfl)) (hw _ (List.mem_of_getElem? (i := 25) rfl)) (hw _ (List.mem_of_getElem? (i := 24) rfl)) (hw _ (List.mem_of_getElem? (i := 4) rfl)) (hw _ (List.mem_of_getElem? (i := 26) rfl)) (by decide) ehz18 E_t (own_rm2 l Z a0 hw [] t0 o hz16 n0 t0 t1 (0 : Int32) O S0 S1 (if_pos rfl) E_t) (W := 0) (by decide) (by decide) (by decide) (by decide) own_pd1 rfl (g := (mkF m 105 #[.val (.int p1), .val (.int p2), .val (.int (0 : Int32)), .val (.ref b), .val (.ref t0), .val (.int o), .val (.int (1 : Int32)), .val (.int (-(own_sg o)))] [(.int o), (.ref t0)])) (argsL := [(.int o)]) (rest := []) rfl (by rw [hml]; rfl) rfl (by show 2 * 0 + _ ≤ _; exact Nat.le_of_eq rfl) (hb hby at_105)
    obtain ⟨rfl, Nz19q, ehz19⟩ := hQz19
    have Nz19 := Fr.app Nz18 Nz19q
    refine own_go stz19 ?_
    show own_Go _ _ _ _ Tz19 (mkF m 108 #[.val (.int p1), .val (.int p2), .val (.int (0 : Int32)), .val (.ref b), .val (.ref t0), .val (.int o), .val (.int (1 : Int32)), .val (.int (-(own_sg o)))] [(.int (-o))])
    obtain ⟨vz20, Tz20, Lz20, Xz20, hQz20, stz20⟩ := own_callS Xz19 hx hZ hown (hw _ (List.mem_of_getElem? (i := 18) rfl)) (hw _ (List.mem_of_getElem? (i := 19) rfl)) (hw _ (List.mem_of_getElem? (i := 20) rfl)) (hw _ (List.mem_of_getElem? (i := 21) rfl)) (by decide) ehz19 (own_rm1 l Z a0 hw [] (-o) hz16 n0) (W := 0) (by decide) (by decide) (by decide) (by decide) own_pd1 rfl (g := (mkF m 108 #[.val (.int p1), .val (.int p2), .val (.int (0 : Int32)), .val (.ref b), .val (.ref t0), .val (.int o), .val (.int (1 : Int32)), .val (.int (-(own_sg o)))] [(.int (-o))])) (argsL := [(.int (-o))]) (rest := []) rfl (by rw [hml]; rfl) rfl (by show 2 * 0 + _ ≤ _; exact Nat.le_of_eq rfl) (hb hby at_108)
    obtain ⟨rfl, Nz20q, ehz20⟩ := hQz20
    have Nz20 := Fr.app Nz19 Nz20q
    refine own_go stz20 ?_
    show own_Go _ _ _ _ Tz20 (mkF m 111 #[.val (.int p1), .val (.int p2), .val (.int (0 : Int32)), .val (.ref b), .val (.ref t0), .val (.int o), .val (.int (1 : Int32)), .val (.int (-(own_sg o)))] [(.int (own_sg (-o)))])
    refine own_go (fun _ k => XS.iload Xz20.here hx rfl (hb hby at_111) rfl k) ?_
    show own_Go _ _ _ _ Tz20 (mkF m 113 #[.val (.int p1), .val (.int p2), .val (.int (0 : Int32)), .val (.ref b), .val (.ref t0), .val (.int o), .val (.int (1 : Int32)), .val (.int (-(own_sg o)))] [(.int (-(own_sg o))), (.int (own_sg (-o)))])
    refine own_go (fun _ k => XS.icmpNo Xz20.here hx rfl (hb hby at_113) rfl (teq (own_sgneg o hok)).2 k) ?_
    show own_Go _ _ _ _ Tz20 (mkF m 116 #[.val (.int p1), .val (.int p2), .val (.int (0 : Int32)), .val (.ref b), .val (.ref t0), .val (.int o), .val (.int (1 : Int32)), .val (.int (-(own_sg o)))] [])
    refine own_go (fun _ k => XS.iconst Xz20.here hx rfl (hb hby at_116) k) ?_
    show own_Go _ _ _ _ Tz20 (mkF m 117 #[.val (.int p1), .val (.int p2), .val (.int (0 : Int32)), .val (.ref b), .val (.ref t0), .val (.int o), .val (.int (1 : Int32)), .val (.int (-(own_sg o)))] [(.int (1 : Int32))])
    refine own_go (fun _ k => XS.goto Xz20.here hx rfl (pc0 := 117) (pc' := 121) rfl (hb hby at_117) (by decide) (by decide) k) ?_
    show own_Go _ _ _ _ Tz20 (mkF m 121 #[.val (.int p1), .val (.int p2), .val (.int (0 : Int32)), .val (.ref b), .val (.ref t0), .val (.int o), .val (.int (1 : Int32)), .val (.int (-(own_sg o)))] [(.int (1 : Int32))])
    exact own_end Xz20 hlk (v := (some (.int (1 : Int32)))) (fun h => by rw [hret] at h; cases h) (fun fs hr => retN Xz20 hx (t := .boolean) hret (by simp) (hb hby at_121) hr) (by rw [ehz20]; exact ⟨rfl, Nz20⟩) (by decide) (by decide)
  · show own_Go _ _ _ _ Tz16 (mkF m 52 #[.val (.int p1), .val (.int p2), .val (.int (1 : Int32)), .val (.ref b), .unset, .unset, .unset, .unset] [(.int (1 : Int32)), (.ref b)])
    obtain ⟨clz21, Arz21, qz21, Sz21, Mz21, HHz21, Gz21⟩ := id V_b
    have hinz21 : ¬ ((1 : Int32) < 0 ∨ clz21.slots.size ≤ ((1 : Int32)).toNatClampNeg) := inb_of Sz21 ⟨(by decide), (by decide)⟩
    have hatz21 : clz21.slots[((1 : Int32)).toNatClampNeg]? = some (.ref t1) := HHz21.at hinz21 (rfl)
    refine own_go (fun _ k => Xz16.aaload hx (j := (1 : Int32)) (v := (.ref t1)) (by rw [ez16]; exact Arz21.1) (State.isArrayOf_alike hZ.alike Arz21.2.1) rfl Arz21.2.2 hinz21 hatz21 (g := (mkF m 52 #[.val (.int p1), .val (.int p2), .val (.int (1 : Int32)), .val (.ref b), .unset, .unset, .unset, .unset] [(.int (1 : Int32)), (.ref b)])) rfl rfl (hb hby at_52) _ k) ?_
    show own_Go _ _ _ _ Tz16 (mkF m 53 #[.val (.int p1), .val (.int p2), .val (.int (1 : Int32)), .val (.ref b), .unset, .unset, .unset, .unset] [(.ref t1)])
    refine own_go (fun _ k => XS.astore Xz16.here hx rfl (hb hby at_53) rfl rfl (l' := #[.val (.int p1), .val (.int p2), .val (.int (1 : Int32)), .val (.ref b), .val (.ref t1), .unset, .unset, .unset]) rfl k) ?_
    show own_Go _ _ _ _ Tz16 (mkF m 55 #[.val (.int p1), .val (.int p2), .val (.int (1 : Int32)), .val (.ref b), .val (.ref t1), .unset, .unset, .unset] [])
    refine own_go (fun _ k => XS.iloadN Xz16.here hx rfl (hb hby at_55) rfl k) ?_
    show own_Go _ _ _ _ Tz16 (mkF m 56 #[.val (.int p1), .val (.int p2), .val (.int (1 : Int32)), .val (.ref b), .val (.ref t1), .unset, .unset, .unset] [(.int p2)])
    refine own_go (fun _ k => Xz16.ldcInt hx hown (mvT hZ (hw _ (List.mem_of_getElem? (i := 17) rfl))) (g := (mkF m 56 #[.val (.int p1), .val (.int p2), .val (.int (1 : Int32)), .val (.ref b), .val (.ref t1), .unset, .unset, .unset] [(.int p2)])) rfl (hb hby at_56) _ k) ?_
    show own_Go _ _ _ _ Tz16 (mkF m 58 #[.val (.int p1), .val (.int p2), .val (.int (1 : Int32)), .val (.ref b), .val (.ref t1), .unset, .unset, .unset] [(.int (-2147483648 : Int32)), (.int p2)])
    refine own_dia (α := Int32) (C := p2 = (-2147483648 : Int32)) (v1 := (-1 : Int32)) (v0 := p2) (f := fun v => (mkF m 66 #[.val (.int p1), .val (.int p2), .val (.int (1 : Int32)), .val (.ref b), .val (.ref t1), .unset, .unset, .unset] ((.int v) :: []))) (T' := Tz16) (fun hC k => ?_) (fun hC k => ?_) ?_
    · show own_Go _ _ _ _ Tz16 (mkF m 58 #[.val (.int p1), .val (.int p2), .val (.int (1 : Int32)), .val (.ref b), .val (.ref t1), .unset, .unset, .unset] [(.int (-2147483648 : Int32)), (.int p2)])
      refine own_go (fun _ k => XS.icmpNo Xz16.here hx rfl (hb hby at_58) rfl (teq hC).2 k) ?_
      show own_Go _ _ _ _ Tz16 (mkF m 61 #[.val (.int p1), .val (.int p2), .val (.int (1 : Int32)), .val (.ref b), .val (.ref t1), .unset, .unset, .unset] [])
      refine own_go (fun _ k => XS.iconst Xz16.here hx rfl (hb hby at_61) k) ?_
      show own_Go _ _ _ _ Tz16 (mkF m 62 #[.val (.int p1), .val (.int p2), .val (.int (1 : Int32)), .val (.ref b), .val (.ref t1), .unset, .unset, .unset] [(.int (-1 : Int32))])
      refine own_go (fun _ k => XS.goto Xz16.here hx rfl (pc0 := 62) (pc' := 66) rfl (hb hby at_62) (by decide) (by decide) k) ?_
      show own_Go _ _ _ _ Tz16 (mkF m 66 #[.val (.int p1), .val (.int p2), .val (.int (1 : Int32)), .val (.ref b), .val (.ref t1), .unset, .unset, .unset] [(.int (-1 : Int32))])
      exact k
    · show own_Go _ _ _ _ Tz16 (mkF m 58 #[.val (.int p1), .val (.int p2), .val (.int (1 : Int32)), .val (.ref b), .val (.ref t1), .unset, .unset, .unset] [(.int (-2147483648 : Int32)), (.int p2)])
      refine own_go (fun _ k => XS.icmpYes Xz16.here hx rfl (pc0 := 58) (pc' := 65) rfl (hb hby at_58) rfl (feq hC).2 (by decide) (by decide) k) ?_
      show own_Go _ _ _ _ Tz16 (mkF m 65 #[.val (.int p1), .val (.int p2), .val (.int (1 : Int32)), .val (.ref b), .val (.ref t1), .unset, .unset, .unset] [])
      refine own_go (fun _ k => XS.iloadN Xz16.here hx rfl (hb hby at_65) rfl k) ?_
      show own_Go _ _ _ _ Tz16 (mkF m 66 #[.val (.int p1), .val (.int p2), .val (.int (1 : Int32)), .val (.ref b), .val (.ref t1), .unset, .unset, .unset] [(.int p2)])
      exact k
    show own_Go _ _ _ _ Tz16 (mkF m 66 #[.val (.int p1), .val (.int p2), .val (.int (1 : Int32)), .val (.ref b), .val (.ref t1), .unset, .unset, .unset] [(.int (if p2 = (-2147483648 : Int32) then (-1 : Int32) else p2))])
    obtain ⟨o, ho⟩ : ∃ z, z = (if p2 = (-2147483648 : Int32) then (-1 : Int32) else p2) := ⟨_, rfl⟩
    have hok := own_ok p2
    rw [← ho] at hok
    rw [← ho]
    show own_Go _ _ _ _ Tz16 (mkF m 66 #[.val (.int p1), .val (.int p2), .val (.int (1 : Int32)), .val (.ref b), .val (.ref t1), .unset, .unset, .unset] [(.int o)])
    refine own_go (fun _ k => XS.istore Xz16.here hx rfl (hb hby at_66) rfl (l' := #[.val (.int p1), .val (.int p2), .val (.int (1 : Int32)), .val (.ref b), .val (.ref t1), .val (.int o), .unset, .unset]) rfl k) ?_
    show own_Go _ _ _ _ Tz16 (mkF m 68 #[.val (.int p1), .val (.int p2), .val (.int (1 : Int32)), .val (.ref b), .val (.ref t1), .val (.int o), .unset, .unset] [])
    refine own_go (fun _ k => XS.iloadN Xz16.here hx rfl (hb hby at_68) rfl k) ?_
    show own_Go _ _ _ _ Tz16 (mkF m 69 #[.val (.int p1), .val (.int p2), .val (.int (1 : Int32)), .val (.ref b), .val (.ref t1), .val (.int o), .unset, .unset] [(.int (1 : Int32))])
    refine own_go (fun _ k => XS.iconst Xz16.here hx rfl (hb hby at_69) k) ?_
    show own_Go _ _ _ _ Tz16 (mkF m 70 #[.val (.int p1), .val (.int p2), .val (.int (1 : Int32)), .val (.ref b), .val (.ref t1), .val (.int o), .unset, .unset] [(.int (2 : Int32)), (.int (1 : Int32))])
    refine own_go (fun _ k => XS.icmpNo Xz16.here hx rfl (hb hby at_70) rfl (tlt (by decide : (1 : Int32) < (2 : Int32))).2.1 k) ?_
    show own_Go _ _ _ _ Tz16 (mkF m 73 #[.val (.int p1), .val (.int p2), .val (.int (1 : Int32)), .val (.ref b), .val (.ref t1), .val (.int o), .unset, .unset] [])
    refine own_go (fun _ k => XS.iconst Xz16.here hx rfl (hb hby at_73) k) ?_
    show own_Go _ _ _ _ Tz16 (mkF m 74 #[.val (.int p1), .val (.int p2), .val (.int (1 : Int32)), .val (.ref b), .val (.ref t1), .val (.int o), .unset, .unset] [(.int (1 : Int32))])
    refine own_go (fun _ k => XS.goto Xz16.here hx rfl (pc0 := 74) (pc' := 78) rfl (hb hby at_74) (by decide) (by decide) k) ?_
    show own_Go _ _ _ _ Tz16 (mkF m 78 #[.val (.int p1), .val (.int p2), .val (.int (1 : Int32)), .val (.ref b), .val (.ref t1), .val (.int o), .unset, .unset] [(.int (1 : Int32))])
    refine own_go (fun _ k => XS.istore Xz16.here hx rfl (hb hby at_78) rfl (l' := #[.val (.int p1), .val (.int p2), .val (.int (1 : Int32)), .val (.ref b), .val (.ref t1), .val (.int o), .val (.int (1 : Int32)), .unset]) rfl k) ?_
    show own_Go _ _ _ _ Tz16 (mkF m 80 #[.val (.int p1), .val (.int p2), .val (.int (1 : Int32)), .val (.ref b), .val (.ref t1), .val (.int o), .val (.int (1 : Int32)), .unset] [])
    refine own_go (fun _ k => XS.iload Xz16.here hx rfl (hb hby at_80) rfl k) ?_
    show own_Go _ _ _ _ Tz16 (mkF m 82 #[.val (.int p1), .val (.int p2), .val (.int (1 : Int32)), .val (.ref b), .val (.ref t1), .val (.int o), .val (.int (1 : Int32)), .unset] [(.int (1 : Int32))])
    refine own_go (fun _ k => XS.ifNo Xz16.here hx rfl (hb hby at_82) rfl ((if0 _ _).trans (feq (by decide : ¬ ((1 : Int32) = (0 : Int32)))).1) k) ?_
    show own_Go _ _ _ _ Tz16 (mkF m 85 #[.val (.int p1), .val (.int p2), .val (.int (1 : Int32)), .val (.ref b), .val (.ref t1), .val (.int o), .val (.int (1 : Int32)), .unset] [])
    refine own_go (fun _ k => XS.iload Xz16.here hx rfl (hb hby at_85) rfl k) ?_
    show own_Go _ _ _ _ Tz16 (mkF m 87 #[.val (.int p1), .val (.int p2), .val (.int (1 : Int32)), .val (.ref b), .val (.ref t1), .val (.int o), .val (.int (1 : Int32)), .unset] [(.int o)])
    obtain ⟨vz22, Tz22, Lz22, Xz22, hQz22, stz22⟩ := own_callS Xz16 hx hZ hown (hw _ (List.mem_of_getElem? (i := 18) rfl)) (hw _ (List.mem_of_getElem? (i := 19) rfl)) (hw _ (List.mem_of_getElem? (i := 20) rfl)) (hw _ (List.mem_of_getElem? (i := 21) rfl)) (by decide) ez16 (own_rm1 l Z a0 hw [] o hz16 n0) (W := 0) (by decide) (by decide) (by decide) (by decide) own_pd1 rfl (g := (mkF m 87 #[.val (.int p1), .val (.int p2), .val (.int (1 : Int32)), .val (.ref b), .val (.ref t1), .val (.int o), .val (.int (1 : Int32)), .unset] [(.int o)])) (argsL := [(.int o)]) (rest := []) rfl (by rw [hml]; rfl) rfl (by show 2 * 0 + _ ≤ _; exact Nat.le_of_eq rfl) (hb hby at_87)
    obtain ⟨rfl, Nz22q, ehz22⟩ := hQz22
    have Nz22 := Fr.app Nz16 Nz22q
    refine own_go stz22 ?_
    show own_Go _ _ _ _ Tz22 (mkF m 90 #[.val (.int p1), .val (.int p2), .val (.int (1 : Int32)), .val (.ref b), .val (.ref t1), .val (.int o), .val (.int (1 : Int32)), .unset] [(.int (own_sg o))])
    refine own_go (fun _ k => XS.ineg Xz22.here hx rfl (hb hby at_90) rfl k) ?_
    show own_Go _ _ _ _ Tz22 (mkF m 91 #[.val (.int p1), .val (.int p2), .val (.int (1 : Int32)), .val (.ref b), .val (.ref t1), .val (.int o), .val (.int (1 : Int32)), .unset] [(.int (-(own_sg o)))])
    refine own_go (fun _ k => XS.goto Xz22.here hx rfl (pc0 := 91) (pc' := 99) rfl (hb hby at_91) (by decide) (by decide) k) ?_
    show own_Go _ _ _ _ Tz22 (mkF m 99 #[.val (.int p1), .val (.int p2), .val (.int (1 : Int32)), .val (.ref b), .val (.ref t1), .val (.int o), .val (.int (1 : Int32)), .unset] [(.int (-(own_sg o)))])
    refine own_go (fun _ k => XS.istore Xz22.here hx rfl (hb hby at_99) rfl (l' := #[.val (.int p1), .val (.int p2), .val (.int (1 : Int32)), .val (.ref b), .val (.ref t1), .val (.int o), .val (.int (1 : Int32)), .val (.int (-(own_sg o)))]) rfl k) ?_
    show own_Go _ _ _ _ Tz22 (mkF m 101 #[.val (.int p1), .val (.int p2), .val (.int (1 : Int32)), .val (.ref b), .val (.ref t1), .val (.int o), .val (.int (1 : Int32)), .val (.int (-(own_sg o)))] [])
    refine own_go (fun _ k => XS.aload Xz22.here hx rfl (hb hby at_101) rfl rfl k) ?_
    show own_Go _ _ _ _ Tz22 (mkF m 103 #[.val (.int p1), .val (.int p2), .val (.int (1 : Int32)), .val (.ref b), .val (.ref t1), .val (.int o), .val (.int (1 : Int32)), .val (.int (-(own_sg o)))] [(.ref t1)])
    refine own_go (fun _ k => XS.iload Xz22.here hx rfl (hb hby at_103) rfl k) ?_
    show own_Go _ _ _ _ Tz22 (mkF m 105 #[.val (.int p1), .val (.int p2), .val (.int (1 : Int32)), .val (.ref b), .val (.ref t1), .val (.int o), .val (.int (1 : Int32)), .val (.int (-(own_sg o)))] [(.int o), (.ref t1)])
    have E_t := E1.ext O.2
    obtain ⟨vz23, Tz23, Lz23, Xz23, hQz23, stz23⟩ := own_callV Xz22 hx hZ hown (hw _ (List.mem_of_getElem? (i := 22) rfl)) (hw _ (List.mem_of_getElem? (i := 23) rfl)) (hw _ (List.mem_of_getElem? (i := 25) rfl)) (hw _ (List.mem_of_getElem? (i := 24) rfl)) (hw _ (List.mem_of_getElem? (i := 4) rfl)) (hw _ (List.mem_of_getElem? (i := 26) rfl)) (by decide) ehz22 E_t (own_rm2 l Z a0 hw [] t1 o hz16 n0 t0 t1 (0 : Int32) O S0 S1 (by rw [if_neg n01.symm, if_pos rfl]) E_t) (W := 0) (by decide) (by decide) (by decide) (by decide) own_pd1 rfl (g := (mkF m 105 #[.val (.int p1), .val (.int p2), .val (.int (1 : Int32)), .val (.ref b), .val (.ref t1), .val (.int o), .val (.int (1 : Int32)), .val (.int (-(own_sg o)))] [(.int o), (.ref t1)])) (argsL := [(.int o)]) (rest := []) rfl (by rw [hml]; rfl) rfl (by show 2 * 0 + _ ≤ _; exact Nat.le_of_eq rfl) (hb hby at_105)
    obtain ⟨rfl, Nz23q, ehz23⟩ := hQz23
    have Nz23 := Fr.app Nz22 Nz23q
    refine own_go stz23 ?_
    show own_Go _ _ _ _ Tz23 (mkF m 108 #[.val (.int p1), .val (.int p2), .val (.int (1 : Int32)), .val (.ref b), .val (.ref t1), .val (.int o), .val (.int (1 : Int32)), .val (.int (-(own_sg o)))] [(.int (-o))])
    obtain ⟨vz24, Tz24, Lz24, Xz24, hQz24, stz24⟩ := own_callS Xz23 hx hZ hown (hw _ (List.mem_of_getElem? (i := 18) rfl)) (hw _ (List.mem_of_getElem? (i := 19) rfl)) (hw _ (List.mem_of_getElem? (i := 20) rfl)) (hw _ (List.mem_of_getElem? (i := 21) rfl)) (by decide) ehz23 (own_rm1 l Z a0 hw [] (-o) hz16 n0) (W := 0) (by decide) (by decide) (by decide) (by decide) own_pd1 rfl (g := (mkF m 108 #[.val (.int p1), .val (.int p2), .val (.int (1 : Int32)), .val (.ref b), .val (.ref t1), .val (.int o), .val (.int (1 : Int32)), .val (.int (-(own_sg o)))] [(.int (-o))])) (argsL := [(.int (-o))]) (rest := []) rfl (by rw [hml]; rfl) rfl (by show 2 * 0 + _ ≤ _; exact Nat.le_of_eq rfl) (hb hby at_108)
    obtain ⟨rfl, Nz24q, ehz24⟩ := hQz24
    have Nz24 := Fr.app Nz23 Nz24q
    refine own_go stz24 ?_
    show own_Go _ _ _ _ Tz24 (mkF m 111 #[.val (.int p1), .val (.int p2), .val (.int (1 : Int32)), .val (.ref b), .val (.ref t1), .val (.int o), .val (.int (1 : Int32)), .val (.int (-(own_sg o)))] [(.int (own_sg (-o)))])
    refine own_go (fun _ k => XS.iload Xz24.here hx rfl (hb hby at_111) rfl k) ?_
    show own_Go _ _ _ _ Tz24 (mkF m 113 #[.val (.int p1), .val (.int p2), .val (.int (1 : Int32)), .val (.ref b), .val (.ref t1), .val (.int o), .val (.int (1 : Int32)), .val (.int (-(own_sg o)))] [(.int (-(own_sg o))), (.int (own_sg (-o)))])
    refine own_go (fun _ k => XS.icmpNo Xz24.here hx rfl (hb hby at_113) rfl (teq (own_sgneg o hok)).2 k) ?_
    show own_Go _ _ _ _ Tz24 (mkF m 116 #[.val (.int p1), .val (.int p2), .val (.int (1 : Int32)), .val (.ref b), .val (.ref t1), .val (.int o), .val (.int (1 : Int32)), .val (.int (-(own_sg o)))] [])
    refine own_go (fun _ k => XS.iconst Xz24.here hx rfl (hb hby at_116) k) ?_
    show own_Go _ _ _ _ Tz24 (mkF m 117 #[.val (.int p1), .val (.int p2), .val (.int (1 : Int32)), .val (.ref b), .val (.ref t1), .val (.int o), .val (.int (1 : Int32)), .val (.int (-(own_sg o)))] [(.int (1 : Int32))])
    refine own_go (fun _ k => XS.goto Xz24.here hx rfl (pc0 := 117) (pc' := 121) rfl (hb hby at_117) (by decide) (by decide) k) ?_
    show own_Go _ _ _ _ Tz24 (mkF m 121 #[.val (.int p1), .val (.int p2), .val (.int (1 : Int32)), .val (.ref b), .val (.ref t1), .val (.int o), .val (.int (1 : Int32)), .val (.int (-(own_sg o)))] [(.int (1 : Int32))])
    exact own_end Xz24 hlk (v := (some (.int (1 : Int32)))) (fun h => by rw [hret] at h; cases h) (fun fs hr => retN Xz24 hx (t := .boolean) hret (by simp) (hb hby at_121) hr) (by rw [ehz24]; exact ⟨rfl, Nz24⟩) (by decide) (by decide)
  · show own_Go _ _ _ _ Tz16 (mkF m 52 #[.val (.int p1), .val (.int p2), .val (.int (2 : Int32)), .val (.ref b), .unset, .unset, .unset, .unset] [(.int (2 : Int32)), (.ref b)])
    obtain ⟨clz25, Arz25, qz25, Sz25, Mz25, HHz25, Gz25⟩ := id V_b
    have hinz25 : ¬ ((2 : Int32) < 0 ∨ clz25.slots.size ≤ ((2 : Int32)).toNatClampNeg) := inb_of Sz25 ⟨(by decide), (by decide)⟩
    have hatz25 : clz25.slots[((2 : Int32)).toNatClampNeg]? = some (.ref t2) := HHz25.at hinz25 (rfl)
    refine own_go (fun _ k => Xz16.aaload hx (j := (2 : Int32)) (v := (.ref t2)) (by rw [ez16]; exact Arz25.1) (State.isArrayOf_alike hZ.alike Arz25.2.1) rfl Arz25.2.2 hinz25 hatz25 (g := (mkF m 52 #[.val (.int p1), .val (.int p2), .val (.int (2 : Int32)), .val (.ref b), .unset, .unset, .unset, .unset] [(.int (2 : Int32)), (.ref b)])) rfl rfl (hb hby at_52) _ k) ?_
    show own_Go _ _ _ _ Tz16 (mkF m 53 #[.val (.int p1), .val (.int p2), .val (.int (2 : Int32)), .val (.ref b), .unset, .unset, .unset, .unset] [(.ref t2)])
    refine own_go (fun _ k => XS.astore Xz16.here hx rfl (hb hby at_53) rfl rfl (l' := #[.val (.int p1), .val (.int p2), .val (.int (2 : Int32)), .val (.ref b), .val (.ref t2), .unset, .unset, .unset]) rfl k) ?_
    show own_Go _ _ _ _ Tz16 (mkF m 55 #[.val (.int p1), .val (.int p2), .val (.int (2 : Int32)), .val (.ref b), .val (.ref t2), .unset, .unset, .unset] [])
    refine own_go (fun _ k => XS.iloadN Xz16.here hx rfl (hb hby at_55) rfl k) ?_
    show own_Go _ _ _ _ Tz16 (mkF m 56 #[.val (.int p1), .val (.int p2), .val (.int (2 : Int32)), .val (.ref b), .val (.ref t2), .unset, .unset, .unset] [(.int p2)])
    refine own_go (fun _ k => Xz16.ldcInt hx hown (mvT hZ (hw _ (List.mem_of_getElem? (i := 17) rfl))) (g := (mkF m 56 #[.val (.int p1), .val (.int p2), .val (.int (2 : Int32)), .val (.ref b), .val (.ref t2), .unset, .unset, .unset] [(.int p2)])) rfl (hb hby at_56) _ k) ?_
    show own_Go _ _ _ _ Tz16 (mkF m 58 #[.val (.int p1), .val (.int p2), .val (.int (2 : Int32)), .val (.ref b), .val (.ref t2), .unset, .unset, .unset] [(.int (-2147483648 : Int32)), (.int p2)])
    refine own_dia (α := Int32) (C := p2 = (-2147483648 : Int32)) (v1 := (-1 : Int32)) (v0 := p2) (f := fun v => (mkF m 66 #[.val (.int p1), .val (.int p2), .val (.int (2 : Int32)), .val (.ref b), .val (.ref t2), .unset, .unset, .unset] ((.int v) :: []))) (T' := Tz16) (fun hC k => ?_) (fun hC k => ?_) ?_
    · show own_Go _ _ _ _ Tz16 (mkF m 58 #[.val (.int p1), .val (.int p2), .val (.int (2 : Int32)), .val (.ref b), .val (.ref t2), .unset, .unset, .unset] [(.int (-2147483648 : Int32)), (.int p2)])
      refine own_go (fun _ k => XS.icmpNo Xz16.here hx rfl (hb hby at_58) rfl (teq hC).2 k) ?_
      show own_Go _ _ _ _ Tz16 (mkF m 61 #[.val (.int p1), .val (.int p2), .val (.int (2 : Int32)), .val (.ref b), .val (.ref t2), .unset, .unset, .unset] [])
      refine own_go (fun _ k => XS.iconst Xz16.here hx rfl (hb hby at_61) k) ?_
      show own_Go _ _ _ _ Tz16 (mkF m 62 #[.val (.int p1), .val (.int p2), .val (.int (2 : Int32)), .val (.ref b), .val (.ref t2), .unset, .unset, .unset] [(.int (-1 : Int32))])
      refine own_go (fun _ k => XS.goto Xz16.here hx rfl (pc0 := 62) (pc' := 66) rfl (hb hby at_62) (by decide) (by decide) k) ?_
      show own_Go _ _ _ _ Tz16 (mkF m 66 #[.val (.int p1), .val (.int p2), .val (.int (2 : Int32)), .val (.ref b), .val (.ref t2), .unset, .unset, .unset] [(.int (-1 : Int32))])
      exact k
    · show own_Go _ _ _ _ Tz16 (mkF m 58 #[.val (.int p1), .val (.int p2), .val (.int (2 : Int32)), .val (.ref b), .val (.ref t2), .unset, .unset, .unset] [(.int (-2147483648 : Int32)), (.int p2)])
      refine own_go (fun _ k => XS.icmpYes Xz16.here hx rfl (pc0 := 58) (pc' := 65) rfl (hb hby at_58) rfl (feq hC).2 (by decide) (by decide) k) ?_
      show own_Go _ _ _ _ Tz16 (mkF m 65 #[.val (.int p1), .val (.int p2), .val (.int (2 : Int32)), .val (.ref b), .val (.ref t2), .unset, .unset, .unset] [])
      refine own_go (fun _ k => XS.iloadN Xz16.here hx rfl (hb hby at_65) rfl k) ?_
      show own_Go _ _ _ _ Tz16 (mkF m 66 #[.val (.int p1), .val (.int p2), .val (.int (2 : Int32)), .val (.ref b), .val (.ref t2), .unset, .unset, .unset] [(.int p2)])
      exact k
    show own_Go _ _ _ _ Tz16 (mkF m 66 #[.val (.int p1), .val (.int p2), .val (.int (2 : Int32)), .val (.ref b), .val (.ref t2), .unset, .unset, .unset] [(.int (if p2 = (-2147483648 : Int32) then (-1 : Int32) else p2))])
    obtain ⟨o, ho⟩ : ∃ z, z = (if p2 = (-2147483648 : Int32) then (-1 : Int32) else p2) := ⟨_, rfl⟩
    have hok := own_ok p2
    rw [← ho] at hok
    rw [← ho]
    show own_Go _ _ _ _ Tz16 (mkF m 66 #[.val (.int p1), .val (.int p2), .val (.int (2 : Int32)), .val (.ref b), .val (.ref t2), .unset, .unset, .unset] [(.int o)])
    refine own_go (fun _ k => XS.istore Xz16.here hx rfl (hb hby at_66) rfl (l' := #[.val (.int p1), .val (.int p2), .val (.int (2 : Int32)), .val (.ref b), .val (.ref t2), .val (.int o), .unset, .unset]) rfl k) ?_
    show own_Go _ _ _ _ Tz16 (mkF m 68 #[.val (.int p1), .val (.int p2), .val (.int (2 : Int32)), .val (.ref b), .val (.ref t2), .val (.int o), .unset, .unset] [])
    refine own_go (fun _ k => XS.iloadN Xz16.here hx rfl (hb hby at_68) rfl k) ?_
    show own_Go _ _ _ _ Tz16 (mkF m 69 #[.val (.int p1), .val (.int p2), .val (.int (2 : Int32)), .val (.ref b), .val (.ref t2), .val (.int o), .unset, .unset] [(.int (2 : Int32))])
    refine own_go (fun _ k => XS.iconst Xz16.here hx rfl (hb hby at_69) k) ?_
    show own_Go _ _ _ _ Tz16 (mkF m 70 #[.val (.int p1), .val (.int p2), .val (.int (2 : Int32)), .val (.ref b), .val (.ref t2), .val (.int o), .unset, .unset] [(.int (2 : Int32)), (.int (2 : Int32))])
    refine own_go (fun _ k => XS.icmpYes Xz16.here hx rfl (pc0 := 70) (pc' := 77) rfl (hb hby at_70) rfl (flt (by decide : ¬ ((2 : Int32) < (2 : Int32)))).2.1 (by decide) (by decide) k) ?_
    show own_Go _ _ _ _ Tz16 (mkF m 77 #[.val (.int p1), .val (.int p2), .val (.int (2 : Int32)), .val (.ref b), .val (.ref t2), .val (.int o), .unset, .unset] [])
    refine own_go (fun _ k => XS.iconst Xz16.here hx rfl (hb hby at_77) k) ?_
    show own_Go _ _ _ _ Tz16 (mkF m 78 #[.val (.int p1), .val (.int p2), .val (.int (2 : Int32)), .val (.ref b), .val (.ref t2), .val (.int o), .unset, .unset] [(.int (0 : Int32))])
    refine own_go (fun _ k => XS.istore Xz16.here hx rfl (hb hby at_78) rfl (l' := #[.val (.int p1), .val (.int p2), .val (.int (2 : Int32)), .val (.ref b), .val (.ref t2), .val (.int o), .val (.int (0 : Int32)), .unset]) rfl k) ?_
    show own_Go _ _ _ _ Tz16 (mkF m 80 #[.val (.int p1), .val (.int p2), .val (.int (2 : Int32)), .val (.ref b), .val (.ref t2), .val (.int o), .val (.int (0 : Int32)), .unset] [])
    refine own_go (fun _ k => XS.iload Xz16.here hx rfl (hb hby at_80) rfl k) ?_
    show own_Go _ _ _ _ Tz16 (mkF m 82 #[.val (.int p1), .val (.int p2), .val (.int (2 : Int32)), .val (.ref b), .val (.ref t2), .val (.int o), .val (.int (0 : Int32)), .unset] [(.int (0 : Int32))])
    refine own_go (fun _ k => XS.ifYes Xz16.here hx rfl (pc0 := 82) (pc' := 94) rfl (hb hby at_82) rfl ((if0 _ _).trans (teq (by decide : (0 : Int32) = (0 : Int32))).1) (by decide) (by decide) k) ?_
    show own_Go _ _ _ _ Tz16 (mkF m 94 #[.val (.int p1), .val (.int p2), .val (.int (2 : Int32)), .val (.ref b), .val (.ref t2), .val (.int o), .val (.int (0 : Int32)), .unset] [])
    refine own_go (fun _ k => XS.iload Xz16.here hx rfl (hb hby at_94) rfl k) ?_
    show own_Go _ _ _ _ Tz16 (mkF m 96 #[.val (.int p1), .val (.int p2), .val (.int (2 : Int32)), .val (.ref b), .val (.ref t2), .val (.int o), .val (.int (0 : Int32)), .unset] [(.int o)])
    obtain ⟨vz26, Tz26, Lz26, Xz26, hQz26, stz26⟩ := own_callS Xz16 hx hZ hown (hw _ (List.mem_of_getElem? (i := 18) rfl)) (hw _ (List.mem_of_getElem? (i := 19) rfl)) (hw _ (List.mem_of_getElem? (i := 20) rfl)) (hw _ (List.mem_of_getElem? (i := 21) rfl)) (by decide) ez16 (own_rm1 l Z a0 hw [] o hz16 n0) (W := 0) (by decide) (by decide) (by decide) (by decide) own_pd1 rfl (g := (mkF m 96 #[.val (.int p1), .val (.int p2), .val (.int (2 : Int32)), .val (.ref b), .val (.ref t2), .val (.int o), .val (.int (0 : Int32)), .unset] [(.int o)])) (argsL := [(.int o)]) (rest := []) rfl (by rw [hml]; rfl) rfl (by show 2 * 0 + _ ≤ _; exact Nat.le_of_eq rfl) (hb hby at_96)
    obtain ⟨rfl, Nz26q, ehz26⟩ := hQz26
    have Nz26 := Fr.app Nz16 Nz26q
    refine own_go stz26 ?_
    show own_Go _ _ _ _ Tz26 (mkF m 99 #[.val (.int p1), .val (.int p2), .val (.int (2 : Int32)), .val (.ref b), .val (.ref t2), .val (.int o), .val (.int (0 : Int32)), .unset] [(.int (own_sg o))])
    refine own_go (fun _ k => XS.istore Xz26.here hx rfl (hb hby at_99) rfl (l' := #[.val (.int p1), .val (.int p2), .val (.int (2 : Int32)), .val (.ref b), .val (.ref t2), .val (.int o), .val (.int (0 : Int32)), .val (.int (own_sg o))]) rfl k) ?_
    show own_Go _ _ _ _ Tz26 (mkF m 101 #[.val (.int p1), .val (.int p2), .val (.int (2 : Int32)), .val (.ref b), .val (.ref t2), .val (.int o), .val (.int (0 : Int32)), .val (.int (own_sg o))] [])
    refine own_go (fun _ k => XS.aload Xz26.here hx rfl (hb hby at_101) rfl rfl k) ?_
    show own_Go _ _ _ _ Tz26 (mkF m 103 #[.val (.int p1), .val (.int p2), .val (.int (2 : Int32)), .val (.ref b), .val (.ref t2), .val (.int o), .val (.int (0 : Int32)), .val (.int (own_sg o))] [(.ref t2)])
    refine own_go (fun _ k => XS.iload Xz26.here hx rfl (hb hby at_103) rfl k) ?_
    show own_Go _ _ _ _ Tz26 (mkF m 105 #[.val (.int p1), .val (.int p2), .val (.int (2 : Int32)), .val (.ref b), .val (.ref t2), .val (.int o), .val (.int (0 : Int32)), .val (.int (own_sg o))] [(.int o), (.ref t2)])
    have E_t := E2.ext O.2
    obtain ⟨vz27, Tz27, Lz27, Xz27, hQz27, stz27⟩ := own_callV Xz26 hx hZ hown (hw _ (List.mem_of_getElem? (i := 22) rfl)) (hw _ (List.mem_of_getElem? (i := 23) rfl)) (hw _ (List.mem_of_getElem? (i := 25) rfl)) (hw _ (List.mem_of_getElem? (i := 24) rfl)) (hw _ (List.mem_of_getElem? (i := 4) rfl)) (hw _ (List.mem_of_getElem? (i := 26) rfl)) (by decide) ehz26 E_t (own_rm2 l Z a0 hw [] t2 o hz16 n0 t0 t1 (1 : Int32) O S0 S1 (by rw [if_neg n02.symm, if_neg n12.symm]) E_t) (W := 0) (by decide) (by decide) (by decide) (by decide) own_pd1 rfl (g := (mkF m 105 #[.val (.int p1), .val (.int p2), .val (.int (2 : Int32)), .val (.ref b), .val (.ref t2), .val (.int o), .val (.int (0 : Int32)), .val (.int (own_sg o))] [(.int o), (.ref t2)])) (argsL := [(.int o)]) (rest := []) rfl (by rw [hml]; rfl) rfl (by show 2 * 0 + _ ≤ _; exact Nat.le_of_eq rfl) (hb hby at_105)
    obtain ⟨rfl, Nz27q, ehz27⟩ := hQz27
    have Nz27 := Fr.app Nz26 Nz27q
    refine own_go stz27 ?_
    show own_Go _ _ _ _ Tz27 (mkF m 108 #[.val (.int p1), .val (.int p2), .val (.int (2 : Int32)), .val (.ref b), .val (.ref t2), .val (.int o), .val (.int (0 : Int32)), .val (.int (own_sg o))] [(.int o)])
    obtain ⟨vz28, Tz28, Lz28, Xz28, hQz28, stz28⟩ := own_callS Xz27 hx hZ hown (hw _ (List.mem_of_getElem? (i := 18) rfl)) (hw _ (List.mem_of_getElem? (i := 19) rfl)) (hw _ (List.mem_of_getElem? (i := 20) rfl)) (hw _ (List.mem_of_getElem? (i := 21) rfl)) (by decide) ehz27 (own_rm1 l Z a0 hw [] o hz16 n0) (W := 0) (by decide) (by decide) (by decide) (by decide) own_pd1 rfl (g := (mkF m 108 #[.val (.int p1), .val (.int p2), .val (.int (2 : Int32)), .val (.ref b), .val (.ref t2), .val (.int o), .val (.int (0 : Int32)), .val (.int (own_sg o))] [(.int o)])) (argsL := [(.int o)]) (rest := []) rfl (by rw [hml]; rfl) rfl (by show 2 * 0 + _ ≤ _; exact Nat.le_of_eq rfl) (hb hby at_108)
    obtain ⟨rfl, Nz28q, ehz28⟩ := hQz28
    have Nz28 := Fr.app Nz27 Nz28q
    refine own_go stz28 ?_
    show own_Go _ _ _ _ Tz28 (mkF m 111 #[.val (.int p1), .val (.int p2), .val (.int (2 : Int32)), .val (.ref b), .val (.ref t2), .val (.int o), .val (.int (0 : Int32)), .val (.int (own_sg o))] [(.int (own_sg o))])
    refine own_go (fun _ k => XS.iload Xz28.here hx rfl (hb hby at_111) rfl k) ?_
    show own_Go _ _ _ _ Tz28 (mkF m 113 #[.val (.int p1), .val (.int p2), .val (.int (2 : Int32)), .val (.ref b), .val (.ref t2), .val (.int o), .val (.int (0 : Int32)), .val (.int (own_sg o))] [(.int (own_sg o)), (.int (own_sg o))])
    refine own_go (fun _ k => XS.icmpNo Xz28.here hx rfl (hb hby at_113) rfl (teq rfl).2 k) ?_
    show own_Go _ _ _ _ Tz28 (mkF m 116 #[.val (.int p1), .val (.int p2), .val (.int (2 : Int32)), .val (.ref b), .val (.ref t2), .val (.int o), .val (.int (0 : Int32)), .val (.int (own_sg o))] [])
    refine own_go (fun _ k => XS.iconst Xz28.here hx rfl (hb hby at_116) k) ?_
    show own_Go _ _ _ _ Tz28 (mkF m 117 #[.val (.int p1), .val (.int p2), .val (.int (2 : Int32)), .val (.ref b), .val (.ref t2), .val (.int o), .val (.int (0 : Int32)), .val (.int (own_sg o))] [(.int (1 : Int32))])
    refine own_go (fun _ k => XS.goto Xz28.here hx rfl (pc0 := 117) (pc' := 121) rfl (hb hby at_117) (by decide) (by decide) k) ?_
    show own_Go _ _ _ _ Tz28 (mkF m 121 #[.val (.int p1), .val (.int p2), .val (.int (2 : Int32)), .val (.ref b), .val (.ref t2), .val (.int o), .val (.int (0 : Int32)), .val (.int (own_sg o))] [(.int (1 : Int32))])
    exact own_end Xz28 hlk (v := (some (.int (1 : Int32)))) (fun h => by rw [hret] at h; cases h) (fun fs hr => retN Xz28 hx (t := .boolean) hret (by simp) (hb hby at_121) hr) (by rw [ehz28]; exact ⟨rfl, Nz28⟩) (by decide) (by decide)
  · show own_Go _ _ _ _ Tz16 (mkF m 52 #[.val (.int p1), .val (.int p2), .val (.int (3 : Int32)), .val (.ref b), .unset, .unset, .unset, .unset] [(.int (3 : Int32)), (.ref b)])
    obtain ⟨clz29, Arz29, qz29, Sz29, Mz29, HHz29, Gz29⟩ := id V_b
    have hinz29 : ¬ ((3 : Int32) < 0 ∨ clz29.slots.size ≤ ((3 : Int32)).toNatClampNeg) := inb_of Sz29 ⟨(by decide), (by decide)⟩
    have hatz29 : clz29.slots[((3 : Int32)).toNatClampNeg]? = some (.ref t3) := HHz29.at hinz29 (rfl)
    refine own_go (fun _ k => Xz16.aaload hx (j := (3 : Int32)) (v := (.ref t3)) (by rw [ez16]; exact Arz29.1) (State.isArrayOf_alike hZ.alike Arz29.2.1) rfl Arz29.2.2 hinz29 hatz29 (g := (mkF m 52 #[.val (.int p1), .val (.int p2), .val (.int (3 : Int32)), .val (.ref b), .unset, .unset, .unset, .unset] [(.int (3 : Int32)), (.ref b)])) rfl rfl (hb hby at_52) _ k) ?_
    show own_Go _ _ _ _ Tz16 (mkF m 53 #[.val (.int p1), .val (.int p2), .val (.int (3 : Int32)), .val (.ref b), .unset, .unset, .unset, .unset] [(.ref t3)])
    refine own_go (fun _ k => XS.astore Xz16.here hx rfl (hb hby at_53) rfl rfl (l' := #[.val (.int p1), .val (.int p2), .val (.int (3 : Int32)), .val (.ref b), .val (.ref t3), .unset, .unset, .unset]) rfl k) ?_
    show own_Go _ _ _ _ Tz16 (mkF m 55 #[.val (.int p1), .val (.int p2), .val (.int (3 : Int32)), .val (.ref b), .val (.ref t3), .unset, .unset, .unset] [])
    refine own_go (fun _ k => XS.iloadN Xz16.here hx rfl (hb hby at_55) rfl k) ?_
    show own_Go _ _ _ _ Tz16 (mkF m 56 #[.val (.int p1), .val (.int p2), .val (.int (3 : Int32)), .val (.ref b), .val (.ref t3), .unset, .unset, .unset] [(.int p2)])
    refine own_go (fun _ k => Xz16.ldcInt hx hown (mvT hZ (hw _ (List.mem_of_getElem? (i := 17) rfl))) (g := (mkF m 56 #[.val (.int p1), .val (.int p2), .val (.int (3 : Int32)), .val (.ref b), .val (.ref t3), .unset, .unset, .unset] [(.int p2)])) rfl (hb hby at_56) _ k) ?_
    show own_Go _ _ _ _ Tz16 (mkF m 58 #[.val (.int p1), .val (.int p2), .val (.int (3 : Int32)), .val (.ref b), .val (.ref t3), .unset, .unset, .unset] [(.int (-2147483648 : Int32)), (.int p2)])
    refine own_dia (α := Int32) (C := p2 = (-2147483648 : Int32)) (v1 := (-1 : Int32)) (v0 := p2) (f := fun v => (mkF m 66 #[.val (.int p1), .val (.int p2), .val (.int (3 : Int32)), .val (.ref b), .val (.ref t3), .unset, .unset, .unset] ((.int v) :: []))) (T' := Tz16) (fun hC k => ?_) (fun hC k => ?_) ?_
    · show own_Go _ _ _ _ Tz16 (mkF m 58 #[.val (.int p1), .val (.int p2), .val (.int (3 : Int32)), .val (.ref b), .val (.ref t3), .unset, .unset, .unset] [(.int (-2147483648 : Int32)), (.int p2)])
      refine own_go (fun _ k => XS.icmpNo Xz16.here hx rfl (hb hby at_58) rfl (teq hC).2 k) ?_
      show own_Go _ _ _ _ Tz16 (mkF m 61 #[.val (.int p1), .val (.int p2), .val (.int (3 : Int32)), .val (.ref b), .val (.ref t3), .unset, .unset, .unset] [])
      refine own_go (fun _ k => XS.iconst Xz16.here hx rfl (hb hby at_61) k) ?_
      show own_Go _ _ _ _ Tz16 (mkF m 62 #[.val (.int p1), .val (.int p2), .val (.int (3 : Int32)), .val (.ref b), .val (.ref t3), .unset, .unset, .unset] [(.int (-1 : Int32))])
      refine own_go (fun _ k => XS.goto Xz16.here hx rfl (pc0 := 62) (pc' := 66) rfl (hb hby at_62) (by decide) (by decide) k) ?_
      show own_Go _ _ _ _ Tz16 (mkF m 66 #[.val (.int p1), .val (.int p2), .val (.int (3 : Int32)), .val (.ref b), .val (.ref t3), .unset, .unset, .unset] [(.int (-1 : Int32))])
      exact k
    · show own_Go _ _ _ _ Tz16 (mkF m 58 #[.val (.int p1), .val (.int p2), .val (.int (3 : Int32)), .val (.ref b), .val (.ref t3), .unset, .unset, .unset] [(.int (-2147483648 : Int32)), (.int p2)])
      refine own_go (fun _ k => XS.icmpYes Xz16.here hx rfl (pc0 := 58) (pc' := 65) rfl (hb hby at_58) rfl (feq hC).2 (by decide) (by decide) k) ?_
      show own_Go _ _ _ _ Tz16 (mkF m 65 #[.val (.int p1), .val (.int p2), .val (.int (3 : Int32)), .val (.ref b), .val (.ref t3), .unset, .unset, .unset] [])
      refine own_go (fun _ k => XS.iloadN Xz16.here hx rfl (hb hby at_65) rfl k) ?_
      show own_Go _ _ _ _ Tz16 (mkF m 66 #[.val (.int p1), .val (.int p2), .val (.int (3 : Int32)), .val (.ref b), .val (.ref t3), .unset, .unset, .unset] [(.int p2)])
      exact k
    show own_Go _ _ _ _ Tz16 (mkF m 66 #[.val (.int p1), .val (.int p2), .val (.int (3 : Int32)), .val (.ref b), .val (.ref t3), .unset, .unset, .unset] [(.int (if p2 = (-2147483648 : Int32) then (-1 : Int32) else p2))])
    obtain ⟨o, ho⟩ : ∃ z, z = (if p2 = (-2147483648 : Int32) then (-1 : Int32) else p2) := ⟨_, rfl⟩
    have hok := own_ok p2
    rw [← ho] at hok
    rw [← ho]
    show own_Go _ _ _ _ Tz16 (mkF m 66 #[.val (.int p1), .val (.int p2), .val (.int (3 : Int32)), .val (.ref b), .val (.ref t3), .unset, .unset, .unset] [(.int o)])
    refine own_go (fun _ k => XS.istore Xz16.here hx rfl (hb hby at_66) rfl (l' := #[.val (.int p1), .val (.int p2), .val (.int (3 : Int32)), .val (.ref b), .val (.ref t3), .val (.int o), .unset, .unset]) rfl k) ?_
    show own_Go _ _ _ _ Tz16 (mkF m 68 #[.val (.int p1), .val (.int p2), .val (.int (3 : Int32)), .val (.ref b), .val (.ref t3), .val (.int o), .unset, .unset] [])
    refine own_go (fun _ k => XS.iloadN Xz16.here hx rfl (hb hby at_68) rfl k) ?_
    show own_Go _ _ _ _ Tz16 (mkF m 69 #[.val (.int p1), .val (.int p2), .val (.int (3 : Int32)), .val (.ref b), .val (.ref t3), .val (.int o), .unset, .unset] [(.int (3 : Int32))])
    refine own_go (fun _ k => XS.iconst Xz16.here hx rfl (hb hby at_69) k) ?_
    show own_Go _ _ _ _ Tz16 (mkF m 70 #[.val (.int p1), .val (.int p2), .val (.int (3 : Int32)), .val (.ref b), .val (.ref t3), .val (.int o), .unset, .unset] [(.int (2 : Int32)), (.int (3 : Int32))])
    refine own_go (fun _ k => XS.icmpYes Xz16.here hx rfl (pc0 := 70) (pc' := 77) rfl (hb hby at_70) rfl (flt (by decide : ¬ ((3 : Int32) < (2 : Int32)))).2.1 (by decide) (by decide) k) ?_
    show own_Go _ _ _ _ Tz16 (mkF m 77 #[.val (.int p1), .val (.int p2), .val (.int (3 : Int32)), .val (.ref b), .val (.ref t3), .val (.int o), .unset, .unset] [])
    refine own_go (fun _ k => XS.iconst Xz16.here hx rfl (hb hby at_77) k) ?_
    show own_Go _ _ _ _ Tz16 (mkF m 78 #[.val (.int p1), .val (.int p2), .val (.int (3 : Int32)), .val (.ref b), .val (.ref t3), .val (.int o), .unset, .unset] [(.int (0 : Int32))])
    refine own_go (fun _ k => XS.istore Xz16.here hx rfl (hb hby at_78) rfl (l' := #[.val (.int p1), .val (.int p2), .val (.int (3 : Int32)), .val (.ref b), .val (.ref t3), .val (.int o), .val (.int (0 : Int32)), .unset]) rfl k) ?_
    show own_Go _ _ _ _ Tz16 (mkF m 80 #[.val (.int p1), .val (.int p2), .val (.int (3 : Int32)), .val (.ref b), .val (.ref t3), .val (.int o), .val (.int (0 : Int32)), .unset] [])
    refine own_go (fun _ k => XS.iload Xz16.here hx rfl (hb hby at_80) rfl k) ?_
    show own_Go _ _ _ _ Tz16 (mkF m 82 #[.val (.int p1), .val (.int p2), .val (.int (3 : Int32)), .val (.ref b), .val (.ref t3), .val (.int o), .val (.int (0 : Int32)), .unset] [(.int (0 : Int32))])
    refine own_go (fun _ k => XS.ifYes Xz16.here hx rfl (pc0 := 82) (pc' := 94) rfl (hb hby at_82) rfl ((if0 _ _).trans (teq (by decide : (0 : Int32) = (0 : Int32))).1) (by decide) (by decide) k) ?_
    show own_Go _ _ _ _ Tz16 (mkF m 94 #[.val (.int p1), .val (.int p2), .val (.int (3 : Int32)), .val (.ref b), .val (.ref t3), .val (.int o), .val (.int (0 : Int32)), .unset] [])
    refine own_go (fun _ k => XS.iload Xz16.here hx rfl (hb hby at_94) rfl k) ?_
    show own_Go _ _ _ _ Tz16 (mkF m 96 #[.val (.int p1), .val (.int p2), .val (.int (3 : Int32)), .val (.ref b), .val (.ref t3), .val (.int o), .val (.int (0 : Int32)), .unset] [(.int o)])
    obtain ⟨vz30, Tz30, Lz30, Xz30, hQz30, stz30⟩ := own_callS Xz16 hx hZ hown (hw _ (List.mem_of_getElem? (i := 18) rfl)) (hw _ (List.mem_of_getElem? (i := 19) rfl)) (hw _ (List.mem_of_getElem? (i := 20) rfl)) (hw _ (List.mem_of_getElem? (i := 21) rfl)) (by decide) ez16 (own_rm1 l Z a0 hw [] o hz16 n0) (W := 0) (by decide) (by decide) (by decide) (by decide) own_pd1 rfl (g := (mkF m 96 #[.val (.int p1), .val (.int p2), .val (.int (3 : Int32)), .val (.ref b), .val (.ref t3), .val (.int o), .val (.int (0 : Int32)), .unset] [(.int o)])) (argsL := [(.int o)]) (rest := []) rfl (by rw [hml]; rfl) rfl (by show 2 * 0 + _ ≤ _; exact Nat.le_of_eq rfl) (hb hby at_96)
    obtain ⟨rfl, Nz30q, ehz30⟩ := hQz30
    have Nz30 := Fr.app Nz16 Nz30q
    refine own_go stz30 ?_
    show own_Go _ _ _ _ Tz30 (mkF m 99 #[.val (.int p1), .val (.int p2), .val (.int (3 : Int32)), .val (.ref b), .val (.ref t3), .val (.int o), .val (.int (0 : Int32)), .unset] [(.int (own_sg o))])
    refine own_go (fun _ k => XS.istore Xz30.here hx rfl (hb hby at_99) rfl (l' := #[.val (.int p1), .val (.int p2), .val (.int (3 : Int32)), .val (.ref b), .val (.ref t3), .val (.int o), .val (.int (0 : Int32)), .val (.int (own_sg o))]) rfl k) ?_
    show own_Go _ _ _ _ Tz30 (mkF m 101 #[.val (.int p1), .val (.int p2), .val (.int (3 : Int32)), .val (.ref b), .val (.ref t3), .val (.int o), .val (.int (0 : Int32)), .val (.int (own_sg o))] [])
    refine own_go (fun _ k => XS.aload Xz30.here hx rfl (hb hby at_101) rfl rfl k) ?_
    show own_Go _ _ _ _ Tz30 (mkF m 103 #[.val (.int p1), .val (.int p2), .val (.int (3 : Int32)), .val (.ref b), .val (.ref t3), .val (.int o), .val (.int (0 : Int32)), .val (.int (own_sg o))] [(.ref t3)])
    refine own_go (fun _ k => XS.iload Xz30.here hx rfl (hb hby at_103) rfl k) ?_
    show own_Go _ _ _ _ Tz30 (mkF m 105 #[.val (.int p1), .val (.int p2), .val (.int (3 : Int32)), .val (.ref b), .val (.ref t3), .val (.int o), .val (.int (0 : Int32)), .val (.int (own_sg o))] [(.int o), (.ref t3)])
    have E_t := E3.ext O.2
    obtain ⟨vz31, Tz31, Lz31, Xz31, hQz31, stz31⟩ := own_callV Xz30 hx hZ hown (hw _ (List.mem_of_getElem? (i := 22) rfl)) (hw _ (List.mem_of_getElem? (i := 23) rfl)) (hw _ (List.mem_of_getElem? (i := 25) rfl)) (hw _ (List.mem_of_getElem? (i := 24) rfl)) (hw _ (List.mem_of_getElem? (i := 4) rfl)) (hw _ (List.mem_of_getElem? (i := 26) rfl)) (by decide) ehz30 E_t (own_rm2 l Z a0 hw [] t3 o hz16 n0 t0 t1 (1 : Int32) O S0 S1 (by rw [if_neg n03.symm, if_neg n13.symm]) E_t) (W := 0) (by decide) (by decide) (by decide) (by decide) own_pd1 rfl (g := (mkF m 105 #[.val (.int p1), .val (.int p2), .val (.int (3 : Int32)), .val (.ref b), .val (.ref t3), .val (.int o), .val (.int (0 : Int32)), .val (.int (own_sg o))] [(.int o), (.ref t3)])) (argsL := [(.int o)]) (rest := []) rfl (by rw [hml]; rfl) rfl (by show 2 * 0 + _ ≤ _; exact Nat.le_of_eq rfl) (hb hby at_105)
    obtain ⟨rfl, Nz31q, ehz31⟩ := hQz31
    have Nz31 := Fr.app Nz30 Nz31q
    refine own_go stz31 ?_
    show own_Go _ _ _ _ Tz31 (mkF m 108 #[.val (.int p1), .val (.int p2), .val (.int (3 : Int32)), .val (.ref b), .val (.ref t3), .val (.int o), .val (.int (0 : Int32)), .val (.int (own_sg o))] [(.int o)])
    obtain ⟨vz32, Tz32, Lz32, Xz32, hQz32, stz32⟩ := own_callS Xz31 hx hZ hown (hw _ (List.mem_of_getElem? (i := 18) rfl)) (hw _ (List.mem_of_getElem? (i := 19) rfl)) (hw _ (List.mem_of_getElem? (i := 20) rfl)) (hw _ (List.mem_of_getElem? (i := 21) rfl)) (by decide) ehz31 (own_rm1 l Z a0 hw [] o hz16 n0) (W := 0) (by decide) (by decide) (by decide) (by decide) own_pd1 rfl (g := (mkF m 108 #[.val (.int p1), .val (.int p2), .val (.int (3 : Int32)), .val (.ref b), .val (.ref t3), .val (.int o), .val (.int (0 : Int32)), .val (.int (own_sg o))] [(.int o)])) (argsL := [(.int o)]) (rest := []) rfl (by rw [hml]; rfl) rfl (by show 2 * 0 + _ ≤ _; exact Nat.le_of_eq rfl) (hb hby at_108)
    obtain ⟨rfl, Nz32q, ehz32⟩ := hQz32
    have Nz32 := Fr.app Nz31 Nz32q
    refine own_go stz32 ?_
    show own_Go _ _ _ _ Tz32 (mkF m 111 #[.val (.int p1), .val (.int p2), .val (.int (3 : Int32)), .val (.ref b), .val (.ref t3), .val (.int o), .val (.int (0 : Int32)), .val (.int (own_sg o))] [(.int (own_sg o))])
    refine own_go (fun _ k => XS.iload Xz32.here hx rfl (hb hby at_111) rfl k) ?_
    show own_Go _ _ _ _ Tz32 (mkF m 113 #[.val (.int p1), .val (.int p2), .val (.int (3 : Int32)), .val (.ref b), .val (.ref t3), .val (.int o), .val (.int (0 : Int32)), .val (.int (own_sg o))] [(.int (own_sg o)), (.int (own_sg o))])
    refine own_go (fun _ k => XS.icmpNo Xz32.here hx rfl (hb hby at_113) rfl (teq rfl).2 k) ?_
    show own_Go _ _ _ _ Tz32 (mkF m 116 #[.val (.int p1), .val (.int p2), .val (.int (3 : Int32)), .val (.ref b), .val (.ref t3), .val (.int o), .val (.int (0 : Int32)), .val (.int (own_sg o))] [])
    refine own_go (fun _ k => XS.iconst Xz32.here hx rfl (hb hby at_116) k) ?_
    show own_Go _ _ _ _ Tz32 (mkF m 117 #[.val (.int p1), .val (.int p2), .val (.int (3 : Int32)), .val (.ref b), .val (.ref t3), .val (.int o), .val (.int (0 : Int32)), .val (.int (own_sg o))] [(.int (1 : Int32))])
    refine own_go (fun _ k => XS.goto Xz32.here hx rfl (pc0 := 117) (pc' := 121) rfl (hb hby at_117) (by decide) (by decide) k) ?_
    show own_Go _ _ _ _ Tz32 (mkF m 121 #[.val (.int p1), .val (.int p2), .val (.int (3 : Int32)), .val (.ref b), .val (.ref t3), .val (.int o), .val (.int (0 : Int32)), .val (.int (own_sg o))] [(.int (1 : Int32))])
    exact own_end Xz32 hlk (v := (some (.int (1 : Int32)))) (fun h => by rw [hret] at h; cases h) (fun fs hr => retN Xz32 hx (t := .boolean) hret (by simp) (hb hby at_121) hr) (by rw [ehz32]; exact ⟨rfl, Nz32⟩) (by decide) (by decide)
  · show own_Go _ _ _ _ Tz16 (mkF m 52 #[.val (.int p1), .val (.int p2), .val (.int (4 : Int32)), .val (.ref b), .unset, .unset, .unset, .unset] [(.int (4 : Int32)), (.ref b)])
    obtain ⟨clz33, Arz33, qz33, Sz33, Mz33, HHz33, Gz33⟩ := id V_b
    have hinz33 : ¬ ((4 : Int32) < 0 ∨ clz33.slots.size ≤ ((4 : Int32)).toNatClampNeg) := inb_of Sz33 ⟨(by decide), (by decide)⟩
    have hatz33 : clz33.slots[((4 : Int32)).toNatClampNeg]? = some (.ref t4) := HHz33.at hinz33 (rfl)
    refine own_go (fun _ k => Xz16.aaload hx (j := (4 : Int32)) (v := (.ref t4)) (by rw [ez16]; exact Arz33.1) (State.isArrayOf_alike hZ.alike Arz33.2.1) rfl Arz33.2.2 hinz33 hatz33 (g := (mkF m 52 #[.val (.int p1), .val (.int p2), .val (.int (4 : Int32)), .val (.ref b), .unset, .unset, .unset, .unset] [(.int (4 : Int32)), (.ref b)])) rfl rfl (hb hby at_52) _ k) ?_
    show own_Go _ _ _ _ Tz16 (mkF m 53 #[.val (.int p1), .val (.int p2), .val (.int (4 : Int32)), .val (.ref b), .unset, .unset, .unset, .unset] [(.ref t4)])
    refine own_go (fun _ k => XS.astore Xz16.here hx rfl (hb hby at_53) rfl rfl (l' := #[.val (.int p1), .val (.int p2), .val (.int (4 : Int32)), .val (.ref b), .val (.ref t4), .unset, .unset, .unset]) rfl k) ?_
    show own_Go _ _ _ _ Tz16 (mkF m 55 #[.val (.int p1), .val (.int p2), .val (.int (4 : Int32)), .val (.ref b), .val (.ref t4), .unset, .unset, .unset] [])
    refine own_go (fun _ k => XS.iloadN Xz16.here hx rfl (hb hby at_55) rfl k) ?_
    show own_Go _ _ _ _ Tz16 (mkF m 56 #[.val (.int p1), .val (.int p2), .val (.int (4 : Int32)), .val (.ref b), .val (.ref t4), .unset, .unset, .unset] [(.int p2)])
    refine own_go (fun _ k => Xz16.ldcInt hx hown (mvT hZ (hw _ (List.mem_of_getElem? (i := 17) rfl))) (g := (mkF m 56 #[.val (.int p1), .val (.int p2), .val (.int (4 : Int32)), .val (.ref b), .val (.ref t4), .unset, .unset, .unset] [(.int p2)])) rfl (hb hby at_56) _ k) ?_
    show own_Go _ _ _ _ Tz16 (mkF m 58 #[.val (.int p1), .val (.int p2), .val (.int (4 : Int32)), .val (.ref b), .val (.ref t4), .unset, .unset, .unset] [(.int (-2147483648 : Int32)), (.int p2)])
    refine own_dia (α := Int32) (C := p2 = (-2147483648 : Int32)) (v1 := (-1 : Int32)) (v0 := p2) (f := fun v => (mkF m 66 #[.val (.int p1), .val (.int p2), .val (.int (4 : Int32)), .val (.ref b), .val (.ref t4), .unset, .unset, .unset] ((.int v) :: []))) (T' := Tz16) (fun hC k => ?_) (fun hC k => ?_) ?_
    · show own_Go _ _ _ _ Tz16 (mkF m 58 #[.val (.int p1), .val (.int p2), .val (.int (4 : Int32)), .val (.ref b), .val (.ref t4), .unset, .unset, .unset] [(.int (-2147483648 : Int32)), (.int p2)])
      refine own_go (fun _ k => XS.icmpNo Xz16.here hx rfl (hb hby at_58) rfl (teq hC).2 k) ?_
      show own_Go _ _ _ _ Tz16 (mkF m 61 #[.val (.int p1), .val (.int p2), .val (.int (4 : Int32)), .val (.ref b), .val (.ref t4), .unset, .unset, .unset] [])
      refine own_go (fun _ k => XS.iconst Xz16.here hx rfl (hb hby at_61) k) ?_
      show own_Go _ _ _ _ Tz16 (mkF m 62 #[.val (.int p1), .val (.int p2), .val (.int (4 : Int32)), .val (.ref b), .val (.ref t4), .unset, .unset, .unset] [(.int (-1 : Int32))])
      refine own_go (fun _ k => XS.goto Xz16.here hx rfl (pc0 := 62) (pc' := 66) rfl (hb hby at_62) (by decide) (by decide) k) ?_
      show own_Go _ _ _ _ Tz16 (mkF m 66 #[.val (.int p1), .val (.int p2), .val (.int (4 : Int32)), .val (.ref b), .val (.ref t4), .unset, .unset, .unset] [(.int (-1 : Int32))])
      exact k
    · show own_Go _ _ _ _ Tz16 (mkF m 58 #[.val (.int p1), .val (.int p2), .val (.int (4 : Int32)), .val (.ref b), .val (.ref t4), .unset, .unset, .unset] [(.int (-2147483648 : Int32)), (.int p2)])
      refine own_go (fun _ k => XS.icmpYes Xz16.here hx rfl (pc0 := 58) (pc' := 65) rfl (hb hby at_58) rfl (feq hC).2 (by decide) (by decide) k) ?_
      show own_Go _ _ _ _ Tz16 (mkF m 65 #[.val (.int p1), .val (.int p2), .val (.int (4 : Int32)), .val (.ref b), .val (.ref t4), .unset, .unset, .unset] [])
      refine own_go (fun _ k => XS.iloadN Xz16.here hx rfl (hb hby at_65) rfl k) ?_
      show own_Go _ _ _ _ Tz16 (mkF m 66 #[.val (.int p1), .val (.int p2), .val (.int (4 : Int32)), .val (.ref b), .val (.ref t4), .unset, .unset, .unset] [(.int p2)])
      exact k
    show own_Go _ _ _ _ Tz16 (mkF m 66 #[.val (.int p1), .val (.int p2), .val (.int (4 : Int32)), .val (.ref b), .val (.ref t4), .unset, .unset, .unset] [(.int (if p2 = (-2147483648 : Int32) then (-1 : Int32) else p2))])
    obtain ⟨o, ho⟩ : ∃ z, z = (if p2 = (-2147483648 : Int32) then (-1 : Int32) else p2) := ⟨_, rfl⟩
    have hok := own_ok p2
    rw [← ho] at hok
    rw [← ho]
    show own_Go _ _ _ _ Tz16 (mkF m 66 #[.val (.int p1), .val (.int p2), .val (.int (4 : Int32)), .val (.ref b), .val (.ref t4), .unset, .unset, .unset] [(.int o)])
    refine own_go (fun _ k => XS.istore Xz16.here hx rfl (hb hby at_66) rfl (l' := #[.val (.int p1), .val (.int p2), .val (.int (4 : Int32)), .val (.ref b), .val (.ref t4), .val (.int o), .unset, .unset]) rfl k) ?_
    show own_Go _ _ _ _ Tz16 (mkF m 68 #[.val (.int p1), .val (.int p2), .val (.int (4 : Int32)), .val (.ref b), .val (.ref t4), .val (.int o), .unset, .unset] [])
    refine own_go (fun _ k => XS.iloadN Xz16.here hx rfl (hb hby at_68) rfl k) ?_
    show own_Go _ _ _ _ Tz16 (mkF m 69 #[.val (.int p1), .val (.int p2), .val (.int (4 : Int32)), .val (.ref b), .val (.ref t4), .val (.int o), .unset, .unset] [(.int (4 : Int32))])
    refine own_go (fun _ k => XS.iconst Xz16.here hx rfl (hb hby at_69) k) ?_
    show own_Go _ _ _ _ Tz16 (mkF m 70 #[.val (.int p1), .val (.int p2), .val (.int (4 : Int32)), .val (.ref b), .val (.ref t4), .val (.int o), .unset, .unset] [(.int (2 : Int32)), (.int (4 : Int32))])
    refine own_go (fun _ k => XS.icmpYes Xz16.here hx rfl (pc0 := 70) (pc' := 77) rfl (hb hby at_70) rfl (flt (by decide : ¬ ((4 : Int32) < (2 : Int32)))).2.1 (by decide) (by decide) k) ?_
    show own_Go _ _ _ _ Tz16 (mkF m 77 #[.val (.int p1), .val (.int p2), .val (.int (4 : Int32)), .val (.ref b), .val (.ref t4), .val (.int o), .unset, .unset] [])
    refine own_go (fun _ k => XS.iconst Xz16.here hx rfl (hb hby at_77) k) ?_
    show own_Go _ _ _ _ Tz16 (mkF m 78 #[.val (.int p1), .val (.int p2), .val (.int (4 : Int32)), .val (.ref b), .val (.ref t4), .val (.int o), .unset, .unset] [(.int (0 : Int32))])
    refine own_go (fun _ k => XS.istore Xz16.here hx rfl (hb hby at_78) rfl (l' := #[.val (.int p1), .val (.int p2), .val (.int (4 : Int32)), .val (.ref b), .val (.ref t4), .val (.int o), .val (.int (0 : Int32)), .unset]) rfl k) ?_
    show own_Go _ _ _ _ Tz16 (mkF m 80 #[.val (.int p1), .val (.int p2), .val (.int (4 : Int32)), .val (.ref b), .val (.ref t4), .val (.int o), .val (.int (0 : Int32)), .unset] [])
    refine own_go (fun _ k => XS.iload Xz16.here hx rfl (hb hby at_80) rfl k) ?_
    show own_Go _ _ _ _ Tz16 (mkF m 82 #[.val (.int p1), .val (.int p2), .val (.int (4 : Int32)), .val (.ref b), .val (.ref t4), .val (.int o), .val (.int (0 : Int32)), .unset] [(.int (0 : Int32))])
    refine own_go (fun _ k => XS.ifYes Xz16.here hx rfl (pc0 := 82) (pc' := 94) rfl (hb hby at_82) rfl ((if0 _ _).trans (teq (by decide : (0 : Int32) = (0 : Int32))).1) (by decide) (by decide) k) ?_
    show own_Go _ _ _ _ Tz16 (mkF m 94 #[.val (.int p1), .val (.int p2), .val (.int (4 : Int32)), .val (.ref b), .val (.ref t4), .val (.int o), .val (.int (0 : Int32)), .unset] [])
    refine own_go (fun _ k => XS.iload Xz16.here hx rfl (hb hby at_94) rfl k) ?_
    show own_Go _ _ _ _ Tz16 (mkF m 96 #[.val (.int p1), .val (.int p2), .val (.int (4 : Int32)), .val (.ref b), .val (.ref t4), .val (.int o), .val (.int (0 : Int32)), .unset] [(.int o)])
    obtain ⟨vz34, Tz34, Lz34, Xz34, hQz34, stz34⟩ := own_callS Xz16 hx hZ hown (hw _ (List.mem_of_getElem? (i := 18) rfl)) (hw _ (List.mem_of_getElem? (i := 19) rfl)) (hw _ (List.mem_of_getElem? (i := 20) rfl)) (hw _ (List.mem_of_getElem? (i := 21) rfl)) (by decide) ez16 (own_rm1 l Z a0 hw [] o hz16 n0) (W := 0) (by decide) (by decide) (by decide) (by decide) own_pd1 rfl (g := (mkF m 96 #[.val (.int p1), .val (.int p2), .val (.int (4 : Int32)), .val (.ref b), .val (.ref t4), .val (.int o), .val (.int (0 : Int32)), .unset] [(.int o)])) (argsL := [(.int o)]) (rest := []) rfl (by rw [hml]; rfl) rfl (by show 2 * 0 + _ ≤ _; exact Nat.le_of_eq rfl) (hb hby at_96)
    obtain ⟨rfl, Nz34q, ehz34⟩ := hQz34
    have Nz34 := Fr.app Nz16 Nz34q
    refine own_go stz34 ?_
    show own_Go _ _ _ _ Tz34 (mkF m 99 #[.val (.int p1), .val (.int p2), .val (.int (4 : Int32)), .val (.ref b), .val (.ref t4), .val (.int o), .val (.int (0 : Int32)), .unset] [(.int (own_sg o))])
    refine own_go (fun _ k => XS.istore Xz34.here hx rfl (hb hby at_99) rfl (l' := #[.val (.int p1), .val (.int p2), .val (.int (4 : Int32)), .val (.ref b), .val (.ref t4), .val (.int o), .val (.int (0 : Int32)), .val (.int (own_sg o))]) rfl k) ?_
    show own_Go _ _ _ _ Tz34 (mkF m 101 #[.val (.int p1), .val (.int p2), .val (.int (4 : Int32)), .val (.ref b), .val (.ref t4), .val (.int o), .val (.int (0 : Int32)), .val (.int (own_sg o))] [])
    refine own_go (fun _ k => XS.aload Xz34.here hx rfl (hb hby at_101) rfl rfl k) ?_
    show own_Go _ _ _ _ Tz34 (mkF m 103 #[.val (.int p1), .val (.int p2), .val (.int (4 : Int32)), .val (.ref b), .val (.ref t4), .val (.int o), .val (.int (0 : Int32)), .val (.int (own_sg o))] [(.ref t4)])
    refine own_go (fun _ k => XS.iload Xz34.here hx rfl (hb hby at_103) rfl k) ?_
    show own_Go _ _ _ _ Tz34 (mkF m 105 #[.val (.int p1), .val (.int p2), .val (.int (4 : Int32)), .val (.ref b), .val (.ref t4), .val (.int o), .val (.int (0 : Int32)), .val (.int (own_sg o))] [(.int o), (.ref t4)])
    have E_t := E4.ext O.2
    obtain ⟨vz35, Tz35, Lz35, Xz35, hQz35, stz35⟩ := own_callV Xz34 hx hZ hown (hw _ (List.mem_of_getElem? (i := 22) rfl)) (hw _ (List.mem_of_getElem? (i := 23) rfl)) (hw _ (List.mem_of_getElem? (i := 25) rfl)) (hw _ (List.mem_of_getElem? (i := 24) rfl)) (hw _ (List.mem_of_getElem? (i := 4) rfl)) (hw _ (List.mem_of_getElem? (i := 26) rfl)) (by decide) ehz34 E_t (own_rm2 l Z a0 hw [] t4 o hz16 n0 t0 t1 (1 : Int32) O S0 S1 (by rw [if_neg n04.symm, if_neg n14.symm]) E_t) (W := 0) (by decide) (by decide) (by decide) (by decide) own_pd1 rfl (g := (mkF m 105 #[.val (.int p1), .val (.int p2), .val (.int (4 : Int32)), .val (.ref b), .val (.ref t4), .val (.int o), .val (.int (0 : Int32)), .val (.int (own_sg o))] [(.int o), (.ref t4)])) (argsL := [(.int o)]) (rest := []) rfl (by rw [hml]; rfl) rfl (by show 2 * 0 + _ ≤ _; exact Nat.le_of_eq rfl) (hb hby at_105)
    obtain ⟨rfl, Nz35q, ehz35⟩ := hQz35
    have Nz35 := Fr.app Nz34 Nz35q
    refine own_go stz35 ?_
    show own_Go _ _ _ _ Tz35 (mkF m 108 #[.val (.int p1), .val (.int p2), .val (.int (4 : Int32)), .val (.ref b), .val (.ref t4), .val (.int o), .val (.int (0 : Int32)), .val (.int (own_sg o))] [(.int o)])
    obtain ⟨vz36, Tz36, Lz36, Xz36, hQz36, stz36⟩ := own_callS Xz35 hx hZ hown (hw _ (List.mem_of_getElem? (i := 18) rfl)) (hw _ (List.mem_of_getElem? (i := 19) rfl)) (hw _ (List.mem_of_getElem? (i := 20) rfl)) (hw _ (List.mem_of_getElem? (i := 21) rfl)) (by decide) ehz35 (own_rm1 l Z a0 hw [] o hz16 n0) (W := 0) (by decide) (by decide) (by decide) (by decide) own_pd1 rfl (g := (mkF m 108 #[.val (.int p1), .val (.int p2), .val (.int (4 : Int32)), .val (.ref b), .val (.ref t4), .val (.int o), .val (.int (0 : Int32)), .val (.int (own_sg o))] [(.int o)])) (argsL := [(.int o)]) (rest := []) rfl (by rw [hml]; rfl) rfl (by show 2 * 0 + _ ≤ _; exact Nat.le_of_eq rfl) (hb hby at_108)
    obtain ⟨rfl, Nz36q, ehz36⟩ := hQz36
    have Nz36 := Fr.app Nz35 Nz36q
    refine own_go stz36 ?_
    show own_Go _ _ _ _ Tz36 (mkF m 111 #[.val (.int p1), .val (.int p2), .val (.int (4 : Int32)), .val (.ref b), .val (.ref t4), .val (.int o), .val (.int (0 : Int32)), .val (.int (own_sg o))] [(.int (own_sg o))])
    refine own_go (fun _ k => XS.iload Xz36.here hx rfl (hb hby at_111) rfl k) ?_
    show own_Go _ _ _ _ Tz36 (mkF m 113 #[.val (.int p1), .val (.int p2), .val (.int (4 : Int32)), .val (.ref b), .val (.ref t4), .val (.int o), .val (.int (0 : Int32)), .val (.int (own_sg o))] [(.int (own_sg o)), (.int (own_sg o))])
    refine own_go (fun _ k => XS.icmpNo Xz36.here hx rfl (hb hby at_113) rfl (teq rfl).2 k) ?_
    show own_Go _ _ _ _ Tz36 (mkF m 116 #[.val (.int p1), .val (.int p2), .val (.int (4 : Int32)), .val (.ref b), .val (.ref t4), .val (.int o), .val (.int (0 : Int32)), .val (.int (own_sg o))] [])
    refine own_go (fun _ k => XS.iconst Xz36.here hx rfl (hb hby at_116) k) ?_
    show own_Go _ _ _ _ Tz36 (mkF m 117 #[.val (.int p1), .val (.int p2), .val (.int (4 : Int32)), .val (.ref b), .val (.ref t4), .val (.int o), .val (.int (0 : Int32)), .val (.int (own_sg o))] [(.int (1 : Int32))])
    refine own_go (fun _ k => XS.goto Xz36.here hx rfl (pc0 := 117) (pc' := 121) rfl (hb hby at_117) (by decide) (by decide) k) ?_
    show own_Go _ _ _ _ Tz36 (mkF m 121 #[.val (.int p1), .val (.int p2), .val (.int (4 : Int32)), .val (.ref b), .val (.ref t4), .val (.int o), .val (.int (0 : Int32)), .val (.int (own_sg o))] [(.int (1 : Int32))])
    exact own_end Xz36 hlk (v := (some (.int (1 : Int32)))) (fun h => by rw [hret] at h; cases h) (fun fs hr => retN Xz36 hx (t := .boolean) hret (by simp) (hb hby at_121) hr) (by rw [ehz36]; exact ⟨rfl, Nz36⟩) (by decide) (by decide)
  · show own_Go _ _ _ _ Tz16 (mkF m 52 #[.val (.int p1), .val (.int p2), .val (.int (5 : Int32)), .val (.ref b), .unset, .unset, .unset, .unset] [(.int (5 : Int32)), (.ref b)])
    obtain ⟨clz37, Arz37, qz37, Sz37, Mz37, HHz37, Gz37⟩ := id V_b
    have hinz37 : ¬ ((5 : Int32) < 0 ∨ clz37.slots.size ≤ ((5 : Int32)).toNatClampNeg) := inb_of Sz37 ⟨(by decide), (by decide)⟩
    have hatz37 : clz37.slots[((5 : Int32)).toNatClampNeg]? = some (.ref t5) := HHz37.at hinz37 (rfl)
    refine own_go (fun _ k => Xz16.aaload hx (j := (5 : Int32)) (v := (.ref t5)) (by rw [ez16]; exact Arz37.1) (State.isArrayOf_alike hZ.alike Arz37.2.1) rfl Arz37.2.2 hinz37 hatz37 (g := (mkF m 52 #[.val (.int p1), .val (.int p2), .val (.int (5 : Int32)), .val (.ref b), .unset, .unset, .unset, .unset] [(.int (5 : Int32)), (.ref b)])) rfl rfl (hb hby at_52) _ k) ?_
    show own_Go _ _ _ _ Tz16 (mkF m 53 #[.val (.int p1), .val (.int p2), .val (.int (5 : Int32)), .val (.ref b), .unset, .unset, .unset, .unset] [(.ref t5)])
    refine own_go (fun _ k => XS.astore Xz16.here hx rfl (hb hby at_53) rfl rfl (l' := #[.val (.int p1), .val (.int p2), .val (.int (5 : Int32)), .val (.ref b), .val (.ref t5), .unset, .unset, .unset]) rfl k) ?_
    show own_Go _ _ _ _ Tz16 (mkF m 55 #[.val (.int p1), .val (.int p2), .val (.int (5 : Int32)), .val (.ref b), .val (.ref t5), .unset, .unset, .unset] [])
    refine own_go (fun _ k => XS.iloadN Xz16.here hx rfl (hb hby at_55) rfl k) ?_
    show own_Go _ _ _ _ Tz16 (mkF m 56 #[.val (.int p1), .val (.int p2), .val (.int (5 : Int32)), .val (.ref b), .val (.ref t5), .unset, .unset, .unset] [(.int p2)])
    refine own_go (fun _ k => Xz16.ldcInt hx hown (mvT hZ (hw _ (List.mem_of_getElem? (i := 17) rfl))) (g := (mkF m 56 #[.val (.int p1), .val (.int p2), .val (.int (5 : Int32)), .val (.ref b), .val (.ref t5), .unset, .unset, .unset] [(.int p2)])) rfl (hb hby at_56) _ k) ?_
    show own_Go _ _ _ _ Tz16 (mkF m 58 #[.val (.int p1), .val (.int p2), .val (.int (5 : Int32)), .val (.ref b), .val (.ref t5), .unset, .unset, .unset] [(.int (-2147483648 : Int32)), (.int p2)])
    refine own_dia (α := Int32) (C := p2 = (-2147483648 : Int32)) (v1 := (-1 : Int32)) (v0 := p2) (f := fun v => (mkF m 66 #[.val (.int p1), .val (.int p2), .val (.int (5 : Int32)), .val (.ref b), .val (.ref t5), .unset, .unset, .unset] ((.int v) :: []))) (T' := Tz16) (fun hC k => ?_) (fun hC k => ?_) ?_
    · show own_Go _ _ _ _ Tz16 (mkF m 58 #[.val (.int p1), .val (.int p2), .val (.int (5 : Int32)), .val (.ref b), .val (.ref t5), .unset, .unset, .unset] [(.int (-2147483648 : Int32)), (.int p2)])
      refine own_go (fun _ k => XS.icmpNo Xz16.here hx rfl (hb hby at_58) rfl (teq hC).2 k) ?_
      show own_Go _ _ _ _ Tz16 (mkF m 61 #[.val (.int p1), .val (.int p2), .val (.int (5 : Int32)), .val (.ref b), .val (.ref t5), .unset, .unset, .unset] [])
      refine own_go (fun _ k => XS.iconst Xz16.here hx rfl (hb hby at_61) k) ?_
      show own_Go _ _ _ _ Tz16 (mkF m 62 #[.val (.int p1), .val (.int p2), .val (.int (5 : Int32)), .val (.ref b), .val (.ref t5), .unset, .unset, .unset] [(.int (-1 : Int32))])
      refine own_go (fun _ k => XS.goto Xz16.here hx rfl (pc0 := 62) (pc' := 66) rfl (hb hby at_62) (by decide) (by decide) k) ?_
      show own_Go _ _ _ _ Tz16 (mkF m 66 #[.val (.int p1), .val (.int p2), .val (.int (5 : Int32)), .val (.ref b), .val (.ref t5), .unset, .unset, .unset] [(.int (-1 : Int32))])
      exact k
    · show own_Go _ _ _ _ Tz16 (mkF m 58 #[.val (.int p1), .val (.int p2), .val (.int (5 : Int32)), .val (.ref b), .val (.ref t5), .unset, .unset, .unset] [(.int (-2147483648 : Int32)), (.int p2)])
      refine own_go (fun _ k => XS.icmpYes Xz16.here hx rfl (pc0 := 58) (pc' := 65) rfl (hb hby at_58) rfl (feq hC).2 (by decide) (by decide) k) ?_
      show own_Go _ _ _ _ Tz16 (mkF m 65 #[.val (.int p1), .val (.int p2), .val (.int (5 : Int32)), .val (.ref b), .val (.ref t5), .unset, .unset, .unset] [])
      refine own_go (fun _ k => XS.iloadN Xz16.here hx rfl (hb hby at_65) rfl k) ?_
      show own_Go _ _ _ _ Tz16 (mkF m 66 #[.val (.int p1), .val (.int p2), .val (.int (5 : Int32)), .val (.ref b), .val (.ref t5), .unset, .unset, .unset] [(.int p2)])
      exact k
    show own_Go _ _ _ _ Tz16 (mkF m 66 #[.val (.int p1), .val (.int p2), .val (.int (5 : Int32)), .val (.ref b), .val (.ref t5), .unset, .unset, .unset] [(.int (if p2 = (-2147483648 : Int32) then (-1 : Int32) else p2))])
    obtain ⟨o, ho⟩ : ∃ z, z = (if p2 = (-2147483648 : Int32) then (-1 : Int32) else p2) := ⟨_, rfl⟩
    have hok := own_ok p2
    rw [← ho] at hok
    rw [← ho]
    show own_Go _ _ _ _ Tz16 (mkF m 66 #[.val (.int p1), .val (.int p2), .val (.int (5 : Int32)), .val (.ref b), .val (.ref t5), .unset, .unset, .unset] [(.int o)])
    refine own_go (fun _ k => XS.istore Xz16.here hx rfl (hb hby at_66) rfl (l' := #[.val (.int p1), .val (.int p2), .val (.int (5 : Int32)), .val (.ref b), .val (.ref t5), .val (.int o), .unset, .unset]) rfl k) ?_
    show own_Go _ _ _ _ Tz16 (mkF m 68 #[.val (.int p1), .val (.int p2), .val (.int (5 : Int32)), .val (.ref b), .val (.ref t5), .val (.int o), .unset, .unset] [])
    refine own_go (fun _ k => XS.iloadN Xz16.here hx rfl (hb hby at_68) rfl k) ?_
    show own_Go _ _ _ _ Tz16 (mkF m 69 #[.val (.int p1), .val (.int p2), .val (.int (5 : Int32)), .val (.ref b), .val (.ref t5), .val (.int o), .unset, .unset] [(.int (5 : Int32))])
    refine own_go (fun _ k => XS.iconst Xz16.here hx rfl (hb hby at_69) k) ?_
    show own_Go _ _ _ _ Tz16 (mkF m 70 #[.val (.int p1), .val (.int p2), .val (.int (5 : Int32)), .val (.ref b), .val (.ref t5), .val (.int o), .unset, .unset] [(.int (2 : Int32)), (.int (5 : Int32))])
    refine own_go (fun _ k => XS.icmpYes Xz16.here hx rfl (pc0 := 70) (pc' := 77) rfl (hb hby at_70) rfl (flt (by decide : ¬ ((5 : Int32) < (2 : Int32)))).2.1 (by decide) (by decide) k) ?_
    show own_Go _ _ _ _ Tz16 (mkF m 77 #[.val (.int p1), .val (.int p2), .val (.int (5 : Int32)), .val (.ref b), .val (.ref t5), .val (.int o), .unset, .unset] [])
    refine own_go (fun _ k => XS.iconst Xz16.here hx rfl (hb hby at_77) k) ?_
    show own_Go _ _ _ _ Tz16 (mkF m 78 #[.val (.int p1), .val (.int p2), .val (.int (5 : Int32)), .val (.ref b), .val (.ref t5), .val (.int o), .unset, .unset] [(.int (0 : Int32))])
    refine own_go (fun _ k => XS.istore Xz16.here hx rfl (hb hby at_78) rfl (l' := #[.val (.int p1), .val (.int p2), .val (.int (5 : Int32)), .val (.ref b), .val (.ref t5), .val (.int o), .val (.int (0 : Int32)), .unset]) rfl k) ?_
    show own_Go _ _ _ _ Tz16 (mkF m 80 #[.val (.int p1), .val (.int p2), .val (.int (5 : Int32)), .val (.ref b), .val (.ref t5), .val (.int o), .val (.int (0 : Int32)), .unset] [])
    refine own_go (fun _ k => XS.iload Xz16.here hx rfl (hb hby at_80) rfl k) ?_
    show own_Go _ _ _ _ Tz16 (mkF m 82 #[.val (.int p1), .val (.int p2), .val (.int (5 : Int32)), .val (.ref b), .val (.ref t5), .val (.int o), .val (.int (0 : Int32)), .unset] [(.int (0 : Int32))])
    refine own_go (fun _ k => XS.ifYes Xz16.here hx rfl (pc0 := 82) (pc' := 94) rfl (hb hby at_82) rfl ((if0 _ _).trans (teq (by decide : (0 : Int32) = (0 : Int32))).1) (by decide) (by decide) k) ?_
    show own_Go _ _ _ _ Tz16 (mkF m 94 #[.val (.int p1), .val (.int p2), .val (.int (5 : Int32)), .val (.ref b), .val (.ref t5), .val (.int o), .val (.int (0 : Int32)), .unset] [])
    refine own_go (fun _ k => XS.iload Xz16.here hx rfl (hb hby at_94) rfl k) ?_
    show own_Go _ _ _ _ Tz16 (mkF m 96 #[.val (.int p1), .val (.int p2), .val (.int (5 : Int32)), .val (.ref b), .val (.ref t5), .val (.int o), .val (.int (0 : Int32)), .unset] [(.int o)])
    obtain ⟨vz38, Tz38, Lz38, Xz38, hQz38, stz38⟩ := own_callS Xz16 hx hZ hown (hw _ (List.mem_of_getElem? (i := 18) rfl)) (hw _ (List.mem_of_getElem? (i := 19) rfl)) (hw _ (List.mem_of_getElem? (i := 20) rfl)) (hw _ (List.mem_of_getElem? (i := 21) rfl)) (by decide) ez16 (own_rm1 l Z a0 hw [] o hz16 n0) (W := 0) (by decide) (by decide) (by decide) (by decide) own_pd1 rfl (g := (mkF m 96 #[.val (.int p1), .val (.int p2), .val (.int (5 : Int32)), .val (.ref b), .val (.ref t5), .val (.int o), .val (.int (0 : Int32)), .unset] [(.int o)])) (argsL := [(.int o)]) (rest := []) rfl (by rw [hml]; rfl) rfl (by show 2 * 0 + _ ≤ _; exact Nat.le_of_eq rfl) (hb hby at_96)
    obtain ⟨rfl, Nz38q, ehz38⟩ := hQz38
    have Nz38 := Fr.app Nz16 Nz38q
    refine own_go stz38 ?_
    show own_Go _ _ _ _ Tz38 (mkF m 99 #[.val (.int p1), .val (.int p2), .val (.int (5 : Int32)), .val (.ref b), .val (.ref t5), .val (.int o), .val (.int (0 : Int32)), .unset] [(.int (own_sg o))])
    refine own_go (fun _ k => XS.istore Xz38.here hx rfl (hb hby at_99) rfl (l' := #[.val (.int p1), .val (.int p2), .val (.int (5 : Int32)), .val (.ref b), .val (.ref t5), .val (.int o), .val (.int (0 : Int32)), .val (.int (own_sg o))]) rfl k) ?_
    show own_Go _ _ _ _ Tz38 (mkF m 101 #[.val (.int p1), .val (.int p2), .val (.int (5 : Int32)), .val (.ref b), .val (.ref t5), .val (.int o), .val (.int (0 : Int32)), .val (.int (own_sg o))] [])
    refine own_go (fun _ k => XS.aload Xz38.here hx rfl (hb hby at_101) rfl rfl k) ?_
    show own_Go _ _ _ _ Tz38 (mkF m 103 #[.val (.int p1), .val (.int p2), .val (.int (5 : Int32)), .val (.ref b), .val (.ref t5), .val (.int o), .val (.int (0 : Int32)), .val (.int (own_sg o))] [(.ref t5)])
    refine own_go (fun _ k => XS.iload Xz38.here hx rfl (hb hby at_103) rfl k) ?_
    show own_Go _ _ _ _ Tz38 (mkF m 105 #[.val (.int p1), .val (.int p2), .val (.int (5 : Int32)), .val (.ref b), .val (.ref t5), .val (.int o), .val (.int (0 : Int32)), .val (.int (own_sg o))] [(.int o), (.ref t5)])
    have E_t := E5.ext O.2
    obtain ⟨vz39, Tz39, Lz39, Xz39, hQz39, stz39⟩ := own_callV Xz38 hx hZ hown (hw _ (List.mem_of_getElem? (i := 22) rfl)) (hw _ (List.mem_of_getElem? (i := 23) rfl)) (hw _ (List.mem_of_getElem? (i := 25) rfl)) (hw _ (List.mem_of_getElem? (i := 24) rfl)) (hw _ (List.mem_of_getElem? (i := 4) rfl)) (hw _ (List.mem_of_getElem? (i := 26) rfl)) (by decide) ehz38 E_t (own_rm2 l Z a0 hw [] t5 o hz16 n0 t0 t1 (1 : Int32) O S0 S1 (by rw [if_neg n05.symm, if_neg n15.symm]) E_t) (W := 0) (by decide) (by decide) (by decide) (by decide) own_pd1 rfl (g := (mkF m 105 #[.val (.int p1), .val (.int p2), .val (.int (5 : Int32)), .val (.ref b), .val (.ref t5), .val (.int o), .val (.int (0 : Int32)), .val (.int (own_sg o))] [(.int o), (.ref t5)])) (argsL := [(.int o)]) (rest := []) rfl (by rw [hml]; rfl) rfl (by show 2 * 0 + _ ≤ _; exact Nat.le_of_eq rfl) (hb hby at_105)
    obtain ⟨rfl, Nz39q, ehz39⟩ := hQz39
    have Nz39 := Fr.app Nz38 Nz39q
    refine own_go stz39 ?_
    show own_Go _ _ _ _ Tz39 (mkF m 108 #[.val (.int p1), .val (.int p2), .val (.int (5 : Int32)), .val (.ref b), .val (.ref t5), .val (.int o), .val (.int (0 : Int32)), .val (.int (own_sg o))] [(.int o)])
    obtain ⟨vz40, Tz40, Lz40, Xz40, hQz40, stz40⟩ := own_callS Xz39 hx hZ hown (hw _ (List.mem_of_getElem? (i := 18) rfl)) (hw _ (List.mem_of_getElem? (i := 19) rfl)) (hw _ (List.mem_of_getElem? (i := 20) rfl)) (hw _ (List.mem_of_getElem? (i := 21) rfl)) (by decide) ehz39 (own_rm1 l Z a0 hw [] o hz16 n0) (W := 0) (by decide) (by decide) (by decide) (by decide) own_pd1 rfl (g := (mkF m 108 #[.val (.int p1), .val (.int p2), .val (.int (5 : Int32)), .val (.ref b), .val (.ref t5), .val (.int o), .val (.int (0 : Int32)), .val (.int (own_sg o))] [(.int o)])) (argsL := [(.int o)]) (rest := []) rfl (by rw [hml]; rfl) rfl (by show 2 * 0 + _ ≤ _; exact Nat.le_of_eq rfl) (hb hby at_108)
    obtain ⟨rfl, Nz40q, ehz40⟩ := hQz40
    have Nz40 := Fr.app Nz39 Nz40q
    refine own_go stz40 ?_
    show own_Go _ _ _ _ Tz40 (mkF m 111 #[.val (.int p1), .val (.int p2), .val (.int (5 : Int32)), .val (.ref b), .val (.ref t5), .val (.int o), .val (.int (0 : Int32)), .val (.int (own_sg o))] [(.int (own_sg o))])
    refine own_go (fun _ k => XS.iload Xz40.here hx rfl (hb hby at_111) rfl k) ?_
    show own_Go _ _ _ _ Tz40 (mkF m 113 #[.val (.int p1), .val (.int p2), .val (.int (5 : Int32)), .val (.ref b), .val (.ref t5), .val (.int o), .val (.int (0 : Int32)), .val (.int (own_sg o))] [(.int (own_sg o)), (.int (own_sg o))])
    refine own_go (fun _ k => XS.icmpNo Xz40.here hx rfl (hb hby at_113) rfl (teq rfl).2 k) ?_
    show own_Go _ _ _ _ Tz40 (mkF m 116 #[.val (.int p1), .val (.int p2), .val (.int (5 : Int32)), .val (.ref b), .val (.ref t5), .val (.int o), .val (.int (0 : Int32)), .val (.int (own_sg o))] [])
    refine own_go (fun _ k => XS.iconst Xz40.here hx rfl (hb hby at_116) k) ?_
    show own_Go _ _ _ _ Tz40 (mkF m 117 #[.val (.int p1), .val (.int p2), .val (.int (5 : Int32)), .val (.ref b), .val (.ref t5), .val (.int o), .val (.int (0 : Int32)), .val (.int (own_sg o))] [(.int (1 : Int32))])
    refine own_go (fun _ k => XS.goto Xz40.here hx rfl (pc0 := 117) (pc' := 121) rfl (hb hby at_117) (by decide) (by decide) k) ?_
    show own_Go _ _ _ _ Tz40 (mkF m 121 #[.val (.int p1), .val (.int p2), .val (.int (5 : Int32)), .val (.ref b), .val (.ref t5), .val (.int o), .val (.int (0 : Int32)), .val (.int (own_sg o))] [(.int (1 : Int32))])
    exact own_end Xz40 hlk (v := (some (.int (1 : Int32)))) (fun h => by rw [hret] at h; cases h) (fun fs hr => retN Xz40 hx (t := .boolean) hret (by simp) (hb hby at_121) hr) (by rw [ehz40]; exact ⟨rfl, Nz40⟩) (by decide) (by decide)
set_option maxRecDepth 65536 in
set_option maxHeartbeats 40000000 in
theorem own_comes {Post : Tables → Env → Array Value → State → Outcome → State → Prop} (hpost : ∀ tb e args s v u, (limb_1_1.after args s (.returned v) u = true ∧ limb_1_2.after args s (.returned v) u = true ∧ True) → FrameEnd s (.returned v) u (Jvm.fieldLocs frame_1_writes args s ++ Jvm.arrayLocs frame_1_arrays args s ++ Jvm.staticLocs frame_1_statics s) 16 128 → Post tb e args s (.returned v) u) :
    ArmFor flags0 classFile x code maxLocals ret World_1 tables_1 room_1 Calls_1 rest_1 Pre_1 Post := by
  intro l hfl _ _ p e ha hc hk s m args below hf hA hF happ hP
  obtain ⟨hcalls, hrest, hpre⟩ := hP
  obtain ⟨-, -, -, hnamed, -, -, -, hat⟩ := (Spec.applies_iff hf).mp happ
  obtain ⟨hg, hn⟩ := and_e (Cond.before_iff.mp (show (Jvm.Cond.and given_1 narrow_1).before args s = true from hpre))
  obtain ⟨g1, g2⟩ := and_e hg
  obtain ⟨g3, g4⟩ := and_e g2
  obtain ⟨w0, w1, rfl⟩ : ∃ w0 w1 : Value, args = #[w0, w1] := by
    have hs : args.size = 2 := by simpa [Cond.value, given_1] using g1
    obtain ⟨L⟩ := args
    match L, hs with
    | [w0, w1], _ => exact ⟨w0, w1, rfl⟩
  have hw := fun d (hd : d ∈ tables_1) => atoms_spec (ws := Jvm.Cond.code x code maxLocals ret :: tables_1) hat d (List.mem_cons_of_mem _ hd)
  have hfit : Fit s := fun {y c} hc i hi => by
    obtain ⟨ha, rfl⟩ := Array.getElem?_eq_some_iff.mp hc
    have q := List.all_eq_true.mp ((Array.all_eq_true_iff_forall_mem.mp hF) _ (Array.getElem_mem ha)) i (List.mem_range.mpr hi)
    simpa [Array.getElem?_eq_getElem hi] using q
  obtain ⟨i0, ei0⟩ := is_v g3
  obtain rfl : w0 = (.int i0) := Option.some.inj ei0
  obtain ⟨i1, ei1⟩ := is_v g4
  obtain rfl : w1 = (.int i1) := Option.some.inj ei1
  obtain ⟨x0, hn⟩ := and_e hn
  obtain ⟨x1, hn⟩ := and_e hn
  obtain ⟨x2, hn⟩ := and_e hn
  obtain ⟨x3, hn⟩ := and_e hn
  obtain ⟨x4, hn⟩ := and_e hn
  obtain ⟨x5, hn⟩ := and_e hn
  obtain ⟨y2, hn⟩ := and_e hn
  obtain ⟨y0, hn⟩ := and_e hn
  obtain ⟨y1, hn⟩ := and_e hn
  obtain ⟨y4, hn⟩ := and_e hn
  obtain ⟨y5, hn⟩ := and_e hn
  have y3 := hn
  obtain ⟨t0, ev0, S0, E0⟩ := own_sta (hw _ (List.mem_of_getElem? (i := 4) rfl)) (hw _ (List.mem_of_getElem? (i := 5) rfl)) x0
  have F0 := own_fld ev0 y0
  obtain ⟨t1, ev1, S1, E1⟩ := own_sta (hw _ (List.mem_of_getElem? (i := 4) rfl)) (hw _ (List.mem_of_getElem? (i := 8) rfl)) x1
  have F1 := own_fld ev1 y1
  obtain ⟨t2, ev2, S2, E2⟩ := own_sta (hw _ (List.mem_of_getElem? (i := 4) rfl)) (hw _ (List.mem_of_getElem? (i := 10) rfl)) x2
  have F2 := own_fld ev2 y2
  obtain ⟨t3, ev3, S3, E3⟩ := own_sta (hw _ (List.mem_of_getElem? (i := 4) rfl)) (hw _ (List.mem_of_getElem? (i := 12) rfl)) x3
  have F3 := own_fld ev3 y3
  obtain ⟨t4, ev4, S4, E4⟩ := own_sta (hw _ (List.mem_of_getElem? (i := 4) rfl)) (hw _ (List.mem_of_getElem? (i := 14) rfl)) x4
  have F4 := own_fld ev4 y4
  obtain ⟨t5, ev5, S5, E5⟩ := own_sta (hw _ (List.mem_of_getElem? (i := 4) rfl)) (hw _ (List.mem_of_getElem? (i := 16) rfl)) x5
  have F5 := own_fld ev5 y5
  obtain ⟨n, o, h1, h2, h3, _, L, rfl, ⟨rfl, N⟩, hq⟩ := own_rm0 l s _ hw tables_1 i0 i1 s.heap s.heap.size t0 t1 t2 t3 t4 t5 (Old.start s) S0 E0 S1 E1 S2 E2 S3 E3 S4 E4 S5 E5 (Fld.ne F0 F1 (by decide)) (Fld.ne F0 F2 (by decide)) (Fld.ne F1 F2 (by decide)) (Fld.ne F0 F3 (by decide)) (Fld.ne F1 F3 (by decide)) (Fld.ne F0 F4 (by decide)) (Fld.ne F1 F4 (by decide)) (Fld.ne F0 F5 (by decide)) (Fld.ne F1 F5 (by decide)) p e ha hc hk s m _ below hf ((Spec.applies_iff_loose hf).mp happ).1 ⟨rfl, State.Warmed39.refl s, rfl⟩ trivial
  refine ⟨n, _, h1, h2, h3, hpost _ _ _ _ _ _ ⟨Cond.after_iff.mpr rfl, Cond.after_iff.mpr (eq_i res_at (Term.int_eval (1)) rfl), trivial⟩ ⟨hq.1, hq.2.1, (hq.2.2.sift fun y hy => Or.inr (N y hy)).mono (by decide) (by decide)⟩⟩
theorem main_1_1 : Claimed_1_1 := own_comes fun _ _ _ _ _ _ h hF => ⟨h.1, hF⟩
theorem main_1_2 : Claimed_1_2 := own_comes fun _ _ _ _ _ _ h hF => ⟨h.2.1, hF⟩
end Jvm.Pilot.@@N@@
namespace Jvm.Pilot.@@N@@
open Jvm Jvm.ClassFile Sem Op Lib Jvm.Free Jvm.Stand Jvm.Pilot.@@N@@.Jvm.D
/-! MADE BY PROGRAM (witnessworld.py) out of the Statement's table words and the real class files: 13 classes; the members and pool entries that the words name. The judged class is class 1, her method 2. -/
namespace start1
open Jvm.ClassFile
def u (s : String) : CpInfo := .utf8 (stringToUtf16 s)
/-- a pool by its gaps: so many unusable entries, then the entry; so many at the end -/
def gap : Nat → List CpInfo → List CpInfo
  | 0, r => r
  | n + 1, r => .unusable :: gap n r
def poolList (es : List (Nat × CpInfo)) (last : Nat) : List CpInfo := es.foldr (fun e r => gap e.1 (e.2 :: r)) (gap last [])
def pool (es : List (Nat × CpInfo)) (last : Nat) : Array CpInfo := ⟨poolList es last⟩
def fileOf (pool : Array CpInfo) (this : Nat) (attrs : Array Attribute := #[]) (ms : Array MethodInfo := #[]) (fl : Nat := 33) (sup : Nat := 0) (ifs : Array Nat := #[]) (fds : Array FieldInfo := #[]) : ClassFile where
  minorVersion := 0
  majorVersion := 65
  constantPool := pool
  accessFlags := fl
  thisClass := this
  superClass := sup
  interfaces := ifs
  fields := fds
  methods := ms
  attributes := attrs
def plain (name : String) (sup : Option ClassId) : Class where
  name := name
  kind := .ordinary
  loader := none
  accessFlags := 33
  super := sup
  interfaces := #[]
  cf := none
  fields := #[]
  methods := #[]
  instanceTypes := #[]
  staticTypes := #[]
  resolved := #[]
  callSites := []
  init := .initialized
  statics := none
  mirror := none

def pool0 : Array CpInfo := pool [(5, u "<init>"), (0, u "()V"), (1, .class_ 10), (1, u "java/lang/Object")] 113

def k0m0 : Method := { name := "<init>", desc := "()V", sig := { parameters := [], returnType := none }, accessFlags := 1, code := none }
/-- java/lang/Object -/
def k0 : Class := { plain "java/lang/Object" none with
  accessFlags := 33
  interfaces := #[]
  cf := some (fileOf pool0 8 #[] #[{ accessFlags := 1, nameIndex := 5, descriptorIndex := 6, attributes := #[] }] 33 0 #[] #[])
  fields := #[]
  methods := #[k0m0]
  instanceTypes := #[]
  staticTypes := #[]
  resolved := Array.replicate 124 none
  statics := none }

def pool1 : Array CpInfo := pool [(2, .class_ 4), (1, u "java/lang/Object"), (0, u "<init>"), (0, u "()V"), (0, .integer 2147483647), (0, .class_ 9), (0, u "com/example/servweave/servweave/qos/Attribute"), (0, .fieldref 8 11), (0, .nameAndType 12 13), (0, u "TIME"), (0, u "Lcom/example/servweave/servweave/qos/Attribute;"), (0, .fieldref 8 15), (0, .nameAndType 16 13), (0, u "COST"), (0, .fieldref 8 18), (0, .nameAndType 19 13), (0, u "AVAILABILITY"), (0, .fieldref 8 21), (0, .nameAndType 22 13), (0, u "RELIABILITY"), (0, .fieldref 8 24), (0, .nameAndType 25 13), (0, u "THROUGHPUT"), (0, .fieldref 8 27), (0, .nameAndType 28 13), (0, u "REPUTATION"), (2, .integer 2147483648), (0, .methodref 33 34), (0, .class_ 35), (0, .nameAndType 36 37), (0, u "com/example/servweave/servweave/qos/AttributeQualityPinLaw"), (0, u "sign"), (0, u "(I)I"), (0, .methodref 8 39), (0, .nameAndType 40 37), (0, u "quality"), (3, u "law"), (0, u "(II)Z")] 4

def k1m0 : Method := { name := "<init>", desc := "()V", sig := { parameters := [], returnType := none }, accessFlags := 1, code := none }
def k1c1 : Code := { maxStack := 1, maxLocals := 1, code := method_2_code, exceptionTable := #[], attributes := #[] }
def k1m1 : Method := { name := "sign", desc := "(I)I", sig := { parameters := [.int], returnType := some .int }, accessFlags := 10, code := some k1c1 }
def k1c2 : Code := { maxStack := 4, maxLocals := 8, code := code, exceptionTable := #[], attributes := #[] }
def k1m2 : Method := { name := "law", desc := "(II)Z", sig := { parameters := [.int, .int], returnType := some .boolean }, accessFlags := 9, code := some k1c2 }
/-- com/example/servweave/servweave/qos/AttributeQualityPinLaw -/
def k1 : Class := { plain "com/example/servweave/servweave/qos/AttributeQualityPinLaw" (some 0) with
  accessFlags := 49
  interfaces := #[]
  cf := some (fileOf pool1 33 #[] #[{ accessFlags := 1, nameIndex := 5, descriptorIndex := 6, attributes := #[] }, { accessFlags := 10, nameIndex := 36, descriptorIndex := 37, attributes := #[] }, { accessFlags := 9, nameIndex := 44, descriptorIndex := 45, attributes := #[] }] 49 2 #[] #[])
  fields := #[]
  methods := #[k1m0, k1m1, k1m2]
  instanceTypes := #[]
  staticTypes := #[]
  resolved := Array.replicate 50 none
  statics := none }

def pool2 : Array CpInfo := pool [(1, .class_ 2), (0, u "java/lang/constant/Constable"), (0, .class_ 4), (0, u "java/lang/Object")] 6

/-- java/lang/constant/Constable -/
def k2 : Class := { plain "java/lang/constant/Constable" (some 0) with
  accessFlags := 1537
  interfaces := #[]
  cf := some (fileOf pool2 1 #[] #[] 1537 3 #[] #[])
  fields := #[]
  methods := #[]
  instanceTypes := #[]
  staticTypes := #[]
  resolved := Array.replicate 11 none
  statics := none }

def pool3 : Array CpInfo := pool [(1, .class_ 2), (0, u "java/lang/Comparable"), (0, .class_ 4), (0, u "java/lang/Object")] 7

/-- java/lang/Comparable -/
def k3 : Class := { plain "java/lang/Comparable" (some 0) with
  accessFlags := 1537
  interfaces := #[]
  cf := some (fileOf pool3 1 #[] #[] 1537 3 #[] #[])
  fields := #[]
  methods := #[]
  instanceTypes := #[]
  staticTypes := #[]
  resolved := Array.replicate 12 none
  statics := none }

def pool4 : Array CpInfo := pool [(1, .class_ 2), (0, u "java/io/Serializable"), (0, .class_ 4), (0, u "java/lang/Object")] 2

/-- java/io/Serializable -/
def k4 : Class := { plain "java/io/Serializable" (some 0) with
  accessFlags := 1537
  interfaces := #[]
  cf := some (fileOf pool4 1 #[] #[] 1537 3 #[] #[])
  fields := #[]
  methods := #[]
  instanceTypes := #[]
  staticTypes := #[]
  resolved := Array.replicate 7 none
  statics := none }

def pool5 : Array CpInfo := pool [(2, .class_ 4), (1, u "java/lang/Enum"), (0, u "name"), (0, u "Ljava/lang/String;"), (2, u "ordinal"), (0, u "I"), (1, .class_ 14), (1, u "java/lang/Object"), (4, u "hash"), (86, .class_ 108), (1, u "java/lang/Enum$EnumDesc"), (2, .class_ 112), (0, u "java/lang/constant/Constable"), (0, .class_ 114), (0, u "java/lang/Comparable"), (0, .class_ 116), (0, u "java/io/Serializable")] 87

/-- java/lang/Enum -/
def k5 : Class := { plain "java/lang/Enum" (some 0) with
  accessFlags := 1057
  interfaces := #[2, 3, 4]
  cf := some (fileOf pool5 2 #[.nestMembers #[106]] #[] 1057 12 #[111, 113, 115] #[{ accessFlags := 18, nameIndex := 5, descriptorIndex := 6, attributes := #[] }, { accessFlags := 18, nameIndex := 9, descriptorIndex := 10, attributes := #[] }, { accessFlags := 2, nameIndex := 19, descriptorIndex := 10, attributes := #[] }])
  fields := #[{ name := "name", type := (.object "java/lang/String"), accessFlags := 18, slot := 0, constantValue := 0 }, { name := "ordinal", type := .int, accessFlags := 18, slot := 1, constantValue := 0 }, { name := "hash", type := .int, accessFlags := 2, slot := 2, constantValue := 0 }]
  methods := #[]
  instanceTypes := #[(.object "java/lang/String"), .int, .int]
  staticTypes := #[]
  resolved := Array.replicate 204 none
  statics := none }

def pool6 : Array CpInfo := pool [(1, .class_ 2), (0, u "com/example/servweave/servweave/qos/Attribute"), (0, .fieldref 1 4), (0, .nameAndType 5 6), (0, u "TIME"), (0, u "Lcom/example/servweave/servweave/qos/Attribute;"), (0, .fieldref 1 8), (0, .nameAndType 9 6), (0, u "COST"), (2, u "AVAILABILITY"), (2, u "RELIABILITY"), (2, u "THROUGHPUT"), (2, u "REPUTATION"), (2, u "$VALUES"), (0, u "[Lcom/example/servweave/servweave/qos/Attribute;"), (6, .class_ 34), (1, u "java/lang/Enum"), (64, u "quality"), (0, u "(I)I"), (0, .methodref 1 102), (0, .nameAndType 103 104), (0, u "higherIsBetter"), (0, u "()Z")] 106

def k6c0 : Code := { maxStack := 2, maxLocals := 1, code := prog_36_method_6_code, exceptionTable := #[], attributes := #[] }
def k6m0 : Method := { name := "higherIsBetter", desc := "()Z", sig := { parameters := [], returnType := some .boolean }, accessFlags := 1, code := some k6c0 }
def k6c1 : Code := { maxStack := 1, maxLocals := 2, code := prog_36_method_8_code, exceptionTable := #[], attributes := #[] }
def k6m1 : Method := { name := "quality", desc := "(I)I", sig := { parameters := [.int], returnType := some .int }, accessFlags := 1, code := some k6c1 }
/-- com/example/servweave/servweave/qos/Attribute -/
def k6 : Class := { plain "com/example/servweave/servweave/qos/Attribute" (some 5) with
  accessFlags := 16433
  interfaces := #[]
  cf := some (fileOf pool6 1 #[] #[{ accessFlags := 1, nameIndex := 103, descriptorIndex := 104, attributes := #[] }, { accessFlags := 1, nameIndex := 99, descriptorIndex := 100, attributes := #[] }] 16433 32 #[] #[{ accessFlags := 16409, nameIndex := 5, descriptorIndex := 6, attributes := #[] }, { accessFlags := 16409, nameIndex := 9, descriptorIndex := 6, attributes := #[] }, { accessFlags := 16409, nameIndex := 12, descriptorIndex := 6, attributes := #[] }, { accessFlags := 16409, nameIndex := 15, descriptorIndex := 6, attributes := #[] }, { accessFlags := 16409, nameIndex := 18, descriptorIndex := 6, attributes := #[] }, { accessFlags := 16409, nameIndex := 21, descriptorIndex := 6, attributes := #[] }, { accessFlags := 4122, nameIndex := 24, descriptorIndex := 25, attributes := #[] }])
  fields := #[{ name := "TIME", type := (.object "com/example/servweave/servweave/qos/Attribute"), accessFlags := 16409, slot := 0, constantValue := 0 }, { name := "COST", type := (.object "com/example/servweave/servweave/qos/Attribute"), accessFlags := 16409, slot := 1, constantValue := 0 }, { name := "AVAILABILITY", type := (.object "com/example/servweave/servweave/qos/Attribute"), accessFlags := 16409, slot := 2, constantValue := 0 }, { name := "RELIABILITY", type := (.object "com/example/servweave/servweave/qos/Attribute"), accessFlags := 16409, slot := 3, constantValue := 0 }, { name := "THROUGHPUT", type := (.object "com/example/servweave/servweave/qos/Attribute"), accessFlags := 16409, slot := 4, constantValue := 0 }, { name := "REPUTATION", type := (.object "com/example/servweave/servweave/qos/Attribute"), accessFlags := 16409, slot := 5, constantValue := 0 }, { name := "$VALUES", type := (.array (.object "com/example/servweave/servweave/qos/Attribute")), accessFlags := 4122, slot := 6, constantValue := 0 }]
  methods := #[k6m0, k6m1]
  instanceTypes := #[(.object "java/lang/String"), .int, .int]
  staticTypes := #[(.object "com/example/servweave/servweave/qos/Attribute"), (.object "com/example/servweave/servweave/qos/Attribute"), (.object "com/example/servweave/servweave/qos/Attribute"), (.object "com/example/servweave/servweave/qos/Attribute"), (.object "com/example/servweave/servweave/qos/Attribute"), (.object "com/example/servweave/servweave/qos/Attribute"), (.array (.object "com/example/servweave/servweave/qos/Attribute"))]
  resolved := Array.replicate 211 none
  statics := some 0 }

def pool7 : Array CpInfo := pool [(1, u "java/lang/Cloneable"), (0, .class_ 1), (0, u "java/lang/Object"), (0, .class_ 3)] 3

/-- java/lang/Cloneable -/
def k7 : Class := { plain "java/lang/Cloneable" (some 0) with
  accessFlags := 1537
  interfaces := #[]
  cf := some (fileOf pool7 2 #[] #[] 1537 4 #[] #[])
  fields := #[]
  methods := #[]
  instanceTypes := #[]
  staticTypes := #[]
  resolved := Array.replicate 8 none
  statics := none }

/-- the primitive byte -/
def k8 : Class := { plain "byte" none with kind := .primitive 'B', accessFlags := 0x411 }
/-- [B -/
def k9 : Class := { plain "[B" (some 0) with kind := .array 8 .byte, interfaces := #[7, 4], accessFlags := 1041 }

/-- the primitive int -/
def k10 : Class := { plain "int" none with kind := .primitive 'I', accessFlags := 0x411 }
/-- [I -/
def k11 : Class := { plain "[I" (some 0) with kind := .array 10 .int, interfaces := #[7, 4], accessFlags := 1041 }

/-- [Lcom/example/servweave/servweave/qos/Attribute; -/
def k12 : Class := { plain "[Lcom/example/servweave/servweave/qos/Attribute;" (some 0) with kind := .array 6 (.object "com/example/servweave/servweave/qos/Attribute"), interfaces := #[7, 4], accessFlags := 1041 }

def heap : Heap := #[{ cls := 6, slots := #[.ref 1, .ref 2, .ref 3, .ref 4, .ref 5, .ref 6, .null], vm := .statics 6 },
  { cls := 6, slots := #[.null, .int 0, .int 0], vm := .none },
  { cls := 6, slots := #[.null, .int 1, .int 0], vm := .none },
  { cls := 6, slots := #[.null, .int 2, .int 0], vm := .none },
  { cls := 6, slots := #[.null, .int 3, .int 0], vm := .none },
  { cls := 6, slots := #[.null, .int 4, .int 0], vm := .none },
  { cls := 6, slots := #[.null, .int 5, .int 0], vm := .none }]
def classes : Array Class := #[k0, k1, k2, k3, k4, k5, k6, k7, k8, k9, k10, k11, k12]
def interned : List (Array UInt16 × Addr) := []
def slotsUsed : Nat := 25
def theMethod : MethodId := ⟨1, 2⟩
def args0 : Array Value := #[.int 5, .int 7]
def aboutOver (below : List Frame) : State where
  vm := { classes := classes, interned := interned.toArray }
  heap := heap
  slotsUsed := slotsUsed
  threads := #[{ frames := .invoking theMethod args0 :: below }]
def below0 : List Frame := [.native { method := ⟨0, 0⟩, args := #[] }]
def about1 : State := aboutOver below0
def p0 : Program := .bare "" "" ""
def e0 : Env := launch0.env 0 0 0
theorem w_frames : about1.frames = Frame.invoking theMethod args0 :: below0 := rfl
set_option maxRecDepth 65536 in
theorem w_args : argsFit about1.vm theMethod args0 = true := by decide +kernel
set_option maxRecDepth 65536 in
theorem w_heap : heapFits about1 = true := by decide +kernel
set_option maxRecDepth 65536 in
theorem w_runnable : about1.curStatus? = some .runnable := by decide +kernel
set_option maxRecDepth 65536 in
theorem w_alone : about1.alone = true := by decide +kernel
set_option maxRecDepth 65536 in
theorem w_named : about1.methodNamed? x = some theMethod := by decide +kernel
set_option maxRecDepth 65536 in
theorem w_hears : about1.hears theMethod below0 = true := by decide +kernel
set_option maxRecDepth 65536 in
theorem w_ripe : about1.ripe theMethod args0 below0 = true := by decide +kernel
theorem w_running : about1.status = .running := rfl
set_option maxRecDepth 65536 in
theorem w_room : about1.hasRoom e0.platform room_1 = true :=
  launch0.hasRoom_least _ room_1 (by decide +kernel) (by decide +kernel) (by decide +kernel) (by decide +kernel) (by decide +kernel) (by decide +kernel)
theorem allAtoms_all (ts : List Jvm.Cond) (a : Array Jvm.Value) (st : Jvm.State) : (allAtoms ts).before a st = ts.all (fun c => c.before a st) := by
  induction ts with
  | nil => rfl
  | cons c t ih =>
    show (Jvm.Cond.and c (allAtoms t)).before a st = _
    rw [Jvm.Cond.before_and, ih, List.all_cons]
def words1 : List Jvm.Cond := Jvm.Cond.code x code maxLocals ret :: tables_1
/-- a 'code' word, met by the world's own term for the bytes: nothing is compared byte by byte -/
theorem code_word {y : MethodName} {bytes : ByteArray} {mx : Nat} {rt : Option FieldType} {a : Array Value} {s : State} {m : MethodId} {meth : Method} {c : Code} (h1 : s.methodNamed? y = some m) (h2 : s.vm.method? m = some meth) (h3 : meth.code = some c) (h4 : c.code = bytes)
    (h5 : (c.maxLocals == mx && c.exceptionTable.isEmpty && decide (c.maxStack ≤ mostOperands) && decide (meth.sig.returnType = rt) && !meth.locks && decide (parseMethodDescriptor y.desc = some meth.sig)) = true) : (Jvm.Cond.code y bytes mx rt).before a s = true := by
  simp only [Bool.and_eq_true, beq_iff_eq, Bool.not_eq_true', decide_eq_true_eq] at h5
  obtain ⟨⟨⟨⟨⟨g1, g2⟩, g3⟩, g4⟩, g5⟩, g6⟩ := h5
  simp [Cond.before, Cond.holds, Cond.value, h1, h2, h3, h4, g1, g2, g3, g4, g5, g6]
def isCode : Jvm.Cond → Bool
  | .code _ _ _ _ => true
  | _ => false
theorem all_split {L : List Jvm.Cond} {P : Jvm.Cond → Bool} (h1 : L.all (fun c => isCode c || P c) = true) (h2 : ∀ c ∈ L.filter isCode, P c = true) : L.all P = true := by
  refine List.all_eq_true.mpr fun c hc => ?_
  have h := List.all_eq_true.mp h1 c hc
  rcases Bool.eq_false_or_eq_true (isCode c) with hi | hi
  · exact h2 c (List.mem_filter.mpr ⟨hc, hi⟩)
  · simpa [hi] using h
set_option maxRecDepth 65536 in
theorem w_c0 : (Jvm.Cond.code x code maxLocals ret).before args0 about1 = true := code_word (m := ⟨1, 2⟩) (meth := k1m2) (c := k1c2) (by decide +kernel) rfl rfl rfl (by decide +kernel)
set_option maxRecDepth 65536 in
theorem w_c1 : (Jvm.Cond.code ({ cls := "com/example/servweave/servweave/qos/AttributeQualityPinLaw", name := "sign", desc := "(I)I" } : Jvm.MethodName) method_2_code (1 : Nat) (Option.some Jvm.ClassFile.FieldType.int)).before args0 about1 = true := code_word (m := ⟨1, 1⟩) (meth := k1m1) (c := k1c1) (by decide +kernel) rfl rfl rfl (by decide +kernel)
set_option maxRecDepth 65536 in
theorem w_c2 : (Jvm.Cond.code ({ cls := "com/example/servweave/servweave/qos/Attribute", name := "quality", desc := "(I)I" } : Jvm.MethodName) prog_36_method_8_code (2 : Nat) (Option.some Jvm.ClassFile.FieldType.int)).before args0 about1 = true := code_word (m := ⟨6, 1⟩) (meth := k6m1) (c := k6c1) (by decide +kernel) rfl rfl rfl (by decide +kernel)
set_option maxRecDepth 65536 in
theorem w_c3 : (Jvm.Cond.code ({ cls := "com/example/servweave/servweave/qos/Attribute", name := "higherIsBetter", desc := "()Z" } : Jvm.MethodName) prog_36_method_6_code (1 : Nat) (Option.some Jvm.ClassFile.FieldType.boolean)).before args0 about1 = true := code_word (m := ⟨6, 0⟩) (meth := k6m0) (c := k6c0) (by decide +kernel) rfl rfl rfl (by decide +kernel)
def codes1 : List Jvm.Cond := [Jvm.Cond.code x code maxLocals ret, Jvm.Cond.code ({ cls := "com/example/servweave/servweave/qos/AttributeQualityPinLaw", name := "sign", desc := "(I)I" } : Jvm.MethodName) method_2_code (1 : Nat) (Option.some Jvm.ClassFile.FieldType.int), Jvm.Cond.code ({ cls := "com/example/servweave/servweave/qos/Attribute", name := "quality", desc := "(I)I" } : Jvm.MethodName) prog_36_method_8_code (2 : Nat) (Option.some Jvm.ClassFile.FieldType.int), Jvm.Cond.code ({ cls := "com/example/servweave/servweave/qos/Attribute", name := "higherIsBetter", desc := "()Z" } : Jvm.MethodName) prog_36_method_6_code (1 : Nat) (Option.some Jvm.ClassFile.FieldType.boolean)]
set_option maxRecDepth 65536 in
theorem codes_eq : words1.filter isCode = codes1 := rfl
theorem w_codes : ∀ c ∈ words1.filter isCode, c.before args0 about1 = true := by
  rw [codes_eq]
  intro c hc
  simp only [codes1, List.mem_cons, List.not_mem_nil, or_false] at hc
  rcases hc with rfl | rfl | rfl | rfl
  · exact w_c0
  · exact w_c1
  · exact w_c2
  · exact w_c3
set_option maxRecDepth 65536 in
theorem w_t1 : (words1.take 24).all (fun c => isCode c || c.before args0 about1) = true := by decide +kernel
set_option maxRecDepth 65536 in
theorem w_t2 : (words1.drop 24).all (fun c => isCode c || c.before args0 about1) = true := by decide +kernel
theorem w_tables : (allAtoms (Jvm.Cond.code x code maxLocals ret :: tables_1)).before args0 about1 = true := by
  rw [allAtoms_all]
  show words1.all (fun c => c.before args0 about1) = true
  refine all_split ?_ w_codes
  rw [← List.take_append_drop 24 words1, List.all_append, w_t1, w_t2]
  rfl
set_option maxRecDepth 65536 in
theorem w_case : (Jvm.Cond.and given_1 narrow_1).before args0 about1 = true := by decide +kernel
theorem w_applies : (headSpec (Jvm.Cond.code x code maxLocals ret :: tables_1) room_1).applies x e0.platform about1 = true :=
  (Spec.applies_iff w_frames).mpr ⟨w_running, w_runnable, w_alone, w_named, w_hears, w_ripe, w_room, w_tables⟩
theorem atStart : AtStart classFile x code maxLocals ret World_1 tables_1 room_1 Calls_1 rest_1 Pre_1 launch0 p0 e0 about1 theMethod args0 below0 :=
  ⟨lists_1, trivial, launch0.admits_env _ _ _, launch0.least_env, fairChoices_fair.cas, fairChoices_fair.clock, w_frames, w_args, w_heap, w_applies, trivial, trivial, w_case⟩
end start1
theorem witness_1 : WitnessClaimed_1 := ⟨start1.p0, start1.e0, start1.about1, start1.theMethod, start1.args0, start1.below0, start1.atStart⟩
end Jvm.Pilot.@@N@@
