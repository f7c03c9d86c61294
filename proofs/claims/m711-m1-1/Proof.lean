import JvmDerived
import JvmDerived.Pilot.@@N@@Statement
import JvmDerived.Pilot.@@N@@Code
set_option linter.unusedVariables false
set_option linter.unusedSimpArgs false
namespace Jvm.Pilot.@@N@@
open Jvm Jvm.ClassFile Sem Op Lib Jvm.Free Jvm.Stand Jvm.LawKit Jvm.RoadKit Bundle Jvm.Pilot.@@N@@.Jvm.D Jvm.Free.Fl
/-! own_: the walk's goal, said once: from the frame g at T the run comes to an end that Fin holds of -/
def own_Go (p : Program) (e : Env) (below : List Frame) (Fin : Outcome → State → Prop) (T : State) (g : JFrame) : Prop :=
  ∃ s₂ o, Steps p.tables e below (T.setTop g) s₂ ∧ s₂.status = .running ∧ Ended s₂ below o ∧ Fin o s₂
def own_Fin (s : State) (Q : Option Value → Heap → List Loc → Prop) (k n : Nat) (o : Outcome) (t : State) : Prop :=
  ∃ v L, o = .returned v ∧ Q v t.heap L ∧ FrameEnd s o t L k n
section OwnGo
variable {p : Program} {l : Launch} {e : Env} {R : Room} {s : State} {m : MethodId} {args : Array Value} {below : List Frame} {meth : Method} {c : Code} {T T' : State} {locs : List Loc} {cells slots : Nat} {Z : State} {a0 : Array Value} {h : Heap} {g g' : JFrame} {Fin : Outcome → State → Prop} {k n : Nat} {Q : Option Value → Heap → List Loc → Prop}
theorem own_go (st : ∀ target, Steps p.tables e below (T'.setTop g') target → Steps p.tables e below (T.setTop g) target) (G : own_Go p e below Fin T' g') : own_Go p e below Fin T g := by
  obtain ⟨s₂, o, h, r⟩ := G
  exact ⟨s₂, o, st _ h, r⟩
theorem own_end (X : Stand p l e R s m args below meth c T locs cells slots) (hlk : meth.locks = false) {v : Option Value} (hv : meth.sig.returnType = none → v = none)
    (hr : ∀ fs, (∀ (f : JFrame) (acts : List Action), f.method = m → f.locked = none → f.entered = [] → (doReturn e (T.setTop f) acts v).1 = T.setFrames fs) → Steps p.tables e below (T.setTop g) (T.setFrames fs))
    (hQ : Q v T.heap locs) (hc : cells ≤ k) (hn : slots ≤ n) : own_Go p e below (own_Fin s Q k n) T g := by
  obtain ⟨fs, h1, hrun, hended, hW, hsame⟩ := X.leave hv hlk
  exact ⟨_, _, hr fs h1, hrun, hended, v, locs, rfl, hQ, ⟨_, rfl⟩, hW, hsame.mono hc hn⟩
theorem own_dia {α : Type} {C : Prop} [Decidable C] {v1 v0 : α} {f : α → JFrame} (h1 : C → own_Go p e below Fin T' (f v1) → own_Go p e below Fin T g) (h0 : ¬ C → own_Go p e below Fin T' (f v0) → own_Go p e below Fin T g) (G : own_Go p e below Fin T' (f (if C then v1 else v0))) : own_Go p e below Fin T g := by
  by_cases hC : C
  · rw [if_pos hC] at G; exact h1 hC G
  · rw [if_neg hC] at G; exact h0 hC G
end OwnGo
def own_Met (l : Launch) (Z : State) (y : MethodName) (bytes : ByteArray) (maxL : Nat) (ret : Option FieldType) (ws : List Jvm.Cond) (rm : Room) (as : Array Value) (h0 : Heap) (Q : Option Value → Heap → List Loc → Prop) : Prop :=
  MetFree l y (head1 (Jvm.Cond.code y bytes maxL ret :: ws) rm) (fun a U => a = as ∧ Z.Warmed39 U.vm ∧ U.heap = h0) (fun _ _ _ _ _ => True) (fun _ U o U' => ∃ v L, o = .returned v ∧ Q v U'.heap L ∧ FrameEnd U o U' L rm.cells rm.slots)
theorem own_met {l : Launch} {Z : State} {y : MethodName} {bytes : ByteArray} {maxL : Nat} {ret : Option FieldType} {ws : List Jvm.Cond} {rm : Room} {as : Array Value} {h0 : Heap} {Q : Option Value → Heap → List Loc → Prop} (hp : plainFor y = true)
    (body : ∀ (p : Program) (e : Env) (s : State) (m : MethodId) (below : List Frame) (meth : Method) (c : Code) (s₁ : State), Stand p l e rm s m as below meth c s₁ [] 0 0 → p.tables.exec = Jvm.exec → Z.Warmed39 s.vm → c.code = bytes → c.maxLocals = maxL → s.vm.findClass y.cls = some m.cls → meth.name = y.name → meth.sig.returnType = ret → meth.locks = false → s₁.heap = h0 →
      own_Go p e below (own_Fin s Q rm.cells rm.slots) s₁ (entryFrame m as maxL)) : own_Met l Z y bytes maxL ret ws rm as h0 Q := by
  refine MetFree.of_bodySF hp hisR ?_
  intro p e s m args below meth c s₁ Bd hml0 hP hK
  obtain ⟨rfl, hZ, hh⟩ := hP
  exact body p e s m below meth c s₁ (Stand.of_body Bd) Bd.exec hZ Bd.bytes hml0 (findClass_of_methodNamed Bd.named) (name_of_methodNamed Bd.named Bd.method).1 Bd.returns Bd.notSynchronized (by rw [← hh, Bd.state]; rfl)
section OwnCall
variable {p : Program} {l : Launch} {e : Env} {R : Room} {s : State} {m : MethodId} {args : Array Value} {below : List Frame} {meth : Method} {c : Code} {T : State} {locs : List Loc} {cells slots : Nat} {Z : State} {a0 : Array Value} {h : Heap} {g : JFrame} {Q : Option Value → Heap → List Loc → Prop} {own : String} {index : Nat} {y z : MethodName} {bytes : ByteArray} {maxL W : Nat} {ret r0 : Option FieldType} {rm : Room} {argsL rest : List Value} {ps : List FieldType} {b : Addr} {C : String}
theorem own_callS (X : Stand p l e R s m args below meth c T locs cells slots) (hx : p.tables.exec = Jvm.exec) (hZ : Z.Warmed39 s.vm) (hown : s.vm.findClass own = some m.cls) (wl : (Cond.methodLink own index y).before a0 Z = true) (ws : (Cond.static y).before a0 Z = true) (wi : (Cond.initialized y.cls).before a0 Z = true) (wc : (Cond.code y bytes maxL ret).before a0 Z = true)
    (hy : y.cls ≠ "java/lang/invoke/MethodHandle" ∧ y.cls ≠ "java/lang/invoke/VarHandle") (eT : T.heap = h) (hM : own_Met l Z y bytes maxL ret [] rm argsL.toArray h Q) (hf : rm.frames + 1 ≤ R.frames) (hl : W + (maxL + 11) + rm.locals ≤ R.locals) (hc : cells + rm.cells ≤ R.cells) (hn : slots + rm.slots ≤ R.slots)
    (hpd : parseMethodDescriptor y.desc = some ⟨ps, r0⟩) (hlen : argsL.length = ps.length) (hg : g.method = m) (hsize : g.locals.size = c.maxLocals) (hstack : g.stack = argsL.reverse ++ rest) (hW : 2 * g.monitorRoom + (rest.map fun v => v.category).sum ≤ W) (hd : decode c.code g.pc = .ok (.invokestatic index, 3)) :
    ∃ (v : Option Value) (T' : State) (L : List Loc), Stand p l e R s m args below meth c T' (locs ++ L) (cells + rm.cells) (slots + rm.slots) ∧ Q v T'.heap L ∧ ∀ target, Steps p.tables e below (T'.setTop { g with pc := g.pc + 3, stack := v.toList ++ rest }) target → Steps p.tables e below (T.setTop g) target := by
  obtain ⟨v, vm₁, ⟨T1, L1, k1, n1⟩, -, X1, ⟨Lc, hQ, l1, y1, z1⟩, st⟩ := Jvm.LawKit.callS X hx (y := y) hown (mvT hZ wl) (mvT hZ ws) (mvT hZ wi) (mvT hZ wc) hy (backOf (W := W) hM hZ wc wi hf hl) hg hsize (lenOf hpd hlen) hstack hW hd (fun _ _ => ⟨rfl, eT, hc, hn⟩)
  dsimp only [Pt.U, Pt.locs, Pt.cells, Pt.slots] at X1 l1 y1 z1 st hQ
  subst l1 y1 z1
  exact ⟨v, T1, Lc, X1, hQ, st⟩
theorem own_callI (X : Stand p l e R s m args below meth c T locs cells slots) (hx : p.tables.exec = Jvm.exec) (hZ : Z.Warmed39 s.vm) (hy1 : y.name = "<init>") (hown : s.vm.findClass own = some m.cls) (wl : (Cond.methodLink own index y).before a0 Z = true) (ws : (Cond.instanceMethod y).before a0 Z = true) (wi : (Cond.initialized y.cls).before a0 Z = true) (wc : (Cond.code y bytes maxL none).before a0 Z = true)
    (hy : y.cls ≠ "java/lang/invoke/MethodHandle" ∧ y.cls ≠ "java/lang/invoke/VarHandle") (eT : T.heap = h) (hM : own_Met l Z y bytes maxL none [] rm (.ref b :: argsL).toArray h Q) (hf : rm.frames + 1 ≤ R.frames) (hl : W + (maxL + 11) + rm.locals ≤ R.locals) (hc : cells + rm.cells ≤ R.cells) (hn : slots + rm.slots ≤ R.slots)
    (hpd : parseMethodDescriptor y.desc = some ⟨ps, r0⟩) (hlen : argsL.length = ps.length) (hg : g.method = m) (hsize : g.locals.size = c.maxLocals) (hstack : g.stack = argsL.reverse ++ .ref b :: rest) (hW : 2 * g.monitorRoom + (rest.map fun v => v.category).sum ≤ W) (hd : decode c.code g.pc = .ok (.invokespecial index, 3)) :
    ∃ (v : Option Value) (T' : State) (L : List Loc), Stand p l e R s m args below meth c T' (locs ++ L) (cells + rm.cells) (slots + rm.slots) ∧ Q v T'.heap L ∧ ∀ target, Steps p.tables e below (T'.setTop { g with pc := g.pc + 3, stack := v.toList ++ rest }) target → Steps p.tables e below (T.setTop g) target := by
  obtain ⟨v, vm₁, ⟨T1, L1, k1, n1⟩, -, X1, ⟨Lc, hQ, l1, y1, z1⟩, st⟩ := X.specialBack hx (y := y) hy1 hown (mvT hZ wl) (mvT hZ ws) (mvT hZ wc) hy (backOf (W := W) hM hZ wc wi hf hl) hg hsize (Steps.refl _) (lenOf hpd hlen) hstack hW hd (fun _ _ => ⟨rfl, eT, hc, hn⟩)
  dsimp only [Pt.U, Pt.locs, Pt.cells, Pt.slots] at X1 l1 y1 z1 st hQ
  subst l1 y1 z1
  exact ⟨v, T1, Lc, X1, hQ, fun _ k => st.trans k⟩
theorem own_callV (X : Stand p l e R s m args below meth c T locs cells slots) (hx : p.tables.exec = Jvm.exec) (hZ : Z.Warmed39 s.vm) (hown : s.vm.findClass own = some m.cls) (wl : (Cond.methodLink own index y).before a0 Z = true) (wd : (Cond.declares y).before a0 Z = true) (wsel : (Cond.selects C y y).before a0 Z = true) (ws : (Cond.instanceMethod y).before a0 Z = true) (wi : (Cond.initialized y.cls).before a0 Z = true) (wc : (Cond.code y bytes maxL ret).before a0 Z = true)
    (hy : y.cls ≠ "java/lang/invoke/MethodHandle" ∧ y.cls ≠ "java/lang/invoke/VarHandle") (eT : T.heap = h) (E : Exa Z h b C) (hM : own_Met l Z y bytes maxL ret [] rm (.ref b :: argsL).toArray h Q) (hf : rm.frames + 1 ≤ R.frames) (hl : W + (maxL + 11) + rm.locals ≤ R.locals) (hc : cells + rm.cells ≤ R.cells) (hn : slots + rm.slots ≤ R.slots)
    (hpd : parseMethodDescriptor y.desc = some ⟨ps, r0⟩) (hlen : argsL.length = ps.length) (hg : g.method = m) (hsize : g.locals.size = c.maxLocals) (hstack : g.stack = argsL.reverse ++ .ref b :: rest) (hW : 2 * g.monitorRoom + (rest.map fun v => v.category).sum ≤ W) (hd : decode c.code g.pc = .ok (.invokevirtual index, 3)) :
    ∃ (v : Option Value) (T' : State) (L : List Loc), Stand p l e R s m args below meth c T' (locs ++ L) (cells + rm.cells) (slots + rm.slots) ∧ Q v T'.heap L ∧ ∀ target, Steps p.tables e below (T'.setTop { g with pc := g.pc + 3, stack := v.toList ++ rest }) target → Steps p.tables e below (T.setTop g) target := by
  obtain ⟨cq, kq, qa, qb, qc⟩ := isOf hZ eT E
  obtain ⟨v, vm₁, ⟨T1, L1, k1, n1⟩, -, X1, ⟨Lc, hQ, l1, y1, z1⟩, st⟩ := X.virtualBack hx (y := y) (z := y) hown (mvT hZ wl) (mvT hZ wd) (notFace_of_selects (args := #[]) (mvT hZ wsel)) (mvT hZ wsel) (mvT hZ ws) hy (backOf (W := W) hM hZ wc wi hf hl) qa qc hg hsize (Steps.refl _) (lenOf hpd hlen) hstack hW hd (fun _ _ => ⟨rfl, eT, hc, hn⟩)
  dsimp only [Pt.U, Pt.locs, Pt.cells, Pt.slots] at X1 l1 y1 z1 st hQ
  subst l1 y1 z1
  exact ⟨v, T1, Lc, X1, hQ, fun _ k => st.trans k⟩
end OwnCall
def own_sum : List Int32 → Int64
  | [] => 0
  | x :: xs => own_sum xs + x.toInt64
theorem own_four (x : Int32) : x &&& (3 : Int32) = 0 ∨ x &&& (3 : Int32) = 1 ∨ x &&& (3 : Int32) = 2 ∨ x &&& (3 : Int32) = 3 := by
  have h1 := c_and x (3 : Int32) (by decide)
  have k3 : (3 : Int32).toInt = 3 := rfl
  have k0 : (0 : Int32).toInt = 0 := rfl
  have k1 : (1 : Int32).toInt = 1 := rfl
  have k2 : (2 : Int32).toInt = 2 := rfl
  simp only [← Int32.toInt_inj, k0, k1, k2, k3]
  omega
theorem own_i (x : Int32) : -2147483648 ≤ x.toInt64.toInt ∧ x.toInt64.toInt < 2147483648 := by
  rw [c_i2l]; exact rng32 x
theorem own_bi (x : Int32) : B53 x.toInt64 := by have := own_i x; exact ⟨by omega, by omega⟩
theorem own_add {a : Int64} {x : Int32} {K : Int} (ha : -K ≤ a.toInt ∧ a.toInt ≤ K) (hK : K ≤ 1000000000000) : -(K + 2147483648) ≤ (a + x.toInt64).toInt ∧ (a + x.toInt64).toInt ≤ K + 2147483648 := by
  have h := own_i x
  have q := c_ladd a x.toInt64
  have r := rng64 (a + x.toInt64)
  omega
theorem own_b {a : Int64} {K : Int} (ha : -K ≤ a.toInt ∧ a.toInt ≤ K) (hK : K ≤ 1000000000000) : B53 a := ⟨by omega, by omega⟩
theorem own_z : FP.dconst0 = FP.l2d 0 := by decide +kernel
theorem own_zz : (0 : UInt64) = FP.l2d 0 := l2d_zero.symm
theorem own_k0 : -(0 : Int) ≤ (0 : Int64).toInt ∧ (0 : Int64).toInt ≤ 0 := by decide
theorem own_nz (n : Int32) (h : n ≠ 0) : Nz64 (FP.i2d n) := i2d_nz h
theorem own_efm1 (m : MethodId) (a1 : Addr) : entryFrame m #[(.ref a1)] 8 = mkF m 0 #[.val (.ref a1), .unset, .unset, .unset, .unset, .unset, .unset, .unset] [] := by first | (simp [entryFrame, mkF, argsToLocals, Value.category]; done) | rfl
theorem own_d1_0 : decode prog_16_method_6_code 0 = .ok (.dconst 0, 1) := by decide +kernel
theorem own_d1_1 : decode prog_16_method_6_code 1 = .ok (.dstore_n 1, 1) := by decide +kernel
theorem own_d1_2 : decode prog_16_method_6_code 2 = .ok (.aload_n 0, 1) := by decide +kernel
theorem own_d1_3 : decode prog_16_method_6_code 3 = .ok (.astore_n 3, 1) := by decide +kernel
theorem own_d1_4 : decode prog_16_method_6_code 4 = .ok (.aload_n 3, 1) := by decide +kernel
theorem own_d1_5 : decode prog_16_method_6_code 5 = .ok (.arraylength, 1) := by decide +kernel
theorem own_d1_6 : decode prog_16_method_6_code 6 = .ok (.istore 4, 2) := by decide +kernel
theorem own_d1_8 : decode prog_16_method_6_code 8 = .ok (.iconst 0, 1) := by decide +kernel
theorem own_d1_9 : decode prog_16_method_6_code 9 = .ok (.istore 5, 2) := by decide +kernel
theorem own_d1_11 : decode prog_16_method_6_code 11 = .ok (.iload 5, 2) := by decide +kernel
theorem own_d1_13 : decode prog_16_method_6_code 13 = .ok (.iload 4, 2) := by decide +kernel
theorem own_d1_15 : decode prog_16_method_6_code 15 = .ok (.if_icmp .ge 20, 3) := by decide +kernel
theorem own_d1_18 : decode prog_16_method_6_code 18 = .ok (.aload_n 3, 1) := by decide +kernel
theorem own_d1_19 : decode prog_16_method_6_code 19 = .ok (.iload 5, 2) := by decide +kernel
theorem own_d1_21 : decode prog_16_method_6_code 21 = .ok (.daload, 1) := by decide +kernel
theorem own_d1_22 : decode prog_16_method_6_code 22 = .ok (.dstore 6, 2) := by decide +kernel
theorem own_d1_24 : decode prog_16_method_6_code 24 = .ok (.dload_n 1, 1) := by decide +kernel
theorem own_d1_25 : decode prog_16_method_6_code 25 = .ok (.dload 6, 2) := by decide +kernel
theorem own_d1_27 : decode prog_16_method_6_code 27 = .ok (.dadd, 1) := by decide +kernel
theorem own_d1_28 : decode prog_16_method_6_code 28 = .ok (.dstore_n 1, 1) := by decide +kernel
theorem own_d1_29 : decode prog_16_method_6_code 29 = .ok (.iinc 5 1, 3) := by decide +kernel
theorem own_d1_32 : decode prog_16_method_6_code 32 = .ok (.goto (-21), 3) := by decide +kernel
theorem own_d1_35 : decode prog_16_method_6_code 35 = .ok (.dload_n 1, 1) := by decide +kernel
theorem own_d1_36 : decode prog_16_method_6_code 36 = .ok (.aload_n 0, 1) := by decide +kernel
theorem own_d1_37 : decode prog_16_method_6_code 37 = .ok (.arraylength, 1) := by decide +kernel
theorem own_d1_38 : decode prog_16_method_6_code 38 = .ok (.i2d, 1) := by decide +kernel
theorem own_d1_39 : decode prog_16_method_6_code 39 = .ok (.ddiv, 1) := by decide +kernel
theorem own_d1_40 : decode prog_16_method_6_code 40 = .ok (.dreturn, 1) := by decide +kernel
theorem own_pn0 : plainName "com/example/tailgauge/tailgauge/model/Returns" = true := by first | (simp [plainName, overriddenIn]; done) | decide +kernel
def own_Qm1 (Z : State) (x0 : Int32) (h0 : Heap) (n0 : Nat) (v : Option Value) (h : Heap) (L : List Loc) : Prop := v = some (.double (FP.ddiv (FP.l2d ((0 : Int64) + x0.toInt64)) (FP.i2d (1 : Int32)))) ∧ Fr n0 L ∧ h = h0
set_option maxRecDepth 65536 in
set_option maxHeartbeats 40000000 in
theorem own_rmm1 (l : Launch) (Z : State) (a0 : Array Value) (hw : ∀ d ∈ tables_1, d.before a0 Z = true) (ws : List Jvm.Cond) (a1 : Addr) (h0 : Heap) (n0 : Nat) (x0 : Int32) (ka : ClassId) (V_a1 : Arv Z h0 a1 ka .double (1 : Int32) [(.double (FP.l2d x0.toInt64))] (.double (0 : UInt64))) :
    own_Met l Z (⟨"com/example/tailgauge/tailgauge/model/Returns", "mean", "([D)D"⟩ : MethodName) prog_16_method_6_code 8 (some .double) ws ({ frames := 0, cells := 0, slots := 0, locals := 0 } : Room) #[(.ref a1)] h0 (own_Qm1 Z x0 h0 n0) := by
  refine own_met (plainFor_of_name own_pn0) ?_
  intro p e s m below meth c s₁ X0 hx hZ hby hml hown hnm hret hlk e0
  have N0 := Fr.nil n0
  refine own_go (fun t k => castTop (own_efm1 m a1) k) ?_
  show own_Go _ _ _ _ s₁ (mkF m 0 #[.val (.ref a1), .unset, .unset, .unset, .unset, .unset, .unset, .unset] [])
  refine own_go (fun _ k => XS.dconst0 X0.here hx rfl (hb hby own_d1_0) own_z k) ?_
  show own_Go _ _ _ _ s₁ (mkF m 1 #[.val (.ref a1), .unset, .unset, .unset, .unset, .unset, .unset, .unset] [(.double (FP.l2d (0 : Int64)))])
  refine own_go (fun _ k => XS.dstoreN X0.here hx rfl (hb hby own_d1_1) rfl (l' := #[.val (.ref a1), .val (.double (FP.l2d (0 : Int64))), .second, .unset, .unset, .unset, .unset, .unset]) rfl k) ?_
  show own_Go _ _ _ _ s₁ (mkF m 2 #[.val (.ref a1), .val (.double (FP.l2d (0 : Int64))), .second, .unset, .unset, .unset, .unset, .unset] [])
  refine own_go (fun _ k => XS.aloadN X0.here hx rfl (hb hby own_d1_2) rfl rfl k) ?_
  show own_Go _ _ _ _ s₁ (mkF m 3 #[.val (.ref a1), .val (.double (FP.l2d (0 : Int64))), .second, .unset, .unset, .unset, .unset, .unset] [(.ref a1)])
  refine own_go (fun _ k => XS.astoreN X0.here hx rfl (hb hby own_d1_3) rfl rfl (l' := #[.val (.ref a1), .val (.double (FP.l2d (0 : Int64))), .second, .val (.ref a1), .unset, .unset, .unset, .unset]) rfl k) ?_
  show own_Go _ _ _ _ s₁ (mkF m 4 #[.val (.ref a1), .val (.double (FP.l2d (0 : Int64))), .second, .val (.ref a1), .unset, .unset, .unset, .unset] [])
  refine own_go (fun _ k => XS.aloadN X0.here hx rfl (hb hby own_d1_4) rfl rfl k) ?_
  show own_Go _ _ _ _ s₁ (mkF m 5 #[.val (.ref a1), .val (.double (FP.l2d (0 : Int64))), .second, .val (.ref a1), .unset, .unset, .unset, .unset] [(.ref a1)])
  obtain ⟨clz1, Arz1, qz1, Sz1, Mz1, HHz1, Gz1⟩ := id V_a1
  refine own_go (fun _ k => X0.arraylength hx (by rw [e0]; exact Arz1.1) (State.isArrayOf_alike hZ.alike Arz1.2.1) (g := (mkF m 5 #[.val (.ref a1), .val (.double (FP.l2d (0 : Int64))), .second, .val (.ref a1), .unset, .unset, .unset, .unset] [(.ref a1)])) rfl rfl (hb hby own_d1_5) _ k) ?_
  rw [len_of Sz1 Mz1]
  show own_Go _ _ _ _ s₁ (mkF m 6 #[.val (.ref a1), .val (.double (FP.l2d (0 : Int64))), .second, .val (.ref a1), .unset, .unset, .unset, .unset] [(.int (1 : Int32))])
  refine own_go (fun _ k => XS.istore X0.here hx rfl (hb hby own_d1_6) rfl (l' := #[.val (.ref a1), .val (.double (FP.l2d (0 : Int64))), .second, .val (.ref a1), .val (.int (1 : Int32)), .unset, .unset, .unset]) rfl k) ?_
  show own_Go _ _ _ _ s₁ (mkF m 8 #[.val (.ref a1), .val (.double (FP.l2d (0 : Int64))), .second, .val (.ref a1), .val (.int (1 : Int32)), .unset, .unset, .unset] [])
  refine own_go (fun _ k => XS.iconst X0.here hx rfl (hb hby own_d1_8) k) ?_
  show own_Go _ _ _ _ s₁ (mkF m 9 #[.val (.ref a1), .val (.double (FP.l2d (0 : Int64))), .second, .val (.ref a1), .val (.int (1 : Int32)), .unset, .unset, .unset] [(.int (0 : Int32))])
  refine own_go (fun _ k => XS.istore X0.here hx rfl (hb hby own_d1_9) rfl (l' := #[.val (.ref a1), .val (.double (FP.l2d (0 : Int64))), .second, .val (.ref a1), .val (.int (1 : Int32)), .val (.int (0 : Int32)), .unset, .unset]) rfl k) ?_
  show own_Go _ _ _ _ s₁ (mkF m 11 #[.val (.ref a1), .val (.double (FP.l2d (0 : Int64))), .second, .val (.ref a1), .val (.int (1 : Int32)), .val (.int (0 : Int32)), .unset, .unset] [])
  refine own_go (fun _ k => XS.iload X0.here hx rfl (hb hby own_d1_11) rfl k) ?_
  show own_Go _ _ _ _ s₁ (mkF m 13 #[.val (.ref a1), .val (.double (FP.l2d (0 : Int64))), .second, .val (.ref a1), .val (.int (1 : Int32)), .val (.int (0 : Int32)), .unset, .unset] [(.int (0 : Int32))])
  refine own_go (fun _ k => XS.iload X0.here hx rfl (hb hby own_d1_13) rfl k) ?_
  show own_Go _ _ _ _ s₁ (mkF m 15 #[.val (.ref a1), .val (.double (FP.l2d (0 : Int64))), .second, .val (.ref a1), .val (.int (1 : Int32)), .val (.int (0 : Int32)), .unset, .unset] [(.int (1 : Int32)), (.int (0 : Int32))])
  have hk0 := own_k0
  refine own_go (fun _ k => XS.icmpNo X0.here hx rfl (hb hby own_d1_15) rfl (tlt (by decide : (0 : Int32) < (1 : Int32))).2.1 k) ?_
  show own_Go _ _ _ _ s₁ (mkF m 18 #[.val (.ref a1), .val (.double (FP.l2d (0 : Int64))), .second, .val (.ref a1), .val (.int (1 : Int32)), .val (.int (0 : Int32)), .unset, .unset] [])
  refine own_go (fun _ k => XS.aloadN X0.here hx rfl (hb hby own_d1_18) rfl rfl k) ?_
  show own_Go _ _ _ _ s₁ (mkF m 19 #[.val (.ref a1), .val (.double (FP.l2d (0 : Int64))), .second, .val (.ref a1), .val (.int (1 : Int32)), .val (.int (0 : Int32)), .unset, .unset] [(.ref a1)])
  refine own_go (fun _ k => XS.iload X0.here hx rfl (hb hby own_d1_19) rfl k) ?_
  show own_Go _ _ _ _ s₁ (mkF m 21 #[.val (.ref a1), .val (.double (FP.l2d (0 : Int64))), .second, .val (.ref a1), .val (.int (1 : Int32)), .val (.int (0 : Int32)), .unset, .unset] [(.int (0 : Int32)), (.ref a1)])
  obtain ⟨clz2, Arz2, qz2, Sz2, Mz2, HHz2, Gz2⟩ := id V_a1
  have hinz2 : ¬ ((0 : Int32) < 0 ∨ clz2.slots.size ≤ ((0 : Int32)).toNatClampNeg) := inb_of Sz2 ⟨(by decide), (by decide)⟩
  have hatz2 : clz2.slots[((0 : Int32)).toNatClampNeg]? = some (.double (FP.l2d x0.toInt64)) := HHz2.at hinz2 (rfl)
  refine own_go (fun _ k => X0.daload hx (j := (0 : Int32)) (v := (.double (FP.l2d x0.toInt64))) (by rw [e0]; exact Arz2.1) (State.isArrayOf_alike hZ.alike Arz2.2.1) Arz2.2.2 hinz2 hatz2 (g := (mkF m 21 #[.val (.ref a1), .val (.double (FP.l2d (0 : Int64))), .second, .val (.ref a1), .val (.int (1 : Int32)), .val (.int (0 : Int32)), .unset, .unset] [(.int (0 : Int32)), (.ref a1)])) rfl rfl (hb hby own_d1_21) _ k) ?_
  show own_Go _ _ _ _ s₁ (mkF m 22 #[.val (.ref a1), .val (.double (FP.l2d (0 : Int64))), .second, .val (.ref a1), .val (.int (1 : Int32)), .val (.int (0 : Int32)), .unset, .unset] [(.double (FP.l2d x0.toInt64))])
  refine own_go (fun _ k => XS.dstore X0.here hx rfl (hb hby own_d1_22) rfl (l' := #[.val (.ref a1), .val (.double (FP.l2d (0 : Int64))), .second, .val (.ref a1), .val (.int (1 : Int32)), .val (.int (0 : Int32)), .val (.double (FP.l2d x0.toInt64)), .second]) rfl k) ?_
  show own_Go _ _ _ _ s₁ (mkF m 24 #[.val (.ref a1), .val (.double (FP.l2d (0 : Int64))), .second, .val (.ref a1), .val (.int (1 : Int32)), .val (.int (0 : Int32)), .val (.double (FP.l2d x0.toInt64)), .second] [])
  refine own_go (fun _ k => XS.dloadN X0.here hx rfl (hb hby own_d1_24) rfl k) ?_
  show own_Go _ _ _ _ s₁ (mkF m 25 #[.val (.ref a1), .val (.double (FP.l2d (0 : Int64))), .second, .val (.ref a1), .val (.int (1 : Int32)), .val (.int (0 : Int32)), .val (.double (FP.l2d x0.toInt64)), .second] [(.double (FP.l2d (0 : Int64)))])
  refine own_go (fun _ k => XS.dload X0.here hx rfl (hb hby own_d1_25) rfl k) ?_
  show own_Go _ _ _ _ s₁ (mkF m 27 #[.val (.ref a1), .val (.double (FP.l2d (0 : Int64))), .second, .val (.ref a1), .val (.int (1 : Int32)), .val (.int (0 : Int32)), .val (.double (FP.l2d x0.toInt64)), .second] [(.double (FP.l2d x0.toInt64)), (.double (FP.l2d (0 : Int64)))])
  have ea0 : FP.dadd (FP.l2d (0 : Int64)) (FP.l2d x0.toInt64) = FP.l2d ((0 : Int64) + x0.toInt64) := dadd_w (own_b hk0 (by decide)) (own_bi x0)
  refine own_go (fun _ k => XS.daddS X0.here hx rfl (hb hby own_d1_27) rfl (nn_w ea0) ea0 k) ?_
  show own_Go _ _ _ _ s₁ (mkF m 28 #[.val (.ref a1), .val (.double (FP.l2d (0 : Int64))), .second, .val (.ref a1), .val (.int (1 : Int32)), .val (.int (0 : Int32)), .val (.double (FP.l2d x0.toInt64)), .second] [(.double (FP.l2d ((0 : Int64) + x0.toInt64)))])
  have hk1 := own_add (x := x0) hk0 (by decide)
  refine own_go (fun _ k => XS.dstoreN X0.here hx rfl (hb hby own_d1_28) rfl (l' := #[.val (.ref a1), .val (.double (FP.l2d ((0 : Int64) + x0.toInt64))), .second, .val (.ref a1), .val (.int (1 : Int32)), .val (.int (0 : Int32)), .val (.double (FP.l2d x0.toInt64)), .second]) rfl k) ?_
  show own_Go _ _ _ _ s₁ (mkF m 29 #[.val (.ref a1), .val (.double (FP.l2d ((0 : Int64) + x0.toInt64))), .second, .val (.ref a1), .val (.int (1 : Int32)), .val (.int (0 : Int32)), .val (.double (FP.l2d x0.toInt64)), .second] [])
  refine own_go (fun _ k => XS.iinc X0.here hx rfl (hb hby own_d1_29) rfl (l' := #[.val (.ref a1), .val (.double (FP.l2d ((0 : Int64) + x0.toInt64))), .second, .val (.ref a1), .val (.int (1 : Int32)), .val (.int ((0 : Int32) + (1 : Int32))), .val (.double (FP.l2d x0.toInt64)), .second]) rfl k) ?_
  show own_Go _ _ _ _ s₁ (mkF m 32 #[.val (.ref a1), .val (.double (FP.l2d ((0 : Int64) + x0.toInt64))), .second, .val (.ref a1), .val (.int (1 : Int32)), .val (.int ((0 : Int32) + (1 : Int32))), .val (.double (FP.l2d x0.toInt64)), .second] [])
  refine own_go (fun _ k => XS.goto X0.here hx rfl (pc0 := 32) (pc' := 11) rfl (hb hby own_d1_32) (by decide) (by decide) k) ?_
  show own_Go _ _ _ _ s₁ (mkF m 11 #[.val (.ref a1), .val (.double (FP.l2d ((0 : Int64) + x0.toInt64))), .second, .val (.ref a1), .val (.int (1 : Int32)), .val (.int ((0 : Int32) + (1 : Int32))), .val (.double (FP.l2d x0.toInt64)), .second] [])
  refine own_go (fun _ k => XS.iload X0.here hx rfl (hb hby own_d1_11) rfl k) ?_
  show own_Go _ _ _ _ s₁ (mkF m 13 #[.val (.ref a1), .val (.double (FP.l2d ((0 : Int64) + x0.toInt64))), .second, .val (.ref a1), .val (.int (1 : Int32)), .val (.int ((0 : Int32) + (1 : Int32))), .val (.double (FP.l2d x0.toInt64)), .second] [(.int ((0 : Int32) + (1 : Int32)))])
  refine own_go (fun _ k => XS.iload X0.here hx rfl (hb hby own_d1_13) rfl k) ?_
  show own_Go _ _ _ _ s₁ (mkF m 15 #[.val (.ref a1), .val (.double (FP.l2d ((0 : Int64) + x0.toInt64))), .second, .val (.ref a1), .val (.int (1 : Int32)), .val (.int ((0 : Int32) + (1 : Int32))), .val (.double (FP.l2d x0.toInt64)), .second] [(.int (1 : Int32)), (.int ((0 : Int32) + (1 : Int32)))])
  show own_Go _ _ _ _ s₁ (mkF m 15 #[.val (.ref a1), .val (.double (FP.l2d ((0 : Int64) + x0.toInt64))), .second, .val (.ref a1), .val (.int (1 : Int32)), .val (.int (1 : Int32)), .val (.double (FP.l2d x0.toInt64)), .second] [(.int (1 : Int32)), (.int (1 : Int32))])
  refine own_go (fun _ k => XS.icmpYes X0.here hx rfl (pc0 := 15) (pc' := 35) rfl (hb hby own_d1_15) rfl (flt (by decide : ¬ ((1 : Int32) < (1 : Int32)))).2.1 (by decide) (by decide) k) ?_
  show own_Go _ _ _ _ s₁ (mkF m 35 #[.val (.ref a1), .val (.double (FP.l2d ((0 : Int64) + x0.toInt64))), .second, .val (.ref a1), .val (.int (1 : Int32)), .val (.int (1 : Int32)), .val (.double (FP.l2d x0.toInt64)), .second] [])
  refine own_go (fun _ k => XS.dloadN X0.here hx rfl (hb hby own_d1_35) rfl k) ?_
  show own_Go _ _ _ _ s₁ (mkF m 36 #[.val (.ref a1), .val (.double (FP.l2d ((0 : Int64) + x0.toInt64))), .second, .val (.ref a1), .val (.int (1 : Int32)), .val (.int (1 : Int32)), .val (.double (FP.l2d x0.toInt64)), .second] [(.double (FP.l2d ((0 : Int64) + x0.toInt64)))])
  refine own_go (fun _ k => XS.aloadN X0.here hx rfl (hb hby own_d1_36) rfl rfl k) ?_
  show own_Go _ _ _ _ s₁ (mkF m 37 #[.val (.ref a1), .val (.double (FP.l2d ((0 : Int64) + x0.toInt64))), .second, .val (.ref a1), .val (.int (1 : Int32)), .val (.int (1 : Int32)), .val (.double (FP.l2d x0.toInt64)), .second] [(.ref a1), (.double (FP.l2d ((0 : Int64) + x0.toInt64)))])
  obtain ⟨clz3, Arz3, qz3, Sz3, Mz3, HHz3, Gz3⟩ := id V_a1
  refine own_go (fun _ k => X0.arraylength hx (by rw [e0]; exact Arz3.1) (State.isArrayOf_alike hZ.alike Arz3.2.1) (g := (mkF m 37 #[.val (.ref a1), .val (.double (FP.l2d ((0 : Int64) + x0.toInt64))), .second, .val (.ref a1), .val (.int (1 : Int32)), .val (.int (1 : Int32)), .val (.double (FP.l2d x0.toInt64)), .second] [(.ref a1), (.double (FP.l2d ((0 : Int64) + x0.toInt64)))])) rfl rfl (hb hby own_d1_37) _ k) ?_
  rw [len_of Sz3 Mz3]
  show own_Go _ _ _ _ s₁ (mkF m 38 #[.val (.ref a1), .val (.double (FP.l2d ((0 : Int64) + x0.toInt64))), .second, .val (.ref a1), .val (.int (1 : Int32)), .val (.int (1 : Int32)), .val (.double (FP.l2d x0.toInt64)), .second] [(.int (1 : Int32)), (.double (FP.l2d ((0 : Int64) + x0.toInt64)))])
  refine own_go (fun _ k => XS.i2dS X0.here hx rfl (hb hby own_d1_38) rfl rfl k) ?_
  show own_Go _ _ _ _ s₁ (mkF m 39 #[.val (.ref a1), .val (.double (FP.l2d ((0 : Int64) + x0.toInt64))), .second, .val (.ref a1), .val (.int (1 : Int32)), .val (.int (1 : Int32)), .val (.double (FP.l2d x0.toInt64)), .second] [(.double (FP.i2d (1 : Int32))), (.double (FP.l2d ((0 : Int64) + x0.toInt64)))])
  have hnn := ddiv_out (l2d_fin ((0 : Int64) + x0.toInt64)).noNaN (i2d_fin (1 : Int32)) (own_nz (1 : Int32) (by decide))
  refine own_go (fun _ k => XS.ddivS X0.here hx rfl (hb hby own_d1_39) rfl hnn rfl k) ?_
  show own_Go _ _ _ _ s₁ (mkF m 40 #[.val (.ref a1), .val (.double (FP.l2d ((0 : Int64) + x0.toInt64))), .second, .val (.ref a1), .val (.int (1 : Int32)), .val (.int (1 : Int32)), .val (.double (FP.l2d x0.toInt64)), .second] [(.double (FP.ddiv (FP.l2d ((0 : Int64) + x0.toInt64)) (FP.i2d (1 : Int32))))])
  exact own_end X0 hlk (v := (some (.double (FP.ddiv (FP.l2d ((0 : Int64) + x0.toInt64)) (FP.i2d (1 : Int32)))))) (fun h => by rw [hret] at h; cases h) (fun fs hr => retOut X0 hx hret rfl (Or.inr (Or.inr (Or.inl ⟨rfl, rfl, _, rfl⟩))) (hb hby own_d1_40) hr) (by rw [e0]; exact ⟨rfl, N0, rfl⟩) (by decide) (by decide)
theorem own_efm2 (m : MethodId) (a1 : Addr) : entryFrame m #[(.ref a1)] 8 = mkF m 0 #[.val (.ref a1), .unset, .unset, .unset, .unset, .unset, .unset, .unset] [] := by first | (simp [entryFrame, mkF, argsToLocals, Value.category]; done) | rfl
def own_Qm2 (Z : State) (x0 : Int32) (x1 : Int32) (h0 : Heap) (n0 : Nat) (v : Option Value) (h : Heap) (L : List Loc) : Prop := v = some (.double (FP.ddiv (FP.l2d (((0 : Int64) + x0.toInt64) + x1.toInt64)) (FP.i2d (2 : Int32)))) ∧ Fr n0 L ∧ h = h0
set_option maxRecDepth 65536 in
set_option maxHeartbeats 40000000 in
theorem own_rmm2 (l : Launch) (Z : State) (a0 : Array Value) (hw : ∀ d ∈ tables_1, d.before a0 Z = true) (ws : List Jvm.Cond) (a1 : Addr) (h0 : Heap) (n0 : Nat) (x0 x1 : Int32) (ka : ClassId) (V_a1 : Arv Z h0 a1 ka .double (2 : Int32) [(.double (FP.l2d x0.toInt64)), (.double (FP.l2d x1.toInt64))] (.double (0 : UInt64))) :
    own_Met l Z (⟨"com/example/tailgauge/tailgauge/model/Returns", "mean", "([D)D"⟩ : MethodName) prog_16_method_6_code 8 (some .double) ws ({ frames := 0, cells := 0, slots := 0, locals := 0 } : Room) #[(.ref a1)] h0 (own_Qm2 Z x0 x1 h0 n0) := by
  refine own_met (plainFor_of_name own_pn0) ?_
  intro p e s m below meth c s₁ X0 hx hZ hby hml hown hnm hret hlk e0
  have N0 := Fr.nil n0
  refine own_go (fun t k => castTop (own_efm2 m a1) k) ?_
  show own_Go _ _ _ _ s₁ (mkF m 0 #[.val (.ref a1), .unset, .unset, .unset, .unset, .unset, .unset, .unset] [])
  refine own_go (fun _ k => XS.dconst0 X0.here hx rfl (hb hby own_d1_0) own_z k) ?_
  show own_Go _ _ _ _ s₁ (mkF m 1 #[.val (.ref a1), .unset, .unset, .unset, .unset, .unset, .unset, .unset] [(.double (FP.l2d (0 : Int64)))])
  refine own_go (fun _ k => XS.dstoreN X0.here hx rfl (hb hby own_d1_1) rfl (l' := #[.val (.ref a1), .val (.double (FP.l2d (0 : Int64))), .second, .unset, .unset, .unset, .unset, .unset]) rfl k) ?_
  show own_Go _ _ _ _ s₁ (mkF m 2 #[.val (.ref a1), .val (.double (FP.l2d (0 : Int64))), .second, .unset, .unset, .unset, .unset, .unset] [])
  refine own_go (fun _ k => XS.aloadN X0.here hx rfl (hb hby own_d1_2) rfl rfl k) ?_
  show own_Go _ _ _ _ s₁ (mkF m 3 #[.val (.ref a1), .val (.double (FP.l2d (0 : Int64))), .second, .unset, .unset, .unset, .unset, .unset] [(.ref a1)])
  refine own_go (fun _ k => XS.astoreN X0.here hx rfl (hb hby own_d1_3) rfl rfl (l' := #[.val (.ref a1), .val (.double (FP.l2d (0 : Int64))), .second, .val (.ref a1), .unset, .unset, .unset, .unset]) rfl k) ?_
  show own_Go _ _ _ _ s₁ (mkF m 4 #[.val (.ref a1), .val (.double (FP.l2d (0 : Int64))), .second, .val (.ref a1), .unset, .unset, .unset, .unset] [])
  refine own_go (fun _ k => XS.aloadN X0.here hx rfl (hb hby own_d1_4) rfl rfl k) ?_
  show own_Go _ _ _ _ s₁ (mkF m 5 #[.val (.ref a1), .val (.double (FP.l2d (0 : Int64))), .second, .val (.ref a1), .unset, .unset, .unset, .unset] [(.ref a1)])
  obtain ⟨clz4, Arz4, qz4, Sz4, Mz4, HHz4, Gz4⟩ := id V_a1
  refine own_go (fun _ k => X0.arraylength hx (by rw [e0]; exact Arz4.1) (State.isArrayOf_alike hZ.alike Arz4.2.1) (g := (mkF m 5 #[.val (.ref a1), .val (.double (FP.l2d (0 : Int64))), .second, .val (.ref a1), .unset, .unset, .unset, .unset] [(.ref a1)])) rfl rfl (hb hby own_d1_5) _ k) ?_
  rw [len_of Sz4 Mz4]
  show own_Go _ _ _ _ s₁ (mkF m 6 #[.val (.ref a1), .val (.double (FP.l2d (0 : Int64))), .second, .val (.ref a1), .unset, .unset, .unset, .unset] [(.int (2 : Int32))])
  refine own_go (fun _ k => XS.istore X0.here hx rfl (hb hby own_d1_6) rfl (l' := #[.val (.ref a1), .val (.double (FP.l2d (0 : Int64))), .second, .val (.ref a1), .val (.int (2 : Int32)), .unset, .unset, .unset]) rfl k) ?_
  show own_Go _ _ _ _ s₁ (mkF m 8 #[.val (.ref a1), .val (.double (FP.l2d (0 : Int64))), .second, .val (.ref a1), .val (.int (2 : Int32)), .unset, .unset, .unset] [])
  refine own_go (fun _ k => XS.iconst X0.here hx rfl (hb hby own_d1_8) k) ?_
  show own_Go _ _ _ _ s₁ (mkF m 9 #[.val (.ref a1), .val (.double (FP.l2d (0 : Int64))), .second, .val (.ref a1), .val (.int (2 : Int32)), .unset, .unset, .unset] [(.int (0 : Int32))])
  refine own_go (fun _ k => XS.istore X0.here hx rfl (hb hby own_d1_9) rfl (l' := #[.val (.ref a1), .val (.double (FP.l2d (0 : Int64))), .second, .val (.ref a1), .val (.int (2 : Int32)), .val (.int (0 : Int32)), .unset, .unset]) rfl k) ?_
  show own_Go _ _ _ _ s₁ (mkF m 11 #[.val (.ref a1), .val (.double (FP.l2d (0 : Int64))), .second, .val (.ref a1), .val (.int (2 : Int32)), .val (.int (0 : Int32)), .unset, .unset] [])
  refine own_go (fun _ k => XS.iload X0.here hx rfl (hb hby own_d1_11) rfl k) ?_
  show own_Go _ _ _ _ s₁ (mkF m 13 #[.val (.ref a1), .val (.double (FP.l2d (0 : Int64))), .second, .val (.ref a1), .val (.int (2 : Int32)), .val (.int (0 : Int32)), .unset, .unset] [(.int (0 : Int32))])
  refine own_go (fun _ k => XS.iload X0.here hx rfl (hb hby own_d1_13) rfl k) ?_
  show own_Go _ _ _ _ s₁ (mkF m 15 #[.val (.ref a1), .val (.double (FP.l2d (0 : Int64))), .second, .val (.ref a1), .val (.int (2 : Int32)), .val (.int (0 : Int32)), .unset, .unset] [(.int (2 : Int32)), (.int (0 : Int32))])
  have hk0 := own_k0
  refine own_go (fun _ k => XS.icmpNo X0.here hx rfl (hb hby own_d1_15) rfl (tlt (by decide : (0 : Int32) < (2 : Int32))).2.1 k) ?_
  show own_Go _ _ _ _ s₁ (mkF m 18 #[.val (.ref a1), .val (.double (FP.l2d (0 : Int64))), .second, .val (.ref a1), .val (.int (2 : Int32)), .val (.int (0 : Int32)), .unset, .unset] [])
  refine own_go (fun _ k => XS.aloadN X0.here hx rfl (hb hby own_d1_18) rfl rfl k) ?_
  show own_Go _ _ _ _ s₁ (mkF m 19 #[.val (.ref a1), .val (.double (FP.l2d (0 : Int64))), .second, .val (.ref a1), .val (.int (2 : Int32)), .val (.int (0 : Int32)), .unset, .unset] [(.ref a1)])
  refine own_go (fun _ k => XS.iload X0.here hx rfl (hb hby own_d1_19) rfl k) ?_
  show own_Go _ _ _ _ s₁ (mkF m 21 #[.val (.ref a1), .val (.double (FP.l2d (0 : Int64))), .second, .val (.ref a1), .val (.int (2 : Int32)), .val (.int (0 : Int32)), .unset, .unset] [(.int (0 : Int32)), (.ref a1)])
  obtain ⟨clz5, Arz5, qz5, Sz5, Mz5, HHz5, Gz5⟩ := id V_a1
  have hinz5 : ¬ ((0 : Int32) < 0 ∨ clz5.slots.size ≤ ((0 : Int32)).toNatClampNeg) := inb_of Sz5 ⟨(by decide), (by decide)⟩
  have hatz5 : clz5.slots[((0 : Int32)).toNatClampNeg]? = some (.double (FP.l2d x0.toInt64)) := HHz5.at hinz5 (rfl)
  refine own_go (fun _ k => X0.daload hx (j := (0 : Int32)) (v := (.double (FP.l2d x0.toInt64))) (by rw [e0]; exact Arz5.1) (State.isArrayOf_alike hZ.alike Arz5.2.1) Arz5.2.2 hinz5 hatz5 (g := (mkF m 21 #[.val (.ref a1), .val (.double (FP.l2d (0 : Int64))), .second, .val (.ref a1), .val (.int (2 : Int32)), .val (.int (0 : Int32)), .unset, .unset] [(.int (0 : Int32)), (.ref a1)])) rfl rfl (hb hby own_d1_21) _ k) ?_
  show own_Go _ _ _ _ s₁ (mkF m 22 #[.val (.ref a1), .val (.double (FP.l2d (0 : Int64))), .second, .val (.ref a1), .val (.int (2 : Int32)), .val (.int (0 : Int32)), .unset, .unset] [(.double (FP.l2d x0.toInt64))])
  refine own_go (fun _ k => XS.dstore X0.here hx rfl (hb hby own_d1_22) rfl (l' := #[.val (.ref a1), .val (.double (FP.l2d (0 : Int64))), .second, .val (.ref a1), .val (.int (2 : Int32)), .val (.int (0 : Int32)), .val (.double (FP.l2d x0.toInt64)), .second]) rfl k) ?_
  show own_Go _ _ _ _ s₁ (mkF m 24 #[.val (.ref a1), .val (.double (FP.l2d (0 : Int64))), .second, .val (.ref a1), .val (.int (2 : Int32)), .val (.int (0 : Int32)), .val (.double (FP.l2d x0.toInt64)), .second] [])
  refine own_go (fun _ k => XS.dloadN X0.here hx rfl (hb hby own_d1_24) rfl k) ?_
  show own_Go _ _ _ _ s₁ (mkF m 25 #[.val (.ref a1), .val (.double (FP.l2d (0 : Int64))), .second, .val (.ref a1), .val (.int (2 : Int32)), .val (.int (0 : Int32)), .val (.double (FP.l2d x0.toInt64)), .second] [(.double (FP.l2d (0 : Int64)))])
  refine own_go (fun _ k => XS.dload X0.here hx rfl (hb hby own_d1_25) rfl k) ?_
  show own_Go _ _ _ _ s₁ (mkF m 27 #[.val (.ref a1), .val (.double (FP.l2d (0 : Int64))), .second, .val (.ref a1), .val (.int (2 : Int32)), .val (.int (0 : Int32)), .val (.double (FP.l2d x0.toInt64)), .second] [(.double (FP.l2d x0.toInt64)), (.double (FP.l2d (0 : Int64)))])
  have ea0 : FP.dadd (FP.l2d (0 : Int64)) (FP.l2d x0.toInt64) = FP.l2d ((0 : Int64) + x0.toInt64) := dadd_w (own_b hk0 (by decide)) (own_bi x0)
  refine own_go (fun _ k => XS.daddS X0.here hx rfl (hb hby own_d1_27) rfl (nn_w ea0) ea0 k) ?_
  show own_Go _ _ _ _ s₁ (mkF m 28 #[.val (.ref a1), .val (.double (FP.l2d (0 : Int64))), .second, .val (.ref a1), .val (.int (2 : Int32)), .val (.int (0 : Int32)), .val (.double (FP.l2d x0.toInt64)), .second] [(.double (FP.l2d ((0 : Int64) + x0.toInt64)))])
  have hk1 := own_add (x := x0) hk0 (by decide)
  refine own_go (fun _ k => XS.dstoreN X0.here hx rfl (hb hby own_d1_28) rfl (l' := #[.val (.ref a1), .val (.double (FP.l2d ((0 : Int64) + x0.toInt64))), .second, .val (.ref a1), .val (.int (2 : Int32)), .val (.int (0 : Int32)), .val (.double (FP.l2d x0.toInt64)), .second]) rfl k) ?_
  show own_Go _ _ _ _ s₁ (mkF m 29 #[.val (.ref a1), .val (.double (FP.l2d ((0 : Int64) + x0.toInt64))), .second, .val (.ref a1), .val (.int (2 : Int32)), .val (.int (0 : Int32)), .val (.double (FP.l2d x0.toInt64)), .second] [])
  refine own_go (fun _ k => XS.iinc X0.here hx rfl (hb hby own_d1_29) rfl (l' := #[.val (.ref a1), .val (.double (FP.l2d ((0 : Int64) + x0.toInt64))), .second, .val (.ref a1), .val (.int (2 : Int32)), .val (.int ((0 : Int32) + (1 : Int32))), .val (.double (FP.l2d x0.toInt64)), .second]) rfl k) ?_
  show own_Go _ _ _ _ s₁ (mkF m 32 #[.val (.ref a1), .val (.double (FP.l2d ((0 : Int64) + x0.toInt64))), .second, .val (.ref a1), .val (.int (2 : Int32)), .val (.int ((0 : Int32) + (1 : Int32))), .val (.double (FP.l2d x0.toInt64)), .second] [])
  refine own_go (fun _ k => XS.goto X0.here hx rfl (pc0 := 32) (pc' := 11) rfl (hb hby own_d1_32) (by decide) (by decide) k) ?_
  show own_Go _ _ _ _ s₁ (mkF m 11 #[.val (.ref a1), .val (.double (FP.l2d ((0 : Int64) + x0.toInt64))), .second, .val (.ref a1), .val (.int (2 : Int32)), .val (.int ((0 : Int32) + (1 : Int32))), .val (.double (FP.l2d x0.toInt64)), .second] [])
  refine own_go (fun _ k => XS.iload X0.here hx rfl (hb hby own_d1_11) rfl k) ?_
  show own_Go _ _ _ _ s₁ (mkF m 13 #[.val (.ref a1), .val (.double (FP.l2d ((0 : Int64) + x0.toInt64))), .second, .val (.ref a1), .val (.int (2 : Int32)), .val (.int ((0 : Int32) + (1 : Int32))), .val (.double (FP.l2d x0.toInt64)), .second] [(.int ((0 : Int32) + (1 : Int32)))])
  refine own_go (fun _ k => XS.iload X0.here hx rfl (hb hby own_d1_13) rfl k) ?_
  show own_Go _ _ _ _ s₁ (mkF m 15 #[.val (.ref a1), .val (.double (FP.l2d ((0 : Int64) + x0.toInt64))), .second, .val (.ref a1), .val (.int (2 : Int32)), .val (.int ((0 : Int32) + (1 : Int32))), .val (.double (FP.l2d x0.toInt64)), .second] [(.int (2 : Int32)), (.int ((0 : Int32) + (1 : Int32)))])
  show own_Go _ _ _ _ s₁ (mkF m 15 #[.val (.ref a1), .val (.double (FP.l2d ((0 : Int64) + x0.toInt64))), .second, .val (.ref a1), .val (.int (2 : Int32)), .val (.int (1 : Int32)), .val (.double (FP.l2d x0.toInt64)), .second] [(.int (2 : Int32)), (.int (1 : Int32))])
  refine own_go (fun _ k => XS.icmpNo X0.here hx rfl (hb hby own_d1_15) rfl (tlt (by decide : (1 : Int32) < (2 : Int32))).2.1 k) ?_
  show own_Go _ _ _ _ s₁ (mkF m 18 #[.val (.ref a1), .val (.double (FP.l2d ((0 : Int64) + x0.toInt64))), .second, .val (.ref a1), .val (.int (2 : Int32)), .val (.int (1 : Int32)), .val (.double (FP.l2d x0.toInt64)), .second] [])
  refine own_go (fun _ k => XS.aloadN X0.here hx rfl (hb hby own_d1_18) rfl rfl k) ?_
  show own_Go _ _ _ _ s₁ (mkF m 19 #[.val (.ref a1), .val (.double (FP.l2d ((0 : Int64) + x0.toInt64))), .second, .val (.ref a1), .val (.int (2 : Int32)), .val (.int (1 : Int32)), .val (.double (FP.l2d x0.toInt64)), .second] [(.ref a1)])
  refine own_go (fun _ k => XS.iload X0.here hx rfl (hb hby own_d1_19) rfl k) ?_
  show own_Go _ _ _ _ s₁ (mkF m 21 #[.val (.ref a1), .val (.double (FP.l2d ((0 : Int64) + x0.toInt64))), .second, .val (.ref a1), .val (.int (2 : Int32)), .val (.int (1 : Int32)), .val (.double (FP.l2d x0.toInt64)), .second] [(.int (1 : Int32)), (.ref a1)])
  obtain ⟨clz6, Arz6, qz6, Sz6, Mz6, HHz6, Gz6⟩ := id V_a1
  have hinz6 : ¬ ((1 : Int32) < 0 ∨ clz6.slots.size ≤ ((1 : Int32)).toNatClampNeg) := inb_of Sz6 ⟨(by decide), (by decide)⟩
  have hatz6 : clz6.slots[((1 : Int32)).toNatClampNeg]? = some (.double (FP.l2d x1.toInt64)) := HHz6.at hinz6 (rfl)
  refine own_go (fun _ k => X0.daload hx (j := (1 : Int32)) (v := (.double (FP.l2d x1.toInt64))) (by rw [e0]; exact Arz6.1) (State.isArrayOf_alike hZ.alike Arz6.2.1) Arz6.2.2 hinz6 hatz6 (g := (mkF m 21 #[.val (.ref a1), .val (.double (FP.l2d ((0 : Int64) + x0.toInt64))), .second, .val (.ref a1), .val (.int (2 : Int32)), .val (.int (1 : Int32)), .val (.double (FP.l2d x0.toInt64)), .second] [(.int (1 : Int32)), (.ref a1)])) rfl rfl (hb hby own_d1_21) _ k) ?_
  show own_Go _ _ _ _ s₁ (mkF m 22 #[.val (.ref a1), .val (.double (FP.l2d ((0 : Int64) + x0.toInt64))), .second, .val (.ref a1), .val (.int (2 : Int32)), .val (.int (1 : Int32)), .val (.double (FP.l2d x0.toInt64)), .second] [(.double (FP.l2d x1.toInt64))])
  refine own_go (fun _ k => XS.dstore X0.here hx rfl (hb hby own_d1_22) rfl (l' := #[.val (.ref a1), .val (.double (FP.l2d ((0 : Int64) + x0.toInt64))), .second, .val (.ref a1), .val (.int (2 : Int32)), .val (.int (1 : Int32)), .val (.double (FP.l2d x1.toInt64)), .second]) rfl k) ?_
  show own_Go _ _ _ _ s₁ (mkF m 24 #[.val (.ref a1), .val (.double (FP.l2d ((0 : Int64) + x0.toInt64))), .second, .val (.ref a1), .val (.int (2 : Int32)), .val (.int (1 : Int32)), .val (.double (FP.l2d x1.toInt64)), .second] [])
  refine own_go (fun _ k => XS.dloadN X0.here hx rfl (hb hby own_d1_24) rfl k) ?_
  show own_Go _ _ _ _ s₁ (mkF m 25 #[.val (.ref a1), .val (.double (FP.l2d ((0 : Int64) + x0.toInt64))), .second, .val (.ref a1), .val (.int (2 : Int32)), .val (.int (1 : Int32)), .val (.double (FP.l2d x1.toInt64)), .second] [(.double (FP.l2d ((0 : Int64) + x0.toInt64)))])
  refine own_go (fun _ k => XS.dload X0.here hx rfl (hb hby own_d1_25) rfl k) ?_
  show own_Go _ _ _ _ s₁ (mkF m 27 #[.val (.ref a1), .val (.double (FP.l2d ((0 : Int64) + x0.toInt64))), .second, .val (.ref a1), .val (.int (2 : Int32)), .val (.int (1 : Int32)), .val (.double (FP.l2d x1.toInt64)), .second] [(.double (FP.l2d x1.toInt64)), (.double (FP.l2d ((0 : Int64) + x0.toInt64)))])
  have ea1 : FP.dadd (FP.l2d ((0 : Int64) + x0.toInt64)) (FP.l2d x1.toInt64) = FP.l2d (((0 : Int64) + x0.toInt64) + x1.toInt64) := dadd_w (own_b hk1 (by decide)) (own_bi x1)
  refine own_go (fun _ k => XS.daddS X0.here hx rfl (hb hby own_d1_27) rfl (nn_w ea1) ea1 k) ?_
  show own_Go _ _ _ _ s₁ (mkF m 28 #[.val (.ref a1), .val (.double (FP.l2d ((0 : Int64) + x0.toInt64))), .second, .val (.ref a1), .val (.int (2 : Int32)), .val (.int (1 : Int32)), .val (.double (FP.l2d x1.toInt64)), .second] [(.double (FP.l2d (((0 : Int64) + x0.toInt64) + x1.toInt64)))])
  have hk2 := own_add (x := x1) hk1 (by decide)
  refine own_go (fun _ k => XS.dstoreN X0.here hx rfl (hb hby own_d1_28) rfl (l' := #[.val (.ref a1), .val (.double (FP.l2d (((0 : Int64) + x0.toInt64) + x1.toInt64))), .second, .val (.ref a1), .val (.int (2 : Int32)), .val (.int (1 : Int32)), .val (.double (FP.l2d x1.toInt64)), .second]) rfl k) ?_
  show own_Go _ _ _ _ s₁ (mkF m 29 #[.val (.ref a1), .val (.double (FP.l2d (((0 : Int64) + x0.toInt64) + x1.toInt64))), .second, .val (.ref a1), .val (.int (2 : Int32)), .val (.int (1 : Int32)), .val (.double (FP.l2d x1.toInt64)), .second] [])
  refine own_go (fun _ k => XS.iinc X0.here hx rfl (hb hby own_d1_29) rfl (l' := #[.val (.ref a1), .val (.double (FP.l2d (((0 : Int64) + x0.toInt64) + x1.toInt64))), .second, .val (.ref a1), .val (.int (2 : Int32)), .val (.int ((1 : Int32) + (1 : Int32))), .val (.double (FP.l2d x1.toInt64)), .second]) rfl k) ?_
  show own_Go _ _ _ _ s₁ (mkF m 32 #[.val (.ref a1), .val (.double (FP.l2d (((0 : Int64) + x0.toInt64) + x1.toInt64))), .second, .val (.ref a1), .val (.int (2 : Int32)), .val (.int ((1 : Int32) + (1 : Int32))), .val (.double (FP.l2d x1.toInt64)), .second] [])
  refine own_go (fun _ k => XS.goto X0.here hx rfl (pc0 := 32) (pc' := 11) rfl (hb hby own_d1_32) (by decide) (by decide) k) ?_
  show own_Go _ _ _ _ s₁ (mkF m 11 #[.val (.ref a1), .val (.double (FP.l2d (((0 : Int64) + x0.toInt64) + x1.toInt64))), .second, .val (.ref a1), .val (.int (2 : Int32)), .val (.int ((1 : Int32) + (1 : Int32))), .val (.double (FP.l2d x1.toInt64)), .second] [])
  refine own_go (fun _ k => XS.iload X0.here hx rfl (hb hby own_d1_11) rfl k) ?_
  show own_Go _ _ _ _ s₁ (mkF m 13 #[.val (.ref a1), .val (.double (FP.l2d (((0 : Int64) + x0.toInt64) + x1.toInt64))), .second, .val (.ref a1), .val (.int (2 : Int32)), .val (.int ((1 : Int32) + (1 : Int32))), .val (.double (FP.l2d x1.toInt64)), .second] [(.int ((1 : Int32) + (1 : Int32)))])
  refine own_go (fun _ k => XS.iload X0.here hx rfl (hb hby own_d1_13) rfl k) ?_
  show own_Go _ _ _ _ s₁ (mkF m 15 #[.val (.ref a1), .val (.double (FP.l2d (((0 : Int64) + x0.toInt64) + x1.toInt64))), .second, .val (.ref a1), .val (.int (2 : Int32)), .val (.int ((1 : Int32) + (1 : Int32))), .val (.double (FP.l2d x1.toInt64)), .second] [(.int (2 : Int32)), (.int ((1 : Int32) + (1 : Int32)))])
  show own_Go _ _ _ _ s₁ (mkF m 15 #[.val (.ref a1), .val (.double (FP.l2d (((0 : Int64) + x0.toInt64) + x1.toInt64))), .second, .val (.ref a1), .val (.int (2 : Int32)), .val (.int (2 : Int32)), .val (.double (FP.l2d x1.toInt64)), .second] [(.int (2 : Int32)), (.int (2 : Int32))])
  refine own_go (fun _ k => XS.icmpYes X0.here hx rfl (pc0 := 15) (pc' := 35) rfl (hb hby own_d1_15) rfl (flt (by decide : ¬ ((2 : Int32) < (2 : Int32)))).2.1 (by decide) (by decide) k) ?_
  show own_Go _ _ _ _ s₁ (mkF m 35 #[.val (.ref a1), .val (.double (FP.l2d (((0 : Int64) + x0.toInt64) + x1.toInt64))), .second, .val (.ref a1), .val (.int (2 : Int32)), .val (.int (2 : Int32)), .val (.double (FP.l2d x1.toInt64)), .second] [])
  refine own_go (fun _ k => XS.dloadN X0.here hx rfl (hb hby own_d1_35) rfl k) ?_
  show own_Go _ _ _ _ s₁ (mkF m 36 #[.val (.ref a1), .val (.double (FP.l2d (((0 : Int64) + x0.toInt64) + x1.toInt64))), .second, .val (.ref a1), .val (.int (2 : Int32)), .val (.int (2 : Int32)), .val (.double (FP.l2d x1.toInt64)), .second] [(.double (FP.l2d (((0 : Int64) + x0.toInt64) + x1.toInt64)))])
  refine own_go (fun _ k => XS.aloadN X0.here hx rfl (hb hby own_d1_36) rfl rfl k) ?_
  show own_Go _ _ _ _ s₁ (mkF m 37 #[.val (.ref a1), .val (.double (FP.l2d (((0 : Int64) + x0.toInt64) + x1.toInt64))), .second, .val (.ref a1), .val (.int (2 : Int32)), .val (.int (2 : Int32)), .val (.double (FP.l2d x1.toInt64)), .second] [(.ref a1), (.double (FP.l2d (((0 : Int64) + x0.toInt64) + x1.toInt64)))])
  obtain ⟨clz7, Arz7, qz7, Sz7, Mz7, HHz7, Gz7⟩ := id V_a1
  refine own_go (fun _ k => X0.arraylength hx (by rw [e0]; exact Arz7.1) (State.isArrayOf_alike hZ.alike Arz7.2.1) (g := (mkF m 37 #[.val (.ref a1), .val (.double (FP.l2d (((0 : Int64) + x0.toInt64) + x1.toInt64))), .second, .val (.ref a1), .val (.int (2 : Int32)), .val (.int (2 : Int32)), .val (.double (FP.l2d x1.toInt64)), .second] [(.ref a1), (.double (FP.l2d (((0 : Int64) + x0.toInt64) + x1.toInt64)))])) rfl rfl (hb hby own_d1_37) _ k) ?_
  rw [len_of Sz7 Mz7]
  show own_Go _ _ _ _ s₁ (mkF m 38 #[.val (.ref a1), .val (.double (FP.l2d (((0 : Int64) + x0.toInt64) + x1.toInt64))), .second, .val (.ref a1), .val (.int (2 : Int32)), .val (.int (2 : Int32)), .val (.double (FP.l2d x1.toInt64)), .second] [(.int (2 : Int32)), (.double (FP.l2d (((0 : Int64) + x0.toInt64) + x1.toInt64)))])
  refine own_go (fun _ k => XS.i2dS X0.here hx rfl (hb hby own_d1_38) rfl rfl k) ?_
  show own_Go _ _ _ _ s₁ (mkF m 39 #[.val (.ref a1), .val (.double (FP.l2d (((0 : Int64) + x0.toInt64) + x1.toInt64))), .second, .val (.ref a1), .val (.int (2 : Int32)), .val (.int (2 : Int32)), .val (.double (FP.l2d x1.toInt64)), .second] [(.double (FP.i2d (2 : Int32))), (.double (FP.l2d (((0 : Int64) + x0.toInt64) + x1.toInt64)))])
  have hnn := ddiv_out (l2d_fin (((0 : Int64) + x0.toInt64) + x1.toInt64)).noNaN (i2d_fin (2 : Int32)) (own_nz (2 : Int32) (by decide))
  refine own_go (fun _ k => XS.ddivS X0.here hx rfl (hb hby own_d1_39) rfl hnn rfl k) ?_
  show own_Go _ _ _ _ s₁ (mkF m 40 #[.val (.ref a1), .val (.double (FP.l2d (((0 : Int64) + x0.toInt64) + x1.toInt64))), .second, .val (.ref a1), .val (.int (2 : Int32)), .val (.int (2 : Int32)), .val (.double (FP.l2d x1.toInt64)), .second] [(.double (FP.ddiv (FP.l2d (((0 : Int64) + x0.toInt64) + x1.toInt64)) (FP.i2d (2 : Int32))))])
  exact own_end X0 hlk (v := (some (.double (FP.ddiv (FP.l2d (((0 : Int64) + x0.toInt64) + x1.toInt64)) (FP.i2d (2 : Int32)))))) (fun h => by rw [hret] at h; cases h) (fun fs hr => retOut X0 hx hret rfl (Or.inr (Or.inr (Or.inl ⟨rfl, rfl, _, rfl⟩))) (hb hby own_d1_40) hr) (by rw [e0]; exact ⟨rfl, N0, rfl⟩) (by decide) (by decide)
theorem own_efm3 (m : MethodId) (a1 : Addr) : entryFrame m #[(.ref a1)] 8 = mkF m 0 #[.val (.ref a1), .unset, .unset, .unset, .unset, .unset, .unset, .unset] [] := by first | (simp [entryFrame, mkF, argsToLocals, Value.category]; done) | rfl
def own_Qm3 (Z : State) (x0 : Int32) (x1 : Int32) (x2 : Int32) (h0 : Heap) (n0 : Nat) (v : Option Value) (h : Heap) (L : List Loc) : Prop := v = some (.double (FP.ddiv (FP.l2d ((((0 : Int64) + x0.toInt64) + x1.toInt64) + x2.toInt64)) (FP.i2d (3 : Int32)))) ∧ Fr n0 L ∧ h = h0
set_option maxRecDepth 65536 in
set_option maxHeartbeats 40000000 in
theorem own_rmm3 (l : Launch) (Z : State) (a0 : Array Value) (hw : ∀ d ∈ tables_1, d.before a0 Z = true) (ws : List Jvm.Cond) (a1 : Addr) (h0 : Heap) (n0 : Nat) (x0 x1 x2 : Int32) (ka : ClassId) (V_a1 : Arv Z h0 a1 ka .double (3 : Int32) [(.double (FP.l2d x0.toInt64)), (.double (FP.l2d x1.toInt64)), (.double (FP.l2d x2.toInt64))] (.double (0 : UInt64))) :
    own_Met l Z (⟨"com/example/tailgauge/tailgauge/model/Returns", "mean", "([D)D"⟩ : MethodName) prog_16_method_6_code 8 (some .double) ws ({ frames := 0, cells := 0, slots := 0, locals := 0 } : Room) #[(.ref a1)] h0 (own_Qm3 Z x0 x1 x2 h0 n0) := by
  refine own_met (plainFor_of_name own_pn0) ?_
  intro p e s m below meth c s₁ X0 hx hZ hby hml hown hnm hret hlk e0
  have N0 := Fr.nil n0
  refine own_go (fun t k => castTop (own_efm3 m a1) k) ?_
  show own_Go _ _ _ _ s₁ (mkF m 0 #[.val (.ref a1), .unset, .unset, .unset, .unset, .unset, .unset, .unset] [])
  refine own_go (fun _ k => XS.dconst0 X0.here hx rfl (hb hby own_d1_0) own_z k) ?_
  show own_Go _ _ _ _ s₁ (mkF m 1 #[.val (.ref a1), .unset, .unset, .unset, .unset, .unset, .unset, .unset] [(.double (FP.l2d (0 : Int64)))])
  refine own_go (fun _ k => XS.dstoreN X0.here hx rfl (hb hby own_d1_1) rfl (l' := #[.val (.ref a1), .val (.double (FP.l2d (0 : Int64))), .second, .unset, .unset, .unset, .unset, .unset]) rfl k) ?_
  show own_Go _ _ _ _ s₁ (mkF m 2 #[.val (.ref a1), .val (.double (FP.l2d (0 : Int64))), .second, .unset, .unset, .unset, .unset, .unset] [])
  refine own_go (fun _ k => XS.aloadN X0.here hx rfl (hb hby own_d1_2) rfl rfl k) ?_
  show own_Go _ _ _ _ s₁ (mkF m 3 #[.val (.ref a1), .val (.double (FP.l2d (0 : Int64))), .second, .unset, .unset, .unset, .unset, .unset] [(.ref a1)])
  refine own_go (fun _ k => XS.astoreN X0.here hx rfl (hb hby own_d1_3) rfl rfl (l' := #[.val (.ref a1), .val (.double (FP.l2d (0 : Int64))), .second, .val (.ref a1), .unset, .unset, .unset, .unset]) rfl k) ?_
  show own_Go _ _ _ _ s₁ (mkF m 4 #[.val (.ref a1), .val (.double (FP.l2d (0 : Int64))), .second, .val (.ref a1), .unset, .unset, .unset, .unset] [])
  refine own_go (fun _ k => XS.aloadN X0.here hx rfl (hb hby own_d1_4) rfl rfl k) ?_
  show own_Go _ _ _ _ s₁ (mkF m 5 #[.val (.ref a1), .val (.double (FP.l2d (0 : Int64))), .second, .val (.ref a1), .unset, .unset, .unset, .unset] [(.ref a1)])
  obtain ⟨clz8, Arz8, qz8, Sz8, Mz8, HHz8, Gz8⟩ := id V_a1
  refine own_go (fun _ k => X0.arraylength hx (by rw [e0]; exact Arz8.1) (State.isArrayOf_alike hZ.alike Arz8.2.1) (g := (mkF m 5 #[.val (.ref a1), .val (.double (FP.l2d (0 : Int64))), .second, .val (.ref a1), .unset, .unset, .unset, .unset] [(.ref a1)])) rfl rfl (hb hby own_d1_5) _ k) ?_
  rw [len_of Sz8 Mz8]
  show own_Go _ _ _ _ s₁ (mkF m 6 #[.val (.ref a1), .val (.double (FP.l2d (0 : Int64))), .second, .val (.ref a1), .unset, .unset, .unset, .unset] [(.int (3 : Int32))])
  refine own_go (fun _ k => XS.istore X0.here hx rfl (hb hby own_d1_6) rfl (l' := #[.val (.ref a1), .val (.double (FP.l2d (0 : Int64))), .second, .val (.ref a1), .val (.int (3 : Int32)), .unset, .unset, .unset]) rfl k) ?_
  show own_Go _ _ _ _ s₁ (mkF m 8 #[.val (.ref a1), .val (.double (FP.l2d (0 : Int64))), .second, .val (.ref a1), .val (.int (3 : Int32)), .unset, .unset, .unset] [])
  refine own_go (fun _ k => XS.iconst X0.here hx rfl (hb hby own_d1_8) k) ?_
  show own_Go _ _ _ _ s₁ (mkF m 9 #[.val (.ref a1), .val (.double (FP.l2d (0 : Int64))), .second, .val (.ref a1), .val (.int (3 : Int32)), .unset, .unset, .unset] [(.int (0 : Int32))])
  refine own_go (fun _ k => XS.istore X0.here hx rfl (hb hby own_d1_9) rfl (l' := #[.val (.ref a1), .val (.double (FP.l2d (0 : Int64))), .second, .val (.ref a1), .val (.int (3 : Int32)), .val (.int (0 : Int32)), .unset, .unset]) rfl k) ?_
  show own_Go _ _ _ _ s₁ (mkF m 11 #[.val (.ref a1), .val (.double (FP.l2d (0 : Int64))), .second, .val (.ref a1), .val (.int (3 : Int32)), .val (.int (0 : Int32)), .unset, .unset] [])
  refine own_go (fun _ k => XS.iload X0.here hx rfl (hb hby own_d1_11) rfl k) ?_
  show own_Go _ _ _ _ s₁ (mkF m 13 #[.val (.ref a1), .val (.double (FP.l2d (0 : Int64))), .second, .val (.ref a1), .val (.int (3 : Int32)), .val (.int (0 : Int32)), .unset, .unset] [(.int (0 : Int32))])
  refine own_go (fun _ k => XS.iload X0.here hx rfl (hb hby own_d1_13) rfl k) ?_
  show own_Go _ _ _ _ s₁ (mkF m 15 #[.val (.ref a1), .val (.double (FP.l2d (0 : Int64))), .second, .val (.ref a1), .val (.int (3 : Int32)), .val (.int (0 : Int32)), .unset, .unset] [(.int (3 : Int32)), (.int (0 : Int32))])
  have hk0 := own_k0
  refine own_go (fun _ k => XS.icmpNo X0.here hx rfl (hb hby own_d1_15) rfl (tlt (by decide : (0 : Int32) < (3 : Int32))).2.1 k) ?_
  show own_Go _ _ _ _ s₁ (mkF m 18 #[.val (.ref a1), .val (.double (FP.l2d (0 : Int64))), .second, .val (.ref a1), .val (.int (3 : Int32)), .val (.int (0 : Int32)), .unset, .unset] [])
  refine own_go (fun _ k => XS.aloadN X0.here hx rfl (hb hby own_d1_18) rfl rfl k) ?_
  show own_Go _ _ _ _ s₁ (mkF m 19 #[.val (.ref a1), .val (.double (FP.l2d (0 : Int64))), .second, .val (.ref a1), .val (.int (3 : Int32)), .val (.int (0 : Int32)), .unset, .unset] [(.ref a1)])
  refine own_go (fun _ k => XS.iload X0.here hx rfl (hb hby own_d1_19) rfl k) ?_
  show own_Go _ _ _ _ s₁ (mkF m 21 #[.val (.ref a1), .val (.double (FP.l2d (0 : Int64))), .second, .val (.ref a1), .val (.int (3 : Int32)), .val (.int (0 : Int32)), .unset, .unset] [(.int (0 : Int32)), (.ref a1)])
  obtain ⟨clz9, Arz9, qz9, Sz9, Mz9, HHz9, Gz9⟩ := id V_a1
  have hinz9 : ¬ ((0 : Int32) < 0 ∨ clz9.slots.size ≤ ((0 : Int32)).toNatClampNeg) := inb_of Sz9 ⟨(by decide), (by decide)⟩
  have hatz9 : clz9.slots[((0 : Int32)).toNatClampNeg]? = some (.double (FP.l2d x0.toInt64)) := HHz9.at hinz9 (rfl)
  refine own_go (fun _ k => X0.daload hx (j := (0 : Int32)) (v := (.double (FP.l2d x0.toInt64))) (by rw [e0]; exact Arz9.1) (State.isArrayOf_alike hZ.alike Arz9.2.1) Arz9.2.2 hinz9 hatz9 (g := (mkF m 21 #[.val (.ref a1), .val (.double (FP.l2d (0 : Int64))), .second, .val (.ref a1), .val (.int (3 : Int32)), .val (.int (0 : Int32)), .unset, .unset] [(.int (0 : Int32)), (.ref a1)])) rfl rfl (hb hby own_d1_21) _ k) ?_
  show own_Go _ _ _ _ s₁ (mkF m 22 #[.val (.ref a1), .val (.double (FP.l2d (0 : Int64))), .second, .val (.ref a1), .val (.int (3 : Int32)), .val (.int (0 : Int32)), .unset, .unset] [(.double (FP.l2d x0.toInt64))])
  refine own_go (fun _ k => XS.dstore X0.here hx rfl (hb hby own_d1_22) rfl (l' := #[.val (.ref a1), .val (.double (FP.l2d (0 : Int64))), .second, .val (.ref a1), .val (.int (3 : Int32)), .val (.int (0 : Int32)), .val (.double (FP.l2d x0.toInt64)), .second]) rfl k) ?_
  show own_Go _ _ _ _ s₁ (mkF m 24 #[.val (.ref a1), .val (.double (FP.l2d (0 : Int64))), .second, .val (.ref a1), .val (.int (3 : Int32)), .val (.int (0 : Int32)), .val (.double (FP.l2d x0.toInt64)), .second] [])
  refine own_go (fun _ k => XS.dloadN X0.here hx rfl (hb hby own_d1_24) rfl k) ?_
  show own_Go _ _ _ _ s₁ (mkF m 25 #[.val (.ref a1), .val (.double (FP.l2d (0 : Int64))), .second, .val (.ref a1), .val (.int (3 : Int32)), .val (.int (0 : Int32)), .val (.double (FP.l2d x0.toInt64)), .second] [(.double (FP.l2d (0 : Int64)))])
  refine own_go (fun _ k => XS.dload X0.here hx rfl (hb hby own_d1_25) rfl k) ?_
  show own_Go _ _ _ _ s₁ (mkF m 27 #[.val (.ref a1), .val (.double (FP.l2d (0 : Int64))), .second, .val (.ref a1), .val (.int (3 : Int32)), .val (.int (0 : Int32)), .val (.double (FP.l2d x0.toInt64)), .second] [(.double (FP.l2d x0.toInt64)), (.double (FP.l2d (0 : Int64)))])
  have ea0 : FP.dadd (FP.l2d (0 : Int64)) (FP.l2d x0.toInt64) = FP.l2d ((0 : Int64) + x0.toInt64) := dadd_w (own_b hk0 (by decide)) (own_bi x0)
  refine own_go (fun _ k => XS.daddS X0.here hx rfl (hb hby own_d1_27) rfl (nn_w ea0) ea0 k) ?_
  show own_Go _ _ _ _ s₁ (mkF m 28 #[.val (.ref a1), .val (.double (FP.l2d (0 : Int64))), .second, .val (.ref a1), .val (.int (3 : Int32)), .val (.int (0 : Int32)), .val (.double (FP.l2d x0.toInt64)), .second] [(.double (FP.l2d ((0 : Int64) + x0.toInt64)))])
  have hk1 := own_add (x := x0) hk0 (by decide)
  refine own_go (fun _ k => XS.dstoreN X0.here hx rfl (hb hby own_d1_28) rfl (l' := #[.val (.ref a1), .val (.double (FP.l2d ((0 : Int64) + x0.toInt64))), .second, .val (.ref a1), .val (.int (3 : Int32)), .val (.int (0 : Int32)), .val (.double (FP.l2d x0.toInt64)), .second]) rfl k) ?_
  show own_Go _ _ _ _ s₁ (mkF m 29 #[.val (.ref a1), .val (.double (FP.l2d ((0 : Int64) + x0.toInt64))), .second, .val (.ref a1), .val (.int (3 : Int32)), .val (.int (0 : Int32)), .val (.double (FP.l2d x0.toInt64)), .second] [])
  refine own_go (fun _ k => XS.iinc X0.here hx rfl (hb hby own_d1_29) rfl (l' := #[.val (.ref a1), .val (.double (FP.l2d ((0 : Int64) + x0.toInt64))), .second, .val (.ref a1), .val (.int (3 : Int32)), .val (.int ((0 : Int32) + (1 : Int32))), .val (.double (FP.l2d x0.toInt64)), .second]) rfl k) ?_
  show own_Go _ _ _ _ s₁ (mkF m 32 #[.val (.ref a1), .val (.double (FP.l2d ((0 : Int64) + x0.toInt64))), .second, .val (.ref a1), .val (.int (3 : Int32)), .val (.int ((0 : Int32) + (1 : Int32))), .val (.double (FP.l2d x0.toInt64)), .second] [])
  refine own_go (fun _ k => XS.goto X0.here hx rfl (pc0 := 32) (pc' := 11) rfl (hb hby own_d1_32) (by decide) (by decide) k) ?_
  show own_Go _ _ _ _ s₁ (mkF m 11 #[.val (.ref a1), .val (.double (FP.l2d ((0 : Int64) + x0.toInt64))), .second, .val (.ref a1), .val (.int (3 : Int32)), .val (.int ((0 : Int32) + (1 : Int32))), .val (.double (FP.l2d x0.toInt64)), .second] [])
  refine own_go (fun _ k => XS.iload X0.here hx rfl (hb hby own_d1_11) rfl k) ?_
  show own_Go _ _ _ _ s₁ (mkF m 13 #[.val (.ref a1), .val (.double (FP.l2d ((0 : Int64) + x0.toInt64))), .second, .val (.ref a1), .val (.int (3 : Int32)), .val (.int ((0 : Int32) + (1 : Int32))), .val (.double (FP.l2d x0.toInt64)), .second] [(.int ((0 : Int32) + (1 : Int32)))])
  refine own_go (fun _ k => XS.iload X0.here hx rfl (hb hby own_d1_13) rfl k) ?_
  show own_Go _ _ _ _ s₁ (mkF m 15 #[.val (.ref a1), .val (.double (FP.l2d ((0 : Int64) + x0.toInt64))), .second, .val (.ref a1), .val (.int (3 : Int32)), .val (.int ((0 : Int32) + (1 : Int32))), .val (.double (FP.l2d x0.toInt64)), .second] [(.int (3 : Int32)), (.int ((0 : Int32) + (1 : Int32)))])
  show own_Go _ _ _ _ s₁ (mkF m 15 #[.val (.ref a1), .val (.double (FP.l2d ((0 : Int64) + x0.toInt64))), .second, .val (.ref a1), .val (.int (3 : Int32)), .val (.int (1 : Int32)), .val (.double (FP.l2d x0.toInt64)), .second] [(.int (3 : Int32)), (.int (1 : Int32))])
  refine own_go (fun _ k => XS.icmpNo X0.here hx rfl (hb hby own_d1_15) rfl (tlt (by decide : (1 : Int32) < (3 : Int32))).2.1 k) ?_
  show own_Go _ _ _ _ s₁ (mkF m 18 #[.val (.ref a1), .val (.double (FP.l2d ((0 : Int64) + x0.toInt64))), .second, .val (.ref a1), .val (.int (3 : Int32)), .val (.int (1 : Int32)), .val (.double (FP.l2d x0.toInt64)), .second] [])
  refine own_go (fun _ k => XS.aloadN X0.here hx rfl (hb hby own_d1_18) rfl rfl k) ?_
  show own_Go _ _ _ _ s₁ (mkF m 19 #[.val (.ref a1), .val (.double (FP.l2d ((0 : Int64) + x0.toInt64))), .second, .val (.ref a1), .val (.int (3 : Int32)), .val (.int (1 : Int32)), .val (.double (FP.l2d x0.toInt64)), .second] [(.ref a1)])
  refine own_go (fun _ k => XS.iload X0.here hx rfl (hb hby own_d1_19) rfl k) ?_
  show own_Go _ _ _ _ s₁ (mkF m 21 #[.val (.ref a1), .val (.double (FP.l2d ((0 : Int64) + x0.toInt64))), .second, .val (.ref a1), .val (.int (3 : Int32)), .val (.int (1 : Int32)), .val (.double (FP.l2d x0.toInt64)), .second] [(.int (1 : Int32)), (.ref a1)])
  obtain ⟨clz10, Arz10, qz10, Sz10, Mz10, HHz10, Gz10⟩ := id V_a1
  have hinz10 : ¬ ((1 : Int32) < 0 ∨ clz10.slots.size ≤ ((1 : Int32)).toNatClampNeg) := inb_of Sz10 ⟨(by decide), (by decide)⟩
  have hatz10 : clz10.slots[((1 : Int32)).toNatClampNeg]? = some (.double (FP.l2d x1.toInt64)) := HHz10.at hinz10 (rfl)
  refine own_go (fun _ k => X0.daload hx (j := (1 : Int32)) (v := (.double (FP.l2d x1.toInt64))) (by rw [e0]; exact Arz10.1) (State.isArrayOf_alike hZ.alike Arz10.2.1) Arz10.2.2 hinz10 hatz10 (g := (mkF m 21 #[.val (.ref a1), .val (.double (FP.l2d ((0 : Int64) + x0.toInt64))), .second, .val (.ref a1), .val (.int (3 : Int32)), .val (.int (1 : Int32)), .val (.double (FP.l2d x0.toInt64)), .second] [(.int (1 : Int32)), (.ref a1)])) rfl rfl (hb hby own_d1_21) _ k) ?_
  show own_Go _ _ _ _ s₁ (mkF m 22 #[.val (.ref a1), .val (.double (FP.l2d ((0 : Int64) + x0.toInt64))), .second, .val (.ref a1), .val (.int (3 : Int32)), .val (.int (1 : Int32)), .val (.double (FP.l2d x0.toInt64)), .second] [(.double (FP.l2d x1.toInt64))])
  refine own_go (fun _ k => XS.dstore X0.here hx rfl (hb hby own_d1_22) rfl (l' := #[.val (.ref a1), .val (.double (FP.l2d ((0 : Int64) + x0.toInt64))), .second, .val (.ref a1), .val (.int (3 : Int32)), .val (.int (1 : Int32)), .val (.double (FP.l2d x1.toInt64)), .second]) rfl k) ?_
  show own_Go _ _ _ _ s₁ (mkF m 24 #[.val (.ref a1), .val (.double (FP.l2d ((0 : Int64) + x0.toInt64))), .second, .val (.ref a1), .val (.int (3 : Int32)), .val (.int (1 : Int32)), .val (.double (FP.l2d x1.toInt64)), .second] [])
  refine own_go (fun _ k => XS.dloadN X0.here hx rfl (hb hby own_d1_24) rfl k) ?_
  show own_Go _ _ _ _ s₁ (mkF m 25 #[.val (.ref a1), .val (.double (FP.l2d ((0 : Int64) + x0.toInt64))), .second, .val (.ref a1), .val (.int (3 : Int32)), .val (.int (1 : Int32)), .val (.double (FP.l2d x1.toInt64)), .second] [(.double (FP.l2d ((0 : Int64) + x0.toInt64)))])
  refine own_go (fun _ k => XS.dload X0.here hx rfl (hb hby own_d1_25) rfl k) ?_
  show own_Go _ _ _ _ s₁ (mkF m 27 #[.val (.ref a1), .val (.double (FP.l2d ((0 : Int64) + x0.toInt64))), .second, .val (.ref a1), .val (.int (3 : Int32)), .val (.int (1 : Int32)), .val (.double (FP.l2d x1.toInt64)), .second] [(.double (FP.l2d x1.toInt64)), (.double (FP.l2d ((0 : Int64) + x0.toInt64)))])
  have ea1 : FP.dadd (FP.l2d ((0 : Int64) + x0.toInt64)) (FP.l2d x1.toInt64) = FP.l2d (((0 : Int64) + x0.toInt64) + x1.toInt64) := dadd_w (own_b hk1 (by decide)) (own_bi x1)
  refine own_go (fun _ k => XS.daddS X0.here hx rfl (hb hby own_d1_27) rfl (nn_w ea1) ea1 k) ?_
  show own_Go _ _ _ _ s₁ (mkF m 28 #[.val (.ref a1), .val (.double (FP.l2d ((0 : Int64) + x0.toInt64))), .second, .val (.ref a1), .val (.int (3 : Int32)), .val (.int (1 : Int32)), .val (.double (FP.l2d x1.toInt64)), .second] [(.double (FP.l2d (((0 : Int64) + x0.toInt64) + x1.toInt64)))])
  have hk2 := own_add (x := x1) hk1 (by decide)
  refine own_go (fun _ k => XS.dstoreN X0.here hx rfl (hb hby own_d1_28) rfl (l' := #[.val (.ref a1), .val (.double (FP.l2d (((0 : Int64) + x0.toInt64) + x1.toInt64))), .second, .val (.ref a1), .val (.int (3 : Int32)), .val (.int (1 : Int32)), .val (.double (FP.l2d x1.toInt64)), .second]) rfl k) ?_
  show own_Go _ _ _ _ s₁ (mkF m 29 #[.val (.ref a1), .val (.double (FP.l2d (((0 : Int64) + x0.toInt64) + x1.toInt64))), .second, .val (.ref a1), .val (.int (3 : Int32)), .val (.int (1 : Int32)), .val (.double (FP.l2d x1.toInt64)), .second] [])
  refine own_go (fun _ k => XS.iinc X0.here hx rfl (hb hby own_d1_29) rfl (l' := #[.val (.ref a1), .val (.double (FP.l2d (((0 : Int64) + x0.toInt64) + x1.toInt64))), .second, .val (.ref a1), .val (.int (3 : Int32)), .val (.int ((1 : Int32) + (1 : Int32))), .val (.double (FP.l2d x1.toInt64)), .second]) rfl k) ?_
  show own_Go _ _ _ _ s₁ (mkF m 32 #[.val (.ref a1), .val (.double (FP.l2d (((0 : Int64) + x0.toInt64) + x1.toInt64))), .second, .val (.ref a1), .val (.int (3 : Int32)), .val (.int ((1 : Int32) + (1 : Int32))), .val (.double (FP.l2d x1.toInt64)), .second] [])
  refine own_go (fun _ k => XS.goto X0.here hx rfl (pc0 := 32) (pc' := 11) rfl (hb hby own_d1_32) (by decide) (by decide) k) ?_
  show own_Go _ _ _ _ s₁ (mkF m 11 #[.val (.ref a1), .val (.double (FP.l2d (((0 : Int64) + x0.toInt64) + x1.toInt64))), .second, .val (.ref a1), .val (.int (3 : Int32)), .val (.int ((1 : Int32) + (1 : Int32))), .val (.double (FP.l2d x1.toInt64)), .second] [])
  refine own_go (fun _ k => XS.iload X0.here hx rfl (hb hby own_d1_11) rfl k) ?_
  show own_Go _ _ _ _ s₁ (mkF m 13 #[.val (.ref a1), .val (.double (FP.l2d (((0 : Int64) + x0.toInt64) + x1.toInt64))), .second, .val (.ref a1), .val (.int (3 : Int32)), .val (.int ((1 : Int32) + (1 : Int32))), .val (.double (FP.l2d x1.toInt64)), .second] [(.int ((1 : Int32) + (1 : Int32)))])
  refine own_go (fun _ k => XS.iload X0.here hx rfl (hb hby own_d1_13) rfl k) ?_
  show own_Go _ _ _ _ s₁ (mkF m 15 #[.val (.ref a1), .val (.double (FP.l2d (((0 : Int64) + x0.toInt64) + x1.toInt64))), .second, .val (.ref a1), .val (.int (3 : Int32)), .val (.int ((1 : Int32) + (1 : Int32))), .val (.double (FP.l2d x1.toInt64)), .second] [(.int (3 : Int32)), (.int ((1 : Int32) + (1 : Int32)))])
  show own_Go _ _ _ _ s₁ (mkF m 15 #[.val (.ref a1), .val (.double (FP.l2d (((0 : Int64) + x0.toInt64) + x1.toInt64))), .second, .val (.ref a1), .val (.int (3 : Int32)), .val (.int (2 : Int32)), .val (.double (FP.l2d x1.toInt64)), .second] [(.int (3 : Int32)), (.int (2 : Int32))])
  refine own_go (fun _ k => XS.icmpNo X0.here hx rfl (hb hby own_d1_15) rfl (tlt (by decide : (2 : Int32) < (3 : Int32))).2.1 k) ?_
  show own_Go _ _ _ _ s₁ (mkF m 18 #[.val (.ref a1), .val (.double (FP.l2d (((0 : Int64) + x0.toInt64) + x1.toInt64))), .second, .val (.ref a1), .val (.int (3 : Int32)), .val (.int (2 : Int32)), .val (.double (FP.l2d x1.toInt64)), .second] [])
  refine own_go (fun _ k => XS.aloadN X0.here hx rfl (hb hby own_d1_18) rfl rfl k) ?_
  show own_Go _ _ _ _ s₁ (mkF m 19 #[.val (.ref a1), .val (.double (FP.l2d (((0 : Int64) + x0.toInt64) + x1.toInt64))), .second, .val (.ref a1), .val (.int (3 : Int32)), .val (.int (2 : Int32)), .val (.double (FP.l2d x1.toInt64)), .second] [(.ref a1)])
  refine own_go (fun _ k => XS.iload X0.here hx rfl (hb hby own_d1_19) rfl k) ?_
  show own_Go _ _ _ _ s₁ (mkF m 21 #[.val (.ref a1), .val (.double (FP.l2d (((0 : Int64) + x0.toInt64) + x1.toInt64))), .second, .val (.ref a1), .val (.int (3 : Int32)), .val (.int (2 : Int32)), .val (.double (FP.l2d x1.toInt64)), .second] [(.int (2 : Int32)), (.ref a1)])
  obtain ⟨clz11, Arz11, qz11, Sz11, Mz11, HHz11, Gz11⟩ := id V_a1
  have hinz11 : ¬ ((2 : Int32) < 0 ∨ clz11.slots.size ≤ ((2 : Int32)).toNatClampNeg) := inb_of Sz11 ⟨(by decide), (by decide)⟩
  have hatz11 : clz11.slots[((2 : Int32)).toNatClampNeg]? = some (.double (FP.l2d x2.toInt64)) := HHz11.at hinz11 (rfl)
  refine own_go (fun _ k => X0.daload hx (j := (2 : Int32)) (v := (.double (FP.l2d x2.toInt64))) (by rw [e0]; exact Arz11.1) (State.isArrayOf_alike hZ.alike Arz11.2.1) Arz11.2.2 hinz11 hatz11 (g := (mkF m 21 #[.val (.ref a1), .val (.double (FP.l2d (((0 : Int64) + x0.toInt64) + x1.toInt64))), .second, .val (.ref a1), .val (.int (3 : Int32)), .val (.int (2 : Int32)), .val (.double (FP.l2d x1.toInt64)), .second] [(.int (2 : Int32)), (.ref a1)])) rfl rfl (hb hby own_d1_21) _ k) ?_
  show own_Go _ _ _ _ s₁ (mkF m 22 #[.val (.ref a1), .val (.double (FP.l2d (((0 : Int64) + x0.toInt64) + x1.toInt64))), .second, .val (.ref a1), .val (.int (3 : Int32)), .val (.int (2 : Int32)), .val (.double (FP.l2d x1.toInt64)), .second] [(.double (FP.l2d x2.toInt64))])
  refine own_go (fun _ k => XS.dstore X0.here hx rfl (hb hby own_d1_22) rfl (l' := #[.val (.ref a1), .val (.double (FP.l2d (((0 : Int64) + x0.toInt64) + x1.toInt64))), .second, .val (.ref a1), .val (.int (3 : Int32)), .val (.int (2 : Int32)), .val (.double (FP.l2d x2.toInt64)), .second]) rfl k) ?_
  show own_Go _ _ _ _ s₁ (mkF m 24 #[.val (.ref a1), .val (.double (FP.l2d (((0 : Int64) + x0.toInt64) + x1.toInt64))), .second, .val (.ref a1), .val (.int (3 : Int32)), .val (.int (2 : Int32)), .val (.double (FP.l2d x2.toInt64)), .second] [])
  refine own_go (fun _ k => XS.dloadN X0.here hx rfl (hb hby own_d1_24) rfl k) ?_
  show own_Go _ _ _ _ s₁ (mkF m 25 #[.val (.ref a1), .val (.double (FP.l2d (((0 : Int64) + x0.toInt64) + x1.toInt64))), .second, .val (.ref a1), .val (.int (3 : Int32)), .val (.int (2 : Int32)), .val (.double (FP.l2d x2.toInt64)), .second] [(.double (FP.l2d (((0 : Int64) + x0.toInt64) + x1.toInt64)))])
  refine own_go (fun _ k => XS.dload X0.here hx rfl (hb hby own_d1_25) rfl k) ?_
  show own_Go _ _ _ _ s₁ (mkF m 27 #[.val (.ref a1), .val (.double (FP.l2d (((0 : Int64) + x0.toInt64) + x1.toInt64))), .second, .val (.ref a1), .val (.int (3 : Int32)), .val (.int (2 : Int32)), .val (.double (FP.l2d x2.toInt64)), .second] [(.double (FP.l2d x2.toInt64)), (.double (FP.l2d (((0 : Int64) + x0.toInt64) + x1.toInt64)))])
  have ea2 : FP.dadd (FP.l2d (((0 : Int64) + x0.toInt64) + x1.toInt64)) (FP.l2d x2.toInt64) = FP.l2d ((((0 : Int64) + x0.toInt64) + x1.toInt64) + x2.toInt64) := dadd_w (own_b hk2 (by decide)) (own_bi x2)
  refine own_go (fun _ k => XS.daddS X0.here hx rfl (hb hby own_d1_27) rfl (nn_w ea2) ea2 k) ?_
  show own_Go _ _ _ _ s₁ (mkF m 28 #[.val (.ref a1), .val (.double (FP.l2d (((0 : Int64) + x0.toInt64) + x1.toInt64))), .second, .val (.ref a1), .val (.int (3 : Int32)), .val (.int (2 : Int32)), .val (.double (FP.l2d x2.toInt64)), .second] [(.double (FP.l2d ((((0 : Int64) + x0.toInt64) + x1.toInt64) + x2.toInt64)))])
  have hk3 := own_add (x := x2) hk2 (by decide)
  refine own_go (fun _ k => XS.dstoreN X0.here hx rfl (hb hby own_d1_28) rfl (l' := #[.val (.ref a1), .val (.double (FP.l2d ((((0 : Int64) + x0.toInt64) + x1.toInt64) + x2.toInt64))), .second, .val (.ref a1), .val (.int (3 : Int32)), .val (.int (2 : Int32)), .val (.double (FP.l2d x2.toInt64)), .second]) rfl k) ?_
  show own_Go _ _ _ _ s₁ (mkF m 29 #[.val (.ref a1), .val (.double (FP.l2d ((((0 : Int64) + x0.toInt64) + x1.toInt64) + x2.toInt64))), .second, .val (.ref a1), .val (.int (3 : Int32)), .val (.int (2 : Int32)), .val (.double (FP.l2d x2.toInt64)), .second] [])
  refine own_go (fun _ k => XS.iinc X0.here hx rfl (hb hby own_d1_29) rfl (l' := #[.val (.ref a1), .val (.double (FP.l2d ((((0 : Int64) + x0.toInt64) + x1.toInt64) + x2.toInt64))), .second, .val (.ref a1), .val (.int (3 : Int32)), .val (.int ((2 : Int32) + (1 : Int32))), .val (.double (FP.l2d x2.toInt64)), .second]) rfl k) ?_
  show own_Go _ _ _ _ s₁ (mkF m 32 #[.val (.ref a1), .val (.double (FP.l2d ((((0 : Int64) + x0.toInt64) + x1.toInt64) + x2.toInt64))), .second, .val (.ref a1), .val (.int (3 : Int32)), .val (.int ((2 : Int32) + (1 : Int32))), .val (.double (FP.l2d x2.toInt64)), .second] [])
  refine own_go (fun _ k => XS.goto X0.here hx rfl (pc0 := 32) (pc' := 11) rfl (hb hby own_d1_32) (by decide) (by decide) k) ?_
  show own_Go _ _ _ _ s₁ (mkF m 11 #[.val (.ref a1), .val (.double (FP.l2d ((((0 : Int64) + x0.toInt64) + x1.toInt64) + x2.toInt64))), .second, .val (.ref a1), .val (.int (3 : Int32)), .val (.int ((2 : Int32) + (1 : Int32))), .val (.double (FP.l2d x2.toInt64)), .second] [])
  refine own_go (fun _ k => XS.iload X0.here hx rfl (hb hby own_d1_11) rfl k) ?_
  show own_Go _ _ _ _ s₁ (mkF m 13 #[.val (.ref a1), .val (.double (FP.l2d ((((0 : Int64) + x0.toInt64) + x1.toInt64) + x2.toInt64))), .second, .val (.ref a1), .val (.int (3 : Int32)), .val (.int ((2 : Int32) + (1 : Int32))), .val (.double (FP.l2d x2.toInt64)), .second] [(.int ((2 : Int32) + (1 : Int32)))])
  refine own_go (fun _ k => XS.iload X0.here hx rfl (hb hby own_d1_13) rfl k) ?_
  show own_Go _ _ _ _ s₁ (mkF m 15 #[.val (.ref a1), .val (.double (FP.l2d ((((0 : Int64) + x0.toInt64) + x1.toInt64) + x2.toInt64))), .second, .val (.ref a1), .val (.int (3 : Int32)), .val (.int ((2 : Int32) + (1 : Int32))), .val (.double (FP.l2d x2.toInt64)), .second] [(.int (3 : Int32)), (.int ((2 : Int32) + (1 : Int32)))])
  show own_Go _ _ _ _ s₁ (mkF m 15 #[.val (.ref a1), .val (.double (FP.l2d ((((0 : Int64) + x0.toInt64) + x1.toInt64) + x2.toInt64))), .second, .val (.ref a1), .val (.int (3 : Int32)), .val (.int (3 : Int32)), .val (.double (FP.l2d x2.toInt64)), .second] [(.int (3 : Int32)), (.int (3 : Int32))])
  refine own_go (fun _ k => XS.icmpYes X0.here hx rfl (pc0 := 15) (pc' := 35) rfl (hb hby own_d1_15) rfl (flt (by decide : ¬ ((3 : Int32) < (3 : Int32)))).2.1 (by decide) (by decide) k) ?_
  show own_Go _ _ _ _ s₁ (mkF m 35 #[.val (.ref a1), .val (.double (FP.l2d ((((0 : Int64) + x0.toInt64) + x1.toInt64) + x2.toInt64))), .second, .val (.ref a1), .val (.int (3 : Int32)), .val (.int (3 : Int32)), .val (.double (FP.l2d x2.toInt64)), .second] [])
  refine own_go (fun _ k => XS.dloadN X0.here hx rfl (hb hby own_d1_35) rfl k) ?_
  show own_Go _ _ _ _ s₁ (mkF m 36 #[.val (.ref a1), .val (.double (FP.l2d ((((0 : Int64) + x0.toInt64) + x1.toInt64) + x2.toInt64))), .second, .val (.ref a1), .val (.int (3 : Int32)), .val (.int (3 : Int32)), .val (.double (FP.l2d x2.toInt64)), .second] [(.double (FP.l2d ((((0 : Int64) + x0.toInt64) + x1.toInt64) + x2.toInt64)))])
  refine own_go (fun _ k => XS.aloadN X0.here hx rfl (hb hby own_d1_36) rfl rfl k) ?_
  show own_Go _ _ _ _ s₁ (mkF m 37 #[.val (.ref a1), .val (.double (FP.l2d ((((0 : Int64) + x0.toInt64) + x1.toInt64) + x2.toInt64))), .second, .val (.ref a1), .val (.int (3 : Int32)), .val (.int (3 : Int32)), .val (.double (FP.l2d x2.toInt64)), .second] [(.ref a1), (.double (FP.l2d ((((0 : Int64) + x0.toInt64) + x1.toInt64) + x2.toInt64)))])
  obtain ⟨clz12, Arz12, qz12, Sz12, Mz12, HHz12, Gz12⟩ := id V_a1
  refine own_go (fun _ k => X0.arraylength hx (by rw [e0]; exact Arz12.1) (State.isArrayOf_alike hZ.alike Arz12.2.1) (g := (mkF m 37 #[.val (.ref a1), .val (.double (FP.l2d ((((0 : Int64) + x0.toInt64) + x1.toInt64) + x2.toInt64))), .second, .val (.ref a1), .val (.int (3 : Int32)), .val (.int (3 : Int32)), .val (.double (FP.l2d x2.toInt64)), .second] [(.ref a1), (.double (FP.l2d ((((0 : Int64) + x0.toInt64) + x1.toInt64) + x2.toInt64)))])) rfl rfl (hb hby own_d1_37) _ k) ?_
  rw [len_of Sz12 Mz12]
  show own_Go _ _ _ _ s₁ (mkF m 38 #[.val (.ref a1), .val (.double (FP.l2d ((((0 : Int64) + x0.toInt64) + x1.toInt64) + x2.toInt64))), .second, .val (.ref a1), .val (.int (3 : Int32)), .val (.int (3 : Int32)), .val (.double (FP.l2d x2.toInt64)), .second] [(.int (3 : Int32)), (.double (FP.l2d ((((0 : Int64) + x0.toInt64) + x1.toInt64) + x2.toInt64)))])
  refine own_go (fun _ k => XS.i2dS X0.here hx rfl (hb hby own_d1_38) rfl rfl k) ?_
  show own_Go _ _ _ _ s₁ (mkF m 39 #[.val (.ref a1), .val (.double (FP.l2d ((((0 : Int64) + x0.toInt64) + x1.toInt64) + x2.toInt64))), .second, .val (.ref a1), .val (.int (3 : Int32)), .val (.int (3 : Int32)), .val (.double (FP.l2d x2.toInt64)), .second] [(.double (FP.i2d (3 : Int32))), (.double (FP.l2d ((((0 : Int64) + x0.toInt64) + x1.toInt64) + x2.toInt64)))])
  have hnn := ddiv_out (l2d_fin ((((0 : Int64) + x0.toInt64) + x1.toInt64) + x2.toInt64)).noNaN (i2d_fin (3 : Int32)) (own_nz (3 : Int32) (by decide))
  refine own_go (fun _ k => XS.ddivS X0.here hx rfl (hb hby own_d1_39) rfl hnn rfl k) ?_
  show own_Go _ _ _ _ s₁ (mkF m 40 #[.val (.ref a1), .val (.double (FP.l2d ((((0 : Int64) + x0.toInt64) + x1.toInt64) + x2.toInt64))), .second, .val (.ref a1), .val (.int (3 : Int32)), .val (.int (3 : Int32)), .val (.double (FP.l2d x2.toInt64)), .second] [(.double (FP.ddiv (FP.l2d ((((0 : Int64) + x0.toInt64) + x1.toInt64) + x2.toInt64)) (FP.i2d (3 : Int32))))])
  exact own_end X0 hlk (v := (some (.double (FP.ddiv (FP.l2d ((((0 : Int64) + x0.toInt64) + x1.toInt64) + x2.toInt64)) (FP.i2d (3 : Int32)))))) (fun h => by rw [hret] at h; cases h) (fun fs hr => retOut X0 hx hret rfl (Or.inr (Or.inr (Or.inl ⟨rfl, rfl, _, rfl⟩))) (hb hby own_d1_40) hr) (by rw [e0]; exact ⟨rfl, N0, rfl⟩) (by decide) (by decide)
theorem own_efm4 (m : MethodId) (a1 : Addr) : entryFrame m #[(.ref a1)] 8 = mkF m 0 #[.val (.ref a1), .unset, .unset, .unset, .unset, .unset, .unset, .unset] [] := by first | (simp [entryFrame, mkF, argsToLocals, Value.category]; done) | rfl
def own_Qm4 (Z : State) (x0 : Int32) (x1 : Int32) (x2 : Int32) (x3 : Int32) (h0 : Heap) (n0 : Nat) (v : Option Value) (h : Heap) (L : List Loc) : Prop := v = some (.double (FP.ddiv (FP.l2d (((((0 : Int64) + x0.toInt64) + x1.toInt64) + x2.toInt64) + x3.toInt64)) (FP.i2d (4 : Int32)))) ∧ Fr n0 L ∧ h = h0
set_option maxRecDepth 65536 in
set_option maxHeartbeats 40000000 in
theorem own_rmm4 (l : Launch) (Z : State) (a0 : Array Value) (hw : ∀ d ∈ tables_1, d.before a0 Z = true) (ws : List Jvm.Cond) (a1 : Addr) (h0 : Heap) (n0 : Nat) (x0 x1 x2 x3 : Int32) (ka : ClassId) (V_a1 : Arv Z h0 a1 ka .double (4 : Int32) [(.double (FP.l2d x0.toInt64)), (.double (FP.l2d x1.toInt64)), (.double (FP.l2d x2.toInt64)), (.double (FP.l2d x3.toInt64))] (.double (0 : UInt64))) :
    own_Met l Z (⟨"com/example/tailgauge/tailgauge/model/Returns", "mean", "([D)D"⟩ : MethodName) prog_16_method_6_code 8 (some .double) ws ({ frames := 0, cells := 0, slots := 0, locals := 0 } : Room) #[(.ref a1)] h0 (own_Qm4 Z x0 x1 x2 x3 h0 n0) := by
  refine own_met (plainFor_of_name own_pn0) ?_
  intro p e s m below meth c s₁ X0 hx hZ hby hml hown hnm hret hlk e0
  have N0 := Fr.nil n0
  refine own_go (fun t k => castTop (own_efm4 m a1) k) ?_
  show own_Go _ _ _ _ s₁ (mkF m 0 #[.val (.ref a1), .unset, .unset, .unset, .unset, .unset, .unset, .unset] [])
  refine own_go (fun _ k => XS.dconst0 X0.here hx rfl (hb hby own_d1_0) own_z k) ?_
  show own_Go _ _ _ _ s₁ (mkF m 1 #[.val (.ref a1), .unset, .unset, .unset, .unset, .unset, .unset, .unset] [(.double (FP.l2d (0 : Int64)))])
  refine own_go (fun _ k => XS.dstoreN X0.here hx rfl (hb hby own_d1_1) rfl (l' := #[.val (.ref a1), .val (.double (FP.l2d (0 : Int64))), .second, .unset, .unset, .unset, .unset, .unset]) rfl k) ?_
  show own_Go _ _ _ _ s₁ (mkF m 2 #[.val (.ref a1), .val (.double (FP.l2d (0 : Int64))), .second, .unset, .unset, .unset, .unset, .unset] [])
  refine own_go (fun _ k => XS.aloadN X0.here hx rfl (hb hby own_d1_2) rfl rfl k) ?_
  show own_Go _ _ _ _ s₁ (mkF m 3 #[.val (.ref a1), .val (.double (FP.l2d (0 : Int64))), .second, .unset, .unset, .unset, .unset, .unset] [(.ref a1)])
  refine own_go (fun _ k => XS.astoreN X0.here hx rfl (hb hby own_d1_3) rfl rfl (l' := #[.val (.ref a1), .val (.double (FP.l2d (0 : Int64))), .second, .val (.ref a1), .unset, .unset, .unset, .unset]) rfl k) ?_
  show own_Go _ _ _ _ s₁ (mkF m 4 #[.val (.ref a1), .val (.double (FP.l2d (0 : Int64))), .second, .val (.ref a1), .unset, .unset, .unset, .unset] [])
  refine own_go (fun _ k => XS.aloadN X0.here hx rfl (hb hby own_d1_4) rfl rfl k) ?_
  show own_Go _ _ _ _ s₁ (mkF m 5 #[.val (.ref a1), .val (.double (FP.l2d (0 : Int64))), .second, .val (.ref a1), .unset, .unset, .unset, .unset] [(.ref a1)])
  obtain ⟨clz13, Arz13, qz13, Sz13, Mz13, HHz13, Gz13⟩ := id V_a1
  refine own_go (fun _ k => X0.arraylength hx (by rw [e0]; exact Arz13.1) (State.isArrayOf_alike hZ.alike Arz13.2.1) (g := (mkF m 5 #[.val (.ref a1), .val (.double (FP.l2d (0 : Int64))), .second, .val (.ref a1), .unset, .unset, .unset, .unset] [(.ref a1)])) rfl rfl (hb hby own_d1_5) _ k) ?_
  rw [len_of Sz13 Mz13]
  show own_Go _ _ _ _ s₁ (mkF m 6 #[.val (.ref a1), .val (.double (FP.l2d (0 : Int64))), .second, .val (.ref a1), .unset, .unset, .unset, .unset] [(.int (4 : Int32))])
  refine own_go (fun _ k => XS.istore X0.here hx rfl (hb hby own_d1_6) rfl (l' := #[.val (.ref a1), .val (.double (FP.l2d (0 : Int64))), .second, .val (.ref a1), .val (.int (4 : Int32)), .unset, .unset, .unset]) rfl k) ?_
  show own_Go _ _ _ _ s₁ (mkF m 8 #[.val (.ref a1), .val (.double (FP.l2d (0 : Int64))), .second, .val (.ref a1), .val (.int (4 : Int32)), .unset, .unset, .unset] [])
  refine own_go (fun _ k => XS.iconst X0.here hx rfl (hb hby own_d1_8) k) ?_
  show own_Go _ _ _ _ s₁ (mkF m 9 #[.val (.ref a1), .val (.double (FP.l2d (0 : Int64))), .second, .val (.ref a1), .val (.int (4 : Int32)), .unset, .unset, .unset] [(.int (0 : Int32))])
  refine own_go (fun _ k => XS.istore X0.here hx rfl (hb hby own_d1_9) rfl (l' := #[.val (.ref a1), .val (.double (FP.l2d (0 : Int64))), .second, .val (.ref a1), .val (.int (4 : Int32)), .val (.int (0 : Int32)), .unset, .unset]) rfl k) ?_
  show own_Go _ _ _ _ s₁ (mkF m 11 #[.val (.ref a1), .val (.double (FP.l2d (0 : Int64))), .second, .val (.ref a1), .val (.int (4 : Int32)), .val (.int (0 : Int32)), .unset, .unset] [])
  refine own_go (fun _ k => XS.iload X0.here hx rfl (hb hby own_d1_11) rfl k) ?_
  show own_Go _ _ _ _ s₁ (mkF m 13 #[.val (.ref a1), .val (.double (FP.l2d (0 : Int64))), .second, .val (.ref a1), .val (.int (4 : Int32)), .val (.int (0 : Int32)), .unset, .unset] [(.int (0 : Int32))])
  refine own_go (fun _ k => XS.iload X0.here hx rfl (hb hby own_d1_13) rfl k) ?_
  show own_Go _ _ _ _ s₁ (mkF m 15 #[.val (.ref a1), .val (.double (FP.l2d (0 : Int64))), .second, .val (.ref a1), .val (.int (4 : Int32)), .val (.int (0 : Int32)), .unset, .unset] [(.int (4 : Int32)), (.int (0 : Int32))])
  have hk0 := own_k0
  refine own_go (fun _ k => XS.icmpNo X0.here hx rfl (hb hby own_d1_15) rfl (tlt (by decide : (0 : Int32) < (4 : Int32))).2.1 k) ?_
  show own_Go _ _ _ _ s₁ (mkF m 18 #[.val (.ref a1), .val (.double (FP.l2d (0 : Int64))), .second, .val (.ref a1), .val (.int (4 : Int32)), .val (.int (0 : Int32)), .unset, .unset] [])
  refine own_go (fun _ k => XS.aloadN X0.here hx rfl (hb hby own_d1_18) rfl rfl k) ?_
  show own_Go _ _ _ _ s₁ (mkF m 19 #[.val (.ref a1), .val (.double (FP.l2d (0 : Int64))), .second, .val (.ref a1), .val (.int (4 : Int32)), .val (.int (0 : Int32)), .unset, .unset] [(.ref a1)])
  refine own_go (fun _ k => XS.iload X0.here hx rfl (hb hby own_d1_19) rfl k) ?_
  show own_Go _ _ _ _ s₁ (mkF m 21 #[.val (.ref a1), .val (.double (FP.l2d (0 : Int64))), .second, .val (.ref a1), .val (.int (4 : Int32)), .val (.int (0 : Int32)), .unset, .unset] [(.int (0 : Int32)), (.ref a1)])
  obtain ⟨clz14, Arz14, qz14, Sz14, Mz14, HHz14, Gz14⟩ := id V_a1
  have hinz14 : ¬ ((0 : Int32) < 0 ∨ clz14.slots.size ≤ ((0 : Int32)).toNatClampNeg) := inb_of Sz14 ⟨(by decide), (by decide)⟩
  have hatz14 : clz14.slots[((0 : Int32)).toNatClampNeg]? = some (.double (FP.l2d x0.toInt64)) := HHz14.at hinz14 (rfl)
  refine own_go (fun _ k => X0.daload hx (j := (0 : Int32)) (v := (.double (FP.l2d x0.toInt64))) (by rw [e0]; exact Arz14.1) (State.isArrayOf_alike hZ.alike Arz14.2.1) Arz14.2.2 hinz14 hatz14 (g := (mkF m 21 #[.val (.ref a1), .val (.double (FP.l2d (0 : Int64))), .second, .val (.ref a1), .val (.int (4 : Int32)), .val (.int (0 : Int32)), .unset, .unset] [(.int (0 : Int32)), (.ref a1)])) rfl rfl (hb hby own_d1_21) _ k) ?_
  show own_Go _ _ _ _ s₁ (mkF m 22 #[.val (.ref a1), .val (.double (FP.l2d (0 : Int64))), .second, .val (.ref a1), .val (.int (4 : Int32)), .val (.int (0 : Int32)), .unset, .unset] [(.double (FP.l2d x0.toInt64))])
  refine own_go (fun _ k => XS.dstore X0.here hx rfl (hb hby own_d1_22) rfl (l' := #[.val (.ref a1), .val (.double (FP.l2d (0 : Int64))), .second, .val (.ref a1), .val (.int (4 : Int32)), .val (.int (0 : Int32)), .val (.double (FP.l2d x0.toInt64)), .second]) rfl k) ?_
  show own_Go _ _ _ _ s₁ (mkF m 24 #[.val (.ref a1), .val (.double (FP.l2d (0 : Int64))), .second, .val (.ref a1), .val (.int (4 : Int32)), .val (.int (0 : Int32)), .val (.double (FP.l2d x0.toInt64)), .second] [])
  refine own_go (fun _ k => XS.dloadN X0.here hx rfl (hb hby own_d1_24) rfl k) ?_
  show own_Go _ _ _ _ s₁ (mkF m 25 #[.val (.ref a1), .val (.double (FP.l2d (0 : Int64))), .second, .val (.ref a1), .val (.int (4 : Int32)), .val (.int (0 : Int32)), .val (.double (FP.l2d x0.toInt64)), .second] [(.double (FP.l2d (0 : Int64)))])
  refine own_go (fun _ k => XS.dload X0.here hx rfl (hb hby own_d1_25) rfl k) ?_
  show own_Go _ _ _ _ s₁ (mkF m 27 #[.val (.ref a1), .val (.double (FP.l2d (0 : Int64))), .second, .val (.ref a1), .val (.int (4 : Int32)), .val (.int (0 : Int32)), .val (.double (FP.l2d x0.toInt64)), .second] [(.double (FP.l2d x0.toInt64)), (.double (FP.l2d (0 : Int64)))])
  have ea0 : FP.dadd (FP.l2d (0 : Int64)) (FP.l2d x0.toInt64) = FP.l2d ((0 : Int64) + x0.toInt64) := dadd_w (own_b hk0 (by decide)) (own_bi x0)
  refine own_go (fun _ k => XS.daddS X0.here hx rfl (hb hby own_d1_27) rfl (nn_w ea0) ea0 k) ?_
  show own_Go _ _ _ _ s₁ (mkF m 28 #[.val (.ref a1), .val (.double (FP.l2d (0 : Int64))), .second, .val (.ref a1), .val (.int (4 : Int32)), .val (.int (0 : Int32)), .val (.double (FP.l2d x0.toInt64)), .second] [(.double (FP.l2d ((0 : Int64) + x0.toInt64)))])
  have hk1 := own_add (x := x0) hk0 (by decide)
  refine own_go (fun _ k => XS.dstoreN X0.here hx rfl (hb hby own_d1_28) rfl (l' := #[.val (.ref a1), .val (.double (FP.l2d ((0 : Int64) + x0.toInt64))), .second, .val (.ref a1), .val (.int (4 : Int32)), .val (.int (0 : Int32)), .val (.double (FP.l2d x0.toInt64)), .second]) rfl k) ?_
  show own_Go _ _ _ _ s₁ (mkF m 29 #[.val (.ref a1), .val (.double (FP.l2d ((0 : Int64) + x0.toInt64))), .second, .val (.ref a1), .val (.int (4 : Int32)), .val (.int (0 : Int32)), .val (.double (FP.l2d x0.toInt64)), .second] [])
  refine own_go (fun _ k => XS.iinc X0.here hx rfl (hb hby own_d1_29) rfl (l' := #[.val (.ref a1), .val (.double (FP.l2d ((0 : Int64) + x0.toInt64))), .second, .val (.ref a1), .val (.int (4 : Int32)), .val (.int ((0 : Int32) + (1 : Int32))), .val (.double (FP.l2d x0.toInt64)), .second]) rfl k) ?_
  show own_Go _ _ _ _ s₁ (mkF m 32 #[.val (.ref a1), .val (.double (FP.l2d ((0 : Int64) + x0.toInt64))), .second, .val (.ref a1), .val (.int (4 : Int32)), .val (.int ((0 : Int32) + (1 : Int32))), .val (.double (FP.l2d x0.toInt64)), .second] [])
  refine own_go (fun _ k => XS.goto X0.here hx rfl (pc0 := 32) (pc' := 11) rfl (hb hby own_d1_32) (by decide) (by decide) k) ?_
  show own_Go _ _ _ _ s₁ (mkF m 11 #[.val (.ref a1), .val (.double (FP.l2d ((0 : Int64) + x0.toInt64))), .second, .val (.ref a1), .val (.int (4 : Int32)), .val (.int ((0 : Int32) + (1 : Int32))), .val (.double (FP.l2d x0.toInt64)), .second] [])
  refine own_go (fun _ k => XS.iload X0.here hx rfl (hb hby own_d1_11) rfl k) ?_
  show own_Go _ _ _ _ s₁ (mkF m 13 #[.val (.ref a1), .val (.double (FP.l2d ((0 : Int64) + x0.toInt64))), .second, .val (.ref a1), .val (.int (4 : Int32)), .val (.int ((0 : Int32) + (1 : Int32))), .val (.double (FP.l2d x0.toInt64)), .second] [(.int ((0 : Int32) + (1 : Int32)))])
  refine own_go (fun _ k => XS.iload X0.here hx rfl (hb hby own_d1_13) rfl k) ?_
  show own_Go _ _ _ _ s₁ (mkF m 15 #[.val (.ref a1), .val (.double (FP.l2d ((0 : Int64) + x0.toInt64))), .second, .val (.ref a1), .val (.int (4 : Int32)), .val (.int ((0 : Int32) + (1 : Int32))), .val (.double (FP.l2d x0.toInt64)), .second] [(.int (4 : Int32)), (.int ((0 : Int32) + (1 : Int32)))])
  show own_Go _ _ _ _ s₁ (mkF m 15 #[.val (.ref a1), .val (.double (FP.l2d ((0 : Int64) + x0.toInt64))), .second, .val (.ref a1), .val (.int (4 : Int32)), .val (.int (1 : Int32)), .val (.double (FP.l2d x0.toInt64)), .second] [(.int (4 : Int32)), (.int (1 : Int32))])
  refine own_go (fun _ k => XS.icmpNo X0.here hx rfl (hb hby own_d1_15) rfl (tlt (by decide : (1 : Int32) < (4 : Int32))).2.1 k) ?_
  show own_Go _ _ _ _ s₁ (mkF m 18 #[.val (.ref a1), .val (.double (FP.l2d ((0 : Int64) + x0.toInt64))), .second, .val (.ref a1), .val (.int (4 : Int32)), .val (.int (1 : Int32)), .val (.double (FP.l2d x0.toInt64)), .second] [])
  refine own_go (fun _ k => XS.aloadN X0.here hx rfl (hb hby own_d1_18) rfl rfl k) ?_
  show own_Go _ _ _ _ s₁ (mkF m 19 #[.val (.ref a1), .val (.double (FP.l2d ((0 : Int64) + x0.toInt64))), .second, .val (.ref a1), .val (.int (4 : Int32)), .val (.int (1 : Int32)), .val (.double (FP.l2d x0.toInt64)), .second] [(.ref a1)])
  refine own_go (fun _ k => XS.iload X0.here hx rfl (hb hby own_d1_19) rfl k) ?_
  show own_Go _ _ _ _ s₁ (mkF m 21 #[.val (.ref a1), .val (.double (FP.l2d ((0 : Int64) + x0.toInt64))), .second, .val (.ref a1), .val (.int (4 : Int32)), .val (.int (1 : Int32)), .val (.double (FP.l2d x0.toInt64)), .second] [(.int (1 : Int32)), (.ref a1)])
  obtain ⟨clz15, Arz15, qz15, Sz15, Mz15, HHz15, Gz15⟩ := id V_a1
  have hinz15 : ¬ ((1 : Int32) < 0 ∨ clz15.slots.size ≤ ((1 : Int32)).toNatClampNeg) := inb_of Sz15 ⟨(by decide), (by decide)⟩
  have hatz15 : clz15.slots[((1 : Int32)).toNatClampNeg]? = some (.double (FP.l2d x1.toInt64)) := HHz15.at hinz15 (rfl)
  refine own_go (fun _ k => X0.daload hx (j := (1 : Int32)) (v := (.double (FP.l2d x1.toInt64))) (by rw [e0]; exact Arz15.1) (State.isArrayOf_alike hZ.alike Arz15.2.1) Arz15.2.2 hinz15 hatz15 (g := (mkF m 21 #[.val (.ref a1), .val (.double (FP.l2d ((0 : Int64) + x0.toInt64))), .second, .val (.ref a1), .val (.int (4 : Int32)), .val (.int (1 : Int32)), .val (.double (FP.l2d x0.toInt64)), .second] [(.int (1 : Int32)), (.ref a1)])) rfl rfl (hb hby own_d1_21) _ k) ?_
  show own_Go _ _ _ _ s₁ (mkF m 22 #[.val (.ref a1), .val (.double (FP.l2d ((0 : Int64) + x0.toInt64))), .second, .val (.ref a1), .val (.int (4 : Int32)), .val (.int (1 : Int32)), .val (.double (FP.l2d x0.toInt64)), .second] [(.double (FP.l2d x1.toInt64))])
  refine own_go (fun _ k => XS.dstore X0.here hx rfl (hb hby own_d1_22) rfl (l' := #[.val (.ref a1), .val (.double (FP.l2d ((0 : Int64) + x0.toInt64))), .second, .val (.ref a1), .val (.int (4 : Int32)), .val (.int (1 : Int32)), .val (.double (FP.l2d x1.toInt64)), .second]) rfl k) ?_
  show own_Go _ _ _ _ s₁ (mkF m 24 #[.val (.ref a1), .val (.double (FP.l2d ((0 : Int64) + x0.toInt64))), .second, .val (.ref a1), .val (.int (4 : Int32)), .val (.int (1 : Int32)), .val (.double (FP.l2d x1.toInt64)), .second] [])
  refine own_go (fun _ k => XS.dloadN X0.here hx rfl (hb hby own_d1_24) rfl k) ?_
  show own_Go _ _ _ _ s₁ (mkF m 25 #[.val (.ref a1), .val (.double (FP.l2d ((0 : Int64) + x0.toInt64))), .second, .val (.ref a1), .val (.int (4 : Int32)), .val (.int (1 : Int32)), .val (.double (FP.l2d x1.toInt64)), .second] [(.double (FP.l2d ((0 : Int64) + x0.toInt64)))])
  refine own_go (fun _ k => XS.dload X0.here hx rfl (hb hby own_d1_25) rfl k) ?_
  show own_Go _ _ _ _ s₁ (mkF m 27 #[.val (.ref a1), .val (.double (FP.l2d ((0 : Int64) + x0.toInt64))), .second, .val (.ref a1), .val (.int (4 : Int32)), .val (.int (1 : Int32)), .val (.double (FP.l2d x1.toInt64)), .second] [(.double (FP.l2d x1.toInt64)), (.double (FP.l2d ((0 : Int64) + x0.toInt64)))])
  have ea1 : FP.dadd (FP.l2d ((0 : Int64) + x0.toInt64)) (FP.l2d x1.toInt64) = FP.l2d (((0 : Int64) + x0.toInt64) + x1.toInt64) := dadd_w (own_b hk1 (by decide)) (own_bi x1)
  refine own_go (fun _ k => XS.daddS X0.here hx rfl (hb hby own_d1_27) rfl (nn_w ea1) ea1 k) ?_
  show own_Go _ _ _ _ s₁ (mkF m 28 #[.val (.ref a1), .val (.double (FP.l2d ((0 : Int64) + x0.toInt64))), .second, .val (.ref a1), .val (.int (4 : Int32)), .val (.int (1 : Int32)), .val (.double (FP.l2d x1.toInt64)), .second] [(.double (FP.l2d (((0 : Int64) + x0.toInt64) + x1.toInt64)))])
  have hk2 := own_add (x := x1) hk1 (by decide)
  refine own_go (fun _ k => XS.dstoreN X0.here hx rfl (hb hby own_d1_28) rfl (l' := #[.val (.ref a1), .val (.double (FP.l2d (((0 : Int64) + x0.toInt64) + x1.toInt64))), .second, .val (.ref a1), .val (.int (4 : Int32)), .val (.int (1 : Int32)), .val (.double (FP.l2d x1.toInt64)), .second]) rfl k) ?_
  show own_Go _ _ _ _ s₁ (mkF m 29 #[.val (.ref a1), .val (.double (FP.l2d (((0 : Int64) + x0.toInt64) + x1.toInt64))), .second, .val (.ref a1), .val (.int (4 : Int32)), .val (.int (1 : Int32)), .val (.double (FP.l2d x1.toInt64)), .second] [])
  refine own_go (fun _ k => XS.iinc X0.here hx rfl (hb hby own_d1_29) rfl (l' := #[.val (.ref a1), .val (.double (FP.l2d (((0 : Int64) + x0.toInt64) + x1.toInt64))), .second, .val (.ref a1), .val (.int (4 : Int32)), .val (.int ((1 : Int32) + (1 : Int32))), .val (.double (FP.l2d x1.toInt64)), .second]) rfl k) ?_
  show own_Go _ _ _ _ s₁ (mkF m 32 #[.val (.ref a1), .val (.double (FP.l2d (((0 : Int64) + x0.toInt64) + x1.toInt64))), .second, .val (.ref a1), .val (.int (4 : Int32)), .val (.int ((1 : Int32) + (1 : Int32))), .val (.double (FP.l2d x1.toInt64)), .second] [])
  refine own_go (fun _ k => XS.goto X0.here hx rfl (pc0 := 32) (pc' := 11) rfl (hb hby own_d1_32) (by decide) (by decide) k) ?_
  show own_Go _ _ _ _ s₁ (mkF m 11 #[.val (.ref a1), .val (.double (FP.l2d (((0 : Int64) + x0.toInt64) + x1.toInt64))), .second, .val (.ref a1), .val (.int (4 : Int32)), .val (.int ((1 : Int32) + (1 : Int32))), .val (.double (FP.l2d x1.toInt64)), .second] [])
  refine own_go (fun _ k => XS.iload X0.here hx rfl (hb hby own_d1_11) rfl k) ?_
  show own_Go _ _ _ _ s₁ (mkF m 13 #[.val (.ref a1), .val (.double (FP.l2d (((0 : Int64) + x0.toInt64) + x1.toInt64))), .second, .val (.ref a1), .val (.int (4 : Int32)), .val (.int ((1 : Int32) + (1 : Int32))), .val (.double (FP.l2d x1.toInt64)), .second] [(.int ((1 : Int32) + (1 : Int32)))])
  refine own_go (fun _ k => XS.iload X0.here hx rfl (hb hby own_d1_13) rfl k) ?_
  show own_Go _ _ _ _ s₁ (mkF m 15 #[.val (.ref a1), .val (.double (FP.l2d (((0 : Int64) + x0.toInt64) + x1.toInt64))), .second, .val (.ref a1), .val (.int (4 : Int32)), .val (.int ((1 : Int32) + (1 : Int32))), .val (.double (FP.l2d x1.toInt64)), .second] [(.int (4 : Int32)), (.int ((1 : Int32) + (1 : Int32)))])
  show own_Go _ _ _ _ s₁ (mkF m 15 #[.val (.ref a1), .val (.double (FP.l2d (((0 : Int64) + x0.toInt64) + x1.toInt64))), .second, .val (.ref a1), .val (.int (4 : Int32)), .val (.int (2 : Int32)), .val (.double (FP.l2d x1.toInt64)), .second] [(.int (4 : Int32)), (.int (2 : Int32))])
  refine own_go (fun _ k => XS.icmpNo X0.here hx rfl (hb hby own_d1_15) rfl (tlt (by decide : (2 : Int32) < (4 : Int32))).2.1 k) ?_
  show own_Go _ _ _ _ s₁ (mkF m 18 #[.val (.ref a1), .val (.double (FP.l2d (((0 : Int64) + x0.toInt64) + x1.toInt64))), .second, .val (.ref a1), .val (.int (4 : Int32)), .val (.int (2 : Int32)), .val (.double (FP.l2d x1.toInt64)), .second] [])
  refine own_go (fun _ k => XS.aloadN X0.here hx rfl (hb hby own_d1_18) rfl rfl k) ?_
  show own_Go _ _ _ _ s₁ (mkF m 19 #[.val (.ref a1), .val (.double (FP.l2d (((0 : Int64) + x0.toInt64) + x1.toInt64))), .second, .val (.ref a1), .val (.int (4 : Int32)), .val (.int (2 : Int32)), .val (.double (FP.l2d x1.toInt64)), .second] [(.ref a1)])
  refine own_go (fun _ k => XS.iload X0.here hx rfl (hb hby own_d1_19) rfl k) ?_
  show own_Go _ _ _ _ s₁ (mkF m 21 #[.val (.ref a1), .val (.double (FP.l2d (((0 : Int64) + x0.toInt64) + x1.toInt64))), .second, .val (.ref a1), .val (.int (4 : Int32)), .val (.int (2 : Int32)), .val (.double (FP.l2d x1.toInt64)), .second] [(.int (2 : Int32)), (.ref a1)])
  obtain ⟨clz16, Arz16, qz16, Sz16, Mz16, HHz16, Gz16⟩ := id V_a1
  have hinz16 : ¬ ((2 : Int32) < 0 ∨ clz16.slots.size ≤ ((2 : Int32)).toNatClampNeg) := inb_of Sz16 ⟨(by decide), (by decide)⟩
  have hatz16 : clz16.slots[((2 : Int32)).toNatClampNeg]? = some (.double (FP.l2d x2.toInt64)) := HHz16.at hinz16 (rfl)
  refine own_go (fun _ k => X0.daload hx (j := (2 : Int32)) (v := (.double (FP.l2d x2.toInt64))) (by rw [e0]; exact Arz16.1) (State.isArrayOf_alike hZ.alike Arz16.2.1) Arz16.2.2 hinz16 hatz16 (g := (mkF m 21 #[.val (.ref a1), .val (.double (FP.l2d (((0 : Int64) + x0.toInt64) + x1.toInt64))), .second, .val (.ref a1), .val (.int (4 : Int32)), .val (.int (2 : Int32)), .val (.double (FP.l2d x1.toInt64)), .second] [(.int (2 : Int32)), (.ref a1)])) rfl rfl (hb hby own_d1_21) _ k) ?_
  show own_Go _ _ _ _ s₁ (mkF m 22 #[.val (.ref a1), .val (.double (FP.l2d (((0 : Int64) + x0.toInt64) + x1.toInt64))), .second, .val (.ref a1), .val (.int (4 : Int32)), .val (.int (2 : Int32)), .val (.double (FP.l2d x1.toInt64)), .second] [(.double (FP.l2d x2.toInt64))])
  refine own_go (fun _ k => XS.dstore X0.here hx rfl (hb hby own_d1_22) rfl (l' := #[.val (.ref a1), .val (.double (FP.l2d (((0 : Int64) + x0.toInt64) + x1.toInt64))), .second, .val (.ref a1), .val (.int (4 : Int32)), .val (.int (2 : Int32)), .val (.double (FP.l2d x2.toInt64)), .second]) rfl k) ?_
  show own_Go _ _ _ _ s₁ (mkF m 24 #[.val (.ref a1), .val (.double (FP.l2d (((0 : Int64) + x0.toInt64) + x1.toInt64))), .second, .val (.ref a1), .val (.int (4 : Int32)), .val (.int (2 : Int32)), .val (.double (FP.l2d x2.toInt64)), .second] [])
  refine own_go (fun _ k => XS.dloadN X0.here hx rfl (hb hby own_d1_24) rfl k) ?_
  show own_Go _ _ _ _ s₁ (mkF m 25 #[.val (.ref a1), .val (.double (FP.l2d (((0 : Int64) + x0.toInt64) + x1.toInt64))), .second, .val (.ref a1), .val (.int (4 : Int32)), .val (.int (2 : Int32)), .val (.double (FP.l2d x2.toInt64)), .second] [(.double (FP.l2d (((0 : Int64) + x0.toInt64) + x1.toInt64)))])
  refine own_go (fun _ k => XS.dload X0.here hx rfl (hb hby own_d1_25) rfl k) ?_
  show own_Go _ _ _ _ s₁ (mkF m 27 #[.val (.ref a1), .val (.double (FP.l2d (((0 : Int64) + x0.toInt64) + x1.toInt64))), .second, .val (.ref a1), .val (.int (4 : Int32)), .val (.int (2 : Int32)), .val (.double (FP.l2d x2.toInt64)), .second] [(.double (FP.l2d x2.toInt64)), (.double (FP.l2d (((0 : Int64) + x0.toInt64) + x1.toInt64)))])
  have ea2 : FP.dadd (FP.l2d (((0 : Int64) + x0.toInt64) + x1.toInt64)) (FP.l2d x2.toInt64) = FP.l2d ((((0 : Int64) + x0.toInt64) + x1.toInt64) + x2.toInt64) := dadd_w (own_b hk2 (by decide)) (own_bi x2)
  refine own_go (fun _ k => XS.daddS X0.here hx rfl (hb hby own_d1_27) rfl (nn_w ea2) ea2 k) ?_
  show own_Go _ _ _ _ s₁ (mkF m 28 #[.val (.ref a1), .val (.double (FP.l2d (((0 : Int64) + x0.toInt64) + x1.toInt64))), .second, .val (.ref a1), .val (.int (4 : Int32)), .val (.int (2 : Int32)), .val (.double (FP.l2d x2.toInt64)), .second] [(.double (FP.l2d ((((0 : Int64) + x0.toInt64) + x1.toInt64) + x2.toInt64)))])
  have hk3 := own_add (x := x2) hk2 (by decide)
  refine own_go (fun _ k => XS.dstoreN X0.here hx rfl (hb hby own_d1_28) rfl (l' := #[.val (.ref a1), .val (.double (FP.l2d ((((0 : Int64) + x0.toInt64) + x1.toInt64) + x2.toInt64))), .second, .val (.ref a1), .val (.int (4 : Int32)), .val (.int (2 : Int32)), .val (.double (FP.l2d x2.toInt64)), .second]) rfl k) ?_
  show own_Go _ _ _ _ s₁ (mkF m 29 #[.val (.ref a1), .val (.double (FP.l2d ((((0 : Int64) + x0.toInt64) + x1.toInt64) + x2.toInt64))), .second, .val (.ref a1), .val (.int (4 : Int32)), .val (.int (2 : Int32)), .val (.double (FP.l2d x2.toInt64)), .second] [])
  refine own_go (fun _ k => XS.iinc X0.here hx rfl (hb hby own_d1_29) rfl (l' := #[.val (.ref a1), .val (.double (FP.l2d ((((0 : Int64) + x0.toInt64) + x1.toInt64) + x2.toInt64))), .second, .val (.ref a1), .val (.int (4 : Int32)), .val (.int ((2 : Int32) + (1 : Int32))), .val (.double (FP.l2d x2.toInt64)), .second]) rfl k) ?_
  show own_Go _ _ _ _ s₁ (mkF m 32 #[.val (.ref a1), .val (.double (FP.l2d ((((0 : Int64) + x0.toInt64) + x1.toInt64) + x2.toInt64))), .second, .val (.ref a1), .val (.int (4 : Int32)), .val (.int ((2 : Int32) + (1 : Int32))), .val (.double (FP.l2d x2.toInt64)), .second] [])
  refine own_go (fun _ k => XS.goto X0.here hx rfl (pc0 := 32) (pc' := 11) rfl (hb hby own_d1_32) (by decide) (by decide) k) ?_
  show own_Go _ _ _ _ s₁ (mkF m 11 #[.val (.ref a1), .val (.double (FP.l2d ((((0 : Int64) + x0.toInt64) + x1.toInt64) + x2.toInt64))), .second, .val (.ref a1), .val (.int (4 : Int32)), .val (.int ((2 : Int32) + (1 : Int32))), .val (.double (FP.l2d x2.toInt64)), .second] [])
  refine own_go (fun _ k => XS.iload X0.here hx rfl (hb hby own_d1_11) rfl k) ?_
  show own_Go _ _ _ _ s₁ (mkF m 13 #[.val (.ref a1), .val (.double (FP.l2d ((((0 : Int64) + x0.toInt64) + x1.toInt64) + x2.toInt64))), .second, .val (.ref a1), .val (.int (4 : Int32)), .val (.int ((2 : Int32) + (1 : Int32))), .val (.double (FP.l2d x2.toInt64)), .second] [(.int ((2 : Int32) + (1 : Int32)))])
  refine own_go (fun _ k => XS.iload X0.here hx rfl (hb hby own_d1_13) rfl k) ?_
  show own_Go _ _ _ _ s₁ (mkF m 15 #[.val (.ref a1), .val (.double (FP.l2d ((((0 : Int64) + x0.toInt64) + x1.toInt64) + x2.toInt64))), .second, .val (.ref a1), .val (.int (4 : Int32)), .val (.int ((2 : Int32) + (1 : Int32))), .val (.double (FP.l2d x2.toInt64)), .second] [(.int (4 : Int32)), (.int ((2 : Int32) + (1 : Int32)))])
  show own_Go _ _ _ _ s₁ (mkF m 15 #[.val (.ref a1), .val (.double (FP.l2d ((((0 : Int64) + x0.toInt64) + x1.toInt64) + x2.toInt64))), .second, .val (.ref a1), .val (.int (4 : Int32)), .val (.int (3 : Int32)), .val (.double (FP.l2d x2.toInt64)), .second] [(.int (4 : Int32)), (.int (3 : Int32))])
  refine own_go (fun _ k => XS.icmpNo X0.here hx rfl (hb hby own_d1_15) rfl (tlt (by decide : (3 : Int32) < (4 : Int32))).2.1 k) ?_
  show own_Go _ _ _ _ s₁ (mkF m 18 #[.val (.ref a1), .val (.double (FP.l2d ((((0 : Int64) + x0.toInt64) + x1.toInt64) + x2.toInt64))), .second, .val (.ref a1), .val (.int (4 : Int32)), .val (.int (3 : Int32)), .val (.double (FP.l2d x2.toInt64)), .second] [])
  refine own_go (fun _ k => XS.aloadN X0.here hx rfl (hb hby own_d1_18) rfl rfl k) ?_
  show own_Go _ _ _ _ s₁ (mkF m 19 #[.val (.ref a1), .val (.double (FP.l2d ((((0 : Int64) + x0.toInt64) + x1.toInt64) + x2.toInt64))), .second, .val (.ref a1), .val (.int (4 : Int32)), .val (.int (3 : Int32)), .val (.double (FP.l2d x2.toInt64)), .second] [(.ref a1)])
  refine own_go (fun _ k => XS.iload X0.here hx rfl (hb hby own_d1_19) rfl k) ?_
  show own_Go _ _ _ _ s₁ (mkF m 21 #[.val (.ref a1), .val (.double (FP.l2d ((((0 : Int64) + x0.toInt64) + x1.toInt64) + x2.toInt64))), .second, .val (.ref a1), .val (.int (4 : Int32)), .val (.int (3 : Int32)), .val (.double (FP.l2d x2.toInt64)), .second] [(.int (3 : Int32)), (.ref a1)])
  obtain ⟨clz17, Arz17, qz17, Sz17, Mz17, HHz17, Gz17⟩ := id V_a1
  have hinz17 : ¬ ((3 : Int32) < 0 ∨ clz17.slots.size ≤ ((3 : Int32)).toNatClampNeg) := inb_of Sz17 ⟨(by decide), (by decide)⟩
  have hatz17 : clz17.slots[((3 : Int32)).toNatClampNeg]? = some (.double (FP.l2d x3.toInt64)) := HHz17.at hinz17 (rfl)
  refine own_go (fun _ k => X0.daload hx (j := (3 : Int32)) (v := (.double (FP.l2d x3.toInt64))) (by rw [e0]; exact Arz17.1) (State.isArrayOf_alike hZ.alike Arz17.2.1) Arz17.2.2 hinz17 hatz17 (g := (mkF m 21 #[.val (.ref a1), .val (.double (FP.l2d ((((0 : Int64) + x0.toInt64) + x1.toInt64) + x2.toInt64))), .second, .val (.ref a1), .val (.int (4 : Int32)), .val (.int (3 : Int32)), .val (.double (FP.l2d x2.toInt64)), .second] [(.int (3 : Int32)), (.ref a1)])) rfl rfl (hb hby own_d1_21) _ k) ?_
  show own_Go _ _ _ _ s₁ (mkF m 22 #[.val (.ref a1), .val (.double (FP.l2d ((((0 : Int64) + x0.toInt64) + x1.toInt64) + x2.toInt64))), .second, .val (.ref a1), .val (.int (4 : Int32)), .val (.int (3 : Int32)), .val (.double (FP.l2d x2.toInt64)), .second] [(.double (FP.l2d x3.toInt64))])
  refine own_go (fun _ k => XS.dstore X0.here hx rfl (hb hby own_d1_22) rfl (l' := #[.val (.ref a1), .val (.double (FP.l2d ((((0 : Int64) + x0.toInt64) + x1.toInt64) + x2.toInt64))), .second, .val (.ref a1), .val (.int (4 : Int32)), .val (.int (3 : Int32)), .val (.double (FP.l2d x3.toInt64)), .second]) rfl k) ?_
  show own_Go _ _ _ _ s₁ (mkF m 24 #[.val (.ref a1), .val (.double (FP.l2d ((((0 : Int64) + x0.toInt64) + x1.toInt64) + x2.toInt64))), .second, .val (.ref a1), .val (.int (4 : Int32)), .val (.int (3 : Int32)), .val (.double (FP.l2d x3.toInt64)), .second] [])
  refine own_go (fun _ k => XS.dloadN X0.here hx rfl (hb hby own_d1_24) rfl k) ?_
  show own_Go _ _ _ _ s₁ (mkF m 25 #[.val (.ref a1), .val (.double (FP.l2d ((((0 : Int64) + x0.toInt64) + x1.toInt64) + x2.toInt64))), .second, .val (.ref a1), .val (.int (4 : Int32)), .val (.int (3 : Int32)), .val (.double (FP.l2d x3.toInt64)), .second] [(.double (FP.l2d ((((0 : Int64) + x0.toInt64) + x1.toInt64) + x2.toInt64)))])
  refine own_go (fun _ k => XS.dload X0.here hx rfl (hb hby own_d1_25) rfl k) ?_
  show own_Go _ _ _ _ s₁ (mkF m 27 #[.val (.ref a1), .val (.double (FP.l2d ((((0 : Int64) + x0.toInt64) + x1.toInt64) + x2.toInt64))), .second, .val (.ref a1), .val (.int (4 : Int32)), .val (.int (3 : Int32)), .val (.double (FP.l2d x3.toInt64)), .second] [(.double (FP.l2d x3.toInt64)), (.double (FP.l2d ((((0 : Int64) + x0.toInt64) + x1.toInt64) + x2.toInt64)))])
  have ea3 : FP.dadd (FP.l2d ((((0 : Int64) + x0.toInt64) + x1.toInt64) + x2.toInt64)) (FP.l2d x3.toInt64) = FP.l2d (((((0 : Int64) + x0.toInt64) + x1.toInt64) + x2.toInt64) + x3.toInt64) := dadd_w (own_b hk3 (by decide)) (own_bi x3)
  refine own_go (fun _ k => XS.daddS X0.here hx rfl (hb hby own_d1_27) rfl (nn_w ea3) ea3 k) ?_
  show own_Go _ _ _ _ s₁ (mkF m 28 #[.val (.ref a1), .val (.double (FP.l2d ((((0 : Int64) + x0.toInt64) + x1.toInt64) + x2.toInt64))), .second, .val (.ref a1), .val (.int (4 : Int32)), .val (.int (3 : Int32)), .val (.double (FP.l2d x3.toInt64)), .second] [(.double (FP.l2d (((((0 : Int64) + x0.toInt64) + x1.toInt64) + x2.toInt64) + x3.toInt64)))])
  have hk4 := own_add (x := x3) hk3 (by decide)
  refine own_go (fun _ k => XS.dstoreN X0.here hx rfl (hb hby own_d1_28) rfl (l' := #[.val (.ref a1), .val (.double (FP.l2d (((((0 : Int64) + x0.toInt64) + x1.toInt64) + x2.toInt64) + x3.toInt64))), .second, .val (.ref a1), .val (.int (4 : Int32)), .val (.int (3 : Int32)), .val (.double (FP.l2d x3.toInt64)), .second]) rfl k) ?_
  show own_Go _ _ _ _ s₁ (mkF m 29 #[.val (.ref a1), .val (.double (FP.l2d (((((0 : Int64) + x0.toInt64) + x1.toInt64) + x2.toInt64) + x3.toInt64))), .second, .val (.ref a1), .val (.int (4 : Int32)), .val (.int (3 : Int32)), .val (.double (FP.l2d x3.toInt64)), .second] [])
  refine own_go (fun _ k => XS.iinc X0.here hx rfl (hb hby own_d1_29) rfl (l' := #[.val (.ref a1), .val (.double (FP.l2d (((((0 : Int64) + x0.toInt64) + x1.toInt64) + x2.toInt64) + x3.toInt64))), .second, .val (.ref a1), .val (.int (4 : Int32)), .val (.int ((3 : Int32) + (1 : Int32))), .val (.double (FP.l2d x3.toInt64)), .second]) rfl k) ?_
  show own_Go _ _ _ _ s₁ (mkF m 32 #[.val (.ref a1), .val (.double (FP.l2d (((((0 : Int64) + x0.toInt64) + x1.toInt64) + x2.toInt64) + x3.toInt64))), .second, .val (.ref a1), .val (.int (4 : Int32)), .val (.int ((3 : Int32) + (1 : Int32))), .val (.double (FP.l2d x3.toInt64)), .second] [])
  refine own_go (fun _ k => XS.goto X0.here hx rfl (pc0 := 32) (pc' := 11) rfl (hb hby own_d1_32) (by decide) (by decide) k) ?_
  show own_Go _ _ _ _ s₁ (mkF m 11 #[.val (.ref a1), .val (.double (FP.l2d (((((0 : Int64) + x0.toInt64) + x1.toInt64) + x2.toInt64) + x3.toInt64))), .second, .val (.ref a1), .val (.int (4 : Int32)), .val (.int ((3 : Int32) + (1 : Int32))), .val (.double (FP.l2d x3.toInt64)), .second] [])
  refine own_go (fun _ k => XS.iload X0.here hx rfl (hb hby own_d1_11) rfl k) ?_
  show own_Go _ _ _ _ s₁ (mkF m 13 #[.val (.ref a1), .val (.double (FP.l2d (((((0 : Int64) + x0.toInt64) + x1.toInt64) + x2.toInt64) + x3.toInt64))), .second, .val (.ref a1), .val (.int (4 : Int32)), .val (.int ((3 : Int32) + (1 : Int32))), .val (.double (FP.l2d x3.toInt64)), .second] [(.int ((3 : Int32) + (1 : Int32)))])
  refine own_go (fun _ k => XS.iload X0.here hx rfl (hb hby own_d1_13) rfl k) ?_
  show own_Go _ _ _ _ s₁ (mkF m 15 #[.val (.ref a1), .val (.double (FP.l2d (((((0 : Int64) + x0.toInt64) + x1.toInt64) + x2.toInt64) + x3.toInt64))), .second, .val (.ref a1), .val (.int (4 : Int32)), .val (.int ((3 : Int32) + (1 : Int32))), .val (.double (FP.l2d x3.toInt64)), .second] [(.int (4 : Int32)), (.int ((3 : Int32) + (1 : Int32)))])
  show own_Go _ _ _ _ s₁ (mkF m 15 #[.val (.ref a1), .val (.double (FP.l2d (((((0 : Int64) + x0.toInt64) + x1.toInt64) + x2.toInt64) + x3.toInt64))), .second, .val (.ref a1), .val (.int (4 : Int32)), .val (.int (4 : Int32)), .val (.double (FP.l2d x3.toInt64)), .second] [(.int (4 : Int32)), (.int (4 : Int32))])
  refine own_go (fun _ k => XS.icmpYes X0.here hx rfl (pc0 := 15) (pc' := 35) rfl (hb hby own_d1_15) rfl (flt (by decide : ¬ ((4 : Int32) < (4 : Int32)))).2.1 (by decide) (by decide) k) ?_
  show own_Go _ _ _ _ s₁ (mkF m 35 #[.val (.ref a1), .val (.double (FP.l2d (((((0 : Int64) + x0.toInt64) + x1.toInt64) + x2.toInt64) + x3.toInt64))), .second, .val (.ref a1), .val (.int (4 : Int32)), .val (.int (4 : Int32)), .val (.double (FP.l2d x3.toInt64)), .second] [])
  refine own_go (fun _ k => XS.dloadN X0.here hx rfl (hb hby own_d1_35) rfl k) ?_
  show own_Go _ _ _ _ s₁ (mkF m 36 #[.val (.ref a1), .val (.double (FP.l2d (((((0 : Int64) + x0.toInt64) + x1.toInt64) + x2.toInt64) + x3.toInt64))), .second, .val (.ref a1), .val (.int (4 : Int32)), .val (.int (4 : Int32)), .val (.double (FP.l2d x3.toInt64)), .second] [(.double (FP.l2d (((((0 : Int64) + x0.toInt64) + x1.toInt64) + x2.toInt64) + x3.toInt64)))])
  refine own_go (fun _ k => XS.aloadN X0.here hx rfl (hb hby own_d1_36) rfl rfl k) ?_
  show own_Go _ _ _ _ s₁ (mkF m 37 #[.val (.ref a1), .val (.double (FP.l2d (((((0 : Int64) + x0.toInt64) + x1.toInt64) + x2.toInt64) + x3.toInt64))), .second, .val (.ref a1), .val (.int (4 : Int32)), .val (.int (4 : Int32)), .val (.double (FP.l2d x3.toInt64)), .second] [(.ref a1), (.double (FP.l2d (((((0 : Int64) + x0.toInt64) + x1.toInt64) + x2.toInt64) + x3.toInt64)))])
  obtain ⟨clz18, Arz18, qz18, Sz18, Mz18, HHz18, Gz18⟩ := id V_a1
  refine own_go (fun _ k => X0.arraylength hx (by rw [e0]; exact Arz18.1) (State.isArrayOf_alike hZ.alike Arz18.2.1) (g := (mkF m 37 #[.val (.ref a1), .val (.double (FP.l2d (((((0 : Int64) + x0.toInt64) + x1.toInt64) + x2.toInt64) + x3.toInt64))), .second, .val (.ref a1), .val (.int (4 : Int32)), .val (.int (4 : Int32)), .val (.double (FP.l2d x3.toInt64)), .second] [(.ref a1), (.double (FP.l2d (((((0 : Int64) + x0.toInt64) + x1.toInt64) + x2.toInt64) + x3.toInt64)))])) rfl rfl (hb hby own_d1_37) _ k) ?_
  rw [len_of Sz18 Mz18]
  show own_Go _ _ _ _ s₁ (mkF m 38 #[.val (.ref a1), .val (.double (FP.l2d (((((0 : Int64) + x0.toInt64) + x1.toInt64) + x2.toInt64) + x3.toInt64))), .second, .val (.ref a1), .val (.int (4 : Int32)), .val (.int (4 : Int32)), .val (.double (FP.l2d x3.toInt64)), .second] [(.int (4 : Int32)), (.double (FP.l2d (((((0 : Int64) + x0.toInt64) + x1.toInt64) + x2.toInt64) + x3.toInt64)))])
  refine own_go (fun _ k => XS.i2dS X0.here hx rfl (hb hby own_d1_38) rfl rfl k) ?_
  show own_Go _ _ _ _ s₁ (mkF m 39 #[.val (.ref a1), .val (.double (FP.l2d (((((0 : Int64) + x0.toInt64) + x1.toInt64) + x2.toInt64) + x3.toInt64))), .second, .val (.ref a1), .val (.int (4 : Int32)), .val (.int (4 : Int32)), .val (.double (FP.l2d x3.toInt64)), .second] [(.double (FP.i2d (4 : Int32))), (.double (FP.l2d (((((0 : Int64) + x0.toInt64) + x1.toInt64) + x2.toInt64) + x3.toInt64)))])
  have hnn := ddiv_out (l2d_fin (((((0 : Int64) + x0.toInt64) + x1.toInt64) + x2.toInt64) + x3.toInt64)).noNaN (i2d_fin (4 : Int32)) (own_nz (4 : Int32) (by decide))
  refine own_go (fun _ k => XS.ddivS X0.here hx rfl (hb hby own_d1_39) rfl hnn rfl k) ?_
  show own_Go _ _ _ _ s₁ (mkF m 40 #[.val (.ref a1), .val (.double (FP.l2d (((((0 : Int64) + x0.toInt64) + x1.toInt64) + x2.toInt64) + x3.toInt64))), .second, .val (.ref a1), .val (.int (4 : Int32)), .val (.int (4 : Int32)), .val (.double (FP.l2d x3.toInt64)), .second] [(.double (FP.ddiv (FP.l2d (((((0 : Int64) + x0.toInt64) + x1.toInt64) + x2.toInt64) + x3.toInt64)) (FP.i2d (4 : Int32))))])
  exact own_end X0 hlk (v := (some (.double (FP.ddiv (FP.l2d (((((0 : Int64) + x0.toInt64) + x1.toInt64) + x2.toInt64) + x3.toInt64)) (FP.i2d (4 : Int32)))))) (fun h => by rw [hret] at h; cases h) (fun fs hr => retOut X0 hx hret rfl (Or.inr (Or.inr (Or.inl ⟨rfl, rfl, _, rfl⟩))) (hb hby own_d1_40) hr) (by rw [e0]; exact ⟨rfl, N0, rfl⟩) (by decide) (by decide)
theorem own_s (a : Int32) : (0 : Int64) + a.toInt64 = a.toInt64 := Int64.zero_add _
theorem own_ef0 (m : MethodId) (p1 : Int32) (p2 : Int32) (p3 : Int32) (p4 : Int32) (p5 : Int32) : entryFrame m #[(.int p1), (.int p2), (.int p3), (.int p4), (.int p5)] maxLocals = mkF m 0 #[.val (.int p1), .val (.int p2), .val (.int p3), .val (.int p4), .val (.int p5), .unset, .unset, .unset, .unset, .unset, .unset, .unset, .unset] [] := by first | (simp [entryFrame, mkF, argsToLocals, Value.category, maxLocals]; done) | rfl
theorem own_pd0 : parseMethodDescriptor "([D)D" = some ⟨[(.array .double)], some .double⟩ := by decide +kernel
theorem own_pn1 : plainName "com/example/tailgauge/tailgauge/model/ReturnsMeanPinLaw" = true := by first | (simp [plainName, overriddenIn]; done) | decide +kernel
def own_Q0 (Z : State) (p1 : Int32) (h0 : Heap) (n0 : Nat) (v : Option Value) (h : Heap) (L : List Loc) : Prop := v = some (.int 1) ∧ Fr n0 L
set_option maxRecDepth 65536 in
set_option maxHeartbeats 40000000 in
theorem own_rm0 (l : Launch) (Z : State) (a0 : Array Value) (hw : ∀ d ∈ tables_1, d.before a0 Z = true) (ws : List Jvm.Cond) (p1 : Int32) (p2 : Int32) (p3 : Int32) (p4 : Int32) (p5 : Int32) (h0 : Heap) (n0 : Nat) (O : Old Z n0 h0) :
    own_Met l Z x code maxLocals ret ws room_1 #[(.int p1), (.int p2), (.int p3), (.int p4), (.int p5)] h0 (own_Q0 Z p1 h0 n0) := by
  refine own_met (plainFor_of_name own_pn1) ?_
  intro p e s m below meth c s₁ X0 hx hZ hby hml hown hnm hret hlk e0
  have N0 := Fr.nil n0
  refine own_go (fun t k => castTop (own_ef0 m p1 p2 p3 p4 p5) k) ?_
  show own_Go _ _ _ _ s₁ (mkF m 0 #[.val (.int p1), .val (.int p2), .val (.int p3), .val (.int p4), .val (.int p5), .unset, .unset, .unset, .unset, .unset, .unset, .unset, .unset] [])
  refine own_go (fun _ k => XS.iloadN X0.here hx rfl (hb hby at_0) rfl k) ?_
  show own_Go _ _ _ _ s₁ (mkF m 1 #[.val (.int p1), .val (.int p2), .val (.int p3), .val (.int p4), .val (.int p5), .unset, .unset, .unset, .unset, .unset, .unset, .unset, .unset] [(.int p1)])
  refine own_go (fun _ k => XS.iconst X0.here hx rfl (hb hby at_1) k) ?_
  show own_Go _ _ _ _ s₁ (mkF m 2 #[.val (.int p1), .val (.int p2), .val (.int p3), .val (.int p4), .val (.int p5), .unset, .unset, .unset, .unset, .unset, .unset, .unset, .unset] [(.int (3 : Int32)), (.int p1)])
  refine own_go (fun _ k => XS.iand X0.here hx rfl (hb hby at_2) rfl k) ?_
  show own_Go _ _ _ _ s₁ (mkF m 3 #[.val (.int p1), .val (.int p2), .val (.int p3), .val (.int p4), .val (.int p5), .unset, .unset, .unset, .unset, .unset, .unset, .unset, .unset] [(.int (p1 &&& (3 : Int32)))])
  refine own_go (fun _ k => XS.iconst X0.here hx rfl (hb hby at_3) k) ?_
  show own_Go _ _ _ _ s₁ (mkF m 4 #[.val (.int p1), .val (.int p2), .val (.int p3), .val (.int p4), .val (.int p5), .unset, .unset, .unset, .unset, .unset, .unset, .unset, .unset] [(.int (1 : Int32)), (.int (p1 &&& (3 : Int32)))])
  refine own_go (fun _ k => XS.iadd X0.here hx rfl (hb hby at_4) rfl k) ?_
  show own_Go _ _ _ _ s₁ (mkF m 5 #[.val (.int p1), .val (.int p2), .val (.int p3), .val (.int p4), .val (.int p5), .unset, .unset, .unset, .unset, .unset, .unset, .unset, .unset] [(.int ((p1 &&& (3 : Int32)) + (1 : Int32)))])
  refine own_go (fun _ k => XS.istore X0.here hx rfl (hb hby at_5) rfl (l' := #[.val (.int p1), .val (.int p2), .val (.int p3), .val (.int p4), .val (.int p5), .val (.int ((p1 &&& (3 : Int32)) + (1 : Int32))), .unset, .unset, .unset, .unset, .unset, .unset, .unset]) rfl k) ?_
  show own_Go _ _ _ _ s₁ (mkF m 7 #[.val (.int p1), .val (.int p2), .val (.int p3), .val (.int p4), .val (.int p5), .val (.int ((p1 &&& (3 : Int32)) + (1 : Int32))), .unset, .unset, .unset, .unset, .unset, .unset, .unset] [])
  refine own_go (fun _ k => XS.iload X0.here hx rfl (hb hby at_7) rfl k) ?_
  show own_Go _ _ _ _ s₁ (mkF m 9 #[.val (.int p1), .val (.int p2), .val (.int p3), .val (.int p4), .val (.int p5), .val (.int ((p1 &&& (3 : Int32)) + (1 : Int32))), .unset, .unset, .unset, .unset, .unset, .unset, .unset] [(.int ((p1 &&& (3 : Int32)) + (1 : Int32)))])
  have hf := own_four p1
  obtain ⟨nv, hnv⟩ : ∃ z, z = (p1 &&& (3 : Int32)) := ⟨_, rfl⟩
  rw [← hnv] at hf
  rw [← hnv]
  clear hnv
  rcases hf with rfl | rfl | rfl | rfl
  · show own_Go _ _ _ _ s₁ (mkF m 9 #[.val (.int p1), .val (.int p2), .val (.int p3), .val (.int p4), .val (.int p5), .val (.int (1 : Int32)), .unset, .unset, .unset, .unset, .unset, .unset, .unset] [(.int (1 : Int32))])
    obtain ⟨Tz19, hz19, kz19, Xz19, ez19, Ez19, Az19, stz19⟩ := newP X0 hx hZ (hw _ (List.mem_of_getElem? (i := 0) rfl)) e0 (g := (mkF m 9 #[.val (.int p1), .val (.int p2), .val (.int p3), .val (.int p4), .val (.int p5), .val (.int (1 : Int32)), .unset, .unset, .unset, .unset, .unset, .unset, .unset] [(.int (1 : Int32))])) rfl (hb hby at_9) rfl (by decide) (cap := 1) (by decide) (by decide) (by decide) (by decide)
    obtain ⟨b, gz19⟩ : ∃ z, z = h0.size := ⟨_, rfl⟩
    rw [← gz19] at Az19 stz19
    have g_b : n0 ≤ b := by rw [gz19, ← O.1]; exact O.2.1
    have O := O.ext Ez19
    refine own_go stz19 ?_
    have V_b : Arv Z hz19 b kz19 .double (1 : Int32) [(.double (0 : UInt64))] (.double (0 : UInt64)) := (Arv.new Az19 (by decide)).pad (pad_rep [] (.double (0 : UInt64)) 1)
    show own_Go _ _ _ _ Tz19 (mkF m 11 #[.val (.int p1), .val (.int p2), .val (.int p3), .val (.int p4), .val (.int p5), .val (.int (1 : Int32)), .unset, .unset, .unset, .unset, .unset, .unset, .unset] [(.ref b)])
    refine own_go (fun _ k => XS.astore Xz19.here hx rfl (hb hby at_11) rfl rfl (l' := #[.val (.int p1), .val (.int p2), .val (.int p3), .val (.int p4), .val (.int p5), .val (.int (1 : Int32)), .val (.ref b), .unset, .unset, .unset, .unset, .unset, .unset]) rfl k) ?_
    show own_Go _ _ _ _ Tz19 (mkF m 13 #[.val (.int p1), .val (.int p2), .val (.int p3), .val (.int p4), .val (.int p5), .val (.int (1 : Int32)), .val (.ref b), .unset, .unset, .unset, .unset, .unset, .unset] [])
    refine own_go (fun _ k => XS.iloadN Xz19.here hx rfl (hb hby at_13) rfl k) ?_
    show own_Go _ _ _ _ Tz19 (mkF m 14 #[.val (.int p1), .val (.int p2), .val (.int p3), .val (.int p4), .val (.int p5), .val (.int (1 : Int32)), .val (.ref b), .unset, .unset, .unset, .unset, .unset, .unset] [(.int p2)])
    refine own_go (fun _ k => XS.i2l Xz19.here hx rfl (hb hby at_14) rfl k) ?_
    show own_Go _ _ _ _ Tz19 (mkF m 15 #[.val (.int p1), .val (.int p2), .val (.int p3), .val (.int p4), .val (.int p5), .val (.int (1 : Int32)), .val (.ref b), .unset, .unset, .unset, .unset, .unset, .unset] [(.long p2.toInt64)])
    refine own_go (fun _ k => XS.lstore Xz19.here hx rfl (hb hby at_15) rfl (l' := #[.val (.int p1), .val (.int p2), .val (.int p3), .val (.int p4), .val (.int p5), .val (.int (1 : Int32)), .val (.ref b), .val (.long p2.toInt64), .second, .unset, .unset, .unset, .unset]) rfl k) ?_
    show own_Go _ _ _ _ Tz19 (mkF m 17 #[.val (.int p1), .val (.int p2), .val (.int p3), .val (.int p4), .val (.int p5), .val (.int (1 : Int32)), .val (.ref b), .val (.long p2.toInt64), .second, .unset, .unset, .unset, .unset] [])
    refine own_go (fun _ k => XS.aload Xz19.here hx rfl (hb hby at_17) rfl rfl k) ?_
    show own_Go _ _ _ _ Tz19 (mkF m 19 #[.val (.int p1), .val (.int p2), .val (.int p3), .val (.int p4), .val (.int p5), .val (.int (1 : Int32)), .val (.ref b), .val (.long p2.toInt64), .second, .unset, .unset, .unset, .unset] [(.ref b)])
    refine own_go (fun _ k => XS.iconst Xz19.here hx rfl (hb hby at_19) k) ?_
    show own_Go _ _ _ _ Tz19 (mkF m 20 #[.val (.int p1), .val (.int p2), .val (.int p3), .val (.int p4), .val (.int p5), .val (.int (1 : Int32)), .val (.ref b), .val (.long p2.toInt64), .second, .unset, .unset, .unset, .unset] [(.int (0 : Int32)), (.ref b)])
    refine own_go (fun _ k => XS.iloadN Xz19.here hx rfl (hb hby at_20) rfl k) ?_
    show own_Go _ _ _ _ Tz19 (mkF m 21 #[.val (.int p1), .val (.int p2), .val (.int p3), .val (.int p4), .val (.int p5), .val (.int (1 : Int32)), .val (.ref b), .val (.long p2.toInt64), .second, .unset, .unset, .unset, .unset] [(.int p2), (.int (0 : Int32)), (.ref b)])
    refine own_go (fun _ k => XS.i2dS Xz19.here hx rfl (hb hby at_21) rfl (i2d_w p2) k) ?_
    show own_Go _ _ _ _ Tz19 (mkF m 22 #[.val (.int p1), .val (.int p2), .val (.int p3), .val (.int p4), .val (.int p5), .val (.int (1 : Int32)), .val (.ref b), .val (.long p2.toInt64), .second, .unset, .unset, .unset, .unset] [(.double (FP.l2d p2.toInt64)), (.int (0 : Int32)), (.ref b)])
    obtain ⟨clz20, Arz20, qz20, Sz20, Mz20, HHz20, Gz20⟩ := V_b
    have hinz20 : ¬ ((0 : Int32) < 0 ∨ clz20.slots.size ≤ ((0 : Int32)).toNatClampNeg) := inb_of Sz20 ⟨(by decide), (by decide)⟩
    obtain ⟨Tz20, hz20, Xz20, ez20, Wz20, stz20⟩ := stD Xz19 hx hZ ez19 Arz20 (j := (0 : Int32)) hinz20 (g := (mkF m 22 #[.val (.int p1), .val (.int p2), .val (.int p3), .val (.int p4), .val (.int p5), .val (.int (1 : Int32)), .val (.ref b), .val (.long p2.toInt64), .second, .unset, .unset, .unset, .unset] [(.double (FP.l2d p2.toInt64)), (.int (0 : Int32)), (.ref b)])) rfl rfl (hb hby at_22)
    refine own_go stz20 ?_
    have V_b_ : Arv Z hz20 b kz19 .double (1 : Int32) [(.double (FP.l2d p2.toInt64))] (.double (0 : UInt64)) := Arv.set Arz20 qz20 Sz20 Mz20 HHz20 Gz20 rfl Wz20 0 rfl (Nat.le_of_ble_eq_true rfl)
    have Nz20 := Fr.snoc Xz20 N0 g_b
    have O := O.wr Wz20 g_b
    have V_b := V_b_
    show own_Go _ _ _ _ Tz20 (mkF m 23 #[.val (.int p1), .val (.int p2), .val (.int p3), .val (.int p4), .val (.int p5), .val (.int (1 : Int32)), .val (.ref b), .val (.long p2.toInt64), .second, .unset, .unset, .unset, .unset] [])
    refine own_go (fun _ k => XS.iload Xz20.here hx rfl (hb hby at_23) rfl k) ?_
    show own_Go _ _ _ _ Tz20 (mkF m 25 #[.val (.int p1), .val (.int p2), .val (.int p3), .val (.int p4), .val (.int p5), .val (.int (1 : Int32)), .val (.ref b), .val (.long p2.toInt64), .second, .unset, .unset, .unset, .unset] [(.int (1 : Int32))])
    refine own_go (fun _ k => XS.iconst Xz20.here hx rfl (hb hby at_25) k) ?_
    show own_Go _ _ _ _ Tz20 (mkF m 26 #[.val (.int p1), .val (.int p2), .val (.int p3), .val (.int p4), .val (.int p5), .val (.int (1 : Int32)), .val (.ref b), .val (.long p2.toInt64), .second, .unset, .unset, .unset, .unset] [(.int (1 : Int32)), (.int (1 : Int32))])
    refine own_go (fun _ k => XS.icmpYes Xz20.here hx rfl (pc0 := 26) (pc' := 42) rfl (hb hby at_26) rfl (flt (by decide : ¬ ((1 : Int32) < (1 : Int32)))).2.2.2 (by decide) (by decide) k) ?_
    show own_Go _ _ _ _ Tz20 (mkF m 42 #[.val (.int p1), .val (.int p2), .val (.int p3), .val (.int p4), .val (.int p5), .val (.int (1 : Int32)), .val (.ref b), .val (.long p2.toInt64), .second, .unset, .unset, .unset, .unset] [])
    refine own_go (fun _ k => XS.iload Xz20.here hx rfl (hb hby at_42) rfl k) ?_
    show own_Go _ _ _ _ Tz20 (mkF m 44 #[.val (.int p1), .val (.int p2), .val (.int p3), .val (.int p4), .val (.int p5), .val (.int (1 : Int32)), .val (.ref b), .val (.long p2.toInt64), .second, .unset, .unset, .unset, .unset] [(.int (1 : Int32))])
    refine own_go (fun _ k => XS.iconst Xz20.here hx rfl (hb hby at_44) k) ?_
    show own_Go _ _ _ _ Tz20 (mkF m 45 #[.val (.int p1), .val (.int p2), .val (.int p3), .val (.int p4), .val (.int p5), .val (.int (1 : Int32)), .val (.ref b), .val (.long p2.toInt64), .second, .unset, .unset, .unset, .unset] [(.int (2 : Int32)), (.int (1 : Int32))])
    refine own_go (fun _ k => XS.icmpYes Xz20.here hx rfl (pc0 := 45) (pc' := 61) rfl (hb hby at_45) rfl (flt (by decide : ¬ ((2 : Int32) < (1 : Int32)))).2.2.2 (by decide) (by decide) k) ?_
    show own_Go _ _ _ _ Tz20 (mkF m 61 #[.val (.int p1), .val (.int p2), .val (.int p3), .val (.int p4), .val (.int p5), .val (.int (1 : Int32)), .val (.ref b), .val (.long p2.toInt64), .second, .unset, .unset, .unset, .unset] [])
    refine own_go (fun _ k => XS.iload Xz20.here hx rfl (hb hby at_61) rfl k) ?_
    show own_Go _ _ _ _ Tz20 (mkF m 63 #[.val (.int p1), .val (.int p2), .val (.int p3), .val (.int p4), .val (.int p5), .val (.int (1 : Int32)), .val (.ref b), .val (.long p2.toInt64), .second, .unset, .unset, .unset, .unset] [(.int (1 : Int32))])
    refine own_go (fun _ k => XS.iconst Xz20.here hx rfl (hb hby at_63) k) ?_
    show own_Go _ _ _ _ Tz20 (mkF m 64 #[.val (.int p1), .val (.int p2), .val (.int p3), .val (.int p4), .val (.int p5), .val (.int (1 : Int32)), .val (.ref b), .val (.long p2.toInt64), .second, .unset, .unset, .unset, .unset] [(.int (3 : Int32)), (.int (1 : Int32))])
    refine own_go (fun _ k => XS.icmpYes Xz20.here hx rfl (pc0 := 64) (pc' := 82) rfl (hb hby at_64) rfl (flt (by decide : ¬ ((3 : Int32) < (1 : Int32)))).2.2.2 (by decide) (by decide) k) ?_
    show own_Go _ _ _ _ Tz20 (mkF m 82 #[.val (.int p1), .val (.int p2), .val (.int p3), .val (.int p4), .val (.int p5), .val (.int (1 : Int32)), .val (.ref b), .val (.long p2.toInt64), .second, .unset, .unset, .unset, .unset] [])
    refine own_go (fun _ k => XS.lload Xz20.here hx rfl (hb hby at_82) rfl k) ?_
    show own_Go _ _ _ _ Tz20 (mkF m 84 #[.val (.int p1), .val (.int p2), .val (.int p3), .val (.int p4), .val (.int p5), .val (.int (1 : Int32)), .val (.ref b), .val (.long p2.toInt64), .second, .unset, .unset, .unset, .unset] [(.long p2.toInt64)])
    refine own_go (fun _ k => XS.l2dS Xz20.here hx rfl (hb hby at_84) rfl rfl k) ?_
    show own_Go _ _ _ _ Tz20 (mkF m 85 #[.val (.int p1), .val (.int p2), .val (.int p3), .val (.int p4), .val (.int p5), .val (.int (1 : Int32)), .val (.ref b), .val (.long p2.toInt64), .second, .unset, .unset, .unset, .unset] [(.double (FP.l2d p2.toInt64))])
    refine own_go (fun _ k => XS.iload Xz20.here hx rfl (hb hby at_85) rfl k) ?_
    show own_Go _ _ _ _ Tz20 (mkF m 87 #[.val (.int p1), .val (.int p2), .val (.int p3), .val (.int p4), .val (.int p5), .val (.int (1 : Int32)), .val (.ref b), .val (.long p2.toInt64), .second, .unset, .unset, .unset, .unset] [(.int (1 : Int32)), (.double (FP.l2d p2.toInt64))])
    refine own_go (fun _ k => XS.i2dS Xz20.here hx rfl (hb hby at_87) rfl rfl k) ?_
    show own_Go _ _ _ _ Tz20 (mkF m 88 #[.val (.int p1), .val (.int p2), .val (.int p3), .val (.int p4), .val (.int p5), .val (.int (1 : Int32)), .val (.ref b), .val (.long p2.toInt64), .second, .unset, .unset, .unset, .unset] [(.double (FP.i2d (1 : Int32))), (.double (FP.l2d p2.toInt64))])
    rw [← own_s p2]
    have hnn := ddiv_out (l2d_fin ((0 : Int64) + p2.toInt64)).noNaN (i2d_fin (1 : Int32)) (own_nz (1 : Int32) (by decide))
    refine own_go (fun _ k => XS.ddivS Xz20.here hx rfl (hb hby at_88) rfl hnn rfl k) ?_
    show own_Go _ _ _ _ Tz20 (mkF m 89 #[.val (.int p1), .val (.int p2), .val (.int p3), .val (.int p4), .val (.int p5), .val (.int (1 : Int32)), .val (.ref b), .val (.long ((0 : Int64) + p2.toInt64)), .second, .unset, .unset, .unset, .unset] [(.double (FP.ddiv (FP.l2d ((0 : Int64) + p2.toInt64)) (FP.i2d (1 : Int32))))])
    refine own_go (fun _ k => XS.dstore Xz20.here hx rfl (hb hby at_89) rfl (l' := #[.val (.int p1), .val (.int p2), .val (.int p3), .val (.int p4), .val (.int p5), .val (.int (1 : Int32)), .val (.ref b), .val (.long ((0 : Int64) + p2.toInt64)), .second, .val (.double (FP.ddiv (FP.l2d ((0 : Int64) + p2.toInt64)) (FP.i2d (1 : Int32)))), .second, .unset, .unset]) rfl k) ?_
    show own_Go _ _ _ _ Tz20 (mkF m 91 #[.val (.int p1), .val (.int p2), .val (.int p3), .val (.int p4), .val (.int p5), .val (.int (1 : Int32)), .val (.ref b), .val (.long ((0 : Int64) + p2.toInt64)), .second, .val (.double (FP.ddiv (FP.l2d ((0 : Int64) + p2.toInt64)) (FP.i2d (1 : Int32)))), .second, .unset, .unset] [])
    refine own_go (fun _ k => XS.aload Xz20.here hx rfl (hb hby at_91) rfl rfl k) ?_
    show own_Go _ _ _ _ Tz20 (mkF m 93 #[.val (.int p1), .val (.int p2), .val (.int p3), .val (.int p4), .val (.int p5), .val (.int (1 : Int32)), .val (.ref b), .val (.long ((0 : Int64) + p2.toInt64)), .second, .val (.double (FP.ddiv (FP.l2d ((0 : Int64) + p2.toInt64)) (FP.i2d (1 : Int32)))), .second, .unset, .unset] [(.ref b)])
    obtain ⟨vz21, Tz21, Lz21, Xz21, hQz21, stz21⟩ := own_callS Xz20 hx hZ hown (hw _ (List.mem_of_getElem? (i := 1) rfl)) (hw _ (List.mem_of_getElem? (i := 2) rfl)) (hw _ (List.mem_of_getElem? (i := 3) rfl)) (hw _ (List.mem_of_getElem? (i := 4) rfl)) (by decide) ez20 (own_rmm1 l Z a0 hw [] b hz20 n0 p2 kz19 V_b) (W := 0) (by decide) (by decide) (by decide) (by decide) own_pd0 rfl (g := (mkF m 93 #[.val (.int p1), .val (.int p2), .val (.int p3), .val (.int p4), .val (.int p5), .val (.int (1 : Int32)), .val (.ref b), .val (.long ((0 : Int64) + p2.toInt64)), .second, .val (.double (FP.ddiv (FP.l2d ((0 : Int64) + p2.toInt64)) (FP.i2d (1 : Int32)))), .second, .unset, .unset] [(.ref b)])) (argsL := [(.ref b)]) (rest := []) rfl (by rw [hml]; rfl) rfl (by show 2 * 0 + _ ≤ _; exact Nat.le_of_eq rfl) (hb hby at_93)
    obtain ⟨rfl, Nz21q, ehz21⟩ := hQz21
    have Nz21 := Fr.app Nz20 Nz21q
    refine own_go stz21 ?_
    show own_Go _ _ _ _ Tz21 (mkF m 96 #[.val (.int p1), .val (.int p2), .val (.int p3), .val (.int p4), .val (.int p5), .val (.int (1 : Int32)), .val (.ref b), .val (.long ((0 : Int64) + p2.toInt64)), .second, .val (.double (FP.ddiv (FP.l2d ((0 : Int64) + p2.toInt64)) (FP.i2d (1 : Int32)))), .second, .unset, .unset] [(.double (FP.ddiv (FP.l2d ((0 : Int64) + p2.toInt64)) (FP.i2d (1 : Int32))))])
    refine own_go (fun _ k => XS.dstore Xz21.here hx rfl (hb hby at_96) rfl (l' := #[.val (.int p1), .val (.int p2), .val (.int p3), .val (.int p4), .val (.int p5), .val (.int (1 : Int32)), .val (.ref b), .val (.long ((0 : Int64) + p2.toInt64)), .second, .val (.double (FP.ddiv (FP.l2d ((0 : Int64) + p2.toInt64)) (FP.i2d (1 : Int32)))), .second, .val (.double (FP.ddiv (FP.l2d ((0 : Int64) + p2.toInt64)) (FP.i2d (1 : Int32)))), .second]) rfl k) ?_
    show own_Go _ _ _ _ Tz21 (mkF m 98 #[.val (.int p1), .val (.int p2), .val (.int p3), .val (.int p4), .val (.int p5), .val (.int (1 : Int32)), .val (.ref b), .val (.long ((0 : Int64) + p2.toInt64)), .second, .val (.double (FP.ddiv (FP.l2d ((0 : Int64) + p2.toInt64)) (FP.i2d (1 : Int32)))), .second, .val (.double (FP.ddiv (FP.l2d ((0 : Int64) + p2.toInt64)) (FP.i2d (1 : Int32)))), .second] [])
    refine own_go (fun _ k => XS.dload Xz21.here hx rfl (hb hby at_98) rfl k) ?_
    show own_Go _ _ _ _ Tz21 (mkF m 100 #[.val (.int p1), .val (.int p2), .val (.int p3), .val (.int p4), .val (.int p5), .val (.int (1 : Int32)), .val (.ref b), .val (.long ((0 : Int64) + p2.toInt64)), .second, .val (.double (FP.ddiv (FP.l2d ((0 : Int64) + p2.toInt64)) (FP.i2d (1 : Int32)))), .second, .val (.double (FP.ddiv (FP.l2d ((0 : Int64) + p2.toInt64)) (FP.i2d (1 : Int32)))), .second] [(.double (FP.ddiv (FP.l2d ((0 : Int64) + p2.toInt64)) (FP.i2d (1 : Int32))))])
    refine own_go (fun _ k => XS.dload Xz21.here hx rfl (hb hby at_100) rfl k) ?_
    show own_Go _ _ _ _ Tz21 (mkF m 102 #[.val (.int p1), .val (.int p2), .val (.int p3), .val (.int p4), .val (.int p5), .val (.int (1 : Int32)), .val (.ref b), .val (.long ((0 : Int64) + p2.toInt64)), .second, .val (.double (FP.ddiv (FP.l2d ((0 : Int64) + p2.toInt64)) (FP.i2d (1 : Int32)))), .second, .val (.double (FP.ddiv (FP.l2d ((0 : Int64) + p2.toInt64)) (FP.i2d (1 : Int32)))), .second] [(.double (FP.ddiv (FP.l2d ((0 : Int64) + p2.toInt64)) (FP.i2d (1 : Int32)))), (.double (FP.ddiv (FP.l2d ((0 : Int64) + p2.toInt64)) (FP.i2d (1 : Int32))))])
    refine own_go (fun _ k => XS.dcmpS Xz21.here hx rfl (hb hby at_102) rfl (dcmpV_self hnn _) k) ?_
    show own_Go _ _ _ _ Tz21 (mkF m 103 #[.val (.int p1), .val (.int p2), .val (.int p3), .val (.int p4), .val (.int p5), .val (.int (1 : Int32)), .val (.ref b), .val (.long ((0 : Int64) + p2.toInt64)), .second, .val (.double (FP.ddiv (FP.l2d ((0 : Int64) + p2.toInt64)) (FP.i2d (1 : Int32)))), .second, .val (.double (FP.ddiv (FP.l2d ((0 : Int64) + p2.toInt64)) (FP.i2d (1 : Int32)))), .second] [(.int (0 : Int32))])
    refine own_go (fun _ k => XS.ifNo Xz21.here hx rfl (hb hby at_103) rfl ((if0 _ _).trans (teq (by decide : (0 : Int32) = (0 : Int32))).2) k) ?_
    show own_Go _ _ _ _ Tz21 (mkF m 106 #[.val (.int p1), .val (.int p2), .val (.int p3), .val (.int p4), .val (.int p5), .val (.int (1 : Int32)), .val (.ref b), .val (.long ((0 : Int64) + p2.toInt64)), .second, .val (.double (FP.ddiv (FP.l2d ((0 : Int64) + p2.toInt64)) (FP.i2d (1 : Int32)))), .second, .val (.double (FP.ddiv (FP.l2d ((0 : Int64) + p2.toInt64)) (FP.i2d (1 : Int32)))), .second] [])
    refine own_go (fun _ k => XS.iconst Xz21.here hx rfl (hb hby at_106) k) ?_
    show own_Go _ _ _ _ Tz21 (mkF m 107 #[.val (.int p1), .val (.int p2), .val (.int p3), .val (.int p4), .val (.int p5), .val (.int (1 : Int32)), .val (.ref b), .val (.long ((0 : Int64) + p2.toInt64)), .second, .val (.double (FP.ddiv (FP.l2d ((0 : Int64) + p2.toInt64)) (FP.i2d (1 : Int32)))), .second, .val (.double (FP.ddiv (FP.l2d ((0 : Int64) + p2.toInt64)) (FP.i2d (1 : Int32)))), .second] [(.int (1 : Int32))])
    refine own_go (fun _ k => XS.goto Xz21.here hx rfl (pc0 := 107) (pc' := 111) rfl (hb hby at_107) (by decide) (by decide) k) ?_
    show own_Go _ _ _ _ Tz21 (mkF m 111 #[.val (.int p1), .val (.int p2), .val (.int p3), .val (.int p4), .val (.int p5), .val (.int (1 : Int32)), .val (.ref b), .val (.long ((0 : Int64) + p2.toInt64)), .second, .val (.double (FP.ddiv (FP.l2d ((0 : Int64) + p2.toInt64)) (FP.i2d (1 : Int32)))), .second, .val (.double (FP.ddiv (FP.l2d ((0 : Int64) + p2.toInt64)) (FP.i2d (1 : Int32)))), .second] [(.int (1 : Int32))])
    exact own_end Xz21 hlk (v := (some (.int (1 : Int32)))) (fun h => by rw [hret] at h; cases h) (fun fs hr => retN Xz21 hx (t := .boolean) hret (by simp) (hb hby at_111) hr) (by rw [ehz21]; exact ⟨rfl, Nz21⟩) (by decide) (by decide)
  · show own_Go _ _ _ _ s₁ (mkF m 9 #[.val (.int p1), .val (.int p2), .val (.int p3), .val (.int p4), .val (.int p5), .val (.int (2 : Int32)), .unset, .unset, .unset, .unset, .unset, .unset, .unset] [(.int (2 : Int32))])
    obtain ⟨Tz22, hz22, kz22, Xz22, ez22, Ez22, Az22, stz22⟩ := newP X0 hx hZ (hw _ (List.mem_of_getElem? (i := 0) rfl)) e0 (g := (mkF m 9 #[.val (.int p1), .val (.int p2), .val (.int p3), .val (.int p4), .val (.int p5), .val (.int (2 : Int32)), .unset, .unset, .unset, .unset, .unset, .unset, .unset] [(.int (2 : Int32))])) rfl (hb hby at_9) rfl (by decide) (cap := 2) (by decide) (by decide) (by decide) (by decide)
    obtain ⟨b, gz22⟩ : ∃ z, z = h0.size := ⟨_, rfl⟩
    rw [← gz22] at Az22 stz22
    have g_b : n0 ≤ b := by rw [gz22, ← O.1]; exact O.2.1
    have O := O.ext Ez22
    refine own_go stz22 ?_
    have V_b : Arv Z hz22 b kz22 .double (2 : Int32) [(.double (0 : UInt64)), (.double (0 : UInt64))] (.double (0 : UInt64)) := (Arv.new Az22 (by decide)).pad (pad_rep [] (.double (0 : UInt64)) 2)
    show own_Go _ _ _ _ Tz22 (mkF m 11 #[.val (.int p1), .val (.int p2), .val (.int p3), .val (.int p4), .val (.int p5), .val (.int (2 : Int32)), .unset, .unset, .unset, .unset, .unset, .unset, .unset] [(.ref b)])
    refine own_go (fun _ k => XS.astore Xz22.here hx rfl (hb hby at_11) rfl rfl (l' := #[.val (.int p1), .val (.int p2), .val (.int p3), .val (.int p4), .val (.int p5), .val (.int (2 : Int32)), .val (.ref b), .unset, .unset, .unset, .unset, .unset, .unset]) rfl k) ?_
    show own_Go _ _ _ _ Tz22 (mkF m 13 #[.val (.int p1), .val (.int p2), .val (.int p3), .val (.int p4), .val (.int p5), .val (.int (2 : Int32)), .val (.ref b), .unset, .unset, .unset, .unset, .unset, .unset] [])
    refine own_go (fun _ k => XS.iloadN Xz22.here hx rfl (hb hby at_13) rfl k) ?_
    show own_Go _ _ _ _ Tz22 (mkF m 14 #[.val (.int p1), .val (.int p2), .val (.int p3), .val (.int p4), .val (.int p5), .val (.int (2 : Int32)), .val (.ref b), .unset, .unset, .unset, .unset, .unset, .unset] [(.int p2)])
    refine own_go (fun _ k => XS.i2l Xz22.here hx rfl (hb hby at_14) rfl k) ?_
    show own_Go _ _ _ _ Tz22 (mkF m 15 #[.val (.int p1), .val (.int p2), .val (.int p3), .val (.int p4), .val (.int p5), .val (.int (2 : Int32)), .val (.ref b), .unset, .unset, .unset, .unset, .unset, .unset] [(.long p2.toInt64)])
    refine own_go (fun _ k => XS.lstore Xz22.here hx rfl (hb hby at_15) rfl (l' := #[.val (.int p1), .val (.int p2), .val (.int p3), .val (.int p4), .val (.int p5), .val (.int (2 : Int32)), .val (.ref b), .val (.long p2.toInt64), .second, .unset, .unset, .unset, .unset]) rfl k) ?_
    show own_Go _ _ _ _ Tz22 (mkF m 17 #[.val (.int p1), .val (.int p2), .val (.int p3), .val (.int p4), .val (.int p5), .val (.int (2 : Int32)), .val (.ref b), .val (.long p2.toInt64), .second, .unset, .unset, .unset, .unset] [])
    refine own_go (fun _ k => XS.aload Xz22.here hx rfl (hb hby at_17) rfl rfl k) ?_
    show own_Go _ _ _ _ Tz22 (mkF m 19 #[.val (.int p1), .val (.int p2), .val (.int p3), .val (.int p4), .val (.int p5), .val (.int (2 : Int32)), .val (.ref b), .val (.long p2.toInt64), .second, .unset, .unset, .unset, .unset] [(.ref b)])
    refine own_go (fun _ k => XS.iconst Xz22.here hx rfl (hb hby at_19) k) ?_
    show own_Go _ _ _ _ Tz22 (mkF m 20 #[.val (.int p1), .val (.int p2), .val (.int p3), .val (.int p4), .val (.int p5), .val (.int (2 : Int32)), .val (.ref b), .val (.long p2.toInt64), .second, .unset, .unset, .unset, .unset] [(.int (0 : Int32)), (.ref b)])
    refine own_go (fun _ k => XS.iloadN Xz22.here hx rfl (hb hby at_20) rfl k) ?_
    show own_Go _ _ _ _ Tz22 (mkF m 21 #[.val (.int p1), .val (.int p2), .val (.int p3), .val (.int p4), .val (.int p5), .val (.int (2 : Int32)), .val (.ref b), .val (.long p2.toInt64), .second, .unset, .unset, .unset, .unset] [(.int p2), (.int (0 : Int32)), (.ref b)])
    refine own_go (fun _ k => XS.i2dS Xz22.here hx rfl (hb hby at_21) rfl (i2d_w p2) k) ?_
    show own_Go _ _ _ _ Tz22 (mkF m 22 #[.val (.int p1), .val (.int p2), .val (.int p3), .val (.int p4), .val (.int p5), .val (.int (2 : Int32)), .val (.ref b), .val (.long p2.toInt64), .second, .unset, .unset, .unset, .unset] [(.double (FP.l2d p2.toInt64)), (.int (0 : Int32)), (.ref b)])
    obtain ⟨clz23, Arz23, qz23, Sz23, Mz23, HHz23, Gz23⟩ := V_b
    have hinz23 : ¬ ((0 : Int32) < 0 ∨ clz23.slots.size ≤ ((0 : Int32)).toNatClampNeg) := inb_of Sz23 ⟨(by decide), (by decide)⟩
    obtain ⟨Tz23, hz23, Xz23, ez23, Wz23, stz23⟩ := stD Xz22 hx hZ ez22 Arz23 (j := (0 : Int32)) hinz23 (g := (mkF m 22 #[.val (.int p1), .val (.int p2), .val (.int p3), .val (.int p4), .val (.int p5), .val (.int (2 : Int32)), .val (.ref b), .val (.long p2.toInt64), .second, .unset, .unset, .unset, .unset] [(.double (FP.l2d p2.toInt64)), (.int (0 : Int32)), (.ref b)])) rfl rfl (hb hby at_22)
    refine own_go stz23 ?_
    have V_b_ : Arv Z hz23 b kz22 .double (2 : Int32) [(.double (FP.l2d p2.toInt64)), (.double (0 : UInt64))] (.double (0 : UInt64)) := Arv.set Arz23 qz23 Sz23 Mz23 HHz23 Gz23 rfl Wz23 0 rfl (Nat.le_of_ble_eq_true rfl)
    have Nz23 := Fr.snoc Xz23 N0 g_b
    have O := O.wr Wz23 g_b
    have V_b := V_b_
    show own_Go _ _ _ _ Tz23 (mkF m 23 #[.val (.int p1), .val (.int p2), .val (.int p3), .val (.int p4), .val (.int p5), .val (.int (2 : Int32)), .val (.ref b), .val (.long p2.toInt64), .second, .unset, .unset, .unset, .unset] [])
    refine own_go (fun _ k => XS.iload Xz23.here hx rfl (hb hby at_23) rfl k) ?_
    show own_Go _ _ _ _ Tz23 (mkF m 25 #[.val (.int p1), .val (.int p2), .val (.int p3), .val (.int p4), .val (.int p5), .val (.int (2 : Int32)), .val (.ref b), .val (.long p2.toInt64), .second, .unset, .unset, .unset, .unset] [(.int (2 : Int32))])
    refine own_go (fun _ k => XS.iconst Xz23.here hx rfl (hb hby at_25) k) ?_
    show own_Go _ _ _ _ Tz23 (mkF m 26 #[.val (.int p1), .val (.int p2), .val (.int p3), .val (.int p4), .val (.int p5), .val (.int (2 : Int32)), .val (.ref b), .val (.long p2.toInt64), .second, .unset, .unset, .unset, .unset] [(.int (1 : Int32)), (.int (2 : Int32))])
    refine own_go (fun _ k => XS.icmpNo Xz23.here hx rfl (hb hby at_26) rfl (tlt (by decide : (1 : Int32) < (2 : Int32))).2.2.2 k) ?_
    show own_Go _ _ _ _ Tz23 (mkF m 29 #[.val (.int p1), .val (.int p2), .val (.int p3), .val (.int p4), .val (.int p5), .val (.int (2 : Int32)), .val (.ref b), .val (.long p2.toInt64), .second, .unset, .unset, .unset, .unset] [])
    refine own_go (fun _ k => XS.aload Xz23.here hx rfl (hb hby at_29) rfl rfl k) ?_
    show own_Go _ _ _ _ Tz23 (mkF m 31 #[.val (.int p1), .val (.int p2), .val (.int p3), .val (.int p4), .val (.int p5), .val (.int (2 : Int32)), .val (.ref b), .val (.long p2.toInt64), .second, .unset, .unset, .unset, .unset] [(.ref b)])
    refine own_go (fun _ k => XS.iconst Xz23.here hx rfl (hb hby at_31) k) ?_
    show own_Go _ _ _ _ Tz23 (mkF m 32 #[.val (.int p1), .val (.int p2), .val (.int p3), .val (.int p4), .val (.int p5), .val (.int (2 : Int32)), .val (.ref b), .val (.long p2.toInt64), .second, .unset, .unset, .unset, .unset] [(.int (1 : Int32)), (.ref b)])
    refine own_go (fun _ k => XS.iloadN Xz23.here hx rfl (hb hby at_32) rfl k) ?_
    show own_Go _ _ _ _ Tz23 (mkF m 33 #[.val (.int p1), .val (.int p2), .val (.int p3), .val (.int p4), .val (.int p5), .val (.int (2 : Int32)), .val (.ref b), .val (.long p2.toInt64), .second, .unset, .unset, .unset, .unset] [(.int p3), (.int (1 : Int32)), (.ref b)])
    refine own_go (fun _ k => XS.i2dS Xz23.here hx rfl (hb hby at_33) rfl (i2d_w p3) k) ?_
    show own_Go _ _ _ _ Tz23 (mkF m 34 #[.val (.int p1), .val (.int p2), .val (.int p3), .val (.int p4), .val (.int p5), .val (.int (2 : Int32)), .val (.ref b), .val (.long p2.toInt64), .second, .unset, .unset, .unset, .unset] [(.double (FP.l2d p3.toInt64)), (.int (1 : Int32)), (.ref b)])
    obtain ⟨clz24, Arz24, qz24, Sz24, Mz24, HHz24, Gz24⟩ := V_b
    have hinz24 : ¬ ((1 : Int32) < 0 ∨ clz24.slots.size ≤ ((1 : Int32)).toNatClampNeg) := inb_of Sz24 ⟨(by decide), (by decide)⟩
    obtain ⟨Tz24, hz24, Xz24, ez24, Wz24, stz24⟩ := stD Xz23 hx hZ ez23 Arz24 (j := (1 : Int32)) hinz24 (g := (mkF m 34 #[.val (.int p1), .val (.int p2), .val (.int p3), .val (.int p4), .val (.int p5), .val (.int (2 : Int32)), .val (.ref b), .val (.long p2.toInt64), .second, .unset, .unset, .unset, .unset] [(.double (FP.l2d p3.toInt64)), (.int (1 : Int32)), (.ref b)])) rfl rfl (hb hby at_34)
    refine own_go stz24 ?_
    have V_b_ : Arv Z hz24 b kz22 .double (2 : Int32) [(.double (FP.l2d p2.toInt64)), (.double (FP.l2d p3.toInt64))] (.double (0 : UInt64)) := Arv.set Arz24 qz24 Sz24 Mz24 HHz24 Gz24 rfl Wz24 1 rfl (Nat.le_of_ble_eq_true rfl)
    have Nz24 := Fr.snoc Xz24 Nz23 g_b
    have O := O.wr Wz24 g_b
    have V_b := V_b_
    show own_Go _ _ _ _ Tz24 (mkF m 35 #[.val (.int p1), .val (.int p2), .val (.int p3), .val (.int p4), .val (.int p5), .val (.int (2 : Int32)), .val (.ref b), .val (.long p2.toInt64), .second, .unset, .unset, .unset, .unset] [])
    refine own_go (fun _ k => XS.lload Xz24.here hx rfl (hb hby at_35) rfl k) ?_
    show own_Go _ _ _ _ Tz24 (mkF m 37 #[.val (.int p1), .val (.int p2), .val (.int p3), .val (.int p4), .val (.int p5), .val (.int (2 : Int32)), .val (.ref b), .val (.long p2.toInt64), .second, .unset, .unset, .unset, .unset] [(.long p2.toInt64)])
    refine own_go (fun _ k => XS.iloadN Xz24.here hx rfl (hb hby at_37) rfl k) ?_
    show own_Go _ _ _ _ Tz24 (mkF m 38 #[.val (.int p1), .val (.int p2), .val (.int p3), .val (.int p4), .val (.int p5), .val (.int (2 : Int32)), .val (.ref b), .val (.long p2.toInt64), .second, .unset, .unset, .unset, .unset] [(.int p3), (.long p2.toInt64)])
    refine own_go (fun _ k => XS.i2l Xz24.here hx rfl (hb hby at_38) rfl k) ?_
    show own_Go _ _ _ _ Tz24 (mkF m 39 #[.val (.int p1), .val (.int p2), .val (.int p3), .val (.int p4), .val (.int p5), .val (.int (2 : Int32)), .val (.ref b), .val (.long p2.toInt64), .second, .unset, .unset, .unset, .unset] [(.long p3.toInt64), (.long p2.toInt64)])
    refine own_go (fun _ k => XS.ladd Xz24.here hx rfl (hb hby at_39) rfl k) ?_
    show own_Go _ _ _ _ Tz24 (mkF m 40 #[.val (.int p1), .val (.int p2), .val (.int p3), .val (.int p4), .val (.int p5), .val (.int (2 : Int32)), .val (.ref b), .val (.long p2.toInt64), .second, .unset, .unset, .unset, .unset] [(.long (p2.toInt64 + p3.toInt64))])
    refine own_go (fun _ k => XS.lstore Xz24.here hx rfl (hb hby at_40) rfl (l' := #[.val (.int p1), .val (.int p2), .val (.int p3), .val (.int p4), .val (.int p5), .val (.int (2 : Int32)), .val (.ref b), .val (.long (p2.toInt64 + p3.toInt64)), .second, .unset, .unset, .unset, .unset]) rfl k) ?_
    show own_Go _ _ _ _ Tz24 (mkF m 42 #[.val (.int p1), .val (.int p2), .val (.int p3), .val (.int p4), .val (.int p5), .val (.int (2 : Int32)), .val (.ref b), .val (.long (p2.toInt64 + p3.toInt64)), .second, .unset, .unset, .unset, .unset] [])
    refine own_go (fun _ k => XS.iload Xz24.here hx rfl (hb hby at_42) rfl k) ?_
    show own_Go _ _ _ _ Tz24 (mkF m 44 #[.val (.int p1), .val (.int p2), .val (.int p3), .val (.int p4), .val (.int p5), .val (.int (2 : Int32)), .val (.ref b), .val (.long (p2.toInt64 + p3.toInt64)), .second, .unset, .unset, .unset, .unset] [(.int (2 : Int32))])
    refine own_go (fun _ k => XS.iconst Xz24.here hx rfl (hb hby at_44) k) ?_
    show own_Go _ _ _ _ Tz24 (mkF m 45 #[.val (.int p1), .val (.int p2), .val (.int p3), .val (.int p4), .val (.int p5), .val (.int (2 : Int32)), .val (.ref b), .val (.long (p2.toInt64 + p3.toInt64)), .second, .unset, .unset, .unset, .unset] [(.int (2 : Int32)), (.int (2 : Int32))])
    refine own_go (fun _ k => XS.icmpYes Xz24.here hx rfl (pc0 := 45) (pc' := 61) rfl (hb hby at_45) rfl (flt (by decide : ¬ ((2 : Int32) < (2 : Int32)))).2.2.2 (by decide) (by decide) k) ?_
    show own_Go _ _ _ _ Tz24 (mkF m 61 #[.val (.int p1), .val (.int p2), .val (.int p3), .val (.int p4), .val (.int p5), .val (.int (2 : Int32)), .val (.ref b), .val (.long (p2.toInt64 + p3.toInt64)), .second, .unset, .unset, .unset, .unset] [])
    refine own_go (fun _ k => XS.iload Xz24.here hx rfl (hb hby at_61) rfl k) ?_
    show own_Go _ _ _ _ Tz24 (mkF m 63 #[.val (.int p1), .val (.int p2), .val (.int p3), .val (.int p4), .val (.int p5), .val (.int (2 : Int32)), .val (.ref b), .val (.long (p2.toInt64 + p3.toInt64)), .second, .unset, .unset, .unset, .unset] [(.int (2 : Int32))])
    refine own_go (fun _ k => XS.iconst Xz24.here hx rfl (hb hby at_63) k) ?_
    show own_Go _ _ _ _ Tz24 (mkF m 64 #[.val (.int p1), .val (.int p2), .val (.int p3), .val (.int p4), .val (.int p5), .val (.int (2 : Int32)), .val (.ref b), .val (.long (p2.toInt64 + p3.toInt64)), .second, .unset, .unset, .unset, .unset] [(.int (3 : Int32)), (.int (2 : Int32))])
    refine own_go (fun _ k => XS.icmpYes Xz24.here hx rfl (pc0 := 64) (pc' := 82) rfl (hb hby at_64) rfl (flt (by decide : ¬ ((3 : Int32) < (2 : Int32)))).2.2.2 (by decide) (by decide) k) ?_
    show own_Go _ _ _ _ Tz24 (mkF m 82 #[.val (.int p1), .val (.int p2), .val (.int p3), .val (.int p4), .val (.int p5), .val (.int (2 : Int32)), .val (.ref b), .val (.long (p2.toInt64 + p3.toInt64)), .second, .unset, .unset, .unset, .unset] [])
    refine own_go (fun _ k => XS.lload Xz24.here hx rfl (hb hby at_82) rfl k) ?_
    show own_Go _ _ _ _ Tz24 (mkF m 84 #[.val (.int p1), .val (.int p2), .val (.int p3), .val (.int p4), .val (.int p5), .val (.int (2 : Int32)), .val (.ref b), .val (.long (p2.toInt64 + p3.toInt64)), .second, .unset, .unset, .unset, .unset] [(.long (p2.toInt64 + p3.toInt64))])
    refine own_go (fun _ k => XS.l2dS Xz24.here hx rfl (hb hby at_84) rfl rfl k) ?_
    show own_Go _ _ _ _ Tz24 (mkF m 85 #[.val (.int p1), .val (.int p2), .val (.int p3), .val (.int p4), .val (.int p5), .val (.int (2 : Int32)), .val (.ref b), .val (.long (p2.toInt64 + p3.toInt64)), .second, .unset, .unset, .unset, .unset] [(.double (FP.l2d (p2.toInt64 + p3.toInt64)))])
    refine own_go (fun _ k => XS.iload Xz24.here hx rfl (hb hby at_85) rfl k) ?_
    show own_Go _ _ _ _ Tz24 (mkF m 87 #[.val (.int p1), .val (.int p2), .val (.int p3), .val (.int p4), .val (.int p5), .val (.int (2 : Int32)), .val (.ref b), .val (.long (p2.toInt64 + p3.toInt64)), .second, .unset, .unset, .unset, .unset] [(.int (2 : Int32)), (.double (FP.l2d (p2.toInt64 + p3.toInt64)))])
    refine own_go (fun _ k => XS.i2dS Xz24.here hx rfl (hb hby at_87) rfl rfl k) ?_
    show own_Go _ _ _ _ Tz24 (mkF m 88 #[.val (.int p1), .val (.int p2), .val (.int p3), .val (.int p4), .val (.int p5), .val (.int (2 : Int32)), .val (.ref b), .val (.long (p2.toInt64 + p3.toInt64)), .second, .unset, .unset, .unset, .unset] [(.double (FP.i2d (2 : Int32))), (.double (FP.l2d (p2.toInt64 + p3.toInt64)))])
    rw [← own_s p2]
    have hnn := ddiv_out (l2d_fin (((0 : Int64) + p2.toInt64) + p3.toInt64)).noNaN (i2d_fin (2 : Int32)) (own_nz (2 : Int32) (by decide))
    refine own_go (fun _ k => XS.ddivS Xz24.here hx rfl (hb hby at_88) rfl hnn rfl k) ?_
    show own_Go _ _ _ _ Tz24 (mkF m 89 #[.val (.int p1), .val (.int p2), .val (.int p3), .val (.int p4), .val (.int p5), .val (.int (2 : Int32)), .val (.ref b), .val (.long (((0 : Int64) + p2.toInt64) + p3.toInt64)), .second, .unset, .unset, .unset, .unset] [(.double (FP.ddiv (FP.l2d (((0 : Int64) + p2.toInt64) + p3.toInt64)) (FP.i2d (2 : Int32))))])
    refine own_go (fun _ k => XS.dstore Xz24.here hx rfl (hb hby at_89) rfl (l' := #[.val (.int p1), .val (.int p2), .val (.int p3), .val (.int p4), .val (.int p5), .val (.int (2 : Int32)), .val (.ref b), .val (.long (((0 : Int64) + p2.toInt64) + p3.toInt64)), .second, .val (.double (FP.ddiv (FP.l2d (((0 : Int64) + p2.toInt64) + p3.toInt64)) (FP.i2d (2 : Int32)))), .second, .unset, .unset]) rfl k) ?_
    show own_Go _ _ _ _ Tz24 (mkF m 91 #[.val (.int p1), .val (.int p2), .val (.int p3), .val (.int p4), .val (.int p5), .val (.int (2 : Int32)), .val (.ref b), .val (.long (((0 : Int64) + p2.toInt64) + p3.toInt64)), .second, .val (.double (FP.ddiv (FP.l2d (((0 : Int64) + p2.toInt64) + p3.toInt64)) (FP.i2d (2 : Int32)))), .second, .unset, .unset] [])
    refine own_go (fun _ k => XS.aload Xz24.here hx rfl (hb hby at_91) rfl rfl k) ?_
    show own_Go _ _ _ _ Tz24 (mkF m 93 #[.val (.int p1), .val (.int p2), .val (.int p3), .val (.int p4), .val (.int p5), .val (.int (2 : Int32)), .val (.ref b), .val (.long (((0 : Int64) + p2.toInt64) + p3.toInt64)), .second, .val (.double (FP.ddiv (FP.l2d (((0 : Int64) + p2.toInt64) + p3.toInt64)) (FP.i2d (2 : Int32)))), .second, .unset, .unset] [(.ref b)])
    obtain ⟨vz25, Tz25, Lz25, Xz25, hQz25, stz25⟩ := own_callS Xz24 hx hZ hown (hw _ (List.mem_of_getElem? (i := 1) rfl)) (hw _ (List.mem_of_getElem? (i := 2) rfl)) (hw _ (List.mem_of_getElem? (i := 3) rfl)) (hw _ (List.mem_of_getElem? (i := 4) rfl)) (by decide) ez24 (own_rmm2 l Z a0 hw [] b hz24 n0 p2 p3 kz22 V_b) (W := 0) (by decide) (by decide) (by decide) (by decide) own_pd0 rfl (g := (mkF m 93 #[.val (.int p1), .val (.int p2), .val (.int p3), .val (.int p4), .val (.int p5), .val (.int (2 : Int32)), .val (.ref b), .val (.long (((0 : Int64) + p2.toInt64) + p3.toInt64)), .second, .val (.double (FP.ddiv (FP.l2d (((0 : Int64) + p2.toInt64) + p3.toInt64)) (FP.i2d (2 : Int32)))), .second, .unset, .unset] [(.ref b)])) (argsL := [(.ref b)]) (rest := []) rfl (by rw [hml]; rfl) rfl (by show 2 * 0 + _ ≤ _; exact Nat.le_of_eq rfl) (hb hby at_93)
    obtain ⟨rfl, Nz25q, ehz25⟩ := hQz25
    have Nz25 := Fr.app Nz24 Nz25q
    refine own_go stz25 ?_
    show own_Go _ _ _ _ Tz25 (mkF m 96 #[.val (.int p1), .val (.int p2), .val (.int p3), .val (.int p4), .val (.int p5), .val (.int (2 : Int32)), .val (.ref b), .val (.long (((0 : Int64) + p2.toInt64) + p3.toInt64)), .second, .val (.double (FP.ddiv (FP.l2d (((0 : Int64) + p2.toInt64) + p3.toInt64)) (FP.i2d (2 : Int32)))), .second, .unset, .unset] [(.double (FP.ddiv (FP.l2d (((0 : Int64) + p2.toInt64) + p3.toInt64)) (FP.i2d (2 : Int32))))])
    refine own_go (fun _ k => XS.dstore Xz25.here hx rfl (hb hby at_96) rfl (l' := #[.val (.int p1), .val (.int p2), .val (.int p3), .val (.int p4), .val (.int p5), .val (.int (2 : Int32)), .val (.ref b), .val (.long (((0 : Int64) + p2.toInt64) + p3.toInt64)), .second, .val (.double (FP.ddiv (FP.l2d (((0 : Int64) + p2.toInt64) + p3.toInt64)) (FP.i2d (2 : Int32)))), .second, .val (.double (FP.ddiv (FP.l2d (((0 : Int64) + p2.toInt64) + p3.toInt64)) (FP.i2d (2 : Int32)))), .second]) rfl k) ?_
    show own_Go _ _ _ _ Tz25 (mkF m 98 #[.val (.int p1), .val (.int p2), .val (.int p3), .val (.int p4), .val (.int p5), .val (.int (2 : Int32)), .val (.ref b), .val (.long (((0 : Int64) + p2.toInt64) + p3.toInt64)), .second, .val (.double (FP.ddiv (FP.l2d (((0 : Int64) + p2.toInt64) + p3.toInt64)) (FP.i2d (2 : Int32)))), .second, .val (.double (FP.ddiv (FP.l2d (((0 : Int64) + p2.toInt64) + p3.toInt64)) (FP.i2d (2 : Int32)))), .second] [])
    refine own_go (fun _ k => XS.dload Xz25.here hx rfl (hb hby at_98) rfl k) ?_
    show own_Go _ _ _ _ Tz25 (mkF m 100 #[.val (.int p1), .val (.int p2), .val (.int p3), .val (.int p4), .val (.int p5), .val (.int (2 : Int32)), .val (.ref b), .val (.long (((0 : Int64) + p2.toInt64) + p3.toInt64)), .second, .val (.double (FP.ddiv (FP.l2d (((0 : Int64) + p2.toInt64) + p3.toInt64)) (FP.i2d (2 : Int32)))), .second, .val (.double (FP.ddiv (FP.l2d (((0 : Int64) + p2.toInt64) + p3.toInt64)) (FP.i2d (2 : Int32)))), .second] [(.double (FP.ddiv (FP.l2d (((0 : Int64) + p2.toInt64) + p3.toInt64)) (FP.i2d (2 : Int32))))])
    refine own_go (fun _ k => XS.dload Xz25.here hx rfl (hb hby at_100) rfl k) ?_
    show own_Go _ _ _ _ Tz25 (mkF m 102 #[.val (.int p1), .val (.int p2), .val (.int p3), .val (.int p4), .val (.int p5), .val (.int (2 : Int32)), .val (.ref b), .val (.long (((0 : Int64) + p2.toInt64) + p3.toInt64)), .second, .val (.double (FP.ddiv (FP.l2d (((0 : Int64) + p2.toInt64) + p3.toInt64)) (FP.i2d (2 : Int32)))), .second, .val (.double (FP.ddiv (FP.l2d (((0 : Int64) + p2.toInt64) + p3.toInt64)) (FP.i2d (2 : Int32)))), .second] [(.double (FP.ddiv (FP.l2d (((0 : Int64) + p2.toInt64) + p3.toInt64)) (FP.i2d (2 : Int32)))), (.double (FP.ddiv (FP.l2d (((0 : Int64) + p2.toInt64) + p3.toInt64)) (FP.i2d (2 : Int32))))])
    refine own_go (fun _ k => XS.dcmpS Xz25.here hx rfl (hb hby at_102) rfl (dcmpV_self hnn _) k) ?_
    show own_Go _ _ _ _ Tz25 (mkF m 103 #[.val (.int p1), .val (.int p2), .val (.int p3), .val (.int p4), .val (.int p5), .val (.int (2 : Int32)), .val (.ref b), .val (.long (((0 : Int64) + p2.toInt64) + p3.toInt64)), .second, .val (.double (FP.ddiv (FP.l2d (((0 : Int64) + p2.toInt64) + p3.toInt64)) (FP.i2d (2 : Int32)))), .second, .val (.double (FP.ddiv (FP.l2d (((0 : Int64) + p2.toInt64) + p3.toInt64)) (FP.i2d (2 : Int32)))), .second] [(.int (0 : Int32))])
    refine own_go (fun _ k => XS.ifNo Xz25.here hx rfl (hb hby at_103) rfl ((if0 _ _).trans (teq (by decide : (0 : Int32) = (0 : Int32))).2) k) ?_
    show own_Go _ _ _ _ Tz25 (mkF m 106 #[.val (.int p1), .val (.int p2), .val (.int p3), .val (.int p4), .val (.int p5), .val (.int (2 : Int32)), .val (.ref b), .val (.long (((0 : Int64) + p2.toInt64) + p3.toInt64)), .second, .val (.double (FP.ddiv (FP.l2d (((0 : Int64) + p2.toInt64) + p3.toInt64)) (FP.i2d (2 : Int32)))), .second, .val (.double (FP.ddiv (FP.l2d (((0 : Int64) + p2.toInt64) + p3.toInt64)) (FP.i2d (2 : Int32)))), .second] [])
    refine own_go (fun _ k => XS.iconst Xz25.here hx rfl (hb hby at_106) k) ?_
    show own_Go _ _ _ _ Tz25 (mkF m 107 #[.val (.int p1), .val (.int p2), .val (.int p3), .val (.int p4), .val (.int p5), .val (.int (2 : Int32)), .val (.ref b), .val (.long (((0 : Int64) + p2.toInt64) + p3.toInt64)), .second, .val (.double (FP.ddiv (FP.l2d (((0 : Int64) + p2.toInt64) + p3.toInt64)) (FP.i2d (2 : Int32)))), .second, .val (.double (FP.ddiv (FP.l2d (((0 : Int64) + p2.toInt64) + p3.toInt64)) (FP.i2d (2 : Int32)))), .second] [(.int (1 : Int32))])
    refine own_go (fun _ k => XS.goto Xz25.here hx rfl (pc0 := 107) (pc' := 111) rfl (hb hby at_107) (by decide) (by decide) k) ?_
    show own_Go _ _ _ _ Tz25 (mkF m 111 #[.val (.int p1), .val (.int p2), .val (.int p3), .val (.int p4), .val (.int p5), .val (.int (2 : Int32)), .val (.ref b), .val (.long (((0 : Int64) + p2.toInt64) + p3.toInt64)), .second, .val (.double (FP.ddiv (FP.l2d (((0 : Int64) + p2.toInt64) + p3.toInt64)) (FP.i2d (2 : Int32)))), .second, .val (.double (FP.ddiv (FP.l2d (((0 : Int64) + p2.toInt64) + p3.toInt64)) (FP.i2d (2 : Int32)))), .second] [(.int (1 : Int32))])
    exact own_end Xz25 hlk (v := (some (.int (1 : Int32)))) (fun h => by rw [hret] at h; cases h) (fun fs hr => retN Xz25 hx (t := .boolean) hret (by simp) (hb hby at_111) hr) (by rw [ehz25]; exact ⟨rfl, Nz25⟩) (by decide) (by decide)
  · show own_Go _ _ _ _ s₁ (mkF m 9 #[.val (.int p1), .val (.int p2), .val (.int p3), .val (.int p4), .val (.int p5), .val (.int (3 : Int32)), .unset, .unset, .unset, .unset, .unset, .unset, .unset] [(.int (3 : Int32))])
    obtain ⟨Tz26, hz26, kz26, Xz26, ez26, Ez26, Az26, stz26⟩ := newP X0 hx hZ (hw _ (List.mem_of_getElem? (i := 0) rfl)) e0 (g := (mkF m 9 #[.val (.int p1), .val (.int p2), .val (.int p3), .val (.int p4), .val (.int p5), .val (.int (3 : Int32)), .unset, .unset, .unset, .unset, .unset, .unset, .unset] [(.int (3 : Int32))])) rfl (hb hby at_9) rfl (by decide) (cap := 3) (by decide) (by decide) (by decide) (by decide)
    obtain ⟨b, gz26⟩ : ∃ z, z = h0.size := ⟨_, rfl⟩
    rw [← gz26] at Az26 stz26
    have g_b : n0 ≤ b := by rw [gz26, ← O.1]; exact O.2.1
    have O := O.ext Ez26
    refine own_go stz26 ?_
    have V_b : Arv Z hz26 b kz26 .double (3 : Int32) [(.double (0 : UInt64)), (.double (0 : UInt64)), (.double (0 : UInt64))] (.double (0 : UInt64)) := (Arv.new Az26 (by decide)).pad (pad_rep [] (.double (0 : UInt64)) 3)
    show own_Go _ _ _ _ Tz26 (mkF m 11 #[.val (.int p1), .val (.int p2), .val (.int p3), .val (.int p4), .val (.int p5), .val (.int (3 : Int32)), .unset, .unset, .unset, .unset, .unset, .unset, .unset] [(.ref b)])
    refine own_go (fun _ k => XS.astore Xz26.here hx rfl (hb hby at_11) rfl rfl (l' := #[.val (.int p1), .val (.int p2), .val (.int p3), .val (.int p4), .val (.int p5), .val (.int (3 : Int32)), .val (.ref b), .unset, .unset, .unset, .unset, .unset, .unset]) rfl k) ?_
    show own_Go _ _ _ _ Tz26 (mkF m 13 #[.val (.int p1), .val (.int p2), .val (.int p3), .val (.int p4), .val (.int p5), .val (.int (3 : Int32)), .val (.ref b), .unset, .unset, .unset, .unset, .unset, .unset] [])
    refine own_go (fun _ k => XS.iloadN Xz26.here hx rfl (hb hby at_13) rfl k) ?_
    show own_Go _ _ _ _ Tz26 (mkF m 14 #[.val (.int p1), .val (.int p2), .val (.int p3), .val (.int p4), .val (.int p5), .val (.int (3 : Int32)), .val (.ref b), .unset, .unset, .unset, .unset, .unset, .unset] [(.int p2)])
    refine own_go (fun _ k => XS.i2l Xz26.here hx rfl (hb hby at_14) rfl k) ?_
    show own_Go _ _ _ _ Tz26 (mkF m 15 #[.val (.int p1), .val (.int p2), .val (.int p3), .val (.int p4), .val (.int p5), .val (.int (3 : Int32)), .val (.ref b), .unset, .unset, .unset, .unset, .unset, .unset] [(.long p2.toInt64)])
    refine own_go (fun _ k => XS.lstore Xz26.here hx rfl (hb hby at_15) rfl (l' := #[.val (.int p1), .val (.int p2), .val (.int p3), .val (.int p4), .val (.int p5), .val (.int (3 : Int32)), .val (.ref b), .val (.long p2.toInt64), .second, .unset, .unset, .unset, .unset]) rfl k) ?_
    show own_Go _ _ _ _ Tz26 (mkF m 17 #[.val (.int p1), .val (.int p2), .val (.int p3), .val (.int p4), .val (.int p5), .val (.int (3 : Int32)), .val (.ref b), .val (.long p2.toInt64), .second, .unset, .unset, .unset, .unset] [])
    refine own_go (fun _ k => XS.aload Xz26.here hx rfl (hb hby at_17) rfl rfl k) ?_
    show own_Go _ _ _ _ Tz26 (mkF m 19 #[.val (.int p1), .val (.int p2), .val (.int p3), .val (.int p4), .val (.int p5), .val (.int (3 : Int32)), .val (.ref b), .val (.long p2.toInt64), .second, .unset, .unset, .unset, .unset] [(.ref b)])
    refine own_go (fun _ k => XS.iconst Xz26.here hx rfl (hb hby at_19) k) ?_
    show own_Go _ _ _ _ Tz26 (mkF m 20 #[.val (.int p1), .val (.int p2), .val (.int p3), .val (.int p4), .val (.int p5), .val (.int (3 : Int32)), .val (.ref b), .val (.long p2.toInt64), .second, .unset, .unset, .unset, .unset] [(.int (0 : Int32)), (.ref b)])
    refine own_go (fun _ k => XS.iloadN Xz26.here hx rfl (hb hby at_20) rfl k) ?_
    show own_Go _ _ _ _ Tz26 (mkF m 21 #[.val (.int p1), .val (.int p2), .val (.int p3), .val (.int p4), .val (.int p5), .val (.int (3 : Int32)), .val (.ref b), .val (.long p2.toInt64), .second, .unset, .unset, .unset, .unset] [(.int p2), (.int (0 : Int32)), (.ref b)])
    refine own_go (fun _ k => XS.i2dS Xz26.here hx rfl (hb hby at_21) rfl (i2d_w p2) k) ?_
    show own_Go _ _ _ _ Tz26 (mkF m 22 #[.val (.int p1), .val (.int p2), .val (.int p3), .val (.int p4), .val (.int p5), .val (.int (3 : Int32)), .val (.ref b), .val (.long p2.toInt64), .second, .unset, .unset, .unset, .unset] [(.double (FP.l2d p2.toInt64)), (.int (0 : Int32)), (.ref b)])
    obtain ⟨clz27, Arz27, qz27, Sz27, Mz27, HHz27, Gz27⟩ := V_b
    have hinz27 : ¬ ((0 : Int32) < 0 ∨ clz27.slots.size ≤ ((0 : Int32)).toNatClampNeg) := inb_of Sz27 ⟨(by decide), (by decide)⟩
    obtain ⟨Tz27, hz27, Xz27, ez27, Wz27, stz27⟩ := stD Xz26 hx hZ ez26 Arz27 (j := (0 : Int32)) hinz27 (g := (mkF m 22 #[.val (.int p1), .val (.int p2), .val (.int p3), .val (.int p4), .val (.int p5), .val (.int (3 : Int32)), .val (.ref b), .val (.long p2.toInt64), .second, .unset, .unset, .unset, .unset] [(.double (FP.l2d p2.toInt64)), (.int (0 : Int32)), (.ref b)])) rfl rfl (hb hby at_22)
    refine own_go stz27 ?_
    have V_b_ : Arv Z hz27 b kz26 .double (3 : Int32) [(.double (FP.l2d p2.toInt64)), (.double (0 : UInt64)), (.double (0 : UInt64))] (.double (0 : UInt64)) := Arv.set Arz27 qz27 Sz27 Mz27 HHz27 Gz27 rfl Wz27 0 rfl (Nat.le_of_ble_eq_true rfl)
    have Nz27 := Fr.snoc Xz27 N0 g_b
    have O := O.wr Wz27 g_b
    have V_b := V_b_
    show own_Go _ _ _ _ Tz27 (mkF m 23 #[.val (.int p1), .val (.int p2), .val (.int p3), .val (.int p4), .val (.int p5), .val (.int (3 : Int32)), .val (.ref b), .val (.long p2.toInt64), .second, .unset, .unset, .unset, .unset] [])
    refine own_go (fun _ k => XS.iload Xz27.here hx rfl (hb hby at_23) rfl k) ?_
    show own_Go _ _ _ _ Tz27 (mkF m 25 #[.val (.int p1), .val (.int p2), .val (.int p3), .val (.int p4), .val (.int p5), .val (.int (3 : Int32)), .val (.ref b), .val (.long p2.toInt64), .second, .unset, .unset, .unset, .unset] [(.int (3 : Int32))])
    refine own_go (fun _ k => XS.iconst Xz27.here hx rfl (hb hby at_25) k) ?_
    show own_Go _ _ _ _ Tz27 (mkF m 26 #[.val (.int p1), .val (.int p2), .val (.int p3), .val (.int p4), .val (.int p5), .val (.int (3 : Int32)), .val (.ref b), .val (.long p2.toInt64), .second, .unset, .unset, .unset, .unset] [(.int (1 : Int32)), (.int (3 : Int32))])
    refine own_go (fun _ k => XS.icmpNo Xz27.here hx rfl (hb hby at_26) rfl (tlt (by decide : (1 : Int32) < (3 : Int32))).2.2.2 k) ?_
    show own_Go _ _ _ _ Tz27 (mkF m 29 #[.val (.int p1), .val (.int p2), .val (.int p3), .val (.int p4), .val (.int p5), .val (.int (3 : Int32)), .val (.ref b), .val (.long p2.toInt64), .second, .unset, .unset, .unset, .unset] [])
    refine own_go (fun _ k => XS.aload Xz27.here hx rfl (hb hby at_29) rfl rfl k) ?_
    show own_Go _ _ _ _ Tz27 (mkF m 31 #[.val (.int p1), .val (.int p2), .val (.int p3), .val (.int p4), .val (.int p5), .val (.int (3 : Int32)), .val (.ref b), .val (.long p2.toInt64), .second, .unset, .unset, .unset, .unset] [(.ref b)])
    refine own_go (fun _ k => XS.iconst Xz27.here hx rfl (hb hby at_31) k) ?_
    show own_Go _ _ _ _ Tz27 (mkF m 32 #[.val (.int p1), .val (.int p2), .val (.int p3), .val (.int p4), .val (.int p5), .val (.int (3 : Int32)), .val (.ref b), .val (.long p2.toInt64), .second, .unset, .unset, .unset, .unset] [(.int (1 : Int32)), (.ref b)])
    refine own_go (fun _ k => XS.iloadN Xz27.here hx rfl (hb hby at_32) rfl k) ?_
    show own_Go _ _ _ _ Tz27 (mkF m 33 #[.val (.int p1), .val (.int p2), .val (.int p3), .val (.int p4), .val (.int p5), .val (.int (3 : Int32)), .val (.ref b), .val (.long p2.toInt64), .second, .unset, .unset, .unset, .unset] [(.int p3), (.int (1 : Int32)), (.ref b)])
    refine own_go (fun _ k => XS.i2dS Xz27.here hx rfl (hb hby at_33) rfl (i2d_w p3) k) ?_
    show own_Go _ _ _ _ Tz27 (mkF m 34 #[.val (.int p1), .val (.int p2), .val (.int p3), .val (.int p4), .val (.int p5), .val (.int (3 : Int32)), .val (.ref b), .val (.long p2.toInt64), .second, .unset, .unset, .unset, .unset] [(.double (FP.l2d p3.toInt64)), (.int (1 : Int32)), (.ref b)])
    obtain ⟨clz28, Arz28, qz28, Sz28, Mz28, HHz28, Gz28⟩ := V_b
    have hinz28 : ¬ ((1 : Int32) < 0 ∨ clz28.slots.size ≤ ((1 : Int32)).toNatClampNeg) := inb_of Sz28 ⟨(by decide), (by decide)⟩
    obtain ⟨Tz28, hz28, Xz28, ez28, Wz28, stz28⟩ := stD Xz27 hx hZ ez27 Arz28 (j := (1 : Int32)) hinz28 (g := (mkF m 34 #[.val (.int p1), .val (.int p2), .val (.int p3), .val (.int p4), .val (.int p5), .val (.int (3 : Int32)), .val (.ref b), .val (.long p2.toInt64), .second, .unset, .unset, .unset, .unset] [(.double (FP.l2d p3.toInt64)), (.int (1 : Int32)), (.ref b)])) rfl rfl (hb hby at_34)
    refine own_go stz28 ?_
    have V_b_ : Arv Z hz28 b kz26 .double (3 : Int32) [(.double (FP.l2d p2.toInt64)), (.double (FP.l2d p3.toInt64)), (.double (0 : UInt64))] (.double (0 : UInt64)) := Arv.set Arz28 qz28 Sz28 Mz28 HHz28 Gz28 rfl Wz28 1 rfl (Nat.le_of_ble_eq_true rfl)
    have Nz28 := Fr.snoc Xz28 Nz27 g_b
    have O := O.wr Wz28 g_b
    have V_b := V_b_
    show own_Go _ _ _ _ Tz28 (mkF m 35 #[.val (.int p1), .val (.int p2), .val (.int p3), .val (.int p4), .val (.int p5), .val (.int (3 : Int32)), .val (.ref b), .val (.long p2.toInt64), .second, .unset, .unset, .unset, .unset] [])
    refine own_go (fun _ k => XS.lload Xz28.here hx rfl (hb hby at_35) rfl k) ?_
    show own_Go _ _ _ _ Tz28 (mkF m 37 #[.val (.int p1), .val (.int p2), .val (.int p3), .val (.int p4), .val (.int p5), .val (.int (3 : Int32)), .val (.ref b), .val (.long p2.toInt64), .second, .unset, .unset, .unset, .unset] [(.long p2.toInt64)])
    refine own_go (fun _ k => XS.iloadN Xz28.here hx rfl (hb hby at_37) rfl k) ?_
    show own_Go _ _ _ _ Tz28 (mkF m 38 #[.val (.int p1), .val (.int p2), .val (.int p3), .val (.int p4), .val (.int p5), .val (.int (3 : Int32)), .val (.ref b), .val (.long p2.toInt64), .second, .unset, .unset, .unset, .unset] [(.int p3), (.long p2.toInt64)])
    refine own_go (fun _ k => XS.i2l Xz28.here hx rfl (hb hby at_38) rfl k) ?_
    show own_Go _ _ _ _ Tz28 (mkF m 39 #[.val (.int p1), .val (.int p2), .val (.int p3), .val (.int p4), .val (.int p5), .val (.int (3 : Int32)), .val (.ref b), .val (.long p2.toInt64), .second, .unset, .unset, .unset, .unset] [(.long p3.toInt64), (.long p2.toInt64)])
    refine own_go (fun _ k => XS.ladd Xz28.here hx rfl (hb hby at_39) rfl k) ?_
    show own_Go _ _ _ _ Tz28 (mkF m 40 #[.val (.int p1), .val (.int p2), .val (.int p3), .val (.int p4), .val (.int p5), .val (.int (3 : Int32)), .val (.ref b), .val (.long p2.toInt64), .second, .unset, .unset, .unset, .unset] [(.long (p2.toInt64 + p3.toInt64))])
    refine own_go (fun _ k => XS.lstore Xz28.here hx rfl (hb hby at_40) rfl (l' := #[.val (.int p1), .val (.int p2), .val (.int p3), .val (.int p4), .val (.int p5), .val (.int (3 : Int32)), .val (.ref b), .val (.long (p2.toInt64 + p3.toInt64)), .second, .unset, .unset, .unset, .unset]) rfl k) ?_
    show own_Go _ _ _ _ Tz28 (mkF m 42 #[.val (.int p1), .val (.int p2), .val (.int p3), .val (.int p4), .val (.int p5), .val (.int (3 : Int32)), .val (.ref b), .val (.long (p2.toInt64 + p3.toInt64)), .second, .unset, .unset, .unset, .unset] [])
    refine own_go (fun _ k => XS.iload Xz28.here hx rfl (hb hby at_42) rfl k) ?_
    show own_Go _ _ _ _ Tz28 (mkF m 44 #[.val (.int p1), .val (.int p2), .val (.int p3), .val (.int p4), .val (.int p5), .val (.int (3 : Int32)), .val (.ref b), .val (.long (p2.toInt64 + p3.toInt64)), .second, .unset, .unset, .unset, .unset] [(.int (3 : Int32))])
    refine own_go (fun _ k => XS.iconst Xz28.here hx rfl (hb hby at_44) k) ?_
    show own_Go _ _ _ _ Tz28 (mkF m 45 #[.val (.int p1), .val (.int p2), .val (.int p3), .val (.int p4), .val (.int p5), .val (.int (3 : Int32)), .val (.ref b), .val (.long (p2.toInt64 + p3.toInt64)), .second, .unset, .unset, .unset, .unset] [(.int (2 : Int32)), (.int (3 : Int32))])
    refine own_go (fun _ k => XS.icmpNo Xz28.here hx rfl (hb hby at_45) rfl (tlt (by decide : (2 : Int32) < (3 : Int32))).2.2.2 k) ?_
    show own_Go _ _ _ _ Tz28 (mkF m 48 #[.val (.int p1), .val (.int p2), .val (.int p3), .val (.int p4), .val (.int p5), .val (.int (3 : Int32)), .val (.ref b), .val (.long (p2.toInt64 + p3.toInt64)), .second, .unset, .unset, .unset, .unset] [])
    refine own_go (fun _ k => XS.aload Xz28.here hx rfl (hb hby at_48) rfl rfl k) ?_
    show own_Go _ _ _ _ Tz28 (mkF m 50 #[.val (.int p1), .val (.int p2), .val (.int p3), .val (.int p4), .val (.int p5), .val (.int (3 : Int32)), .val (.ref b), .val (.long (p2.toInt64 + p3.toInt64)), .second, .unset, .unset, .unset, .unset] [(.ref b)])
    refine own_go (fun _ k => XS.iconst Xz28.here hx rfl (hb hby at_50) k) ?_
    show own_Go _ _ _ _ Tz28 (mkF m 51 #[.val (.int p1), .val (.int p2), .val (.int p3), .val (.int p4), .val (.int p5), .val (.int (3 : Int32)), .val (.ref b), .val (.long (p2.toInt64 + p3.toInt64)), .second, .unset, .unset, .unset, .unset] [(.int (2 : Int32)), (.ref b)])
    refine own_go (fun _ k => XS.iloadN Xz28.here hx rfl (hb hby at_51) rfl k) ?_
    show own_Go _ _ _ _ Tz28 (mkF m 52 #[.val (.int p1), .val (.int p2), .val (.int p3), .val (.int p4), .val (.int p5), .val (.int (3 : Int32)), .val (.ref b), .val (.long (p2.toInt64 + p3.toInt64)), .second, .unset, .unset, .unset, .unset] [(.int p4), (.int (2 : Int32)), (.ref b)])
    refine own_go (fun _ k => XS.i2dS Xz28.here hx rfl (hb hby at_52) rfl (i2d_w p4) k) ?_
    show own_Go _ _ _ _ Tz28 (mkF m 53 #[.val (.int p1), .val (.int p2), .val (.int p3), .val (.int p4), .val (.int p5), .val (.int (3 : Int32)), .val (.ref b), .val (.long (p2.toInt64 + p3.toInt64)), .second, .unset, .unset, .unset, .unset] [(.double (FP.l2d p4.toInt64)), (.int (2 : Int32)), (.ref b)])
    obtain ⟨clz29, Arz29, qz29, Sz29, Mz29, HHz29, Gz29⟩ := V_b
    have hinz29 : ¬ ((2 : Int32) < 0 ∨ clz29.slots.size ≤ ((2 : Int32)).toNatClampNeg) := inb_of Sz29 ⟨(by decide), (by decide)⟩
    obtain ⟨Tz29, hz29, Xz29, ez29, Wz29, stz29⟩ := stD Xz28 hx hZ ez28 Arz29 (j := (2 : Int32)) hinz29 (g := (mkF m 53 #[.val (.int p1), .val (.int p2), .val (.int p3), .val (.int p4), .val (.int p5), .val (.int (3 : Int32)), .val (.ref b), .val (.long (p2.toInt64 + p3.toInt64)), .second, .unset, .unset, .unset, .unset] [(.double (FP.l2d p4.toInt64)), (.int (2 : Int32)), (.ref b)])) rfl rfl (hb hby at_53)
    refine own_go stz29 ?_
    have V_b_ : Arv Z hz29 b kz26 .double (3 : Int32) [(.double (FP.l2d p2.toInt64)), (.double (FP.l2d p3.toInt64)), (.double (FP.l2d p4.toInt64))] (.double (0 : UInt64)) := Arv.set Arz29 qz29 Sz29 Mz29 HHz29 Gz29 rfl Wz29 2 rfl (Nat.le_of_ble_eq_true rfl)
    have Nz29 := Fr.snoc Xz29 Nz28 g_b
    have O := O.wr Wz29 g_b
    have V_b := V_b_
    show own_Go _ _ _ _ Tz29 (mkF m 54 #[.val (.int p1), .val (.int p2), .val (.int p3), .val (.int p4), .val (.int p5), .val (.int (3 : Int32)), .val (.ref b), .val (.long (p2.toInt64 + p3.toInt64)), .second, .unset, .unset, .unset, .unset] [])
    refine own_go (fun _ k => XS.lload Xz29.here hx rfl (hb hby at_54) rfl k) ?_
    show own_Go _ _ _ _ Tz29 (mkF m 56 #[.val (.int p1), .val (.int p2), .val (.int p3), .val (.int p4), .val (.int p5), .val (.int (3 : Int32)), .val (.ref b), .val (.long (p2.toInt64 + p3.toInt64)), .second, .unset, .unset, .unset, .unset] [(.long (p2.toInt64 + p3.toInt64))])
    refine own_go (fun _ k => XS.iloadN Xz29.here hx rfl (hb hby at_56) rfl k) ?_
    show own_Go _ _ _ _ Tz29 (mkF m 57 #[.val (.int p1), .val (.int p2), .val (.int p3), .val (.int p4), .val (.int p5), .val (.int (3 : Int32)), .val (.ref b), .val (.long (p2.toInt64 + p3.toInt64)), .second, .unset, .unset, .unset, .unset] [(.int p4), (.long (p2.toInt64 + p3.toInt64))])
    refine own_go (fun _ k => XS.i2l Xz29.here hx rfl (hb hby at_57) rfl k) ?_
    show own_Go _ _ _ _ Tz29 (mkF m 58 #[.val (.int p1), .val (.int p2), .val (.int p3), .val (.int p4), .val (.int p5), .val (.int (3 : Int32)), .val (.ref b), .val (.long (p2.toInt64 + p3.toInt64)), .second, .unset, .unset, .unset, .unset] [(.long p4.toInt64), (.long (p2.toInt64 + p3.toInt64))])
    refine own_go (fun _ k => XS.ladd Xz29.here hx rfl (hb hby at_58) rfl k) ?_
    show own_Go _ _ _ _ Tz29 (mkF m 59 #[.val (.int p1), .val (.int p2), .val (.int p3), .val (.int p4), .val (.int p5), .val (.int (3 : Int32)), .val (.ref b), .val (.long (p2.toInt64 + p3.toInt64)), .second, .unset, .unset, .unset, .unset] [(.long ((p2.toInt64 + p3.toInt64) + p4.toInt64))])
    refine own_go (fun _ k => XS.lstore Xz29.here hx rfl (hb hby at_59) rfl (l' := #[.val (.int p1), .val (.int p2), .val (.int p3), .val (.int p4), .val (.int p5), .val (.int (3 : Int32)), .val (.ref b), .val (.long ((p2.toInt64 + p3.toInt64) + p4.toInt64)), .second, .unset, .unset, .unset, .unset]) rfl k) ?_
    show own_Go _ _ _ _ Tz29 (mkF m 61 #[.val (.int p1), .val (.int p2), .val (.int p3), .val (.int p4), .val (.int p5), .val (.int (3 : Int32)), .val (.ref b), .val (.long ((p2.toInt64 + p3.toInt64) + p4.toInt64)), .second, .unset, .unset, .unset, .unset] [])
    refine own_go (fun _ k => XS.iload Xz29.here hx rfl (hb hby at_61) rfl k) ?_
    show own_Go _ _ _ _ Tz29 (mkF m 63 #[.val (.int p1), .val (.int p2), .val (.int p3), .val (.int p4), .val (.int p5), .val (.int (3 : Int32)), .val (.ref b), .val (.long ((p2.toInt64 + p3.toInt64) + p4.toInt64)), .second, .unset, .unset, .unset, .unset] [(.int (3 : Int32))])
    refine own_go (fun _ k => XS.iconst Xz29.here hx rfl (hb hby at_63) k) ?_
    show own_Go _ _ _ _ Tz29 (mkF m 64 #[.val (.int p1), .val (.int p2), .val (.int p3), .val (.int p4), .val (.int p5), .val (.int (3 : Int32)), .val (.ref b), .val (.long ((p2.toInt64 + p3.toInt64) + p4.toInt64)), .second, .unset, .unset, .unset, .unset] [(.int (3 : Int32)), (.int (3 : Int32))])
    refine own_go (fun _ k => XS.icmpYes Xz29.here hx rfl (pc0 := 64) (pc' := 82) rfl (hb hby at_64) rfl (flt (by decide : ¬ ((3 : Int32) < (3 : Int32)))).2.2.2 (by decide) (by decide) k) ?_
    show own_Go _ _ _ _ Tz29 (mkF m 82 #[.val (.int p1), .val (.int p2), .val (.int p3), .val (.int p4), .val (.int p5), .val (.int (3 : Int32)), .val (.ref b), .val (.long ((p2.toInt64 + p3.toInt64) + p4.toInt64)), .second, .unset, .unset, .unset, .unset] [])
    refine own_go (fun _ k => XS.lload Xz29.here hx rfl (hb hby at_82) rfl k) ?_
    show own_Go _ _ _ _ Tz29 (mkF m 84 #[.val (.int p1), .val (.int p2), .val (.int p3), .val (.int p4), .val (.int p5), .val (.int (3 : Int32)), .val (.ref b), .val (.long ((p2.toInt64 + p3.toInt64) + p4.toInt64)), .second, .unset, .unset, .unset, .unset] [(.long ((p2.toInt64 + p3.toInt64) + p4.toInt64))])
    refine own_go (fun _ k => XS.l2dS Xz29.here hx rfl (hb hby at_84) rfl rfl k) ?_
    show own_Go _ _ _ _ Tz29 (mkF m 85 #[.val (.int p1), .val (.int p2), .val (.int p3), .val (.int p4), .val (.int p5), .val (.int (3 : Int32)), .val (.ref b), .val (.long ((p2.toInt64 + p3.toInt64) + p4.toInt64)), .second, .unset, .unset, .unset, .unset] [(.double (FP.l2d ((p2.toInt64 + p3.toInt64) + p4.toInt64)))])
    refine own_go (fun _ k => XS.iload Xz29.here hx rfl (hb hby at_85) rfl k) ?_
    show own_Go _ _ _ _ Tz29 (mkF m 87 #[.val (.int p1), .val (.int p2), .val (.int p3), .val (.int p4), .val (.int p5), .val (.int (3 : Int32)), .val (.ref b), .val (.long ((p2.toInt64 + p3.toInt64) + p4.toInt64)), .second, .unset, .unset, .unset, .unset] [(.int (3 : Int32)), (.double (FP.l2d ((p2.toInt64 + p3.toInt64) + p4.toInt64)))])
    refine own_go (fun _ k => XS.i2dS Xz29.here hx rfl (hb hby at_87) rfl rfl k) ?_
    show own_Go _ _ _ _ Tz29 (mkF m 88 #[.val (.int p1), .val (.int p2), .val (.int p3), .val (.int p4), .val (.int p5), .val (.int (3 : Int32)), .val (.ref b), .val (.long ((p2.toInt64 + p3.toInt64) + p4.toInt64)), .second, .unset, .unset, .unset, .unset] [(.double (FP.i2d (3 : Int32))), (.double (FP.l2d ((p2.toInt64 + p3.toInt64) + p4.toInt64)))])
    rw [← own_s p2]
    have hnn := ddiv_out (l2d_fin ((((0 : Int64) + p2.toInt64) + p3.toInt64) + p4.toInt64)).noNaN (i2d_fin (3 : Int32)) (own_nz (3 : Int32) (by decide))
    refine own_go (fun _ k => XS.ddivS Xz29.here hx rfl (hb hby at_88) rfl hnn rfl k) ?_
    show own_Go _ _ _ _ Tz29 (mkF m 89 #[.val (.int p1), .val (.int p2), .val (.int p3), .val (.int p4), .val (.int p5), .val (.int (3 : Int32)), .val (.ref b), .val (.long ((((0 : Int64) + p2.toInt64) + p3.toInt64) + p4.toInt64)), .second, .unset, .unset, .unset, .unset] [(.double (FP.ddiv (FP.l2d ((((0 : Int64) + p2.toInt64) + p3.toInt64) + p4.toInt64)) (FP.i2d (3 : Int32))))])
    refine own_go (fun _ k => XS.dstore Xz29.here hx rfl (hb hby at_89) rfl (l' := #[.val (.int p1), .val (.int p2), .val (.int p3), .val (.int p4), .val (.int p5), .val (.int (3 : Int32)), .val (.ref b), .val (.long ((((0 : Int64) + p2.toInt64) + p3.toInt64) + p4.toInt64)), .second, .val (.double (FP.ddiv (FP.l2d ((((0 : Int64) + p2.toInt64) + p3.toInt64) + p4.toInt64)) (FP.i2d (3 : Int32)))), .second, .unset, .unset]) rfl k) ?_
    show own_Go _ _ _ _ Tz29 (mkF m 91 #[.val (.int p1), .val (.int p2), .val (.int p3), .val (.int p4), .val (.int p5), .val (.int (3 : Int32)), .val (.ref b), .val (.long ((((0 : Int64) + p2.toInt64) + p3.toInt64) + p4.toInt64)), .second, .val (.double (FP.ddiv (FP.l2d ((((0 : Int64) + p2.toInt64) + p3.toInt64) + p4.toInt64)) (FP.i2d (3 : Int32)))), .second, .unset, .unset] [])
    refine own_go (fun _ k => XS.aload Xz29.here hx rfl (hb hby at_91) rfl rfl k) ?_
    show own_Go _ _ _ _ Tz29 (mkF m 93 #[.val (.int p1), .val (.int p2), .val (.int p3), .val (.int p4), .val (.int p5), .val (.int (3 : Int32)), .val (.ref b), .val (.long ((((0 : Int64) + p2.toInt64) + p3.toInt64) + p4.toInt64)), .second, .val (.double (FP.ddiv (FP.l2d ((((0 : Int64) + p2.toInt64) + p3.toInt64) + p4.toInt64)) (FP.i2d (3 : Int32)))), .second, .unset, .unset] [(.ref b)])
    obtain ⟨vz30, Tz30, Lz30, Xz30, hQz30, stz30⟩ := own_callS Xz29 hx hZ hown (hw _ (List.mem_of_getElem? (i := 1) rfl)) (hw _ (List.mem_of_getElem? (i := 2) rfl)) (hw _ (List.mem_of_getElem? (i := 3) rfl)) (hw _ (List.mem_of_getElem? (i := 4) rfl)) (by decide) ez29 (own_rmm3 l Z a0 hw [] b hz29 n0 p2 p3 p4 kz26 V_b) (W := 0) (by decide) (by decide) (by decide) (by decide) own_pd0 rfl (g := (mkF m 93 #[.val (.int p1), .val (.int p2), .val (.int p3), .val (.int p4), .val (.int p5), .val (.int (3 : Int32)), .val (.ref b), .val (.long ((((0 : Int64) + p2.toInt64) + p3.toInt64) + p4.toInt64)), .second, .val (.double (FP.ddiv (FP.l2d ((((0 : Int64) + p2.toInt64) + p3.toInt64) + p4.toInt64)) (FP.i2d (3 : Int32)))), .second, .unset, .unset] [(.ref b)])) (argsL := [(.ref b)]) (rest := []) rfl (by rw [hml]; rfl) rfl (by show 2 * 0 + _ ≤ _; exact Nat.le_of_eq rfl) (hb hby at_93)
    obtain ⟨rfl, Nz30q, ehz30⟩ := hQz30
    have Nz30 := Fr.app Nz29 Nz30q
    refine own_go stz30 ?_
    show own_Go _ _ _ _ Tz30 (mkF m 96 #[.val (.int p1), .val (.int p2), .val (.int p3), .val (.int p4), .val (.int p5), .val (.int (3 : Int32)), .val (.ref b), .val (.long ((((0 : Int64) + p2.toInt64) + p3.toInt64) + p4.toInt64)), .second, .val (.double (FP.ddiv (FP.l2d ((((0 : Int64) + p2.toInt64) + p3.toInt64) + p4.toInt64)) (FP.i2d (3 : Int32)))), .second, .unset, .unset] [(.double (FP.ddiv (FP.l2d ((((0 : Int64) + p2.toInt64) + p3.toInt64) + p4.toInt64)) (FP.i2d (3 : Int32))))])
    refine own_go (fun _ k => XS.dstore Xz30.here hx rfl (hb hby at_96) rfl (l' := #[.val (.int p1), .val (.int p2), .val (.int p3), .val (.int p4), .val (.int p5), .val (.int (3 : Int32)), .val (.ref b), .val (.long ((((0 : Int64) + p2.toInt64) + p3.toInt64) + p4.toInt64)), .second, .val (.double (FP.ddiv (FP.l2d ((((0 : Int64) + p2.toInt64) + p3.toInt64) + p4.toInt64)) (FP.i2d (3 : Int32)))), .second, .val (.double (FP.ddiv (FP.l2d ((((0 : Int64) + p2.toInt64) + p3.toInt64) + p4.toInt64)) (FP.i2d (3 : Int32)))), .second]) rfl k) ?_
    show own_Go _ _ _ _ Tz30 (mkF m 98 #[.val (.int p1), .val (.int p2), .val (.int p3), .val (.int p4), .val (.int p5), .val (.int (3 : Int32)), .val (.ref b), .val (.long ((((0 : Int64) + p2.toInt64) + p3.toInt64) + p4.toInt64)), .second, .val (.double (FP.ddiv (FP.l2d ((((0 : Int64) + p2.toInt64) + p3.toInt64) + p4.toInt64)) (FP.i2d (3 : Int32)))), .second, .val (.double (FP.ddiv (FP.l2d ((((0 : Int64) + p2.toInt64) + p3.toInt64) + p4.toInt64)) (FP.i2d (3 : Int32)))), .second] [])
    refine own_go (fun _ k => XS.dload Xz30.here hx rfl (hb hby at_98) rfl k) ?_
    show own_Go _ _ _ _ Tz30 (mkF m 100 #[.val (.int p1), .val (.int p2), .val (.int p3), .val (.int p4), .val (.int p5), .val (.int (3 : Int32)), .val (.ref b), .val (.long ((((0 : Int64) + p2.toInt64) + p3.toInt64) + p4.toInt64)), .second, .val (.double (FP.ddiv (FP.l2d ((((0 : Int64) + p2.toInt64) + p3.toInt64) + p4.toInt64)) (FP.i2d (3 : Int32)))), .second, .val (.double (FP.ddiv (FP.l2d ((((0 : Int64) + p2.toInt64) + p3.toInt64) + p4.toInt64)) (FP.i2d (3 : Int32)))), .second] [(.double (FP.ddiv (FP.l2d ((((0 : Int64) + p2.toInt64) + p3.toInt64) + p4.toInt64)) (FP.i2d (3 : Int32))))])
    refine own_go (fun _ k => XS.dload Xz30.here hx rfl (hb hby at_100) rfl k) ?_
    show own_Go _ _ _ _ Tz30 (mkF m 102 #[.val (.int p1), .val (.int p2), .val (.int p3), .val (.int p4), .val (.int p5), .val (.int (3 : Int32)), .val (.ref b), .val (.long ((((0 : Int64) + p2.toInt64) + p3.toInt64) + p4.toInt64)), .second, .val (.double (FP.ddiv (FP.l2d ((((0 : Int64) + p2.toInt64) + p3.toInt64) + p4.toInt64)) (FP.i2d (3 : Int32)))), .second, .val (.double (FP.ddiv (FP.l2d ((((0 : Int64) + p2.toInt64) + p3.toInt64) + p4.toInt64)) (FP.i2d (3 : Int32)))), .second] [(.double (FP.ddiv (FP.l2d ((((0 : Int64) + p2.toInt64) + p3.toInt64) + p4.toInt64)) (FP.i2d (3 : Int32)))), (.double (FP.ddiv (FP.l2d ((((0 : Int64) + p2.toInt64) + p3.toInt64) + p4.toInt64)) (FP.i2d (3 : Int32))))])
    refine own_go (fun _ k => XS.dcmpS Xz30.here hx rfl (hb hby at_102) rfl (dcmpV_self hnn _) k) ?_
    show own_Go _ _ _ _ Tz30 (mkF m 103 #[.val (.int p1), .val (.int p2), .val (.int p3), .val (.int p4), .val (.int p5), .val (.int (3 : Int32)), .val (.ref b), .val (.long ((((0 : Int64) + p2.toInt64) + p3.toInt64) + p4.toInt64)), .second, .val (.double (FP.ddiv (FP.l2d ((((0 : Int64) + p2.toInt64) + p3.toInt64) + p4.toInt64)) (FP.i2d (3 : Int32)))), .second, .val (.double (FP.ddiv (FP.l2d ((((0 : Int64) + p2.toInt64) + p3.toInt64) + p4.toInt64)) (FP.i2d (3 : Int32)))), .second] [(.int (0 : Int32))])
    refine own_go (fun _ k => XS.ifNo Xz30.here hx rfl (hb hby at_103) rfl ((if0 _ _).trans (teq (by decide : (0 : Int32) = (0 : Int32))).2) k) ?_
    show own_Go _ _ _ _ Tz30 (mkF m 106 #[.val (.int p1), .val (.int p2), .val (.int p3), .val (.int p4), .val (.int p5), .val (.int (3 : Int32)), .val (.ref b), .val (.long ((((0 : Int64) + p2.toInt64) + p3.toInt64) + p4.toInt64)), .second, .val (.double (FP.ddiv (FP.l2d ((((0 : Int64) + p2.toInt64) + p3.toInt64) + p4.toInt64)) (FP.i2d (3 : Int32)))), .second, .val (.double (FP.ddiv (FP.l2d ((((0 : Int64) + p2.toInt64) + p3.toInt64) + p4.toInt64)) (FP.i2d (3 : Int32)))), .second] [])
    refine own_go (fun _ k => XS.iconst Xz30.here hx rfl (hb hby at_106) k) ?_
    show own_Go _ _ _ _ Tz30 (mkF m 107 #[.val (.int p1), .val (.int p2), .val (.int p3), .val (.int p4), .val (.int p5), .val (.int (3 : Int32)), .val (.ref b), .val (.long ((((0 : Int64) + p2.toInt64) + p3.toInt64) + p4.toInt64)), .second, .val (.double (FP.ddiv (FP.l2d ((((0 : Int64) + p2.toInt64) + p3.toInt64) + p4.toInt64)) (FP.i2d (3 : Int32)))), .second, .val (.double (FP.ddiv (FP.l2d ((((0 : Int64) + p2.toInt64) + p3.toInt64) + p4.toInt64)) (FP.i2d (3 : Int32)))), .second] [(.int (1 : Int32))])
    refine own_go (fun _ k => XS.goto Xz30.here hx rfl (pc0 := 107) (pc' := 111) rfl (hb hby at_107) (by decide) (by decide) k) ?_
    show own_Go _ _ _ _ Tz30 (mkF m 111 #[.val (.int p1), .val (.int p2), .val (.int p3), .val (.int p4), .val (.int p5), .val (.int (3 : Int32)), .val (.ref b), .val (.long ((((0 : Int64) + p2.toInt64) + p3.toInt64) + p4.toInt64)), .second, .val (.double (FP.ddiv (FP.l2d ((((0 : Int64) + p2.toInt64) + p3.toInt64) + p4.toInt64)) (FP.i2d (3 : Int32)))), .second, .val (.double (FP.ddiv (FP.l2d ((((0 : Int64) + p2.toInt64) + p3.toInt64) + p4.toInt64)) (FP.i2d (3 : Int32)))), .second] [(.int (1 : Int32))])
    exact own_end Xz30 hlk (v := (some (.int (1 : Int32)))) (fun h => by rw [hret] at h; cases h) (fun fs hr => retN Xz30 hx (t := .boolean) hret (by simp) (hb hby at_111) hr) (by rw [ehz30]; exact ⟨rfl, Nz30⟩) (by decide) (by decide)
  · show own_Go _ _ _ _ s₁ (mkF m 9 #[.val (.int p1), .val (.int p2), .val (.int p3), .val (.int p4), .val (.int p5), .val (.int (4 : Int32)), .unset, .unset, .unset, .unset, .unset, .unset, .unset] [(.int (4 : Int32))])
    obtain ⟨Tz31, hz31, kz31, Xz31, ez31, Ez31, Az31, stz31⟩ := newP X0 hx hZ (hw _ (List.mem_of_getElem? (i := 0) rfl)) e0 (g := (mkF m 9 #[.val (.int p1), .val (.int p2), .val (.int p3), .val (.int p4), .val (.int p5), .val (.int (4 : Int32)), .unset, .unset, .unset, .unset, .unset, .unset, .unset] [(.int (4 : Int32))])) rfl (hb hby at_9) rfl (by decide) (cap := 4) (by decide) (by decide) (by decide) (by decide)
    obtain ⟨b, gz31⟩ : ∃ z, z = h0.size := ⟨_, rfl⟩
    rw [← gz31] at Az31 stz31
    have g_b : n0 ≤ b := by rw [gz31, ← O.1]; exact O.2.1
    have O := O.ext Ez31
    refine own_go stz31 ?_
    have V_b : Arv Z hz31 b kz31 .double (4 : Int32) [(.double (0 : UInt64)), (.double (0 : UInt64)), (.double (0 : UInt64)), (.double (0 : UInt64))] (.double (0 : UInt64)) := (Arv.new Az31 (by decide)).pad (pad_rep [] (.double (0 : UInt64)) 4)
    show own_Go _ _ _ _ Tz31 (mkF m 11 #[.val (.int p1), .val (.int p2), .val (.int p3), .val (.int p4), .val (.int p5), .val (.int (4 : Int32)), .unset, .unset, .unset, .unset, .unset, .unset, .unset] [(.ref b)])
    refine own_go (fun _ k => XS.astore Xz31.here hx rfl (hb hby at_11) rfl rfl (l' := #[.val (.int p1), .val (.int p2), .val (.int p3), .val (.int p4), .val (.int p5), .val (.int (4 : Int32)), .val (.ref b), .unset, .unset, .unset, .unset, .unset, .unset]) rfl k) ?_
    show own_Go _ _ _ _ Tz31 (mkF m 13 #[.val (.int p1), .val (.int p2), .val (.int p3), .val (.int p4), .val (.int p5), .val (.int (4 : Int32)), .val (.ref b), .unset, .unset, .unset, .unset, .unset, .unset] [])
    refine own_go (fun _ k => XS.iloadN Xz31.here hx rfl (hb hby at_13) rfl k) ?_
    show own_Go _ _ _ _ Tz31 (mkF m 14 #[.val (.int p1), .val (.int p2), .val (.int p3), .val (.int p4), .val (.int p5), .val (.int (4 : Int32)), .val (.ref b), .unset, .unset, .unset, .unset, .unset, .unset] [(.int p2)])
    refine own_go (fun _ k => XS.i2l Xz31.here hx rfl (hb hby at_14) rfl k) ?_
    show own_Go _ _ _ _ Tz31 (mkF m 15 #[.val (.int p1), .val (.int p2), .val (.int p3), .val (.int p4), .val (.int p5), .val (.int (4 : Int32)), .val (.ref b), .unset, .unset, .unset, .unset, .unset, .unset] [(.long p2.toInt64)])
    refine own_go (fun _ k => XS.lstore Xz31.here hx rfl (hb hby at_15) rfl (l' := #[.val (.int p1), .val (.int p2), .val (.int p3), .val (.int p4), .val (.int p5), .val (.int (4 : Int32)), .val (.ref b), .val (.long p2.toInt64), .second, .unset, .unset, .unset, .unset]) rfl k) ?_
    show own_Go _ _ _ _ Tz31 (mkF m 17 #[.val (.int p1), .val (.int p2), .val (.int p3), .val (.int p4), .val (.int p5), .val (.int (4 : Int32)), .val (.ref b), .val (.long p2.toInt64), .second, .unset, .unset, .unset, .unset] [])
    refine own_go (fun _ k => XS.aload Xz31.here hx rfl (hb hby at_17) rfl rfl k) ?_
    show own_Go _ _ _ _ Tz31 (mkF m 19 #[.val (.int p1), .val (.int p2), .val (.int p3), .val (.int p4), .val (.int p5), .val (.int (4 : Int32)), .val (.ref b), .val (.long p2.toInt64), .second, .unset, .unset, .unset, .unset] [(.ref b)])
    refine own_go (fun _ k => XS.iconst Xz31.here hx rfl (hb hby at_19) k) ?_
    show own_Go _ _ _ _ Tz31 (mkF m 20 #[.val (.int p1), .val (.int p2), .val (.int p3), .val (.int p4), .val (.int p5), .val (.int (4 : Int32)), .val (.ref b), .val (.long p2.toInt64), .second, .unset, .unset, .unset, .unset] [(.int (0 : Int32)), (.ref b)])
    refine own_go (fun _ k => XS.iloadN Xz31.here hx rfl (hb hby at_20) rfl k) ?_
    show own_Go _ _ _ _ Tz31 (mkF m 21 #[.val (.int p1), .val (.int p2), .val (.int p3), .val (.int p4), .val (.int p5), .val (.int (4 : Int32)), .val (.ref b), .val (.long p2.toInt64), .second, .unset, .unset, .unset, .unset] [(.int p2), (.int (0 : Int32)), (.ref b)])
    refine own_go (fun _ k => XS.i2dS Xz31.here hx rfl (hb hby at_21) rfl (i2d_w p2) k) ?_
    show own_Go _ _ _ _ Tz31 (mkF m 22 #[.val (.int p1), .val (.int p2), .val (.int p3), .val (.int p4), .val (.int p5), .val (.int (4 : Int32)), .val (.ref b), .val (.long p2.toInt64), .second, .unset, .unset, .unset, .unset] [(.double (FP.l2d p2.toInt64)), (.int (0 : Int32)), (.ref b)])
    obtain ⟨clz32, Arz32, qz32, Sz32, Mz32, HHz32, Gz32⟩ := V_b
    have hinz32 : ¬ ((0 : Int32) < 0 ∨ clz32.slots.size ≤ ((0 : Int32)).toNatClampNeg) := inb_of Sz32 ⟨(by decide), (by decide)⟩
    obtain ⟨Tz32, hz32, Xz32, ez32, Wz32, stz32⟩ := stD Xz31 hx hZ ez31 Arz32 (j := (0 : Int32)) hinz32 (g := (mkF m 22 #[.val (.int p1), .val (.int p2), .val (.int p3), .val (.int p4), .val (.int p5), .val (.int (4 : Int32)), .val (.ref b), .val (.long p2.toInt64), .second, .unset, .unset, .unset, .unset] [(.double (FP.l2d p2.toInt64)), (.int (0 : Int32)), (.ref b)])) rfl rfl (hb hby at_22)
    refine own_go stz32 ?_
    have V_b_ : Arv Z hz32 b kz31 .double (4 : Int32) [(.double (FP.l2d p2.toInt64)), (.double (0 : UInt64)), (.double (0 : UInt64)), (.double (0 : UInt64))] (.double (0 : UInt64)) := Arv.set Arz32 qz32 Sz32 Mz32 HHz32 Gz32 rfl Wz32 0 rfl (Nat.le_of_ble_eq_true rfl)
    have Nz32 := Fr.snoc Xz32 N0 g_b
    have O := O.wr Wz32 g_b
    have V_b := V_b_
    show own_Go _ _ _ _ Tz32 (mkF m 23 #[.val (.int p1), .val (.int p2), .val (.int p3), .val (.int p4), .val (.int p5), .val (.int (4 : Int32)), .val (.ref b), .val (.long p2.toInt64), .second, .unset, .unset, .unset, .unset] [])
    refine own_go (fun _ k => XS.iload Xz32.here hx rfl (hb hby at_23) rfl k) ?_
    show own_Go _ _ _ _ Tz32 (mkF m 25 #[.val (.int p1), .val (.int p2), .val (.int p3), .val (.int p4), .val (.int p5), .val (.int (4 : Int32)), .val (.ref b), .val (.long p2.toInt64), .second, .unset, .unset, .unset, .unset] [(.int (4 : Int32))])
    refine own_go (fun _ k => XS.iconst Xz32.here hx rfl (hb hby at_25) k) ?_
    show own_Go _ _ _ _ Tz32 (mkF m 26 #[.val (.int p1), .val (.int p2), .val (.int p3), .val (.int p4), .val (.int p5), .val (.int (4 : Int32)), .val (.ref b), .val (.long p2.toInt64), .second, .unset, .unset, .unset, .unset] [(.int (1 : Int32)), (.int (4 : Int32))])
    refine own_go (fun _ k => XS.icmpNo Xz32.here hx rfl (hb hby at_26) rfl (tlt (by decide : (1 : Int32) < (4 : Int32))).2.2.2 k) ?_
    show own_Go _ _ _ _ Tz32 (mkF m 29 #[.val (.int p1), .val (.int p2), .val (.int p3), .val (.int p4), .val (.int p5), .val (.int (4 : Int32)), .val (.ref b), .val (.long p2.toInt64), .second, .unset, .unset, .unset, .unset] [])
    refine own_go (fun _ k => XS.aload Xz32.here hx rfl (hb hby at_29) rfl rfl k) ?_
    show own_Go _ _ _ _ Tz32 (mkF m 31 #[.val (.int p1), .val (.int p2), .val (.int p3), .val (.int p4), .val (.int p5), .val (.int (4 : Int32)), .val (.ref b), .val (.long p2.toInt64), .second, .unset, .unset, .unset, .unset] [(.ref b)])
    refine own_go (fun _ k => XS.iconst Xz32.here hx rfl (hb hby at_31) k) ?_
    show own_Go _ _ _ _ Tz32 (mkF m 32 #[.val (.int p1), .val (.int p2), .val (.int p3), .val (.int p4), .val (.int p5), .val (.int (4 : Int32)), .val (.ref b), .val (.long p2.toInt64), .second, .unset, .unset, .unset, .unset] [(.int (1 : Int32)), (.ref b)])
    refine own_go (fun _ k => XS.iloadN Xz32.here hx rfl (hb hby at_32) rfl k) ?_
    show own_Go _ _ _ _ Tz32 (mkF m 33 #[.val (.int p1), .val (.int p2), .val (.int p3), .val (.int p4), .val (.int p5), .val (.int (4 : Int32)), .val (.ref b), .val (.long p2.toInt64), .second, .unset, .unset, .unset, .unset] [(.int p3), (.int (1 : Int32)), (.ref b)])
    refine own_go (fun _ k => XS.i2dS Xz32.here hx rfl (hb hby at_33) rfl (i2d_w p3) k) ?_
    show own_Go _ _ _ _ Tz32 (mkF m 34 #[.val (.int p1), .val (.int p2), .val (.int p3), .val (.int p4), .val (.int p5), .val (.int (4 : Int32)), .val (.ref b), .val (.long p2.toInt64), .second, .unset, .unset, .unset, .unset] [(.double (FP.l2d p3.toInt64)), (.int (1 : Int32)), (.ref b)])
    obtain ⟨clz33, Arz33, qz33, Sz33, Mz33, HHz33, Gz33⟩ := V_b
    have hinz33 : ¬ ((1 : Int32) < 0 ∨ clz33.slots.size ≤ ((1 : Int32)).toNatClampNeg) := inb_of Sz33 ⟨(by decide), (by decide)⟩
    obtain ⟨Tz33, hz33, Xz33, ez33, Wz33, stz33⟩ := stD Xz32 hx hZ ez32 Arz33 (j := (1 : Int32)) hinz33 (g := (mkF m 34 #[.val (.int p1), .val (.int p2), .val (.int p3), .val (.int p4), .val (.int p5), .val (.int (4 : Int32)), .val (.ref b), .val (.long p2.toInt64), .second, .unset, .unset, .unset, .unset] [(.double (FP.l2d p3.toInt64)), (.int (1 : Int32)), (.ref b)])) rfl rfl (hb hby at_34)
    refine own_go stz33 ?_
    have V_b_ : Arv Z hz33 b kz31 .double (4 : Int32) [(.double (FP.l2d p2.toInt64)), (.double (FP.l2d p3.toInt64)), (.double (0 : UInt64)), (.double (0 : UInt64))] (.double (0 : UInt64)) := Arv.set Arz33 qz33 Sz33 Mz33 HHz33 Gz33 rfl Wz33 1 rfl (Nat.le_of_ble_eq_true rfl)
    have Nz33 := Fr.snoc Xz33 Nz32 g_b
    have O := O.wr Wz33 g_b
    have V_b := V_b_
    show own_Go _ _ _ _ Tz33 (mkF m 35 #[.val (.int p1), .val (.int p2), .val (.int p3), .val (.int p4), .val (.int p5), .val (.int (4 : Int32)), .val (.ref b), .val (.long p2.toInt64), .second, .unset, .unset, .unset, .unset] [])
    refine own_go (fun _ k => XS.lload Xz33.here hx rfl (hb hby at_35) rfl k) ?_
    show own_Go _ _ _ _ Tz33 (mkF m 37 #[.val (.int p1), .val (.int p2), .val (.int p3), .val (.int p4), .val (.int p5), .val (.int (4 : Int32)), .val (.ref b), .val (.long p2.toInt64), .second, .unset, .unset, .unset, .unset] [(.long p2.toInt64)])
    refine own_go (fun _ k => XS.iloadN Xz33.here hx rfl (hb hby at_37) rfl k) ?_
    show own_Go _ _ _ _ Tz33 (mkF m 38 #[.val (.int p1), .val (.int p2), .val (.int p3), .val (.int p4), .val (.int p5), .val (.int (4 : Int32)), .val (.ref b), .val (.long p2.toInt64), .second, .unset, .unset, .unset, .unset] [(.int p3), (.long p2.toInt64)])
    refine own_go (fun _ k => XS.i2l Xz33.here hx rfl (hb hby at_38) rfl k) ?_
    show own_Go _ _ _ _ Tz33 (mkF m 39 #[.val (.int p1), .val (.int p2), .val (.int p3), .val (.int p4), .val (.int p5), .val (.int (4 : Int32)), .val (.ref b), .val (.long p2.toInt64), .second, .unset, .unset, .unset, .unset] [(.long p3.toInt64), (.long p2.toInt64)])
    refine own_go (fun _ k => XS.ladd Xz33.here hx rfl (hb hby at_39) rfl k) ?_
    show own_Go _ _ _ _ Tz33 (mkF m 40 #[.val (.int p1), .val (.int p2), .val (.int p3), .val (.int p4), .val (.int p5), .val (.int (4 : Int32)), .val (.ref b), .val (.long p2.toInt64), .second, .unset, .unset, .unset, .unset] [(.long (p2.toInt64 + p3.toInt64))])
    refine own_go (fun _ k => XS.lstore Xz33.here hx rfl (hb hby at_40) rfl (l' := #[.val (.int p1), .val (.int p2), .val (.int p3), .val (.int p4), .val (.int p5), .val (.int (4 : Int32)), .val (.ref b), .val (.long (p2.toInt64 + p3.toInt64)), .second, .unset, .unset, .unset, .unset]) rfl k) ?_
    show own_Go _ _ _ _ Tz33 (mkF m 42 #[.val (.int p1), .val (.int p2), .val (.int p3), .val (.int p4), .val (.int p5), .val (.int (4 : Int32)), .val (.ref b), .val (.long (p2.toInt64 + p3.toInt64)), .second, .unset, .unset, .unset, .unset] [])
    refine own_go (fun _ k => XS.iload Xz33.here hx rfl (hb hby at_42) rfl k) ?_
    show own_Go _ _ _ _ Tz33 (mkF m 44 #[.val (.int p1), .val (.int p2), .val (.int p3), .val (.int p4), .val (.int p5), .val (.int (4 : Int32)), .val (.ref b), .val (.long (p2.toInt64 + p3.toInt64)), .second, .unset, .unset, .unset, .unset] [(.int (4 : Int32))])
    refine own_go (fun _ k => XS.iconst Xz33.here hx rfl (hb hby at_44) k) ?_
    show own_Go _ _ _ _ Tz33 (mkF m 45 #[.val (.int p1), .val (.int p2), .val (.int p3), .val (.int p4), .val (.int p5), .val (.int (4 : Int32)), .val (.ref b), .val (.long (p2.toInt64 + p3.toInt64)), .second, .unset, .unset, .unset, .unset] [(.int (2 : Int32)), (.int (4 : Int32))])
    refine own_go (fun _ k => XS.icmpNo Xz33.here hx rfl (hb hby at_45) rfl (tlt (by decide : (2 : Int32) < (4 : Int32))).2.2.2 k) ?_
    show own_Go _ _ _ _ Tz33 (mkF m 48 #[.val (.int p1), .val (.int p2), .val (.int p3), .val (.int p4), .val (.int p5), .val (.int (4 : Int32)), .val (.ref b), .val (.long (p2.toInt64 + p3.toInt64)), .second, .unset, .unset, .unset, .unset] [])
    refine own_go (fun _ k => XS.aload Xz33.here hx rfl (hb hby at_48) rfl rfl k) ?_
    show own_Go _ _ _ _ Tz33 (mkF m 50 #[.val (.int p1), .val (.int p2), .val (.int p3), .val (.int p4), .val (.int p5), .val (.int (4 : Int32)), .val (.ref b), .val (.long (p2.toInt64 + p3.toInt64)), .second, .unset, .unset, .unset, .unset] [(.ref b)])
    refine own_go (fun _ k => XS.iconst Xz33.here hx rfl (hb hby at_50) k) ?_
    show own_Go _ _ _ _ Tz33 (mkF m 51 #[.val (.int p1), .val (.int p2), .val (.int p3), .val (.int p4), .val (.int p5), .val (.int (4 : Int32)), .val (.ref b), .val (.long (p2.toInt64 + p3.toInt64)), .second, .unset, .unset, .unset, .unset] [(.int (2 : Int32)), (.ref b)])
    refine own_go (fun _ k => XS.iloadN Xz33.here hx rfl (hb hby at_51) rfl k) ?_
    show own_Go _ _ _ _ Tz33 (mkF m 52 #[.val (.int p1), .val (.int p2), .val (.int p3), .val (.int p4), .val (.int p5), .val (.int (4 : Int32)), .val (.ref b), .val (.long (p2.toInt64 + p3.toInt64)), .second, .unset, .unset, .unset, .unset] [(.int p4), (.int (2 : Int32)), (.ref b)])
    refine own_go (fun _ k => XS.i2dS Xz33.here hx rfl (hb hby at_52) rfl (i2d_w p4) k) ?_
    show own_Go _ _ _ _ Tz33 (mkF m 53 #[.val (.int p1), .val (.int p2), .val (.int p3), .val (.int p4), .val (.int p5), .val (.int (4 : Int32)), .val (.ref b), .val (.long (p2.toInt64 + p3.toInt64)), .second, .unset, .unset, .unset, .unset] [(.double (FP.l2d p4.toInt64)), (.int (2 : Int32)), (.ref b)])
    obtain ⟨clz34, Arz34, qz34, Sz34, Mz34, HHz34, Gz34⟩ := V_b
    have hinz34 : ¬ ((2 : Int32) < 0 ∨ clz34.slots.size ≤ ((2 : Int32)).toNatClampNeg) := inb_of Sz34 ⟨(by decide), (by decide)⟩
    obtain ⟨Tz34, hz34, Xz34, ez34, Wz34, stz34⟩ := stD Xz33 hx hZ ez33 Arz34 (j := (2 : Int32)) hinz34 (g := (mkF m 53 #[.val (.int p1), .val (.int p2), .val (.int p3), .val (.int p4), .val (.int p5), .val (.int (4 : Int32)), .val (.ref b), .val (.long (p2.toInt64 + p3.toInt64)), .second, .unset, .unset, .unset, .unset] [(.double (FP.l2d p4.toInt64)), (.int (2 : Int32)), (.ref b)])) rfl rfl (hb hby at_53)
    refine own_go stz34 ?_
    have V_b_ : Arv Z hz34 b kz31 .double (4 : Int32) [(.double (FP.l2d p2.toInt64)), (.double (FP.l2d p3.toInt64)), (.double (FP.l2d p4.toInt64)), (.double (0 : UInt64))] (.double (0 : UInt64)) := Arv.set Arz34 qz34 Sz34 Mz34 HHz34 Gz34 rfl Wz34 2 rfl (Nat.le_of_ble_eq_true rfl)
    have Nz34 := Fr.snoc Xz34 Nz33 g_b
    have O := O.wr Wz34 g_b
    have V_b := V_b_
    show own_Go _ _ _ _ Tz34 (mkF m 54 #[.val (.int p1), .val (.int p2), .val (.int p3), .val (.int p4), .val (.int p5), .val (.int (4 : Int32)), .val (.ref b), .val (.long (p2.toInt64 + p3.toInt64)), .second, .unset, .unset, .unset, .unset] [])
    refine own_go (fun _ k => XS.lload Xz34.here hx rfl (hb hby at_54) rfl k) ?_
    show own_Go _ _ _ _ Tz34 (mkF m 56 #[.val (.int p1), .val (.int p2), .val (.int p3), .val (.int p4), .val (.int p5), .val (.int (4 : Int32)), .val (.ref b), .val (.long (p2.toInt64 + p3.toInt64)), .second, .unset, .unset, .unset, .unset] [(.long (p2.toInt64 + p3.toInt64))])
    refine own_go (fun _ k => XS.iloadN Xz34.here hx rfl (hb hby at_56) rfl k) ?_
    show own_Go _ _ _ _ Tz34 (mkF m 57 #[.val (.int p1), .val (.int p2), .val (.int p3), .val (.int p4), .val (.int p5), .val (.int (4 : Int32)), .val (.ref b), .val (.long (p2.toInt64 + p3.toInt64)), .second, .unset, .unset, .unset, .unset] [(.int p4), (.long (p2.toInt64 + p3.toInt64))])
    refine own_go (fun _ k => XS.i2l Xz34.here hx rfl (hb hby at_57) rfl k) ?_
    show own_Go _ _ _ _ Tz34 (mkF m 58 #[.val (.int p1), .val (.int p2), .val (.int p3), .val (.int p4), .val (.int p5), .val (.int (4 : Int32)), .val (.ref b), .val (.long (p2.toInt64 + p3.toInt64)), .second, .unset, .unset, .unset, .unset] [(.long p4.toInt64), (.long (p2.toInt64 + p3.toInt64))])
    refine own_go (fun _ k => XS.ladd Xz34.here hx rfl (hb hby at_58) rfl k) ?_
    show own_Go _ _ _ _ Tz34 (mkF m 59 #[.val (.int p1), .val (.int p2), .val (.int p3), .val (.int p4), .val (.int p5), .val (.int (4 : Int32)), .val (.ref b), .val (.long (p2.toInt64 + p3.toInt64)), .second, .unset, .unset, .unset, .unset] [(.long ((p2.toInt64 + p3.toInt64) + p4.toInt64))])
    refine own_go (fun _ k => XS.lstore Xz34.here hx rfl (hb hby at_59) rfl (l' := #[.val (.int p1), .val (.int p2), .val (.int p3), .val (.int p4), .val (.int p5), .val (.int (4 : Int32)), .val (.ref b), .val (.long ((p2.toInt64 + p3.toInt64) + p4.toInt64)), .second, .unset, .unset, .unset, .unset]) rfl k) ?_
    show own_Go _ _ _ _ Tz34 (mkF m 61 #[.val (.int p1), .val (.int p2), .val (.int p3), .val (.int p4), .val (.int p5), .val (.int (4 : Int32)), .val (.ref b), .val (.long ((p2.toInt64 + p3.toInt64) + p4.toInt64)), .second, .unset, .unset, .unset, .unset] [])
    refine own_go (fun _ k => XS.iload Xz34.here hx rfl (hb hby at_61) rfl k) ?_
    show own_Go _ _ _ _ Tz34 (mkF m 63 #[.val (.int p1), .val (.int p2), .val (.int p3), .val (.int p4), .val (.int p5), .val (.int (4 : Int32)), .val (.ref b), .val (.long ((p2.toInt64 + p3.toInt64) + p4.toInt64)), .second, .unset, .unset, .unset, .unset] [(.int (4 : Int32))])
    refine own_go (fun _ k => XS.iconst Xz34.here hx rfl (hb hby at_63) k) ?_
    show own_Go _ _ _ _ Tz34 (mkF m 64 #[.val (.int p1), .val (.int p2), .val (.int p3), .val (.int p4), .val (.int p5), .val (.int (4 : Int32)), .val (.ref b), .val (.long ((p2.toInt64 + p3.toInt64) + p4.toInt64)), .second, .unset, .unset, .unset, .unset] [(.int (3 : Int32)), (.int (4 : Int32))])
    refine own_go (fun _ k => XS.icmpNo Xz34.here hx rfl (hb hby at_64) rfl (tlt (by decide : (3 : Int32) < (4 : Int32))).2.2.2 k) ?_
    show own_Go _ _ _ _ Tz34 (mkF m 67 #[.val (.int p1), .val (.int p2), .val (.int p3), .val (.int p4), .val (.int p5), .val (.int (4 : Int32)), .val (.ref b), .val (.long ((p2.toInt64 + p3.toInt64) + p4.toInt64)), .second, .unset, .unset, .unset, .unset] [])
    refine own_go (fun _ k => XS.aload Xz34.here hx rfl (hb hby at_67) rfl rfl k) ?_
    show own_Go _ _ _ _ Tz34 (mkF m 69 #[.val (.int p1), .val (.int p2), .val (.int p3), .val (.int p4), .val (.int p5), .val (.int (4 : Int32)), .val (.ref b), .val (.long ((p2.toInt64 + p3.toInt64) + p4.toInt64)), .second, .unset, .unset, .unset, .unset] [(.ref b)])
    refine own_go (fun _ k => XS.iconst Xz34.here hx rfl (hb hby at_69) k) ?_
    show own_Go _ _ _ _ Tz34 (mkF m 70 #[.val (.int p1), .val (.int p2), .val (.int p3), .val (.int p4), .val (.int p5), .val (.int (4 : Int32)), .val (.ref b), .val (.long ((p2.toInt64 + p3.toInt64) + p4.toInt64)), .second, .unset, .unset, .unset, .unset] [(.int (3 : Int32)), (.ref b)])
    refine own_go (fun _ k => XS.iload Xz34.here hx rfl (hb hby at_70) rfl k) ?_
    show own_Go _ _ _ _ Tz34 (mkF m 72 #[.val (.int p1), .val (.int p2), .val (.int p3), .val (.int p4), .val (.int p5), .val (.int (4 : Int32)), .val (.ref b), .val (.long ((p2.toInt64 + p3.toInt64) + p4.toInt64)), .second, .unset, .unset, .unset, .unset] [(.int p5), (.int (3 : Int32)), (.ref b)])
    refine own_go (fun _ k => XS.i2dS Xz34.here hx rfl (hb hby at_72) rfl (i2d_w p5) k) ?_
    show own_Go _ _ _ _ Tz34 (mkF m 73 #[.val (.int p1), .val (.int p2), .val (.int p3), .val (.int p4), .val (.int p5), .val (.int (4 : Int32)), .val (.ref b), .val (.long ((p2.toInt64 + p3.toInt64) + p4.toInt64)), .second, .unset, .unset, .unset, .unset] [(.double (FP.l2d p5.toInt64)), (.int (3 : Int32)), (.ref b)])
    obtain ⟨clz35, Arz35, qz35, Sz35, Mz35, HHz35, Gz35⟩ := V_b
    have hinz35 : ¬ ((3 : Int32) < 0 ∨ clz35.slots.size ≤ ((3 : Int32)).toNatClampNeg) := inb_of Sz35 ⟨(by decide), (by decide)⟩
    obtain ⟨Tz35, hz35, Xz35, ez35, Wz35, stz35⟩ := stD Xz34 hx hZ ez34 Arz35 (j := (3 : Int32)) hinz35 (g := (mkF m 73 #[.val (.int p1), .val (.int p2), .val (.int p3), .val (.int p4), .val (.int p5), .val (.int (4 : Int32)), .val (.ref b), .val (.long ((p2.toInt64 + p3.toInt64) + p4.toInt64)), .second, .unset, .unset, .unset, .unset] [(.double (FP.l2d p5.toInt64)), (.int (3 : Int32)), (.ref b)])) rfl rfl (hb hby at_73)
    refine own_go stz35 ?_
    have V_b_ : Arv Z hz35 b kz31 .double (4 : Int32) [(.double (FP.l2d p2.toInt64)), (.double (FP.l2d p3.toInt64)), (.double (FP.l2d p4.toInt64)), (.double (FP.l2d p5.toInt64))] (.double (0 : UInt64)) := Arv.set Arz35 qz35 Sz35 Mz35 HHz35 Gz35 rfl Wz35 3 rfl (Nat.le_of_ble_eq_true rfl)
    have Nz35 := Fr.snoc Xz35 Nz34 g_b
    have O := O.wr Wz35 g_b
    have V_b := V_b_
    show own_Go _ _ _ _ Tz35 (mkF m 74 #[.val (.int p1), .val (.int p2), .val (.int p3), .val (.int p4), .val (.int p5), .val (.int (4 : Int32)), .val (.ref b), .val (.long ((p2.toInt64 + p3.toInt64) + p4.toInt64)), .second, .unset, .unset, .unset, .unset] [])
    refine own_go (fun _ k => XS.lload Xz35.here hx rfl (hb hby at_74) rfl k) ?_
    show own_Go _ _ _ _ Tz35 (mkF m 76 #[.val (.int p1), .val (.int p2), .val (.int p3), .val (.int p4), .val (.int p5), .val (.int (4 : Int32)), .val (.ref b), .val (.long ((p2.toInt64 + p3.toInt64) + p4.toInt64)), .second, .unset, .unset, .unset, .unset] [(.long ((p2.toInt64 + p3.toInt64) + p4.toInt64))])
    refine own_go (fun _ k => XS.iload Xz35.here hx rfl (hb hby at_76) rfl k) ?_
    show own_Go _ _ _ _ Tz35 (mkF m 78 #[.val (.int p1), .val (.int p2), .val (.int p3), .val (.int p4), .val (.int p5), .val (.int (4 : Int32)), .val (.ref b), .val (.long ((p2.toInt64 + p3.toInt64) + p4.toInt64)), .second, .unset, .unset, .unset, .unset] [(.int p5), (.long ((p2.toInt64 + p3.toInt64) + p4.toInt64))])
    refine own_go (fun _ k => XS.i2l Xz35.here hx rfl (hb hby at_78) rfl k) ?_
    show own_Go _ _ _ _ Tz35 (mkF m 79 #[.val (.int p1), .val (.int p2), .val (.int p3), .val (.int p4), .val (.int p5), .val (.int (4 : Int32)), .val (.ref b), .val (.long ((p2.toInt64 + p3.toInt64) + p4.toInt64)), .second, .unset, .unset, .unset, .unset] [(.long p5.toInt64), (.long ((p2.toInt64 + p3.toInt64) + p4.toInt64))])
    refine own_go (fun _ k => XS.ladd Xz35.here hx rfl (hb hby at_79) rfl k) ?_
    show own_Go _ _ _ _ Tz35 (mkF m 80 #[.val (.int p1), .val (.int p2), .val (.int p3), .val (.int p4), .val (.int p5), .val (.int (4 : Int32)), .val (.ref b), .val (.long ((p2.toInt64 + p3.toInt64) + p4.toInt64)), .second, .unset, .unset, .unset, .unset] [(.long (((p2.toInt64 + p3.toInt64) + p4.toInt64) + p5.toInt64))])
    refine own_go (fun _ k => XS.lstore Xz35.here hx rfl (hb hby at_80) rfl (l' := #[.val (.int p1), .val (.int p2), .val (.int p3), .val (.int p4), .val (.int p5), .val (.int (4 : Int32)), .val (.ref b), .val (.long (((p2.toInt64 + p3.toInt64) + p4.toInt64) + p5.toInt64)), .second, .unset, .unset, .unset, .unset]) rfl k) ?_
    show own_Go _ _ _ _ Tz35 (mkF m 82 #[.val (.int p1), .val (.int p2), .val (.int p3), .val (.int p4), .val (.int p5), .val (.int (4 : Int32)), .val (.ref b), .val (.long (((p2.toInt64 + p3.toInt64) + p4.toInt64) + p5.toInt64)), .second, .unset, .unset, .unset, .unset] [])
    refine own_go (fun _ k => XS.lload Xz35.here hx rfl (hb hby at_82) rfl k) ?_
    show own_Go _ _ _ _ Tz35 (mkF m 84 #[.val (.int p1), .val (.int p2), .val (.int p3), .val (.int p4), .val (.int p5), .val (.int (4 : Int32)), .val (.ref b), .val (.long (((p2.toInt64 + p3.toInt64) + p4.toInt64) + p5.toInt64)), .second, .unset, .unset, .unset, .unset] [(.long (((p2.toInt64 + p3.toInt64) + p4.toInt64) + p5.toInt64))])
    refine own_go (fun _ k => XS.l2dS Xz35.here hx rfl (hb hby at_84) rfl rfl k) ?_
    show own_Go _ _ _ _ Tz35 (mkF m 85 #[.val (.int p1), .val (.int p2), .val (.int p3), .val (.int p4), .val (.int p5), .val (.int (4 : Int32)), .val (.ref b), .val (.long (((p2.toInt64 + p3.toInt64) + p4.toInt64) + p5.toInt64)), .second, .unset, .unset, .unset, .unset] [(.double (FP.l2d (((p2.toInt64 + p3.toInt64) + p4.toInt64) + p5.toInt64)))])
    refine own_go (fun _ k => XS.iload Xz35.here hx rfl (hb hby at_85) rfl k) ?_
    show own_Go _ _ _ _ Tz35 (mkF m 87 #[.val (.int p1), .val (.int p2), .val (.int p3), .val (.int p4), .val (.int p5), .val (.int (4 : Int32)), .val (.ref b), .val (.long (((p2.toInt64 + p3.toInt64) + p4.toInt64) + p5.toInt64)), .second, .unset, .unset, .unset, .unset] [(.int (4 : Int32)), (.double (FP.l2d (((p2.toInt64 + p3.toInt64) + p4.toInt64) + p5.toInt64)))])
    refine own_go (fun _ k => XS.i2dS Xz35.here hx rfl (hb hby at_87) rfl rfl k) ?_
    show own_Go _ _ _ _ Tz35 (mkF m 88 #[.val (.int p1), .val (.int p2), .val (.int p3), .val (.int p4), .val (.int p5), .val (.int (4 : Int32)), .val (.ref b), .val (.long (((p2.toInt64 + p3.toInt64) + p4.toInt64) + p5.toInt64)), .second, .unset, .unset, .unset, .unset] [(.double (FP.i2d (4 : Int32))), (.double (FP.l2d (((p2.toInt64 + p3.toInt64) + p4.toInt64) + p5.toInt64)))])
    rw [← own_s p2]
    have hnn := ddiv_out (l2d_fin (((((0 : Int64) + p2.toInt64) + p3.toInt64) + p4.toInt64) + p5.toInt64)).noNaN (i2d_fin (4 : Int32)) (own_nz (4 : Int32) (by decide))
    refine own_go (fun _ k => XS.ddivS Xz35.here hx rfl (hb hby at_88) rfl hnn rfl k) ?_
    show own_Go _ _ _ _ Tz35 (mkF m 89 #[.val (.int p1), .val (.int p2), .val (.int p3), .val (.int p4), .val (.int p5), .val (.int (4 : Int32)), .val (.ref b), .val (.long (((((0 : Int64) + p2.toInt64) + p3.toInt64) + p4.toInt64) + p5.toInt64)), .second, .unset, .unset, .unset, .unset] [(.double (FP.ddiv (FP.l2d (((((0 : Int64) + p2.toInt64) + p3.toInt64) + p4.toInt64) + p5.toInt64)) (FP.i2d (4 : Int32))))])
    refine own_go (fun _ k => XS.dstore Xz35.here hx rfl (hb hby at_89) rfl (l' := #[.val (.int p1), .val (.int p2), .val (.int p3), .val (.int p4), .val (.int p5), .val (.int (4 : Int32)), .val (.ref b), .val (.long (((((0 : Int64) + p2.toInt64) + p3.toInt64) + p4.toInt64) + p5.toInt64)), .second, .val (.double (FP.ddiv (FP.l2d (((((0 : Int64) + p2.toInt64) + p3.toInt64) + p4.toInt64) + p5.toInt64)) (FP.i2d (4 : Int32)))), .second, .unset, .unset]) rfl k) ?_
    show own_Go _ _ _ _ Tz35 (mkF m 91 #[.val (.int p1), .val (.int p2), .val (.int p3), .val (.int p4), .val (.int p5), .val (.int (4 : Int32)), .val (.ref b), .val (.long (((((0 : Int64) + p2.toInt64) + p3.toInt64) + p4.toInt64) + p5.toInt64)), .second, .val (.double (FP.ddiv (FP.l2d (((((0 : Int64) + p2.toInt64) + p3.toInt64) + p4.toInt64) + p5.toInt64)) (FP.i2d (4 : Int32)))), .second, .unset, .unset] [])
    refine own_go (fun _ k => XS.aload Xz35.here hx rfl (hb hby at_91) rfl rfl k) ?_
    show own_Go _ _ _ _ Tz35 (mkF m 93 #[.val (.int p1), .val (.int p2), .val (.int p3), .val (.int p4), .val (.int p5), .val (.int (4 : Int32)), .val (.ref b), .val (.long (((((0 : Int64) + p2.toInt64) + p3.toInt64) + p4.toInt64) + p5.toInt64)), .second, .val (.double (FP.ddiv (FP.l2d (((((0 : Int64) + p2.toInt64) + p3.toInt64) + p4.toInt64) + p5.toInt64)) (FP.i2d (4 : Int32)))), .second, .unset, .unset] [(.ref b)])
    obtain ⟨vz36, Tz36, Lz36, Xz36, hQz36, stz36⟩ := own_callS Xz35 hx hZ hown (hw _ (List.mem_of_getElem? (i := 1) rfl)) (hw _ (List.mem_of_getElem? (i := 2) rfl)) (hw _ (List.mem_of_getElem? (i := 3) rfl)) (hw _ (List.mem_of_getElem? (i := 4) rfl)) (by decide) ez35 (own_rmm4 l Z a0 hw [] b hz35 n0 p2 p3 p4 p5 kz31 V_b) (W := 0) (by decide) (by decide) (by decide) (by decide) own_pd0 rfl (g := (mkF m 93 #[.val (.int p1), .val (.int p2), .val (.int p3), .val (.int p4), .val (.int p5), .val (.int (4 : Int32)), .val (.ref b), .val (.long (((((0 : Int64) + p2.toInt64) + p3.toInt64) + p4.toInt64) + p5.toInt64)), .second, .val (.double (FP.ddiv (FP.l2d (((((0 : Int64) + p2.toInt64) + p3.toInt64) + p4.toInt64) + p5.toInt64)) (FP.i2d (4 : Int32)))), .second, .unset, .unset] [(.ref b)])) (argsL := [(.ref b)]) (rest := []) rfl (by rw [hml]; rfl) rfl (by show 2 * 0 + _ ≤ _; exact Nat.le_of_eq rfl) (hb hby at_93)
    obtain ⟨rfl, Nz36q, ehz36⟩ := hQz36
    have Nz36 := Fr.app Nz35 Nz36q
    refine own_go stz36 ?_
    show own_Go _ _ _ _ Tz36 (mkF m 96 #[.val (.int p1), .val (.int p2), .val (.int p3), .val (.int p4), .val (.int p5), .val (.int (4 : Int32)), .val (.ref b), .val (.long (((((0 : Int64) + p2.toInt64) + p3.toInt64) + p4.toInt64) + p5.toInt64)), .second, .val (.double (FP.ddiv (FP.l2d (((((0 : Int64) + p2.toInt64) + p3.toInt64) + p4.toInt64) + p5.toInt64)) (FP.i2d (4 : Int32)))), .second, .unset, .unset] [(.double (FP.ddiv (FP.l2d (((((0 : Int64) + p2.toInt64) + p3.toInt64) + p4.toInt64) + p5.toInt64)) (FP.i2d (4 : Int32))))])
    refine own_go (fun _ k => XS.dstore Xz36.here hx rfl (hb hby at_96) rfl (l' := #[.val (.int p1), .val (.int p2), .val (.int p3), .val (.int p4), .val (.int p5), .val (.int (4 : Int32)), .val (.ref b), .val (.long (((((0 : Int64) + p2.toInt64) + p3.toInt64) + p4.toInt64) + p5.toInt64)), .second, .val (.double (FP.ddiv (FP.l2d (((((0 : Int64) + p2.toInt64) + p3.toInt64) + p4.toInt64) + p5.toInt64)) (FP.i2d (4 : Int32)))), .second, .val (.double (FP.ddiv (FP.l2d (((((0 : Int64) + p2.toInt64) + p3.toInt64) + p4.toInt64) + p5.toInt64)) (FP.i2d (4 : Int32)))), .second]) rfl k) ?_
    show own_Go _ _ _ _ Tz36 (mkF m 98 #[.val (.int p1), .val (.int p2), .val (.int p3), .val (.int p4), .val (.int p5), .val (.int (4 : Int32)), .val (.ref b), .val (.long (((((0 : Int64) + p2.toInt64) + p3.toInt64) + p4.toInt64) + p5.toInt64)), .second, .val (.double (FP.ddiv (FP.l2d (((((0 : Int64) + p2.toInt64) + p3.toInt64) + p4.toInt64) + p5.toInt64)) (FP.i2d (4 : Int32)))), .second, .val (.double (FP.ddiv (FP.l2d (((((0 : Int64) + p2.toInt64) + p3.toInt64) + p4.toInt64) + p5.toInt64)) (FP.i2d (4 : Int32)))), .second] [])
    refine own_go (fun _ k => XS.dload Xz36.here hx rfl (hb hby at_98) rfl k) ?_
    show own_Go _ _ _ _ Tz36 (mkF m 100 #[.val (.int p1), .val (.int p2), .val (.int p3), .val (.int p4), .val (.int p5), .val (.int (4 : Int32)), .val (.ref b), .val (.long (((((0 : Int64) + p2.toInt64) + p3.toInt64) + p4.toInt64) + p5.toInt64)), .second, .val (.double (FP.ddiv (FP.l2d (((((0 : Int64) + p2.toInt64) + p3.toInt64) + p4.toInt64) + p5.toInt64)) (FP.i2d (4 : Int32)))), .second, .val (.double (FP.ddiv (FP.l2d (((((0 : Int64) + p2.toInt64) + p3.toInt64) + p4.toInt64) + p5.toInt64)) (FP.i2d (4 : Int32)))), .second] [(.double (FP.ddiv (FP.l2d (((((0 : Int64) + p2.toInt64) + p3.toInt64) + p4.toInt64) + p5.toInt64)) (FP.i2d (4 : Int32))))])
    refine own_go (fun _ k => XS.dload Xz36.here hx rfl (hb hby at_100) rfl k) ?_
    show own_Go _ _ _ _ Tz36 (mkF m 102 #[.val (.int p1), .val (.int p2), .val (.int p3), .val (.int p4), .val (.int p5), .val (.int (4 : Int32)), .val (.ref b), .val (.long (((((0 : Int64) + p2.toInt64) + p3.toInt64) + p4.toInt64) + p5.toInt64)), .second, .val (.double (FP.ddiv (FP.l2d (((((0 : Int64) + p2.toInt64) + p3.toInt64) + p4.toInt64) + p5.toInt64)) (FP.i2d (4 : Int32)))), .second, .val (.double (FP.ddiv (FP.l2d (((((0 : Int64) + p2.toInt64) + p3.toInt64) + p4.toInt64) + p5.toInt64)) (FP.i2d (4 : Int32)))), .second] [(.double (FP.ddiv (FP.l2d (((((0 : Int64) + p2.toInt64) + p3.toInt64) + p4.toInt64) + p5.toInt64)) (FP.i2d (4 : Int32)))), (.double (FP.ddiv (FP.l2d (((((0 : Int64) + p2.toInt64) + p3.toInt64) + p4.toInt64) + p5.toInt64)) (FP.i2d (4 : Int32))))])
    refine own_go (fun _ k => XS.dcmpS Xz36.here hx rfl (hb hby at_102) rfl (dcmpV_self hnn _) k) ?_
    show own_Go _ _ _ _ Tz36 (mkF m 103 #[.val (.int p1), .val (.int p2), .val (.int p3), .val (.int p4), .val (.int p5), .val (.int (4 : Int32)), .val (.ref b), .val (.long (((((0 : Int64) + p2.toInt64) + p3.toInt64) + p4.toInt64) + p5.toInt64)), .second, .val (.double (FP.ddiv (FP.l2d (((((0 : Int64) + p2.toInt64) + p3.toInt64) + p4.toInt64) + p5.toInt64)) (FP.i2d (4 : Int32)))), .second, .val (.double (FP.ddiv (FP.l2d (((((0 : Int64) + p2.toInt64) + p3.toInt64) + p4.toInt64) + p5.toInt64)) (FP.i2d (4 : Int32)))), .second] [(.int (0 : Int32))])
    refine own_go (fun _ k => XS.ifNo Xz36.here hx rfl (hb hby at_103) rfl ((if0 _ _).trans (teq (by decide : (0 : Int32) = (0 : Int32))).2) k) ?_
    show own_Go _ _ _ _ Tz36 (mkF m 106 #[.val (.int p1), .val (.int p2), .val (.int p3), .val (.int p4), .val (.int p5), .val (.int (4 : Int32)), .val (.ref b), .val (.long (((((0 : Int64) + p2.toInt64) + p3.toInt64) + p4.toInt64) + p5.toInt64)), .second, .val (.double (FP.ddiv (FP.l2d (((((0 : Int64) + p2.toInt64) + p3.toInt64) + p4.toInt64) + p5.toInt64)) (FP.i2d (4 : Int32)))), .second, .val (.double (FP.ddiv (FP.l2d (((((0 : Int64) + p2.toInt64) + p3.toInt64) + p4.toInt64) + p5.toInt64)) (FP.i2d (4 : Int32)))), .second] [])
    refine own_go (fun _ k => XS.iconst Xz36.here hx rfl (hb hby at_106) k) ?_
    show own_Go _ _ _ _ Tz36 (mkF m 107 #[.val (.int p1), .val (.int p2), .val (.int p3), .val (.int p4), .val (.int p5), .val (.int (4 : Int32)), .val (.ref b), .val (.long (((((0 : Int64) + p2.toInt64) + p3.toInt64) + p4.toInt64) + p5.toInt64)), .second, .val (.double (FP.ddiv (FP.l2d (((((0 : Int64) + p2.toInt64) + p3.toInt64) + p4.toInt64) + p5.toInt64)) (FP.i2d (4 : Int32)))), .second, .val (.double (FP.ddiv (FP.l2d (((((0 : Int64) + p2.toInt64) + p3.toInt64) + p4.toInt64) + p5.toInt64)) (FP.i2d (4 : Int32)))), .second] [(.int (1 : Int32))])
    refine own_go (fun _ k => XS.goto Xz36.here hx rfl (pc0 := 107) (pc' := 111) rfl (hb hby at_107) (by decide) (by decide) k) ?_
    show own_Go _ _ _ _ Tz36 (mkF m 111 #[.val (.int p1), .val (.int p2), .val (.int p3), .val (.int p4), .val (.int p5), .val (.int (4 : Int32)), .val (.ref b), .val (.long (((((0 : Int64) + p2.toInt64) + p3.toInt64) + p4.toInt64) + p5.toInt64)), .second, .val (.double (FP.ddiv (FP.l2d (((((0 : Int64) + p2.toInt64) + p3.toInt64) + p4.toInt64) + p5.toInt64)) (FP.i2d (4 : Int32)))), .second, .val (.double (FP.ddiv (FP.l2d (((((0 : Int64) + p2.toInt64) + p3.toInt64) + p4.toInt64) + p5.toInt64)) (FP.i2d (4 : Int32)))), .second] [(.int (1 : Int32))])
    exact own_end Xz36 hlk (v := (some (.int (1 : Int32)))) (fun h => by rw [hret] at h; cases h) (fun fs hr => retN Xz36 hx (t := .boolean) hret (by simp) (hb hby at_111) hr) (by rw [ehz36]; exact ⟨rfl, Nz36⟩) (by decide) (by decide)
set_option maxRecDepth 65536 in
set_option maxHeartbeats 40000000 in
theorem own_comes {Post : Tables → Env → Array Value → State → Outcome → State → Prop} (hpost : ∀ tb e args s v u, (limb_1_1.after args s (.returned v) u = true ∧ limb_1_2.after args s (.returned v) u = true ∧ True) → FrameEnd s (.returned v) u (Jvm.fieldLocs frame_1_writes args s ++ Jvm.arrayLocs frame_1_arrays args s ++ Jvm.staticLocs frame_1_statics s) 16 128 → Post tb e args s (.returned v) u) :
    ArmFor flags0 classFile x code maxLocals ret World_1 tables_1 room_1 Calls_1 rest_1 Pre_1 Post := by
  intro l hfl _ _ p e ha hc hk s m args below hf hA hF happ hP
  obtain ⟨hcalls, hrest, hpre⟩ := hP
  obtain ⟨-, -, -, hnamed, -, -, -, hat⟩ := (Spec.applies_iff hf).mp happ
  obtain ⟨hg, hn⟩ := and_e (Cond.before_iff.mp (show (Jvm.Cond.and given_1 narrow_1).before args s = true from hpre))
  obtain ⟨g1, g2⟩ := and_e hg
  obtain ⟨g3, g4⟩ := and_e g2
  obtain ⟨g5, g6⟩ := and_e g4
  obtain ⟨g7, g8⟩ := and_e g6
  obtain ⟨g9, g10⟩ := and_e g8
  obtain ⟨w0, w1, w2, w3, w4, rfl⟩ : ∃ w0 w1 w2 w3 w4 : Value, args = #[w0, w1, w2, w3, w4] := by
    have hs : args.size = 5 := by simpa [Cond.value, given_1] using g1
    obtain ⟨L⟩ := args
    match L, hs with
    | [w0, w1, w2, w3, w4], _ => exact ⟨w0, w1, w2, w3, w4, rfl⟩
  have hw := fun d (hd : d ∈ tables_1) => atoms_spec (ws := Jvm.Cond.code x code maxLocals ret :: tables_1) hat d (List.mem_cons_of_mem _ hd)
  have hfit : Fit s := fun {y c} hc i hi => by
    obtain ⟨ha, rfl⟩ := Array.getElem?_eq_some_iff.mp hc
    have q := List.all_eq_true.mp ((Array.all_eq_true_iff_forall_mem.mp hF) _ (Array.getElem_mem ha)) i (List.mem_range.mpr hi)
    simpa [Array.getElem?_eq_getElem hi] using q
  obtain ⟨i0, ei0⟩ := is_v g3
  obtain rfl : w0 = (.int i0) := Option.some.inj ei0
  obtain ⟨i1, ei1⟩ := is_v g5
  obtain rfl : w1 = (.int i1) := Option.some.inj ei1
  obtain ⟨i2, ei2⟩ := is_v g7
  obtain rfl : w2 = (.int i2) := Option.some.inj ei2
  obtain ⟨i3, ei3⟩ := is_v g9
  obtain rfl : w3 = (.int i3) := Option.some.inj ei3
  obtain ⟨i4, ei4⟩ := is_v g10
  obtain rfl : w4 = (.int i4) := Option.some.inj ei4
  obtain ⟨n, o, h1, h2, h3, _, L, rfl, ⟨rfl, N⟩, hq⟩ := own_rm0 l s _ hw tables_1 i0 i1 i2 i3 i4 s.heap s.heap.size (Old.start s) p e ha hc hk s m _ below hf ((Spec.applies_iff_loose hf).mp happ).1 ⟨rfl, State.Warmed39.refl s, rfl⟩ trivial
  refine ⟨n, _, h1, h2, h3, hpost _ _ _ _ _ _ ⟨Cond.after_iff.mpr rfl, Cond.after_iff.mpr (eq_i res_at (Term.int_eval (1)) rfl), trivial⟩ ⟨hq.1, hq.2.1, (hq.2.2.sift fun y hy => Or.inr (N y hy)).mono (by decide) (by decide)⟩⟩
theorem main_1_1 : Claimed_1_1 := own_comes fun _ _ _ _ _ _ h hF => ⟨h.1, hF⟩
theorem main_1_2 : Claimed_1_2 := own_comes fun _ _ _ _ _ _ h hF => ⟨h.2.1, hF⟩
end Jvm.Pilot.@@N@@
namespace Jvm.Pilot.@@N@@
open Jvm Jvm.ClassFile Sem Op Lib Jvm.Free Jvm.Stand Jvm.Pilot.@@N@@.Jvm.D
/-! MADE BY PROGRAM (witnessworld.py) out of the Statement's table words and the real class files: 12 classes; the members and pool entries that the words name. The judged class is class 1, her method 1. -/
namespace start1
open Jvm.ClassFile
def u (s : String) : CpInfo := .utf8 (stringToUtf16 s)
/-- a pool by its gaps: so many unusable entries, then the entry; so many at the end -/
def gap : Nat → List CpInfo → List CpInfo
  | 0, r => r
  | n + 1, r => .unusable :: gap n r
def poolList (es : List (Nat × CpInfo)) (last : Nat) : List CpInfo := es.foldr (fun e r => gap e.1 (e.2 :: r)) (gap last [])
def pool (es : List (Nat × CpInfo)) (last : Nat) : Array CpInfo := ⟨poolList es last⟩
def fileOf (pool : Array CpInfo) (this : Nat) (attrs : Array Attribute := #[]) (ms : Array MethodInfo := #[]) (fl : Nat := 33) (sup : Nat := 0) (ifs : Array Nat := #[]) (fds : Array FieldInfo := #[]) : ClassFile where
  minorVersion := 0
  majorVersion := 65
  constantPool := pool
  accessFlags := fl
  thisClass := this
  superClass := sup
  interfaces := ifs
  fields := fds
  methods := ms
  attributes := attrs
def plain (name : String) (sup : Option ClassId) : Class where
  name := name
  kind := .ordinary
  loader := none
  accessFlags := 33
  super := sup
  interfaces := #[]
  cf := none
  fields := #[]
  methods := #[]
  instanceTypes := #[]
  staticTypes := #[]
  resolved := #[]
  callSites := []
  init := .initialized
  statics := none
  mirror := none

def pool0 : Array CpInfo := pool [(5, u "<init>"), (0, u "()V"), (1, .class_ 10), (1, u "java/lang/Object")] 113

def k0m0 : Method := { name := "<init>", desc := "()V", sig := { parameters := [], returnType := none }, accessFlags := 1, code := none }
/-- java/lang/Object -/
def k0 : Class := { plain "java/lang/Object" none with
  accessFlags := 33
  interfaces := #[]
  cf := some (fileOf pool0 8 #[] #[{ accessFlags := 1, nameIndex := 5, descriptorIndex := 6, attributes := #[] }] 33 0 #[] #[])
  fields := #[]
  methods := #[k0m0]
  instanceTypes := #[]
  staticTypes := #[]
  resolved := Array.replicate 124 none
  statics := none }

def pool1 : Array CpInfo := pool [(2, .class_ 4), (1, u "java/lang/Object"), (0, u "<init>"), (0, u "()V"), (0, .methodref 8 9), (0, .class_ 10), (0, .nameAndType 11 12), (0, u "com/example/tailgauge/tailgauge/model/Returns"), (0, u "mean"), (0, u "([D)D"), (0, .class_ 14), (0, u "com/example/tailgauge/tailgauge/model/ReturnsMeanPinLaw"), (2, u "law"), (0, u "(IIIII)Z")] 5

def k1m0 : Method := { name := "<init>", desc := "()V", sig := { parameters := [], returnType := none }, accessFlags := 1, code := none }
def k1c1 : Code := { maxStack := 4, maxLocals := 13, code := code, exceptionTable := #[], attributes := #[] }
def k1m1 : Method := { name := "law", desc := "(IIIII)Z", sig := { parameters := [.int, .int, .int, .int, .int], returnType := some .boolean }, accessFlags := 9, code := some k1c1 }
/-- com/example/tailgauge/tailgauge/model/ReturnsMeanPinLaw -/
def k1 : Class := { plain "com/example/tailgauge/tailgauge/model/ReturnsMeanPinLaw" (some 0) with
  accessFlags := 49
  interfaces := #[]
  cf := some (fileOf pool1 13 #[] #[{ accessFlags := 1, nameIndex := 5, descriptorIndex := 6, attributes := #[] }, { accessFlags := 9, nameIndex := 17, descriptorIndex := 18, attributes := #[] }] 49 2 #[] #[])
  fields := #[]
  methods := #[k1m0, k1m1]
  instanceTypes := #[]
  staticTypes := #[]
  resolved := Array.replicate 24 none
  statics := none }

def pool2 : Array CpInfo := pool [(1, .class_ 2), (0, u "java/lang/constant/Constable"), (0, .class_ 4), (0, u "java/lang/Object")] 6

/-- java/lang/constant/Constable -/
def k2 : Class := { plain "java/lang/constant/Constable" (some 0) with
  accessFlags := 1537
  interfaces := #[]
  cf := some (fileOf pool2 1 #[] #[] 1537 3 #[] #[])
  fields := #[]
  methods := #[]
  instanceTypes := #[]
  staticTypes := #[]
  resolved := Array.replicate 11 none
  statics := none }

def pool3 : Array CpInfo := pool [(1, .class_ 2), (0, u "java/lang/Comparable"), (0, .class_ 4), (0, u "java/lang/Object")] 7

/-- java/lang/Comparable -/
def k3 : Class := { plain "java/lang/Comparable" (some 0) with
  accessFlags := 1537
  interfaces := #[]
  cf := some (fileOf pool3 1 #[] #[] 1537 3 #[] #[])
  fields := #[]
  methods := #[]
  instanceTypes := #[]
  staticTypes := #[]
  resolved := Array.replicate 12 none
  statics := none }

def pool4 : Array CpInfo := pool [(1, .class_ 2), (0, u "java/io/Serializable"), (0, .class_ 4), (0, u "java/lang/Object")] 2

/-- java/io/Serializable -/
def k4 : Class := { plain "java/io/Serializable" (some 0) with
  accessFlags := 1537
  interfaces := #[]
  cf := some (fileOf pool4 1 #[] #[] 1537 3 #[] #[])
  fields := #[]
  methods := #[]
  instanceTypes := #[]
  staticTypes := #[]
  resolved := Array.replicate 7 none
  statics := none }

def pool5 : Array CpInfo := pool [(2, .class_ 4), (1, u "java/lang/Enum"), (0, u "name"), (0, u "Ljava/lang/String;"), (2, u "ordinal"), (0, u "I"), (1, .class_ 14), (1, u "java/lang/Object"), (4, u "hash"), (86, .class_ 108), (1, u "java/lang/Enum$EnumDesc"), (2, .class_ 112), (0, u "java/lang/constant/Constable"), (0, .class_ 114), (0, u "java/lang/Comparable"), (0, .class_ 116), (0, u "java/io/Serializable")] 87

/-- java/lang/Enum -/
def k5 : Class := { plain "java/lang/Enum" (some 0) with
  accessFlags := 1057
  interfaces := #[2, 3, 4]
  cf := some (fileOf pool5 2 #[.nestMembers #[106]] #[] 1057 12 #[111, 113, 115] #[{ accessFlags := 18, nameIndex := 5, descriptorIndex := 6, attributes := #[] }, { accessFlags := 18, nameIndex := 9, descriptorIndex := 10, attributes := #[] }, { accessFlags := 2, nameIndex := 19, descriptorIndex := 10, attributes := #[] }])
  fields := #[{ name := "name", type := (.object "java/lang/String"), accessFlags := 18, slot := 0, constantValue := 0 }, { name := "ordinal", type := .int, accessFlags := 18, slot := 1, constantValue := 0 }, { name := "hash", type := .int, accessFlags := 2, slot := 2, constantValue := 0 }]
  methods := #[]
  instanceTypes := #[(.object "java/lang/String"), .int, .int]
  staticTypes := #[]
  resolved := Array.replicate 204 none
  statics := none }

def pool6 : Array CpInfo := pool [(1, .class_ 2), (0, u "com/example/tailgauge/tailgauge/model/Returns"), (2, u "LOG"), (0, u "Lcom/example/tailgauge/tailgauge/model/Returns;"), (2, u "SIMPLE"), (2, u "$VALUES"), (0, u "[Lcom/example/tailgauge/tailgauge/model/Returns;"), (6, .class_ 22), (1, u "java/lang/Enum"), (8, u "label"), (0, u "Ljava/lang/String;"), (46, .class_ 80), (0, u "com/example/tailgauge/tailgauge/model/Returns$1"), (6, .class_ 88), (0, u "com/example/tailgauge/tailgauge/model/Returns$2"), (20, u "mean"), (0, u "([D)D")] 33

def k6c0 : Code := { maxStack := 4, maxLocals := 8, code := prog_16_method_6_code, exceptionTable := #[], attributes := #[] }
def k6m0 : Method := { name := "mean", desc := "([D)D", sig := { parameters := [(.array .double)], returnType := some .double }, accessFlags := 8, code := some k6c0 }
/-- com/example/tailgauge/tailgauge/model/Returns -/
def k6 : Class := { plain "com/example/tailgauge/tailgauge/model/Returns" (some 5) with
  accessFlags := 17441
  interfaces := #[]
  cf := some (fileOf pool6 1 #[.nestMembers #[87, 79]] #[{ accessFlags := 8, nameIndex := 109, descriptorIndex := 110, attributes := #[] }] 17441 20 #[] #[{ accessFlags := 16409, nameIndex := 5, descriptorIndex := 6, attributes := #[] }, { accessFlags := 16409, nameIndex := 9, descriptorIndex := 6, attributes := #[] }, { accessFlags := 18, nameIndex := 31, descriptorIndex := 32, attributes := #[] }, { accessFlags := 4122, nameIndex := 12, descriptorIndex := 13, attributes := #[] }])
  fields := #[{ name := "LOG", type := (.object "com/example/tailgauge/tailgauge/model/Returns"), accessFlags := 16409, slot := 0, constantValue := 0 }, { name := "SIMPLE", type := (.object "com/example/tailgauge/tailgauge/model/Returns"), accessFlags := 16409, slot := 1, constantValue := 0 }, { name := "label", type := (.object "java/lang/String"), accessFlags := 18, slot := 3, constantValue := 0 }, { name := "$VALUES", type := (.array (.object "com/example/tailgauge/tailgauge/model/Returns")), accessFlags := 4122, slot := 2, constantValue := 0 }]
  methods := #[k6m0]
  instanceTypes := #[(.object "java/lang/String"), .int, .int, (.object "java/lang/String")]
  staticTypes := #[(.object "com/example/tailgauge/tailgauge/model/Returns"), (.object "com/example/tailgauge/tailgauge/model/Returns"), (.array (.object "com/example/tailgauge/tailgauge/model/Returns"))]
  resolved := Array.replicate 144 none
  statics := none }

def pool7 : Array CpInfo := pool [(1, u "java/lang/Cloneable"), (0, .class_ 1), (0, u "java/lang/Object"), (0, .class_ 3)] 3

/-- java/lang/Cloneable -/
def k7 : Class := { plain "java/lang/Cloneable" (some 0) with
  accessFlags := 1537
  interfaces := #[]
  cf := some (fileOf pool7 2 #[] #[] 1537 4 #[] #[])
  fields := #[]
  methods := #[]
  instanceTypes := #[]
  staticTypes := #[]
  resolved := Array.replicate 8 none
  statics := none }

/-- the primitive byte -/
def k8 : Class := { plain "byte" none with kind := .primitive 'B', accessFlags := 0x411 }
/-- [B -/
def k9 : Class := { plain "[B" (some 0) with kind := .array 8 .byte, interfaces := #[7, 4], accessFlags := 1041 }

/-- the primitive int -/
def k10 : Class := { plain "int" none with kind := .primitive 'I', accessFlags := 0x411 }
/-- [I -/
def k11 : Class := { plain "[I" (some 0) with kind := .array 10 .int, interfaces := #[7, 4], accessFlags := 1041 }

def k12 : Class := { plain "double" none with kind := .primitive 'D', accessFlags := 0x411 }
def k13 : Class := { plain "[D" (some 0) with kind := .array 12 .double, interfaces := #[7, 4], accessFlags := 1041 }
def heap : Heap := #[]
def classes : Array Class := #[k0, k1, k2, k3, k4, k5, k6, k7, k8, k9, k10, k11, k12, k13]
def interned : List (Array UInt16 × Addr) := []
def slotsUsed : Nat := 0
def theMethod : MethodId := ⟨1, 1⟩
def args0 : Array Value := #[.int 1, .int 2, .int 3, .int 4, .int 5]
def aboutOver (below : List Frame) : State where
  vm := { classes := classes, interned := interned.toArray }
  heap := heap
  slotsUsed := slotsUsed
  threads := #[{ frames := .invoking theMethod args0 :: below }]
def below0 : List Frame := [.native { method := ⟨0, 0⟩, args := #[] }]
def about1 : State := aboutOver below0
def p0 : Program := .bare "" "" ""
def e0 : Env := launch0.env 0 0 0
theorem w_frames : about1.frames = Frame.invoking theMethod args0 :: below0 := rfl
set_option maxRecDepth 65536 in
theorem w_args : argsFit about1.vm theMethod args0 = true := by decide +kernel
set_option maxRecDepth 65536 in
theorem w_heap : heapFits about1 = true := by decide +kernel
set_option maxRecDepth 65536 in
theorem w_runnable : about1.curStatus? = some .runnable := by decide +kernel
set_option maxRecDepth 65536 in
theorem w_alone : about1.alone = true := by decide +kernel
set_option maxRecDepth 65536 in
theorem w_named : about1.methodNamed? x = some theMethod := by decide +kernel
set_option maxRecDepth 65536 in
theorem w_hears : about1.hears theMethod below0 = true := by decide +kernel
set_option maxRecDepth 65536 in
theorem w_ripe : about1.ripe theMethod args0 below0 = true := by decide +kernel
theorem w_running : about1.status = .running := rfl
set_option maxRecDepth 65536 in
theorem w_room : about1.hasRoom e0.platform room_1 = true :=
  launch0.hasRoom_least _ room_1 (by decide +kernel) (by decide +kernel) (by decide +kernel) (by decide +kernel) (by decide +kernel) (by decide +kernel)
theorem allAtoms_all (ts : List Jvm.Cond) (a : Array Jvm.Value) (st : Jvm.State) : (allAtoms ts).before a st = ts.all (fun c => c.before a st) := by
  induction ts with
  | nil => rfl
  | cons c t ih =>
    show (Jvm.Cond.and c (allAtoms t)).before a st = _
    rw [Jvm.Cond.before_and, ih, List.all_cons]
def words1 : List Jvm.Cond := Jvm.Cond.code x code maxLocals ret :: tables_1
/-- a 'code' word, met by the world's own term for the bytes: nothing is compared byte by byte -/
theorem code_word {y : MethodName} {bytes : ByteArray} {mx : Nat} {rt : Option FieldType} {a : Array Value} {s : State} {m : MethodId} {meth : Method} {c : Code} (h1 : s.methodNamed? y = some m) (h2 : s.vm.method? m = some meth) (h3 : meth.code = some c) (h4 : c.code = bytes)
    (h5 : (c.maxLocals == mx && c.exceptionTable.isEmpty && decide (c.maxStack ≤ mostOperands) && decide (meth.sig.returnType = rt) && !meth.locks && decide (parseMethodDescriptor y.desc = some meth.sig)) = true) : (Jvm.Cond.code y bytes mx rt).before a s = true := by
  simp only [Bool.and_eq_true, beq_iff_eq, Bool.not_eq_true', decide_eq_true_eq] at h5
  obtain ⟨⟨⟨⟨⟨g1, g2⟩, g3⟩, g4⟩, g5⟩, g6⟩ := h5
  simp [Cond.before, Cond.holds, Cond.value, h1, h2, h3, h4, g1, g2, g3, g4, g5, g6]
def isCode : Jvm.Cond → Bool
  | .code _ _ _ _ => true
  | _ => false
theorem all_split {L : List Jvm.Cond} {P : Jvm.Cond → Bool} (h1 : L.all (fun c => isCode c || P c) = true) (h2 : ∀ c ∈ L.filter isCode, P c = true) : L.all P = true := by
  refine List.all_eq_true.mpr fun c hc => ?_
  have h := List.all_eq_true.mp h1 c hc
  rcases Bool.eq_false_or_eq_true (isCode c) with hi | hi
  · exact h2 c (List.mem_filter.mpr ⟨hc, hi⟩)
  · simpa [hi] using h
set_option maxRecDepth 65536 in
theorem w_c0 : (Jvm.Cond.code x code maxLocals ret).before args0 about1 = true := code_word (m := ⟨1, 1⟩) (meth := k1m1) (c := k1c1) (by decide +kernel) rfl rfl rfl (by decide +kernel)
set_option maxRecDepth 65536 in
theorem w_c1 : (Jvm.Cond.code ({ cls := "com/example/tailgauge/tailgauge/model/Returns", name := "mean", desc := "([D)D" } : Jvm.MethodName) prog_16_method_6_code (8 : Nat) (Option.some Jvm.ClassFile.FieldType.double)).before args0 about1 = true := code_word (m := ⟨6, 0⟩) (meth := k6m0) (c := k6c0) (by decide +kernel) rfl rfl rfl (by decide +kernel)
def codes1 : List Jvm.Cond := [Jvm.Cond.code x code maxLocals ret, Jvm.Cond.code ({ cls := "com/example/tailgauge/tailgauge/model/Returns", name := "mean", desc := "([D)D" } : Jvm.MethodName) prog_16_method_6_code (8 : Nat) (Option.some Jvm.ClassFile.FieldType.double)]
set_option maxRecDepth 65536 in
theorem codes_eq : words1.filter isCode = codes1 := rfl
theorem w_codes : ∀ c ∈ words1.filter isCode, c.before args0 about1 = true := by
  rw [codes_eq]
  intro c hc
  simp only [codes1, List.mem_cons, List.not_mem_nil, or_false] at hc
  rcases hc with rfl | rfl
  · exact w_c0
  · exact w_c1
set_option maxRecDepth 65536 in
theorem w_t1 : words1.all (fun c => isCode c || c.before args0 about1) = true := by decide +kernel
theorem w_tables : (allAtoms (Jvm.Cond.code x code maxLocals ret :: tables_1)).before args0 about1 = true := by
  rw [allAtoms_all]
  show words1.all (fun c => c.before args0 about1) = true
  refine all_split ?_ w_codes
  rw [w_t1]
set_option maxRecDepth 65536 in
theorem w_case : (Jvm.Cond.and given_1 narrow_1).before args0 about1 = true := by decide +kernel
theorem w_applies : (headSpec (Jvm.Cond.code x code maxLocals ret :: tables_1) room_1).applies x e0.platform about1 = true :=
  (Spec.applies_iff w_frames).mpr ⟨w_running, w_runnable, w_alone, w_named, w_hears, w_ripe, w_room, w_tables⟩
theorem atStart : AtStart classFile x code maxLocals ret World_1 tables_1 room_1 Calls_1 rest_1 Pre_1 launch0 p0 e0 about1 theMethod args0 below0 :=
  ⟨lists_1, trivial, launch0.admits_env _ _ _, launch0.least_env, fairChoices_fair.cas, fairChoices_fair.clock, w_frames, w_args, w_heap, w_applies, trivial, trivial, w_case⟩
end start1
theorem witness_1 : WitnessClaimed_1 := ⟨start1.p0, start1.e0, start1.about1, start1.theMethod, start1.args0, start1.below0, start1.atStart⟩
end Jvm.Pilot.@@N@@
