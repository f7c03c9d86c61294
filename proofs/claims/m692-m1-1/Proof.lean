import JvmDerived
import JvmDerived.Pilot.@@N@@Statement
import JvmDerived.Pilot.@@N@@Code
set_option linter.unusedVariables false
set_option linter.unusedSimpArgs false
namespace Jvm.Pilot.@@N@@
open Jvm Jvm.ClassFile Sem Op Lib Jvm.Free Jvm.Stand Jvm.LawKit Jvm.RoadKit Bundle Jvm.Pilot.@@N@@.Jvm.D
/-! own_: the walk's goal, said once: from the frame g at T the run comes to an end that Fin holds of -/
def own_Go (p : Program) (e : Env) (below : List Frame) (Fin : Outcome → State → Prop) (T : State) (g : JFrame) : Prop :=
  ∃ s₂ o, Steps p.tables e below (T.setTop g) s₂ ∧ s₂.status = .running ∧ Ended s₂ below o ∧ Fin o s₂
def own_Fin (s : State) (Q : Option Value → Heap → List Loc → Prop) (k n : Nat) (o : Outcome) (t : State) : Prop :=
  ∃ v L, o = .returned v ∧ Q v t.heap L ∧ FrameEnd s o t L k n
section OwnGo
variable {p : Program} {l : Launch} {e : Env} {R : Room} {s : State} {m : MethodId} {args : Array Value} {below : List Frame} {meth : Method} {c : Code} {T T' : State} {locs : List Loc} {cells slots : Nat} {Z : State} {a0 : Array Value} {h : Heap} {g g' : JFrame} {Fin : Outcome → State → Prop} {k n : Nat} {Q : Option Value → Heap → List Loc → Prop}
theorem own_go (st : ∀ target, Steps p.tables e below (T'.setTop g') target → Steps p.tables e below (T.setTop g) target) (G : own_Go p e below Fin T' g') : own_Go p e below Fin T g := by
  obtain ⟨s₂, o, h, r⟩ := G
  exact ⟨s₂, o, st _ h, r⟩
theorem own_end (X : Stand p l e R s m args below meth c T locs cells slots) (hlk : meth.locks = false) {v : Option Value} (hv : meth.sig.returnType = none → v = none)
    (hr : ∀ fs, (∀ (f : JFrame) (acts : List Action), f.method = m → f.locked = none → f.entered = [] → (doReturn e (T.setTop f) acts v).1 = T.setFrames fs) → Steps p.tables e below (T.setTop g) (T.setFrames fs))
    (hQ : Q v T.heap locs) (hc : cells ≤ k) (hn : slots ≤ n) : own_Go p e below (own_Fin s Q k n) T g := by
  obtain ⟨fs, h1, hrun, hended, hW, hsame⟩ := X.leave hv hlk
  exact ⟨_, _, hr fs h1, hrun, hended, v, locs, rfl, hQ, ⟨_, rfl⟩, hW, hsame.mono hc hn⟩
theorem own_dia {α : Type} {C : Prop} [Decidable C] {v1 v0 : α} {f : α → JFrame} (h1 : C → own_Go p e below Fin T' (f v1) → own_Go p e below Fin T g) (h0 : ¬ C → own_Go p e below Fin T' (f v0) → own_Go p e below Fin T g) (G : own_Go p e below Fin T' (f (if C then v1 else v0))) : own_Go p e below Fin T g := by
  by_cases hC : C
  · rw [if_pos hC] at G; exact h1 hC G
  · rw [if_neg hC] at G; exact h0 hC G
end OwnGo
def own_Met (l : Launch) (Z : State) (y : MethodName) (bytes : ByteArray) (maxL : Nat) (ret : Option FieldType) (ws : List Jvm.Cond) (rm : Room) (as : Array Value) (h0 : Heap) (Q : Option Value → Heap → List Loc → Prop) : Prop :=
  MetFree l y (head1 (Jvm.Cond.code y bytes maxL ret :: ws) rm) (fun a U => a = as ∧ Z.Warmed39 U.vm ∧ U.heap = h0) (fun _ _ _ _ _ => True) (fun _ U o U' => ∃ v L, o = .returned v ∧ Q v U'.heap L ∧ FrameEnd U o U' L rm.cells rm.slots)
theorem own_met {l : Launch} {Z : State} {y : MethodName} {bytes : ByteArray} {maxL : Nat} {ret : Option FieldType} {ws : List Jvm.Cond} {rm : Room} {as : Array Value} {h0 : Heap} {Q : Option Value → Heap → List Loc → Prop} (hp : plainFor y = true)
    (body : ∀ (p : Program) (e : Env) (s : State) (m : MethodId) (below : List Frame) (meth : Method) (c : Code) (s₁ : State), Stand p l e rm s m as below meth c s₁ [] 0 0 → p.tables.exec = Jvm.exec → Z.Warmed39 s.vm → c.code = bytes → c.maxLocals = maxL → s.vm.findClass y.cls = some m.cls → meth.name = y.name → meth.sig.returnType = ret → meth.locks = false → s₁.heap = h0 →
      own_Go p e below (own_Fin s Q rm.cells rm.slots) s₁ (entryFrame m as maxL)) : own_Met l Z y bytes maxL ret ws rm as h0 Q := by
  refine MetFree.of_bodySF hp hisR ?_
  intro p e s m args below meth c s₁ Bd hml0 hP hK
  obtain ⟨rfl, hZ, hh⟩ := hP
  exact body p e s m below meth c s₁ (Stand.of_body Bd) Bd.exec hZ Bd.bytes hml0 (findClass_of_methodNamed Bd.named) (name_of_methodNamed Bd.named Bd.method).1 Bd.returns Bd.notSynchronized (by rw [← hh, Bd.state]; rfl)
section OwnCall
variable {p : Program} {l : Launch} {e : Env} {R : Room} {s : State} {m : MethodId} {args : Array Value} {below : List Frame} {meth : Method} {c : Code} {T : State} {locs : List Loc} {cells slots : Nat} {Z : State} {a0 : Array Value} {h : Heap} {g : JFrame} {Q : Option Value → Heap → List Loc → Prop} {own : String} {index : Nat} {y z : MethodName} {bytes : ByteArray} {maxL W : Nat} {ret r0 : Option FieldType} {rm : Room} {argsL rest : List Value} {ps : List FieldType} {b : Addr} {C : String}
theorem own_callS (X : Stand p l e R s m args below meth c T locs cells slots) (hx : p.tables.exec = Jvm.exec) (hZ : Z.Warmed39 s.vm) (hown : s.vm.findClass own = some m.cls) (wl : (Cond.methodLink own index y).before a0 Z = true) (ws : (Cond.static y).before a0 Z = true) (wi : (Cond.initialized y.cls).before a0 Z = true) (wc : (Cond.code y bytes maxL ret).before a0 Z = true)
    (hy : y.cls ≠ "java/lang/invoke/MethodHandle" ∧ y.cls ≠ "java/lang/invoke/VarHandle") (eT : T.heap = h) (hM : own_Met l Z y bytes maxL ret [] rm argsL.toArray h Q) (hf : rm.frames + 1 ≤ R.frames) (hl : W + (maxL + 11) + rm.locals ≤ R.locals) (hc : cells + rm.cells ≤ R.cells) (hn : slots + rm.slots ≤ R.slots)
    (hpd : parseMethodDescriptor y.desc = some ⟨ps, r0⟩) (hlen : argsL.length = ps.length) (hg : g.method = m) (hsize : g.locals.size = c.maxLocals) (hstack : g.stack = argsL.reverse ++ rest) (hW : 2 * g.monitorRoom + (rest.map fun v => v.category).sum ≤ W) (hd : decode c.code g.pc = .ok (.invokestatic index, 3)) :
    ∃ (v : Option Value) (T' : State) (L : List Loc), Stand p l e R s m args below meth c T' (locs ++ L) (cells + rm.cells) (slots + rm.slots) ∧ Q v T'.heap L ∧ ∀ target, Steps p.tables e below (T'.setTop { g with pc := g.pc + 3, stack := v.toList ++ rest }) target → Steps p.tables e below (T.setTop g) target := by
  obtain ⟨v, vm₁, ⟨T1, L1, k1, n1⟩, -, X1, ⟨Lc, hQ, l1, y1, z1⟩, st⟩ := Jvm.LawKit.callS X hx (y := y) hown (mvT hZ wl) (mvT hZ ws) (mvT hZ wi) (mvT hZ wc) hy (backOf (W := W) hM hZ wc wi hf hl) hg hsize (lenOf hpd hlen) hstack hW hd (fun _ _ => ⟨rfl, eT, hc, hn⟩)
  dsimp only [Pt.U, Pt.locs, Pt.cells, Pt.slots] at X1 l1 y1 z1 st hQ
  subst l1 y1 z1
  exact ⟨v, T1, Lc, X1, hQ, st⟩
theorem own_callI (X : Stand p l e R s m args below meth c T locs cells slots) (hx : p.tables.exec = Jvm.exec) (hZ : Z.Warmed39 s.vm) (hy1 : y.name = "<init>") (hown : s.vm.findClass own = some m.cls) (wl : (Cond.methodLink own index y).before a0 Z = true) (ws : (Cond.instanceMethod y).before a0 Z = true) (wi : (Cond.initialized y.cls).before a0 Z = true) (wc : (Cond.code y bytes maxL none).before a0 Z = true)
    (hy : y.cls ≠ "java/lang/invoke/MethodHandle" ∧ y.cls ≠ "java/lang/invoke/VarHandle") (eT : T.heap = h) (hM : own_Met l Z y bytes maxL none [] rm (.ref b :: argsL).toArray h Q) (hf : rm.frames + 1 ≤ R.frames) (hl : W + (maxL + 11) + rm.locals ≤ R.locals) (hc : cells + rm.cells ≤ R.cells) (hn : slots + rm.slots ≤ R.slots)
    (hpd : parseMethodDescriptor y.desc = some ⟨ps, r0⟩) (hlen : argsL.length = ps.length) (hg : g.method = m) (hsize : g.locals.size = c.maxLocals) (hstack : g.stack = argsL.reverse ++ .ref b :: rest) (hW : 2 * g.monitorRoom + (rest.map fun v => v.category).sum ≤ W) (hd : decode c.code g.pc = .ok (.invokespecial index, 3)) :
    ∃ (v : Option Value) (T' : State) (L : List Loc), Stand p l e R s m args below meth c T' (locs ++ L) (cells + rm.cells) (slots + rm.slots) ∧ Q v T'.heap L ∧ ∀ target, Steps p.tables e below (T'.setTop { g with pc := g.pc + 3, stack := v.toList ++ rest }) target → Steps p.tables e below (T.setTop g) target := by
  obtain ⟨v, vm₁, ⟨T1, L1, k1, n1⟩, -, X1, ⟨Lc, hQ, l1, y1, z1⟩, st⟩ := X.specialBack hx (y := y) hy1 hown (mvT hZ wl) (mvT hZ ws) (mvT hZ wc) hy (backOf (W := W) hM hZ wc wi hf hl) hg hsize (Steps.refl _) (lenOf hpd hlen) hstack hW hd (fun _ _ => ⟨rfl, eT, hc, hn⟩)
  dsimp only [Pt.U, Pt.locs, Pt.cells, Pt.slots] at X1 l1 y1 z1 st hQ
  subst l1 y1 z1
  exact ⟨v, T1, Lc, X1, hQ, fun _ k => st.trans k⟩
theorem own_callV (X : Stand p l e R s m args below meth c T locs cells slots) (hx : p.tables.exec = Jvm.exec) (hZ : Z.Warmed39 s.vm) (hown : s.vm.findClass own = some m.cls) (wl : (Cond.methodLink own index y).before a0 Z = true) (wd : (Cond.declares y).before a0 Z = true) (wsel : (Cond.selects C y y).before a0 Z = true) (ws : (Cond.instanceMethod y).before a0 Z = true) (wi : (Cond.initialized y.cls).before a0 Z = true) (wc : (Cond.code y bytes maxL ret).before a0 Z = true)
    (hy : y.cls ≠ "java/lang/invoke/MethodHandle" ∧ y.cls ≠ "java/lang/invoke/VarHandle") (eT : T.heap = h) (E : Exa Z h b C) (hM : own_Met l Z y bytes maxL ret [] rm (.ref b :: argsL).toArray h Q) (hf : rm.frames + 1 ≤ R.frames) (hl : W + (maxL + 11) + rm.locals ≤ R.locals) (hc : cells + rm.cells ≤ R.cells) (hn : slots + rm.slots ≤ R.slots)
    (hpd : parseMethodDescriptor y.desc = some ⟨ps, r0⟩) (hlen : argsL.length = ps.length) (hg : g.method = m) (hsize : g.locals.size = c.maxLocals) (hstack : g.stack = argsL.reverse ++ .ref b :: rest) (hW : 2 * g.monitorRoom + (rest.map fun v => v.category).sum ≤ W) (hd : decode c.code g.pc = .ok (.invokevirtual index, 3)) :
    ∃ (v : Option Value) (T' : State) (L : List Loc), Stand p l e R s m args below meth c T' (locs ++ L) (cells + rm.cells) (slots + rm.slots) ∧ Q v T'.heap L ∧ ∀ target, Steps p.tables e below (T'.setTop { g with pc := g.pc + 3, stack := v.toList ++ rest }) target → Steps p.tables e below (T.setTop g) target := by
  obtain ⟨cq, kq, qa, qb, qc⟩ := isOf hZ eT E
  obtain ⟨v, vm₁, ⟨T1, L1, k1, n1⟩, -, X1, ⟨Lc, hQ, l1, y1, z1⟩, st⟩ := X.virtualBack hx (y := y) (z := y) hown (mvT hZ wl) (mvT hZ wd) (notFace_of_selects (args := #[]) (mvT hZ wsel)) (mvT hZ wsel) (mvT hZ ws) hy (backOf (W := W) hM hZ wc wi hf hl) qa qc hg hsize (Steps.refl _) (lenOf hpd hlen) hstack hW hd (fun _ _ => ⟨rfl, eT, hc, hn⟩)
  dsimp only [Pt.U, Pt.locs, Pt.cells, Pt.slots] at X1 l1 y1 z1 st hQ
  subst l1 y1 z1
  exact ⟨v, T1, Lc, X1, hQ, fun _ k => st.trans k⟩
end OwnCall
def own_sz (a b : Int32) : Int64 := (((40 : Int64) + ((4 : Int64) * a.toInt64)) + ((20 : Int64) * b.toInt64))
theorem own_szc (a b : Int32) : (own_sz a b).toInt = 40 + 4 * a.toInt + 20 * b.toInt := by
  have h1 := c_i2l a
  have h2 := c_i2l b
  have r1 := rng32 a
  have r2 := rng32 b
  have q1 := c_lmul (4 : Int64) a.toInt64
  have q2 := c_lmul (20 : Int64) b.toInt64
  have q3 := c_ladd (40 : Int64) ((4 : Int64) * a.toInt64)
  have q4 := c_ladd ((40 : Int64) + (4 : Int64) * a.toInt64) ((20 : Int64) * b.toInt64)
  have s1 := rng64 ((4 : Int64) * a.toInt64)
  have s2 := rng64 ((20 : Int64) * b.toInt64)
  have s3 := rng64 ((40 : Int64) + (4 : Int64) * a.toInt64)
  have s4 := rng64 ((40 : Int64) + (4 : Int64) * a.toInt64 + (20 : Int64) * b.toInt64)
  have k1 : (4 : Int64).toInt = 4 := rfl
  have k2 : (20 : Int64).toInt = 20 := rfl
  have k3 : (40 : Int64).toInt = 40 := rfl
  show ((40 : Int64) + (4 : Int64) * a.toInt64 + (20 : Int64) * b.toInt64).toInt = _
  rw [h1, k1] at q1
  rw [h2, k2] at q2
  rw [k3] at q3
  omega
theorem own_k1 : own_sz 0 0 = 40 := by decide
theorem own_k2 (a b p : Int32) : own_sz a p - own_sz b p = (4 : Int64) * (a.toInt64 - b.toInt64) := by
  apply Int64.toInt_inj.mp
  have e1 := own_szc a p
  have e2 := own_szc b p
  have h1 := c_i2l a
  have h2 := c_i2l b
  have h3 := c_lsub (own_sz a p) (own_sz b p)
  have h4 := c_lsub a.toInt64 b.toInt64
  have h5 := c_lmul (4 : Int64) (a.toInt64 - b.toInt64)
  have k1 : (4 : Int64).toInt = 4 := rfl
  rw [k1] at h5
  have s1 := rng64 (own_sz a p - own_sz b p)
  have s2 := rng64 (a.toInt64 - b.toInt64)
  have s3 := rng64 ((4 : Int64) * (a.toInt64 - b.toInt64))
  have r1 := rng32 a
  have r2 := rng32 b
  have r3 := rng32 p
  omega
theorem own_k3 (a p q : Int32) : own_sz a p - own_sz a q = (20 : Int64) * (p.toInt64 - q.toInt64) := by
  apply Int64.toInt_inj.mp
  have e1 := own_szc a p
  have e2 := own_szc a q
  have h1 := c_i2l p
  have h2 := c_i2l q
  have h3 := c_lsub (own_sz a p) (own_sz a q)
  have h4 := c_lsub p.toInt64 q.toInt64
  have h5 := c_lmul (20 : Int64) (p.toInt64 - q.toInt64)
  have k1 : (20 : Int64).toInt = 20 := rfl
  rw [k1] at h5
  have s1 := rng64 (own_sz a p - own_sz a q)
  have s2 := rng64 (p.toInt64 - q.toInt64)
  have s3 := rng64 ((20 : Int64) * (p.toInt64 - q.toInt64))
  have r1 := rng32 a
  have r2 := rng32 p
  have r3 := rng32 q
  omega
theorem own_k4 (a p : Int32) : own_sz a p + own_sz 0 0 = own_sz a 0 + own_sz 0 p := by
  apply Int64.toInt_inj.mp
  have e1 := own_szc a p
  have e2 := own_szc 0 0
  have e3 := own_szc a 0
  have e4 := own_szc 0 p
  have k0 : (0 : Int32).toInt = 0 := rfl
  rw [k0] at e2 e3 e4
  have h1 := c_ladd (own_sz a p) (own_sz 0 0)
  have h2 := c_ladd (own_sz a 0) (own_sz 0 p)
  have s1 := rng64 (own_sz a p + own_sz 0 0)
  have s2 := rng64 (own_sz a 0 + own_sz 0 p)
  have r1 := rng32 a
  have r2 := rng32 p
  omega
theorem own_ef1 (m : MethodId) (p1 : Int32) (p2 : Int32) : entryFrame m #[(.int p1), (.int p2)] 2 = mkF m 0 #[.val (.int p1), .val (.int p2)] [] := by first | (simp [entryFrame, mkF, argsToLocals, Value.category]; done) | rfl
theorem own_d1_0 : decode prog_40_method_2_code 0 = .ok (.ldc2_w 53, 3) := by decide +kernel
theorem own_d1_3 : decode prog_40_method_2_code 3 = .ok (.ldc2_w 55, 3) := by decide +kernel
theorem own_d1_6 : decode prog_40_method_2_code 6 = .ok (.iload_n 0, 1) := by decide +kernel
theorem own_d1_7 : decode prog_40_method_2_code 7 = .ok (.i2l, 1) := by decide +kernel
theorem own_d1_8 : decode prog_40_method_2_code 8 = .ok (.lmul, 1) := by decide +kernel
theorem own_d1_9 : decode prog_40_method_2_code 9 = .ok (.ladd, 1) := by decide +kernel
theorem own_d1_10 : decode prog_40_method_2_code 10 = .ok (.ldc2_w 57, 3) := by decide +kernel
theorem own_d1_13 : decode prog_40_method_2_code 13 = .ok (.iload_n 1, 1) := by decide +kernel
theorem own_d1_14 : decode prog_40_method_2_code 14 = .ok (.i2l, 1) := by decide +kernel
theorem own_d1_15 : decode prog_40_method_2_code 15 = .ok (.lmul, 1) := by decide +kernel
theorem own_d1_16 : decode prog_40_method_2_code 16 = .ok (.ladd, 1) := by decide +kernel
theorem own_d1_17 : decode prog_40_method_2_code 17 = .ok (.lreturn, 1) := by decide +kernel
theorem own_pn0 : plainName "com/example/planaria/planaria/store/IndexFile" = true := by first | (simp [plainName, overriddenIn]; done) | decide +kernel
def own_Q1 (Z : State) (p1 : Int32) (p2 : Int32) (h0 : Heap) (n0 : Nat) (v : Option Value) (h : Heap) (L : List Loc) : Prop := v = some (.long (own_sz p1 p2)) ∧ Fr n0 L ∧ h = h0
set_option maxRecDepth 65536 in
set_option maxHeartbeats 40000000 in
theorem own_rm1 (l : Launch) (Z : State) (a0 : Array Value) (hw : ∀ d ∈ tables_1, d.before a0 Z = true) (ws : List Jvm.Cond) (p1 : Int32) (p2 : Int32) (h0 : Heap) (n0 : Nat)  :
    own_Met l Z (⟨"com/example/planaria/planaria/store/IndexFile", "size", "(II)J"⟩ : MethodName) prog_40_method_2_code 2 (some .long) ws ({ frames := 0, cells := 0, slots := 0, locals := 0 } : Room) #[(.int p1), (.int p2)] h0 (own_Q1 Z p1 p2 h0 n0) := by
  refine own_met (plainFor_of_name own_pn0) ?_
  intro p e s m below meth c s₁ X0 hx hZ hby hml hown hnm hret hlk e0
  have N0 := Fr.nil n0
  refine own_go (fun t k => castTop (own_ef1 m p1 p2) k) ?_
  show own_Go _ _ _ _ s₁ (mkF m 0 #[.val (.int p1), .val (.int p2)] [])
  refine own_go (fun _ k => X0.ldc2Long hx hown (mvT hZ (hw _ (List.mem_of_getElem? (i := 4) rfl))) (g := (mkF m 0 #[.val (.int p1), .val (.int p2)] [])) rfl (hb hby own_d1_0) _ k) ?_
  show own_Go _ _ _ _ s₁ (mkF m 3 #[.val (.int p1), .val (.int p2)] [(.long (40 : Int64))])
  refine own_go (fun _ k => X0.ldc2Long hx hown (mvT hZ (hw _ (List.mem_of_getElem? (i := 5) rfl))) (g := (mkF m 3 #[.val (.int p1), .val (.int p2)] [(.long (40 : Int64))])) rfl (hb hby own_d1_3) _ k) ?_
  show own_Go _ _ _ _ s₁ (mkF m 6 #[.val (.int p1), .val (.int p2)] [(.long (4 : Int64)), (.long (40 : Int64))])
  refine own_go (fun _ k => XS.iloadN X0.here hx rfl (hb hby own_d1_6) rfl k) ?_
  show own_Go _ _ _ _ s₁ (mkF m 7 #[.val (.int p1), .val (.int p2)] [(.int p1), (.long (4 : Int64)), (.long (40 : Int64))])
  refine own_go (fun _ k => XS.i2l X0.here hx rfl (hb hby own_d1_7) rfl k) ?_
  show own_Go _ _ _ _ s₁ (mkF m 8 #[.val (.int p1), .val (.int p2)] [(.long p1.toInt64), (.long (4 : Int64)), (.long (40 : Int64))])
  refine own_go (fun _ k => XS.lmul X0.here hx rfl (hb hby own_d1_8) rfl k) ?_
  show own_Go _ _ _ _ s₁ (mkF m 9 #[.val (.int p1), .val (.int p2)] [(.long ((4 : Int64) * p1.toInt64)), (.long (40 : Int64))])
  refine own_go (fun _ k => XS.ladd X0.here hx rfl (hb hby own_d1_9) rfl k) ?_
  show own_Go _ _ _ _ s₁ (mkF m 10 #[.val (.int p1), .val (.int p2)] [(.long ((40 : Int64) + ((4 : Int64) * p1.toInt64)))])
  refine own_go (fun _ k => X0.ldc2Long hx hown (mvT hZ (hw _ (List.mem_of_getElem? (i := 6) rfl))) (g := (mkF m 10 #[.val (.int p1), .val (.int p2)] [(.long ((40 : Int64) + ((4 : Int64) * p1.toInt64)))])) rfl (hb hby own_d1_10) _ k) ?_
  show own_Go _ _ _ _ s₁ (mkF m 13 #[.val (.int p1), .val (.int p2)] [(.long (20 : Int64)), (.long ((40 : Int64) + ((4 : Int64) * p1.toInt64)))])
  refine own_go (fun _ k => XS.iloadN X0.here hx rfl (hb hby own_d1_13) rfl k) ?_
  show own_Go _ _ _ _ s₁ (mkF m 14 #[.val (.int p1), .val (.int p2)] [(.int p2), (.long (20 : Int64)), (.long ((40 : Int64) + ((4 : Int64) * p1.toInt64)))])
  refine own_go (fun _ k => XS.i2l X0.here hx rfl (hb hby own_d1_14) rfl k) ?_
  show own_Go _ _ _ _ s₁ (mkF m 15 #[.val (.int p1), .val (.int p2)] [(.long p2.toInt64), (.long (20 : Int64)), (.long ((40 : Int64) + ((4 : Int64) * p1.toInt64)))])
  refine own_go (fun _ k => XS.lmul X0.here hx rfl (hb hby own_d1_15) rfl k) ?_
  show own_Go _ _ _ _ s₁ (mkF m 16 #[.val (.int p1), .val (.int p2)] [(.long ((20 : Int64) * p2.toInt64)), (.long ((40 : Int64) + ((4 : Int64) * p1.toInt64)))])
  refine own_go (fun _ k => XS.ladd X0.here hx rfl (hb hby own_d1_16) rfl k) ?_
  show own_Go _ _ _ _ s₁ (mkF m 17 #[.val (.int p1), .val (.int p2)] [(.long (((40 : Int64) + ((4 : Int64) * p1.toInt64)) + ((20 : Int64) * p2.toInt64)))])
  exact own_end X0 hlk (v := (some (.long (((40 : Int64) + ((4 : Int64) * p1.toInt64)) + ((20 : Int64) * p2.toInt64))))) (fun h => by rw [hret] at h; cases h) (fun fs hr => retOut X0 hx hret rfl (Or.inr (Or.inl ⟨rfl, rfl, _, rfl⟩)) (hb hby own_d1_17) hr) (by rw [e0]; exact ⟨rfl, N0, rfl⟩) (by decide) (by decide)
theorem own_ef0 (m : MethodId) (p1 : Int32) (p2 : Int32) (p3 : Int32) (p4 : Int32) : entryFrame m #[(.int p1), (.int p2), (.int p3), (.int p4)] maxLocals = mkF m 0 #[.val (.int p1), .val (.int p2), .val (.int p3), .val (.int p4), .unset, .unset, .unset, .unset, .unset, .unset, .unset, .unset, .unset, .unset, .unset, .unset, .unset, .unset, .unset, .unset] [] := by first | (simp [entryFrame, mkF, argsToLocals, Value.category, maxLocals]; done) | rfl
theorem own_pd0 : parseMethodDescriptor "(II)J" = some ⟨[.int, .int], some .long⟩ := by decide +kernel
theorem own_pn1 : plainName "com/example/planaria/planaria/store/IndexFileSizePinLaw" = true := by first | (simp [plainName, overriddenIn]; done) | decide +kernel
def own_Q0 (Z : State) (p1 : Int32) (p2 : Int32) (p3 : Int32) (p4 : Int32) (h0 : Heap) (n0 : Nat) (v : Option Value) (h : Heap) (L : List Loc) : Prop := v = some (.int 1) ∧ Fr n0 L
set_option maxRecDepth 65536 in
set_option maxHeartbeats 40000000 in
theorem own_rm0 (l : Launch) (Z : State) (a0 : Array Value) (hw : ∀ d ∈ tables_1, d.before a0 Z = true) (ws : List Jvm.Cond) (p1 : Int32) (p2 : Int32) (p3 : Int32) (p4 : Int32) (h0 : Heap) (n0 : Nat)  :
    own_Met l Z x code maxLocals ret ws room_1 #[(.int p1), (.int p2), (.int p3), (.int p4)] h0 (own_Q0 Z p1 p2 p3 p4 h0 n0) := by
  refine own_met (plainFor_of_name own_pn1) ?_
  intro p e s m below meth c s₁ X0 hx hZ hby hml hown hnm hret hlk e0
  have N0 := Fr.nil n0
  refine own_go (fun t k => castTop (own_ef0 m p1 p2 p3 p4) k) ?_
  show own_Go _ _ _ _ s₁ (mkF m 0 #[.val (.int p1), .val (.int p2), .val (.int p3), .val (.int p4), .unset, .unset, .unset, .unset, .unset, .unset, .unset, .unset, .unset, .unset, .unset, .unset, .unset, .unset, .unset, .unset] [])
  refine own_go (fun _ k => XS.iconst X0.here hx rfl (hb hby at_0) k) ?_
  show own_Go _ _ _ _ s₁ (mkF m 1 #[.val (.int p1), .val (.int p2), .val (.int p3), .val (.int p4), .unset, .unset, .unset, .unset, .unset, .unset, .unset, .unset, .unset, .unset, .unset, .unset, .unset, .unset, .unset, .unset] [(.int (0 : Int32))])
  refine own_go (fun _ k => XS.iconst X0.here hx rfl (hb hby at_1) k) ?_
  show own_Go _ _ _ _ s₁ (mkF m 2 #[.val (.int p1), .val (.int p2), .val (.int p3), .val (.int p4), .unset, .unset, .unset, .unset, .unset, .unset, .unset, .unset, .unset, .unset, .unset, .unset, .unset, .unset, .unset, .unset] [(.int (0 : Int32)), (.int (0 : Int32))])
  obtain ⟨vz1, Tz1, Lz1, Xz1, hQz1, stz1⟩ := own_callS X0 hx hZ hown (hw _ (List.mem_of_getElem? (i := 0) rfl)) (hw _ (List.mem_of_getElem? (i := 1) rfl)) (hw _ (List.mem_of_getElem? (i := 2) rfl)) (hw _ (List.mem_of_getElem? (i := 3) rfl)) (by decide) e0 (own_rm1 l Z a0 hw [] (0 : Int32) (0 : Int32) h0 n0) (W := 0) (by decide) (by decide) (by decide) (by decide) own_pd0 rfl (g := (mkF m 2 #[.val (.int p1), .val (.int p2), .val (.int p3), .val (.int p4), .unset, .unset, .unset, .unset, .unset, .unset, .unset, .unset, .unset, .unset, .unset, .unset, .unset, .unset, .unset, .unset] [(.int (0 : Int32)), (.int (0 : Int32))])) (argsL := [(.int (0 : Int32)), (.int (0 : Int32))]) (rest := []) rfl (by rw [hml]; rfl) rfl (by show 2 * 0 + _ ≤ _; exact Nat.le_of_eq rfl) (hb hby at_2)
  obtain ⟨rfl, Nz1q, ehz1⟩ := hQz1
  have Nz1 := Fr.app N0 Nz1q
  refine own_go stz1 ?_
  show own_Go _ _ _ _ Tz1 (mkF m 5 #[.val (.int p1), .val (.int p2), .val (.int p3), .val (.int p4), .unset, .unset, .unset, .unset, .unset, .unset, .unset, .unset, .unset, .unset, .unset, .unset, .unset, .unset, .unset, .unset] [(.long (own_sz (0 : Int32) (0 : Int32)))])
  refine own_go (fun _ k => XS.lstore Xz1.here hx rfl (hb hby at_5) rfl (l' := #[.val (.int p1), .val (.int p2), .val (.int p3), .val (.int p4), .val (.long (own_sz (0 : Int32) (0 : Int32))), .second, .unset, .unset, .unset, .unset, .unset, .unset, .unset, .unset, .unset, .unset, .unset, .unset, .unset, .unset]) rfl k) ?_
  show own_Go _ _ _ _ Tz1 (mkF m 7 #[.val (.int p1), .val (.int p2), .val (.int p3), .val (.int p4), .val (.long (own_sz (0 : Int32) (0 : Int32))), .second, .unset, .unset, .unset, .unset, .unset, .unset, .unset, .unset, .unset, .unset, .unset, .unset, .unset, .unset] [])
  refine own_go (fun _ k => XS.iloadN Xz1.here hx rfl (hb hby at_7) rfl k) ?_
  show own_Go _ _ _ _ Tz1 (mkF m 8 #[.val (.int p1), .val (.int p2), .val (.int p3), .val (.int p4), .val (.long (own_sz (0 : Int32) (0 : Int32))), .second, .unset, .unset, .unset, .unset, .unset, .unset, .unset, .unset, .unset, .unset, .unset, .unset, .unset, .unset] [(.int p1)])
  refine own_go (fun _ k => XS.iloadN Xz1.here hx rfl (hb hby at_8) rfl k) ?_
  show own_Go _ _ _ _ Tz1 (mkF m 9 #[.val (.int p1), .val (.int p2), .val (.int p3), .val (.int p4), .val (.long (own_sz (0 : Int32) (0 : Int32))), .second, .unset, .unset, .unset, .unset, .unset, .unset, .unset, .unset, .unset, .unset, .unset, .unset, .unset, .unset] [(.int p3), (.int p1)])
  obtain ⟨vz2, Tz2, Lz2, Xz2, hQz2, stz2⟩ := own_callS Xz1 hx hZ hown (hw _ (List.mem_of_getElem? (i := 0) rfl)) (hw _ (List.mem_of_getElem? (i := 1) rfl)) (hw _ (List.mem_of_getElem? (i := 2) rfl)) (hw _ (List.mem_of_getElem? (i := 3) rfl)) (by decide) ehz1 (own_rm1 l Z a0 hw [] p1 p3 h0 n0) (W := 0) (by decide) (by decide) (by decide) (by decide) own_pd0 rfl (g := (mkF m 9 #[.val (.int p1), .val (.int p2), .val (.int p3), .val (.int p4), .val (.long (own_sz (0 : Int32) (0 : Int32))), .second, .unset, .unset, .unset, .unset, .unset, .unset, .unset, .unset, .unset, .unset, .unset, .unset, .unset, .unset] [(.int p3), (.int p1)])) (argsL := [(.int p1), (.int p3)]) (rest := []) rfl (by rw [hml]; rfl) rfl (by show 2 * 0 + _ ≤ _; exact Nat.le_of_eq rfl) (hb hby at_9)
  obtain ⟨rfl, Nz2q, ehz2⟩ := hQz2
  have Nz2 := Fr.app Nz1 Nz2q
  refine own_go stz2 ?_
  show own_Go _ _ _ _ Tz2 (mkF m 12 #[.val (.int p1), .val (.int p2), .val (.int p3), .val (.int p4), .val (.long (own_sz (0 : Int32) (0 : Int32))), .second, .unset, .unset, .unset, .unset, .unset, .unset, .unset, .unset, .unset, .unset, .unset, .unset, .unset, .unset] [(.long (own_sz p1 p3))])
  refine own_go (fun _ k => XS.lstore Xz2.here hx rfl (hb hby at_12) rfl (l' := #[.val (.int p1), .val (.int p2), .val (.int p3), .val (.int p4), .val (.long (own_sz (0 : Int32) (0 : Int32))), .second, .val (.long (own_sz p1 p3)), .second, .unset, .unset, .unset, .unset, .unset, .unset, .unset, .unset, .unset, .unset, .unset, .unset]) rfl k) ?_
  show own_Go _ _ _ _ Tz2 (mkF m 14 #[.val (.int p1), .val (.int p2), .val (.int p3), .val (.int p4), .val (.long (own_sz (0 : Int32) (0 : Int32))), .second, .val (.long (own_sz p1 p3)), .second, .unset, .unset, .unset, .unset, .unset, .unset, .unset, .unset, .unset, .unset, .unset, .unset] [])
  refine own_go (fun _ k => XS.iloadN Xz2.here hx rfl (hb hby at_14) rfl k) ?_
  show own_Go _ _ _ _ Tz2 (mkF m 15 #[.val (.int p1), .val (.int p2), .val (.int p3), .val (.int p4), .val (.long (own_sz (0 : Int32) (0 : Int32))), .second, .val (.long (own_sz p1 p3)), .second, .unset, .unset, .unset, .unset, .unset, .unset, .unset, .unset, .unset, .unset, .unset, .unset] [(.int p2)])
  refine own_go (fun _ k => XS.iloadN Xz2.here hx rfl (hb hby at_15) rfl k) ?_
  show own_Go _ _ _ _ Tz2 (mkF m 16 #[.val (.int p1), .val (.int p2), .val (.int p3), .val (.int p4), .val (.long (own_sz (0 : Int32) (0 : Int32))), .second, .val (.long (own_sz p1 p3)), .second, .unset, .unset, .unset, .unset, .unset, .unset, .unset, .unset, .unset, .unset, .unset, .unset] [(.int p3), (.int p2)])
  obtain ⟨vz3, Tz3, Lz3, Xz3, hQz3, stz3⟩ := own_callS Xz2 hx hZ hown (hw _ (List.mem_of_getElem? (i := 0) rfl)) (hw _ (List.mem_of_getElem? (i := 1) rfl)) (hw _ (List.mem_of_getElem? (i := 2) rfl)) (hw _ (List.mem_of_getElem? (i := 3) rfl)) (by decide) ehz2 (own_rm1 l Z a0 hw [] p2 p3 h0 n0) (W := 0) (by decide) (by decide) (by decide) (by decide) own_pd0 rfl (g := (mkF m 16 #[.val (.int p1), .val (.int p2), .val (.int p3), .val (.int p4), .val (.long (own_sz (0 : Int32) (0 : Int32))), .second, .val (.long (own_sz p1 p3)), .second, .unset, .unset, .unset, .unset, .unset, .unset, .unset, .unset, .unset, .unset, .unset, .unset] [(.int p3), (.int p2)])) (argsL := [(.int p2), (.int p3)]) (rest := []) rfl (by rw [hml]; rfl) rfl (by show 2 * 0 + _ ≤ _; exact Nat.le_of_eq rfl) (hb hby at_16)
  obtain ⟨rfl, Nz3q, ehz3⟩ := hQz3
  have Nz3 := Fr.app Nz2 Nz3q
  refine own_go stz3 ?_
  show own_Go _ _ _ _ Tz3 (mkF m 19 #[.val (.int p1), .val (.int p2), .val (.int p3), .val (.int p4), .val (.long (own_sz (0 : Int32) (0 : Int32))), .second, .val (.long (own_sz p1 p3)), .second, .unset, .unset, .unset, .unset, .unset, .unset, .unset, .unset, .unset, .unset, .unset, .unset] [(.long (own_sz p2 p3))])
  refine own_go (fun _ k => XS.lstore Xz3.here hx rfl (hb hby at_19) rfl (l' := #[.val (.int p1), .val (.int p2), .val (.int p3), .val (.int p4), .val (.long (own_sz (0 : Int32) (0 : Int32))), .second, .val (.long (own_sz p1 p3)), .second, .val (.long (own_sz p2 p3)), .second, .unset, .unset, .unset, .unset, .unset, .unset, .unset, .unset, .unset, .unset]) rfl k) ?_
  show own_Go _ _ _ _ Tz3 (mkF m 21 #[.val (.int p1), .val (.int p2), .val (.int p3), .val (.int p4), .val (.long (own_sz (0 : Int32) (0 : Int32))), .second, .val (.long (own_sz p1 p3)), .second, .val (.long (own_sz p2 p3)), .second, .unset, .unset, .unset, .unset, .unset, .unset, .unset, .unset, .unset, .unset] [])
  refine own_go (fun _ k => XS.iloadN Xz3.here hx rfl (hb hby at_21) rfl k) ?_
  show own_Go _ _ _ _ Tz3 (mkF m 22 #[.val (.int p1), .val (.int p2), .val (.int p3), .val (.int p4), .val (.long (own_sz (0 : Int32) (0 : Int32))), .second, .val (.long (own_sz p1 p3)), .second, .val (.long (own_sz p2 p3)), .second, .unset, .unset, .unset, .unset, .unset, .unset, .unset, .unset, .unset, .unset] [(.int p1)])
  refine own_go (fun _ k => XS.iloadN Xz3.here hx rfl (hb hby at_22) rfl k) ?_
  show own_Go _ _ _ _ Tz3 (mkF m 23 #[.val (.int p1), .val (.int p2), .val (.int p3), .val (.int p4), .val (.long (own_sz (0 : Int32) (0 : Int32))), .second, .val (.long (own_sz p1 p3)), .second, .val (.long (own_sz p2 p3)), .second, .unset, .unset, .unset, .unset, .unset, .unset, .unset, .unset, .unset, .unset] [(.int p4), (.int p1)])
  obtain ⟨vz4, Tz4, Lz4, Xz4, hQz4, stz4⟩ := own_callS Xz3 hx hZ hown (hw _ (List.mem_of_getElem? (i := 0) rfl)) (hw _ (List.mem_of_getElem? (i := 1) rfl)) (hw _ (List.mem_of_getElem? (i := 2) rfl)) (hw _ (List.mem_of_getElem? (i := 3) rfl)) (by decide) ehz3 (own_rm1 l Z a0 hw [] p1 p4 h0 n0) (W := 0) (by decide) (by decide) (by decide) (by decide) own_pd0 rfl (g := (mkF m 23 #[.val (.int p1), .val (.int p2), .val (.int p3), .val (.int p4), .val (.long (own_sz (0 : Int32) (0 : Int32))), .second, .val (.long (own_sz p1 p3)), .second, .val (.long (own_sz p2 p3)), .second, .unset, .unset, .unset, .unset, .unset, .unset, .unset, .unset, .unset, .unset] [(.int p4), (.int p1)])) (argsL := [(.int p1), (.int p4)]) (rest := []) rfl (by rw [hml]; rfl) rfl (by show 2 * 0 + _ ≤ _; exact Nat.le_of_eq rfl) (hb hby at_23)
  obtain ⟨rfl, Nz4q, ehz4⟩ := hQz4
  have Nz4 := Fr.app Nz3 Nz4q
  refine own_go stz4 ?_
  show own_Go _ _ _ _ Tz4 (mkF m 26 #[.val (.int p1), .val (.int p2), .val (.int p3), .val (.int p4), .val (.long (own_sz (0 : Int32) (0 : Int32))), .second, .val (.long (own_sz p1 p3)), .second, .val (.long (own_sz p2 p3)), .second, .unset, .unset, .unset, .unset, .unset, .unset, .unset, .unset, .unset, .unset] [(.long (own_sz p1 p4))])
  refine own_go (fun _ k => XS.lstore Xz4.here hx rfl (hb hby at_26) rfl (l' := #[.val (.int p1), .val (.int p2), .val (.int p3), .val (.int p4), .val (.long (own_sz (0 : Int32) (0 : Int32))), .second, .val (.long (own_sz p1 p3)), .second, .val (.long (own_sz p2 p3)), .second, .val (.long (own_sz p1 p4)), .second, .unset, .unset, .unset, .unset, .unset, .unset, .unset, .unset]) rfl k) ?_
  show own_Go _ _ _ _ Tz4 (mkF m 28 #[.val (.int p1), .val (.int p2), .val (.int p3), .val (.int p4), .val (.long (own_sz (0 : Int32) (0 : Int32))), .second, .val (.long (own_sz p1 p3)), .second, .val (.long (own_sz p2 p3)), .second, .val (.long (own_sz p1 p4)), .second, .unset, .unset, .unset, .unset, .unset, .unset, .unset, .unset] [])
  refine own_go (fun _ k => XS.iloadN Xz4.here hx rfl (hb hby at_28) rfl k) ?_
  show own_Go _ _ _ _ Tz4 (mkF m 29 #[.val (.int p1), .val (.int p2), .val (.int p3), .val (.int p4), .val (.long (own_sz (0 : Int32) (0 : Int32))), .second, .val (.long (own_sz p1 p3)), .second, .val (.long (own_sz p2 p3)), .second, .val (.long (own_sz p1 p4)), .second, .unset, .unset, .unset, .unset, .unset, .unset, .unset, .unset] [(.int p1)])
  refine own_go (fun _ k => XS.iconst Xz4.here hx rfl (hb hby at_29) k) ?_
  show own_Go _ _ _ _ Tz4 (mkF m 30 #[.val (.int p1), .val (.int p2), .val (.int p3), .val (.int p4), .val (.long (own_sz (0 : Int32) (0 : Int32))), .second, .val (.long (own_sz p1 p3)), .second, .val (.long (own_sz p2 p3)), .second, .val (.long (own_sz p1 p4)), .second, .unset, .unset, .unset, .unset, .unset, .unset, .unset, .unset] [(.int (0 : Int32)), (.int p1)])
  obtain ⟨vz5, Tz5, Lz5, Xz5, hQz5, stz5⟩ := own_callS Xz4 hx hZ hown (hw _ (List.mem_of_getElem? (i := 0) rfl)) (hw _ (List.mem_of_getElem? (i := 1) rfl)) (hw _ (List.mem_of_getElem? (i := 2) rfl)) (hw _ (List.mem_of_getElem? (i := 3) rfl)) (by decide) ehz4 (own_rm1 l Z a0 hw [] p1 (0 : Int32) h0 n0) (W := 0) (by decide) (by decide) (by decide) (by decide) own_pd0 rfl (g := (mkF m 30 #[.val (.int p1), .val (.int p2), .val (.int p3), .val (.int p4), .val (.long (own_sz (0 : Int32) (0 : Int32))), .second, .val (.long (own_sz p1 p3)), .second, .val (.long (own_sz p2 p3)), .second, .val (.long (own_sz p1 p4)), .second, .unset, .unset, .unset, .unset, .unset, .unset, .unset, .unset] [(.int (0 : Int32)), (.int p1)])) (argsL := [(.int p1), (.int (0 : Int32))]) (rest := []) rfl (by rw [hml]; rfl) rfl (by show 2 * 0 + _ ≤ _; exact Nat.le_of_eq rfl) (hb hby at_30)
  obtain ⟨rfl, Nz5q, ehz5⟩ := hQz5
  have Nz5 := Fr.app Nz4 Nz5q
  refine own_go stz5 ?_
  show own_Go _ _ _ _ Tz5 (mkF m 33 #[.val (.int p1), .val (.int p2), .val (.int p3), .val (.int p4), .val (.long (own_sz (0 : Int32) (0 : Int32))), .second, .val (.long (own_sz p1 p3)), .second, .val (.long (own_sz p2 p3)), .second, .val (.long (own_sz p1 p4)), .second, .unset, .unset, .unset, .unset, .unset, .unset, .unset, .unset] [(.long (own_sz p1 (0 : Int32)))])
  refine own_go (fun _ k => XS.lstore Xz5.here hx rfl (hb hby at_33) rfl (l' := #[.val (.int p1), .val (.int p2), .val (.int p3), .val (.int p4), .val (.long (own_sz (0 : Int32) (0 : Int32))), .second, .val (.long (own_sz p1 p3)), .second, .val (.long (own_sz p2 p3)), .second, .val (.long (own_sz p1 p4)), .second, .val (.long (own_sz p1 (0 : Int32))), .second, .unset, .unset, .unset, .unset, .unset, .unset]) rfl k) ?_
  show own_Go _ _ _ _ Tz5 (mkF m 35 #[.val (.int p1), .val (.int p2), .val (.int p3), .val (.int p4), .val (.long (own_sz (0 : Int32) (0 : Int32))), .second, .val (.long (own_sz p1 p3)), .second, .val (.long (own_sz p2 p3)), .second, .val (.long (own_sz p1 p4)), .second, .val (.long (own_sz p1 (0 : Int32))), .second, .unset, .unset, .unset, .unset, .unset, .unset] [])
  refine own_go (fun _ k => XS.iconst Xz5.here hx rfl (hb hby at_35) k) ?_
  show own_Go _ _ _ _ Tz5 (mkF m 36 #[.val (.int p1), .val (.int p2), .val (.int p3), .val (.int p4), .val (.long (own_sz (0 : Int32) (0 : Int32))), .second, .val (.long (own_sz p1 p3)), .second, .val (.long (own_sz p2 p3)), .second, .val (.long (own_sz p1 p4)), .second, .val (.long (own_sz p1 (0 : Int32))), .second, .unset, .unset, .unset, .unset, .unset, .unset] [(.int (0 : Int32))])
  refine own_go (fun _ k => XS.iloadN Xz5.here hx rfl (hb hby at_36) rfl k) ?_
  show own_Go _ _ _ _ Tz5 (mkF m 37 #[.val (.int p1), .val (.int p2), .val (.int p3), .val (.int p4), .val (.long (own_sz (0 : Int32) (0 : Int32))), .second, .val (.long (own_sz p1 p3)), .second, .val (.long (own_sz p2 p3)), .second, .val (.long (own_sz p1 p4)), .second, .val (.long (own_sz p1 (0 : Int32))), .second, .unset, .unset, .unset, .unset, .unset, .unset] [(.int p3), (.int (0 : Int32))])
  obtain ⟨vz6, Tz6, Lz6, Xz6, hQz6, stz6⟩ := own_callS Xz5 hx hZ hown (hw _ (List.mem_of_getElem? (i := 0) rfl)) (hw _ (List.mem_of_getElem? (i := 1) rfl)) (hw _ (List.mem_of_getElem? (i := 2) rfl)) (hw _ (List.mem_of_getElem? (i := 3) rfl)) (by decide) ehz5 (own_rm1 l Z a0 hw [] (0 : Int32) p3 h0 n0) (W := 0) (by decide) (by decide) (by decide) (by decide) own_pd0 rfl (g := (mkF m 37 #[.val (.int p1), .val (.int p2), .val (.int p3), .val (.int p4), .val (.long (own_sz (0 : Int32) (0 : Int32))), .second, .val (.long (own_sz p1 p3)), .second, .val (.long (own_sz p2 p3)), .second, .val (.long (own_sz p1 p4)), .second, .val (.long (own_sz p1 (0 : Int32))), .second, .unset, .unset, .unset, .unset, .unset, .unset] [(.int p3), (.int (0 : Int32))])) (argsL := [(.int (0 : Int32)), (.int p3)]) (rest := []) rfl (by rw [hml]; rfl) rfl (by show 2 * 0 + _ ≤ _; exact Nat.le_of_eq rfl) (hb hby at_37)
  obtain ⟨rfl, Nz6q, ehz6⟩ := hQz6
  have Nz6 := Fr.app Nz5 Nz6q
  refine own_go stz6 ?_
  show own_Go _ _ _ _ Tz6 (mkF m 40 #[.val (.int p1), .val (.int p2), .val (.int p3), .val (.int p4), .val (.long (own_sz (0 : Int32) (0 : Int32))), .second, .val (.long (own_sz p1 p3)), .second, .val (.long (own_sz p2 p3)), .second, .val (.long (own_sz p1 p4)), .second, .val (.long (own_sz p1 (0 : Int32))), .second, .unset, .unset, .unset, .unset, .unset, .unset] [(.long (own_sz (0 : Int32) p3))])
  refine own_go (fun _ k => XS.lstore Xz6.here hx rfl (hb hby at_40) rfl (l' := #[.val (.int p1), .val (.int p2), .val (.int p3), .val (.int p4), .val (.long (own_sz (0 : Int32) (0 : Int32))), .second, .val (.long (own_sz p1 p3)), .second, .val (.long (own_sz p2 p3)), .second, .val (.long (own_sz p1 p4)), .second, .val (.long (own_sz p1 (0 : Int32))), .second, .val (.long (own_sz (0 : Int32) p3)), .second, .unset, .unset, .unset, .unset]) rfl k) ?_
  show own_Go _ _ _ _ Tz6 (mkF m 42 #[.val (.int p1), .val (.int p2), .val (.int p3), .val (.int p4), .val (.long (own_sz (0 : Int32) (0 : Int32))), .second, .val (.long (own_sz p1 p3)), .second, .val (.long (own_sz p2 p3)), .second, .val (.long (own_sz p1 p4)), .second, .val (.long (own_sz p1 (0 : Int32))), .second, .val (.long (own_sz (0 : Int32) p3)), .second, .unset, .unset, .unset, .unset] [])
  refine own_go (fun _ k => XS.lload Xz6.here hx rfl (hb hby at_42) rfl k) ?_
  show own_Go _ _ _ _ Tz6 (mkF m 44 #[.val (.int p1), .val (.int p2), .val (.int p3), .val (.int p4), .val (.long (own_sz (0 : Int32) (0 : Int32))), .second, .val (.long (own_sz p1 p3)), .second, .val (.long (own_sz p2 p3)), .second, .val (.long (own_sz p1 p4)), .second, .val (.long (own_sz p1 (0 : Int32))), .second, .val (.long (own_sz (0 : Int32) p3)), .second, .unset, .unset, .unset, .unset] [(.long (own_sz (0 : Int32) (0 : Int32)))])
  refine own_go (fun _ k => Xz6.ldc2Long hx hown (mvT hZ (hw _ (List.mem_of_getElem? (i := 7) rfl))) (g := (mkF m 44 #[.val (.int p1), .val (.int p2), .val (.int p3), .val (.int p4), .val (.long (own_sz (0 : Int32) (0 : Int32))), .second, .val (.long (own_sz p1 p3)), .second, .val (.long (own_sz p2 p3)), .second, .val (.long (own_sz p1 p4)), .second, .val (.long (own_sz p1 (0 : Int32))), .second, .val (.long (own_sz (0 : Int32) p3)), .second, .unset, .unset, .unset, .unset] [(.long (own_sz (0 : Int32) (0 : Int32)))])) rfl (hb hby at_44) _ k) ?_
  show own_Go _ _ _ _ Tz6 (mkF m 47 #[.val (.int p1), .val (.int p2), .val (.int p3), .val (.int p4), .val (.long (own_sz (0 : Int32) (0 : Int32))), .second, .val (.long (own_sz p1 p3)), .second, .val (.long (own_sz p2 p3)), .second, .val (.long (own_sz p1 p4)), .second, .val (.long (own_sz p1 (0 : Int32))), .second, .val (.long (own_sz (0 : Int32) p3)), .second, .unset, .unset, .unset, .unset] [(.long (40 : Int64)), (.long (own_sz (0 : Int32) (0 : Int32)))])
  refine own_go (fun _ k => XS.lcmp Xz6.here hx rfl (hb hby at_47) rfl k) ?_
  show own_Go _ _ _ _ Tz6 (mkF m 48 #[.val (.int p1), .val (.int p2), .val (.int p3), .val (.int p4), .val (.long (own_sz (0 : Int32) (0 : Int32))), .second, .val (.long (own_sz p1 p3)), .second, .val (.long (own_sz p2 p3)), .second, .val (.long (own_sz p1 p4)), .second, .val (.long (own_sz p1 (0 : Int32))), .second, .val (.long (own_sz (0 : Int32) p3)), .second, .unset, .unset, .unset, .unset] [(.int (lcmpW (own_sz (0 : Int32) (0 : Int32)) (40 : Int64)))])
  refine own_go (fun _ k => XS.ifNo Xz6.here hx rfl (hb hby at_48) rfl ((if0 _ _).trans (teq ((lw_eq _ _).mpr own_k1)).2) k) ?_
  show own_Go _ _ _ _ Tz6 (mkF m 51 #[.val (.int p1), .val (.int p2), .val (.int p3), .val (.int p4), .val (.long (own_sz (0 : Int32) (0 : Int32))), .second, .val (.long (own_sz p1 p3)), .second, .val (.long (own_sz p2 p3)), .second, .val (.long (own_sz p1 p4)), .second, .val (.long (own_sz p1 (0 : Int32))), .second, .val (.long (own_sz (0 : Int32) p3)), .second, .unset, .unset, .unset, .unset] [])
  refine own_go (fun _ k => XS.iconst Xz6.here hx rfl (hb hby at_51) k) ?_
  show own_Go _ _ _ _ Tz6 (mkF m 52 #[.val (.int p1), .val (.int p2), .val (.int p3), .val (.int p4), .val (.long (own_sz (0 : Int32) (0 : Int32))), .second, .val (.long (own_sz p1 p3)), .second, .val (.long (own_sz p2 p3)), .second, .val (.long (own_sz p1 p4)), .second, .val (.long (own_sz p1 (0 : Int32))), .second, .val (.long (own_sz (0 : Int32) p3)), .second, .unset, .unset, .unset, .unset] [(.int (1 : Int32))])
  refine own_go (fun _ k => XS.goto Xz6.here hx rfl (pc0 := 52) (pc' := 56) rfl (hb hby at_52) (by decide) (by decide) k) ?_
  show own_Go _ _ _ _ Tz6 (mkF m 56 #[.val (.int p1), .val (.int p2), .val (.int p3), .val (.int p4), .val (.long (own_sz (0 : Int32) (0 : Int32))), .second, .val (.long (own_sz p1 p3)), .second, .val (.long (own_sz p2 p3)), .second, .val (.long (own_sz p1 p4)), .second, .val (.long (own_sz p1 (0 : Int32))), .second, .val (.long (own_sz (0 : Int32) p3)), .second, .unset, .unset, .unset, .unset] [(.int (1 : Int32))])
  refine own_go (fun _ k => XS.istore Xz6.here hx rfl (hb hby at_56) rfl (l' := #[.val (.int p1), .val (.int p2), .val (.int p3), .val (.int p4), .val (.long (own_sz (0 : Int32) (0 : Int32))), .second, .val (.long (own_sz p1 p3)), .second, .val (.long (own_sz p2 p3)), .second, .val (.long (own_sz p1 p4)), .second, .val (.long (own_sz p1 (0 : Int32))), .second, .val (.long (own_sz (0 : Int32) p3)), .second, .val (.int (1 : Int32)), .unset, .unset, .unset]) rfl k) ?_
  show own_Go _ _ _ _ Tz6 (mkF m 58 #[.val (.int p1), .val (.int p2), .val (.int p3), .val (.int p4), .val (.long (own_sz (0 : Int32) (0 : Int32))), .second, .val (.long (own_sz p1 p3)), .second, .val (.long (own_sz p2 p3)), .second, .val (.long (own_sz p1 p4)), .second, .val (.long (own_sz p1 (0 : Int32))), .second, .val (.long (own_sz (0 : Int32) p3)), .second, .val (.int (1 : Int32)), .unset, .unset, .unset] [])
  refine own_go (fun _ k => XS.lload Xz6.here hx rfl (hb hby at_58) rfl k) ?_
  show own_Go _ _ _ _ Tz6 (mkF m 60 #[.val (.int p1), .val (.int p2), .val (.int p3), .val (.int p4), .val (.long (own_sz (0 : Int32) (0 : Int32))), .second, .val (.long (own_sz p1 p3)), .second, .val (.long (own_sz p2 p3)), .second, .val (.long (own_sz p1 p4)), .second, .val (.long (own_sz p1 (0 : Int32))), .second, .val (.long (own_sz (0 : Int32) p3)), .second, .val (.int (1 : Int32)), .unset, .unset, .unset] [(.long (own_sz p1 p3))])
  refine own_go (fun _ k => XS.lload Xz6.here hx rfl (hb hby at_60) rfl k) ?_
  show own_Go _ _ _ _ Tz6 (mkF m 62 #[.val (.int p1), .val (.int p2), .val (.int p3), .val (.int p4), .val (.long (own_sz (0 : Int32) (0 : Int32))), .second, .val (.long (own_sz p1 p3)), .second, .val (.long (own_sz p2 p3)), .second, .val (.long (own_sz p1 p4)), .second, .val (.long (own_sz p1 (0 : Int32))), .second, .val (.long (own_sz (0 : Int32) p3)), .second, .val (.int (1 : Int32)), .unset, .unset, .unset] [(.long (own_sz p2 p3)), (.long (own_sz p1 p3))])
  refine own_go (fun _ k => XS.lsub Xz6.here hx rfl (hb hby at_62) rfl k) ?_
  show own_Go _ _ _ _ Tz6 (mkF m 63 #[.val (.int p1), .val (.int p2), .val (.int p3), .val (.int p4), .val (.long (own_sz (0 : Int32) (0 : Int32))), .second, .val (.long (own_sz p1 p3)), .second, .val (.long (own_sz p2 p3)), .second, .val (.long (own_sz p1 p4)), .second, .val (.long (own_sz p1 (0 : Int32))), .second, .val (.long (own_sz (0 : Int32) p3)), .second, .val (.int (1 : Int32)), .unset, .unset, .unset] [(.long ((own_sz p1 p3) - (own_sz p2 p3)))])
  refine own_go (fun _ k => Xz6.ldc2Long hx hown (mvT hZ (hw _ (List.mem_of_getElem? (i := 8) rfl))) (g := (mkF m 63 #[.val (.int p1), .val (.int p2), .val (.int p3), .val (.int p4), .val (.long (own_sz (0 : Int32) (0 : Int32))), .second, .val (.long (own_sz p1 p3)), .second, .val (.long (own_sz p2 p3)), .second, .val (.long (own_sz p1 p4)), .second, .val (.long (own_sz p1 (0 : Int32))), .second, .val (.long (own_sz (0 : Int32) p3)), .second, .val (.int (1 : Int32)), .unset, .unset, .unset] [(.long ((own_sz p1 p3) - (own_sz p2 p3)))])) rfl (hb hby at_63) _ k) ?_
  show own_Go _ _ _ _ Tz6 (mkF m 66 #[.val (.int p1), .val (.int p2), .val (.int p3), .val (.int p4), .val (.long (own_sz (0 : Int32) (0 : Int32))), .second, .val (.long (own_sz p1 p3)), .second, .val (.long (own_sz p2 p3)), .second, .val (.long (own_sz p1 p4)), .second, .val (.long (own_sz p1 (0 : Int32))), .second, .val (.long (own_sz (0 : Int32) p3)), .second, .val (.int (1 : Int32)), .unset, .unset, .unset] [(.long (4 : Int64)), (.long ((own_sz p1 p3) - (own_sz p2 p3)))])
  refine own_go (fun _ k => XS.iloadN Xz6.here hx rfl (hb hby at_66) rfl k) ?_
  show own_Go _ _ _ _ Tz6 (mkF m 67 #[.val (.int p1), .val (.int p2), .val (.int p3), .val (.int p4), .val (.long (own_sz (0 : Int32) (0 : Int32))), .second, .val (.long (own_sz p1 p3)), .second, .val (.long (own_sz p2 p3)), .second, .val (.long (own_sz p1 p4)), .second, .val (.long (own_sz p1 (0 : Int32))), .second, .val (.long (own_sz (0 : Int32) p3)), .second, .val (.int (1 : Int32)), .unset, .unset, .unset] [(.int p1), (.long (4 : Int64)), (.long ((own_sz p1 p3) - (own_sz p2 p3)))])
  refine own_go (fun _ k => XS.i2l Xz6.here hx rfl (hb hby at_67) rfl k) ?_
  show own_Go _ _ _ _ Tz6 (mkF m 68 #[.val (.int p1), .val (.int p2), .val (.int p3), .val (.int p4), .val (.long (own_sz (0 : Int32) (0 : Int32))), .second, .val (.long (own_sz p1 p3)), .second, .val (.long (own_sz p2 p3)), .second, .val (.long (own_sz p1 p4)), .second, .val (.long (own_sz p1 (0 : Int32))), .second, .val (.long (own_sz (0 : Int32) p3)), .second, .val (.int (1 : Int32)), .unset, .unset, .unset] [(.long p1.toInt64), (.long (4 : Int64)), (.long ((own_sz p1 p3) - (own_sz p2 p3)))])
  refine own_go (fun _ k => XS.iloadN Xz6.here hx rfl (hb hby at_68) rfl k) ?_
  show own_Go _ _ _ _ Tz6 (mkF m 69 #[.val (.int p1), .val (.int p2), .val (.int p3), .val (.int p4), .val (.long (own_sz (0 : Int32) (0 : Int32))), .second, .val (.long (own_sz p1 p3)), .second, .val (.long (own_sz p2 p3)), .second, .val (.long (own_sz p1 p4)), .second, .val (.long (own_sz p1 (0 : Int32))), .second, .val (.long (own_sz (0 : Int32) p3)), .second, .val (.int (1 : Int32)), .unset, .unset, .unset] [(.int p2), (.long p1.toInt64), (.long (4 : Int64)), (.long ((own_sz p1 p3) - (own_sz p2 p3)))])
  refine own_go (fun _ k => XS.i2l Xz6.here hx rfl (hb hby at_69) rfl k) ?_
  show own_Go _ _ _ _ Tz6 (mkF m 70 #[.val (.int p1), .val (.int p2), .val (.int p3), .val (.int p4), .val (.long (own_sz (0 : Int32) (0 : Int32))), .second, .val (.long (own_sz p1 p3)), .second, .val (.long (own_sz p2 p3)), .second, .val (.long (own_sz p1 p4)), .second, .val (.long (own_sz p1 (0 : Int32))), .second, .val (.long (own_sz (0 : Int32) p3)), .second, .val (.int (1 : Int32)), .unset, .unset, .unset] [(.long p2.toInt64), (.long p1.toInt64), (.long (4 : Int64)), (.long ((own_sz p1 p3) - (own_sz p2 p3)))])
  refine own_go (fun _ k => XS.lsub Xz6.here hx rfl (hb hby at_70) rfl k) ?_
  show own_Go _ _ _ _ Tz6 (mkF m 71 #[.val (.int p1), .val (.int p2), .val (.int p3), .val (.int p4), .val (.long (own_sz (0 : Int32) (0 : Int32))), .second, .val (.long (own_sz p1 p3)), .second, .val (.long (own_sz p2 p3)), .second, .val (.long (own_sz p1 p4)), .second, .val (.long (own_sz p1 (0 : Int32))), .second, .val (.long (own_sz (0 : Int32) p3)), .second, .val (.int (1 : Int32)), .unset, .unset, .unset] [(.long (p1.toInt64 - p2.toInt64)), (.long (4 : Int64)), (.long ((own_sz p1 p3) - (own_sz p2 p3)))])
  refine own_go (fun _ k => XS.lmul Xz6.here hx rfl (hb hby at_71) rfl k) ?_
  show own_Go _ _ _ _ Tz6 (mkF m 72 #[.val (.int p1), .val (.int p2), .val (.int p3), .val (.int p4), .val (.long (own_sz (0 : Int32) (0 : Int32))), .second, .val (.long (own_sz p1 p3)), .second, .val (.long (own_sz p2 p3)), .second, .val (.long (own_sz p1 p4)), .second, .val (.long (own_sz p1 (0 : Int32))), .second, .val (.long (own_sz (0 : Int32) p3)), .second, .val (.int (1 : Int32)), .unset, .unset, .unset] [(.long ((4 : Int64) * (p1.toInt64 - p2.toInt64))), (.long ((own_sz p1 p3) - (own_sz p2 p3)))])
  refine own_go (fun _ k => XS.lcmp Xz6.here hx rfl (hb hby at_72) rfl k) ?_
  show own_Go _ _ _ _ Tz6 (mkF m 73 #[.val (.int p1), .val (.int p2), .val (.int p3), .val (.int p4), .val (.long (own_sz (0 : Int32) (0 : Int32))), .second, .val (.long (own_sz p1 p3)), .second, .val (.long (own_sz p2 p3)), .second, .val (.long (own_sz p1 p4)), .second, .val (.long (own_sz p1 (0 : Int32))), .second, .val (.long (own_sz (0 : Int32) p3)), .second, .val (.int (1 : Int32)), .unset, .unset, .unset] [(.int (lcmpW ((own_sz p1 p3) - (own_sz p2 p3)) ((4 : Int64) * (p1.toInt64 - p2.toInt64))))])
  refine own_go (fun _ k => XS.ifNo Xz6.here hx rfl (hb hby at_73) rfl ((if0 _ _).trans (teq ((lw_eq _ _).mpr (own_k2 _ _ _))).2) k) ?_
  show own_Go _ _ _ _ Tz6 (mkF m 76 #[.val (.int p1), .val (.int p2), .val (.int p3), .val (.int p4), .val (.long (own_sz (0 : Int32) (0 : Int32))), .second, .val (.long (own_sz p1 p3)), .second, .val (.long (own_sz p2 p3)), .second, .val (.long (own_sz p1 p4)), .second, .val (.long (own_sz p1 (0 : Int32))), .second, .val (.long (own_sz (0 : Int32) p3)), .second, .val (.int (1 : Int32)), .unset, .unset, .unset] [])
  refine own_go (fun _ k => XS.iconst Xz6.here hx rfl (hb hby at_76) k) ?_
  show own_Go _ _ _ _ Tz6 (mkF m 77 #[.val (.int p1), .val (.int p2), .val (.int p3), .val (.int p4), .val (.long (own_sz (0 : Int32) (0 : Int32))), .second, .val (.long (own_sz p1 p3)), .second, .val (.long (own_sz p2 p3)), .second, .val (.long (own_sz p1 p4)), .second, .val (.long (own_sz p1 (0 : Int32))), .second, .val (.long (own_sz (0 : Int32) p3)), .second, .val (.int (1 : Int32)), .unset, .unset, .unset] [(.int (1 : Int32))])
  refine own_go (fun _ k => XS.goto Xz6.here hx rfl (pc0 := 77) (pc' := 81) rfl (hb hby at_77) (by decide) (by decide) k) ?_
  show own_Go _ _ _ _ Tz6 (mkF m 81 #[.val (.int p1), .val (.int p2), .val (.int p3), .val (.int p4), .val (.long (own_sz (0 : Int32) (0 : Int32))), .second, .val (.long (own_sz p1 p3)), .second, .val (.long (own_sz p2 p3)), .second, .val (.long (own_sz p1 p4)), .second, .val (.long (own_sz p1 (0 : Int32))), .second, .val (.long (own_sz (0 : Int32) p3)), .second, .val (.int (1 : Int32)), .unset, .unset, .unset] [(.int (1 : Int32))])
  refine own_go (fun _ k => XS.istore Xz6.here hx rfl (hb hby at_81) rfl (l' := #[.val (.int p1), .val (.int p2), .val (.int p3), .val (.int p4), .val (.long (own_sz (0 : Int32) (0 : Int32))), .second, .val (.long (own_sz p1 p3)), .second, .val (.long (own_sz p2 p3)), .second, .val (.long (own_sz p1 p4)), .second, .val (.long (own_sz p1 (0 : Int32))), .second, .val (.long (own_sz (0 : Int32) p3)), .second, .val (.int (1 : Int32)), .val (.int (1 : Int32)), .unset, .unset]) rfl k) ?_
  show own_Go _ _ _ _ Tz6 (mkF m 83 #[.val (.int p1), .val (.int p2), .val (.int p3), .val (.int p4), .val (.long (own_sz (0 : Int32) (0 : Int32))), .second, .val (.long (own_sz p1 p3)), .second, .val (.long (own_sz p2 p3)), .second, .val (.long (own_sz p1 p4)), .second, .val (.long (own_sz p1 (0 : Int32))), .second, .val (.long (own_sz (0 : Int32) p3)), .second, .val (.int (1 : Int32)), .val (.int (1 : Int32)), .unset, .unset] [])
  refine own_go (fun _ k => XS.lload Xz6.here hx rfl (hb hby at_83) rfl k) ?_
  show own_Go _ _ _ _ Tz6 (mkF m 85 #[.val (.int p1), .val (.int p2), .val (.int p3), .val (.int p4), .val (.long (own_sz (0 : Int32) (0 : Int32))), .second, .val (.long (own_sz p1 p3)), .second, .val (.long (own_sz p2 p3)), .second, .val (.long (own_sz p1 p4)), .second, .val (.long (own_sz p1 (0 : Int32))), .second, .val (.long (own_sz (0 : Int32) p3)), .second, .val (.int (1 : Int32)), .val (.int (1 : Int32)), .unset, .unset] [(.long (own_sz p1 p3))])
  refine own_go (fun _ k => XS.lload Xz6.here hx rfl (hb hby at_85) rfl k) ?_
  show own_Go _ _ _ _ Tz6 (mkF m 87 #[.val (.int p1), .val (.int p2), .val (.int p3), .val (.int p4), .val (.long (own_sz (0 : Int32) (0 : Int32))), .second, .val (.long (own_sz p1 p3)), .second, .val (.long (own_sz p2 p3)), .second, .val (.long (own_sz p1 p4)), .second, .val (.long (own_sz p1 (0 : Int32))), .second, .val (.long (own_sz (0 : Int32) p3)), .second, .val (.int (1 : Int32)), .val (.int (1 : Int32)), .unset, .unset] [(.long (own_sz p1 p4)), (.long (own_sz p1 p3))])
  refine own_go (fun _ k => XS.lsub Xz6.here hx rfl (hb hby at_87) rfl k) ?_
  show own_Go _ _ _ _ Tz6 (mkF m 88 #[.val (.int p1), .val (.int p2), .val (.int p3), .val (.int p4), .val (.long (own_sz (0 : Int32) (0 : Int32))), .second, .val (.long (own_sz p1 p3)), .second, .val (.long (own_sz p2 p3)), .second, .val (.long (own_sz p1 p4)), .second, .val (.long (own_sz p1 (0 : Int32))), .second, .val (.long (own_sz (0 : Int32) p3)), .second, .val (.int (1 : Int32)), .val (.int (1 : Int32)), .unset, .unset] [(.long ((own_sz p1 p3) - (own_sz p1 p4)))])
  refine own_go (fun _ k => Xz6.ldc2Long hx hown (mvT hZ (hw _ (List.mem_of_getElem? (i := 9) rfl))) (g := (mkF m 88 #[.val (.int p1), .val (.int p2), .val (.int p3), .val (.int p4), .val (.long (own_sz (0 : Int32) (0 : Int32))), .second, .val (.long (own_sz p1 p3)), .second, .val (.long (own_sz p2 p3)), .second, .val (.long (own_sz p1 p4)), .second, .val (.long (own_sz p1 (0 : Int32))), .second, .val (.long (own_sz (0 : Int32) p3)), .second, .val (.int (1 : Int32)), .val (.int (1 : Int32)), .unset, .unset] [(.long ((own_sz p1 p3) - (own_sz p1 p4)))])) rfl (hb hby at_88) _ k) ?_
  show own_Go _ _ _ _ Tz6 (mkF m 91 #[.val (.int p1), .val (.int p2), .val (.int p3), .val (.int p4), .val (.long (own_sz (0 : Int32) (0 : Int32))), .second, .val (.long (own_sz p1 p3)), .second, .val (.long (own_sz p2 p3)), .second, .val (.long (own_sz p1 p4)), .second, .val (.long (own_sz p1 (0 : Int32))), .second, .val (.long (own_sz (0 : Int32) p3)), .second, .val (.int (1 : Int32)), .val (.int (1 : Int32)), .unset, .unset] [(.long (20 : Int64)), (.long ((own_sz p1 p3) - (own_sz p1 p4)))])
  refine own_go (fun _ k => XS.iloadN Xz6.here hx rfl (hb hby at_91) rfl k) ?_
  show own_Go _ _ _ _ Tz6 (mkF m 92 #[.val (.int p1), .val (.int p2), .val (.int p3), .val (.int p4), .val (.long (own_sz (0 : Int32) (0 : Int32))), .second, .val (.long (own_sz p1 p3)), .second, .val (.long (own_sz p2 p3)), .second, .val (.long (own_sz p1 p4)), .second, .val (.long (own_sz p1 (0 : Int32))), .second, .val (.long (own_sz (0 : Int32) p3)), .second, .val (.int (1 : Int32)), .val (.int (1 : Int32)), .unset, .unset] [(.int p3), (.long (20 : Int64)), (.long ((own_sz p1 p3) - (own_sz p1 p4)))])
  refine own_go (fun _ k => XS.i2l Xz6.here hx rfl (hb hby at_92) rfl k) ?_
  show own_Go _ _ _ _ Tz6 (mkF m 93 #[.val (.int p1), .val (.int p2), .val (.int p3), .val (.int p4), .val (.long (own_sz (0 : Int32) (0 : Int32))), .second, .val (.long (own_sz p1 p3)), .second, .val (.long (own_sz p2 p3)), .second, .val (.long (own_sz p1 p4)), .second, .val (.long (own_sz p1 (0 : Int32))), .second, .val (.long (own_sz (0 : Int32) p3)), .second, .val (.int (1 : Int32)), .val (.int (1 : Int32)), .unset, .unset] [(.long p3.toInt64), (.long (20 : Int64)), (.long ((own_sz p1 p3) - (own_sz p1 p4)))])
  refine own_go (fun _ k => XS.iloadN Xz6.here hx rfl (hb hby at_93) rfl k) ?_
  show own_Go _ _ _ _ Tz6 (mkF m 94 #[.val (.int p1), .val (.int p2), .val (.int p3), .val (.int p4), .val (.long (own_sz (0 : Int32) (0 : Int32))), .second, .val (.long (own_sz p1 p3)), .second, .val (.long (own_sz p2 p3)), .second, .val (.long (own_sz p1 p4)), .second, .val (.long (own_sz p1 (0 : Int32))), .second, .val (.long (own_sz (0 : Int32) p3)), .second, .val (.int (1 : Int32)), .val (.int (1 : Int32)), .unset, .unset] [(.int p4), (.long p3.toInt64), (.long (20 : Int64)), (.long ((own_sz p1 p3) - (own_sz p1 p4)))])
  refine own_go (fun _ k => XS.i2l Xz6.here hx rfl (hb hby at_94) rfl k) ?_
  show own_Go _ _ _ _ Tz6 (mkF m 95 #[.val (.int p1), .val (.int p2), .val (.int p3), .val (.int p4), .val (.long (own_sz (0 : Int32) (0 : Int32))), .second, .val (.long (own_sz p1 p3)), .second, .val (.long (own_sz p2 p3)), .second, .val (.long (own_sz p1 p4)), .second, .val (.long (own_sz p1 (0 : Int32))), .second, .val (.long (own_sz (0 : Int32) p3)), .second, .val (.int (1 : Int32)), .val (.int (1 : Int32)), .unset, .unset] [(.long p4.toInt64), (.long p3.toInt64), (.long (20 : Int64)), (.long ((own_sz p1 p3) - (own_sz p1 p4)))])
  refine own_go (fun _ k => XS.lsub Xz6.here hx rfl (hb hby at_95) rfl k) ?_
  show own_Go _ _ _ _ Tz6 (mkF m 96 #[.val (.int p1), .val (.int p2), .val (.int p3), .val (.int p4), .val (.long (own_sz (0 : Int32) (0 : Int32))), .second, .val (.long (own_sz p1 p3)), .second, .val (.long (own_sz p2 p3)), .second, .val (.long (own_sz p1 p4)), .second, .val (.long (own_sz p1 (0 : Int32))), .second, .val (.long (own_sz (0 : Int32) p3)), .second, .val (.int (1 : Int32)), .val (.int (1 : Int32)), .unset, .unset] [(.long (p3.toInt64 - p4.toInt64)), (.long (20 : Int64)), (.long ((own_sz p1 p3) - (own_sz p1 p4)))])
  refine own_go (fun _ k => XS.lmul Xz6.here hx rfl (hb hby at_96) rfl k) ?_
  show own_Go _ _ _ _ Tz6 (mkF m 97 #[.val (.int p1), .val (.int p2), .val (.int p3), .val (.int p4), .val (.long (own_sz (0 : Int32) (0 : Int32))), .second, .val (.long (own_sz p1 p3)), .second, .val (.long (own_sz p2 p3)), .second, .val (.long (own_sz p1 p4)), .second, .val (.long (own_sz p1 (0 : Int32))), .second, .val (.long (own_sz (0 : Int32) p3)), .second, .val (.int (1 : Int32)), .val (.int (1 : Int32)), .unset, .unset] [(.long ((20 : Int64) * (p3.toInt64 - p4.toInt64))), (.long ((own_sz p1 p3) - (own_sz p1 p4)))])
  refine own_go (fun _ k => XS.lcmp Xz6.here hx rfl (hb hby at_97) rfl k) ?_
  show own_Go _ _ _ _ Tz6 (mkF m 98 #[.val (.int p1), .val (.int p2), .val (.int p3), .val (.int p4), .val (.long (own_sz (0 : Int32) (0 : Int32))), .second, .val (.long (own_sz p1 p3)), .second, .val (.long (own_sz p2 p3)), .second, .val (.long (own_sz p1 p4)), .second, .val (.long (own_sz p1 (0 : Int32))), .second, .val (.long (own_sz (0 : Int32) p3)), .second, .val (.int (1 : Int32)), .val (.int (1 : Int32)), .unset, .unset] [(.int (lcmpW ((own_sz p1 p3) - (own_sz p1 p4)) ((20 : Int64) * (p3.toInt64 - p4.toInt64))))])
  refine own_go (fun _ k => XS.ifNo Xz6.here hx rfl (hb hby at_98) rfl ((if0 _ _).trans (teq ((lw_eq _ _).mpr (own_k3 _ _ _))).2) k) ?_
  show own_Go _ _ _ _ Tz6 (mkF m 101 #[.val (.int p1), .val (.int p2), .val (.int p3), .val (.int p4), .val (.long (own_sz (0 : Int32) (0 : Int32))), .second, .val (.long (own_sz p1 p3)), .second, .val (.long (own_sz p2 p3)), .second, .val (.long (own_sz p1 p4)), .second, .val (.long (own_sz p1 (0 : Int32))), .second, .val (.long (own_sz (0 : Int32) p3)), .second, .val (.int (1 : Int32)), .val (.int (1 : Int32)), .unset, .unset] [])
  refine own_go (fun _ k => XS.iconst Xz6.here hx rfl (hb hby at_101) k) ?_
  show own_Go _ _ _ _ Tz6 (mkF m 102 #[.val (.int p1), .val (.int p2), .val (.int p3), .val (.int p4), .val (.long (own_sz (0 : Int32) (0 : Int32))), .second, .val (.long (own_sz p1 p3)), .second, .val (.long (own_sz p2 p3)), .second, .val (.long (own_sz p1 p4)), .second, .val (.long (own_sz p1 (0 : Int32))), .second, .val (.long (own_sz (0 : Int32) p3)), .second, .val (.int (1 : Int32)), .val (.int (1 : Int32)), .unset, .unset] [(.int (1 : Int32))])
  refine own_go (fun _ k => XS.goto Xz6.here hx rfl (pc0 := 102) (pc' := 106) rfl (hb hby at_102) (by decide) (by decide) k) ?_
  show own_Go _ _ _ _ Tz6 (mkF m 106 #[.val (.int p1), .val (.int p2), .val (.int p3), .val (.int p4), .val (.long (own_sz (0 : Int32) (0 : Int32))), .second, .val (.long (own_sz p1 p3)), .second, .val (.long (own_sz p2 p3)), .second, .val (.long (own_sz p1 p4)), .second, .val (.long (own_sz p1 (0 : Int32))), .second, .val (.long (own_sz (0 : Int32) p3)), .second, .val (.int (1 : Int32)), .val (.int (1 : Int32)), .unset, .unset] [(.int (1 : Int32))])
  refine own_go (fun _ k => XS.istore Xz6.here hx rfl (hb hby at_106) rfl (l' := #[.val (.int p1), .val (.int p2), .val (.int p3), .val (.int p4), .val (.long (own_sz (0 : Int32) (0 : Int32))), .second, .val (.long (own_sz p1 p3)), .second, .val (.long (own_sz p2 p3)), .second, .val (.long (own_sz p1 p4)), .second, .val (.long (own_sz p1 (0 : Int32))), .second, .val (.long (own_sz (0 : Int32) p3)), .second, .val (.int (1 : Int32)), .val (.int (1 : Int32)), .val (.int (1 : Int32)), .unset]) rfl k) ?_
  show own_Go _ _ _ _ Tz6 (mkF m 108 #[.val (.int p1), .val (.int p2), .val (.int p3), .val (.int p4), .val (.long (own_sz (0 : Int32) (0 : Int32))), .second, .val (.long (own_sz p1 p3)), .second, .val (.long (own_sz p2 p3)), .second, .val (.long (own_sz p1 p4)), .second, .val (.long (own_sz p1 (0 : Int32))), .second, .val (.long (own_sz (0 : Int32) p3)), .second, .val (.int (1 : Int32)), .val (.int (1 : Int32)), .val (.int (1 : Int32)), .unset] [])
  refine own_go (fun _ k => XS.lload Xz6.here hx rfl (hb hby at_108) rfl k) ?_
  show own_Go _ _ _ _ Tz6 (mkF m 110 #[.val (.int p1), .val (.int p2), .val (.int p3), .val (.int p4), .val (.long (own_sz (0 : Int32) (0 : Int32))), .second, .val (.long (own_sz p1 p3)), .second, .val (.long (own_sz p2 p3)), .second, .val (.long (own_sz p1 p4)), .second, .val (.long (own_sz p1 (0 : Int32))), .second, .val (.long (own_sz (0 : Int32) p3)), .second, .val (.int (1 : Int32)), .val (.int (1 : Int32)), .val (.int (1 : Int32)), .unset] [(.long (own_sz p1 p3))])
  refine own_go (fun _ k => XS.lload Xz6.here hx rfl (hb hby at_110) rfl k) ?_
  show own_Go _ _ _ _ Tz6 (mkF m 112 #[.val (.int p1), .val (.int p2), .val (.int p3), .val (.int p4), .val (.long (own_sz (0 : Int32) (0 : Int32))), .second, .val (.long (own_sz p1 p3)), .second, .val (.long (own_sz p2 p3)), .second, .val (.long (own_sz p1 p4)), .second, .val (.long (own_sz p1 (0 : Int32))), .second, .val (.long (own_sz (0 : Int32) p3)), .second, .val (.int (1 : Int32)), .val (.int (1 : Int32)), .val (.int (1 : Int32)), .unset] [(.long (own_sz (0 : Int32) (0 : Int32))), (.long (own_sz p1 p3))])
  refine own_go (fun _ k => XS.ladd Xz6.here hx rfl (hb hby at_112) rfl k) ?_
  show own_Go _ _ _ _ Tz6 (mkF m 113 #[.val (.int p1), .val (.int p2), .val (.int p3), .val (.int p4), .val (.long (own_sz (0 : Int32) (0 : Int32))), .second, .val (.long (own_sz p1 p3)), .second, .val (.long (own_sz p2 p3)), .second, .val (.long (own_sz p1 p4)), .second, .val (.long (own_sz p1 (0 : Int32))), .second, .val (.long (own_sz (0 : Int32) p3)), .second, .val (.int (1 : Int32)), .val (.int (1 : Int32)), .val (.int (1 : Int32)), .unset] [(.long ((own_sz p1 p3) + (own_sz (0 : Int32) (0 : Int32))))])
  refine own_go (fun _ k => XS.lload Xz6.here hx rfl (hb hby at_113) rfl k) ?_
  show own_Go _ _ _ _ Tz6 (mkF m 115 #[.val (.int p1), .val (.int p2), .val (.int p3), .val (.int p4), .val (.long (own_sz (0 : Int32) (0 : Int32))), .second, .val (.long (own_sz p1 p3)), .second, .val (.long (own_sz p2 p3)), .second, .val (.long (own_sz p1 p4)), .second, .val (.long (own_sz p1 (0 : Int32))), .second, .val (.long (own_sz (0 : Int32) p3)), .second, .val (.int (1 : Int32)), .val (.int (1 : Int32)), .val (.int (1 : Int32)), .unset] [(.long (own_sz p1 (0 : Int32))), (.long ((own_sz p1 p3) + (own_sz (0 : Int32) (0 : Int32))))])
  refine own_go (fun _ k => XS.lload Xz6.here hx rfl (hb hby at_115) rfl k) ?_
  show own_Go _ _ _ _ Tz6 (mkF m 117 #[.val (.int p1), .val (.int p2), .val (.int p3), .val (.int p4), .val (.long (own_sz (0 : Int32) (0 : Int32))), .second, .val (.long (own_sz p1 p3)), .second, .val (.long (own_sz p2 p3)), .second, .val (.long (own_sz p1 p4)), .second, .val (.long (own_sz p1 (0 : Int32))), .second, .val (.long (own_sz (0 : Int32) p3)), .second, .val (.int (1 : Int32)), .val (.int (1 : Int32)), .val (.int (1 : Int32)), .unset] [(.long (own_sz (0 : Int32) p3)), (.long (own_sz p1 (0 : Int32))), (.long ((own_sz p1 p3) + (own_sz (0 : Int32) (0 : Int32))))])
  refine own_go (fun _ k => XS.ladd Xz6.here hx rfl (hb hby at_117) rfl k) ?_
  show own_Go _ _ _ _ Tz6 (mkF m 118 #[.val (.int p1), .val (.int p2), .val (.int p3), .val (.int p4), .val (.long (own_sz (0 : Int32) (0 : Int32))), .second, .val (.long (own_sz p1 p3)), .second, .val (.long (own_sz p2 p3)), .second, .val (.long (own_sz p1 p4)), .second, .val (.long (own_sz p1 (0 : Int32))), .second, .val (.long (own_sz (0 : Int32) p3)), .second, .val (.int (1 : Int32)), .val (.int (1 : Int32)), .val (.int (1 : Int32)), .unset] [(.long ((own_sz p1 (0 : Int32)) + (own_sz (0 : Int32) p3))), (.long ((own_sz p1 p3) + (own_sz (0 : Int32) (0 : Int32))))])
  refine own_go (fun _ k => XS.lcmp Xz6.here hx rfl (hb hby at_118) rfl k) ?_
  show own_Go _ _ _ _ Tz6 (mkF m 119 #[.val (.int p1), .val (.int p2), .val (.int p3), .val (.int p4), .val (.long (own_sz (0 : Int32) (0 : Int32))), .second, .val (.long (own_sz p1 p3)), .second, .val (.long (own_sz p2 p3)), .second, .val (.long (own_sz p1 p4)), .second, .val (.long (own_sz p1 (0 : Int32))), .second, .val (.long (own_sz (0 : Int32) p3)), .second, .val (.int (1 : Int32)), .val (.int (1 : Int32)), .val (.int (1 : Int32)), .unset] [(.int (lcmpW ((own_sz p1 p3) + (own_sz (0 : Int32) (0 : Int32))) ((own_sz p1 (0 : Int32)) + (own_sz (0 : Int32) p3))))])
  refine own_go (fun _ k => XS.ifNo Xz6.here hx rfl (hb hby at_119) rfl ((if0 _ _).trans (teq ((lw_eq _ _).mpr (own_k4 _ _))).2) k) ?_
  show own_Go _ _ _ _ Tz6 (mkF m 122 #[.val (.int p1), .val (.int p2), .val (.int p3), .val (.int p4), .val (.long (own_sz (0 : Int32) (0 : Int32))), .second, .val (.long (own_sz p1 p3)), .second, .val (.long (own_sz p2 p3)), .second, .val (.long (own_sz p1 p4)), .second, .val (.long (own_sz p1 (0 : Int32))), .second, .val (.long (own_sz (0 : Int32) p3)), .second, .val (.int (1 : Int32)), .val (.int (1 : Int32)), .val (.int (1 : Int32)), .unset] [])
  refine own_go (fun _ k => XS.iconst Xz6.here hx rfl (hb hby at_122) k) ?_
  show own_Go _ _ _ _ Tz6 (mkF m 123 #[.val (.int p1), .val (.int p2), .val (.int p3), .val (.int p4), .val (.long (own_sz (0 : Int32) (0 : Int32))), .second, .val (.long (own_sz p1 p3)), .second, .val (.long (own_sz p2 p3)), .second, .val (.long (own_sz p1 p4)), .second, .val (.long (own_sz p1 (0 : Int32))), .second, .val (.long (own_sz (0 : Int32) p3)), .second, .val (.int (1 : Int32)), .val (.int (1 : Int32)), .val (.int (1 : Int32)), .unset] [(.int (1 : Int32))])
  refine own_go (fun _ k => XS.goto Xz6.here hx rfl (pc0 := 123) (pc' := 127) rfl (hb hby at_123) (by decide) (by decide) k) ?_
  show own_Go _ _ _ _ Tz6 (mkF m 127 #[.val (.int p1), .val (.int p2), .val (.int p3), .val (.int p4), .val (.long (own_sz (0 : Int32) (0 : Int32))), .second, .val (.long (own_sz p1 p3)), .second, .val (.long (own_sz p2 p3)), .second, .val (.long (own_sz p1 p4)), .second, .val (.long (own_sz p1 (0 : Int32))), .second, .val (.long (own_sz (0 : Int32) p3)), .second, .val (.int (1 : Int32)), .val (.int (1 : Int32)), .val (.int (1 : Int32)), .unset] [(.int (1 : Int32))])
  refine own_go (fun _ k => XS.istore Xz6.here hx rfl (hb hby at_127) rfl (l' := #[.val (.int p1), .val (.int p2), .val (.int p3), .val (.int p4), .val (.long (own_sz (0 : Int32) (0 : Int32))), .second, .val (.long (own_sz p1 p3)), .second, .val (.long (own_sz p2 p3)), .second, .val (.long (own_sz p1 p4)), .second, .val (.long (own_sz p1 (0 : Int32))), .second, .val (.long (own_sz (0 : Int32) p3)), .second, .val (.int (1 : Int32)), .val (.int (1 : Int32)), .val (.int (1 : Int32)), .val (.int (1 : Int32))]) rfl k) ?_
  show own_Go _ _ _ _ Tz6 (mkF m 129 #[.val (.int p1), .val (.int p2), .val (.int p3), .val (.int p4), .val (.long (own_sz (0 : Int32) (0 : Int32))), .second, .val (.long (own_sz p1 p3)), .second, .val (.long (own_sz p2 p3)), .second, .val (.long (own_sz p1 p4)), .second, .val (.long (own_sz p1 (0 : Int32))), .second, .val (.long (own_sz (0 : Int32) p3)), .second, .val (.int (1 : Int32)), .val (.int (1 : Int32)), .val (.int (1 : Int32)), .val (.int (1 : Int32))] [])
  refine own_go (fun _ k => XS.iload Xz6.here hx rfl (hb hby at_129) rfl k) ?_
  show own_Go _ _ _ _ Tz6 (mkF m 131 #[.val (.int p1), .val (.int p2), .val (.int p3), .val (.int p4), .val (.long (own_sz (0 : Int32) (0 : Int32))), .second, .val (.long (own_sz p1 p3)), .second, .val (.long (own_sz p2 p3)), .second, .val (.long (own_sz p1 p4)), .second, .val (.long (own_sz p1 (0 : Int32))), .second, .val (.long (own_sz (0 : Int32) p3)), .second, .val (.int (1 : Int32)), .val (.int (1 : Int32)), .val (.int (1 : Int32)), .val (.int (1 : Int32))] [(.int (1 : Int32))])
  refine own_go (fun _ k => XS.ifNo Xz6.here hx rfl (hb hby at_131) rfl ((if0 _ _).trans (feq (by decide : ¬ ((1 : Int32) = (0 : Int32)))).1) k) ?_
  show own_Go _ _ _ _ Tz6 (mkF m 134 #[.val (.int p1), .val (.int p2), .val (.int p3), .val (.int p4), .val (.long (own_sz (0 : Int32) (0 : Int32))), .second, .val (.long (own_sz p1 p3)), .second, .val (.long (own_sz p2 p3)), .second, .val (.long (own_sz p1 p4)), .second, .val (.long (own_sz p1 (0 : Int32))), .second, .val (.long (own_sz (0 : Int32) p3)), .second, .val (.int (1 : Int32)), .val (.int (1 : Int32)), .val (.int (1 : Int32)), .val (.int (1 : Int32))] [])
  refine own_go (fun _ k => XS.iload Xz6.here hx rfl (hb hby at_134) rfl k) ?_
  show own_Go _ _ _ _ Tz6 (mkF m 136 #[.val (.int p1), .val (.int p2), .val (.int p3), .val (.int p4), .val (.long (own_sz (0 : Int32) (0 : Int32))), .second, .val (.long (own_sz p1 p3)), .second, .val (.long (own_sz p2 p3)), .second, .val (.long (own_sz p1 p4)), .second, .val (.long (own_sz p1 (0 : Int32))), .second, .val (.long (own_sz (0 : Int32) p3)), .second, .val (.int (1 : Int32)), .val (.int (1 : Int32)), .val (.int (1 : Int32)), .val (.int (1 : Int32))] [(.int (1 : Int32))])
  refine own_go (fun _ k => XS.ifNo Xz6.here hx rfl (hb hby at_136) rfl ((if0 _ _).trans (feq (by decide : ¬ ((1 : Int32) = (0 : Int32)))).1) k) ?_
  show own_Go _ _ _ _ Tz6 (mkF m 139 #[.val (.int p1), .val (.int p2), .val (.int p3), .val (.int p4), .val (.long (own_sz (0 : Int32) (0 : Int32))), .second, .val (.long (own_sz p1 p3)), .second, .val (.long (own_sz p2 p3)), .second, .val (.long (own_sz p1 p4)), .second, .val (.long (own_sz p1 (0 : Int32))), .second, .val (.long (own_sz (0 : Int32) p3)), .second, .val (.int (1 : Int32)), .val (.int (1 : Int32)), .val (.int (1 : Int32)), .val (.int (1 : Int32))] [])
  refine own_go (fun _ k => XS.iload Xz6.here hx rfl (hb hby at_139) rfl k) ?_
  show own_Go _ _ _ _ Tz6 (mkF m 141 #[.val (.int p1), .val (.int p2), .val (.int p3), .val (.int p4), .val (.long (own_sz (0 : Int32) (0 : Int32))), .second, .val (.long (own_sz p1 p3)), .second, .val (.long (own_sz p2 p3)), .second, .val (.long (own_sz p1 p4)), .second, .val (.long (own_sz p1 (0 : Int32))), .second, .val (.long (own_sz (0 : Int32) p3)), .second, .val (.int (1 : Int32)), .val (.int (1 : Int32)), .val (.int (1 : Int32)), .val (.int (1 : Int32))] [(.int (1 : Int32))])
  refine own_go (fun _ k => XS.ifNo Xz6.here hx rfl (hb hby at_141) rfl ((if0 _ _).trans (feq (by decide : ¬ ((1 : Int32) = (0 : Int32)))).1) k) ?_
  show own_Go _ _ _ _ Tz6 (mkF m 144 #[.val (.int p1), .val (.int p2), .val (.int p3), .val (.int p4), .val (.long (own_sz (0 : Int32) (0 : Int32))), .second, .val (.long (own_sz p1 p3)), .second, .val (.long (own_sz p2 p3)), .second, .val (.long (own_sz p1 p4)), .second, .val (.long (own_sz p1 (0 : Int32))), .second, .val (.long (own_sz (0 : Int32) p3)), .second, .val (.int (1 : Int32)), .val (.int (1 : Int32)), .val (.int (1 : Int32)), .val (.int (1 : Int32))] [])
  refine own_go (fun _ k => XS.iload Xz6.here hx rfl (hb hby at_144) rfl k) ?_
  show own_Go _ _ _ _ Tz6 (mkF m 146 #[.val (.int p1), .val (.int p2), .val (.int p3), .val (.int p4), .val (.long (own_sz (0 : Int32) (0 : Int32))), .second, .val (.long (own_sz p1 p3)), .second, .val (.long (own_sz p2 p3)), .second, .val (.long (own_sz p1 p4)), .second, .val (.long (own_sz p1 (0 : Int32))), .second, .val (.long (own_sz (0 : Int32) p3)), .second, .val (.int (1 : Int32)), .val (.int (1 : Int32)), .val (.int (1 : Int32)), .val (.int (1 : Int32))] [(.int (1 : Int32))])
  refine own_go (fun _ k => XS.ifNo Xz6.here hx rfl (hb hby at_146) rfl ((if0 _ _).trans (feq (by decide : ¬ ((1 : Int32) = (0 : Int32)))).1) k) ?_
  show own_Go _ _ _ _ Tz6 (mkF m 149 #[.val (.int p1), .val (.int p2), .val (.int p3), .val (.int p4), .val (.long (own_sz (0 : Int32) (0 : Int32))), .second, .val (.long (own_sz p1 p3)), .second, .val (.long (own_sz p2 p3)), .second, .val (.long (own_sz p1 p4)), .second, .val (.long (own_sz p1 (0 : Int32))), .second, .val (.long (own_sz (0 : Int32) p3)), .second, .val (.int (1 : Int32)), .val (.int (1 : Int32)), .val (.int (1 : Int32)), .val (.int (1 : Int32))] [])
  refine own_go (fun _ k => XS.iconst Xz6.here hx rfl (hb hby at_149) k) ?_
  show own_Go _ _ _ _ Tz6 (mkF m 150 #[.val (.int p1), .val (.int p2), .val (.int p3), .val (.int p4), .val (.long (own_sz (0 : Int32) (0 : Int32))), .second, .val (.long (own_sz p1 p3)), .second, .val (.long (own_sz p2 p3)), .second, .val (.long (own_sz p1 p4)), .second, .val (.long (own_sz p1 (0 : Int32))), .second, .val (.long (own_sz (0 : Int32) p3)), .second, .val (.int (1 : Int32)), .val (.int (1 : Int32)), .val (.int (1 : Int32)), .val (.int (1 : Int32))] [(.int (1 : Int32))])
  refine own_go (fun _ k => XS.goto Xz6.here hx rfl (pc0 := 150) (pc' := 154) rfl (hb hby at_150) (by decide) (by decide) k) ?_
  show own_Go _ _ _ _ Tz6 (mkF m 154 #[.val (.int p1), .val (.int p2), .val (.int p3), .val (.int p4), .val (.long (own_sz (0 : Int32) (0 : Int32))), .second, .val (.long (own_sz p1 p3)), .second, .val (.long (own_sz p2 p3)), .second, .val (.long (own_sz p1 p4)), .second, .val (.long (own_sz p1 (0 : Int32))), .second, .val (.long (own_sz (0 : Int32) p3)), .second, .val (.int (1 : Int32)), .val (.int (1 : Int32)), .val (.int (1 : Int32)), .val (.int (1 : Int32))] [(.int (1 : Int32))])
  exact own_end Xz6 hlk (v := (some (.int (1 : Int32)))) (fun h => by rw [hret] at h; cases h) (fun fs hr => retN Xz6 hx (t := .boolean) hret (by simp) (hb hby at_154) hr) (by rw [ehz6]; exact ⟨rfl, Nz6⟩) (by decide) (by decide)
set_option maxRecDepth 65536 in
set_option maxHeartbeats 40000000 in
theorem own_comes {Post : Tables → Env → Array Value → State → Outcome → State → Prop} (hpost : ∀ tb e args s v u, (limb_1_1.after args s (.returned v) u = true ∧ limb_1_2.after args s (.returned v) u = true ∧ True) → FrameEnd s (.returned v) u (Jvm.fieldLocs frame_1_writes args s ++ Jvm.arrayLocs frame_1_arrays args s ++ Jvm.staticLocs frame_1_statics s) 0 0 → Post tb e args s (.returned v) u) :
    ArmFor flags0 classFile x code maxLocals ret World_1 tables_1 room_1 Calls_1 rest_1 Pre_1 Post := by
  intro l hfl _ _ p e ha hc hk s m args below hf hA hF happ hP
  obtain ⟨hcalls, hrest, hpre⟩ := hP
  obtain ⟨-, -, -, hnamed, -, -, -, hat⟩ := (Spec.applies_iff hf).mp happ
  obtain ⟨hg, hn⟩ := and_e (Cond.before_iff.mp (show (Jvm.Cond.and given_1 narrow_1).before args s = true from hpre))
  obtain ⟨g1, g2⟩ := and_e hg
  obtain ⟨g3, g4⟩ := and_e g2
  obtain ⟨g5, g6⟩ := and_e g4
  obtain ⟨g7, g8⟩ := and_e g6
  obtain ⟨w0, w1, w2, w3, rfl⟩ : ∃ w0 w1 w2 w3 : Value, args = #[w0, w1, w2, w3] := by
    have hs : args.size = 4 := by simpa [Cond.value, given_1] using g1
    obtain ⟨L⟩ := args
    match L, hs with
    | [w0, w1, w2, w3], _ => exact ⟨w0, w1, w2, w3, rfl⟩
  have hw := fun d (hd : d ∈ tables_1) => atoms_spec (ws := Jvm.Cond.code x code maxLocals ret :: tables_1) hat d (List.mem_cons_of_mem _ hd)
  have hfit : Fit s := fun {y c} hc i hi => by
    obtain ⟨ha, rfl⟩ := Array.getElem?_eq_some_iff.mp hc
    have q := List.all_eq_true.mp ((Array.all_eq_true_iff_forall_mem.mp hF) _ (Array.getElem_mem ha)) i (List.mem_range.mpr hi)
    simpa [Array.getElem?_eq_getElem hi] using q
  obtain ⟨i0, ei0⟩ := is_v g3
  obtain rfl : w0 = (.int i0) := Option.some.inj ei0
  obtain ⟨i1, ei1⟩ := is_v g5
  obtain rfl : w1 = (.int i1) := Option.some.inj ei1
  obtain ⟨i2, ei2⟩ := is_v g7
  obtain rfl : w2 = (.int i2) := Option.some.inj ei2
  obtain ⟨i3, ei3⟩ := is_v g8
  obtain rfl : w3 = (.int i3) := Option.some.inj ei3
  obtain ⟨n, o, h1, h2, h3, _, L, rfl, ⟨rfl, N⟩, hq⟩ := own_rm0 l s _ hw tables_1 i0 i1 i2 i3 s.heap s.heap.size  p e ha hc hk s m _ below hf ((Spec.applies_iff_loose hf).mp happ).1 ⟨rfl, State.Warmed39.refl s, rfl⟩ trivial
  refine ⟨n, _, h1, h2, h3, hpost _ _ _ _ _ _ ⟨Cond.after_iff.mpr rfl, Cond.after_iff.mpr (eq_i res_at (Term.int_eval (1)) rfl), trivial⟩ ⟨hq.1, hq.2.1, (hq.2.2.sift fun y hy => Or.inr (N y hy)).mono (by decide) (by decide)⟩⟩
theorem main_1_1 : Claimed_1_1 := own_comes fun _ _ _ _ _ _ h hF => ⟨h.1, hF⟩
theorem main_1_2 : Claimed_1_2 := own_comes fun _ _ _ _ _ _ h hF => ⟨h.2.1, hF⟩
end Jvm.Pilot.@@N@@
namespace Jvm.Pilot.@@N@@
open Jvm Jvm.ClassFile Sem Op Lib Jvm.Free Jvm.Stand Jvm.Pilot.@@N@@.Jvm.D
/-! MADE BY PROGRAM (witnessworld.py) out of the Statement's table words and the real class files: 11 classes; the members and pool entries that the words name. The judged class is class 1, her method 1. -/
namespace start1
open Jvm.ClassFile
def u (s : String) : CpInfo := .utf8 (stringToUtf16 s)
/-- a pool by its gaps: so many unusable entries, then the entry; so many at the end -/
def gap : Nat → List CpInfo → List CpInfo
  | 0, r => r
  | n + 1, r => .unusable :: gap n r
def poolList (es : List (Nat × CpInfo)) (last : Nat) : List CpInfo := es.foldr (fun e r => gap e.1 (e.2 :: r)) (gap last [])
def pool (es : List (Nat × CpInfo)) (last : Nat) : Array CpInfo := ⟨poolList es last⟩
def fileOf (pool : Array CpInfo) (this : Nat) (attrs : Array Attribute := #[]) (ms : Array MethodInfo := #[]) (fl : Nat := 33) (sup : Nat := 0) (ifs : Array Nat := #[]) (fds : Array FieldInfo := #[]) : ClassFile where
  minorVersion := 0
  majorVersion := 65
  constantPool := pool
  accessFlags := fl
  thisClass := this
  superClass := sup
  interfaces := ifs
  fields := fds
  methods := ms
  attributes := attrs
def plain (name : String) (sup : Option ClassId) : Class where
  name := name
  kind := .ordinary
  loader := none
  accessFlags := 33
  super := sup
  interfaces := #[]
  cf := none
  fields := #[]
  methods := #[]
  instanceTypes := #[]
  staticTypes := #[]
  resolved := #[]
  callSites := []
  init := .initialized
  statics := none
  mirror := none

def pool0 : Array CpInfo := pool [(5, u "<init>"), (0, u "()V"), (1, .class_ 10), (1, u "java/lang/Object")] 113

def k0m0 : Method := { name := "<init>", desc := "()V", sig := { parameters := [], returnType := none }, accessFlags := 1, code := none }
/-- java/lang/Object -/
def k0 : Class := { plain "java/lang/Object" none with
  accessFlags := 33
  interfaces := #[]
  cf := some (fileOf pool0 8 #[] #[{ accessFlags := 1, nameIndex := 5, descriptorIndex := 6, attributes := #[] }] 33 0 #[] #[])
  fields := #[]
  methods := #[k0m0]
  instanceTypes := #[]
  staticTypes := #[]
  resolved := Array.replicate 124 none
  statics := none }

def pool1 : Array CpInfo := pool [(2, .class_ 4), (1, u "java/lang/Object"), (0, u "<init>"), (0, u "()V"), (0, .methodref 8 9), (0, .class_ 10), (0, .nameAndType 11 12), (0, u "com/example/planaria/planaria/store/IndexFile"), (0, u "size"), (0, u "(II)J"), (0, .long 40), (1, .long 4), (1, .long 20), (1, .class_ 20), (0, u "com/example/planaria/planaria/store/IndexFileSizePinLaw"), (2, u "law"), (0, u "(IIII)Z")] 3

def k1m0 : Method := { name := "<init>", desc := "()V", sig := { parameters := [], returnType := none }, accessFlags := 2, code := none }
def k1c1 : Code := { maxStack := 8, maxLocals := 20, code := code, exceptionTable := #[], attributes := #[] }
def k1m1 : Method := { name := "law", desc := "(IIII)Z", sig := { parameters := [.int, .int, .int, .int], returnType := some .boolean }, accessFlags := 9, code := some k1c1 }
/-- com/example/planaria/planaria/store/IndexFileSizePinLaw -/
def k1 : Class := { plain "com/example/planaria/planaria/store/IndexFileSizePinLaw" (some 0) with
  accessFlags := 49
  interfaces := #[]
  cf := some (fileOf pool1 19 #[] #[{ accessFlags := 2, nameIndex := 5, descriptorIndex := 6, attributes := #[] }, { accessFlags := 9, nameIndex := 23, descriptorIndex := 24, attributes := #[] }] 49 2 #[] #[])
  fields := #[]
  methods := #[k1m0, k1m1]
  instanceTypes := #[]
  staticTypes := #[]
  resolved := Array.replicate 28 none
  statics := none }

def pool2 : Array CpInfo := pool [(1, .class_ 2), (0, u "java/lang/AutoCloseable"), (0, .class_ 4), (0, u "java/lang/Object")] 7

/-- java/lang/AutoCloseable -/
def k2 : Class := { plain "java/lang/AutoCloseable" (some 0) with
  accessFlags := 1537
  interfaces := #[]
  cf := some (fileOf pool2 1 #[] #[] 1537 3 #[] #[])
  fields := #[]
  methods := #[]
  instanceTypes := #[]
  staticTypes := #[]
  resolved := Array.replicate 12 none
  statics := none }

def pool3 : Array CpInfo := pool [(1, .class_ 2), (0, u "java/io/Closeable"), (0, .class_ 4), (0, u "java/lang/Object"), (0, .class_ 6), (0, u "java/lang/AutoCloseable")] 7

/-- java/io/Closeable -/
def k3 : Class := { plain "java/io/Closeable" (some 0) with
  accessFlags := 1537
  interfaces := #[2]
  cf := some (fileOf pool3 1 #[] #[] 1537 3 #[5] #[])
  fields := #[]
  methods := #[]
  instanceTypes := #[]
  staticTypes := #[]
  resolved := Array.replicate 14 none
  statics := none }

def pool4 : Array CpInfo := pool [(2, .class_ 4), (1, u "java/lang/Object"), (3, .class_ 10), (1, u "com/example/planaria/planaria/store/IndexFile"), (0, u "path"), (0, u "Ljava/nio/file/Path;"), (2, u "file"), (0, u "Lcom/example/planaria/planaria/store/StoreFile;"), (2, u "slotCount"), (0, u "I"), (2, u "places"), (8, u "beginTimestamp"), (0, u "J"), (2, u "endTimestamp"), (2, u "beginPhysicalOffset"), (2, u "endPhysicalOffset"), (6, u "usedSlots"), (2, u "nextEntry"), (0, .long 40), (1, .long 4), (1, .long 20), (48, u "size"), (3, u "(II)J"), (47, u "slots"), (0, u "[I"), (5, u "gathered"), (0, u "Ljava/nio/ByteBuffer;"), (30, u "changedBlocks"), (0, u "Ljava/util/BitSet;"), (8, u "headerChanged"), (0, u "Z"), (56, .class_ 267), (1, u "com/example/planaria/planaria/store/IndexFile$Entry"), (22, u "unforced"), (26, u "firstGathered"), (52, .class_ 371), (0, u "java/io/Closeable"), (0, u "HEADER_SIZE"), (2, u "SLOT_SIZE"), (1, u "ENTRY_SIZE"), (1, u "GATHERED_ENTRIES"), (1, u "SLOTS_PER_BLOCK"), (1, u "PIECE_SIZE")] 52

def k4c0 : Code := { maxStack := 6, maxLocals := 2, code := prog_40_method_2_code, exceptionTable := #[], attributes := #[] }
def k4m0 : Method := { name := "size", desc := "(II)J", sig := { parameters := [.int, .int], returnType := some .long }, accessFlags := 8, code := some k4c0 }
/-- com/example/planaria/planaria/store/IndexFile -/
def k4 : Class := { plain "com/example/planaria/planaria/store/IndexFile" (some 0) with
  accessFlags := 48
  interfaces := #[3]
  cf := some (fileOf pool4 8 #[.nestMembers #[265]] #[{ accessFlags := 8, nameIndex := 106, descriptorIndex := 110, attributes := #[] }] 48 2 #[370] #[{ accessFlags := 24, nameIndex := 372, descriptorIndex := 20, attributes := #[] }, { accessFlags := 26, nameIndex := 375, descriptorIndex := 20, attributes := #[] }, { accessFlags := 26, nameIndex := 377, descriptorIndex := 20, attributes := #[] }, { accessFlags := 26, nameIndex := 379, descriptorIndex := 20, attributes := #[] }, { accessFlags := 26, nameIndex := 381, descriptorIndex := 20, attributes := #[] }, { accessFlags := 26, nameIndex := 383, descriptorIndex := 20, attributes := #[] }, { accessFlags := 18, nameIndex := 11, descriptorIndex := 12, attributes := #[] }, { accessFlags := 18, nameIndex := 15, descriptorIndex := 16, attributes := #[] }, { accessFlags := 18, nameIndex := 19, descriptorIndex := 20, attributes := #[] }, { accessFlags := 18, nameIndex := 23, descriptorIndex := 20, attributes := #[] }, { accessFlags := 2, nameIndex := 32, descriptorIndex := 33, attributes := #[] }, { accessFlags := 2, nameIndex := 36, descriptorIndex := 33, attributes := #[] }, { accessFlags := 2, nameIndex := 39, descriptorIndex := 33, attributes := #[] }, { accessFlags := 2, nameIndex := 42, descriptorIndex := 33, attributes := #[] }, { accessFlags := 2, nameIndex := 49, descriptorIndex := 20, attributes := #[] }, { accessFlags := 2, nameIndex := 52, descriptorIndex := 20, attributes := #[] }, { accessFlags := 2, nameIndex := 207, descriptorIndex := 208, attributes := #[] }, { accessFlags := 2, nameIndex := 158, descriptorIndex := 159, attributes := #[] }, { accessFlags := 2, nameIndex := 197, descriptorIndex := 198, attributes := #[] }, { accessFlags := 2, nameIndex := 165, descriptorIndex := 166, attributes := #[] }, { accessFlags := 2, nameIndex := 317, descriptorIndex := 20, attributes := #[] }, { accessFlags := 2, nameIndex := 290, descriptorIndex := 208, attributes := #[] }])
  fields := #[{ name := "HEADER_SIZE", type := .int, accessFlags := 24, slot := 0, constantValue := 0 }, { name := "SLOT_SIZE", type := .int, accessFlags := 26, slot := 1, constantValue := 0 }, { name := "ENTRY_SIZE", type := .int, accessFlags := 26, slot := 2, constantValue := 0 }, { name := "GATHERED_ENTRIES", type := .int, accessFlags := 26, slot := 3, constantValue := 0 }, { name := "SLOTS_PER_BLOCK", type := .int, accessFlags := 26, slot := 4, constantValue := 0 }, { name := "PIECE_SIZE", type := .int, accessFlags := 26, slot := 5, constantValue := 0 }, { name := "path", type := (.object "java/nio/file/Path"), accessFlags := 18, slot := 0, constantValue := 0 }, { name := "file", type := (.object "com/example/planaria/planaria/store/StoreFile"), accessFlags := 18, slot := 1, constantValue := 0 }, { name := "slotCount", type := .int, accessFlags := 18, slot := 2, constantValue := 0 }, { name := "places", type := .int, accessFlags := 18, slot := 3, constantValue := 0 }, { name := "beginTimestamp", type := .long, accessFlags := 2, slot := 4, constantValue := 0 }, { name := "endTimestamp", type := .long, accessFlags := 2, slot := 5, constantValue := 0 }, { name := "beginPhysicalOffset", type := .long, accessFlags := 2, slot := 6, constantValue := 0 }, { name := "endPhysicalOffset", type := .long, accessFlags := 2, slot := 7, constantValue := 0 }, { name := "usedSlots", type := .int, accessFlags := 2, slot := 8, constantValue := 0 }, { name := "nextEntry", type := .int, accessFlags := 2, slot := 9, constantValue := 0 }, { name := "headerChanged", type := .boolean, accessFlags := 2, slot := 10, constantValue := 0 }, { name := "slots", type := (.array .int), accessFlags := 2, slot := 11, constantValue := 0 }, { name := "changedBlocks", type := (.object "java/util/BitSet"), accessFlags := 2, slot := 12, constantValue := 0 }, { name := "gathered", type := (.object "java/nio/ByteBuffer"), accessFlags := 2, slot := 13, constantValue := 0 }, { name := "firstGathered", type := .int, accessFlags := 2, slot := 14, constantValue := 0 }, { name := "unforced", type := .boolean, accessFlags := 2, slot := 15, constantValue := 0 }]
  methods := #[k4m0]
  instanceTypes := #[(.object "java/nio/file/Path"), (.object "com/example/planaria/planaria/store/StoreFile"), .int, .int, .long, .long, .long, .long, .int, .int, .boolean, (.array .int), (.object "java/util/BitSet"), (.object "java/nio/ByteBuffer"), .int, .boolean]
  staticTypes := #[.int, .int, .int, .int, .int, .int]
  resolved := Array.replicate 436 none
  statics := none }

def pool5 : Array CpInfo := pool [(1, u "java/lang/Cloneable"), (0, .class_ 1), (0, u "java/lang/Object"), (0, .class_ 3)] 3

/-- java/lang/Cloneable -/
def k5 : Class := { plain "java/lang/Cloneable" (some 0) with
  accessFlags := 1537
  interfaces := #[]
  cf := some (fileOf pool5 2 #[] #[] 1537 4 #[] #[])
  fields := #[]
  methods := #[]
  instanceTypes := #[]
  staticTypes := #[]
  resolved := Array.replicate 8 none
  statics := none }

def pool6 : Array CpInfo := pool [(1, u "java/io/Serializable"), (0, .class_ 1), (0, u "java/lang/Object"), (0, .class_ 3)] 3

/-- java/io/Serializable -/
def k6 : Class := { plain "java/io/Serializable" (some 0) with
  accessFlags := 1537
  interfaces := #[]
  cf := some (fileOf pool6 2 #[] #[] 1537 4 #[] #[])
  fields := #[]
  methods := #[]
  instanceTypes := #[]
  staticTypes := #[]
  resolved := Array.replicate 8 none
  statics := none }

/-- the primitive byte -/
def k7 : Class := { plain "byte" none with kind := .primitive 'B', accessFlags := 0x411 }
/-- [B -/
def k8 : Class := { plain "[B" (some 0) with kind := .array 7 .byte, interfaces := #[5, 6], accessFlags := 1041 }

/-- the primitive int -/
def k9 : Class := { plain "int" none with kind := .primitive 'I', accessFlags := 0x411 }
/-- [I -/
def k10 : Class := { plain "[I" (some 0) with kind := .array 9 .int, interfaces := #[5, 6], accessFlags := 1041 }

def heap : Heap := #[]
def classes : Array Class := #[k0, k1, k2, k3, k4, k5, k6, k7, k8, k9, k10]
def interned : List (Array UInt16 × Addr) := []
def slotsUsed : Nat := 0
def theMethod : MethodId := ⟨1, 1⟩
def args0 : Array Value := #[.int 5, .int 3, .int 7, .int 2]
def aboutOver (below : List Frame) : State where
  vm := { classes := classes, interned := interned.toArray }
  heap := heap
  slotsUsed := slotsUsed
  threads := #[{ frames := .invoking theMethod args0 :: below }]
def below0 : List Frame := [.native { method := ⟨0, 0⟩, args := #[] }]
def about1 : State := aboutOver below0
def p0 : Program := .bare "" "" ""
def e0 : Env := launch0.env 0 0 0
theorem w_frames : about1.frames = Frame.invoking theMethod args0 :: below0 := rfl
set_option maxRecDepth 65536 in
theorem w_args : argsFit about1.vm theMethod args0 = true := by decide +kernel
set_option maxRecDepth 65536 in
theorem w_heap : heapFits about1 = true := by decide +kernel
set_option maxRecDepth 65536 in
theorem w_runnable : about1.curStatus? = some .runnable := by decide +kernel
set_option maxRecDepth 65536 in
theorem w_alone : about1.alone = true := by decide +kernel
set_option maxRecDepth 65536 in
theorem w_named : about1.methodNamed? x = some theMethod := by decide +kernel
set_option maxRecDepth 65536 in
theorem w_hears : about1.hears theMethod below0 = true := by decide +kernel
set_option maxRecDepth 65536 in
theorem w_ripe : about1.ripe theMethod args0 below0 = true := by decide +kernel
theorem w_running : about1.status = .running := rfl
set_option maxRecDepth 65536 in
theorem w_room : about1.hasRoom e0.platform room_1 = true :=
  launch0.hasRoom_least _ room_1 (by decide +kernel) (by decide +kernel) (by decide +kernel) (by decide +kernel) (by decide +kernel) (by decide +kernel)
theorem allAtoms_all (ts : List Jvm.Cond) (a : Array Jvm.Value) (st : Jvm.State) : (allAtoms ts).before a st = ts.all (fun c => c.before a st) := by
  induction ts with
  | nil => rfl
  | cons c t ih =>
    show (Jvm.Cond.and c (allAtoms t)).before a st = _
    rw [Jvm.Cond.before_and, ih, List.all_cons]
def words1 : List Jvm.Cond := Jvm.Cond.code x code maxLocals ret :: tables_1
/-- a 'code' word, met by the world's own term for the bytes: nothing is compared byte by byte -/
theorem code_word {y : MethodName} {bytes : ByteArray} {mx : Nat} {rt : Option FieldType} {a : Array Value} {s : State} {m : MethodId} {meth : Method} {c : Code} (h1 : s.methodNamed? y = some m) (h2 : s.vm.method? m = some meth) (h3 : meth.code = some c) (h4 : c.code = bytes)
    (h5 : (c.maxLocals == mx && c.exceptionTable.isEmpty && decide (c.maxStack ≤ mostOperands) && decide (meth.sig.returnType = rt) && !meth.locks && decide (parseMethodDescriptor y.desc = some meth.sig)) = true) : (Jvm.Cond.code y bytes mx rt).before a s = true := by
  simp only [Bool.and_eq_true, beq_iff_eq, Bool.not_eq_true', decide_eq_true_eq] at h5
  obtain ⟨⟨⟨⟨⟨g1, g2⟩, g3⟩, g4⟩, g5⟩, g6⟩ := h5
  simp [Cond.before, Cond.holds, Cond.value, h1, h2, h3, h4, g1, g2, g3, g4, g5, g6]
def isCode : Jvm.Cond → Bool
  | .code _ _ _ _ => true
  | _ => false
theorem all_split {L : List Jvm.Cond} {P : Jvm.Cond → Bool} (h1 : L.all (fun c => isCode c || P c) = true) (h2 : ∀ c ∈ L.filter isCode, P c = true) : L.all P = true := by
  refine List.all_eq_true.mpr fun c hc => ?_
  have h := List.all_eq_true.mp h1 c hc
  rcases Bool.eq_false_or_eq_true (isCode c) with hi | hi
  · exact h2 c (List.mem_filter.mpr ⟨hc, hi⟩)
  · simpa [hi] using h
set_option maxRecDepth 65536 in
theorem w_c0 : (Jvm.Cond.code x code maxLocals ret).before args0 about1 = true := code_word (m := ⟨1, 1⟩) (meth := k1m1) (c := k1c1) (by decide +kernel) rfl rfl rfl (by decide +kernel)
set_option maxRecDepth 65536 in
theorem w_c1 : (Jvm.Cond.code ({ cls := "com/example/planaria/planaria/store/IndexFile", name := "size", desc := "(II)J" } : Jvm.MethodName) prog_40_method_2_code (2 : Nat) (Option.some Jvm.ClassFile.FieldType.long)).before args0 about1 = true := code_word (m := ⟨4, 0⟩) (meth := k4m0) (c := k4c0) (by decide +kernel) rfl rfl rfl (by decide +kernel)
def codes1 : List Jvm.Cond := [Jvm.Cond.code x code maxLocals ret, Jvm.Cond.code ({ cls := "com/example/planaria/planaria/store/IndexFile", name := "size", desc := "(II)J" } : Jvm.MethodName) prog_40_method_2_code (2 : Nat) (Option.some Jvm.ClassFile.FieldType.long)]
set_option maxRecDepth 65536 in
theorem codes_eq : words1.filter isCode = codes1 := rfl
theorem w_codes : ∀ c ∈ words1.filter isCode, c.before args0 about1 = true := by
  rw [codes_eq]
  intro c hc
  simp only [codes1, List.mem_cons, List.not_mem_nil, or_false] at hc
  rcases hc with rfl | rfl
  · exact w_c0
  · exact w_c1
set_option maxRecDepth 65536 in
theorem w_t1 : words1.all (fun c => isCode c || c.before args0 about1) = true := by decide +kernel
theorem w_tables : (allAtoms (Jvm.Cond.code x code maxLocals ret :: tables_1)).before args0 about1 = true := by
  rw [allAtoms_all]
  show words1.all (fun c => c.before args0 about1) = true
  refine all_split ?_ w_codes
  rw [w_t1]
set_option maxRecDepth 65536 in
theorem w_case : (Jvm.Cond.and given_1 narrow_1).before args0 about1 = true := by decide +kernel
theorem w_applies : (headSpec (Jvm.Cond.code x code maxLocals ret :: tables_1) room_1).applies x e0.platform about1 = true :=
  (Spec.applies_iff w_frames).mpr ⟨w_running, w_runnable, w_alone, w_named, w_hears, w_ripe, w_room, w_tables⟩
theorem atStart : AtStart classFile x code maxLocals ret World_1 tables_1 room_1 Calls_1 rest_1 Pre_1 launch0 p0 e0 about1 theMethod args0 below0 :=
  ⟨lists_1, trivial, launch0.admits_env _ _ _, launch0.least_env, fairChoices_fair.cas, fairChoices_fair.clock, w_frames, w_args, w_heap, w_applies, trivial, trivial, w_case⟩
end start1
theorem witness_1 : WitnessClaimed_1 := ⟨start1.p0, start1.e0, start1.about1, start1.theMethod, start1.args0, start1.below0, start1.atStart⟩
end Jvm.Pilot.@@N@@
