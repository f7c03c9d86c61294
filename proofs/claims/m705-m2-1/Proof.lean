import JvmDerived
import JvmDerived.Pilot.@@N@@Statement
import JvmDerived.Pilot.@@N@@Code
set_option linter.unusedVariables false
set_option linter.unusedSimpArgs false
namespace Jvm.Pilot.@@N@@
open Jvm Jvm.ClassFile Sem Op Lib Jvm.Free Jvm.Stand Jvm.LawKit Jvm.RoadKit Bundle Jvm.Pilot.@@N@@.Jvm.D
/-! own_: the walk's goal, said once: from the frame g at T the run comes to an end that Fin holds of -/
def own_Go (p : Program) (e : Env) (below : List Frame) (Fin : Outcome → State → Prop) (T : State) (g : JFrame) : Prop :=
  ∃ s₂ o, Steps p.tables e below (T.setTop g) s₂ ∧ s₂.status = .running ∧ Ended s₂ below o ∧ Fin o s₂
def own_Fin (s : State) (Q : Option Value → Heap → List Loc → Prop) (k n : Nat) (o : Outcome) (t : State) : Prop :=
  ∃ v L, o = .returned v ∧ Q v t.heap L ∧ FrameEnd s o t L k n
section OwnGo
variable {p : Program} {l : Launch} {e : Env} {R : Room} {s : State} {m : MethodId} {args : Array Value} {below : List Frame} {meth : Method} {c : Code} {T T' : State} {locs : List Loc} {cells slots : Nat} {Z : State} {a0 : Array Value} {h : Heap} {g g' : JFrame} {Fin : Outcome → State → Prop} {k n : Nat} {Q : Option Value → Heap → List Loc → Prop}
theorem own_go (st : ∀ target, Steps p.tables e below (T'.setTop g') target → Steps p.tables e below (T.setTop g) target) (G : own_Go p e below Fin T' g') : own_Go p e below Fin T g := by
  obtain ⟨s₂, o, h, r⟩ := G
  exact ⟨s₂, o, st _ h, r⟩
theorem own_end (X : Stand p l e R s m args below meth c T locs cells slots) (hlk : meth.locks = false) {v : Option Value} (hv : meth.sig.returnType = none → v = none)
    (hr : ∀ fs, (∀ (f : JFrame) (acts : List Action), f.method = m → f.locked = none → f.entered = [] → (doReturn e (T.setTop f) acts v).1 = T.setFrames fs) → Steps p.tables e below (T.setTop g) (T.setFrames fs))
    (hQ : Q v T.heap locs) (hc : cells ≤ k) (hn : slots ≤ n) : own_Go p e below (own_Fin s Q k n) T g := by
  obtain ⟨fs, h1, hrun, hended, hW, hsame⟩ := X.leave hv hlk
  exact ⟨_, _, hr fs h1, hrun, hended, v, locs, rfl, hQ, ⟨_, rfl⟩, hW, hsame.mono hc hn⟩
theorem own_dia {α : Type} {C : Prop} [Decidable C] {v1 v0 : α} {f : α → JFrame} (h1 : C → own_Go p e below Fin T' (f v1) → own_Go p e below Fin T g) (h0 : ¬ C → own_Go p e below Fin T' (f v0) → own_Go p e below Fin T g) (G : own_Go p e below Fin T' (f (if C then v1 else v0))) : own_Go p e below Fin T g := by
  by_cases hC : C
  · rw [if_pos hC] at G; exact h1 hC G
  · rw [if_neg hC] at G; exact h0 hC G
end OwnGo
def own_Met (l : Launch) (Z : State) (y : MethodName) (bytes : ByteArray) (maxL : Nat) (ret : Option FieldType) (ws : List Jvm.Cond) (rm : Room) (as : Array Value) (h0 : Heap) (Q : Option Value → Heap → List Loc → Prop) : Prop :=
  MetFree l y (head1 (Jvm.Cond.code y bytes maxL ret :: ws) rm) (fun a U => a = as ∧ Z.Warmed39 U.vm ∧ U.heap = h0) (fun _ _ _ _ _ => True) (fun _ U o U' => ∃ v L, o = .returned v ∧ Q v U'.heap L ∧ FrameEnd U o U' L rm.cells rm.slots)
theorem own_met {l : Launch} {Z : State} {y : MethodName} {bytes : ByteArray} {maxL : Nat} {ret : Option FieldType} {ws : List Jvm.Cond} {rm : Room} {as : Array Value} {h0 : Heap} {Q : Option Value → Heap → List Loc → Prop} (hp : plainFor y = true)
    (body : ∀ (p : Program) (e : Env) (s : State) (m : MethodId) (below : List Frame) (meth : Method) (c : Code) (s₁ : State), Stand p l e rm s m as below meth c s₁ [] 0 0 → p.tables.exec = Jvm.exec → Z.Warmed39 s.vm → c.code = bytes → c.maxLocals = maxL → s.vm.findClass y.cls = some m.cls → meth.name = y.name → meth.sig.returnType = ret → meth.locks = false → s₁.heap = h0 →
      own_Go p e below (own_Fin s Q rm.cells rm.slots) s₁ (entryFrame m as maxL)) : own_Met l Z y bytes maxL ret ws rm as h0 Q := by
  refine MetFree.of_bodySF hp hisR ?_
  intro p e s m args below meth c s₁ Bd hml0 hP hK
  obtain ⟨rfl, hZ, hh⟩ := hP
  exact body p e s m below meth c s₁ (Stand.of_body Bd) Bd.exec hZ Bd.bytes hml0 (findClass_of_methodNamed Bd.named) (name_of_methodNamed Bd.named Bd.method).1 Bd.returns Bd.notSynchronized (by rw [← hh, Bd.state]; rfl)
section OwnCall
variable {p : Program} {l : Launch} {e : Env} {R : Room} {s : State} {m : MethodId} {args : Array Value} {below : List Frame} {meth : Method} {c : Code} {T : State} {locs : List Loc} {cells slots : Nat} {Z : State} {a0 : Array Value} {h : Heap} {g : JFrame} {Q : Option Value → Heap → List Loc → Prop} {own : String} {index : Nat} {y z : MethodName} {bytes : ByteArray} {maxL W : Nat} {ret r0 : Option FieldType} {rm : Room} {argsL rest : List Value} {ps : List FieldType} {b : Addr} {C : String}
theorem own_callS (X : Stand p l e R s m args below meth c T locs cells slots) (hx : p.tables.exec = Jvm.exec) (hZ : Z.Warmed39 s.vm) (hown : s.vm.findClass own = some m.cls) (wl : (Cond.methodLink own index y).before a0 Z = true) (ws : (Cond.static y).before a0 Z = true) (wi : (Cond.initialized y.cls).before a0 Z = true) (wc : (Cond.code y bytes maxL ret).before a0 Z = true)
    (hy : y.cls ≠ "java/lang/invoke/MethodHandle" ∧ y.cls ≠ "java/lang/invoke/VarHandle") (eT : T.heap = h) (hM : own_Met l Z y bytes maxL ret [] rm argsL.toArray h Q) (hf : rm.frames + 1 ≤ R.frames) (hl : W + (maxL + 11) + rm.locals ≤ R.locals) (hc : cells + rm.cells ≤ R.cells) (hn : slots + rm.slots ≤ R.slots)
    (hpd : parseMethodDescriptor y.desc = some ⟨ps, r0⟩) (hlen : argsL.length = ps.length) (hg : g.method = m) (hsize : g.locals.size = c.maxLocals) (hstack : g.stack = argsL.reverse ++ rest) (hW : 2 * g.monitorRoom + (rest.map fun v => v.category).sum ≤ W) (hd : decode c.code g.pc = .ok (.invokestatic index, 3)) :
    ∃ (v : Option Value) (T' : State) (L : List Loc), Stand p l e R s m args below meth c T' (locs ++ L) (cells + rm.cells) (slots + rm.slots) ∧ Q v T'.heap L ∧ ∀ target, Steps p.tables e below (T'.setTop { g with pc := g.pc + 3, stack := v.toList ++ rest }) target → Steps p.tables e below (T.setTop g) target := by
  obtain ⟨v, vm₁, ⟨T1, L1, k1, n1⟩, -, X1, ⟨Lc, hQ, l1, y1, z1⟩, st⟩ := Jvm.LawKit.callS X hx (y := y) hown (mvT hZ wl) (mvT hZ ws) (mvT hZ wi) (mvT hZ wc) hy (backOf (W := W) hM hZ wc wi hf hl) hg hsize (lenOf hpd hlen) hstack hW hd (fun _ _ => ⟨rfl, eT, hc, hn⟩)
  dsimp only [Pt.U, Pt.locs, Pt.cells, Pt.slots] at X1 l1 y1 z1 st hQ
  subst l1 y1 z1
  exact ⟨v, T1, Lc, X1, hQ, st⟩
theorem own_callI (X : Stand p l e R s m args below meth c T locs cells slots) (hx : p.tables.exec = Jvm.exec) (hZ : Z.Warmed39 s.vm) (hy1 : y.name = "<init>") (hown : s.vm.findClass own = some m.cls) (wl : (Cond.methodLink own index y).before a0 Z = true) (ws : (Cond.instanceMethod y).before a0 Z = true) (wi : (Cond.initialized y.cls).before a0 Z = true) (wc : (Cond.code y bytes maxL none).before a0 Z = true)
    (hy : y.cls ≠ "java/lang/invoke/MethodHandle" ∧ y.cls ≠ "java/lang/invoke/VarHandle") (eT : T.heap = h) (hM : own_Met l Z y bytes maxL none [] rm (.ref b :: argsL).toArray h Q) (hf : rm.frames + 1 ≤ R.frames) (hl : W + (maxL + 11) + rm.locals ≤ R.locals) (hc : cells + rm.cells ≤ R.cells) (hn : slots + rm.slots ≤ R.slots)
    (hpd : parseMethodDescriptor y.desc = some ⟨ps, r0⟩) (hlen : argsL.length = ps.length) (hg : g.method = m) (hsize : g.locals.size = c.maxLocals) (hstack : g.stack = argsL.reverse ++ .ref b :: rest) (hW : 2 * g.monitorRoom + (rest.map fun v => v.category).sum ≤ W) (hd : decode c.code g.pc = .ok (.invokespecial index, 3)) :
    ∃ (v : Option Value) (T' : State) (L : List Loc), Stand p l e R s m args below meth c T' (locs ++ L) (cells + rm.cells) (slots + rm.slots) ∧ Q v T'.heap L ∧ ∀ target, Steps p.tables e below (T'.setTop { g with pc := g.pc + 3, stack := v.toList ++ rest }) target → Steps p.tables e below (T.setTop g) target := by
  obtain ⟨v, vm₁, ⟨T1, L1, k1, n1⟩, -, X1, ⟨Lc, hQ, l1, y1, z1⟩, st⟩ := X.specialBack hx (y := y) hy1 hown (mvT hZ wl) (mvT hZ ws) (mvT hZ wc) hy (backOf (W := W) hM hZ wc wi hf hl) hg hsize (Steps.refl _) (lenOf hpd hlen) hstack hW hd (fun _ _ => ⟨rfl, eT, hc, hn⟩)
  dsimp only [Pt.U, Pt.locs, Pt.cells, Pt.slots] at X1 l1 y1 z1 st hQ
  subst l1 y1 z1
  exact ⟨v, T1, Lc, X1, hQ, fun _ k => st.trans k⟩
theorem own_callV (X : Stand p l e R s m args below meth c T locs cells slots) (hx : p.tables.exec = Jvm.exec) (hZ : Z.Warmed39 s.vm) (hown : s.vm.findClass own = some m.cls) (wl : (Cond.methodLink own index y).before a0 Z = true) (wd : (Cond.declares y).before a0 Z = true) (wsel : (Cond.selects C y y).before a0 Z = true) (ws : (Cond.instanceMethod y).before a0 Z = true) (wi : (Cond.initialized y.cls).before a0 Z = true) (wc : (Cond.code y bytes maxL ret).before a0 Z = true)
    (hy : y.cls ≠ "java/lang/invoke/MethodHandle" ∧ y.cls ≠ "java/lang/invoke/VarHandle") (eT : T.heap = h) (E : Exa Z h b C) (hM : own_Met l Z y bytes maxL ret [] rm (.ref b :: argsL).toArray h Q) (hf : rm.frames + 1 ≤ R.frames) (hl : W + (maxL + 11) + rm.locals ≤ R.locals) (hc : cells + rm.cells ≤ R.cells) (hn : slots + rm.slots ≤ R.slots)
    (hpd : parseMethodDescriptor y.desc = some ⟨ps, r0⟩) (hlen : argsL.length = ps.length) (hg : g.method = m) (hsize : g.locals.size = c.maxLocals) (hstack : g.stack = argsL.reverse ++ .ref b :: rest) (hW : 2 * g.monitorRoom + (rest.map fun v => v.category).sum ≤ W) (hd : decode c.code g.pc = .ok (.invokevirtual index, 3)) :
    ∃ (v : Option Value) (T' : State) (L : List Loc), Stand p l e R s m args below meth c T' (locs ++ L) (cells + rm.cells) (slots + rm.slots) ∧ Q v T'.heap L ∧ ∀ target, Steps p.tables e below (T'.setTop { g with pc := g.pc + 3, stack := v.toList ++ rest }) target → Steps p.tables e below (T.setTop g) target := by
  obtain ⟨cq, kq, qa, qb, qc⟩ := isOf hZ eT E
  obtain ⟨v, vm₁, ⟨T1, L1, k1, n1⟩, -, X1, ⟨Lc, hQ, l1, y1, z1⟩, st⟩ := X.virtualBack hx (y := y) (z := y) hown (mvT hZ wl) (mvT hZ wd) (notFace_of_selects (args := #[]) (mvT hZ wsel)) (mvT hZ wsel) (mvT hZ ws) hy (backOf (W := W) hM hZ wc wi hf hl) qa qc hg hsize (Steps.refl _) (lenOf hpd hlen) hstack hW hd (fun _ _ => ⟨rfl, eT, hc, hn⟩)
  dsimp only [Pt.U, Pt.locs, Pt.cells, Pt.slots] at X1 l1 y1 z1 st hQ
  subst l1 y1 z1
  exact ⟨v, T1, Lc, X1, hQ, fun _ k => st.trans k⟩
end OwnCall
theorem own_eqv {args : Array Value} {Z : State} {t : Term} {k : Int32} (h : (Cond.eq t (Term.int k)).value args Z none Z [] = some true) : t.eval args Z none [] Z = some (.int k) := by
  obtain ⟨x, y, e1, e2, k1, k2⟩ := cmp_v (Or.inl h)
  have e3 : (Term.int k).eval args Z none [] Z = some (.int k) := rfl
  cases e2.symm.trans e3
  cases x <;> simp [Kin, Value.isRef] at k1 k2
  simp [Cond.value, e1, e3] at h
  rw [e1, h]
theorem own_len {args : Array Value} {s : State} {t : Term} {n : Int32} {a : Addr} {cc : Cell} (h : (Cond.eq (Term.length t) (.int n)).value args s none s [] = some true) (ev : t.eval args s none [] s = some (.ref a)) (hat : s.arrayAt? a = some cc) : cc.slots.size < 2 ^ 31 ∧ cc.slots.size.toInt32 = n := by
  have hl := own_eqv h
  simp only [Term.eval, ev, hat, Option.bind_eq_bind, Option.bind_some] at hl
  split at hl
  · rename_i hlt
    exact ⟨hlt, by simpa using hl⟩
  · cases hl
theorem own_cache {args : Array Value} {s : State} {CC nc dA C : String} {Y : Cond} (h1 : (Cond.arrayOf (Term.static CC nc dA) (.object C)).before args s = true) (h2 : (Cond.eq (Term.length (Term.static CC nc dA)) (.int 256)).before args s = true)
    (h3 : (Cond.all (Term.static CC nc dA) (.and (.exactly (.elem (Term.static CC nc dA) (.index 0)) C) Y)).before args s = true) :
    ∃ ca cc, (Term.static CC nc dA).eval args s none [] s = some (.ref ca) ∧ Arr s s.heap ca cc (.object C) ∧ cc.slots.size = 256 ∧ ∀ j : Nat, j < 256 → ∃ w, cc.slots[j]? = some (.ref w) ∧ Exa s s.heap w C := by
  obtain ⟨ca, ev⟩ := arr_v (Cond.before_iff.mp h1)
  obtain ⟨cc, A⟩ := Arr.start ev (Cond.before_iff.mp h1)
  have hat := IntBox.arrayAt_of A.1 A.2.1 A.2.2
  have hsz : cc.slots.size = 256 := by
    obtain ⟨hlt, q⟩ := own_len (Cond.before_iff.mp h2) ev hat
    have e : (cc.slots.size.toInt32).toInt = cc.slots.size := len_toInt hlt
    rw [q] at e
    have : ((256 : Int32)).toInt = 256 := by decide
    omega
  refine ⟨ca, cc, ev, A, hsz, fun j hj => ?_⟩
  have hall := Cond.all_elim (c := .and (.exactly (.elem (Term.static CC nc dA) (.index 0)) C) Y) ev hat (Cond.before_iff.mp h3)
  obtain ⟨hex, -⟩ := and_e (hall j (by rw [hsz]; exact hj))
  obtain ⟨a', c', cell, k, e1, e2, e3, e4, e5, rfl, e7⟩ := Cond.exactly_spec (beq_iff_eq.mpr hex : (Cond.exactly (.elem (Term.static CC nc dA) (.index 0)) C).holds args s none s [j] = true)
  have evj : (Term.static CC nc dA).eval args s none [j] s = some (.ref ca) := by
    simp only [Term.eval] at ev ⊢
    exact ev
  have hnn := IntBox.place_nonneg j hj
  have ei : (Term.index 0).eval args s none [j] s = some (.int j.toInt32) := by simp [Term.eval]
  have evE : (Term.elem (Term.static CC nc dA) (.index 0)).eval args s none [j] s = cc.slots[j]? := by
    rw [elem_f evj ei hat hnn.1, hnn.2]
  exact ⟨a', evE.symm.trans e1, cell, k, e3, e2, e4, e5, e7⟩
theorem own_NSroot {Z : State} {a0 : Array Value} {O K : String} {n : Nat} (w : (Cond.noSuperclass O).before a0 Z = true) (wk : (Cond.instantiable K n).before a0 Z = true) (hn : O ≠ K) : NS Z O K := by
  obtain ⟨c, k, h1, h2, h3, -, -⟩ := Cond.noSuperclass_spec w
  obtain ⟨t, kt, g1, -⟩ := Cond.instantiable_spec wk
  have ne := ids_ne h1 g1 hn
  refine ⟨c, t, h1, g1, fun fuel => ?_⟩
  cases fuel with
  | zero => rfl
  | succ f => simp [Vm.isSubclassAux, ne, h2, h3]
theorem own_NSno {Z : State} {a0 : Array Value} {C S K : String} {n : Nat} (w : (Cond.superclass C S).before a0 Z = true) (wk : (Cond.instantiable K n).before a0 Z = true) (N : NS Z C K) (hn : C ≠ K) : ∃ c t, Z.vm.findClass C = some c ∧ Z.vm.findClass K = some t ∧ Z.vm.assignable c t = false := by
  obtain ⟨c, t, h0, g0, n3⟩ := N
  obtain ⟨p, k, kp, h1, h2, h3, h4, h5, -, h7⟩ := Cond.superclass_spec h0 w
  obtain ⟨t', kt, g1, g2, g3, g4, -⟩ := Cond.instantiable_spec wk
  cases g0.symm.trans g1
  have ne := ids_ne h0 g0 hn
  have g5 : kt.isInterface = false := by simp only [Bool.or_eq_false_iff] at g4; exact g4.1
  refine ⟨c, t, h0, g0, ?_⟩
  show Z.vm.assignableAux (255 + 1) c t = false
  simp [Vm.assignableAux, ne, h2, g2, h5, g3, g5, Vm.isSubclass, n3]
theorem own_ef1 (m : MethodId) (a1 : Addr) (q2 : Int64) (q3 : Int64) : entryFrame m #[(.ref a1), (.long q2), (.long q3)] 5 = mkF m 0 #[.val (.ref a1), .val (.long q2), .second, .val (.long q3), .second] [] := by first | (simp [entryFrame, mkF, argsToLocals, Value.category]; done) | rfl
theorem own_d1_0 : decode prog_120_method_1_code 0 = .ok (.aload_n 0, 1) := by decide +kernel
theorem own_d1_1 : decode prog_120_method_1_code 1 = .ok (.invokespecial 3, 3) := by decide +kernel
theorem own_d1_4 : decode prog_120_method_1_code 4 = .ok (.lload_n 1, 1) := by decide +kernel
theorem own_d1_5 : decode prog_120_method_1_code 5 = .ok (.lconst 0, 1) := by decide +kernel
theorem own_d1_6 : decode prog_120_method_1_code 6 = .ok (.lcmp, 1) := by decide +kernel
theorem own_d1_7 : decode prog_120_method_1_code 7 = .ok (.ifCond .lt 25, 3) := by decide +kernel
theorem own_d1_10 : decode prog_120_method_1_code 10 = .ok (.lload_n 1, 1) := by decide +kernel
theorem own_d1_11 : decode prog_120_method_1_code 11 = .ok (.ldc2_w 11, 3) := by decide +kernel
theorem own_d1_14 : decode prog_120_method_1_code 14 = .ok (.lcmp, 1) := by decide +kernel
theorem own_d1_15 : decode prog_120_method_1_code 15 = .ok (.ifCond .gt 17, 3) := by decide +kernel
theorem own_d1_18 : decode prog_120_method_1_code 18 = .ok (.lload_n 3, 1) := by decide +kernel
theorem own_d1_19 : decode prog_120_method_1_code 19 = .ok (.lconst 0, 1) := by decide +kernel
theorem own_d1_20 : decode prog_120_method_1_code 20 = .ok (.lcmp, 1) := by decide +kernel
theorem own_d1_21 : decode prog_120_method_1_code 21 = .ok (.ifCond .lt 11, 3) := by decide +kernel
theorem own_d1_24 : decode prog_120_method_1_code 24 = .ok (.lload_n 3, 1) := by decide +kernel
theorem own_d1_25 : decode prog_120_method_1_code 25 = .ok (.ldc2_w 11, 3) := by decide +kernel
theorem own_d1_28 : decode prog_120_method_1_code 28 = .ok (.lcmp, 1) := by decide +kernel
theorem own_d1_29 : decode prog_120_method_1_code 29 = .ok (.ifCond .le 18, 3) := by decide +kernel
theorem own_d1_47 : decode prog_120_method_1_code 47 = .ok (.aload_n 0, 1) := by decide +kernel
theorem own_d1_48 : decode prog_120_method_1_code 48 = .ok (.lload_n 1, 1) := by decide +kernel
theorem own_d1_49 : decode prog_120_method_1_code 49 = .ok (.putfield 22, 3) := by decide +kernel
theorem own_d1_52 : decode prog_120_method_1_code 52 = .ok (.aload_n 0, 1) := by decide +kernel
theorem own_d1_53 : decode prog_120_method_1_code 53 = .ok (.lload_n 3, 1) := by decide +kernel
theorem own_d1_54 : decode prog_120_method_1_code 54 = .ok (.putfield 26, 3) := by decide +kernel
theorem own_d1_57 : decode prog_120_method_1_code 57 = .ok (.return_, 1) := by decide +kernel
theorem own_pn0 : plainName "com/example/bound_bundle/boundbundle/format/SdkRange" = true := by first | (simp [plainName, overriddenIn]; done) | decide +kernel
def own_Q1 (Z : State) (a1 : Addr) (q2 : Int64) (q3 : Int64) (h0 : Heap) (n0 : Nat) (v : Option Value) (h : Heap) (L : List Loc) : Prop := v = none ∧ Fr n0 L ∧ Keep h0 h [a1] ∧ Exa Z h a1 "com/example/bound_bundle/boundbundle/format/SdkRange" ∧ Fld Z h a1 "com/example/bound_bundle/boundbundle/format/SdkRange" "min" "J" (.long q2) ∧ Fld Z h a1 "com/example/bound_bundle/boundbundle/format/SdkRange" "max" "J" (.long q3)
set_option maxRecDepth 65536 in
set_option maxHeartbeats 40000000 in
theorem own_rm1 (l : Launch) (Z : State) (a0 : Array Value) (hw : ∀ d ∈ tables_1, d.before a0 Z = true) (ws : List Jvm.Cond) (a1 : Addr) (q2 : Int64) (q3 : Int64) (h0 : Heap) (n0 : Nat) (b2 : ¬ (q2 < (0 : Int64)) ∧ ¬ ((4294967295 : Int64) < q2)) (b3 : ¬ (q3 < (0 : Int64)) ∧ ¬ ((4294967295 : Int64) < q3)) (g_a1 : n0 ≤ a1) (E_a1 : Exa Z h0 a1 "com/example/bound_bundle/boundbundle/format/SdkRange") (F_min_a1 : Fld Z h0 a1 "com/example/bound_bundle/boundbundle/format/SdkRange" "min" "J" (.long (0 : Int64))) (F_max_a1 : Fld Z h0 a1 "com/example/bound_bundle/boundbundle/format/SdkRange" "max" "J" (.long (0 : Int64))) :
    own_Met l Z (⟨"com/example/bound_bundle/boundbundle/format/SdkRange", "<init>", "(JJ)V"⟩ : MethodName) prog_120_method_1_code 5 none ws ({ frames := 1, cells := 0, slots := 0, locals := 12 } : Room) #[(.ref a1), (.long q2), (.long q3)] h0 (own_Q1 Z a1 q2 q3 h0 n0) := by
  refine own_met (plainFor_of_name own_pn0) ?_
  intro p e s m below meth c s₁ X0 hx hZ hby hml hown hnm hret hlk e0
  have N0 := Fr.nil n0
  refine own_go (fun t k => castTop (own_ef1 m a1 q2 q3) k) ?_
  have K := Keep.refl h0 [a1]
  show own_Go _ _ _ _ s₁ (mkF m 0 #[.val (.ref a1), .val (.long q2), .second, .val (.long q3), .second] [])
  refine own_go (fun _ k => XS.aloadN X0.here hx rfl (hb hby own_d1_0) rfl rfl k) ?_
  show own_Go _ _ _ _ s₁ (mkF m 1 #[.val (.ref a1), .val (.long q2), .second, .val (.long q3), .second] [(.ref a1)])
  obtain ⟨Tz1, Xz1, ez1, stz1⟩ := initO X0 hx hZ hown (hw _ (List.mem_of_getElem? (i := 7) rfl)) (hw _ (List.mem_of_getElem? (i := 8) rfl)) (hw _ (List.mem_of_getElem? (i := 9) rfl)) e0 (g := (mkF m 1 #[.val (.ref a1), .val (.long q2), .second, .val (.long q3), .second] [(.ref a1)])) rfl (by rw [hml]; rfl) rfl (hb hby own_d1_1) (by decide) (W := 0) (by show 2 * 0 + _ ≤ _; exact Nat.le_of_eq rfl) (by decide)
  refine own_go stz1 ?_
  show own_Go _ _ _ _ Tz1 (mkF m 4 #[.val (.ref a1), .val (.long q2), .second, .val (.long q3), .second] [])
  refine own_go (fun _ k => XS.lloadN Xz1.here hx rfl (hb hby own_d1_4) rfl k) ?_
  show own_Go _ _ _ _ Tz1 (mkF m 5 #[.val (.ref a1), .val (.long q2), .second, .val (.long q3), .second] [(.long q2)])
  refine own_go (fun _ k => XS.lconst Xz1.here hx rfl (hb hby own_d1_5) k) ?_
  show own_Go _ _ _ _ Tz1 (mkF m 6 #[.val (.ref a1), .val (.long q2), .second, .val (.long q3), .second] [(.long (0 : Int64)), (.long q2)])
  refine own_go (fun _ k => XS.lcmp Xz1.here hx rfl (hb hby own_d1_6) rfl k) ?_
  show own_Go _ _ _ _ Tz1 (mkF m 7 #[.val (.ref a1), .val (.long q2), .second, .val (.long q3), .second] [(.int (lcmpW q2 (0 : Int64)))])
  refine own_go (fun _ k => XS.ifNo Xz1.here hx rfl (hb hby own_d1_7) rfl ((if0 _ _).trans (flt (fun q => b2.1 ((lw_lt _ _).mp q))).1) k) ?_
  show own_Go _ _ _ _ Tz1 (mkF m 10 #[.val (.ref a1), .val (.long q2), .second, .val (.long q3), .second] [])
  refine own_go (fun _ k => XS.lloadN Xz1.here hx rfl (hb hby own_d1_10) rfl k) ?_
  show own_Go _ _ _ _ Tz1 (mkF m 11 #[.val (.ref a1), .val (.long q2), .second, .val (.long q3), .second] [(.long q2)])
  refine own_go (fun _ k => Xz1.ldc2Long hx hown (mvT hZ (hw _ (List.mem_of_getElem? (i := 10) rfl))) (g := (mkF m 11 #[.val (.ref a1), .val (.long q2), .second, .val (.long q3), .second] [(.long q2)])) rfl (hb hby own_d1_11) _ k) ?_
  show own_Go _ _ _ _ Tz1 (mkF m 14 #[.val (.ref a1), .val (.long q2), .second, .val (.long q3), .second] [(.long (4294967295 : Int64)), (.long q2)])
  refine own_go (fun _ k => XS.lcmp Xz1.here hx rfl (hb hby own_d1_14) rfl k) ?_
  show own_Go _ _ _ _ Tz1 (mkF m 15 #[.val (.ref a1), .val (.long q2), .second, .val (.long q3), .second] [(.int (lcmpW q2 (4294967295 : Int64)))])
  refine own_go (fun _ k => XS.ifNo Xz1.here hx rfl (hb hby own_d1_15) rfl ((if0 _ _).trans (flt (fun q => b2.2 ((lw_gt _ _).mp q))).2.2.1) k) ?_
  show own_Go _ _ _ _ Tz1 (mkF m 18 #[.val (.ref a1), .val (.long q2), .second, .val (.long q3), .second] [])
  refine own_go (fun _ k => XS.lloadN Xz1.here hx rfl (hb hby own_d1_18) rfl k) ?_
  show own_Go _ _ _ _ Tz1 (mkF m 19 #[.val (.ref a1), .val (.long q2), .second, .val (.long q3), .second] [(.long q3)])
  refine own_go (fun _ k => XS.lconst Xz1.here hx rfl (hb hby own_d1_19) k) ?_
  show own_Go _ _ _ _ Tz1 (mkF m 20 #[.val (.ref a1), .val (.long q2), .second, .val (.long q3), .second] [(.long (0 : Int64)), (.long q3)])
  refine own_go (fun _ k => XS.lcmp Xz1.here hx rfl (hb hby own_d1_20) rfl k) ?_
  show own_Go _ _ _ _ Tz1 (mkF m 21 #[.val (.ref a1), .val (.long q2), .second, .val (.long q3), .second] [(.int (lcmpW q3 (0 : Int64)))])
  refine own_go (fun _ k => XS.ifNo Xz1.here hx rfl (hb hby own_d1_21) rfl ((if0 _ _).trans (flt (fun q => b3.1 ((lw_lt _ _).mp q))).1) k) ?_
  show own_Go _ _ _ _ Tz1 (mkF m 24 #[.val (.ref a1), .val (.long q2), .second, .val (.long q3), .second] [])
  refine own_go (fun _ k => XS.lloadN Xz1.here hx rfl (hb hby own_d1_24) rfl k) ?_
  show own_Go _ _ _ _ Tz1 (mkF m 25 #[.val (.ref a1), .val (.long q2), .second, .val (.long q3), .second] [(.long q3)])
  refine own_go (fun _ k => Xz1.ldc2Long hx hown (mvT hZ (hw _ (List.mem_of_getElem? (i := 10) rfl))) (g := (mkF m 25 #[.val (.ref a1), .val (.long q2), .second, .val (.long q3), .second] [(.long q3)])) rfl (hb hby own_d1_25) _ k) ?_
  show own_Go _ _ _ _ Tz1 (mkF m 28 #[.val (.ref a1), .val (.long q2), .second, .val (.long q3), .second] [(.long (4294967295 : Int64)), (.long q3)])
  refine own_go (fun _ k => XS.lcmp Xz1.here hx rfl (hb hby own_d1_28) rfl k) ?_
  show own_Go _ _ _ _ Tz1 (mkF m 29 #[.val (.ref a1), .val (.long q2), .second, .val (.long q3), .second] [(.int (lcmpW q3 (4294967295 : Int64)))])
  refine own_go (fun _ k => XS.ifYes Xz1.here hx rfl (pc0 := 29) (pc' := 47) rfl (hb hby own_d1_29) rfl ((if0 _ _).trans (flt (fun q => b3.2 ((lw_gt _ _).mp q))).2.2.2) (by decide) (by decide) k) ?_
  show own_Go _ _ _ _ Tz1 (mkF m 47 #[.val (.ref a1), .val (.long q2), .second, .val (.long q3), .second] [])
  refine own_go (fun _ k => XS.aloadN Xz1.here hx rfl (hb hby own_d1_47) rfl rfl k) ?_
  show own_Go _ _ _ _ Tz1 (mkF m 48 #[.val (.ref a1), .val (.long q2), .second, .val (.long q3), .second] [(.ref a1)])
  refine own_go (fun _ k => XS.lloadN Xz1.here hx rfl (hb hby own_d1_48) rfl k) ?_
  show own_Go _ _ _ _ Tz1 (mkF m 49 #[.val (.ref a1), .val (.long q2), .second, .val (.long q3), .second] [(.long q2), (.ref a1)])
  obtain ⟨Tz2, hz2, Xz2, ez2, Wz2, stz2⟩ := putF Xz1 hx hZ hown (host := "") (Or.inl (hw _ (List.mem_of_getElem? (i := 11) rfl))) Via.refl ez1 F_min_a1 E_a1 (Or.inr ⟨(hw _ (List.mem_of_getElem? (i := 12) rfl)), rfl, hnm⟩) (hw _ (List.mem_of_getElem? (i := 2) rfl)) (ty := .long) (by decide) rfl rfl (g := (mkF m 49 #[.val (.ref a1), .val (.long q2), .second, .val (.long q3), .second] [(.long q2), (.ref a1)])) rfl rfl (hb hby own_d1_49)
  refine own_go stz2 ?_
  have Nz2 := Fr.snoc Xz2 N0 g_a1
  have F_min_a1_ := F_min_a1.same Wz2
  have E_a1 := E_a1.wr Wz2
  have F_max_a1 := F_max_a1.other Wz2 (Or.inr (slot_ne (Or.inr (hw _ (List.mem_of_getElem? (i := 14) rfl))) (Or.inr (hw _ (List.mem_of_getElem? (i := 12) rfl))) (by decide) (t := .long) (t' := .long) (by decide) (by decide)))
  have K := K.wr Wz2 (Or.inl (List.mem_of_getElem? (i := 0) rfl))
  have F_min_a1 := F_min_a1_
  show own_Go _ _ _ _ Tz2 (mkF m 52 #[.val (.ref a1), .val (.long q2), .second, .val (.long q3), .second] [])
  refine own_go (fun _ k => XS.aloadN Xz2.here hx rfl (hb hby own_d1_52) rfl rfl k) ?_
  show own_Go _ _ _ _ Tz2 (mkF m 53 #[.val (.ref a1), .val (.long q2), .second, .val (.long q3), .second] [(.ref a1)])
  refine own_go (fun _ k => XS.lloadN Xz2.here hx rfl (hb hby own_d1_53) rfl k) ?_
  show own_Go _ _ _ _ Tz2 (mkF m 54 #[.val (.ref a1), .val (.long q2), .second, .val (.long q3), .second] [(.long q3), (.ref a1)])
  obtain ⟨Tz3, hz3, Xz3, ez3, Wz3, stz3⟩ := putF Xz2 hx hZ hown (host := "") (Or.inl (hw _ (List.mem_of_getElem? (i := 13) rfl))) Via.refl ez2 F_max_a1 E_a1 (Or.inr ⟨(hw _ (List.mem_of_getElem? (i := 14) rfl)), rfl, hnm⟩) (hw _ (List.mem_of_getElem? (i := 2) rfl)) (ty := .long) (by decide) rfl rfl (g := (mkF m 54 #[.val (.ref a1), .val (.long q2), .second, .val (.long q3), .second] [(.long q3), (.ref a1)])) rfl rfl (hb hby own_d1_54)
  refine own_go stz3 ?_
  have Nz3 := Fr.snoc Xz3 Nz2 g_a1
  have F_max_a1_ := F_max_a1.same Wz3
  have E_a1 := E_a1.wr Wz3
  have K := K.wr Wz3 (Or.inl (List.mem_of_getElem? (i := 0) rfl))
  have F_min_a1 := F_min_a1.other Wz3 (Or.inr (slot_ne (Or.inr (hw _ (List.mem_of_getElem? (i := 12) rfl))) (Or.inr (hw _ (List.mem_of_getElem? (i := 14) rfl))) (by decide) (t := .long) (t' := .long) (by decide) (by decide)))
  have F_max_a1 := F_max_a1_
  show own_Go _ _ _ _ Tz3 (mkF m 57 #[.val (.ref a1), .val (.long q2), .second, .val (.long q3), .second] [])
  exact own_end Xz3 hlk (v := none) (fun _ => rfl) (fun fs hr => Xz3.returnOut hx hret (hb hby own_d1_57) hr) (by rw [ez3]; exact ⟨rfl, Nz3, K, E_a1, F_min_a1, F_max_a1⟩) (by decide) (by decide)
theorem own_ef6 (m : MethodId) (a1 : Addr) : entryFrame m #[(.ref a1)] 1 = mkF m 0 #[.val (.ref a1)] [] := by first | (simp [entryFrame, mkF, argsToLocals, Value.category]; done) | rfl
theorem own_d6_0 : decode jdk_18_method_1_code 0 = .ok (.aload_n 0, 1) := by decide +kernel
theorem own_d6_1 : decode jdk_18_method_1_code 1 = .ok (.invokespecial 1, 3) := by decide +kernel
theorem own_d6_4 : decode jdk_18_method_1_code 4 = .ok (.return_, 1) := by decide +kernel
theorem own_pn1 : plainName "java/lang/Number" = true := by first | (simp [plainName, overriddenIn]; done) | decide +kernel
def own_Q6 (Z : State) (a1 : Addr) (h0 : Heap) (n0 : Nat) (v : Option Value) (h : Heap) (L : List Loc) : Prop := v = none ∧ Fr n0 L ∧ h = h0
set_option maxRecDepth 65536 in
set_option maxHeartbeats 40000000 in
theorem own_rm6 (l : Launch) (Z : State) (a0 : Array Value) (hw : ∀ d ∈ tables_1, d.before a0 Z = true) (ws : List Jvm.Cond) (a1 : Addr) (h0 : Heap) (n0 : Nat)  :
    own_Met l Z (⟨"java/lang/Number", "<init>", "()V"⟩ : MethodName) jdk_18_method_1_code 1 none ws ({ frames := 1, cells := 0, slots := 0, locals := 12 } : Room) #[(.ref a1)] h0 (own_Q6 Z a1 h0 n0) := by
  refine own_met (plainFor_of_name own_pn1) ?_
  intro p e s m below meth c s₁ X0 hx hZ hby hml hown hnm hret hlk e0
  have N0 := Fr.nil n0
  refine own_go (fun t k => castTop (own_ef6 m a1) k) ?_
  show own_Go _ _ _ _ s₁ (mkF m 0 #[.val (.ref a1)] [])
  refine own_go (fun _ k => XS.aloadN X0.here hx rfl (hb hby own_d6_0) rfl rfl k) ?_
  show own_Go _ _ _ _ s₁ (mkF m 1 #[.val (.ref a1)] [(.ref a1)])
  obtain ⟨Tz4, Xz4, ez4, stz4⟩ := initO X0 hx hZ hown (hw _ (List.mem_of_getElem? (i := 40) rfl)) (hw _ (List.mem_of_getElem? (i := 8) rfl)) (hw _ (List.mem_of_getElem? (i := 9) rfl)) e0 (g := (mkF m 1 #[.val (.ref a1)] [(.ref a1)])) rfl (by rw [hml]; rfl) rfl (hb hby own_d6_1) (by decide) (W := 0) (by show 2 * 0 + _ ≤ _; exact Nat.le_of_eq rfl) (by decide)
  refine own_go stz4 ?_
  show own_Go _ _ _ _ Tz4 (mkF m 4 #[.val (.ref a1)] [])
  exact own_end Xz4 hlk (v := none) (fun _ => rfl) (fun fs hr => Xz4.returnOut hx hret (hb hby own_d6_4) hr) (by rw [ez4]; exact ⟨rfl, N0, rfl⟩) (by decide) (by decide)
theorem own_ef5 (m : MethodId) (a1 : Addr) (q2 : Int64) : entryFrame m #[(.ref a1), (.long q2)] 3 = mkF m 0 #[.val (.ref a1), .val (.long q2), .second] [] := by first | (simp [entryFrame, mkF, argsToLocals, Value.category]; done) | rfl
theorem own_d5_0 : decode jdk_35_method_26_code 0 = .ok (.aload_n 0, 1) := by decide +kernel
theorem own_d5_1 : decode jdk_35_method_26_code 1 = .ok (.invokespecial 270, 3) := by decide +kernel
theorem own_pd0 : parseMethodDescriptor "()V" = some ⟨[], none⟩ := by decide +kernel
theorem own_d5_4 : decode jdk_35_method_26_code 4 = .ok (.aload_n 0, 1) := by decide +kernel
theorem own_d5_5 : decode jdk_35_method_26_code 5 = .ok (.lload_n 1, 1) := by decide +kernel
theorem own_d5_6 : decode jdk_35_method_26_code 6 = .ok (.putfield 273, 3) := by decide +kernel
theorem own_d5_9 : decode jdk_35_method_26_code 9 = .ok (.return_, 1) := by decide +kernel
theorem own_pn2 : plainName "java/lang/Long" = true := by first | (simp [plainName, overriddenIn]; done) | decide +kernel
def own_Q5 (Z : State) (a1 : Addr) (h0 : Heap) (n0 : Nat) (v : Option Value) (h : Heap) (L : List Loc) : Prop := v = none ∧ Fr n0 L ∧ Keep h0 h [a1] ∧ Exa Z h a1 "java/lang/Long"
set_option maxRecDepth 65536 in
set_option maxHeartbeats 40000000 in
theorem own_rm5 (l : Launch) (Z : State) (a0 : Array Value) (hw : ∀ d ∈ tables_1, d.before a0 Z = true) (ws : List Jvm.Cond) (a1 : Addr) (q2 : Int64) (h0 : Heap) (n0 : Nat) (g_a1 : n0 ≤ a1) (E_a1 : Exa Z h0 a1 "java/lang/Long") (F_value_a1 : Fld Z h0 a1 "java/lang/Long" "value" "J" (.long (0 : Int64))) :
    own_Met l Z (⟨"java/lang/Long", "<init>", "(J)V"⟩ : MethodName) jdk_35_method_26_code 3 none ws ({ frames := 2, cells := 0, slots := 0, locals := 24 } : Room) #[(.ref a1), (.long q2)] h0 (own_Q5 Z a1 h0 n0) := by
  refine own_met (plainFor_of_name own_pn2) ?_
  intro p e s m below meth c s₁ X0 hx hZ hby hml hown hnm hret hlk e0
  have N0 := Fr.nil n0
  refine own_go (fun t k => castTop (own_ef5 m a1 q2) k) ?_
  have K := Keep.refl h0 [a1]
  show own_Go _ _ _ _ s₁ (mkF m 0 #[.val (.ref a1), .val (.long q2), .second] [])
  refine own_go (fun _ k => XS.aloadN X0.here hx rfl (hb hby own_d5_0) rfl rfl k) ?_
  show own_Go _ _ _ _ s₁ (mkF m 1 #[.val (.ref a1), .val (.long q2), .second] [(.ref a1)])
  obtain ⟨vz5, Tz5, Lz5, Xz5, hQz5, stz5⟩ := own_callI X0 hx hZ rfl hown (hw _ (List.mem_of_getElem? (i := 34) rfl)) (hw _ (List.mem_of_getElem? (i := 35) rfl)) (hw _ (List.mem_of_getElem? (i := 38) rfl)) (hw _ (List.mem_of_getElem? (i := 39) rfl)) (by decide) e0 (own_rm6 l Z a0 hw [] a1 h0 n0) (W := 0) (by decide) (by decide) (by decide) (by decide) own_pd0 rfl (g := (mkF m 1 #[.val (.ref a1), .val (.long q2), .second] [(.ref a1)])) (argsL := []) (rest := []) rfl (by rw [hml]; rfl) rfl (by show 2 * 0 + _ ≤ _; exact Nat.le_of_eq rfl) (hb hby own_d5_1)
  obtain ⟨rfl, Nz5q, ehz5⟩ := hQz5
  have Nz5 := Fr.app N0 Nz5q
  refine own_go stz5 ?_
  show own_Go _ _ _ _ Tz5 (mkF m 4 #[.val (.ref a1), .val (.long q2), .second] [])
  refine own_go (fun _ k => XS.aloadN Xz5.here hx rfl (hb hby own_d5_4) rfl rfl k) ?_
  show own_Go _ _ _ _ Tz5 (mkF m 5 #[.val (.ref a1), .val (.long q2), .second] [(.ref a1)])
  refine own_go (fun _ k => XS.lloadN Xz5.here hx rfl (hb hby own_d5_5) rfl k) ?_
  show own_Go _ _ _ _ Tz5 (mkF m 6 #[.val (.ref a1), .val (.long q2), .second] [(.long q2), (.ref a1)])
  obtain ⟨Tz6, hz6, Xz6, ez6, Wz6, stz6⟩ := putF Xz5 hx hZ hown (host := "") (Or.inl (hw _ (List.mem_of_getElem? (i := 41) rfl))) Via.refl ehz5 F_value_a1 E_a1 (Or.inr ⟨(hw _ (List.mem_of_getElem? (i := 42) rfl)), rfl, hnm⟩) (hw _ (List.mem_of_getElem? (i := 29) rfl)) (ty := .long) (by decide) rfl rfl (g := (mkF m 6 #[.val (.ref a1), .val (.long q2), .second] [(.long q2), (.ref a1)])) rfl rfl (hb hby own_d5_6)
  refine own_go stz6 ?_
  have Nz6 := Fr.snoc Xz6 Nz5 g_a1
  have F_value_a1_ := F_value_a1.same Wz6
  have E_a1 := E_a1.wr Wz6
  have K := K.wr Wz6 (Or.inl (List.mem_of_getElem? (i := 0) rfl))
  have F_value_a1 := F_value_a1_
  show own_Go _ _ _ _ Tz6 (mkF m 9 #[.val (.ref a1), .val (.long q2), .second] [])
  exact own_end Xz6 hlk (v := none) (fun _ => rfl) (fun fs hr => Xz6.returnOut hx hret (hb hby own_d5_9) hr) (by rw [ez6]; exact ⟨rfl, Nz6, K, E_a1⟩) (by decide) (by decide)
theorem own_ef4 (m : MethodId) (q1 : Int64) : entryFrame m #[(.long q1)] 3 = mkF m 0 #[.val (.long q1), .second, .unset] [] := by first | (simp [entryFrame, mkF, argsToLocals, Value.category]; done) | rfl
theorem own_d4_0 : decode jdk_35_method_24_code 0 = .ok (.sipush 128, 3) := by decide +kernel
theorem own_d4_3 : decode jdk_35_method_24_code 3 = .ok (.istore_n 2, 1) := by decide +kernel
theorem own_d4_4 : decode jdk_35_method_24_code 4 = .ok (.lload_n 0, 1) := by decide +kernel
theorem own_d4_5 : decode jdk_35_method_24_code 5 = .ok (.ldc2_w 230, 3) := by decide +kernel
theorem own_d4_8 : decode jdk_35_method_24_code 8 = .ok (.lcmp, 1) := by decide +kernel
theorem own_d4_9 : decode jdk_35_method_24_code 9 = .ok (.ifCond .lt 22, 3) := by decide +kernel
theorem own_d4_31 : decode jdk_35_method_24_code 31 = .ok (.new 1, 3) := by decide +kernel
theorem own_d4_34 : decode jdk_35_method_24_code 34 = .ok (.dup, 1) := by decide +kernel
theorem own_d4_35 : decode jdk_35_method_24_code 35 = .ok (.lload_n 0, 1) := by decide +kernel
theorem own_d4_36 : decode jdk_35_method_24_code 36 = .ok (.invokespecial 240, 3) := by decide +kernel
theorem own_pd1 : parseMethodDescriptor "(J)V" = some ⟨[.long], none⟩ := by decide +kernel
theorem own_d4_39 : decode jdk_35_method_24_code 39 = .ok (.areturn, 1) := by decide +kernel
theorem own_d4_12 : decode jdk_35_method_24_code 12 = .ok (.lload_n 0, 1) := by decide +kernel
theorem own_d4_13 : decode jdk_35_method_24_code 13 = .ok (.ldc2_w 232, 3) := by decide +kernel
theorem own_d4_16 : decode jdk_35_method_24_code 16 = .ok (.lcmp, 1) := by decide +kernel
theorem own_d4_17 : decode jdk_35_method_24_code 17 = .ok (.ifCond .gt 14, 3) := by decide +kernel
theorem own_d4_20 : decode jdk_35_method_24_code 20 = .ok (.getstatic 234, 3) := by decide +kernel
theorem own_d4_23 : decode jdk_35_method_24_code 23 = .ok (.lload_n 0, 1) := by decide +kernel
theorem own_d4_24 : decode jdk_35_method_24_code 24 = .ok (.l2i, 1) := by decide +kernel
theorem own_d4_25 : decode jdk_35_method_24_code 25 = .ok (.sipush 128, 3) := by decide +kernel
theorem own_d4_28 : decode jdk_35_method_24_code 28 = .ok (.iadd, 1) := by decide +kernel
theorem own_d4_29 : decode jdk_35_method_24_code 29 = .ok (.aaload, 1) := by decide +kernel
theorem own_d4_30 : decode jdk_35_method_24_code 30 = .ok (.areturn, 1) := by decide +kernel
def own_Q4 (Z : State) (q1 : Int64) (h0 : Heap) (n0 : Nat) (v : Option Value) (h : Heap) (L : List Loc) : Prop := ∃ w, v = some (.ref w) ∧ Fr n0 L ∧ Keep h0 h [] ∧ Exa Z h w "java/lang/Long"
set_option maxRecDepth 65536 in
set_option maxHeartbeats 40000000 in
theorem own_rm4 (l : Launch) (Z : State) (a0 : Array Value) (hw : ∀ d ∈ tables_1, d.before a0 Z = true) (ws : List Jvm.Cond) (q1 : Int64) (h0 : Heap) (n0 : Nat) (ca : Addr) (cc : Cell) (O : Old Z n0 h0) (Sc : Sta Z Z.heap "java/lang/Long$LongCache" "cache" "[Ljava/lang/Long;" (.ref ca)) (A : Arr Z Z.heap ca cc (.object "java/lang/Long")) (hsz : cc.slots.size = 256) (hel : ∀ j : Nat, j < 256 → ∃ w, cc.slots[j]? = some (.ref w) ∧ Exa Z Z.heap w "java/lang/Long") :
    own_Met l Z (⟨"java/lang/Long", "valueOf", "(J)Ljava/lang/Long;"⟩ : MethodName) jdk_35_method_24_code 3 (some (.object "java/lang/Long")) ws ({ frames := 3, cells := 1, slots := 1, locals := 40 } : Room) #[(.long q1)] h0 (own_Q4 Z q1 h0 n0) := by
  refine own_met (plainFor_of_name own_pn2) ?_
  intro p e s m below meth c s₁ X0 hx hZ hby hml hown hnm hret hlk e0
  have N0 := Fr.nil n0
  refine own_go (fun t k => castTop (own_ef4 m q1) k) ?_
  have K := Keep.refl h0 []
  show own_Go _ _ _ _ s₁ (mkF m 0 #[.val (.long q1), .second, .unset] [])
  refine own_go (fun _ k => XS.sipush X0.here hx rfl (hb hby own_d4_0) k) ?_
  show own_Go _ _ _ _ s₁ (mkF m 3 #[.val (.long q1), .second, .unset] [(.int (128 : Int32))])
  refine own_go (fun _ k => XS.istoreN X0.here hx rfl (hb hby own_d4_3) rfl (l' := #[.val (.long q1), .second, .val (.int (128 : Int32))]) rfl k) ?_
  show own_Go _ _ _ _ s₁ (mkF m 4 #[.val (.long q1), .second, .val (.int (128 : Int32))] [])
  refine own_go (fun _ k => XS.lloadN X0.here hx rfl (hb hby own_d4_4) rfl k) ?_
  show own_Go _ _ _ _ s₁ (mkF m 5 #[.val (.long q1), .second, .val (.int (128 : Int32))] [(.long q1)])
  refine own_go (fun _ k => X0.ldc2Long hx hown (mvT hZ (hw _ (List.mem_of_getElem? (i := 26) rfl))) (g := (mkF m 5 #[.val (.long q1), .second, .val (.int (128 : Int32))] [(.long q1)])) rfl (hb hby own_d4_5) _ k) ?_
  show own_Go _ _ _ _ s₁ (mkF m 8 #[.val (.long q1), .second, .val (.int (128 : Int32))] [(.long (-128 : Int64)), (.long q1)])
  refine own_go (fun _ k => XS.lcmp X0.here hx rfl (hb hby own_d4_8) rfl k) ?_
  show own_Go _ _ _ _ s₁ (mkF m 9 #[.val (.long q1), .second, .val (.int (128 : Int32))] [(.int (lcmpW q1 (-128 : Int64)))])
  by_cases hC : (lcmpW q1 (-128 : Int64)) < (0 : Int32)
  · refine own_go (fun _ k => XS.ifYes X0.here hx rfl (pc0 := 9) (pc' := 31) rfl (hb hby own_d4_9) rfl ((if0 _ _).trans (tlt hC).1) (by decide) (by decide) k) ?_
    show own_Go _ _ _ _ s₁ (mkF m 31 #[.val (.long q1), .second, .val (.int (128 : Int32))] [])
    obtain ⟨Tz7, hz7, Xz7, ez7, Ez7, Az7, Dz7, -, stz7⟩ := newO X0 hx hZ hown (hw _ (List.mem_of_getElem? (i := 28) rfl)) (hw _ (List.mem_of_getElem? (i := 29) rfl)) (hw _ (List.mem_of_getElem? (i := 24) rfl)) e0 (g := (mkF m 31 #[.val (.long q1), .second, .val (.int (128 : Int32))] [])) rfl (hb hby own_d4_31) (by decide) (by decide)
    obtain ⟨b, gz7⟩ : ∃ z, z = h0.size := ⟨_, rfl⟩
    rw [← gz7] at Az7 Dz7 stz7
    have g_b : n0 ≤ b := by rw [gz7, ← O.1]; exact O.2.1
    have sz_b : h0.size ≤ b := by rw [gz7]; exact K.1
    have O := O.ext Ez7
    have K := K.ext Ez7
    refine own_go stz7 ?_
    have E_b := Az7
    have F_value_b : Fld Z hz7 b "java/lang/Long" "value" "J" (.long (0 : Int64)) := Dz7 (Or.inr (hw _ (List.mem_of_getElem? (i := 42) rfl))) (ty := .long) (by decide)
    show own_Go _ _ _ _ Tz7 (mkF m 34 #[.val (.long q1), .second, .val (.int (128 : Int32))] [(.ref b)])
    refine own_go (fun _ k => XS.dup Xz7.here hx rfl (hb hby own_d4_34) rfl rfl k) ?_
    show own_Go _ _ _ _ Tz7 (mkF m 35 #[.val (.long q1), .second, .val (.int (128 : Int32))] [(.ref b), (.ref b)])
    refine own_go (fun _ k => XS.lloadN Xz7.here hx rfl (hb hby own_d4_35) rfl k) ?_
    show own_Go _ _ _ _ Tz7 (mkF m 36 #[.val (.long q1), .second, .val (.int (128 : Int32))] [(.long q1), (.ref b), (.ref b)])
    obtain ⟨vz8, Tz8, Lz8, Xz8, hQz8, stz8⟩ := own_callI Xz7 hx hZ rfl hown (hw _ (List.mem_of_getElem? (i := 30) rfl)) (hw _ (List.mem_of_getElem? (i := 31) rfl)) (hw _ (List.mem_of_getElem? (i := 24) rfl)) (hw _ (List.mem_of_getElem? (i := 33) rfl)) (by decide) ez7 (own_rm5 l Z a0 hw [] b q1 hz7 n0 g_b E_b F_value_b) (W := 1) (by decide) (by decide) (by decide) (by decide) own_pd1 rfl (g := (mkF m 36 #[.val (.long q1), .second, .val (.int (128 : Int32))] [(.long q1), (.ref b), (.ref b)])) (argsL := [(.long q1)]) (rest := [(.ref b)]) rfl (by rw [hml]; rfl) rfl (by show 2 * 0 + _ ≤ _; exact Nat.le_of_eq rfl) (hb hby own_d4_36)
    obtain ⟨rfl, Nz8q, Kz8, c1_z8⟩ := hQz8
    have Nz8 := Fr.app N0 Nz8q
    refine own_go stz8 ?_
    have O := O.keep Kz8 (allS g_b all0)
    have K := K.trans Kz8 (allS (Or.inr sz_b) all0)
    have E_b := c1_z8
    show own_Go _ _ _ _ Tz8 (mkF m 39 #[.val (.long q1), .second, .val (.int (128 : Int32))] [(.ref b)])
    exact own_end Xz8 hlk (v := (some (.ref b))) (fun h => by rw [hret] at h; cases h) (fun fs hr => retOut Xz8 hx hret rfl (Or.inr (Or.inr (Or.inr (Or.inr ⟨rfl, rfl, rfl⟩)))) (hb hby own_d4_39) hr) ⟨b, rfl, Nz8, K, E_b⟩ (by decide) (by decide)
  · refine own_go (fun _ k => XS.ifNo X0.here hx rfl (hb hby own_d4_9) rfl ((if0 _ _).trans (flt hC).1) k) ?_
    show own_Go _ _ _ _ s₁ (mkF m 12 #[.val (.long q1), .second, .val (.int (128 : Int32))] [])
    refine own_go (fun _ k => XS.lloadN X0.here hx rfl (hb hby own_d4_12) rfl k) ?_
    show own_Go _ _ _ _ s₁ (mkF m 13 #[.val (.long q1), .second, .val (.int (128 : Int32))] [(.long q1)])
    refine own_go (fun _ k => X0.ldc2Long hx hown (mvT hZ (hw _ (List.mem_of_getElem? (i := 27) rfl))) (g := (mkF m 13 #[.val (.long q1), .second, .val (.int (128 : Int32))] [(.long q1)])) rfl (hb hby own_d4_13) _ k) ?_
    show own_Go _ _ _ _ s₁ (mkF m 16 #[.val (.long q1), .second, .val (.int (128 : Int32))] [(.long (127 : Int64)), (.long q1)])
    refine own_go (fun _ k => XS.lcmp X0.here hx rfl (hb hby own_d4_16) rfl k) ?_
    show own_Go _ _ _ _ s₁ (mkF m 17 #[.val (.long q1), .second, .val (.int (128 : Int32))] [(.int (lcmpW q1 (127 : Int64)))])
    by_cases hD : (0 : Int32) < (lcmpW q1 (127 : Int64))
    · refine own_go (fun _ k => XS.ifYes X0.here hx rfl (pc0 := 17) (pc' := 31) rfl (hb hby own_d4_17) rfl ((if0 _ _).trans (tlt hD).2.2.1) (by decide) (by decide) k) ?_
      show own_Go _ _ _ _ s₁ (mkF m 31 #[.val (.long q1), .second, .val (.int (128 : Int32))] [])
      obtain ⟨Tz9, hz9, Xz9, ez9, Ez9, Az9, Dz9, -, stz9⟩ := newO X0 hx hZ hown (hw _ (List.mem_of_getElem? (i := 28) rfl)) (hw _ (List.mem_of_getElem? (i := 29) rfl)) (hw _ (List.mem_of_getElem? (i := 24) rfl)) e0 (g := (mkF m 31 #[.val (.long q1), .second, .val (.int (128 : Int32))] [])) rfl (hb hby own_d4_31) (by decide) (by decide)
      obtain ⟨b, gz9⟩ : ∃ z, z = h0.size := ⟨_, rfl⟩
      rw [← gz9] at Az9 Dz9 stz9
      have g_b : n0 ≤ b := by rw [gz9, ← O.1]; exact O.2.1
      have sz_b : h0.size ≤ b := by rw [gz9]; exact K.1
      have O := O.ext Ez9
      have K := K.ext Ez9
      refine own_go stz9 ?_
      have E_b := Az9
      have F_value_b : Fld Z hz9 b "java/lang/Long" "value" "J" (.long (0 : Int64)) := Dz9 (Or.inr (hw _ (List.mem_of_getElem? (i := 42) rfl))) (ty := .long) (by decide)
      show own_Go _ _ _ _ Tz9 (mkF m 34 #[.val (.long q1), .second, .val (.int (128 : Int32))] [(.ref b)])
      refine own_go (fun _ k => XS.dup Xz9.here hx rfl (hb hby own_d4_34) rfl rfl k) ?_
      show own_Go _ _ _ _ Tz9 (mkF m 35 #[.val (.long q1), .second, .val (.int (128 : Int32))] [(.ref b), (.ref b)])
      refine own_go (fun _ k => XS.lloadN Xz9.here hx rfl (hb hby own_d4_35) rfl k) ?_
      show own_Go _ _ _ _ Tz9 (mkF m 36 #[.val (.long q1), .second, .val (.int (128 : Int32))] [(.long q1), (.ref b), (.ref b)])
      obtain ⟨vz10, Tz10, Lz10, Xz10, hQz10, stz10⟩ := own_callI Xz9 hx hZ rfl hown (hw _ (List.mem_of_getElem? (i := 30) rfl)) (hw _ (List.mem_of_getElem? (i := 31) rfl)) (hw _ (List.mem_of_getElem? (i := 24) rfl)) (hw _ (List.mem_of_getElem? (i := 33) rfl)) (by decide) ez9 (own_rm5 l Z a0 hw [] b q1 hz9 n0 g_b E_b F_value_b) (W := 1) (by decide) (by decide) (by decide) (by decide) own_pd1 rfl (g := (mkF m 36 #[.val (.long q1), .second, .val (.int (128 : Int32))] [(.long q1), (.ref b), (.ref b)])) (argsL := [(.long q1)]) (rest := [(.ref b)]) rfl (by rw [hml]; rfl) rfl (by show 2 * 0 + _ ≤ _; exact Nat.le_of_eq rfl) (hb hby own_d4_36)
      obtain ⟨rfl, Nz10q, Kz10, c1_z10⟩ := hQz10
      have Nz10 := Fr.app N0 Nz10q
      refine own_go stz10 ?_
      have O := O.keep Kz10 (allS g_b all0)
      have K := K.trans Kz10 (allS (Or.inr sz_b) all0)
      have E_b := c1_z10
      show own_Go _ _ _ _ Tz10 (mkF m 39 #[.val (.long q1), .second, .val (.int (128 : Int32))] [(.ref b)])
      exact own_end Xz10 hlk (v := (some (.ref b))) (fun h => by rw [hret] at h; cases h) (fun fs hr => retOut Xz10 hx hret rfl (Or.inr (Or.inr (Or.inr (Or.inr ⟨rfl, rfl, rfl⟩)))) (hb hby own_d4_39) hr) ⟨b, rfl, Nz10, K, E_b⟩ (by decide) (by decide)
    · refine own_go (fun _ k => XS.ifNo X0.here hx rfl (hb hby own_d4_17) rfl ((if0 _ _).trans (flt hD).2.2.1) k) ?_
      show own_Go _ _ _ _ s₁ (mkF m 20 #[.val (.long q1), .second, .val (.int (128 : Int32))] [])
      obtain ⟨Tz11, Xz11, ez11, stz11⟩ := getS2 X0 hx hZ hown (host := "") (Or.inl (hw _ (List.mem_of_getElem? (i := 46) rfl))) Via.refl e0 (Sc.ext O.2) (g := (mkF m 20 #[.val (.long q1), .second, .val (.int (128 : Int32))] [])) rfl (hb hby own_d4_20)
      refine own_go stz11 ?_
      show own_Go _ _ _ _ Tz11 (mkF m 23 #[.val (.long q1), .second, .val (.int (128 : Int32))] [(.ref ca)])
      refine own_go (fun _ k => XS.lloadN Xz11.here hx rfl (hb hby own_d4_23) rfl k) ?_
      show own_Go _ _ _ _ Tz11 (mkF m 24 #[.val (.long q1), .second, .val (.int (128 : Int32))] [(.long q1), (.ref ca)])
      refine own_go (fun _ k => XS.l2i Xz11.here hx rfl (hb hby own_d4_24) rfl k) ?_
      show own_Go _ _ _ _ Tz11 (mkF m 25 #[.val (.long q1), .second, .val (.int (128 : Int32))] [(.int q1.toInt32), (.ref ca)])
      refine own_go (fun _ k => XS.sipush Xz11.here hx rfl (hb hby own_d4_25) k) ?_
      show own_Go _ _ _ _ Tz11 (mkF m 28 #[.val (.long q1), .second, .val (.int (128 : Int32))] [(.int (128 : Int32)), (.int q1.toInt32), (.ref ca)])
      refine own_go (fun _ k => XS.iadd Xz11.here hx rfl (hb hby own_d4_28) rfl k) ?_
      show own_Go _ _ _ _ Tz11 (mkF m 29 #[.val (.long q1), .second, .val (.int (128 : Int32))] [(.int (q1.toInt32 + (128 : Int32))), (.ref ca)])
      obtain ⟨hin, hlt⟩ := LongBox.place_okL q1 (fun q => hC ((lw_lt _ _).mpr q)) (fun q => hD ((lw_gt _ _).mpr q))
      obtain ⟨w, hwa, hwE⟩ := hel _ hlt
      have Ac := A.ext O.2
      refine own_go (fun _ k => Xz11.aaload hx (j := (q1.toInt32 + (128 : Int32))) (v := (.ref w)) (by rw [ez11]; exact Ac.1) (State.isArrayOf_alike hZ.alike Ac.2.1) rfl Ac.2.2 (by rw [hsz]; exact hin) hwa (g := (mkF m 29 #[.val (.long q1), .second, .val (.int (128 : Int32))] [(.int (q1.toInt32 + (128 : Int32))), (.ref ca)])) rfl rfl (hb hby own_d4_29) _ k) ?_
      show own_Go _ _ _ _ Tz11 (mkF m 30 #[.val (.long q1), .second, .val (.int (128 : Int32))] [(.ref w)])
      exact own_end Xz11 hlk (v := (some (.ref w))) (fun h => by rw [hret] at h; cases h) (fun fs hr => retOut Xz11 hx hret rfl (Or.inr (Or.inr (Or.inr (Or.inr ⟨rfl, rfl, rfl⟩)))) (hb hby own_d4_30) hr) (by rw [ez11]; exact ⟨w, rfl, N0, K, hwE.ext O.2⟩) (by decide) (by decide)
theorem own_efeqP (m : MethodId) (a1 : Addr) (a2 : Addr) : entryFrame m #[(.ref a1), (.ref a2)] 3 = mkF m 0 #[.val (.ref a1), .val (.ref a2), .unset] [] := by first | (simp [entryFrame, mkF, argsToLocals, Value.category]; done) | rfl
theorem own_d3_0 : decode prog_120_method_8_code 0 = .ok (.aload_n 1, 1) := by decide +kernel
theorem own_d3_1 : decode prog_120_method_8_code 1 = .ok (.instanceof 9, 3) := by decide +kernel
theorem own_d3_4 : decode prog_120_method_8_code 4 = .ok (.ifCond .ne 5, 3) := by decide +kernel
theorem own_d3_9 : decode prog_120_method_8_code 9 = .ok (.aload_n 1, 1) := by decide +kernel
theorem own_d3_10 : decode prog_120_method_8_code 10 = .ok (.checkcast 9, 3) := by decide +kernel
theorem own_d3_13 : decode prog_120_method_8_code 13 = .ok (.astore_n 2, 1) := by decide +kernel
theorem own_d3_14 : decode prog_120_method_8_code 14 = .ok (.aload_n 0, 1) := by decide +kernel
theorem own_d3_15 : decode prog_120_method_8_code 15 = .ok (.getfield 22, 3) := by decide +kernel
theorem own_d3_18 : decode prog_120_method_8_code 18 = .ok (.aload_n 2, 1) := by decide +kernel
theorem own_d3_19 : decode prog_120_method_8_code 19 = .ok (.getfield 22, 3) := by decide +kernel
theorem own_d3_22 : decode prog_120_method_8_code 22 = .ok (.lcmp, 1) := by decide +kernel
theorem own_d3_23 : decode prog_120_method_8_code 23 = .ok (.ifCond .ne 19, 3) := by decide +kernel
theorem own_d3_26 : decode prog_120_method_8_code 26 = .ok (.aload_n 0, 1) := by decide +kernel
theorem own_d3_27 : decode prog_120_method_8_code 27 = .ok (.getfield 26, 3) := by decide +kernel
theorem own_d3_30 : decode prog_120_method_8_code 30 = .ok (.aload_n 2, 1) := by decide +kernel
theorem own_d3_31 : decode prog_120_method_8_code 31 = .ok (.getfield 26, 3) := by decide +kernel
theorem own_d3_34 : decode prog_120_method_8_code 34 = .ok (.lcmp, 1) := by decide +kernel
theorem own_d3_35 : decode prog_120_method_8_code 35 = .ok (.ifCond .ne 7, 3) := by decide +kernel
theorem own_d3_38 : decode prog_120_method_8_code 38 = .ok (.iconst 1, 1) := by decide +kernel
theorem own_d3_39 : decode prog_120_method_8_code 39 = .ok (.goto 4, 3) := by decide +kernel
theorem own_d3_43 : decode prog_120_method_8_code 43 = .ok (.ireturn, 1) := by decide +kernel
theorem own_d3_42 : decode prog_120_method_8_code 42 = .ok (.iconst 0, 1) := by decide +kernel
def own_QeqP (Z : State) (r : Int32) (h0 : Heap) (n0 : Nat) (v : Option Value) (h : Heap) (L : List Loc) : Prop := v = some (.int r) ∧ Fr n0 L ∧ h = h0
set_option maxRecDepth 65536 in
set_option maxHeartbeats 40000000 in
theorem own_rmeqP (l : Launch) (Z : State) (a0 : Array Value) (hw : ∀ d ∈ tables_1, d.before a0 Z = true) (ws : List Jvm.Cond) (a1 : Addr) (a2 : Addr) (h0 : Heap) (n0 : Nat) (i1 o1 i2 o2 : Int64) (r : Int32) (hr : (if i1 = i2 ∧ o1 = o2 then (1 : Int32) else 0) = r) (E_a2 : Exa Z h0 a2 "com/example/bound_bundle/boundbundle/format/SdkRange") (F_min_a1 : Fld Z h0 a1 "com/example/bound_bundle/boundbundle/format/SdkRange" "min" "J" (.long i1)) (F_max_a1 : Fld Z h0 a1 "com/example/bound_bundle/boundbundle/format/SdkRange" "max" "J" (.long o1)) (F_min_a2 : Fld Z h0 a2 "com/example/bound_bundle/boundbundle/format/SdkRange" "min" "J" (.long i2)) (F_max_a2 : Fld Z h0 a2 "com/example/bound_bundle/boundbundle/format/SdkRange" "max" "J" (.long o2)) :
    own_Met l Z (⟨"com/example/bound_bundle/boundbundle/format/SdkRange", "equals", "(Ljava/lang/Object;)Z"⟩ : MethodName) prog_120_method_8_code 3 (some .boolean) ws ({ frames := 0, cells := 0, slots := 0, locals := 0 } : Room) #[(.ref a1), (.ref a2)] h0 (own_QeqP Z r h0 n0) := by
  refine own_met (plainFor_of_name own_pn0) ?_
  intro p e s m below meth c s₁ X0 hx hZ hby hml hown hnm hret hlk e0
  have N0 := Fr.nil n0
  refine own_go (fun t k => castTop (own_efeqP m a1 a2) k) ?_
  show own_Go _ _ _ _ s₁ (mkF m 0 #[.val (.ref a1), .val (.ref a2), .unset] [])
  refine own_go (fun _ k => XS.aloadN X0.here hx rfl (hb hby own_d3_0) rfl rfl k) ?_
  show own_Go _ _ _ _ s₁ (mkF m 1 #[.val (.ref a1), .val (.ref a2), .unset] [(.ref a2)])
  obtain ⟨Tz12, Xz12, ez12, stz12⟩ := instY X0 hx hZ hown (hw _ (List.mem_of_getElem? (i := 20) rfl)) e0 (Ins.self E_a2) (g := (mkF m 1 #[.val (.ref a1), .val (.ref a2), .unset] [(.ref a2)])) rfl rfl (hb hby own_d3_1)
  refine own_go stz12 ?_
  show own_Go _ _ _ _ Tz12 (mkF m 4 #[.val (.ref a1), .val (.ref a2), .unset] [(.int (1 : Int32))])
  refine own_go (fun _ k => XS.ifYes Xz12.here hx rfl (pc0 := 4) (pc' := 9) rfl (hb hby own_d3_4) rfl ((if0 _ _).trans (feq (by decide : ¬ ((1 : Int32) = (0 : Int32)))).2) (by decide) (by decide) k) ?_
  show own_Go _ _ _ _ Tz12 (mkF m 9 #[.val (.ref a1), .val (.ref a2), .unset] [])
  refine own_go (fun _ k => XS.aloadN Xz12.here hx rfl (hb hby own_d3_9) rfl rfl k) ?_
  show own_Go _ _ _ _ Tz12 (mkF m 10 #[.val (.ref a1), .val (.ref a2), .unset] [(.ref a2)])
  obtain ⟨Tz13, Xz13, ez13, stz13⟩ := castY Xz12 hx hZ hown (hw _ (List.mem_of_getElem? (i := 20) rfl)) ez12 (Ins.self E_a2) (g := (mkF m 10 #[.val (.ref a1), .val (.ref a2), .unset] [(.ref a2)])) rfl rfl (hb hby own_d3_10)
  refine own_go stz13 ?_
  show own_Go _ _ _ _ Tz13 (mkF m 13 #[.val (.ref a1), .val (.ref a2), .unset] [(.ref a2)])
  refine own_go (fun _ k => XS.astoreN Xz13.here hx rfl (hb hby own_d3_13) rfl rfl (l' := #[.val (.ref a1), .val (.ref a2), .val (.ref a2)]) rfl k) ?_
  show own_Go _ _ _ _ Tz13 (mkF m 14 #[.val (.ref a1), .val (.ref a2), .val (.ref a2)] [])
  refine own_go (fun _ k => XS.aloadN Xz13.here hx rfl (hb hby own_d3_14) rfl rfl k) ?_
  show own_Go _ _ _ _ Tz13 (mkF m 15 #[.val (.ref a1), .val (.ref a2), .val (.ref a2)] [(.ref a1)])
  obtain ⟨Tz14, Xz14, ez14, stz14⟩ := getF Xz13 hx hZ hown (host := "") (Or.inl (hw _ (List.mem_of_getElem? (i := 11) rfl))) Via.refl ez13 F_min_a1 (g := (mkF m 15 #[.val (.ref a1), .val (.ref a2), .val (.ref a2)] [(.ref a1)])) rfl rfl (hb hby own_d3_15)
  refine own_go stz14 ?_
  show own_Go _ _ _ _ Tz14 (mkF m 18 #[.val (.ref a1), .val (.ref a2), .val (.ref a2)] [(.long i1)])
  refine own_go (fun _ k => XS.aloadN Xz14.here hx rfl (hb hby own_d3_18) rfl rfl k) ?_
  show own_Go _ _ _ _ Tz14 (mkF m 19 #[.val (.ref a1), .val (.ref a2), .val (.ref a2)] [(.ref a2), (.long i1)])
  obtain ⟨Tz15, Xz15, ez15, stz15⟩ := getF Xz14 hx hZ hown (host := "") (Or.inl (hw _ (List.mem_of_getElem? (i := 11) rfl))) Via.refl ez14 F_min_a2 (g := (mkF m 19 #[.val (.ref a1), .val (.ref a2), .val (.ref a2)] [(.ref a2), (.long i1)])) rfl rfl (hb hby own_d3_19)
  refine own_go stz15 ?_
  show own_Go _ _ _ _ Tz15 (mkF m 22 #[.val (.ref a1), .val (.ref a2), .val (.ref a2)] [(.long i2), (.long i1)])
  refine own_go (fun _ k => XS.lcmp Xz15.here hx rfl (hb hby own_d3_22) rfl k) ?_
  show own_Go _ _ _ _ Tz15 (mkF m 23 #[.val (.ref a1), .val (.ref a2), .val (.ref a2)] [(.int (lcmpW i1 i2))])
  by_cases h1 : (lcmpW i1 i2) = (0 : Int32)
  · refine own_go (fun _ k => XS.ifNo Xz15.here hx rfl (hb hby own_d3_23) rfl ((if0 _ _).trans (teq h1).2) k) ?_
    show own_Go _ _ _ _ Tz15 (mkF m 26 #[.val (.ref a1), .val (.ref a2), .val (.ref a2)] [])
    refine own_go (fun _ k => XS.aloadN Xz15.here hx rfl (hb hby own_d3_26) rfl rfl k) ?_
    show own_Go _ _ _ _ Tz15 (mkF m 27 #[.val (.ref a1), .val (.ref a2), .val (.ref a2)] [(.ref a1)])
    obtain ⟨Tz16, Xz16, ez16, stz16⟩ := getF Xz15 hx hZ hown (host := "") (Or.inl (hw _ (List.mem_of_getElem? (i := 13) rfl))) Via.refl ez15 F_max_a1 (g := (mkF m 27 #[.val (.ref a1), .val (.ref a2), .val (.ref a2)] [(.ref a1)])) rfl rfl (hb hby own_d3_27)
    refine own_go stz16 ?_
    show own_Go _ _ _ _ Tz16 (mkF m 30 #[.val (.ref a1), .val (.ref a2), .val (.ref a2)] [(.long o1)])
    refine own_go (fun _ k => XS.aloadN Xz16.here hx rfl (hb hby own_d3_30) rfl rfl k) ?_
    show own_Go _ _ _ _ Tz16 (mkF m 31 #[.val (.ref a1), .val (.ref a2), .val (.ref a2)] [(.ref a2), (.long o1)])
    obtain ⟨Tz17, Xz17, ez17, stz17⟩ := getF Xz16 hx hZ hown (host := "") (Or.inl (hw _ (List.mem_of_getElem? (i := 13) rfl))) Via.refl ez16 F_max_a2 (g := (mkF m 31 #[.val (.ref a1), .val (.ref a2), .val (.ref a2)] [(.ref a2), (.long o1)])) rfl rfl (hb hby own_d3_31)
    refine own_go stz17 ?_
    show own_Go _ _ _ _ Tz17 (mkF m 34 #[.val (.ref a1), .val (.ref a2), .val (.ref a2)] [(.long o2), (.long o1)])
    refine own_go (fun _ k => XS.lcmp Xz17.here hx rfl (hb hby own_d3_34) rfl k) ?_
    show own_Go _ _ _ _ Tz17 (mkF m 35 #[.val (.ref a1), .val (.ref a2), .val (.ref a2)] [(.int (lcmpW o1 o2))])
    by_cases h2 : (lcmpW o1 o2) = (0 : Int32)
    · refine own_go (fun _ k => XS.ifNo Xz17.here hx rfl (hb hby own_d3_35) rfl ((if0 _ _).trans (teq h2).2) k) ?_
      show own_Go _ _ _ _ Tz17 (mkF m 38 #[.val (.ref a1), .val (.ref a2), .val (.ref a2)] [])
      refine own_go (fun _ k => XS.iconst Xz17.here hx rfl (hb hby own_d3_38) k) ?_
      show own_Go _ _ _ _ Tz17 (mkF m 39 #[.val (.ref a1), .val (.ref a2), .val (.ref a2)] [(.int (1 : Int32))])
      refine own_go (fun _ k => XS.goto Xz17.here hx rfl (pc0 := 39) (pc' := 43) rfl (hb hby own_d3_39) (by decide) (by decide) k) ?_
      show own_Go _ _ _ _ Tz17 (mkF m 43 #[.val (.ref a1), .val (.ref a2), .val (.ref a2)] [(.int (1 : Int32))])
      exact own_end Xz17 hlk (v := (some (.int (1 : Int32)))) (fun h => by rw [hret] at h; cases h) (fun fs hr => retN Xz17 hx (t := .boolean) hret (by simp) (hb hby own_d3_43) hr) (by rw [ez17]; exact ⟨by rw [← hr, if_pos (c := i1 = i2 ∧ o1 = o2) ⟨(lw_eq _ _).mp h1, (lw_eq _ _).mp h2⟩], N0, rfl⟩) (by decide) (by decide)
    · refine own_go (fun _ k => XS.ifYes Xz17.here hx rfl (pc0 := 35) (pc' := 42) rfl (hb hby own_d3_35) rfl ((if0 _ _).trans (feq h2).2) (by decide) (by decide) k) ?_
      show own_Go _ _ _ _ Tz17 (mkF m 42 #[.val (.ref a1), .val (.ref a2), .val (.ref a2)] [])
      refine own_go (fun _ k => XS.iconst Xz17.here hx rfl (hb hby own_d3_42) k) ?_
      show own_Go _ _ _ _ Tz17 (mkF m 43 #[.val (.ref a1), .val (.ref a2), .val (.ref a2)] [(.int (0 : Int32))])
      exact own_end Xz17 hlk (v := (some (.int (0 : Int32)))) (fun h => by rw [hret] at h; cases h) (fun fs hr => retN Xz17 hx (t := .boolean) hret (by simp) (hb hby own_d3_43) hr) (by rw [ez17]; exact ⟨by rw [← hr, if_neg (c := i1 = i2 ∧ o1 = o2) (fun q => h2 ((lw_eq _ _).mpr q.2))], N0, rfl⟩) (by decide) (by decide)
  · refine own_go (fun _ k => XS.ifYes Xz15.here hx rfl (pc0 := 23) (pc' := 42) rfl (hb hby own_d3_23) rfl ((if0 _ _).trans (feq h1).2) (by decide) (by decide) k) ?_
    show own_Go _ _ _ _ Tz15 (mkF m 42 #[.val (.ref a1), .val (.ref a2), .val (.ref a2)] [])
    refine own_go (fun _ k => XS.iconst Xz15.here hx rfl (hb hby own_d3_42) k) ?_
    show own_Go _ _ _ _ Tz15 (mkF m 43 #[.val (.ref a1), .val (.ref a2), .val (.ref a2)] [(.int (0 : Int32))])
    exact own_end Xz15 hlk (v := (some (.int (0 : Int32)))) (fun h => by rw [hret] at h; cases h) (fun fs hr => retN Xz15 hx (t := .boolean) hret (by simp) (hb hby own_d3_43) hr) (by rw [ez15]; exact ⟨by rw [← hr, if_neg (c := i1 = i2 ∧ o1 = o2) (fun q => h1 ((lw_eq _ _).mpr q.1))], N0, rfl⟩) (by decide) (by decide)
theorem own_efeqN (m : MethodId) (a1 : Addr) : entryFrame m #[(.ref a1), .null] 3 = mkF m 0 #[.val (.ref a1), .val .null, .unset] [] := by first | (simp [entryFrame, mkF, argsToLocals, Value.category]; done) | rfl
theorem own_d3_7 : decode prog_120_method_8_code 7 = .ok (.iconst 0, 1) := by decide +kernel
theorem own_d3_8 : decode prog_120_method_8_code 8 = .ok (.ireturn, 1) := by decide +kernel
def own_QeqN (Z : State) (a1 : Addr) (h0 : Heap) (n0 : Nat) (v : Option Value) (h : Heap) (L : List Loc) : Prop := v = some (.int (0 : Int32)) ∧ Fr n0 L ∧ h = h0
set_option maxRecDepth 65536 in
set_option maxHeartbeats 40000000 in
theorem own_rmeqN (l : Launch) (Z : State) (a0 : Array Value) (hw : ∀ d ∈ tables_1, d.before a0 Z = true) (ws : List Jvm.Cond) (a1 : Addr) (h0 : Heap) (n0 : Nat)  :
    own_Met l Z (⟨"com/example/bound_bundle/boundbundle/format/SdkRange", "equals", "(Ljava/lang/Object;)Z"⟩ : MethodName) prog_120_method_8_code 3 (some .boolean) ws ({ frames := 0, cells := 0, slots := 0, locals := 0 } : Room) #[(.ref a1), .null] h0 (own_QeqN Z a1 h0 n0) := by
  refine own_met (plainFor_of_name own_pn0) ?_
  intro p e s m below meth c s₁ X0 hx hZ hby hml hown hnm hret hlk e0
  have N0 := Fr.nil n0
  refine own_go (fun t k => castTop (own_efeqN m a1) k) ?_
  show own_Go _ _ _ _ s₁ (mkF m 0 #[.val (.ref a1), .val .null, .unset] [])
  refine own_go (fun _ k => XS.aloadN X0.here hx rfl (hb hby own_d3_0) rfl rfl k) ?_
  show own_Go _ _ _ _ s₁ (mkF m 1 #[.val (.ref a1), .val .null, .unset] [.null])
  refine own_go (fun _ k => X0.instanceofNull hx (g := (mkF m 1 #[.val (.ref a1), .val .null, .unset] [.null])) rfl rfl (hb hby own_d3_1) _ k) ?_
  show own_Go _ _ _ _ s₁ (mkF m 4 #[.val (.ref a1), .val .null, .unset] [(.int (0 : Int32))])
  refine own_go (fun _ k => XS.ifNo X0.here hx rfl (hb hby own_d3_4) rfl ((if0 _ _).trans (teq (by decide : (0 : Int32) = (0 : Int32))).2) k) ?_
  show own_Go _ _ _ _ s₁ (mkF m 7 #[.val (.ref a1), .val .null, .unset] [])
  refine own_go (fun _ k => XS.iconst X0.here hx rfl (hb hby own_d3_7) k) ?_
  show own_Go _ _ _ _ s₁ (mkF m 8 #[.val (.ref a1), .val .null, .unset] [(.int (0 : Int32))])
  exact own_end X0 hlk (v := (some (.int (0 : Int32)))) (fun h => by rw [hret] at h; cases h) (fun fs hr => retN X0 hx (t := .boolean) hret (by simp) (hb hby own_d3_8) hr) (by rw [e0]; exact ⟨rfl, N0, rfl⟩) (by decide) (by decide)
theorem own_efeqX (m : MethodId) (a1 : Addr) (a2 : Addr) : entryFrame m #[(.ref a1), (.ref a2)] 3 = mkF m 0 #[.val (.ref a1), .val (.ref a2), .unset] [] := by first | (simp [entryFrame, mkF, argsToLocals, Value.category]; done) | rfl
def own_QeqX (Z : State) (a1 : Addr) (h0 : Heap) (n0 : Nat) (v : Option Value) (h : Heap) (L : List Loc) : Prop := v = some (.int (0 : Int32)) ∧ Fr n0 L ∧ h = h0
set_option maxRecDepth 65536 in
set_option maxHeartbeats 40000000 in
theorem own_rmeqX (l : Launch) (Z : State) (a0 : Array Value) (hw : ∀ d ∈ tables_1, d.before a0 Z = true) (ws : List Jvm.Cond) (a1 : Addr) (a2 : Addr) (h0 : Heap) (n0 : Nat) (E_a2 : Exa Z h0 a2 "java/lang/Long") :
    own_Met l Z (⟨"com/example/bound_bundle/boundbundle/format/SdkRange", "equals", "(Ljava/lang/Object;)Z"⟩ : MethodName) prog_120_method_8_code 3 (some .boolean) ws ({ frames := 0, cells := 0, slots := 0, locals := 0 } : Room) #[(.ref a1), (.ref a2)] h0 (own_QeqX Z a1 h0 n0) := by
  refine own_met (plainFor_of_name own_pn0) ?_
  intro p e s m below meth c s₁ X0 hx hZ hby hml hown hnm hret hlk e0
  have N0 := Fr.nil n0
  refine own_go (fun t k => castTop (own_efeqX m a1 a2) k) ?_
  show own_Go _ _ _ _ s₁ (mkF m 0 #[.val (.ref a1), .val (.ref a2), .unset] [])
  refine own_go (fun _ k => XS.aloadN X0.here hx rfl (hb hby own_d3_0) rfl rfl k) ?_
  show own_Go _ _ _ _ s₁ (mkF m 1 #[.val (.ref a1), .val (.ref a2), .unset] [(.ref a2)])
  obtain ⟨Tz19, Xz19, ez19, stz19⟩ := instNo X0 hx hZ hown (hw _ (List.mem_of_getElem? (i := 20) rfl)) e0 E_a2 (own_NSno (hw _ (List.mem_of_getElem? (i := 43) rfl)) (hw _ (List.mem_of_getElem? (i := 2) rfl)) (NS.step (hw _ (List.mem_of_getElem? (i := 43) rfl)) (NS.step (hw _ (List.mem_of_getElem? (i := 44) rfl)) (own_NSroot (hw _ (List.mem_of_getElem? (i := 45) rfl)) (hw _ (List.mem_of_getElem? (i := 2) rfl)) (by decide)) (by decide)) (by decide)) (by decide)) (g := (mkF m 1 #[.val (.ref a1), .val (.ref a2), .unset] [(.ref a2)])) rfl rfl (hb hby own_d3_1)
  refine own_go stz19 ?_
  show own_Go _ _ _ _ Tz19 (mkF m 4 #[.val (.ref a1), .val (.ref a2), .unset] [(.int (0 : Int32))])
  refine own_go (fun _ k => XS.ifNo Xz19.here hx rfl (hb hby own_d3_4) rfl ((if0 _ _).trans (teq (by decide : (0 : Int32) = (0 : Int32))).2) k) ?_
  show own_Go _ _ _ _ Tz19 (mkF m 7 #[.val (.ref a1), .val (.ref a2), .unset] [])
  refine own_go (fun _ k => XS.iconst Xz19.here hx rfl (hb hby own_d3_7) k) ?_
  show own_Go _ _ _ _ Tz19 (mkF m 8 #[.val (.ref a1), .val (.ref a2), .unset] [(.int (0 : Int32))])
  exact own_end Xz19 hlk (v := (some (.int (0 : Int32)))) (fun h => by rw [hret] at h; cases h) (fun fs hr => retN Xz19 hx (t := .boolean) hret (by simp) (hb hby own_d3_8) hr) (by rw [ez19]; exact ⟨rfl, N0, rfl⟩) (by decide) (by decide)
theorem own_bnd (a : Int64) : ¬ ((a &&& (4294967295 : Int64)) < (0 : Int64)) ∧ ¬ ((4294967295 : Int64) < (a &&& (4294967295 : Int64))) := by
  have h := c_maskL a (4294967295 : Int64) 32 (by decide) (by decide)
  have k0 : (0 : Int64).toInt = 0 := rfl
  have k1 : (4294967295 : Int64).toInt = 4294967295 := rfl
  rw [Int64.lt_iff_toInt_lt, Int64.lt_iff_toInt_lt]
  omega
theorem own_bif {c : Prop} [Decidable c] {x y : Int64} (hx : ¬ (x < (0 : Int64)) ∧ ¬ ((4294967295 : Int64) < x)) (hy : ¬ (y < (0 : Int64)) ∧ ¬ ((4294967295 : Int64) < y)) : ¬ ((if c then x else y) < (0 : Int64)) ∧ ¬ ((4294967295 : Int64) < (if c then x else y)) := by
  split <;> assumption
theorem own_ex (a b c d : Int64) (ex : Int32) (h : ex = (if (lcmpW a c) = (0 : Int32) then (if (lcmpW b d) = (0 : Int32) then (1 : Int32) else (0 : Int32)) else (0 : Int32))) : (if a = c ∧ b = d then (1 : Int32) else 0) = ex ∧ (if c = a ∧ d = b then (1 : Int32) else 0) = ex := by
  have e : (if a = c ∧ b = d then (1 : Int32) else 0) = ex := by
    rw [h]
    simp only [lw_eq]
    by_cases p : a = c <;> by_cases q : b = d <;> simp [p, q]
  refine ⟨e, ?_⟩
  rw [← e]
  congr 1
  exact propext ⟨fun q => ⟨q.1.symm, q.2.symm⟩, fun q => ⟨q.1.symm, q.2.symm⟩⟩
theorem own_four (x : Int32) : x &&& (3 : Int32) = 0 ∨ x &&& (3 : Int32) = 1 ∨ x &&& (3 : Int32) = 2 ∨ x &&& (3 : Int32) = 3 := by
  have h1 := c_and x (3 : Int32) (by decide)
  have k3 : (3 : Int32).toInt = 3 := rfl
  have k0 : (0 : Int32).toInt = 0 := rfl
  have k1 : (1 : Int32).toInt = 1 := rfl
  have k2 : (2 : Int32).toInt = 2 := rfl
  simp only [← Int32.toInt_inj, k0, k1, k2, k3]
  omega
theorem own_ef0 (m : MethodId) (q1 : Int64) (q2 : Int64) (q3 : Int64) (q4 : Int64) (p5 : Int32) : entryFrame m #[(.long q1), (.long q2), (.long q3), (.long q4), (.int p5)] maxLocals = mkF m 0 #[.val (.long q1), .second, .val (.long q2), .second, .val (.long q3), .second, .val (.long q4), .second, .val (.int p5), .unset, .unset, .unset, .unset, .unset, .unset, .unset, .unset, .unset, .unset, .unset, .unset, .unset] [] := by first | (simp [entryFrame, mkF, argsToLocals, Value.category, maxLocals]; done) | rfl
theorem own_pd2 : parseMethodDescriptor "(JJ)V" = some ⟨[.long, .long], none⟩ := by decide +kernel
theorem own_pd3 : parseMethodDescriptor "(Ljava/lang/Object;)Z" = some ⟨[(.object "java/lang/Object")], some .boolean⟩ := by decide +kernel
theorem own_pd4 : parseMethodDescriptor "(J)Ljava/lang/Long;" = some ⟨[.long], some (.object "java/lang/Long")⟩ := by decide +kernel
theorem own_pn3 : plainName "com/example/bound_bundle/boundbundle/format/SdkRangeEqualsPinLaw" = true := by first | (simp [plainName, overriddenIn]; done) | decide +kernel
def own_Q0 (Z : State) (p5 : Int32) (h0 : Heap) (n0 : Nat) (v : Option Value) (h : Heap) (L : List Loc) : Prop := v = some (.int 1) ∧ Fr n0 L
set_option maxRecDepth 65536 in
set_option maxHeartbeats 40000000 in
theorem own_rm0 (l : Launch) (Z : State) (a0 : Array Value) (hw : ∀ d ∈ tables_1, d.before a0 Z = true) (ws : List Jvm.Cond) (q1 : Int64) (q2 : Int64) (q3 : Int64) (q4 : Int64) (p5 : Int32) (h0 : Heap) (n0 : Nat) (ca : Addr) (cc : Cell) (O : Old Z n0 h0) (Sc : Sta Z Z.heap "java/lang/Long$LongCache" "cache" "[Ljava/lang/Long;" (.ref ca)) (A : Arr Z Z.heap ca cc (.object "java/lang/Long")) (hsz : cc.slots.size = 256) (hel : ∀ j : Nat, j < 256 → ∃ w, cc.slots[j]? = some (.ref w) ∧ Exa Z Z.heap w "java/lang/Long") :
    own_Met l Z x code maxLocals ret ws room_1 #[(.long q1), (.long q2), (.long q3), (.long q4), (.int p5)] h0 (own_Q0 Z p5 h0 n0) := by
  refine own_met (plainFor_of_name own_pn3) ?_
  intro p e s m below meth c s₁ X0 hx hZ hby hml hown hnm hret hlk e0
  have N0 := Fr.nil n0
  refine own_go (fun t k => castTop (own_ef0 m q1 q2 q3 q4 p5) k) ?_
  show own_Go _ _ _ _ s₁ (mkF m 0 #[.val (.long q1), .second, .val (.long q2), .second, .val (.long q3), .second, .val (.long q4), .second, .val (.int p5), .unset, .unset, .unset, .unset, .unset, .unset, .unset, .unset, .unset, .unset, .unset, .unset, .unset] [])
  refine own_go (fun _ k => XS.lloadN X0.here hx rfl (hb hby at_0) rfl k) ?_
  show own_Go _ _ _ _ s₁ (mkF m 1 #[.val (.long q1), .second, .val (.long q2), .second, .val (.long q3), .second, .val (.long q4), .second, .val (.int p5), .unset, .unset, .unset, .unset, .unset, .unset, .unset, .unset, .unset, .unset, .unset, .unset, .unset] [(.long q1)])
  refine own_go (fun _ k => X0.ldc2Long hx hown (mvT hZ (hw _ (List.mem_of_getElem? (i := 0) rfl))) (g := (mkF m 1 #[.val (.long q1), .second, .val (.long q2), .second, .val (.long q3), .second, .val (.long q4), .second, .val (.int p5), .unset, .unset, .unset, .unset, .unset, .unset, .unset, .unset, .unset, .unset, .unset, .unset, .unset] [(.long q1)])) rfl (hb hby at_1) _ k) ?_
  show own_Go _ _ _ _ s₁ (mkF m 4 #[.val (.long q1), .second, .val (.long q2), .second, .val (.long q3), .second, .val (.long q4), .second, .val (.int p5), .unset, .unset, .unset, .unset, .unset, .unset, .unset, .unset, .unset, .unset, .unset, .unset, .unset] [(.long (4294967295 : Int64)), (.long q1)])
  refine own_go (fun _ k => XS.land X0.here hx rfl (hb hby at_4) rfl k) ?_
  show own_Go _ _ _ _ s₁ (mkF m 5 #[.val (.long q1), .second, .val (.long q2), .second, .val (.long q3), .second, .val (.long q4), .second, .val (.int p5), .unset, .unset, .unset, .unset, .unset, .unset, .unset, .unset, .unset, .unset, .unset, .unset, .unset] [(.long (q1 &&& (4294967295 : Int64)))])
  refine own_go (fun _ k => XS.lstore X0.here hx rfl (hb hby at_5) rfl (l' := #[.val (.long q1), .second, .val (.long q2), .second, .val (.long q3), .second, .val (.long q4), .second, .val (.int p5), .val (.long (q1 &&& (4294967295 : Int64))), .second, .unset, .unset, .unset, .unset, .unset, .unset, .unset, .unset, .unset, .unset, .unset]) rfl k) ?_
  show own_Go _ _ _ _ s₁ (mkF m 7 #[.val (.long q1), .second, .val (.long q2), .second, .val (.long q3), .second, .val (.long q4), .second, .val (.int p5), .val (.long (q1 &&& (4294967295 : Int64))), .second, .unset, .unset, .unset, .unset, .unset, .unset, .unset, .unset, .unset, .unset, .unset] [])
  obtain ⟨m1, h_m1⟩ : ∃ z, z = (q1 &&& (4294967295 : Int64)) := ⟨_, rfl⟩
  have hm1 := own_bnd q1
  rw [← h_m1] at hm1
  rw [← h_m1]
  clear h_m1
  show own_Go _ _ _ _ s₁ (mkF m 7 #[.val (.long q1), .second, .val (.long q2), .second, .val (.long q3), .second, .val (.long q4), .second, .val (.int p5), .val (.long m1), .second, .unset, .unset, .unset, .unset, .unset, .unset, .unset, .unset, .unset, .unset, .unset] [])
  refine own_go (fun _ k => XS.lloadN X0.here hx rfl (hb hby at_7) rfl k) ?_
  show own_Go _ _ _ _ s₁ (mkF m 8 #[.val (.long q1), .second, .val (.long q2), .second, .val (.long q3), .second, .val (.long q4), .second, .val (.int p5), .val (.long m1), .second, .unset, .unset, .unset, .unset, .unset, .unset, .unset, .unset, .unset, .unset, .unset] [(.long q2)])
  refine own_go (fun _ k => X0.ldc2Long hx hown (mvT hZ (hw _ (List.mem_of_getElem? (i := 0) rfl))) (g := (mkF m 8 #[.val (.long q1), .second, .val (.long q2), .second, .val (.long q3), .second, .val (.long q4), .second, .val (.int p5), .val (.long m1), .second, .unset, .unset, .unset, .unset, .unset, .unset, .unset, .unset, .unset, .unset, .unset] [(.long q2)])) rfl (hb hby at_8) _ k) ?_
  show own_Go _ _ _ _ s₁ (mkF m 11 #[.val (.long q1), .second, .val (.long q2), .second, .val (.long q3), .second, .val (.long q4), .second, .val (.int p5), .val (.long m1), .second, .unset, .unset, .unset, .unset, .unset, .unset, .unset, .unset, .unset, .unset, .unset] [(.long (4294967295 : Int64)), (.long q2)])
  refine own_go (fun _ k => XS.land X0.here hx rfl (hb hby at_11) rfl k) ?_
  show own_Go _ _ _ _ s₁ (mkF m 12 #[.val (.long q1), .second, .val (.long q2), .second, .val (.long q3), .second, .val (.long q4), .second, .val (.int p5), .val (.long m1), .second, .unset, .unset, .unset, .unset, .unset, .unset, .unset, .unset, .unset, .unset, .unset] [(.long (q2 &&& (4294967295 : Int64)))])
  refine own_go (fun _ k => XS.lstore X0.here hx rfl (hb hby at_12) rfl (l' := #[.val (.long q1), .second, .val (.long q2), .second, .val (.long q3), .second, .val (.long q4), .second, .val (.int p5), .val (.long m1), .second, .val (.long (q2 &&& (4294967295 : Int64))), .second, .unset, .unset, .unset, .unset, .unset, .unset, .unset, .unset, .unset]) rfl k) ?_
  show own_Go _ _ _ _ s₁ (mkF m 14 #[.val (.long q1), .second, .val (.long q2), .second, .val (.long q3), .second, .val (.long q4), .second, .val (.int p5), .val (.long m1), .second, .val (.long (q2 &&& (4294967295 : Int64))), .second, .unset, .unset, .unset, .unset, .unset, .unset, .unset, .unset, .unset] [])
  obtain ⟨x1, h_x1⟩ : ∃ z, z = (q2 &&& (4294967295 : Int64)) := ⟨_, rfl⟩
  have hx1 := own_bnd q2
  rw [← h_x1] at hx1
  rw [← h_x1]
  clear h_x1
  show own_Go _ _ _ _ s₁ (mkF m 14 #[.val (.long q1), .second, .val (.long q2), .second, .val (.long q3), .second, .val (.long q4), .second, .val (.int p5), .val (.long m1), .second, .val (.long x1), .second, .unset, .unset, .unset, .unset, .unset, .unset, .unset, .unset, .unset] [])
  refine own_go (fun _ k => XS.iload X0.here hx rfl (hb hby at_14) rfl k) ?_
  show own_Go _ _ _ _ s₁ (mkF m 16 #[.val (.long q1), .second, .val (.long q2), .second, .val (.long q3), .second, .val (.long q4), .second, .val (.int p5), .val (.long m1), .second, .val (.long x1), .second, .unset, .unset, .unset, .unset, .unset, .unset, .unset, .unset, .unset] [(.int p5)])
  refine own_go (fun _ k => XS.iconst X0.here hx rfl (hb hby at_16) k) ?_
  show own_Go _ _ _ _ s₁ (mkF m 17 #[.val (.long q1), .second, .val (.long q2), .second, .val (.long q3), .second, .val (.long q4), .second, .val (.int p5), .val (.long m1), .second, .val (.long x1), .second, .unset, .unset, .unset, .unset, .unset, .unset, .unset, .unset, .unset] [(.int (1 : Int32)), (.int p5)])
  refine own_go (fun _ k => XS.iand X0.here hx rfl (hb hby at_17) rfl k) ?_
  show own_Go _ _ _ _ s₁ (mkF m 18 #[.val (.long q1), .second, .val (.long q2), .second, .val (.long q3), .second, .val (.long q4), .second, .val (.int p5), .val (.long m1), .second, .val (.long x1), .second, .unset, .unset, .unset, .unset, .unset, .unset, .unset, .unset, .unset] [(.int (p5 &&& (1 : Int32)))])
  refine own_dia (α := Int64) (C := (p5 &&& (1 : Int32)) = (0 : Int32)) (v1 := (q3 &&& (4294967295 : Int64))) (v0 := m1) (f := fun v => (mkF m 32 #[.val (.long q1), .second, .val (.long q2), .second, .val (.long q3), .second, .val (.long q4), .second, .val (.int p5), .val (.long m1), .second, .val (.long x1), .second, .unset, .unset, .unset, .unset, .unset, .unset, .unset, .unset, .unset] ((.long v) :: []))) (T' := s₁) (fun hC k => ?_) (fun hC k => ?_) ?_
  · show own_Go _ _ _ _ s₁ (mkF m 18 #[.val (.long q1), .second, .val (.long q2), .second, .val (.long q3), .second, .val (.long q4), .second, .val (.int p5), .val (.long m1), .second, .val (.long x1), .second, .unset, .unset, .unset, .unset, .unset, .unset, .unset, .unset, .unset] [(.int (p5 &&& (1 : Int32)))])
    refine own_go (fun _ k => XS.ifYes X0.here hx rfl (pc0 := 18) (pc' := 26) rfl (hb hby at_18) rfl ((if0 _ _).trans (teq hC).1) (by decide) (by decide) k) ?_
    show own_Go _ _ _ _ s₁ (mkF m 26 #[.val (.long q1), .second, .val (.long q2), .second, .val (.long q3), .second, .val (.long q4), .second, .val (.int p5), .val (.long m1), .second, .val (.long x1), .second, .unset, .unset, .unset, .unset, .unset, .unset, .unset, .unset, .unset] [])
    refine own_go (fun _ k => XS.lload X0.here hx rfl (hb hby at_26) rfl k) ?_
    show own_Go _ _ _ _ s₁ (mkF m 28 #[.val (.long q1), .second, .val (.long q2), .second, .val (.long q3), .second, .val (.long q4), .second, .val (.int p5), .val (.long m1), .second, .val (.long x1), .second, .unset, .unset, .unset, .unset, .unset, .unset, .unset, .unset, .unset] [(.long q3)])
    refine own_go (fun _ k => X0.ldc2Long hx hown (mvT hZ (hw _ (List.mem_of_getElem? (i := 0) rfl))) (g := (mkF m 28 #[.val (.long q1), .second, .val (.long q2), .second, .val (.long q3), .second, .val (.long q4), .second, .val (.int p5), .val (.long m1), .second, .val (.long x1), .second, .unset, .unset, .unset, .unset, .unset, .unset, .unset, .unset, .unset] [(.long q3)])) rfl (hb hby at_28) _ k) ?_
    show own_Go _ _ _ _ s₁ (mkF m 31 #[.val (.long q1), .second, .val (.long q2), .second, .val (.long q3), .second, .val (.long q4), .second, .val (.int p5), .val (.long m1), .second, .val (.long x1), .second, .unset, .unset, .unset, .unset, .unset, .unset, .unset, .unset, .unset] [(.long (4294967295 : Int64)), (.long q3)])
    refine own_go (fun _ k => XS.land X0.here hx rfl (hb hby at_31) rfl k) ?_
    show own_Go _ _ _ _ s₁ (mkF m 32 #[.val (.long q1), .second, .val (.long q2), .second, .val (.long q3), .second, .val (.long q4), .second, .val (.int p5), .val (.long m1), .second, .val (.long x1), .second, .unset, .unset, .unset, .unset, .unset, .unset, .unset, .unset, .unset] [(.long (q3 &&& (4294967295 : Int64)))])
    exact k
  · show own_Go _ _ _ _ s₁ (mkF m 18 #[.val (.long q1), .second, .val (.long q2), .second, .val (.long q3), .second, .val (.long q4), .second, .val (.int p5), .val (.long m1), .second, .val (.long x1), .second, .unset, .unset, .unset, .unset, .unset, .unset, .unset, .unset, .unset] [(.int (p5 &&& (1 : Int32)))])
    refine own_go (fun _ k => XS.ifNo X0.here hx rfl (hb hby at_18) rfl ((if0 _ _).trans (feq hC).1) k) ?_
    show own_Go _ _ _ _ s₁ (mkF m 21 #[.val (.long q1), .second, .val (.long q2), .second, .val (.long q3), .second, .val (.long q4), .second, .val (.int p5), .val (.long m1), .second, .val (.long x1), .second, .unset, .unset, .unset, .unset, .unset, .unset, .unset, .unset, .unset] [])
    refine own_go (fun _ k => XS.lload X0.here hx rfl (hb hby at_21) rfl k) ?_
    show own_Go _ _ _ _ s₁ (mkF m 23 #[.val (.long q1), .second, .val (.long q2), .second, .val (.long q3), .second, .val (.long q4), .second, .val (.int p5), .val (.long m1), .second, .val (.long x1), .second, .unset, .unset, .unset, .unset, .unset, .unset, .unset, .unset, .unset] [(.long m1)])
    refine own_go (fun _ k => XS.goto X0.here hx rfl (pc0 := 23) (pc' := 32) rfl (hb hby at_23) (by decide) (by decide) k) ?_
    show own_Go _ _ _ _ s₁ (mkF m 32 #[.val (.long q1), .second, .val (.long q2), .second, .val (.long q3), .second, .val (.long q4), .second, .val (.int p5), .val (.long m1), .second, .val (.long x1), .second, .unset, .unset, .unset, .unset, .unset, .unset, .unset, .unset, .unset] [(.long m1)])
    exact k
  show own_Go _ _ _ _ s₁ (mkF m 32 #[.val (.long q1), .second, .val (.long q2), .second, .val (.long q3), .second, .val (.long q4), .second, .val (.int p5), .val (.long m1), .second, .val (.long x1), .second, .unset, .unset, .unset, .unset, .unset, .unset, .unset, .unset, .unset] [(.long (if (p5 &&& (1 : Int32)) = (0 : Int32) then (q3 &&& (4294967295 : Int64)) else m1))])
  obtain ⟨m2, h_m2⟩ : ∃ z, z = (if (p5 &&& (1 : Int32)) = (0 : Int32) then (q3 &&& (4294967295 : Int64)) else m1) := ⟨_, rfl⟩
  have hm2 := own_bif (c := (p5 &&& (1 : Int32)) = (0 : Int32)) (own_bnd q3) hm1
  rw [← h_m2] at hm2
  rw [← h_m2]
  clear h_m2
  show own_Go _ _ _ _ s₁ (mkF m 32 #[.val (.long q1), .second, .val (.long q2), .second, .val (.long q3), .second, .val (.long q4), .second, .val (.int p5), .val (.long m1), .second, .val (.long x1), .second, .unset, .unset, .unset, .unset, .unset, .unset, .unset, .unset, .unset] [(.long m2)])
  refine own_go (fun _ k => XS.lstore X0.here hx rfl (hb hby at_32) rfl (l' := #[.val (.long q1), .second, .val (.long q2), .second, .val (.long q3), .second, .val (.long q4), .second, .val (.int p5), .val (.long m1), .second, .val (.long x1), .second, .val (.long m2), .second, .unset, .unset, .unset, .unset, .unset, .unset, .unset]) rfl k) ?_
  show own_Go _ _ _ _ s₁ (mkF m 34 #[.val (.long q1), .second, .val (.long q2), .second, .val (.long q3), .second, .val (.long q4), .second, .val (.int p5), .val (.long m1), .second, .val (.long x1), .second, .val (.long m2), .second, .unset, .unset, .unset, .unset, .unset, .unset, .unset] [])
  refine own_go (fun _ k => XS.iload X0.here hx rfl (hb hby at_34) rfl k) ?_
  show own_Go _ _ _ _ s₁ (mkF m 36 #[.val (.long q1), .second, .val (.long q2), .second, .val (.long q3), .second, .val (.long q4), .second, .val (.int p5), .val (.long m1), .second, .val (.long x1), .second, .val (.long m2), .second, .unset, .unset, .unset, .unset, .unset, .unset, .unset] [(.int p5)])
  refine own_go (fun _ k => XS.iconst X0.here hx rfl (hb hby at_36) k) ?_
  show own_Go _ _ _ _ s₁ (mkF m 37 #[.val (.long q1), .second, .val (.long q2), .second, .val (.long q3), .second, .val (.long q4), .second, .val (.int p5), .val (.long m1), .second, .val (.long x1), .second, .val (.long m2), .second, .unset, .unset, .unset, .unset, .unset, .unset, .unset] [(.int (2 : Int32)), (.int p5)])
  refine own_go (fun _ k => XS.iand X0.here hx rfl (hb hby at_37) rfl k) ?_
  show own_Go _ _ _ _ s₁ (mkF m 38 #[.val (.long q1), .second, .val (.long q2), .second, .val (.long q3), .second, .val (.long q4), .second, .val (.int p5), .val (.long m1), .second, .val (.long x1), .second, .val (.long m2), .second, .unset, .unset, .unset, .unset, .unset, .unset, .unset] [(.int (p5 &&& (2 : Int32)))])
  refine own_dia (α := Int64) (C := (p5 &&& (2 : Int32)) = (0 : Int32)) (v1 := (q4 &&& (4294967295 : Int64))) (v0 := x1) (f := fun v => (mkF m 52 #[.val (.long q1), .second, .val (.long q2), .second, .val (.long q3), .second, .val (.long q4), .second, .val (.int p5), .val (.long m1), .second, .val (.long x1), .second, .val (.long m2), .second, .unset, .unset, .unset, .unset, .unset, .unset, .unset] ((.long v) :: []))) (T' := s₁) (fun hC k => ?_) (fun hC k => ?_) ?_
  · show own_Go _ _ _ _ s₁ (mkF m 38 #[.val (.long q1), .second, .val (.long q2), .second, .val (.long q3), .second, .val (.long q4), .second, .val (.int p5), .val (.long m1), .second, .val (.long x1), .second, .val (.long m2), .second, .unset, .unset, .unset, .unset, .unset, .unset, .unset] [(.int (p5 &&& (2 : Int32)))])
    refine own_go (fun _ k => XS.ifYes X0.here hx rfl (pc0 := 38) (pc' := 46) rfl (hb hby at_38) rfl ((if0 _ _).trans (teq hC).1) (by decide) (by decide) k) ?_
    show own_Go _ _ _ _ s₁ (mkF m 46 #[.val (.long q1), .second, .val (.long q2), .second, .val (.long q3), .second, .val (.long q4), .second, .val (.int p5), .val (.long m1), .second, .val (.long x1), .second, .val (.long m2), .second, .unset, .unset, .unset, .unset, .unset, .unset, .unset] [])
    refine own_go (fun _ k => XS.lload X0.here hx rfl (hb hby at_46) rfl k) ?_
    show own_Go _ _ _ _ s₁ (mkF m 48 #[.val (.long q1), .second, .val (.long q2), .second, .val (.long q3), .second, .val (.long q4), .second, .val (.int p5), .val (.long m1), .second, .val (.long x1), .second, .val (.long m2), .second, .unset, .unset, .unset, .unset, .unset, .unset, .unset] [(.long q4)])
    refine own_go (fun _ k => X0.ldc2Long hx hown (mvT hZ (hw _ (List.mem_of_getElem? (i := 0) rfl))) (g := (mkF m 48 #[.val (.long q1), .second, .val (.long q2), .second, .val (.long q3), .second, .val (.long q4), .second, .val (.int p5), .val (.long m1), .second, .val (.long x1), .second, .val (.long m2), .second, .unset, .unset, .unset, .unset, .unset, .unset, .unset] [(.long q4)])) rfl (hb hby at_48) _ k) ?_
    show own_Go _ _ _ _ s₁ (mkF m 51 #[.val (.long q1), .second, .val (.long q2), .second, .val (.long q3), .second, .val (.long q4), .second, .val (.int p5), .val (.long m1), .second, .val (.long x1), .second, .val (.long m2), .second, .unset, .unset, .unset, .unset, .unset, .unset, .unset] [(.long (4294967295 : Int64)), (.long q4)])
    refine own_go (fun _ k => XS.land X0.here hx rfl (hb hby at_51) rfl k) ?_
    show own_Go _ _ _ _ s₁ (mkF m 52 #[.val (.long q1), .second, .val (.long q2), .second, .val (.long q3), .second, .val (.long q4), .second, .val (.int p5), .val (.long m1), .second, .val (.long x1), .second, .val (.long m2), .second, .unset, .unset, .unset, .unset, .unset, .unset, .unset] [(.long (q4 &&& (4294967295 : Int64)))])
    exact k
  · show own_Go _ _ _ _ s₁ (mkF m 38 #[.val (.long q1), .second, .val (.long q2), .second, .val (.long q3), .second, .val (.long q4), .second, .val (.int p5), .val (.long m1), .second, .val (.long x1), .second, .val (.long m2), .second, .unset, .unset, .unset, .unset, .unset, .unset, .unset] [(.int (p5 &&& (2 : Int32)))])
    refine own_go (fun _ k => XS.ifNo X0.here hx rfl (hb hby at_38) rfl ((if0 _ _).trans (feq hC).1) k) ?_
    show own_Go _ _ _ _ s₁ (mkF m 41 #[.val (.long q1), .second, .val (.long q2), .second, .val (.long q3), .second, .val (.long q4), .second, .val (.int p5), .val (.long m1), .second, .val (.long x1), .second, .val (.long m2), .second, .unset, .unset, .unset, .unset, .unset, .unset, .unset] [])
    refine own_go (fun _ k => XS.lload X0.here hx rfl (hb hby at_41) rfl k) ?_
    show own_Go _ _ _ _ s₁ (mkF m 43 #[.val (.long q1), .second, .val (.long q2), .second, .val (.long q3), .second, .val (.long q4), .second, .val (.int p5), .val (.long m1), .second, .val (.long x1), .second, .val (.long m2), .second, .unset, .unset, .unset, .unset, .unset, .unset, .unset] [(.long x1)])
    refine own_go (fun _ k => XS.goto X0.here hx rfl (pc0 := 43) (pc' := 52) rfl (hb hby at_43) (by decide) (by decide) k) ?_
    show own_Go _ _ _ _ s₁ (mkF m 52 #[.val (.long q1), .second, .val (.long q2), .second, .val (.long q3), .second, .val (.long q4), .second, .val (.int p5), .val (.long m1), .second, .val (.long x1), .second, .val (.long m2), .second, .unset, .unset, .unset, .unset, .unset, .unset, .unset] [(.long x1)])
    exact k
  show own_Go _ _ _ _ s₁ (mkF m 52 #[.val (.long q1), .second, .val (.long q2), .second, .val (.long q3), .second, .val (.long q4), .second, .val (.int p5), .val (.long m1), .second, .val (.long x1), .second, .val (.long m2), .second, .unset, .unset, .unset, .unset, .unset, .unset, .unset] [(.long (if (p5 &&& (2 : Int32)) = (0 : Int32) then (q4 &&& (4294967295 : Int64)) else x1))])
  obtain ⟨x2, h_x2⟩ : ∃ z, z = (if (p5 &&& (2 : Int32)) = (0 : Int32) then (q4 &&& (4294967295 : Int64)) else x1) := ⟨_, rfl⟩
  have hx2 := own_bif (c := (p5 &&& (2 : Int32)) = (0 : Int32)) (own_bnd q4) hx1
  rw [← h_x2] at hx2
  rw [← h_x2]
  clear h_x2
  show own_Go _ _ _ _ s₁ (mkF m 52 #[.val (.long q1), .second, .val (.long q2), .second, .val (.long q3), .second, .val (.long q4), .second, .val (.int p5), .val (.long m1), .second, .val (.long x1), .second, .val (.long m2), .second, .unset, .unset, .unset, .unset, .unset, .unset, .unset] [(.long x2)])
  refine own_go (fun _ k => XS.lstore X0.here hx rfl (hb hby at_52) rfl (l' := #[.val (.long q1), .second, .val (.long q2), .second, .val (.long q3), .second, .val (.long q4), .second, .val (.int p5), .val (.long m1), .second, .val (.long x1), .second, .val (.long m2), .second, .val (.long x2), .second, .unset, .unset, .unset, .unset, .unset]) rfl k) ?_
  show own_Go _ _ _ _ s₁ (mkF m 54 #[.val (.long q1), .second, .val (.long q2), .second, .val (.long q3), .second, .val (.long q4), .second, .val (.int p5), .val (.long m1), .second, .val (.long x1), .second, .val (.long m2), .second, .val (.long x2), .second, .unset, .unset, .unset, .unset, .unset] [])
  obtain ⟨Tz20, hz20, Xz20, ez20, Ez20, Az20, Dz20, -, stz20⟩ := newO X0 hx hZ hown (hw _ (List.mem_of_getElem? (i := 1) rfl)) (hw _ (List.mem_of_getElem? (i := 2) rfl)) (hw _ (List.mem_of_getElem? (i := 3) rfl)) e0 (g := (mkF m 54 #[.val (.long q1), .second, .val (.long q2), .second, .val (.long q3), .second, .val (.long q4), .second, .val (.int p5), .val (.long m1), .second, .val (.long x1), .second, .val (.long m2), .second, .val (.long x2), .second, .unset, .unset, .unset, .unset, .unset] [])) rfl (hb hby at_54) (by decide) (by decide)
  obtain ⟨ba, gz20⟩ : ∃ z, z = h0.size := ⟨_, rfl⟩
  rw [← gz20] at Az20 Dz20 stz20
  have g_ba : n0 ≤ ba := by rw [gz20, ← O.1]; exact O.2.1
  have O := O.ext Ez20
  refine own_go stz20 ?_
  have E_ba := Az20
  have F_min_ba : Fld Z hz20 ba "com/example/bound_bundle/boundbundle/format/SdkRange" "min" "J" (.long (0 : Int64)) := Dz20 (Or.inr (hw _ (List.mem_of_getElem? (i := 12) rfl))) (ty := .long) (by decide)
  have F_max_ba : Fld Z hz20 ba "com/example/bound_bundle/boundbundle/format/SdkRange" "max" "J" (.long (0 : Int64)) := Dz20 (Or.inr (hw _ (List.mem_of_getElem? (i := 14) rfl))) (ty := .long) (by decide)
  show own_Go _ _ _ _ Tz20 (mkF m 57 #[.val (.long q1), .second, .val (.long q2), .second, .val (.long q3), .second, .val (.long q4), .second, .val (.int p5), .val (.long m1), .second, .val (.long x1), .second, .val (.long m2), .second, .val (.long x2), .second, .unset, .unset, .unset, .unset, .unset] [(.ref ba)])
  refine own_go (fun _ k => XS.dup Xz20.here hx rfl (hb hby at_57) rfl rfl k) ?_
  show own_Go _ _ _ _ Tz20 (mkF m 58 #[.val (.long q1), .second, .val (.long q2), .second, .val (.long q3), .second, .val (.long q4), .second, .val (.int p5), .val (.long m1), .second, .val (.long x1), .second, .val (.long m2), .second, .val (.long x2), .second, .unset, .unset, .unset, .unset, .unset] [(.ref ba), (.ref ba)])
  refine own_go (fun _ k => XS.lload Xz20.here hx rfl (hb hby at_58) rfl k) ?_
  show own_Go _ _ _ _ Tz20 (mkF m 60 #[.val (.long q1), .second, .val (.long q2), .second, .val (.long q3), .second, .val (.long q4), .second, .val (.int p5), .val (.long m1), .second, .val (.long x1), .second, .val (.long m2), .second, .val (.long x2), .second, .unset, .unset, .unset, .unset, .unset] [(.long m1), (.ref ba), (.ref ba)])
  refine own_go (fun _ k => XS.lload Xz20.here hx rfl (hb hby at_60) rfl k) ?_
  show own_Go _ _ _ _ Tz20 (mkF m 62 #[.val (.long q1), .second, .val (.long q2), .second, .val (.long q3), .second, .val (.long q4), .second, .val (.int p5), .val (.long m1), .second, .val (.long x1), .second, .val (.long m2), .second, .val (.long x2), .second, .unset, .unset, .unset, .unset, .unset] [(.long x1), (.long m1), (.ref ba), (.ref ba)])
  obtain ⟨vz21, Tz21, Lz21, Xz21, hQz21, stz21⟩ := own_callI Xz20 hx hZ rfl hown (hw _ (List.mem_of_getElem? (i := 4) rfl)) (hw _ (List.mem_of_getElem? (i := 5) rfl)) (hw _ (List.mem_of_getElem? (i := 3) rfl)) (hw _ (List.mem_of_getElem? (i := 6) rfl)) (by decide) ez20 (own_rm1 l Z a0 hw [] ba m1 x1 hz20 n0 hm1 hx1 g_ba E_ba F_min_ba F_max_ba) (W := 1) (by decide) (by decide) (by decide) (by decide) own_pd2 rfl (g := (mkF m 62 #[.val (.long q1), .second, .val (.long q2), .second, .val (.long q3), .second, .val (.long q4), .second, .val (.int p5), .val (.long m1), .second, .val (.long x1), .second, .val (.long m2), .second, .val (.long x2), .second, .unset, .unset, .unset, .unset, .unset] [(.long x1), (.long m1), (.ref ba), (.ref ba)])) (argsL := [(.long m1), (.long x1)]) (rest := [(.ref ba)]) rfl (by rw [hml]; rfl) rfl (by show 2 * 0 + _ ≤ _; exact Nat.le_of_eq rfl) (hb hby at_62)
  obtain ⟨rfl, Nz21q, Kz21, c0_z21, c1_z21, c2_z21⟩ := hQz21
  have Nz21 := Fr.app N0 Nz21q
  refine own_go stz21 ?_
  have O := O.keep Kz21 (allS g_ba all0)
  have E_ba := c0_z21
  have F_min_ba := c1_z21
  have F_max_ba := c2_z21
  show own_Go _ _ _ _ Tz21 (mkF m 65 #[.val (.long q1), .second, .val (.long q2), .second, .val (.long q3), .second, .val (.long q4), .second, .val (.int p5), .val (.long m1), .second, .val (.long x1), .second, .val (.long m2), .second, .val (.long x2), .second, .unset, .unset, .unset, .unset, .unset] [(.ref ba)])
  refine own_go (fun _ k => XS.astore Xz21.here hx rfl (hb hby at_65) rfl rfl (l' := #[.val (.long q1), .second, .val (.long q2), .second, .val (.long q3), .second, .val (.long q4), .second, .val (.int p5), .val (.long m1), .second, .val (.long x1), .second, .val (.long m2), .second, .val (.long x2), .second, .val (.ref ba), .unset, .unset, .unset, .unset]) rfl k) ?_
  show own_Go _ _ _ _ Tz21 (mkF m 67 #[.val (.long q1), .second, .val (.long q2), .second, .val (.long q3), .second, .val (.long q4), .second, .val (.int p5), .val (.long m1), .second, .val (.long x1), .second, .val (.long m2), .second, .val (.long x2), .second, .val (.ref ba), .unset, .unset, .unset, .unset] [])
  obtain ⟨Tz22, hz22, Xz22, ez22, Ez22, Az22, Dz22, -, stz22⟩ := newO Xz21 hx hZ hown (hw _ (List.mem_of_getElem? (i := 1) rfl)) (hw _ (List.mem_of_getElem? (i := 2) rfl)) (hw _ (List.mem_of_getElem? (i := 3) rfl)) rfl (g := (mkF m 67 #[.val (.long q1), .second, .val (.long q2), .second, .val (.long q3), .second, .val (.long q4), .second, .val (.int p5), .val (.long m1), .second, .val (.long x1), .second, .val (.long m2), .second, .val (.long x2), .second, .val (.ref ba), .unset, .unset, .unset, .unset] [])) rfl (hb hby at_67) (by decide) (by decide)
  obtain ⟨bb, gz22⟩ : ∃ z, z = Tz21.heap.size := ⟨_, rfl⟩
  rw [← gz22] at Az22 Dz22 stz22
  have ne_ba_bb : ba ≠ bb := Nat.ne_of_lt (Nat.lt_of_lt_of_le E_ba.lt (Nat.le_of_eq gz22.symm))
  have g_bb : n0 ≤ bb := by rw [gz22, ← O.1]; exact O.2.1
  have O := O.ext Ez22
  have E_ba := E_ba.ext Ez22
  have F_min_ba := F_min_ba.ext Ez22
  have F_max_ba := F_max_ba.ext Ez22
  refine own_go stz22 ?_
  have E_bb := Az22
  have F_min_bb : Fld Z hz22 bb "com/example/bound_bundle/boundbundle/format/SdkRange" "min" "J" (.long (0 : Int64)) := Dz22 (Or.inr (hw _ (List.mem_of_getElem? (i := 12) rfl))) (ty := .long) (by decide)
  have F_max_bb : Fld Z hz22 bb "com/example/bound_bundle/boundbundle/format/SdkRange" "max" "J" (.long (0 : Int64)) := Dz22 (Or.inr (hw _ (List.mem_of_getElem? (i := 14) rfl))) (ty := .long) (by decide)
  show own_Go _ _ _ _ Tz22 (mkF m 70 #[.val (.long q1), .second, .val (.long q2), .second, .val (.long q3), .second, .val (.long q4), .second, .val (.int p5), .val (.long m1), .second, .val (.long x1), .second, .val (.long m2), .second, .val (.long x2), .second, .val (.ref ba), .unset, .unset, .unset, .unset] [(.ref bb)])
  refine own_go (fun _ k => XS.dup Xz22.here hx rfl (hb hby at_70) rfl rfl k) ?_
  show own_Go _ _ _ _ Tz22 (mkF m 71 #[.val (.long q1), .second, .val (.long q2), .second, .val (.long q3), .second, .val (.long q4), .second, .val (.int p5), .val (.long m1), .second, .val (.long x1), .second, .val (.long m2), .second, .val (.long x2), .second, .val (.ref ba), .unset, .unset, .unset, .unset] [(.ref bb), (.ref bb)])
  refine own_go (fun _ k => XS.lload Xz22.here hx rfl (hb hby at_71) rfl k) ?_
  show own_Go _ _ _ _ Tz22 (mkF m 73 #[.val (.long q1), .second, .val (.long q2), .second, .val (.long q3), .second, .val (.long q4), .second, .val (.int p5), .val (.long m1), .second, .val (.long x1), .second, .val (.long m2), .second, .val (.long x2), .second, .val (.ref ba), .unset, .unset, .unset, .unset] [(.long m2), (.ref bb), (.ref bb)])
  refine own_go (fun _ k => XS.lload Xz22.here hx rfl (hb hby at_73) rfl k) ?_
  show own_Go _ _ _ _ Tz22 (mkF m 75 #[.val (.long q1), .second, .val (.long q2), .second, .val (.long q3), .second, .val (.long q4), .second, .val (.int p5), .val (.long m1), .second, .val (.long x1), .second, .val (.long m2), .second, .val (.long x2), .second, .val (.ref ba), .unset, .unset, .unset, .unset] [(.long x2), (.long m2), (.ref bb), (.ref bb)])
  obtain ⟨vz23, Tz23, Lz23, Xz23, hQz23, stz23⟩ := own_callI Xz22 hx hZ rfl hown (hw _ (List.mem_of_getElem? (i := 4) rfl)) (hw _ (List.mem_of_getElem? (i := 5) rfl)) (hw _ (List.mem_of_getElem? (i := 3) rfl)) (hw _ (List.mem_of_getElem? (i := 6) rfl)) (by decide) ez22 (own_rm1 l Z a0 hw [] bb m2 x2 hz22 n0 hm2 hx2 g_bb E_bb F_min_bb F_max_bb) (W := 1) (by decide) (by decide) (by decide) (by decide) own_pd2 rfl (g := (mkF m 75 #[.val (.long q1), .second, .val (.long q2), .second, .val (.long q3), .second, .val (.long q4), .second, .val (.int p5), .val (.long m1), .second, .val (.long x1), .second, .val (.long m2), .second, .val (.long x2), .second, .val (.ref ba), .unset, .unset, .unset, .unset] [(.long x2), (.long m2), (.ref bb), (.ref bb)])) (argsL := [(.long m2), (.long x2)]) (rest := [(.ref bb)]) rfl (by rw [hml]; rfl) rfl (by show 2 * 0 + _ ≤ _; exact Nat.le_of_eq rfl) (hb hby at_75)
  obtain ⟨rfl, Nz23q, Kz23, c0_z23, c1_z23, c2_z23⟩ := hQz23
  have Nz23 := Fr.app Nz21 Nz23q
  refine own_go stz23 ?_
  have O := O.keep Kz23 (allS g_bb all0)
  have E_ba := E_ba.keep Kz23
  have F_min_ba := F_min_ba.keep Kz23 (ninS ne_ba_bb nin0)
  have F_max_ba := F_max_ba.keep Kz23 (ninS ne_ba_bb nin0)
  have E_bb := c0_z23
  have F_min_bb := c1_z23
  have F_max_bb := c2_z23
  show own_Go _ _ _ _ Tz23 (mkF m 78 #[.val (.long q1), .second, .val (.long q2), .second, .val (.long q3), .second, .val (.long q4), .second, .val (.int p5), .val (.long m1), .second, .val (.long x1), .second, .val (.long m2), .second, .val (.long x2), .second, .val (.ref ba), .unset, .unset, .unset, .unset] [(.ref bb)])
  refine own_go (fun _ k => XS.astore Xz23.here hx rfl (hb hby at_78) rfl rfl (l' := #[.val (.long q1), .second, .val (.long q2), .second, .val (.long q3), .second, .val (.long q4), .second, .val (.int p5), .val (.long m1), .second, .val (.long x1), .second, .val (.long m2), .second, .val (.long x2), .second, .val (.ref ba), .val (.ref bb), .unset, .unset, .unset]) rfl k) ?_
  show own_Go _ _ _ _ Tz23 (mkF m 80 #[.val (.long q1), .second, .val (.long q2), .second, .val (.long q3), .second, .val (.long q4), .second, .val (.int p5), .val (.long m1), .second, .val (.long x1), .second, .val (.long m2), .second, .val (.long x2), .second, .val (.ref ba), .val (.ref bb), .unset, .unset, .unset] [])
  refine own_go (fun _ k => XS.lload Xz23.here hx rfl (hb hby at_80) rfl k) ?_
  show own_Go _ _ _ _ Tz23 (mkF m 82 #[.val (.long q1), .second, .val (.long q2), .second, .val (.long q3), .second, .val (.long q4), .second, .val (.int p5), .val (.long m1), .second, .val (.long x1), .second, .val (.long m2), .second, .val (.long x2), .second, .val (.ref ba), .val (.ref bb), .unset, .unset, .unset] [(.long m1)])
  refine own_go (fun _ k => XS.lload Xz23.here hx rfl (hb hby at_82) rfl k) ?_
  show own_Go _ _ _ _ Tz23 (mkF m 84 #[.val (.long q1), .second, .val (.long q2), .second, .val (.long q3), .second, .val (.long q4), .second, .val (.int p5), .val (.long m1), .second, .val (.long x1), .second, .val (.long m2), .second, .val (.long x2), .second, .val (.ref ba), .val (.ref bb), .unset, .unset, .unset] [(.long m2), (.long m1)])
  refine own_go (fun _ k => XS.lcmp Xz23.here hx rfl (hb hby at_84) rfl k) ?_
  show own_Go _ _ _ _ Tz23 (mkF m 85 #[.val (.long q1), .second, .val (.long q2), .second, .val (.long q3), .second, .val (.long q4), .second, .val (.int p5), .val (.long m1), .second, .val (.long x1), .second, .val (.long m2), .second, .val (.long x2), .second, .val (.ref ba), .val (.ref bb), .unset, .unset, .unset] [(.int (lcmpW m1 m2))])
  refine own_dia (α := Int32) (C := (lcmpW m1 m2) = (0 : Int32)) (v1 := (if (lcmpW x1 x2) = (0 : Int32) then (1 : Int32) else (0 : Int32))) (v0 := (0 : Int32)) (f := fun v => (mkF m 101 #[.val (.long q1), .second, .val (.long q2), .second, .val (.long q3), .second, .val (.long q4), .second, .val (.int p5), .val (.long m1), .second, .val (.long x1), .second, .val (.long m2), .second, .val (.long x2), .second, .val (.ref ba), .val (.ref bb), .unset, .unset, .unset] ((.int v) :: []))) (T' := Tz23) (fun hC k => ?_) (fun hC k => ?_) ?_
  · show own_Go _ _ _ _ Tz23 (mkF m 85 #[.val (.long q1), .second, .val (.long q2), .second, .val (.long q3), .second, .val (.long q4), .second, .val (.int p5), .val (.long m1), .second, .val (.long x1), .second, .val (.long m2), .second, .val (.long x2), .second, .val (.ref ba), .val (.ref bb), .unset, .unset, .unset] [(.int (lcmpW m1 m2))])
    refine own_go (fun _ k => XS.ifNo Xz23.here hx rfl (hb hby at_85) rfl ((if0 _ _).trans (teq hC).2) k) ?_
    show own_Go _ _ _ _ Tz23 (mkF m 88 #[.val (.long q1), .second, .val (.long q2), .second, .val (.long q3), .second, .val (.long q4), .second, .val (.int p5), .val (.long m1), .second, .val (.long x1), .second, .val (.long m2), .second, .val (.long x2), .second, .val (.ref ba), .val (.ref bb), .unset, .unset, .unset] [])
    refine own_go (fun _ k => XS.lload Xz23.here hx rfl (hb hby at_88) rfl k) ?_
    show own_Go _ _ _ _ Tz23 (mkF m 90 #[.val (.long q1), .second, .val (.long q2), .second, .val (.long q3), .second, .val (.long q4), .second, .val (.int p5), .val (.long m1), .second, .val (.long x1), .second, .val (.long m2), .second, .val (.long x2), .second, .val (.ref ba), .val (.ref bb), .unset, .unset, .unset] [(.long x1)])
    refine own_go (fun _ k => XS.lload Xz23.here hx rfl (hb hby at_90) rfl k) ?_
    show own_Go _ _ _ _ Tz23 (mkF m 92 #[.val (.long q1), .second, .val (.long q2), .second, .val (.long q3), .second, .val (.long q4), .second, .val (.int p5), .val (.long m1), .second, .val (.long x1), .second, .val (.long m2), .second, .val (.long x2), .second, .val (.ref ba), .val (.ref bb), .unset, .unset, .unset] [(.long x2), (.long x1)])
    refine own_go (fun _ k => XS.lcmp Xz23.here hx rfl (hb hby at_92) rfl k) ?_
    show own_Go _ _ _ _ Tz23 (mkF m 93 #[.val (.long q1), .second, .val (.long q2), .second, .val (.long q3), .second, .val (.long q4), .second, .val (.int p5), .val (.long m1), .second, .val (.long x1), .second, .val (.long m2), .second, .val (.long x2), .second, .val (.ref ba), .val (.ref bb), .unset, .unset, .unset] [(.int (lcmpW x1 x2))])
    refine own_dia (α := Int32) (C := (lcmpW x1 x2) = (0 : Int32)) (v1 := (1 : Int32)) (v0 := (0 : Int32)) (f := fun v => (mkF m 101 #[.val (.long q1), .second, .val (.long q2), .second, .val (.long q3), .second, .val (.long q4), .second, .val (.int p5), .val (.long m1), .second, .val (.long x1), .second, .val (.long m2), .second, .val (.long x2), .second, .val (.ref ba), .val (.ref bb), .unset, .unset, .unset] ((.int v) :: []))) (T' := Tz23) (fun hC k => ?_) (fun hC k => ?_) ?_
    · show own_Go _ _ _ _ Tz23 (mkF m 93 #[.val (.long q1), .second, .val (.long q2), .second, .val (.long q3), .second, .val (.long q4), .second, .val (.int p5), .val (.long m1), .second, .val (.long x1), .second, .val (.long m2), .second, .val (.long x2), .second, .val (.ref ba), .val (.ref bb), .unset, .unset, .unset] [(.int (lcmpW x1 x2))])
      refine own_go (fun _ k => XS.ifNo Xz23.here hx rfl (hb hby at_93) rfl ((if0 _ _).trans (teq hC).2) k) ?_
      show own_Go _ _ _ _ Tz23 (mkF m 96 #[.val (.long q1), .second, .val (.long q2), .second, .val (.long q3), .second, .val (.long q4), .second, .val (.int p5), .val (.long m1), .second, .val (.long x1), .second, .val (.long m2), .second, .val (.long x2), .second, .val (.ref ba), .val (.ref bb), .unset, .unset, .unset] [])
      refine own_go (fun _ k => XS.iconst Xz23.here hx rfl (hb hby at_96) k) ?_
      show own_Go _ _ _ _ Tz23 (mkF m 97 #[.val (.long q1), .second, .val (.long q2), .second, .val (.long q3), .second, .val (.long q4), .second, .val (.int p5), .val (.long m1), .second, .val (.long x1), .second, .val (.long m2), .second, .val (.long x2), .second, .val (.ref ba), .val (.ref bb), .unset, .unset, .unset] [(.int (1 : Int32))])
      refine own_go (fun _ k => XS.goto Xz23.here hx rfl (pc0 := 97) (pc' := 101) rfl (hb hby at_97) (by decide) (by decide) k) ?_
      show own_Go _ _ _ _ Tz23 (mkF m 101 #[.val (.long q1), .second, .val (.long q2), .second, .val (.long q3), .second, .val (.long q4), .second, .val (.int p5), .val (.long m1), .second, .val (.long x1), .second, .val (.long m2), .second, .val (.long x2), .second, .val (.ref ba), .val (.ref bb), .unset, .unset, .unset] [(.int (1 : Int32))])
      exact k
    · show own_Go _ _ _ _ Tz23 (mkF m 93 #[.val (.long q1), .second, .val (.long q2), .second, .val (.long q3), .second, .val (.long q4), .second, .val (.int p5), .val (.long m1), .second, .val (.long x1), .second, .val (.long m2), .second, .val (.long x2), .second, .val (.ref ba), .val (.ref bb), .unset, .unset, .unset] [(.int (lcmpW x1 x2))])
      refine own_go (fun _ k => XS.ifYes Xz23.here hx rfl (pc0 := 93) (pc' := 100) rfl (hb hby at_93) rfl ((if0 _ _).trans (feq hC).2) (by decide) (by decide) k) ?_
      show own_Go _ _ _ _ Tz23 (mkF m 100 #[.val (.long q1), .second, .val (.long q2), .second, .val (.long q3), .second, .val (.long q4), .second, .val (.int p5), .val (.long m1), .second, .val (.long x1), .second, .val (.long m2), .second, .val (.long x2), .second, .val (.ref ba), .val (.ref bb), .unset, .unset, .unset] [])
      refine own_go (fun _ k => XS.iconst Xz23.here hx rfl (hb hby at_100) k) ?_
      show own_Go _ _ _ _ Tz23 (mkF m 101 #[.val (.long q1), .second, .val (.long q2), .second, .val (.long q3), .second, .val (.long q4), .second, .val (.int p5), .val (.long m1), .second, .val (.long x1), .second, .val (.long m2), .second, .val (.long x2), .second, .val (.ref ba), .val (.ref bb), .unset, .unset, .unset] [(.int (0 : Int32))])
      exact k
    show own_Go _ _ _ _ Tz23 (mkF m 101 #[.val (.long q1), .second, .val (.long q2), .second, .val (.long q3), .second, .val (.long q4), .second, .val (.int p5), .val (.long m1), .second, .val (.long x1), .second, .val (.long m2), .second, .val (.long x2), .second, .val (.ref ba), .val (.ref bb), .unset, .unset, .unset] [(.int (if (lcmpW x1 x2) = (0 : Int32) then (1 : Int32) else (0 : Int32)))])
    exact k
  · show own_Go _ _ _ _ Tz23 (mkF m 85 #[.val (.long q1), .second, .val (.long q2), .second, .val (.long q3), .second, .val (.long q4), .second, .val (.int p5), .val (.long m1), .second, .val (.long x1), .second, .val (.long m2), .second, .val (.long x2), .second, .val (.ref ba), .val (.ref bb), .unset, .unset, .unset] [(.int (lcmpW m1 m2))])
    refine own_go (fun _ k => XS.ifYes Xz23.here hx rfl (pc0 := 85) (pc' := 100) rfl (hb hby at_85) rfl ((if0 _ _).trans (feq hC).2) (by decide) (by decide) k) ?_
    show own_Go _ _ _ _ Tz23 (mkF m 100 #[.val (.long q1), .second, .val (.long q2), .second, .val (.long q3), .second, .val (.long q4), .second, .val (.int p5), .val (.long m1), .second, .val (.long x1), .second, .val (.long m2), .second, .val (.long x2), .second, .val (.ref ba), .val (.ref bb), .unset, .unset, .unset] [])
    refine own_go (fun _ k => XS.iconst Xz23.here hx rfl (hb hby at_100) k) ?_
    show own_Go _ _ _ _ Tz23 (mkF m 101 #[.val (.long q1), .second, .val (.long q2), .second, .val (.long q3), .second, .val (.long q4), .second, .val (.int p5), .val (.long m1), .second, .val (.long x1), .second, .val (.long m2), .second, .val (.long x2), .second, .val (.ref ba), .val (.ref bb), .unset, .unset, .unset] [(.int (0 : Int32))])
    exact k
  show own_Go _ _ _ _ Tz23 (mkF m 101 #[.val (.long q1), .second, .val (.long q2), .second, .val (.long q3), .second, .val (.long q4), .second, .val (.int p5), .val (.long m1), .second, .val (.long x1), .second, .val (.long m2), .second, .val (.long x2), .second, .val (.ref ba), .val (.ref bb), .unset, .unset, .unset] [(.int (if (lcmpW m1 m2) = (0 : Int32) then (if (lcmpW x1 x2) = (0 : Int32) then (1 : Int32) else (0 : Int32)) else (0 : Int32)))])
  obtain ⟨ex, h_ex⟩ : ∃ z, z = (if (lcmpW m1 m2) = (0 : Int32) then (if (lcmpW x1 x2) = (0 : Int32) then (1 : Int32) else (0 : Int32)) else (0 : Int32)) := ⟨_, rfl⟩
  rw [← h_ex]
  show own_Go _ _ _ _ Tz23 (mkF m 101 #[.val (.long q1), .second, .val (.long q2), .second, .val (.long q3), .second, .val (.long q4), .second, .val (.int p5), .val (.long m1), .second, .val (.long x1), .second, .val (.long m2), .second, .val (.long x2), .second, .val (.ref ba), .val (.ref bb), .unset, .unset, .unset] [(.int ex)])
  have hex := own_ex m1 x1 m2 x2 ex h_ex
  refine own_go (fun _ k => XS.istore Xz23.here hx rfl (hb hby at_101) rfl (l' := #[.val (.long q1), .second, .val (.long q2), .second, .val (.long q3), .second, .val (.long q4), .second, .val (.int p5), .val (.long m1), .second, .val (.long x1), .second, .val (.long m2), .second, .val (.long x2), .second, .val (.ref ba), .val (.ref bb), .val (.int ex), .unset, .unset]) rfl k) ?_
  show own_Go _ _ _ _ Tz23 (mkF m 103 #[.val (.long q1), .second, .val (.long q2), .second, .val (.long q3), .second, .val (.long q4), .second, .val (.int p5), .val (.long m1), .second, .val (.long x1), .second, .val (.long m2), .second, .val (.long x2), .second, .val (.ref ba), .val (.ref bb), .val (.int ex), .unset, .unset] [])
  refine own_go (fun _ k => XS.iload Xz23.here hx rfl (hb hby at_103) rfl k) ?_
  show own_Go _ _ _ _ Tz23 (mkF m 105 #[.val (.long q1), .second, .val (.long q2), .second, .val (.long q3), .second, .val (.long q4), .second, .val (.int p5), .val (.long m1), .second, .val (.long x1), .second, .val (.long m2), .second, .val (.long x2), .second, .val (.ref ba), .val (.ref bb), .val (.int ex), .unset, .unset] [(.int p5)])
  refine own_go (fun _ k => XS.iconst Xz23.here hx rfl (hb hby at_105) k) ?_
  show own_Go _ _ _ _ Tz23 (mkF m 106 #[.val (.long q1), .second, .val (.long q2), .second, .val (.long q3), .second, .val (.long q4), .second, .val (.int p5), .val (.long m1), .second, .val (.long x1), .second, .val (.long m2), .second, .val (.long x2), .second, .val (.ref ba), .val (.ref bb), .val (.int ex), .unset, .unset] [(.int (2 : Int32)), (.int p5)])
  refine own_go (fun _ k => XS.iushr Xz23.here hx rfl (hb hby at_106) rfl k) ?_
  show own_Go _ _ _ _ Tz23 (mkF m 107 #[.val (.long q1), .second, .val (.long q2), .second, .val (.long q3), .second, .val (.long q4), .second, .val (.int p5), .val (.long m1), .second, .val (.long x1), .second, .val (.long m2), .second, .val (.long x2), .second, .val (.ref ba), .val (.ref bb), .val (.int ex), .unset, .unset] [(.int ((p5.toUInt32 >>> ((2 : Int32) &&& 31).toUInt32).toInt32))])
  refine own_go (fun _ k => XS.iconst Xz23.here hx rfl (hb hby at_107) k) ?_
  show own_Go _ _ _ _ Tz23 (mkF m 108 #[.val (.long q1), .second, .val (.long q2), .second, .val (.long q3), .second, .val (.long q4), .second, .val (.int p5), .val (.long m1), .second, .val (.long x1), .second, .val (.long m2), .second, .val (.long x2), .second, .val (.ref ba), .val (.ref bb), .val (.int ex), .unset, .unset] [(.int (3 : Int32)), (.int ((p5.toUInt32 >>> ((2 : Int32) &&& 31).toUInt32).toInt32))])
  refine own_go (fun _ k => XS.iand Xz23.here hx rfl (hb hby at_108) rfl k) ?_
  show own_Go _ _ _ _ Tz23 (mkF m 109 #[.val (.long q1), .second, .val (.long q2), .second, .val (.long q3), .second, .val (.long q4), .second, .val (.int p5), .val (.long m1), .second, .val (.long x1), .second, .val (.long m2), .second, .val (.long x2), .second, .val (.ref ba), .val (.ref bb), .val (.int ex), .unset, .unset] [(.int (((p5.toUInt32 >>> ((2 : Int32) &&& 31).toUInt32).toInt32) &&& (3 : Int32)))])
  refine own_go (fun _ k => XS.istore Xz23.here hx rfl (hb hby at_109) rfl (l' := #[.val (.long q1), .second, .val (.long q2), .second, .val (.long q3), .second, .val (.long q4), .second, .val (.int p5), .val (.long m1), .second, .val (.long x1), .second, .val (.long m2), .second, .val (.long x2), .second, .val (.ref ba), .val (.ref bb), .val (.int ex), .val (.int (((p5.toUInt32 >>> ((2 : Int32) &&& 31).toUInt32).toInt32) &&& (3 : Int32))), .unset]) rfl k) ?_
  show own_Go _ _ _ _ Tz23 (mkF m 111 #[.val (.long q1), .second, .val (.long q2), .second, .val (.long q3), .second, .val (.long q4), .second, .val (.int p5), .val (.long m1), .second, .val (.long x1), .second, .val (.long m2), .second, .val (.long x2), .second, .val (.ref ba), .val (.ref bb), .val (.int ex), .val (.int (((p5.toUInt32 >>> ((2 : Int32) &&& 31).toUInt32).toInt32) &&& (3 : Int32))), .unset] [])
  obtain ⟨kv, h_kv⟩ : ∃ z, z = (((p5.toUInt32 >>> ((2 : Int32) &&& 31).toUInt32).toInt32) &&& (3 : Int32)) := ⟨_, rfl⟩
  have hkv := own_four ((p5.toUInt32 >>> ((2 : Int32) &&& 31).toUInt32).toInt32)
  rw [← h_kv] at hkv
  rw [← h_kv]
  clear h_kv
  show own_Go _ _ _ _ Tz23 (mkF m 111 #[.val (.long q1), .second, .val (.long q2), .second, .val (.long q3), .second, .val (.long q4), .second, .val (.int p5), .val (.long m1), .second, .val (.long x1), .second, .val (.long m2), .second, .val (.long x2), .second, .val (.ref ba), .val (.ref bb), .val (.int ex), .val (.int kv), .unset] [])
  refine own_go (fun _ k => XS.iload Xz23.here hx rfl (hb hby at_111) rfl k) ?_
  show own_Go _ _ _ _ Tz23 (mkF m 113 #[.val (.long q1), .second, .val (.long q2), .second, .val (.long q3), .second, .val (.long q4), .second, .val (.int p5), .val (.long m1), .second, .val (.long x1), .second, .val (.long m2), .second, .val (.long x2), .second, .val (.ref ba), .val (.ref bb), .val (.int ex), .val (.int kv), .unset] [(.int kv)])
  refine own_go (fun _ k => XS.iconst Xz23.here hx rfl (hb hby at_113) k) ?_
  show own_Go _ _ _ _ Tz23 (mkF m 114 #[.val (.long q1), .second, .val (.long q2), .second, .val (.long q3), .second, .val (.long q4), .second, .val (.int p5), .val (.long m1), .second, .val (.long x1), .second, .val (.long m2), .second, .val (.long x2), .second, .val (.ref ba), .val (.ref bb), .val (.int ex), .val (.int kv), .unset] [(.int (1 : Int32)), (.int kv)])
  by_cases hk1 : kv = (1 : Int32)
  · refine own_go (fun _ k => XS.icmpNo Xz23.here hx rfl (hb hby at_114) rfl (teq hk1).2 k) ?_
    show own_Go _ _ _ _ Tz23 (mkF m 117 #[.val (.long q1), .second, .val (.long q2), .second, .val (.long q3), .second, .val (.long q4), .second, .val (.int p5), .val (.long m1), .second, .val (.long x1), .second, .val (.long m2), .second, .val (.long x2), .second, .val (.ref ba), .val (.ref bb), .val (.int ex), .val (.int kv), .unset] [])
    refine own_go (fun _ k => XS.aload Xz23.here hx rfl (hb hby at_117) rfl rfl k) ?_
    show own_Go _ _ _ _ Tz23 (mkF m 119 #[.val (.long q1), .second, .val (.long q2), .second, .val (.long q3), .second, .val (.long q4), .second, .val (.int p5), .val (.long m1), .second, .val (.long x1), .second, .val (.long m2), .second, .val (.long x2), .second, .val (.ref ba), .val (.ref bb), .val (.int ex), .val (.int kv), .unset] [(.ref ba)])
    refine own_go (fun _ k => XS.aconstNull Xz23.here hx rfl (hb hby at_119) k) ?_
    show own_Go _ _ _ _ Tz23 (mkF m 120 #[.val (.long q1), .second, .val (.long q2), .second, .val (.long q3), .second, .val (.long q4), .second, .val (.int p5), .val (.long m1), .second, .val (.long x1), .second, .val (.long m2), .second, .val (.long x2), .second, .val (.ref ba), .val (.ref bb), .val (.int ex), .val (.int kv), .unset] [.null, (.ref ba)])
    obtain ⟨vz24, Tz24, Lz24, Xz24, hQz24, stz24⟩ := own_callV Xz23 hx hZ hown (hw _ (List.mem_of_getElem? (i := 15) rfl)) (hw _ (List.mem_of_getElem? (i := 16) rfl)) (hw _ (List.mem_of_getElem? (i := 18) rfl)) (hw _ (List.mem_of_getElem? (i := 17) rfl)) (hw _ (List.mem_of_getElem? (i := 3) rfl)) (hw _ (List.mem_of_getElem? (i := 19) rfl)) (by decide) rfl E_ba (own_rmeqN l Z a0 hw [] ba Tz23.heap n0) (W := 0) (by decide) (by decide) (by decide) (by decide) own_pd3 rfl (g := (mkF m 120 #[.val (.long q1), .second, .val (.long q2), .second, .val (.long q3), .second, .val (.long q4), .second, .val (.int p5), .val (.long m1), .second, .val (.long x1), .second, .val (.long m2), .second, .val (.long x2), .second, .val (.ref ba), .val (.ref bb), .val (.int ex), .val (.int kv), .unset] [.null, (.ref ba)])) (argsL := [.null]) (rest := []) rfl (by rw [hml]; rfl) rfl (by show 2 * 0 + _ ≤ _; exact Nat.le_of_eq rfl) (hb hby at_120)
    obtain ⟨rfl, Nz24q, ehz24⟩ := hQz24
    have Nz24 := Fr.app Nz23 Nz24q
    refine own_go stz24 ?_
    show own_Go _ _ _ _ Tz24 (mkF m 123 #[.val (.long q1), .second, .val (.long q2), .second, .val (.long q3), .second, .val (.long q4), .second, .val (.int p5), .val (.long m1), .second, .val (.long x1), .second, .val (.long m2), .second, .val (.long x2), .second, .val (.ref ba), .val (.ref bb), .val (.int ex), .val (.int kv), .unset] [(.int (0 : Int32))])
    refine own_go (fun _ k => XS.ifNo Xz24.here hx rfl (hb hby at_123) rfl ((if0 _ _).trans (teq (by decide : (0 : Int32) = (0 : Int32))).2) k) ?_
    show own_Go _ _ _ _ Tz24 (mkF m 126 #[.val (.long q1), .second, .val (.long q2), .second, .val (.long q3), .second, .val (.long q4), .second, .val (.int p5), .val (.long m1), .second, .val (.long x1), .second, .val (.long m2), .second, .val (.long x2), .second, .val (.ref ba), .val (.ref bb), .val (.int ex), .val (.int kv), .unset] [])
    refine own_go (fun _ k => XS.iconst Xz24.here hx rfl (hb hby at_126) k) ?_
    show own_Go _ _ _ _ Tz24 (mkF m 127 #[.val (.long q1), .second, .val (.long q2), .second, .val (.long q3), .second, .val (.long q4), .second, .val (.int p5), .val (.long m1), .second, .val (.long x1), .second, .val (.long m2), .second, .val (.long x2), .second, .val (.ref ba), .val (.ref bb), .val (.int ex), .val (.int kv), .unset] [(.int (1 : Int32))])
    refine own_go (fun _ k => XS.goto Xz24.here hx rfl (pc0 := 127) (pc' := 131) rfl (hb hby at_127) (by decide) (by decide) k) ?_
    show own_Go _ _ _ _ Tz24 (mkF m 131 #[.val (.long q1), .second, .val (.long q2), .second, .val (.long q3), .second, .val (.long q4), .second, .val (.int p5), .val (.long m1), .second, .val (.long x1), .second, .val (.long m2), .second, .val (.long x2), .second, .val (.ref ba), .val (.ref bb), .val (.int ex), .val (.int kv), .unset] [(.int (1 : Int32))])
    exact own_end Xz24 hlk (v := (some (.int (1 : Int32)))) (fun h => by rw [hret] at h; cases h) (fun fs hr => retN Xz24 hx (t := .boolean) hret (by simp) (hb hby at_131) hr) (by rw [ehz24]; exact ⟨rfl, Nz24⟩) (by decide) (by decide)
  · refine own_go (fun _ k => XS.icmpYes Xz23.here hx rfl (pc0 := 114) (pc' := 132) rfl (hb hby at_114) rfl (feq hk1).2 (by decide) (by decide) k) ?_
    show own_Go _ _ _ _ Tz23 (mkF m 132 #[.val (.long q1), .second, .val (.long q2), .second, .val (.long q3), .second, .val (.long q4), .second, .val (.int p5), .val (.long m1), .second, .val (.long x1), .second, .val (.long m2), .second, .val (.long x2), .second, .val (.ref ba), .val (.ref bb), .val (.int ex), .val (.int kv), .unset] [])
    refine own_go (fun _ k => XS.iload Xz23.here hx rfl (hb hby at_132) rfl k) ?_
    show own_Go _ _ _ _ Tz23 (mkF m 134 #[.val (.long q1), .second, .val (.long q2), .second, .val (.long q3), .second, .val (.long q4), .second, .val (.int p5), .val (.long m1), .second, .val (.long x1), .second, .val (.long m2), .second, .val (.long x2), .second, .val (.ref ba), .val (.ref bb), .val (.int ex), .val (.int kv), .unset] [(.int kv)])
    refine own_go (fun _ k => XS.iconst Xz23.here hx rfl (hb hby at_134) k) ?_
    show own_Go _ _ _ _ Tz23 (mkF m 135 #[.val (.long q1), .second, .val (.long q2), .second, .val (.long q3), .second, .val (.long q4), .second, .val (.int p5), .val (.long m1), .second, .val (.long x1), .second, .val (.long m2), .second, .val (.long x2), .second, .val (.ref ba), .val (.ref bb), .val (.int ex), .val (.int kv), .unset] [(.int (2 : Int32)), (.int kv)])
    by_cases hk2 : kv = (2 : Int32)
    · refine own_go (fun _ k => XS.icmpNo Xz23.here hx rfl (hb hby at_135) rfl (teq hk2).2 k) ?_
      show own_Go _ _ _ _ Tz23 (mkF m 138 #[.val (.long q1), .second, .val (.long q2), .second, .val (.long q3), .second, .val (.long q4), .second, .val (.int p5), .val (.long m1), .second, .val (.long x1), .second, .val (.long m2), .second, .val (.long x2), .second, .val (.ref ba), .val (.ref bb), .val (.int ex), .val (.int kv), .unset] [])
      refine own_go (fun _ k => XS.lload Xz23.here hx rfl (hb hby at_138) rfl k) ?_
      show own_Go _ _ _ _ Tz23 (mkF m 140 #[.val (.long q1), .second, .val (.long q2), .second, .val (.long q3), .second, .val (.long q4), .second, .val (.int p5), .val (.long m1), .second, .val (.long x1), .second, .val (.long m2), .second, .val (.long x2), .second, .val (.ref ba), .val (.ref bb), .val (.int ex), .val (.int kv), .unset] [(.long m1)])
      obtain ⟨vz25, Tz25, Lz25, Xz25, hQz25, stz25⟩ := own_callS Xz23 hx hZ hown (hw _ (List.mem_of_getElem? (i := 22) rfl)) (hw _ (List.mem_of_getElem? (i := 23) rfl)) (hw _ (List.mem_of_getElem? (i := 24) rfl)) (hw _ (List.mem_of_getElem? (i := 25) rfl)) (by decide) rfl (own_rm4 l Z a0 hw [] m1 Tz23.heap n0 ca cc O Sc A hsz hel) (W := 0) (by decide) (by decide) (by decide) (by decide) own_pd4 rfl (g := (mkF m 140 #[.val (.long q1), .second, .val (.long q2), .second, .val (.long q3), .second, .val (.long q4), .second, .val (.int p5), .val (.long m1), .second, .val (.long x1), .second, .val (.long m2), .second, .val (.long x2), .second, .val (.ref ba), .val (.ref bb), .val (.int ex), .val (.int kv), .unset] [(.long m1)])) (argsL := [(.long m1)]) (rest := []) rfl (by rw [hml]; rfl) rfl (by show 2 * 0 + _ ≤ _; exact Nat.le_of_eq rfl) (hb hby at_140)
      obtain ⟨wz, rfl, Nz25q, Kz25, c1_z25⟩ := hQz25
      have Nz25 := Fr.app Nz23 Nz25q
      refine own_go stz25 ?_
      have O := O.keep Kz25 all0
      have E_ba := E_ba.keep Kz25
      have F_min_ba := F_min_ba.keep Kz25 nin0
      have F_max_ba := F_max_ba.keep Kz25 nin0
      have E_bb := E_bb.keep Kz25
      have F_min_bb := F_min_bb.keep Kz25 nin0
      have F_max_bb := F_max_bb.keep Kz25 nin0
      have E_wz := c1_z25
      show own_Go _ _ _ _ Tz25 (mkF m 143 #[.val (.long q1), .second, .val (.long q2), .second, .val (.long q3), .second, .val (.long q4), .second, .val (.int p5), .val (.long m1), .second, .val (.long x1), .second, .val (.long m2), .second, .val (.long x2), .second, .val (.ref ba), .val (.ref bb), .val (.int ex), .val (.int kv), .unset] [(.ref wz)])
      refine own_go (fun _ k => XS.astore Xz25.here hx rfl (hb hby at_143) rfl rfl (l' := #[.val (.long q1), .second, .val (.long q2), .second, .val (.long q3), .second, .val (.long q4), .second, .val (.int p5), .val (.long m1), .second, .val (.long x1), .second, .val (.long m2), .second, .val (.long x2), .second, .val (.ref ba), .val (.ref bb), .val (.int ex), .val (.int kv), .val (.ref wz)]) rfl k) ?_
      show own_Go _ _ _ _ Tz25 (mkF m 145 #[.val (.long q1), .second, .val (.long q2), .second, .val (.long q3), .second, .val (.long q4), .second, .val (.int p5), .val (.long m1), .second, .val (.long x1), .second, .val (.long m2), .second, .val (.long x2), .second, .val (.ref ba), .val (.ref bb), .val (.int ex), .val (.int kv), .val (.ref wz)] [])
      refine own_go (fun _ k => XS.aload Xz25.here hx rfl (hb hby at_145) rfl rfl k) ?_
      show own_Go _ _ _ _ Tz25 (mkF m 147 #[.val (.long q1), .second, .val (.long q2), .second, .val (.long q3), .second, .val (.long q4), .second, .val (.int p5), .val (.long m1), .second, .val (.long x1), .second, .val (.long m2), .second, .val (.long x2), .second, .val (.ref ba), .val (.ref bb), .val (.int ex), .val (.int kv), .val (.ref wz)] [(.ref ba)])
      refine own_go (fun _ k => XS.aload Xz25.here hx rfl (hb hby at_147) rfl rfl k) ?_
      show own_Go _ _ _ _ Tz25 (mkF m 149 #[.val (.long q1), .second, .val (.long q2), .second, .val (.long q3), .second, .val (.long q4), .second, .val (.int p5), .val (.long m1), .second, .val (.long x1), .second, .val (.long m2), .second, .val (.long x2), .second, .val (.ref ba), .val (.ref bb), .val (.int ex), .val (.int kv), .val (.ref wz)] [(.ref wz), (.ref ba)])
      obtain ⟨vz26, Tz26, Lz26, Xz26, hQz26, stz26⟩ := own_callV Xz25 hx hZ hown (hw _ (List.mem_of_getElem? (i := 15) rfl)) (hw _ (List.mem_of_getElem? (i := 16) rfl)) (hw _ (List.mem_of_getElem? (i := 18) rfl)) (hw _ (List.mem_of_getElem? (i := 17) rfl)) (hw _ (List.mem_of_getElem? (i := 3) rfl)) (hw _ (List.mem_of_getElem? (i := 19) rfl)) (by decide) rfl E_ba (own_rmeqX l Z a0 hw [] ba wz Tz25.heap n0 E_wz) (W := 0) (by decide) (by decide) (by decide) (by decide) own_pd3 rfl (g := (mkF m 149 #[.val (.long q1), .second, .val (.long q2), .second, .val (.long q3), .second, .val (.long q4), .second, .val (.int p5), .val (.long m1), .second, .val (.long x1), .second, .val (.long m2), .second, .val (.long x2), .second, .val (.ref ba), .val (.ref bb), .val (.int ex), .val (.int kv), .val (.ref wz)] [(.ref wz), (.ref ba)])) (argsL := [(.ref wz)]) (rest := []) rfl (by rw [hml]; rfl) rfl (by show 2 * 0 + _ ≤ _; exact Nat.le_of_eq rfl) (hb hby at_149)
      obtain ⟨rfl, Nz26q, ehz26⟩ := hQz26
      have Nz26 := Fr.app Nz25 Nz26q
      refine own_go stz26 ?_
      show own_Go _ _ _ _ Tz26 (mkF m 152 #[.val (.long q1), .second, .val (.long q2), .second, .val (.long q3), .second, .val (.long q4), .second, .val (.int p5), .val (.long m1), .second, .val (.long x1), .second, .val (.long m2), .second, .val (.long x2), .second, .val (.ref ba), .val (.ref bb), .val (.int ex), .val (.int kv), .val (.ref wz)] [(.int (0 : Int32))])
      refine own_go (fun _ k => XS.ifNo Xz26.here hx rfl (hb hby at_152) rfl ((if0 _ _).trans (teq (by decide : (0 : Int32) = (0 : Int32))).2) k) ?_
      show own_Go _ _ _ _ Tz26 (mkF m 155 #[.val (.long q1), .second, .val (.long q2), .second, .val (.long q3), .second, .val (.long q4), .second, .val (.int p5), .val (.long m1), .second, .val (.long x1), .second, .val (.long m2), .second, .val (.long x2), .second, .val (.ref ba), .val (.ref bb), .val (.int ex), .val (.int kv), .val (.ref wz)] [])
      refine own_go (fun _ k => XS.iconst Xz26.here hx rfl (hb hby at_155) k) ?_
      show own_Go _ _ _ _ Tz26 (mkF m 156 #[.val (.long q1), .second, .val (.long q2), .second, .val (.long q3), .second, .val (.long q4), .second, .val (.int p5), .val (.long m1), .second, .val (.long x1), .second, .val (.long m2), .second, .val (.long x2), .second, .val (.ref ba), .val (.ref bb), .val (.int ex), .val (.int kv), .val (.ref wz)] [(.int (1 : Int32))])
      refine own_go (fun _ k => XS.goto Xz26.here hx rfl (pc0 := 156) (pc' := 160) rfl (hb hby at_156) (by decide) (by decide) k) ?_
      show own_Go _ _ _ _ Tz26 (mkF m 160 #[.val (.long q1), .second, .val (.long q2), .second, .val (.long q3), .second, .val (.long q4), .second, .val (.int p5), .val (.long m1), .second, .val (.long x1), .second, .val (.long m2), .second, .val (.long x2), .second, .val (.ref ba), .val (.ref bb), .val (.int ex), .val (.int kv), .val (.ref wz)] [(.int (1 : Int32))])
      exact own_end Xz26 hlk (v := (some (.int (1 : Int32)))) (fun h => by rw [hret] at h; cases h) (fun fs hr => retN Xz26 hx (t := .boolean) hret (by simp) (hb hby at_160) hr) (by rw [ehz26]; exact ⟨rfl, Nz26⟩) (by decide) (by decide)
    · refine own_go (fun _ k => XS.icmpYes Xz23.here hx rfl (pc0 := 135) (pc' := 161) rfl (hb hby at_135) rfl (feq hk2).2 (by decide) (by decide) k) ?_
      show own_Go _ _ _ _ Tz23 (mkF m 161 #[.val (.long q1), .second, .val (.long q2), .second, .val (.long q3), .second, .val (.long q4), .second, .val (.int p5), .val (.long m1), .second, .val (.long x1), .second, .val (.long m2), .second, .val (.long x2), .second, .val (.ref ba), .val (.ref bb), .val (.int ex), .val (.int kv), .unset] [])
      refine own_go (fun _ k => XS.aload Xz23.here hx rfl (hb hby at_161) rfl rfl k) ?_
      show own_Go _ _ _ _ Tz23 (mkF m 163 #[.val (.long q1), .second, .val (.long q2), .second, .val (.long q3), .second, .val (.long q4), .second, .val (.int p5), .val (.long m1), .second, .val (.long x1), .second, .val (.long m2), .second, .val (.long x2), .second, .val (.ref ba), .val (.ref bb), .val (.int ex), .val (.int kv), .unset] [(.ref ba)])
      refine own_go (fun _ k => XS.aload Xz23.here hx rfl (hb hby at_163) rfl rfl k) ?_
      show own_Go _ _ _ _ Tz23 (mkF m 165 #[.val (.long q1), .second, .val (.long q2), .second, .val (.long q3), .second, .val (.long q4), .second, .val (.int p5), .val (.long m1), .second, .val (.long x1), .second, .val (.long m2), .second, .val (.long x2), .second, .val (.ref ba), .val (.ref bb), .val (.int ex), .val (.int kv), .unset] [(.ref bb), (.ref ba)])
      obtain ⟨vz27, Tz27, Lz27, Xz27, hQz27, stz27⟩ := own_callV Xz23 hx hZ hown (hw _ (List.mem_of_getElem? (i := 15) rfl)) (hw _ (List.mem_of_getElem? (i := 16) rfl)) (hw _ (List.mem_of_getElem? (i := 18) rfl)) (hw _ (List.mem_of_getElem? (i := 17) rfl)) (hw _ (List.mem_of_getElem? (i := 3) rfl)) (hw _ (List.mem_of_getElem? (i := 19) rfl)) (by decide) rfl E_ba (own_rmeqP l Z a0 hw [] ba bb Tz23.heap n0 m1 x1 m2 x2 ex hex.1 E_bb F_min_ba F_max_ba F_min_bb F_max_bb) (W := 0) (by decide) (by decide) (by decide) (by decide) own_pd3 rfl (g := (mkF m 165 #[.val (.long q1), .second, .val (.long q2), .second, .val (.long q3), .second, .val (.long q4), .second, .val (.int p5), .val (.long m1), .second, .val (.long x1), .second, .val (.long m2), .second, .val (.long x2), .second, .val (.ref ba), .val (.ref bb), .val (.int ex), .val (.int kv), .unset] [(.ref bb), (.ref ba)])) (argsL := [(.ref bb)]) (rest := []) rfl (by rw [hml]; rfl) rfl (by show 2 * 0 + _ ≤ _; exact Nat.le_of_eq rfl) (hb hby at_165)
      obtain ⟨rfl, Nz27q, ehz27⟩ := hQz27
      have Nz27 := Fr.app Nz23 Nz27q
      refine own_go stz27 ?_
      show own_Go _ _ _ _ Tz27 (mkF m 168 #[.val (.long q1), .second, .val (.long q2), .second, .val (.long q3), .second, .val (.long q4), .second, .val (.int p5), .val (.long m1), .second, .val (.long x1), .second, .val (.long m2), .second, .val (.long x2), .second, .val (.ref ba), .val (.ref bb), .val (.int ex), .val (.int kv), .unset] [(.int ex)])
      refine own_go (fun _ k => XS.iload Xz27.here hx rfl (hb hby at_168) rfl k) ?_
      show own_Go _ _ _ _ Tz27 (mkF m 170 #[.val (.long q1), .second, .val (.long q2), .second, .val (.long q3), .second, .val (.long q4), .second, .val (.int p5), .val (.long m1), .second, .val (.long x1), .second, .val (.long m2), .second, .val (.long x2), .second, .val (.ref ba), .val (.ref bb), .val (.int ex), .val (.int kv), .unset] [(.int ex), (.int ex)])
      refine own_go (fun _ k => XS.icmpNo Xz27.here hx rfl (hb hby at_170) rfl (teq rfl).2 k) ?_
      show own_Go _ _ _ _ Tz27 (mkF m 173 #[.val (.long q1), .second, .val (.long q2), .second, .val (.long q3), .second, .val (.long q4), .second, .val (.int p5), .val (.long m1), .second, .val (.long x1), .second, .val (.long m2), .second, .val (.long x2), .second, .val (.ref ba), .val (.ref bb), .val (.int ex), .val (.int kv), .unset] [])
      refine own_go (fun _ k => XS.aload Xz27.here hx rfl (hb hby at_173) rfl rfl k) ?_
      show own_Go _ _ _ _ Tz27 (mkF m 175 #[.val (.long q1), .second, .val (.long q2), .second, .val (.long q3), .second, .val (.long q4), .second, .val (.int p5), .val (.long m1), .second, .val (.long x1), .second, .val (.long m2), .second, .val (.long x2), .second, .val (.ref ba), .val (.ref bb), .val (.int ex), .val (.int kv), .unset] [(.ref bb)])
      refine own_go (fun _ k => XS.aload Xz27.here hx rfl (hb hby at_175) rfl rfl k) ?_
      show own_Go _ _ _ _ Tz27 (mkF m 177 #[.val (.long q1), .second, .val (.long q2), .second, .val (.long q3), .second, .val (.long q4), .second, .val (.int p5), .val (.long m1), .second, .val (.long x1), .second, .val (.long m2), .second, .val (.long x2), .second, .val (.ref ba), .val (.ref bb), .val (.int ex), .val (.int kv), .unset] [(.ref ba), (.ref bb)])
      obtain ⟨vz28, Tz28, Lz28, Xz28, hQz28, stz28⟩ := own_callV Xz27 hx hZ hown (hw _ (List.mem_of_getElem? (i := 15) rfl)) (hw _ (List.mem_of_getElem? (i := 16) rfl)) (hw _ (List.mem_of_getElem? (i := 18) rfl)) (hw _ (List.mem_of_getElem? (i := 17) rfl)) (hw _ (List.mem_of_getElem? (i := 3) rfl)) (hw _ (List.mem_of_getElem? (i := 19) rfl)) (by decide) ehz27 E_bb (own_rmeqP l Z a0 hw [] bb ba Tz23.heap n0 m2 x2 m1 x1 ex hex.2 E_ba F_min_bb F_max_bb F_min_ba F_max_ba) (W := 0) (by decide) (by decide) (by decide) (by decide) own_pd3 rfl (g := (mkF m 177 #[.val (.long q1), .second, .val (.long q2), .second, .val (.long q3), .second, .val (.long q4), .second, .val (.int p5), .val (.long m1), .second, .val (.long x1), .second, .val (.long m2), .second, .val (.long x2), .second, .val (.ref ba), .val (.ref bb), .val (.int ex), .val (.int kv), .unset] [(.ref ba), (.ref bb)])) (argsL := [(.ref ba)]) (rest := []) rfl (by rw [hml]; rfl) rfl (by show 2 * 0 + _ ≤ _; exact Nat.le_of_eq rfl) (hb hby at_177)
      obtain ⟨rfl, Nz28q, ehz28⟩ := hQz28
      have Nz28 := Fr.app Nz27 Nz28q
      refine own_go stz28 ?_
      show own_Go _ _ _ _ Tz28 (mkF m 180 #[.val (.long q1), .second, .val (.long q2), .second, .val (.long q3), .second, .val (.long q4), .second, .val (.int p5), .val (.long m1), .second, .val (.long x1), .second, .val (.long m2), .second, .val (.long x2), .second, .val (.ref ba), .val (.ref bb), .val (.int ex), .val (.int kv), .unset] [(.int ex)])
      refine own_go (fun _ k => XS.iload Xz28.here hx rfl (hb hby at_180) rfl k) ?_
      show own_Go _ _ _ _ Tz28 (mkF m 182 #[.val (.long q1), .second, .val (.long q2), .second, .val (.long q3), .second, .val (.long q4), .second, .val (.int p5), .val (.long m1), .second, .val (.long x1), .second, .val (.long m2), .second, .val (.long x2), .second, .val (.ref ba), .val (.ref bb), .val (.int ex), .val (.int kv), .unset] [(.int ex), (.int ex)])
      refine own_go (fun _ k => XS.icmpNo Xz28.here hx rfl (hb hby at_182) rfl (teq rfl).2 k) ?_
      show own_Go _ _ _ _ Tz28 (mkF m 185 #[.val (.long q1), .second, .val (.long q2), .second, .val (.long q3), .second, .val (.long q4), .second, .val (.int p5), .val (.long m1), .second, .val (.long x1), .second, .val (.long m2), .second, .val (.long x2), .second, .val (.ref ba), .val (.ref bb), .val (.int ex), .val (.int kv), .unset] [])
      refine own_go (fun _ k => XS.aload Xz28.here hx rfl (hb hby at_185) rfl rfl k) ?_
      show own_Go _ _ _ _ Tz28 (mkF m 187 #[.val (.long q1), .second, .val (.long q2), .second, .val (.long q3), .second, .val (.long q4), .second, .val (.int p5), .val (.long m1), .second, .val (.long x1), .second, .val (.long m2), .second, .val (.long x2), .second, .val (.ref ba), .val (.ref bb), .val (.int ex), .val (.int kv), .unset] [(.ref ba)])
      refine own_go (fun _ k => XS.aload Xz28.here hx rfl (hb hby at_187) rfl rfl k) ?_
      show own_Go _ _ _ _ Tz28 (mkF m 189 #[.val (.long q1), .second, .val (.long q2), .second, .val (.long q3), .second, .val (.long q4), .second, .val (.int p5), .val (.long m1), .second, .val (.long x1), .second, .val (.long m2), .second, .val (.long x2), .second, .val (.ref ba), .val (.ref bb), .val (.int ex), .val (.int kv), .unset] [(.ref ba), (.ref ba)])
      obtain ⟨vz29, Tz29, Lz29, Xz29, hQz29, stz29⟩ := own_callV Xz28 hx hZ hown (hw _ (List.mem_of_getElem? (i := 15) rfl)) (hw _ (List.mem_of_getElem? (i := 16) rfl)) (hw _ (List.mem_of_getElem? (i := 18) rfl)) (hw _ (List.mem_of_getElem? (i := 17) rfl)) (hw _ (List.mem_of_getElem? (i := 3) rfl)) (hw _ (List.mem_of_getElem? (i := 19) rfl)) (by decide) ehz28 E_ba (own_rmeqP l Z a0 hw [] ba ba Tz23.heap n0 m1 x1 m1 x1 (1 : Int32) (if_pos ⟨rfl, rfl⟩) E_ba F_min_ba F_max_ba F_min_ba F_max_ba) (W := 0) (by decide) (by decide) (by decide) (by decide) own_pd3 rfl (g := (mkF m 189 #[.val (.long q1), .second, .val (.long q2), .second, .val (.long q3), .second, .val (.long q4), .second, .val (.int p5), .val (.long m1), .second, .val (.long x1), .second, .val (.long m2), .second, .val (.long x2), .second, .val (.ref ba), .val (.ref bb), .val (.int ex), .val (.int kv), .unset] [(.ref ba), (.ref ba)])) (argsL := [(.ref ba)]) (rest := []) rfl (by rw [hml]; rfl) rfl (by show 2 * 0 + _ ≤ _; exact Nat.le_of_eq rfl) (hb hby at_189)
      obtain ⟨rfl, Nz29q, ehz29⟩ := hQz29
      have Nz29 := Fr.app Nz28 Nz29q
      refine own_go stz29 ?_
      show own_Go _ _ _ _ Tz29 (mkF m 192 #[.val (.long q1), .second, .val (.long q2), .second, .val (.long q3), .second, .val (.long q4), .second, .val (.int p5), .val (.long m1), .second, .val (.long x1), .second, .val (.long m2), .second, .val (.long x2), .second, .val (.ref ba), .val (.ref bb), .val (.int ex), .val (.int kv), .unset] [(.int (1 : Int32))])
      refine own_go (fun _ k => XS.ifNo Xz29.here hx rfl (hb hby at_192) rfl ((if0 _ _).trans (feq (by decide : ¬ ((1 : Int32) = (0 : Int32)))).1) k) ?_
      show own_Go _ _ _ _ Tz29 (mkF m 195 #[.val (.long q1), .second, .val (.long q2), .second, .val (.long q3), .second, .val (.long q4), .second, .val (.int p5), .val (.long m1), .second, .val (.long x1), .second, .val (.long m2), .second, .val (.long x2), .second, .val (.ref ba), .val (.ref bb), .val (.int ex), .val (.int kv), .unset] [])
      refine own_go (fun _ k => XS.iconst Xz29.here hx rfl (hb hby at_195) k) ?_
      show own_Go _ _ _ _ Tz29 (mkF m 196 #[.val (.long q1), .second, .val (.long q2), .second, .val (.long q3), .second, .val (.long q4), .second, .val (.int p5), .val (.long m1), .second, .val (.long x1), .second, .val (.long m2), .second, .val (.long x2), .second, .val (.ref ba), .val (.ref bb), .val (.int ex), .val (.int kv), .unset] [(.int (1 : Int32))])
      refine own_go (fun _ k => XS.goto Xz29.here hx rfl (pc0 := 196) (pc' := 200) rfl (hb hby at_196) (by decide) (by decide) k) ?_
      show own_Go _ _ _ _ Tz29 (mkF m 200 #[.val (.long q1), .second, .val (.long q2), .second, .val (.long q3), .second, .val (.long q4), .second, .val (.int p5), .val (.long m1), .second, .val (.long x1), .second, .val (.long m2), .second, .val (.long x2), .second, .val (.ref ba), .val (.ref bb), .val (.int ex), .val (.int kv), .unset] [(.int (1 : Int32))])
      exact own_end Xz29 hlk (v := (some (.int (1 : Int32)))) (fun h => by rw [hret] at h; cases h) (fun fs hr => retN Xz29 hx (t := .boolean) hret (by simp) (hb hby at_200) hr) (by rw [ehz29]; exact ⟨rfl, Nz29⟩) (by decide) (by decide)
set_option maxRecDepth 65536 in
set_option maxHeartbeats 40000000 in
theorem own_comes {Post : Tables → Env → Array Value → State → Outcome → State → Prop} (hpost : ∀ tb e args s v u, (limb_1_1.after args s (.returned v) u = true ∧ limb_1_2.after args s (.returned v) u = true ∧ True) → FrameEnd s (.returned v) u (Jvm.fieldLocs frame_1_writes args s ++ Jvm.arrayLocs frame_1_arrays args s ++ Jvm.staticLocs frame_1_statics s) 16 128 → Post tb e args s (.returned v) u) :
    ArmFor flags0 classFile x code maxLocals ret World_1 tables_1 room_1 Calls_1 rest_1 Pre_1 Post := by
  intro l hfl _ _ p e ha hc hk s m args below hf hA hF happ hP
  obtain ⟨hcalls, hrest, hpre⟩ := hP
  obtain ⟨-, -, -, hnamed, -, -, -, hat⟩ := (Spec.applies_iff hf).mp happ
  obtain ⟨hg, hn⟩ := and_e (Cond.before_iff.mp (show (Jvm.Cond.and given_1 narrow_1).before args s = true from hpre))
  obtain ⟨g1, g2⟩ := and_e hg
  obtain ⟨g3, g4⟩ := and_e g2
  obtain ⟨g5, g6⟩ := and_e g4
  obtain ⟨g7, g8⟩ := and_e g6
  obtain ⟨g9, g10⟩ := and_e g8
  obtain ⟨w0, w1, w2, w3, w4, rfl⟩ : ∃ w0 w1 w2 w3 w4 : Value, args = #[w0, w1, w2, w3, w4] := by
    have hs : args.size = 5 := by simpa [Cond.value, given_1] using g1
    obtain ⟨L⟩ := args
    match L, hs with
    | [w0, w1, w2, w3, w4], _ => exact ⟨w0, w1, w2, w3, w4, rfl⟩
  have hw := fun d (hd : d ∈ tables_1) => atoms_spec (ws := Jvm.Cond.code x code maxLocals ret :: tables_1) hat d (List.mem_cons_of_mem _ hd)
  have hfit : Fit s := fun {y c} hc i hi => by
    obtain ⟨ha, rfl⟩ := Array.getElem?_eq_some_iff.mp hc
    have q := List.all_eq_true.mp ((Array.all_eq_true_iff_forall_mem.mp hF) _ (Array.getElem_mem ha)) i (List.mem_range.mpr hi)
    simpa [Array.getElem?_eq_getElem hi] using q
  obtain ⟨hsets, hown0⟩ := atoms_of _ (rest_1_c_eq ▸ (show rest_1_c.before _ s = true from hrest))
  have hr0 := Cond.before_iff.mp hown0
  obtain ⟨i0, ei0⟩ := isL_v g3
  obtain rfl : w0 = (.long i0) := Option.some.inj ei0
  obtain ⟨i1, ei1⟩ := isL_v g5
  obtain rfl : w1 = (.long i1) := Option.some.inj ei1
  obtain ⟨i2, ei2⟩ := isL_v g7
  obtain rfl : w2 = (.long i2) := Option.some.inj ei2
  obtain ⟨i3, ei3⟩ := isL_v g9
  obtain rfl : w3 = (.long i3) := Option.some.inj ei3
  obtain ⟨i4, ei4⟩ := is_v g10
  obtain rfl : w4 = (.int i4) := Option.some.inj ei4
  obtain ⟨ca, cc, evc, A, hsz, hel⟩ := own_cache (hsets _ (List.mem_of_getElem? (i := 2) rfl)) (hsets _ (List.mem_of_getElem? (i := 4) rfl)) (hsets _ (List.mem_of_getElem? (i := 5) rfl))
  have Sc := Sta.start evc (Or.inr ⟨(hw _ (List.mem_of_getElem? (i := 47) rfl)), (hsets _ (List.mem_of_getElem? (i := 0) rfl))⟩)
  obtain ⟨n, o, h1, h2, h3, _, L, rfl, ⟨rfl, N⟩, hq⟩ := own_rm0 l s _ hw tables_1 i0 i1 i2 i3 i4 s.heap s.heap.size ca cc (Old.start s) Sc A hsz hel p e ha hc hk s m _ below hf ((Spec.applies_iff_loose hf).mp happ).1 ⟨rfl, State.Warmed39.refl s, rfl⟩ trivial
  refine ⟨n, _, h1, h2, h3, hpost _ _ _ _ _ _ ⟨Cond.after_iff.mpr rfl, Cond.after_iff.mpr (eq_i res_at (Term.int_eval (1)) rfl), trivial⟩ ⟨hq.1, hq.2.1, (hq.2.2.sift fun y hy => Or.inr (N y hy)).mono (by decide) (by decide)⟩⟩
theorem main_1_1 : Claimed_1_1 := own_comes fun _ _ _ _ _ _ h hF => ⟨h.1, hF⟩
theorem main_1_2 : Claimed_1_2 := own_comes fun _ _ _ _ _ _ h hF => ⟨h.2.1, hF⟩
end Jvm.Pilot.@@N@@
namespace Jvm.Pilot.@@N@@
open Jvm Jvm.ClassFile Sem Op Lib Jvm.Free Jvm.Stand Jvm.Pilot.@@N@@.Jvm.D
/-! MADE BY PROGRAM (witnessworld.py) out of the Statement's table words and the real class files: 16 classes; the members and pool entries that the words name. The judged class is class 1, her method 1. -/
namespace start1
open Jvm.ClassFile
def u (s : String) : CpInfo := .utf8 (stringToUtf16 s)
/-- a pool by its gaps: so many unusable entries, then the entry; so many at the end -/
def gap : Nat → List CpInfo → List CpInfo
  | 0, r => r
  | n + 1, r => .unusable :: gap n r
def poolList (es : List (Nat × CpInfo)) (last : Nat) : List CpInfo := es.foldr (fun e r => gap e.1 (e.2 :: r)) (gap last [])
def pool (es : List (Nat × CpInfo)) (last : Nat) : Array CpInfo := ⟨poolList es last⟩
def fileOf (pool : Array CpInfo) (this : Nat) (attrs : Array Attribute := #[]) (ms : Array MethodInfo := #[]) (fl : Nat := 33) (sup : Nat := 0) (ifs : Array Nat := #[]) (fds : Array FieldInfo := #[]) : ClassFile where
  minorVersion := 0
  majorVersion := 65
  constantPool := pool
  accessFlags := fl
  thisClass := this
  superClass := sup
  interfaces := ifs
  fields := fds
  methods := ms
  attributes := attrs
def plain (name : String) (sup : Option ClassId) : Class where
  name := name
  kind := .ordinary
  loader := none
  accessFlags := 33
  super := sup
  interfaces := #[]
  cf := none
  fields := #[]
  methods := #[]
  instanceTypes := #[]
  staticTypes := #[]
  resolved := #[]
  callSites := []
  init := .initialized
  statics := none
  mirror := none

def pool0 : Array CpInfo := pool [(5, u "<init>"), (0, u "()V"), (1, .class_ 10), (1, u "java/lang/Object")] 113

def k0c0 : Code := { maxStack := 0, maxLocals := 1, code := object_method_1_code, exceptionTable := #[], attributes := #[] }
def k0m0 : Method := { name := "<init>", desc := "()V", sig := { parameters := [], returnType := none }, accessFlags := 1, code := some k0c0 }
/-- java/lang/Object -/
def k0 : Class := { plain "java/lang/Object" none with
  accessFlags := 33
  interfaces := #[]
  cf := some (fileOf pool0 8 #[] #[{ accessFlags := 1, nameIndex := 5, descriptorIndex := 6, attributes := #[] }] 33 0 #[] #[])
  fields := #[]
  methods := #[k0m0]
  instanceTypes := #[]
  staticTypes := #[]
  resolved := Array.replicate 124 none
  statics := none }

def pool1 : Array CpInfo := pool [(2, .class_ 4), (1, u "java/lang/Object"), (0, u "<init>"), (0, u "()V"), (0, .class_ 8), (0, u "com/example/bound_bundle/boundbundle/format/SdkRangeEqualsPinLaw"), (0, .long 4294967295), (1, .class_ 12), (0, u "com/example/bound_bundle/boundbundle/format/SdkRange"), (0, .methodref 11 14), (0, .nameAndType 5 15), (0, u "(JJ)V"), (0, .methodref 11 17), (0, .nameAndType 18 19), (0, u "equals"), (0, u "(Ljava/lang/Object;)Z"), (0, .methodref 21 22), (0, .class_ 23), (0, .nameAndType 24 25), (0, u "java/lang/Long"), (0, u "valueOf"), (0, u "(J)Ljava/lang/Long;"), (0, u "MASK"), (0, u "J"), (3, u "law"), (0, u "(JJJJI)Z")] 3

def k1m0 : Method := { name := "<init>", desc := "()V", sig := { parameters := [], returnType := none }, accessFlags := 1, code := none }
def k1c1 : Code := { maxStack := 6, maxLocals := 22, code := code, exceptionTable := #[], attributes := #[] }
def k1m1 : Method := { name := "law", desc := "(JJJJI)Z", sig := { parameters := [.long, .long, .long, .long, .int], returnType := some .boolean }, accessFlags := 9, code := some k1c1 }
/-- com/example/bound_bundle/boundbundle/format/SdkRangeEqualsPinLaw -/
def k1 : Class := { plain "com/example/bound_bundle/boundbundle/format/SdkRangeEqualsPinLaw" (some 0) with
  accessFlags := 49
  interfaces := #[]
  cf := some (fileOf pool1 7 #[] #[{ accessFlags := 1, nameIndex := 5, descriptorIndex := 6, attributes := #[] }, { accessFlags := 9, nameIndex := 31, descriptorIndex := 32, attributes := #[] }] 49 2 #[] #[{ accessFlags := 26, nameIndex := 26, descriptorIndex := 27, attributes := #[] }])
  fields := #[{ name := "MASK", type := .long, accessFlags := 26, slot := 0, constantValue := 0 }]
  methods := #[k1m0, k1m1]
  instanceTypes := #[]
  staticTypes := #[.long]
  resolved := Array.replicate 36 none
  statics := none }

def pool2 : Array CpInfo := pool [(3, .methodref 4 5), (0, .class_ 6), (0, .nameAndType 7 8), (0, u "java/lang/Object"), (0, u "<init>"), (0, u "()V"), (0, .class_ 10), (0, u "com/example/bound_bundle/boundbundle/format/SdkRange"), (0, .long 4294967295), (10, .fieldref 9 23), (0, .nameAndType 24 25), (0, u "min"), (0, u "J"), (0, .fieldref 9 27), (0, .nameAndType 28 25), (0, u "max"), (9, u "(JJ)V"), (49, u "(Ljava/lang/Object;)Z"), (45, u "MAX_SDK"), (0, u "I"), (2, u "MAX_UINT32"), (16, u "equals")] 41

def k2c0 : Code := { maxStack := 6, maxLocals := 5, code := prog_120_method_1_code, exceptionTable := #[], attributes := #[] }
def k2m0 : Method := { name := "<init>", desc := "(JJ)V", sig := { parameters := [.long, .long], returnType := none }, accessFlags := 1, code := some k2c0 }
def k2c1 : Code := { maxStack := 4, maxLocals := 3, code := prog_120_method_8_code, exceptionTable := #[], attributes := #[] }
def k2m1 : Method := { name := "equals", desc := "(Ljava/lang/Object;)Z", sig := { parameters := [(.object "java/lang/Object")], returnType := some .boolean }, accessFlags := 1, code := some k2c1 }
/-- com/example/bound_bundle/boundbundle/format/SdkRange -/
def k2 : Class := { plain "com/example/bound_bundle/boundbundle/format/SdkRange" (some 0) with
  accessFlags := 49
  interfaces := #[]
  cf := some (fileOf pool2 9 #[] #[{ accessFlags := 1, nameIndex := 7, descriptorIndex := 38, attributes := #[] }, { accessFlags := 1, nameIndex := 155, descriptorIndex := 88, attributes := #[] }] 49 4 #[] #[{ accessFlags := 25, nameIndex := 134, descriptorIndex := 135, attributes := #[] }, { accessFlags := 26, nameIndex := 138, descriptorIndex := 25, attributes := #[] }, { accessFlags := 18, nameIndex := 24, descriptorIndex := 25, attributes := #[] }, { accessFlags := 18, nameIndex := 28, descriptorIndex := 25, attributes := #[] }])
  fields := #[{ name := "MAX_SDK", type := .int, accessFlags := 25, slot := 0, constantValue := 0 }, { name := "MAX_UINT32", type := .long, accessFlags := 26, slot := 1, constantValue := 0 }, { name := "min", type := .long, accessFlags := 18, slot := 0, constantValue := 0 }, { name := "max", type := .long, accessFlags := 18, slot := 1, constantValue := 0 }]
  methods := #[k2m0, k2m1]
  instanceTypes := #[.long, .long]
  staticTypes := #[.int, .long]
  resolved := Array.replicate 197 none
  statics := none }

def pool3 : Array CpInfo := pool [(1, .class_ 2), (0, u "java/io/Serializable"), (0, .class_ 4), (0, u "java/lang/Object")] 2

/-- java/io/Serializable -/
def k3 : Class := { plain "java/io/Serializable" (some 0) with
  accessFlags := 1537
  interfaces := #[]
  cf := some (fileOf pool3 1 #[] #[] 1537 3 #[] #[])
  fields := #[]
  methods := #[]
  instanceTypes := #[]
  staticTypes := #[]
  resolved := Array.replicate 7 none
  statics := none }

def pool4 : Array CpInfo := pool [(1, .methodref 2 3), (0, .class_ 4), (0, .nameAndType 5 6), (0, u "java/lang/Object"), (0, u "<init>"), (0, u "()V"), (1, .class_ 10), (1, u "java/lang/Number"), (2, .class_ 14), (0, u "java/io/Serializable"), (0, u "serialVersionUID"), (0, u "J")] 20

def k4c0 : Code := { maxStack := 1, maxLocals := 1, code := jdk_18_method_1_code, exceptionTable := #[], attributes := #[] }
def k4m0 : Method := { name := "<init>", desc := "()V", sig := { parameters := [], returnType := none }, accessFlags := 1, code := some k4c0 }
/-- java/lang/Number -/
def k4 : Class := { plain "java/lang/Number" (some 0) with
  accessFlags := 1057
  interfaces := #[3]
  cf := some (fileOf pool4 8 #[] #[{ accessFlags := 1, nameIndex := 5, descriptorIndex := 6, attributes := #[] }] 1057 2 #[13] #[{ accessFlags := 26, nameIndex := 15, descriptorIndex := 16, attributes := #[] }])
  fields := #[{ name := "serialVersionUID", type := .long, accessFlags := 26, slot := 0, constantValue := 0 }]
  methods := #[k4m0]
  instanceTypes := #[]
  staticTypes := #[.long]
  resolved := Array.replicate 37 none
  statics := none }

def pool5 : Array CpInfo := pool [(1, .class_ 2), (0, u "java/lang/Comparable"), (0, .class_ 4), (0, u "java/lang/Object")] 7

/-- java/lang/Comparable -/
def k5 : Class := { plain "java/lang/Comparable" (some 0) with
  accessFlags := 1537
  interfaces := #[]
  cf := some (fileOf pool5 1 #[] #[] 1537 3 #[] #[])
  fields := #[]
  methods := #[]
  instanceTypes := #[]
  staticTypes := #[]
  resolved := Array.replicate 12 none
  statics := none }

def pool6 : Array CpInfo := pool [(1, .class_ 2), (0, u "java/lang/constant/Constable"), (0, .class_ 4), (0, u "java/lang/Object")] 6

/-- java/lang/constant/Constable -/
def k6 : Class := { plain "java/lang/constant/Constable" (some 0) with
  accessFlags := 1537
  interfaces := #[]
  cf := some (fileOf pool6 1 #[] #[] 1537 3 #[] #[])
  fields := #[]
  methods := #[]
  instanceTypes := #[]
  staticTypes := #[]
  resolved := Array.replicate 11 none
  statics := none }

def pool7 : Array CpInfo := pool [(1, .class_ 2), (0, u "java/lang/constant/ConstantDesc"), (0, .class_ 4), (0, u "java/lang/Object")] 32

/-- java/lang/constant/ConstantDesc -/
def k7 : Class := { plain "java/lang/constant/ConstantDesc" (some 0) with
  accessFlags := 1537
  interfaces := #[]
  cf := some (fileOf pool7 1 #[] #[] 1537 3 #[] #[])
  fields := #[]
  methods := #[]
  instanceTypes := #[]
  staticTypes := #[]
  resolved := Array.replicate 37 none
  statics := none }

def pool8 : Array CpInfo := pool [(1, .class_ 2), (0, u "java/lang/Long"), (55, .nameAndType 59 60), (0, u "<init>"), (0, u "()V"), (24, u "valueOf"), (143, u "(J)Ljava/lang/Long;"), (0, .long 18446744073709551488), (1, .long 127), (1, .fieldref 235 236), (0, .class_ 237), (0, .nameAndType 238 239), (0, u "java/lang/Long$LongCache"), (0, u "cache"), (0, u "[Ljava/lang/Long;"), (0, .methodref 1 241), (0, .nameAndType 59 242), (0, u "(J)V"), (27, .methodref 271 58), (0, .class_ 272), (0, u "java/lang/Number"), (0, .fieldref 1 274), (0, .nameAndType 275 276), (0, u "value"), (0, u "J"), (84, u "TYPE"), (0, u "Ljava/lang/Class;"), (0, .class_ 364), (0, u "java/lang/Comparable"), (0, .class_ 366), (0, u "java/lang/constant/Constable"), (0, .class_ 368), (0, u "java/lang/constant/ConstantDesc"), (0, u "MIN_VALUE"), (1, u "MAX_VALUE"), (4, u "SIZE"), (0, u "I"), (1, u "BYTES"), (1, u "serialVersionUID")] 142

def k8c0 : Code := { maxStack := 4, maxLocals := 3, code := jdk_35_method_24_code, exceptionTable := #[], attributes := #[] }
def k8m0 : Method := { name := "valueOf", desc := "(J)Ljava/lang/Long;", sig := { parameters := [.long], returnType := some (.object "java/lang/Long") }, accessFlags := 9, code := some k8c0 }
def k8c1 : Code := { maxStack := 3, maxLocals := 3, code := jdk_35_method_26_code, exceptionTable := #[], attributes := #[] }
def k8m1 : Method := { name := "<init>", desc := "(J)V", sig := { parameters := [.long], returnType := none }, accessFlags := 1, code := some k8c1 }
/-- java/lang/Long -/
def k8 : Class := { plain "java/lang/Long" (some 4) with
  accessFlags := 49
  interfaces := #[5, 6, 7]
  cf := some (fileOf pool8 1 #[.nestMembers #[235]] #[{ accessFlags := 9, nameIndex := 85, descriptorIndex := 229, attributes := #[] }, { accessFlags := 1, nameIndex := 59, descriptorIndex := 242, attributes := #[] }] 49 271 #[363, 365, 367] #[{ accessFlags := 25, nameIndex := 369, descriptorIndex := 276, attributes := #[] }, { accessFlags := 25, nameIndex := 371, descriptorIndex := 276, attributes := #[] }, { accessFlags := 25, nameIndex := 361, descriptorIndex := 362, attributes := #[] }, { accessFlags := 18, nameIndex := 275, descriptorIndex := 276, attributes := #[] }, { accessFlags := 25, nameIndex := 376, descriptorIndex := 377, attributes := #[] }, { accessFlags := 25, nameIndex := 379, descriptorIndex := 377, attributes := #[] }, { accessFlags := 26, nameIndex := 381, descriptorIndex := 276, attributes := #[] }])
  fields := #[{ name := "MIN_VALUE", type := .long, accessFlags := 25, slot := 0, constantValue := 0 }, { name := "MAX_VALUE", type := .long, accessFlags := 25, slot := 1, constantValue := 0 }, { name := "TYPE", type := (.object "java/lang/Class"), accessFlags := 25, slot := 2, constantValue := 0 }, { name := "value", type := .long, accessFlags := 18, slot := 0, constantValue := 0 }, { name := "SIZE", type := .int, accessFlags := 25, slot := 3, constantValue := 0 }, { name := "BYTES", type := .int, accessFlags := 25, slot := 4, constantValue := 0 }, { name := "serialVersionUID", type := .long, accessFlags := 26, slot := 5, constantValue := 0 }]
  methods := #[k8m0, k8m1]
  instanceTypes := #[.long]
  staticTypes := #[.long, .long, (.object "java/lang/Class"), .int, .int, .long]
  resolved := Array.replicate 524 none
  statics := none }

def pool9 : Array CpInfo := pool [(2, .class_ 4), (1, u "java/lang/Object"), (0, u "<init>"), (0, u "()V"), (0, .class_ 8), (0, u "java/lang/Long"), (7, .class_ 18), (1, u "java/lang/Long$LongCache"), (0, u "$assertionsDisabled"), (0, u "Z"), (8, u "archivedCache"), (0, u "[Ljava/lang/Long;"), (7, u "cache")] 24

def k9m0 : Method := { name := "<init>", desc := "()V", sig := { parameters := [], returnType := none }, accessFlags := 2, code := none }
/-- java/lang/Long$LongCache -/
def k9 : Class := { plain "java/lang/Long$LongCache" (some 0) with
  accessFlags := 48
  interfaces := #[]
  cf := some (fileOf pool9 16 #[.nestHost 7] #[{ accessFlags := 2, nameIndex := 5, descriptorIndex := 6, attributes := #[] }] 48 2 #[] #[{ accessFlags := 24, nameIndex := 38, descriptorIndex := 30, attributes := #[] }, { accessFlags := 8, nameIndex := 29, descriptorIndex := 30, attributes := #[] }, { accessFlags := 4120, nameIndex := 19, descriptorIndex := 20, attributes := #[] }])
  fields := #[{ name := "cache", type := (.array (.object "java/lang/Long")), accessFlags := 24, slot := 0, constantValue := 0 }, { name := "archivedCache", type := (.array (.object "java/lang/Long")), accessFlags := 8, slot := 1, constantValue := 0 }, { name := "$assertionsDisabled", type := .boolean, accessFlags := 4120, slot := 2, constantValue := 0 }]
  methods := #[k9m0]
  instanceTypes := #[]
  staticTypes := #[(.array (.object "java/lang/Long")), (.array (.object "java/lang/Long")), .boolean]
  resolved := Array.replicate 63 none
  statics := some 0 }

def pool10 : Array CpInfo := pool [(1, u "java/lang/Cloneable"), (0, .class_ 1), (0, u "java/lang/Object"), (0, .class_ 3)] 3

/-- java/lang/Cloneable -/
def k10 : Class := { plain "java/lang/Cloneable" (some 0) with
  accessFlags := 1537
  interfaces := #[]
  cf := some (fileOf pool10 2 #[] #[] 1537 4 #[] #[])
  fields := #[]
  methods := #[]
  instanceTypes := #[]
  staticTypes := #[]
  resolved := Array.replicate 8 none
  statics := none }

/-- the primitive byte -/
def k11 : Class := { plain "byte" none with kind := .primitive 'B', accessFlags := 0x411 }
/-- [B -/
def k12 : Class := { plain "[B" (some 0) with kind := .array 11 .byte, interfaces := #[10, 3], accessFlags := 1041 }

/-- the primitive int -/
def k13 : Class := { plain "int" none with kind := .primitive 'I', accessFlags := 0x411 }
/-- [I -/
def k14 : Class := { plain "[I" (some 0) with kind := .array 13 .int, interfaces := #[10, 3], accessFlags := 1041 }

/-- [Ljava/lang/Long; -/
def k15 : Class := { plain "[Ljava/lang/Long;" (some 0) with kind := .array 8 (.object "java/lang/Long"), interfaces := #[10, 3], accessFlags := 1041 }

def heap : Heap := #[{ cls := 9, slots := #[.ref 1, .null, .int 0], vm := .statics 9 },
  { cls := 15, slots := #[.ref 2, .ref 3, .ref 4, .ref 5, .ref 6, .ref 7, .ref 8, .ref 9, .ref 10, .ref 11, .ref 12, .ref 13, .ref 14, .ref 15, .ref 16, .ref 17, .ref 18, .ref 19, .ref 20, .ref 21, .ref 22, .ref 23, .ref 24, .ref 25, .ref 26, .ref 27, .ref 28, .ref 29, .ref 30, .ref 31, .ref 32, .ref 33, .ref 34, .ref 35, .ref 36, .ref 37, .ref 38, .ref 39, .ref 40, .ref 41, .ref 42, .ref 43, .ref 44, .ref 45, .ref 46, .ref 47, .ref 48, .ref 49, .ref 50, .ref 51, .ref 52, .ref 53, .ref 54, .ref 55, .ref 56, .ref 57, .ref 58, .ref 59, .ref 60, .ref 61, .ref 62, .ref 63, .ref 64, .ref 65, .ref 66, .ref 67, .ref 68, .ref 69, .ref 70, .ref 71, .ref 72, .ref 73, .ref 74, .ref 75, .ref 76, .ref 77, .ref 78, .ref 79, .ref 80, .ref 81, .ref 82, .ref 83, .ref 84, .ref 85, .ref 86, .ref 87, .ref 88, .ref 89, .ref 90, .ref 91, .ref 92, .ref 93, .ref 94, .ref 95, .ref 96, .ref 97, .ref 98, .ref 99, .ref 100, .ref 101, .ref 102, .ref 103, .ref 104, .ref 105, .ref 106, .ref 107, .ref 108, .ref 109, .ref 110, .ref 111, .ref 112, .ref 113, .ref 114, .ref 115, .ref 116, .ref 117, .ref 118, .ref 119, .ref 120, .ref 121, .ref 122, .ref 123, .ref 124, .ref 125, .ref 126, .ref 127, .ref 128, .ref 129, .ref 130, .ref 131, .ref 132, .ref 133, .ref 134, .ref 135, .ref 136, .ref 137, .ref 138, .ref 139, .ref 140, .ref 141, .ref 142, .ref 143, .ref 144, .ref 145, .ref 146, .ref 147, .ref 148, .ref 149, .ref 150, .ref 151, .ref 152, .ref 153, .ref 154, .ref 155, .ref 156, .ref 157, .ref 158, .ref 159, .ref 160, .ref 161, .ref 162, .ref 163, .ref 164, .ref 165, .ref 166, .ref 167, .ref 168, .ref 169, .ref 170, .ref 171, .ref 172, .ref 173, .ref 174, .ref 175, .ref 176, .ref 177, .ref 178, .ref 179, .ref 180, .ref 181, .ref 182, .ref 183, .ref 184, .ref 185, .ref 186, .ref 187, .ref 188, .ref 189, .ref 190, .ref 191, .ref 192, .ref 193, .ref 194, .ref 195, .ref 196, .ref 197, .ref 198, .ref 199, .ref 200, .ref 201, .ref 202, .ref 203, .ref 204, .ref 205, .ref 206, .ref 207, .ref 208, .ref 209, .ref 210, .ref 211, .ref 212, .ref 213, .ref 214, .ref 215, .ref 216, .ref 217, .ref 218, .ref 219, .ref 220, .ref 221, .ref 222, .ref 223, .ref 224, .ref 225, .ref 226, .ref 227, .ref 228, .ref 229, .ref 230, .ref 231, .ref 232, .ref 233, .ref 234, .ref 235, .ref 236, .ref 237, .ref 238, .ref 239, .ref 240, .ref 241, .ref 242, .ref 243, .ref 244, .ref 245, .ref 246, .ref 247, .ref 248, .ref 249, .ref 250, .ref 251, .ref 252, .ref 253, .ref 254, .ref 255, .ref 256, .ref 257], vm := .none },
  { cls := 8, slots := #[.long (-128)], vm := .none },
  { cls := 8, slots := #[.long (-127)], vm := .none },
  { cls := 8, slots := #[.long (-126)], vm := .none },
  { cls := 8, slots := #[.long (-125)], vm := .none },
  { cls := 8, slots := #[.long (-124)], vm := .none },
  { cls := 8, slots := #[.long (-123)], vm := .none },
  { cls := 8, slots := #[.long (-122)], vm := .none },
  { cls := 8, slots := #[.long (-121)], vm := .none },
  { cls := 8, slots := #[.long (-120)], vm := .none },
  { cls := 8, slots := #[.long (-119)], vm := .none },
  { cls := 8, slots := #[.long (-118)], vm := .none },
  { cls := 8, slots := #[.long (-117)], vm := .none },
  { cls := 8, slots := #[.long (-116)], vm := .none },
  { cls := 8, slots := #[.long (-115)], vm := .none },
  { cls := 8, slots := #[.long (-114)], vm := .none },
  { cls := 8, slots := #[.long (-113)], vm := .none },
  { cls := 8, slots := #[.long (-112)], vm := .none },
  { cls := 8, slots := #[.long (-111)], vm := .none },
  { cls := 8, slots := #[.long (-110)], vm := .none },
  { cls := 8, slots := #[.long (-109)], vm := .none },
  { cls := 8, slots := #[.long (-108)], vm := .none },
  { cls := 8, slots := #[.long (-107)], vm := .none },
  { cls := 8, slots := #[.long (-106)], vm := .none },
  { cls := 8, slots := #[.long (-105)], vm := .none },
  { cls := 8, slots := #[.long (-104)], vm := .none },
  { cls := 8, slots := #[.long (-103)], vm := .none },
  { cls := 8, slots := #[.long (-102)], vm := .none },
  { cls := 8, slots := #[.long (-101)], vm := .none },
  { cls := 8, slots := #[.long (-100)], vm := .none },
  { cls := 8, slots := #[.long (-99)], vm := .none },
  { cls := 8, slots := #[.long (-98)], vm := .none },
  { cls := 8, slots := #[.long (-97)], vm := .none },
  { cls := 8, slots := #[.long (-96)], vm := .none },
  { cls := 8, slots := #[.long (-95)], vm := .none },
  { cls := 8, slots := #[.long (-94)], vm := .none },
  { cls := 8, slots := #[.long (-93)], vm := .none },
  { cls := 8, slots := #[.long (-92)], vm := .none },
  { cls := 8, slots := #[.long (-91)], vm := .none },
  { cls := 8, slots := #[.long (-90)], vm := .none },
  { cls := 8, slots := #[.long (-89)], vm := .none },
  { cls := 8, slots := #[.long (-88)], vm := .none },
  { cls := 8, slots := #[.long (-87)], vm := .none },
  { cls := 8, slots := #[.long (-86)], vm := .none },
  { cls := 8, slots := #[.long (-85)], vm := .none },
  { cls := 8, slots := #[.long (-84)], vm := .none },
  { cls := 8, slots := #[.long (-83)], vm := .none },
  { cls := 8, slots := #[.long (-82)], vm := .none },
  { cls := 8, slots := #[.long (-81)], vm := .none },
  { cls := 8, slots := #[.long (-80)], vm := .none },
  { cls := 8, slots := #[.long (-79)], vm := .none },
  { cls := 8, slots := #[.long (-78)], vm := .none },
  { cls := 8, slots := #[.long (-77)], vm := .none },
  { cls := 8, slots := #[.long (-76)], vm := .none },
  { cls := 8, slots := #[.long (-75)], vm := .none },
  { cls := 8, slots := #[.long (-74)], vm := .none },
  { cls := 8, slots := #[.long (-73)], vm := .none },
  { cls := 8, slots := #[.long (-72)], vm := .none },
  { cls := 8, slots := #[.long (-71)], vm := .none },
  { cls := 8, slots := #[.long (-70)], vm := .none },
  { cls := 8, slots := #[.long (-69)], vm := .none },
  { cls := 8, slots := #[.long (-68)], vm := .none },
  { cls := 8, slots := #[.long (-67)], vm := .none },
  { cls := 8, slots := #[.long (-66)], vm := .none },
  { cls := 8, slots := #[.long (-65)], vm := .none },
  { cls := 8, slots := #[.long (-64)], vm := .none },
  { cls := 8, slots := #[.long (-63)], vm := .none },
  { cls := 8, slots := #[.long (-62)], vm := .none },
  { cls := 8, slots := #[.long (-61)], vm := .none },
  { cls := 8, slots := #[.long (-60)], vm := .none },
  { cls := 8, slots := #[.long (-59)], vm := .none },
  { cls := 8, slots := #[.long (-58)], vm := .none },
  { cls := 8, slots := #[.long (-57)], vm := .none },
  { cls := 8, slots := #[.long (-56)], vm := .none },
  { cls := 8, slots := #[.long (-55)], vm := .none },
  { cls := 8, slots := #[.long (-54)], vm := .none },
  { cls := 8, slots := #[.long (-53)], vm := .none },
  { cls := 8, slots := #[.long (-52)], vm := .none },
  { cls := 8, slots := #[.long (-51)], vm := .none },
  { cls := 8, slots := #[.long (-50)], vm := .none },
  { cls := 8, slots := #[.long (-49)], vm := .none },
  { cls := 8, slots := #[.long (-48)], vm := .none },
  { cls := 8, slots := #[.long (-47)], vm := .none },
  { cls := 8, slots := #[.long (-46)], vm := .none },
  { cls := 8, slots := #[.long (-45)], vm := .none },
  { cls := 8, slots := #[.long (-44)], vm := .none },
  { cls := 8, slots := #[.long (-43)], vm := .none },
  { cls := 8, slots := #[.long (-42)], vm := .none },
  { cls := 8, slots := #[.long (-41)], vm := .none },
  { cls := 8, slots := #[.long (-40)], vm := .none },
  { cls := 8, slots := #[.long (-39)], vm := .none },
  { cls := 8, slots := #[.long (-38)], vm := .none },
  { cls := 8, slots := #[.long (-37)], vm := .none },
  { cls := 8, slots := #[.long (-36)], vm := .none },
  { cls := 8, slots := #[.long (-35)], vm := .none },
  { cls := 8, slots := #[.long (-34)], vm := .none },
  { cls := 8, slots := #[.long (-33)], vm := .none },
  { cls := 8, slots := #[.long (-32)], vm := .none },
  { cls := 8, slots := #[.long (-31)], vm := .none },
  { cls := 8, slots := #[.long (-30)], vm := .none },
  { cls := 8, slots := #[.long (-29)], vm := .none },
  { cls := 8, slots := #[.long (-28)], vm := .none },
  { cls := 8, slots := #[.long (-27)], vm := .none },
  { cls := 8, slots := #[.long (-26)], vm := .none },
  { cls := 8, slots := #[.long (-25)], vm := .none },
  { cls := 8, slots := #[.long (-24)], vm := .none },
  { cls := 8, slots := #[.long (-23)], vm := .none },
  { cls := 8, slots := #[.long (-22)], vm := .none },
  { cls := 8, slots := #[.long (-21)], vm := .none },
  { cls := 8, slots := #[.long (-20)], vm := .none },
  { cls := 8, slots := #[.long (-19)], vm := .none },
  { cls := 8, slots := #[.long (-18)], vm := .none },
  { cls := 8, slots := #[.long (-17)], vm := .none },
  { cls := 8, slots := #[.long (-16)], vm := .none },
  { cls := 8, slots := #[.long (-15)], vm := .none },
  { cls := 8, slots := #[.long (-14)], vm := .none },
  { cls := 8, slots := #[.long (-13)], vm := .none },
  { cls := 8, slots := #[.long (-12)], vm := .none },
  { cls := 8, slots := #[.long (-11)], vm := .none },
  { cls := 8, slots := #[.long (-10)], vm := .none },
  { cls := 8, slots := #[.long (-9)], vm := .none },
  { cls := 8, slots := #[.long (-8)], vm := .none },
  { cls := 8, slots := #[.long (-7)], vm := .none },
  { cls := 8, slots := #[.long (-6)], vm := .none },
  { cls := 8, slots := #[.long (-5)], vm := .none },
  { cls := 8, slots := #[.long (-4)], vm := .none },
  { cls := 8, slots := #[.long (-3)], vm := .none },
  { cls := 8, slots := #[.long (-2)], vm := .none },
  { cls := 8, slots := #[.long (-1)], vm := .none },
  { cls := 8, slots := #[.long 0], vm := .none },
  { cls := 8, slots := #[.long 1], vm := .none },
  { cls := 8, slots := #[.long 2], vm := .none },
  { cls := 8, slots := #[.long 3], vm := .none },
  { cls := 8, slots := #[.long 4], vm := .none },
  { cls := 8, slots := #[.long 5], vm := .none },
  { cls := 8, slots := #[.long 6], vm := .none },
  { cls := 8, slots := #[.long 7], vm := .none },
  { cls := 8, slots := #[.long 8], vm := .none },
  { cls := 8, slots := #[.long 9], vm := .none },
  { cls := 8, slots := #[.long 10], vm := .none },
  { cls := 8, slots := #[.long 11], vm := .none },
  { cls := 8, slots := #[.long 12], vm := .none },
  { cls := 8, slots := #[.long 13], vm := .none },
  { cls := 8, slots := #[.long 14], vm := .none },
  { cls := 8, slots := #[.long 15], vm := .none },
  { cls := 8, slots := #[.long 16], vm := .none },
  { cls := 8, slots := #[.long 17], vm := .none },
  { cls := 8, slots := #[.long 18], vm := .none },
  { cls := 8, slots := #[.long 19], vm := .none },
  { cls := 8, slots := #[.long 20], vm := .none },
  { cls := 8, slots := #[.long 21], vm := .none },
  { cls := 8, slots := #[.long 22], vm := .none },
  { cls := 8, slots := #[.long 23], vm := .none },
  { cls := 8, slots := #[.long 24], vm := .none },
  { cls := 8, slots := #[.long 25], vm := .none },
  { cls := 8, slots := #[.long 26], vm := .none },
  { cls := 8, slots := #[.long 27], vm := .none },
  { cls := 8, slots := #[.long 28], vm := .none },
  { cls := 8, slots := #[.long 29], vm := .none },
  { cls := 8, slots := #[.long 30], vm := .none },
  { cls := 8, slots := #[.long 31], vm := .none },
  { cls := 8, slots := #[.long 32], vm := .none },
  { cls := 8, slots := #[.long 33], vm := .none },
  { cls := 8, slots := #[.long 34], vm := .none },
  { cls := 8, slots := #[.long 35], vm := .none },
  { cls := 8, slots := #[.long 36], vm := .none },
  { cls := 8, slots := #[.long 37], vm := .none },
  { cls := 8, slots := #[.long 38], vm := .none },
  { cls := 8, slots := #[.long 39], vm := .none },
  { cls := 8, slots := #[.long 40], vm := .none },
  { cls := 8, slots := #[.long 41], vm := .none },
  { cls := 8, slots := #[.long 42], vm := .none },
  { cls := 8, slots := #[.long 43], vm := .none },
  { cls := 8, slots := #[.long 44], vm := .none },
  { cls := 8, slots := #[.long 45], vm := .none },
  { cls := 8, slots := #[.long 46], vm := .none },
  { cls := 8, slots := #[.long 47], vm := .none },
  { cls := 8, slots := #[.long 48], vm := .none },
  { cls := 8, slots := #[.long 49], vm := .none },
  { cls := 8, slots := #[.long 50], vm := .none },
  { cls := 8, slots := #[.long 51], vm := .none },
  { cls := 8, slots := #[.long 52], vm := .none },
  { cls := 8, slots := #[.long 53], vm := .none },
  { cls := 8, slots := #[.long 54], vm := .none },
  { cls := 8, slots := #[.long 55], vm := .none },
  { cls := 8, slots := #[.long 56], vm := .none },
  { cls := 8, slots := #[.long 57], vm := .none },
  { cls := 8, slots := #[.long 58], vm := .none },
  { cls := 8, slots := #[.long 59], vm := .none },
  { cls := 8, slots := #[.long 60], vm := .none },
  { cls := 8, slots := #[.long 61], vm := .none },
  { cls := 8, slots := #[.long 62], vm := .none },
  { cls := 8, slots := #[.long 63], vm := .none },
  { cls := 8, slots := #[.long 64], vm := .none },
  { cls := 8, slots := #[.long 65], vm := .none },
  { cls := 8, slots := #[.long 66], vm := .none },
  { cls := 8, slots := #[.long 67], vm := .none },
  { cls := 8, slots := #[.long 68], vm := .none },
  { cls := 8, slots := #[.long 69], vm := .none },
  { cls := 8, slots := #[.long 70], vm := .none },
  { cls := 8, slots := #[.long 71], vm := .none },
  { cls := 8, slots := #[.long 72], vm := .none },
  { cls := 8, slots := #[.long 73], vm := .none },
  { cls := 8, slots := #[.long 74], vm := .none },
  { cls := 8, slots := #[.long 75], vm := .none },
  { cls := 8, slots := #[.long 76], vm := .none },
  { cls := 8, slots := #[.long 77], vm := .none },
  { cls := 8, slots := #[.long 78], vm := .none },
  { cls := 8, slots := #[.long 79], vm := .none },
  { cls := 8, slots := #[.long 80], vm := .none },
  { cls := 8, slots := #[.long 81], vm := .none },
  { cls := 8, slots := #[.long 82], vm := .none },
  { cls := 8, slots := #[.long 83], vm := .none },
  { cls := 8, slots := #[.long 84], vm := .none },
  { cls := 8, slots := #[.long 85], vm := .none },
  { cls := 8, slots := #[.long 86], vm := .none },
  { cls := 8, slots := #[.long 87], vm := .none },
  { cls := 8, slots := #[.long 88], vm := .none },
  { cls := 8, slots := #[.long 89], vm := .none },
  { cls := 8, slots := #[.long 90], vm := .none },
  { cls := 8, slots := #[.long 91], vm := .none },
  { cls := 8, slots := #[.long 92], vm := .none },
  { cls := 8, slots := #[.long 93], vm := .none },
  { cls := 8, slots := #[.long 94], vm := .none },
  { cls := 8, slots := #[.long 95], vm := .none },
  { cls := 8, slots := #[.long 96], vm := .none },
  { cls := 8, slots := #[.long 97], vm := .none },
  { cls := 8, slots := #[.long 98], vm := .none },
  { cls := 8, slots := #[.long 99], vm := .none },
  { cls := 8, slots := #[.long 100], vm := .none },
  { cls := 8, slots := #[.long 101], vm := .none },
  { cls := 8, slots := #[.long 102], vm := .none },
  { cls := 8, slots := #[.long 103], vm := .none },
  { cls := 8, slots := #[.long 104], vm := .none },
  { cls := 8, slots := #[.long 105], vm := .none },
  { cls := 8, slots := #[.long 106], vm := .none },
  { cls := 8, slots := #[.long 107], vm := .none },
  { cls := 8, slots := #[.long 108], vm := .none },
  { cls := 8, slots := #[.long 109], vm := .none },
  { cls := 8, slots := #[.long 110], vm := .none },
  { cls := 8, slots := #[.long 111], vm := .none },
  { cls := 8, slots := #[.long 112], vm := .none },
  { cls := 8, slots := #[.long 113], vm := .none },
  { cls := 8, slots := #[.long 114], vm := .none },
  { cls := 8, slots := #[.long 115], vm := .none },
  { cls := 8, slots := #[.long 116], vm := .none },
  { cls := 8, slots := #[.long 117], vm := .none },
  { cls := 8, slots := #[.long 118], vm := .none },
  { cls := 8, slots := #[.long 119], vm := .none },
  { cls := 8, slots := #[.long 120], vm := .none },
  { cls := 8, slots := #[.long 121], vm := .none },
  { cls := 8, slots := #[.long 122], vm := .none },
  { cls := 8, slots := #[.long 123], vm := .none },
  { cls := 8, slots := #[.long 124], vm := .none },
  { cls := 8, slots := #[.long 125], vm := .none },
  { cls := 8, slots := #[.long 126], vm := .none },
  { cls := 8, slots := #[.long 127], vm := .none }]
def classes : Array Class := #[k0, k1, k2, k3, k4, k5, k6, k7, k8, k9, k10, k11, k12, k13, k14, k15]
def interned : List (Array UInt16 × Addr) := []
def slotsUsed : Nat := 515
def theMethod : MethodId := ⟨1, 1⟩
def args0 : Array Value := #[.long 5, .long 6, .long 7, .long 8, .int 9]
def aboutOver (below : List Frame) : State where
  vm := { classes := classes, interned := interned.toArray }
  heap := heap
  slotsUsed := slotsUsed
  threads := #[{ frames := .invoking theMethod args0 :: below }]
def below0 : List Frame := [.native { method := ⟨0, 0⟩, args := #[] }]
def about1 : State := aboutOver below0
def p0 : Program := .bare "" "" ""
def e0 : Env := launch0.env 0 0 0
theorem w_frames : about1.frames = Frame.invoking theMethod args0 :: below0 := rfl
set_option maxRecDepth 65536 in
theorem w_args : argsFit about1.vm theMethod args0 = true := by decide +kernel
set_option maxRecDepth 65536 in
theorem w_heap : heapFits about1 = true := by decide +kernel
set_option maxRecDepth 65536 in
theorem w_runnable : about1.curStatus? = some .runnable := by decide +kernel
set_option maxRecDepth 65536 in
theorem w_alone : about1.alone = true := by decide +kernel
set_option maxRecDepth 65536 in
theorem w_named : about1.methodNamed? x = some theMethod := by decide +kernel
set_option maxRecDepth 65536 in
theorem w_hears : about1.hears theMethod below0 = true := by decide +kernel
set_option maxRecDepth 65536 in
theorem w_ripe : about1.ripe theMethod args0 below0 = true := by decide +kernel
theorem w_running : about1.status = .running := rfl
set_option maxRecDepth 65536 in
theorem w_room : about1.hasRoom e0.platform room_1 = true :=
  launch0.hasRoom_least _ room_1 (by decide +kernel) (by decide +kernel) (by decide +kernel) (by decide +kernel) (by decide +kernel) (by decide +kernel)
theorem allAtoms_all (ts : List Jvm.Cond) (a : Array Jvm.Value) (st : Jvm.State) : (allAtoms ts).before a st = ts.all (fun c => c.before a st) := by
  induction ts with
  | nil => rfl
  | cons c t ih =>
    show (Jvm.Cond.and c (allAtoms t)).before a st = _
    rw [Jvm.Cond.before_and, ih, List.all_cons]
def words1 : List Jvm.Cond := Jvm.Cond.code x code maxLocals ret :: tables_1
/-- a 'code' word, met by the world's own term for the bytes: nothing is compared byte by byte -/
theorem code_word {y : MethodName} {bytes : ByteArray} {mx : Nat} {rt : Option FieldType} {a : Array Value} {s : State} {m : MethodId} {meth : Method} {c : Code} (h1 : s.methodNamed? y = some m) (h2 : s.vm.method? m = some meth) (h3 : meth.code = some c) (h4 : c.code = bytes)
    (h5 : (c.maxLocals == mx && c.exceptionTable.isEmpty && decide (c.maxStack ≤ mostOperands) && decide (meth.sig.returnType = rt) && !meth.locks && decide (parseMethodDescriptor y.desc = some meth.sig)) = true) : (Jvm.Cond.code y bytes mx rt).before a s = true := by
  simp only [Bool.and_eq_true, beq_iff_eq, Bool.not_eq_true', decide_eq_true_eq] at h5
  obtain ⟨⟨⟨⟨⟨g1, g2⟩, g3⟩, g4⟩, g5⟩, g6⟩ := h5
  simp [Cond.before, Cond.holds, Cond.value, h1, h2, h3, h4, g1, g2, g3, g4, g5, g6]
def isCode : Jvm.Cond → Bool
  | .code _ _ _ _ => true
  | _ => false
theorem all_split {L : List Jvm.Cond} {P : Jvm.Cond → Bool} (h1 : L.all (fun c => isCode c || P c) = true) (h2 : ∀ c ∈ L.filter isCode, P c = true) : L.all P = true := by
  refine List.all_eq_true.mpr fun c hc => ?_
  have h := List.all_eq_true.mp h1 c hc
  rcases Bool.eq_false_or_eq_true (isCode c) with hi | hi
  · exact h2 c (List.mem_filter.mpr ⟨hc, hi⟩)
  · simpa [hi] using h
set_option maxRecDepth 65536 in
theorem w_c0 : (Jvm.Cond.code x code maxLocals ret).before args0 about1 = true := code_word (m := ⟨1, 1⟩) (meth := k1m1) (c := k1c1) (by decide +kernel) rfl rfl rfl (by decide +kernel)
set_option maxRecDepth 65536 in
theorem w_c1 : (Jvm.Cond.code ({ cls := "com/example/bound_bundle/boundbundle/format/SdkRange", name := "<init>", desc := "(JJ)V" } : Jvm.MethodName) prog_120_method_1_code (5 : Nat) (Option.none : Option Jvm.ClassFile.FieldType)).before args0 about1 = true := code_word (m := ⟨2, 0⟩) (meth := k2m0) (c := k2c0) (by decide +kernel) rfl rfl rfl (by decide +kernel)
set_option maxRecDepth 65536 in
theorem w_c2 : (Jvm.Cond.code ({ cls := "java/lang/Object", name := "<init>", desc := "()V" } : Jvm.MethodName) object_method_1_code (1 : Nat) (Option.none : Option Jvm.ClassFile.FieldType)).before args0 about1 = true := code_word (m := ⟨0, 0⟩) (meth := k0m0) (c := k0c0) (by decide +kernel) rfl rfl rfl (by decide +kernel)
set_option maxRecDepth 65536 in
theorem w_c3 : (Jvm.Cond.code ({ cls := "com/example/bound_bundle/boundbundle/format/SdkRange", name := "equals", desc := "(Ljava/lang/Object;)Z" } : Jvm.MethodName) prog_120_method_8_code (3 : Nat) (Option.some Jvm.ClassFile.FieldType.boolean)).before args0 about1 = true := code_word (m := ⟨2, 1⟩) (meth := k2m1) (c := k2c1) (by decide +kernel) rfl rfl rfl (by decide +kernel)
set_option maxRecDepth 65536 in
theorem w_c4 : (Jvm.Cond.code ({ cls := "java/lang/Long", name := "valueOf", desc := "(J)Ljava/lang/Long;" } : Jvm.MethodName) jdk_35_method_24_code (3 : Nat) (Option.some (Jvm.ClassFile.FieldType.object "java/lang/Long"))).before args0 about1 = true := code_word (m := ⟨8, 0⟩) (meth := k8m0) (c := k8c0) (by decide +kernel) rfl rfl rfl (by decide +kernel)
set_option maxRecDepth 65536 in
theorem w_c5 : (Jvm.Cond.code ({ cls := "java/lang/Long", name := "<init>", desc := "(J)V" } : Jvm.MethodName) jdk_35_method_26_code (3 : Nat) (Option.none : Option Jvm.ClassFile.FieldType)).before args0 about1 = true := code_word (m := ⟨8, 1⟩) (meth := k8m1) (c := k8c1) (by decide +kernel) rfl rfl rfl (by decide +kernel)
set_option maxRecDepth 65536 in
theorem w_c6 : (Jvm.Cond.code ({ cls := "java/lang/Number", name := "<init>", desc := "()V" } : Jvm.MethodName) jdk_18_method_1_code (1 : Nat) (Option.none : Option Jvm.ClassFile.FieldType)).before args0 about1 = true := code_word (m := ⟨4, 0⟩) (meth := k4m0) (c := k4c0) (by decide +kernel) rfl rfl rfl (by decide +kernel)
def codes1 : List Jvm.Cond := [Jvm.Cond.code x code maxLocals ret, Jvm.Cond.code ({ cls := "com/example/bound_bundle/boundbundle/format/SdkRange", name := "<init>", desc := "(JJ)V" } : Jvm.MethodName) prog_120_method_1_code (5 : Nat) (Option.none : Option Jvm.ClassFile.FieldType), Jvm.Cond.code ({ cls := "java/lang/Object", name := "<init>", desc := "()V" } : Jvm.MethodName) object_method_1_code (1 : Nat) (Option.none : Option Jvm.ClassFile.FieldType), Jvm.Cond.code ({ cls := "com/example/bound_bundle/boundbundle/format/SdkRange", name := "equals", desc := "(Ljava/lang/Object;)Z" } : Jvm.MethodName) prog_120_method_8_code (3 : Nat) (Option.some Jvm.ClassFile.FieldType.boolean), Jvm.Cond.code ({ cls := "java/lang/Long", name := "valueOf", desc := "(J)Ljava/lang/Long;" } : Jvm.MethodName) jdk_35_method_24_code (3 : Nat) (Option.some (Jvm.ClassFile.FieldType.object "java/lang/Long")), Jvm.Cond.code ({ cls := "java/lang/Long", name := "<init>", desc := "(J)V" } : Jvm.MethodName) jdk_35_method_26_code (3 : Nat) (Option.none : Option Jvm.ClassFile.FieldType), Jvm.Cond.code ({ cls := "java/lang/Number", name := "<init>", desc := "()V" } : Jvm.MethodName) jdk_18_method_1_code (1 : Nat) (Option.none : Option Jvm.ClassFile.FieldType)]
set_option maxRecDepth 65536 in
theorem codes_eq : words1.filter isCode = codes1 := rfl
theorem w_codes : ∀ c ∈ words1.filter isCode, c.before args0 about1 = true := by
  rw [codes_eq]
  intro c hc
  simp only [codes1, List.mem_cons, List.not_mem_nil, or_false] at hc
  rcases hc with rfl | rfl | rfl | rfl | rfl | rfl | rfl
  · exact w_c0
  · exact w_c1
  · exact w_c2
  · exact w_c3
  · exact w_c4
  · exact w_c5
  · exact w_c6
set_option maxRecDepth 65536 in
theorem w_t1 : (words1.take 24).all (fun c => isCode c || c.before args0 about1) = true := by decide +kernel
set_option maxRecDepth 65536 in
theorem w_t2 : ((words1.drop 24).take 24).all (fun c => isCode c || c.before args0 about1) = true := by decide +kernel
set_option maxRecDepth 65536 in
theorem w_t3 : ((words1.drop 24).drop 24).all (fun c => isCode c || c.before args0 about1) = true := by decide +kernel
theorem w_tables : (allAtoms (Jvm.Cond.code x code maxLocals ret :: tables_1)).before args0 about1 = true := by
  rw [allAtoms_all]
  show words1.all (fun c => c.before args0 about1) = true
  refine all_split ?_ w_codes
  rw [← List.take_append_drop 24 words1, List.all_append, w_t1, ← List.take_append_drop 24 (words1.drop 24), List.all_append, w_t2, w_t3]
  rfl
set_option maxRecDepth 65536 in
theorem w_rest : rest_1_c.before args0 about1 = true := by decide +kernel
set_option maxRecDepth 65536 in
theorem w_case : (Jvm.Cond.and given_1 narrow_1).before args0 about1 = true := by decide +kernel
theorem w_applies : (headSpec (Jvm.Cond.code x code maxLocals ret :: tables_1) room_1).applies x e0.platform about1 = true :=
  (Spec.applies_iff w_frames).mpr ⟨w_running, w_runnable, w_alone, w_named, w_hears, w_ripe, w_room, w_tables⟩
theorem atStart : AtStart classFile x code maxLocals ret World_1 tables_1 room_1 Calls_1 rest_1 Pre_1 launch0 p0 e0 about1 theMethod args0 below0 :=
  ⟨lists_1, trivial, launch0.admits_env _ _ _, launch0.least_env, fairChoices_fair.cas, fairChoices_fair.clock, w_frames, w_args, w_heap, w_applies, trivial, w_rest, w_case⟩
end start1
theorem witness_1 : WitnessClaimed_1 := ⟨start1.p0, start1.e0, start1.about1, start1.theMethod, start1.args0, start1.below0, start1.atStart⟩
end Jvm.Pilot.@@N@@
