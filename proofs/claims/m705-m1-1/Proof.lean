import JvmDerived
import JvmDerived.Pilot.@@N@@Statement
import JvmDerived.Pilot.@@N@@Code
set_option linter.unusedVariables false
set_option linter.unusedSimpArgs false
namespace Jvm.Pilot.@@N@@
open Jvm Jvm.ClassFile Sem Op Lib Jvm.Free Jvm.Stand Jvm.LawKit Jvm.RoadKit Bundle Jvm.Pilot.@@N@@.Jvm.D
/-! own_: the walk's goal, said once: from the frame g at T the run comes to an end that Fin holds of -/
def own_Go (p : Program) (e : Env) (below : List Frame) (Fin : Outcome → State → Prop) (T : State) (g : JFrame) : Prop :=
  ∃ s₂ o, Steps p.tables e below (T.setTop g) s₂ ∧ s₂.status = .running ∧ Ended s₂ below o ∧ Fin o s₂
def own_Fin (s : State) (Q : Option Value → Heap → List Loc → Prop) (k n : Nat) (o : Outcome) (t : State) : Prop :=
  ∃ v L, o = .returned v ∧ Q v t.heap L ∧ FrameEnd s o t L k n
section OwnGo
variable {p : Program} {l : Launch} {e : Env} {R : Room} {s : State} {m : MethodId} {args : Array Value} {below : List Frame} {meth : Method} {c : Code} {T T' : State} {locs : List Loc} {cells slots : Nat} {Z : State} {a0 : Array Value} {h : Heap} {g g' : JFrame} {Fin : Outcome → State → Prop} {k n : Nat} {Q : Option Value → Heap → List Loc → Prop}
theorem own_go (st : ∀ target, Steps p.tables e below (T'.setTop g') target → Steps p.tables e below (T.setTop g) target) (G : own_Go p e below Fin T' g') : own_Go p e below Fin T g := by
  obtain ⟨s₂, o, h, r⟩ := G
  exact ⟨s₂, o, st _ h, r⟩
theorem own_end (X : Stand p l e R s m args below meth c T locs cells slots) (hlk : meth.locks = false) {v : Option Value} (hv : meth.sig.returnType = none → v = none)
    (hr : ∀ fs, (∀ (f : JFrame) (acts : List Action), f.method = m → f.locked = none → f.entered = [] → (doReturn e (T.setTop f) acts v).1 = T.setFrames fs) → Steps p.tables e below (T.setTop g) (T.setFrames fs))
    (hQ : Q v T.heap locs) (hc : cells ≤ k) (hn : slots ≤ n) : own_Go p e below (own_Fin s Q k n) T g := by
  obtain ⟨fs, h1, hrun, hended, hW, hsame⟩ := X.leave hv hlk
  exact ⟨_, _, hr fs h1, hrun, hended, v, locs, rfl, hQ, ⟨_, rfl⟩, hW, hsame.mono hc hn⟩
theorem own_dia {α : Type} {C : Prop} [Decidable C] {v1 v0 : α} {f : α → JFrame} (h1 : C → own_Go p e below Fin T' (f v1) → own_Go p e below Fin T g) (h0 : ¬ C → own_Go p e below Fin T' (f v0) → own_Go p e below Fin T g) (G : own_Go p e below Fin T' (f (if C then v1 else v0))) : own_Go p e below Fin T g := by
  by_cases hC : C
  · rw [if_pos hC] at G; exact h1 hC G
  · rw [if_neg hC] at G; exact h0 hC G
end OwnGo
def own_Met (l : Launch) (Z : State) (y : MethodName) (bytes : ByteArray) (maxL : Nat) (ret : Option FieldType) (ws : List Jvm.Cond) (rm : Room) (as : Array Value) (h0 : Heap) (Q : Option Value → Heap → List Loc → Prop) : Prop :=
  MetFree l y (head1 (Jvm.Cond.code y bytes maxL ret :: ws) rm) (fun a U => a = as ∧ Z.Warmed39 U.vm ∧ U.heap = h0) (fun _ _ _ _ _ => True) (fun _ U o U' => ∃ v L, o = .returned v ∧ Q v U'.heap L ∧ FrameEnd U o U' L rm.cells rm.slots)
theorem own_met {l : Launch} {Z : State} {y : MethodName} {bytes : ByteArray} {maxL : Nat} {ret : Option FieldType} {ws : List Jvm.Cond} {rm : Room} {as : Array Value} {h0 : Heap} {Q : Option Value → Heap → List Loc → Prop} (hp : plainFor y = true)
    (body : ∀ (p : Program) (e : Env) (s : State) (m : MethodId) (below : List Frame) (meth : Method) (c : Code) (s₁ : State), Stand p l e rm s m as below meth c s₁ [] 0 0 → p.tables.exec = Jvm.exec → Z.Warmed39 s.vm → c.code = bytes → c.maxLocals = maxL → s.vm.findClass y.cls = some m.cls → meth.name = y.name → meth.sig.returnType = ret → meth.locks = false → s₁.heap = h0 →
      own_Go p e below (own_Fin s Q rm.cells rm.slots) s₁ (entryFrame m as maxL)) : own_Met l Z y bytes maxL ret ws rm as h0 Q := by
  refine MetFree.of_bodySF hp hisR ?_
  intro p e s m args below meth c s₁ Bd hml0 hP hK
  obtain ⟨rfl, hZ, hh⟩ := hP
  exact body p e s m below meth c s₁ (Stand.of_body Bd) Bd.exec hZ Bd.bytes hml0 (findClass_of_methodNamed Bd.named) (name_of_methodNamed Bd.named Bd.method).1 Bd.returns Bd.notSynchronized (by rw [← hh, Bd.state]; rfl)
section OwnCall
variable {p : Program} {l : Launch} {e : Env} {R : Room} {s : State} {m : MethodId} {args : Array Value} {below : List Frame} {meth : Method} {c : Code} {T : State} {locs : List Loc} {cells slots : Nat} {Z : State} {a0 : Array Value} {h : Heap} {g : JFrame} {Q : Option Value → Heap → List Loc → Prop} {own : String} {index : Nat} {y z : MethodName} {bytes : ByteArray} {maxL W : Nat} {ret r0 : Option FieldType} {rm : Room} {argsL rest : List Value} {ps : List FieldType} {b : Addr} {C : String}
theorem own_callS (X : Stand p l e R s m args below meth c T locs cells slots) (hx : p.tables.exec = Jvm.exec) (hZ : Z.Warmed39 s.vm) (hown : s.vm.findClass own = some m.cls) (wl : (Cond.methodLink own index y).before a0 Z = true) (ws : (Cond.static y).before a0 Z = true) (wi : (Cond.initialized y.cls).before a0 Z = true) (wc : (Cond.code y bytes maxL ret).before a0 Z = true)
    (hy : y.cls ≠ "java/lang/invoke/MethodHandle" ∧ y.cls ≠ "java/lang/invoke/VarHandle") (eT : T.heap = h) (hM : own_Met l Z y bytes maxL ret [] rm argsL.toArray h Q) (hf : rm.frames + 1 ≤ R.frames) (hl : W + (maxL + 11) + rm.locals ≤ R.locals) (hc : cells + rm.cells ≤ R.cells) (hn : slots + rm.slots ≤ R.slots)
    (hpd : parseMethodDescriptor y.desc = some ⟨ps, r0⟩) (hlen : argsL.length = ps.length) (hg : g.method = m) (hsize : g.locals.size = c.maxLocals) (hstack : g.stack = argsL.reverse ++ rest) (hW : 2 * g.monitorRoom + (rest.map fun v => v.category).sum ≤ W) (hd : decode c.code g.pc = .ok (.invokestatic index, 3)) :
    ∃ (v : Option Value) (T' : State) (L : List Loc), Stand p l e R s m args below meth c T' (locs ++ L) (cells + rm.cells) (slots + rm.slots) ∧ Q v T'.heap L ∧ ∀ target, Steps p.tables e below (T'.setTop { g with pc := g.pc + 3, stack := v.toList ++ rest }) target → Steps p.tables e below (T.setTop g) target := by
  obtain ⟨v, vm₁, ⟨T1, L1, k1, n1⟩, -, X1, ⟨Lc, hQ, l1, y1, z1⟩, st⟩ := Jvm.LawKit.callS X hx (y := y) hown (mvT hZ wl) (mvT hZ ws) (mvT hZ wi) (mvT hZ wc) hy (backOf (W := W) hM hZ wc wi hf hl) hg hsize (lenOf hpd hlen) hstack hW hd (fun _ _ => ⟨rfl, eT, hc, hn⟩)
  dsimp only [Pt.U, Pt.locs, Pt.cells, Pt.slots] at X1 l1 y1 z1 st hQ
  subst l1 y1 z1
  exact ⟨v, T1, Lc, X1, hQ, st⟩
theorem own_callI (X : Stand p l e R s m args below meth c T locs cells slots) (hx : p.tables.exec = Jvm.exec) (hZ : Z.Warmed39 s.vm) (hy1 : y.name = "<init>") (hown : s.vm.findClass own = some m.cls) (wl : (Cond.methodLink own index y).before a0 Z = true) (ws : (Cond.instanceMethod y).before a0 Z = true) (wi : (Cond.initialized y.cls).before a0 Z = true) (wc : (Cond.code y bytes maxL none).before a0 Z = true)
    (hy : y.cls ≠ "java/lang/invoke/MethodHandle" ∧ y.cls ≠ "java/lang/invoke/VarHandle") (eT : T.heap = h) (hM : own_Met l Z y bytes maxL none [] rm (.ref b :: argsL).toArray h Q) (hf : rm.frames + 1 ≤ R.frames) (hl : W + (maxL + 11) + rm.locals ≤ R.locals) (hc : cells + rm.cells ≤ R.cells) (hn : slots + rm.slots ≤ R.slots)
    (hpd : parseMethodDescriptor y.desc = some ⟨ps, r0⟩) (hlen : argsL.length = ps.length) (hg : g.method = m) (hsize : g.locals.size = c.maxLocals) (hstack : g.stack = argsL.reverse ++ .ref b :: rest) (hW : 2 * g.monitorRoom + (rest.map fun v => v.category).sum ≤ W) (hd : decode c.code g.pc = .ok (.invokespecial index, 3)) :
    ∃ (v : Option Value) (T' : State) (L : List Loc), Stand p l e R s m args below meth c T' (locs ++ L) (cells + rm.cells) (slots + rm.slots) ∧ Q v T'.heap L ∧ ∀ target, Steps p.tables e below (T'.setTop { g with pc := g.pc + 3, stack := v.toList ++ rest }) target → Steps p.tables e below (T.setTop g) target := by
  obtain ⟨v, vm₁, ⟨T1, L1, k1, n1⟩, -, X1, ⟨Lc, hQ, l1, y1, z1⟩, st⟩ := X.specialBack hx (y := y) hy1 hown (mvT hZ wl) (mvT hZ ws) (mvT hZ wc) hy (backOf (W := W) hM hZ wc wi hf hl) hg hsize (Steps.refl _) (lenOf hpd hlen) hstack hW hd (fun _ _ => ⟨rfl, eT, hc, hn⟩)
  dsimp only [Pt.U, Pt.locs, Pt.cells, Pt.slots] at X1 l1 y1 z1 st hQ
  subst l1 y1 z1
  exact ⟨v, T1, Lc, X1, hQ, fun _ k => st.trans k⟩
theorem own_callV (X : Stand p l e R s m args below meth c T locs cells slots) (hx : p.tables.exec = Jvm.exec) (hZ : Z.Warmed39 s.vm) (hown : s.vm.findClass own = some m.cls) (wl : (Cond.methodLink own index y).before a0 Z = true) (wd : (Cond.declares y).before a0 Z = true) (wsel : (Cond.selects C y y).before a0 Z = true) (ws : (Cond.instanceMethod y).before a0 Z = true) (wi : (Cond.initialized y.cls).before a0 Z = true) (wc : (Cond.code y bytes maxL ret).before a0 Z = true)
    (hy : y.cls ≠ "java/lang/invoke/MethodHandle" ∧ y.cls ≠ "java/lang/invoke/VarHandle") (eT : T.heap = h) (E : Exa Z h b C) (hM : own_Met l Z y bytes maxL ret [] rm (.ref b :: argsL).toArray h Q) (hf : rm.frames + 1 ≤ R.frames) (hl : W + (maxL + 11) + rm.locals ≤ R.locals) (hc : cells + rm.cells ≤ R.cells) (hn : slots + rm.slots ≤ R.slots)
    (hpd : parseMethodDescriptor y.desc = some ⟨ps, r0⟩) (hlen : argsL.length = ps.length) (hg : g.method = m) (hsize : g.locals.size = c.maxLocals) (hstack : g.stack = argsL.reverse ++ .ref b :: rest) (hW : 2 * g.monitorRoom + (rest.map fun v => v.category).sum ≤ W) (hd : decode c.code g.pc = .ok (.invokevirtual index, 3)) :
    ∃ (v : Option Value) (T' : State) (L : List Loc), Stand p l e R s m args below meth c T' (locs ++ L) (cells + rm.cells) (slots + rm.slots) ∧ Q v T'.heap L ∧ ∀ target, Steps p.tables e below (T'.setTop { g with pc := g.pc + 3, stack := v.toList ++ rest }) target → Steps p.tables e below (T.setTop g) target := by
  obtain ⟨cq, kq, qa, qb, qc⟩ := isOf hZ eT E
  obtain ⟨v, vm₁, ⟨T1, L1, k1, n1⟩, -, X1, ⟨Lc, hQ, l1, y1, z1⟩, st⟩ := X.virtualBack hx (y := y) (z := y) hown (mvT hZ wl) (mvT hZ wd) (notFace_of_selects (args := #[]) (mvT hZ wsel)) (mvT hZ wsel) (mvT hZ ws) hy (backOf (W := W) hM hZ wc wi hf hl) qa qc hg hsize (Steps.refl _) (lenOf hpd hlen) hstack hW hd (fun _ _ => ⟨rfl, eT, hc, hn⟩)
  dsimp only [Pt.U, Pt.locs, Pt.cells, Pt.slots] at X1 l1 y1 z1 st hQ
  subst l1 y1 z1
  exact ⟨v, T1, Lc, X1, hQ, fun _ k => st.trans k⟩
end OwnCall
theorem own_eqv {args : Array Value} {Z : State} {t : Term} {k : Int32} (h : (Cond.eq t (Term.int k)).value args Z none Z [] = some true) : t.eval args Z none [] Z = some (.int k) := by
  obtain ⟨x, y, e1, e2, k1, k2⟩ := cmp_v (Or.inl h)
  have e3 : (Term.int k).eval args Z none [] Z = some (.int k) := rfl
  cases e2.symm.trans e3
  cases x <;> simp [Kin, Value.isRef] at k1 k2
  simp [Cond.value, e1, e3] at h
  rw [e1, h]
theorem own_len {args : Array Value} {s : State} {t : Term} {n : Int32} {a : Addr} {cc : Cell} (h : (Cond.eq (Term.length t) (.int n)).value args s none s [] = some true) (ev : t.eval args s none [] s = some (.ref a)) (hat : s.arrayAt? a = some cc) : cc.slots.size < 2 ^ 31 ∧ cc.slots.size.toInt32 = n := by
  have hl := own_eqv h
  simp only [Term.eval, ev, hat, Option.bind_eq_bind, Option.bind_some] at hl
  split at hl
  · rename_i hlt
    exact ⟨hlt, by simpa using hl⟩
  · cases hl
theorem own_cache {args : Array Value} {s : State} {CC nc dA C : String} {Y : Cond} (h1 : (Cond.arrayOf (Term.static CC nc dA) (.object C)).before args s = true) (h2 : (Cond.eq (Term.length (Term.static CC nc dA)) (.int 256)).before args s = true)
    (h3 : (Cond.all (Term.static CC nc dA) (.and (.exactly (.elem (Term.static CC nc dA) (.index 0)) C) Y)).before args s = true) :
    ∃ ca cc, (Term.static CC nc dA).eval args s none [] s = some (.ref ca) ∧ Arr s s.heap ca cc (.object C) ∧ cc.slots.size = 256 ∧ ∀ j : Nat, j < 256 → ∃ w, cc.slots[j]? = some (.ref w) ∧ Exa s s.heap w C := by
  obtain ⟨ca, ev⟩ := arr_v (Cond.before_iff.mp h1)
  obtain ⟨cc, A⟩ := Arr.start ev (Cond.before_iff.mp h1)
  have hat := IntBox.arrayAt_of A.1 A.2.1 A.2.2
  have hsz : cc.slots.size = 256 := by
    obtain ⟨hlt, q⟩ := own_len (Cond.before_iff.mp h2) ev hat
    have e : (cc.slots.size.toInt32).toInt = cc.slots.size := len_toInt hlt
    rw [q] at e
    have : ((256 : Int32)).toInt = 256 := by decide
    omega
  refine ⟨ca, cc, ev, A, hsz, fun j hj => ?_⟩
  have hall := Cond.all_elim (c := .and (.exactly (.elem (Term.static CC nc dA) (.index 0)) C) Y) ev hat (Cond.before_iff.mp h3)
  obtain ⟨hex, -⟩ := and_e (hall j (by rw [hsz]; exact hj))
  obtain ⟨a', c', cell, k, e1, e2, e3, e4, e5, rfl, e7⟩ := Cond.exactly_spec (beq_iff_eq.mpr hex : (Cond.exactly (.elem (Term.static CC nc dA) (.index 0)) C).holds args s none s [j] = true)
  have evj : (Term.static CC nc dA).eval args s none [j] s = some (.ref ca) := by
    simp only [Term.eval] at ev ⊢
    exact ev
  have hnn := IntBox.place_nonneg j hj
  have ei : (Term.index 0).eval args s none [j] s = some (.int j.toInt32) := by simp [Term.eval]
  have evE : (Term.elem (Term.static CC nc dA) (.index 0)).eval args s none [j] s = cc.slots[j]? := by
    rw [elem_f evj ei hat hnn.1, hnn.2]
  exact ⟨a', evE.symm.trans e1, cell, k, e3, e2, e4, e5, e7⟩
theorem own_NSroot {Z : State} {a0 : Array Value} {O K : String} {n : Nat} (w : (Cond.noSuperclass O).before a0 Z = true) (wk : (Cond.instantiable K n).before a0 Z = true) (hn : O ≠ K) : NS Z O K := by
  obtain ⟨c, k, h1, h2, h3, -, -⟩ := Cond.noSuperclass_spec w
  obtain ⟨t, kt, g1, -⟩ := Cond.instantiable_spec wk
  have ne := ids_ne h1 g1 hn
  refine ⟨c, t, h1, g1, fun fuel => ?_⟩
  cases fuel with
  | zero => rfl
  | succ f => simp [Vm.isSubclassAux, ne, h2, h3]
theorem own_NSno {Z : State} {a0 : Array Value} {C S K : String} {n : Nat} (w : (Cond.superclass C S).before a0 Z = true) (wk : (Cond.instantiable K n).before a0 Z = true) (N : NS Z C K) (hn : C ≠ K) : ∃ c t, Z.vm.findClass C = some c ∧ Z.vm.findClass K = some t ∧ Z.vm.assignable c t = false := by
  obtain ⟨c, t, h0, g0, n3⟩ := N
  obtain ⟨p, k, kp, h1, h2, h3, h4, h5, -, h7⟩ := Cond.superclass_spec h0 w
  obtain ⟨t', kt, g1, g2, g3, g4, -⟩ := Cond.instantiable_spec wk
  cases g0.symm.trans g1
  have ne := ids_ne h0 g0 hn
  have g5 : kt.isInterface = false := by simp only [Bool.or_eq_false_iff] at g4; exact g4.1
  refine ⟨c, t, h0, g0, ?_⟩
  show Z.vm.assignableAux (255 + 1) c t = false
  simp [Vm.assignableAux, ne, h2, g2, h5, g3, g5, Vm.isSubclass, n3]
theorem own_ef1 (m : MethodId) (a1 : Addr) (p2 : Int32) (q3 : Int64) (q4 : Int64) : entryFrame m #[(.ref a1), (.int p2), (.long q3), (.long q4)] 6 = mkF m 0 #[.val (.ref a1), .val (.int p2), .val (.long q3), .second, .val (.long q4), .second] [] := by first | (simp [entryFrame, mkF, argsToLocals, Value.category]; done) | rfl
theorem own_d1_0 : decode prog_78_method_1_code 0 = .ok (.aload_n 0, 1) := by decide +kernel
theorem own_d1_1 : decode prog_78_method_1_code 1 = .ok (.invokespecial 1, 3) := by decide +kernel
theorem own_d1_4 : decode prog_78_method_1_code 4 = .ok (.aload_n 0, 1) := by decide +kernel
theorem own_d1_5 : decode prog_78_method_1_code 5 = .ok (.iload_n 1, 1) := by decide +kernel
theorem own_d1_6 : decode prog_78_method_1_code 6 = .ok (.putfield 7, 3) := by decide +kernel
theorem own_d1_9 : decode prog_78_method_1_code 9 = .ok (.aload_n 0, 1) := by decide +kernel
theorem own_d1_10 : decode prog_78_method_1_code 10 = .ok (.lload_n 2, 1) := by decide +kernel
theorem own_d1_11 : decode prog_78_method_1_code 11 = .ok (.putfield 13, 3) := by decide +kernel
theorem own_d1_14 : decode prog_78_method_1_code 14 = .ok (.aload_n 0, 1) := by decide +kernel
theorem own_d1_15 : decode prog_78_method_1_code 15 = .ok (.lload 4, 2) := by decide +kernel
theorem own_d1_17 : decode prog_78_method_1_code 17 = .ok (.putfield 17, 3) := by decide +kernel
theorem own_d1_20 : decode prog_78_method_1_code 20 = .ok (.return_, 1) := by decide +kernel
theorem own_pn0 : plainName "com/example/bound_bundle/boundbundle/format/ApkSigningBlock$Pair" = true := by first | (simp [plainName, overriddenIn]; done) | decide +kernel
def own_Q1 (Z : State) (a1 : Addr) (p2 : Int32) (q3 : Int64) (q4 : Int64) (h0 : Heap) (n0 : Nat) (v : Option Value) (h : Heap) (L : List Loc) : Prop := v = none ∧ Fr n0 L ∧ Keep h0 h [a1] ∧ Exa Z h a1 "com/example/bound_bundle/boundbundle/format/ApkSigningBlock$Pair" ∧ Fld Z h a1 "com/example/bound_bundle/boundbundle/format/ApkSigningBlock$Pair" "id" "I" (.int p2) ∧ Fld Z h a1 "com/example/bound_bundle/boundbundle/format/ApkSigningBlock$Pair" "valueOffset" "J" (.long q3) ∧ Fld Z h a1 "com/example/bound_bundle/boundbundle/format/ApkSigningBlock$Pair" "valueLength" "J" (.long q4)
set_option maxRecDepth 65536 in
set_option maxHeartbeats 40000000 in
theorem own_rm1 (l : Launch) (Z : State) (a0 : Array Value) (hw : ∀ d ∈ tables_1, d.before a0 Z = true) (ws : List Jvm.Cond) (a1 : Addr) (p2 : Int32) (q3 : Int64) (q4 : Int64) (h0 : Heap) (n0 : Nat) (g_a1 : n0 ≤ a1) (E_a1 : Exa Z h0 a1 "com/example/bound_bundle/boundbundle/format/ApkSigningBlock$Pair") (F_id_a1 : Fld Z h0 a1 "com/example/bound_bundle/boundbundle/format/ApkSigningBlock$Pair" "id" "I" (.int (0 : Int32))) (F_valueOffset_a1 : Fld Z h0 a1 "com/example/bound_bundle/boundbundle/format/ApkSigningBlock$Pair" "valueOffset" "J" (.long (0 : Int64))) (F_valueLength_a1 : Fld Z h0 a1 "com/example/bound_bundle/boundbundle/format/ApkSigningBlock$Pair" "valueLength" "J" (.long (0 : Int64))) :
    own_Met l Z (⟨"com/example/bound_bundle/boundbundle/format/ApkSigningBlock$Pair", "<init>", "(IJJ)V"⟩ : MethodName) prog_78_method_1_code 6 none ws ({ frames := 1, cells := 0, slots := 0, locals := 12 } : Room) #[(.ref a1), (.int p2), (.long q3), (.long q4)] h0 (own_Q1 Z a1 p2 q3 q4 h0 n0) := by
  refine own_met (plainFor_of_name own_pn0) ?_
  intro p e s m below meth c s₁ X0 hx hZ hby hml hown hnm hret hlk e0
  have N0 := Fr.nil n0
  refine own_go (fun t k => castTop (own_ef1 m a1 p2 q3 q4) k) ?_
  have K := Keep.refl h0 [a1]
  show own_Go _ _ _ _ s₁ (mkF m 0 #[.val (.ref a1), .val (.int p2), .val (.long q3), .second, .val (.long q4), .second] [])
  refine own_go (fun _ k => XS.aloadN X0.here hx rfl (hb hby own_d1_0) rfl rfl k) ?_
  show own_Go _ _ _ _ s₁ (mkF m 1 #[.val (.ref a1), .val (.int p2), .val (.long q3), .second, .val (.long q4), .second] [(.ref a1)])
  obtain ⟨Tz1, Xz1, ez1, stz1⟩ := initO X0 hx hZ hown (hw _ (List.mem_of_getElem? (i := 6) rfl)) (hw _ (List.mem_of_getElem? (i := 7) rfl)) (hw _ (List.mem_of_getElem? (i := 8) rfl)) e0 (g := (mkF m 1 #[.val (.ref a1), .val (.int p2), .val (.long q3), .second, .val (.long q4), .second] [(.ref a1)])) rfl (by rw [hml]; rfl) rfl (hb hby own_d1_1) (by decide) (W := 0) (by show 2 * 0 + _ ≤ _; exact Nat.le_of_eq rfl) (by decide)
  refine own_go stz1 ?_
  show own_Go _ _ _ _ Tz1 (mkF m 4 #[.val (.ref a1), .val (.int p2), .val (.long q3), .second, .val (.long q4), .second] [])
  refine own_go (fun _ k => XS.aloadN Xz1.here hx rfl (hb hby own_d1_4) rfl rfl k) ?_
  show own_Go _ _ _ _ Tz1 (mkF m 5 #[.val (.ref a1), .val (.int p2), .val (.long q3), .second, .val (.long q4), .second] [(.ref a1)])
  refine own_go (fun _ k => XS.iloadN Xz1.here hx rfl (hb hby own_d1_5) rfl k) ?_
  show own_Go _ _ _ _ Tz1 (mkF m 6 #[.val (.ref a1), .val (.int p2), .val (.long q3), .second, .val (.long q4), .second] [(.int p2), (.ref a1)])
  obtain ⟨Tz2, hz2, Xz2, ez2, Wz2, stz2⟩ := putF Xz1 hx hZ hown (host := "") (Or.inl (hw _ (List.mem_of_getElem? (i := 9) rfl))) Via.refl ez1 F_id_a1 E_a1 (Or.inr ⟨(hw _ (List.mem_of_getElem? (i := 10) rfl)), rfl, hnm⟩) (hw _ (List.mem_of_getElem? (i := 1) rfl)) (ty := .int) (by decide) rfl rfl (g := (mkF m 6 #[.val (.ref a1), .val (.int p2), .val (.long q3), .second, .val (.long q4), .second] [(.int p2), (.ref a1)])) rfl rfl (hb hby own_d1_6)
  refine own_go stz2 ?_
  have Nz2 := Fr.snoc Xz2 N0 g_a1
  have F_id_a1_ := F_id_a1.same Wz2
  have E_a1 := E_a1.wr Wz2
  have F_valueOffset_a1 := F_valueOffset_a1.other Wz2 (Or.inr (slot_ne (Or.inr (hw _ (List.mem_of_getElem? (i := 12) rfl))) (Or.inr (hw _ (List.mem_of_getElem? (i := 10) rfl))) (by decide) (t := .long) (t' := .int) (by decide) (by decide)))
  have F_valueLength_a1 := F_valueLength_a1.other Wz2 (Or.inr (slot_ne (Or.inr (hw _ (List.mem_of_getElem? (i := 14) rfl))) (Or.inr (hw _ (List.mem_of_getElem? (i := 10) rfl))) (by decide) (t := .long) (t' := .int) (by decide) (by decide)))
  have K := K.wr Wz2 (Or.inl (List.mem_of_getElem? (i := 0) rfl))
  have F_id_a1 := F_id_a1_
  show own_Go _ _ _ _ Tz2 (mkF m 9 #[.val (.ref a1), .val (.int p2), .val (.long q3), .second, .val (.long q4), .second] [])
  refine own_go (fun _ k => XS.aloadN Xz2.here hx rfl (hb hby own_d1_9) rfl rfl k) ?_
  show own_Go _ _ _ _ Tz2 (mkF m 10 #[.val (.ref a1), .val (.int p2), .val (.long q3), .second, .val (.long q4), .second] [(.ref a1)])
  refine own_go (fun _ k => XS.lloadN Xz2.here hx rfl (hb hby own_d1_10) rfl k) ?_
  show own_Go _ _ _ _ Tz2 (mkF m 11 #[.val (.ref a1), .val (.int p2), .val (.long q3), .second, .val (.long q4), .second] [(.long q3), (.ref a1)])
  obtain ⟨Tz3, hz3, Xz3, ez3, Wz3, stz3⟩ := putF Xz2 hx hZ hown (host := "") (Or.inl (hw _ (List.mem_of_getElem? (i := 11) rfl))) Via.refl ez2 F_valueOffset_a1 E_a1 (Or.inr ⟨(hw _ (List.mem_of_getElem? (i := 12) rfl)), rfl, hnm⟩) (hw _ (List.mem_of_getElem? (i := 1) rfl)) (ty := .long) (by decide) rfl rfl (g := (mkF m 11 #[.val (.ref a1), .val (.int p2), .val (.long q3), .second, .val (.long q4), .second] [(.long q3), (.ref a1)])) rfl rfl (hb hby own_d1_11)
  refine own_go stz3 ?_
  have Nz3 := Fr.snoc Xz3 Nz2 g_a1
  have F_valueOffset_a1_ := F_valueOffset_a1.same Wz3
  have E_a1 := E_a1.wr Wz3
  have F_valueLength_a1 := F_valueLength_a1.other Wz3 (Or.inr (slot_ne (Or.inr (hw _ (List.mem_of_getElem? (i := 14) rfl))) (Or.inr (hw _ (List.mem_of_getElem? (i := 12) rfl))) (by decide) (t := .long) (t' := .long) (by decide) (by decide)))
  have K := K.wr Wz3 (Or.inl (List.mem_of_getElem? (i := 0) rfl))
  have F_id_a1 := F_id_a1.other Wz3 (Or.inr (slot_ne (Or.inr (hw _ (List.mem_of_getElem? (i := 10) rfl))) (Or.inr (hw _ (List.mem_of_getElem? (i := 12) rfl))) (by decide) (t := .int) (t' := .long) (by decide) (by decide)))
  have F_valueOffset_a1 := F_valueOffset_a1_
  show own_Go _ _ _ _ Tz3 (mkF m 14 #[.val (.ref a1), .val (.int p2), .val (.long q3), .second, .val (.long q4), .second] [])
  refine own_go (fun _ k => XS.aloadN Xz3.here hx rfl (hb hby own_d1_14) rfl rfl k) ?_
  show own_Go _ _ _ _ Tz3 (mkF m 15 #[.val (.ref a1), .val (.int p2), .val (.long q3), .second, .val (.long q4), .second] [(.ref a1)])
  refine own_go (fun _ k => XS.lload Xz3.here hx rfl (hb hby own_d1_15) rfl k) ?_
  show own_Go _ _ _ _ Tz3 (mkF m 17 #[.val (.ref a1), .val (.int p2), .val (.long q3), .second, .val (.long q4), .second] [(.long q4), (.ref a1)])
  obtain ⟨Tz4, hz4, Xz4, ez4, Wz4, stz4⟩ := putF Xz3 hx hZ hown (host := "") (Or.inl (hw _ (List.mem_of_getElem? (i := 13) rfl))) Via.refl ez3 F_valueLength_a1 E_a1 (Or.inr ⟨(hw _ (List.mem_of_getElem? (i := 14) rfl)), rfl, hnm⟩) (hw _ (List.mem_of_getElem? (i := 1) rfl)) (ty := .long) (by decide) rfl rfl (g := (mkF m 17 #[.val (.ref a1), .val (.int p2), .val (.long q3), .second, .val (.long q4), .second] [(.long q4), (.ref a1)])) rfl rfl (hb hby own_d1_17)
  refine own_go stz4 ?_
  have Nz4 := Fr.snoc Xz4 Nz3 g_a1
  have F_valueLength_a1_ := F_valueLength_a1.same Wz4
  have E_a1 := E_a1.wr Wz4
  have K := K.wr Wz4 (Or.inl (List.mem_of_getElem? (i := 0) rfl))
  have F_id_a1 := F_id_a1.other Wz4 (Or.inr (slot_ne (Or.inr (hw _ (List.mem_of_getElem? (i := 10) rfl))) (Or.inr (hw _ (List.mem_of_getElem? (i := 14) rfl))) (by decide) (t := .int) (t' := .long) (by decide) (by decide)))
  have F_valueOffset_a1 := F_valueOffset_a1.other Wz4 (Or.inr (slot_ne (Or.inr (hw _ (List.mem_of_getElem? (i := 12) rfl))) (Or.inr (hw _ (List.mem_of_getElem? (i := 14) rfl))) (by decide) (t := .long) (t' := .long) (by decide) (by decide)))
  have F_valueLength_a1 := F_valueLength_a1_
  show own_Go _ _ _ _ Tz4 (mkF m 20 #[.val (.ref a1), .val (.int p2), .val (.long q3), .second, .val (.long q4), .second] [])
  exact own_end Xz4 hlk (v := none) (fun _ => rfl) (fun fs hr => Xz4.returnOut hx hret (hb hby own_d1_20) hr) (by rw [ez4]; exact ⟨rfl, Nz4, K, E_a1, F_id_a1, F_valueOffset_a1, F_valueLength_a1⟩) (by decide) (by decide)
theorem own_ef6 (m : MethodId) (a1 : Addr) : entryFrame m #[(.ref a1)] 1 = mkF m 0 #[.val (.ref a1)] [] := by first | (simp [entryFrame, mkF, argsToLocals, Value.category]; done) | rfl
theorem own_d6_0 : decode jdk_18_method_1_code 0 = .ok (.aload_n 0, 1) := by decide +kernel
theorem own_d6_1 : decode jdk_18_method_1_code 1 = .ok (.invokespecial 1, 3) := by decide +kernel
theorem own_d6_4 : decode jdk_18_method_1_code 4 = .ok (.return_, 1) := by decide +kernel
theorem own_pn1 : plainName "java/lang/Number" = true := by first | (simp [plainName, overriddenIn]; done) | decide +kernel
def own_Q6 (Z : State) (a1 : Addr) (h0 : Heap) (n0 : Nat) (v : Option Value) (h : Heap) (L : List Loc) : Prop := v = none ∧ Fr n0 L ∧ h = h0
set_option maxRecDepth 65536 in
set_option maxHeartbeats 40000000 in
theorem own_rm6 (l : Launch) (Z : State) (a0 : Array Value) (hw : ∀ d ∈ tables_1, d.before a0 Z = true) (ws : List Jvm.Cond) (a1 : Addr) (h0 : Heap) (n0 : Nat)  :
    own_Met l Z (⟨"java/lang/Number", "<init>", "()V"⟩ : MethodName) jdk_18_method_1_code 1 none ws ({ frames := 1, cells := 0, slots := 0, locals := 12 } : Room) #[(.ref a1)] h0 (own_Q6 Z a1 h0 n0) := by
  refine own_met (plainFor_of_name own_pn1) ?_
  intro p e s m below meth c s₁ X0 hx hZ hby hml hown hnm hret hlk e0
  have N0 := Fr.nil n0
  refine own_go (fun t k => castTop (own_ef6 m a1) k) ?_
  show own_Go _ _ _ _ s₁ (mkF m 0 #[.val (.ref a1)] [])
  refine own_go (fun _ k => XS.aloadN X0.here hx rfl (hb hby own_d6_0) rfl rfl k) ?_
  show own_Go _ _ _ _ s₁ (mkF m 1 #[.val (.ref a1)] [(.ref a1)])
  obtain ⟨Tz5, Xz5, ez5, stz5⟩ := initO X0 hx hZ hown (hw _ (List.mem_of_getElem? (i := 44) rfl)) (hw _ (List.mem_of_getElem? (i := 7) rfl)) (hw _ (List.mem_of_getElem? (i := 8) rfl)) e0 (g := (mkF m 1 #[.val (.ref a1)] [(.ref a1)])) rfl (by rw [hml]; rfl) rfl (hb hby own_d6_1) (by decide) (W := 0) (by show 2 * 0 + _ ≤ _; exact Nat.le_of_eq rfl) (by decide)
  refine own_go stz5 ?_
  show own_Go _ _ _ _ Tz5 (mkF m 4 #[.val (.ref a1)] [])
  exact own_end Xz5 hlk (v := none) (fun _ => rfl) (fun fs hr => Xz5.returnOut hx hret (hb hby own_d6_4) hr) (by rw [ez5]; exact ⟨rfl, N0, rfl⟩) (by decide) (by decide)
theorem own_ef5 (m : MethodId) (a1 : Addr) (p2 : Int32) : entryFrame m #[(.ref a1), (.int p2)] 2 = mkF m 0 #[.val (.ref a1), .val (.int p2)] [] := by first | (simp [entryFrame, mkF, argsToLocals, Value.category]; done) | rfl
theorem own_d5_0 : decode jdk_33_method_23_code 0 = .ok (.aload_n 0, 1) := by decide +kernel
theorem own_d5_1 : decode jdk_33_method_23_code 1 = .ok (.invokespecial 202, 3) := by decide +kernel
theorem own_pd0 : parseMethodDescriptor "()V" = some ⟨[], none⟩ := by decide +kernel
theorem own_d5_4 : decode jdk_33_method_23_code 4 = .ok (.aload_n 0, 1) := by decide +kernel
theorem own_d5_5 : decode jdk_33_method_23_code 5 = .ok (.iload_n 1, 1) := by decide +kernel
theorem own_d5_6 : decode jdk_33_method_23_code 6 = .ok (.putfield 205, 3) := by decide +kernel
theorem own_d5_9 : decode jdk_33_method_23_code 9 = .ok (.return_, 1) := by decide +kernel
theorem own_pn2 : plainName "java/lang/Integer" = true := by first | (simp [plainName, overriddenIn]; done) | decide +kernel
def own_Q5 (Z : State) (a1 : Addr) (h0 : Heap) (n0 : Nat) (v : Option Value) (h : Heap) (L : List Loc) : Prop := v = none ∧ Fr n0 L ∧ Keep h0 h [a1] ∧ Exa Z h a1 "java/lang/Integer"
set_option maxRecDepth 65536 in
set_option maxHeartbeats 40000000 in
theorem own_rm5 (l : Launch) (Z : State) (a0 : Array Value) (hw : ∀ d ∈ tables_1, d.before a0 Z = true) (ws : List Jvm.Cond) (a1 : Addr) (p2 : Int32) (h0 : Heap) (n0 : Nat) (g_a1 : n0 ≤ a1) (E_a1 : Exa Z h0 a1 "java/lang/Integer") (F_value_a1 : Fld Z h0 a1 "java/lang/Integer" "value" "I" (.int (0 : Int32))) :
    own_Met l Z (⟨"java/lang/Integer", "<init>", "(I)V"⟩ : MethodName) jdk_33_method_23_code 2 none ws ({ frames := 2, cells := 0, slots := 0, locals := 24 } : Room) #[(.ref a1), (.int p2)] h0 (own_Q5 Z a1 h0 n0) := by
  refine own_met (plainFor_of_name own_pn2) ?_
  intro p e s m below meth c s₁ X0 hx hZ hby hml hown hnm hret hlk e0
  have N0 := Fr.nil n0
  refine own_go (fun t k => castTop (own_ef5 m a1 p2) k) ?_
  have K := Keep.refl h0 [a1]
  show own_Go _ _ _ _ s₁ (mkF m 0 #[.val (.ref a1), .val (.int p2)] [])
  refine own_go (fun _ k => XS.aloadN X0.here hx rfl (hb hby own_d5_0) rfl rfl k) ?_
  show own_Go _ _ _ _ s₁ (mkF m 1 #[.val (.ref a1), .val (.int p2)] [(.ref a1)])
  obtain ⟨vz6, Tz6, Lz6, Xz6, hQz6, stz6⟩ := own_callI X0 hx hZ rfl hown (hw _ (List.mem_of_getElem? (i := 38) rfl)) (hw _ (List.mem_of_getElem? (i := 39) rfl)) (hw _ (List.mem_of_getElem? (i := 42) rfl)) (hw _ (List.mem_of_getElem? (i := 43) rfl)) (by decide) e0 (own_rm6 l Z a0 hw [] a1 h0 n0) (W := 0) (by decide) (by decide) (by decide) (by decide) own_pd0 rfl (g := (mkF m 1 #[.val (.ref a1), .val (.int p2)] [(.ref a1)])) (argsL := []) (rest := []) rfl (by rw [hml]; rfl) rfl (by show 2 * 0 + _ ≤ _; exact Nat.le_of_eq rfl) (hb hby own_d5_1)
  obtain ⟨rfl, Nz6q, ehz6⟩ := hQz6
  have Nz6 := Fr.app N0 Nz6q
  refine own_go stz6 ?_
  show own_Go _ _ _ _ Tz6 (mkF m 4 #[.val (.ref a1), .val (.int p2)] [])
  refine own_go (fun _ k => XS.aloadN Xz6.here hx rfl (hb hby own_d5_4) rfl rfl k) ?_
  show own_Go _ _ _ _ Tz6 (mkF m 5 #[.val (.ref a1), .val (.int p2)] [(.ref a1)])
  refine own_go (fun _ k => XS.iloadN Xz6.here hx rfl (hb hby own_d5_5) rfl k) ?_
  show own_Go _ _ _ _ Tz6 (mkF m 6 #[.val (.ref a1), .val (.int p2)] [(.int p2), (.ref a1)])
  obtain ⟨Tz7, hz7, Xz7, ez7, Wz7, stz7⟩ := putF Xz6 hx hZ hown (host := "") (Or.inl (hw _ (List.mem_of_getElem? (i := 45) rfl))) Via.refl ehz6 F_value_a1 E_a1 (Or.inr ⟨(hw _ (List.mem_of_getElem? (i := 46) rfl)), rfl, hnm⟩) (hw _ (List.mem_of_getElem? (i := 33) rfl)) (ty := .int) (by decide) rfl rfl (g := (mkF m 6 #[.val (.ref a1), .val (.int p2)] [(.int p2), (.ref a1)])) rfl rfl (hb hby own_d5_6)
  refine own_go stz7 ?_
  have Nz7 := Fr.snoc Xz7 Nz6 g_a1
  have F_value_a1_ := F_value_a1.same Wz7
  have E_a1 := E_a1.wr Wz7
  have K := K.wr Wz7 (Or.inl (List.mem_of_getElem? (i := 0) rfl))
  have F_value_a1 := F_value_a1_
  show own_Go _ _ _ _ Tz7 (mkF m 9 #[.val (.ref a1), .val (.int p2)] [])
  exact own_end Xz7 hlk (v := none) (fun _ => rfl) (fun fs hr => Xz7.returnOut hx hret (hb hby own_d5_9) hr) (by rw [ez7]; exact ⟨rfl, Nz7, K, E_a1⟩) (by decide) (by decide)
theorem own_ef3 (m : MethodId) (p1 : Int32) : entryFrame m #[(.int p1)] 1 = mkF m 0 #[.val (.int p1)] [] := by first | (simp [entryFrame, mkF, argsToLocals, Value.category]; done) | rfl
theorem own_d3_0 : decode jdk_33_method_22_code 0 = .ok (.iload_n 0, 1) := by decide +kernel
theorem own_d3_1 : decode jdk_33_method_22_code 1 = .ok (.bipush (-128), 2) := by decide +kernel
theorem own_d3_3 : decode jdk_33_method_22_code 3 = .ok (.if_icmp .lt 20, 3) := by decide +kernel
theorem own_d3_23 : decode jdk_33_method_22_code 23 = .ok (.new 1, 3) := by decide +kernel
theorem own_d3_26 : decode jdk_33_method_22_code 26 = .ok (.dup, 1) := by decide +kernel
theorem own_d3_27 : decode jdk_33_method_22_code 27 = .ok (.iload_n 0, 1) := by decide +kernel
theorem own_d3_28 : decode jdk_33_method_22_code 28 = .ok (.invokespecial 199, 3) := by decide +kernel
theorem own_pd1 : parseMethodDescriptor "(I)V" = some ⟨[.int], none⟩ := by decide +kernel
theorem own_d3_31 : decode jdk_33_method_22_code 31 = .ok (.areturn, 1) := by decide +kernel
theorem own_d3_6 : decode jdk_33_method_22_code 6 = .ok (.iload_n 0, 1) := by decide +kernel
theorem own_d3_7 : decode jdk_33_method_22_code 7 = .ok (.getstatic 191, 3) := by decide +kernel
theorem own_d3_10 : decode jdk_33_method_22_code 10 = .ok (.if_icmp .gt 13, 3) := by decide +kernel
theorem own_d3_13 : decode jdk_33_method_22_code 13 = .ok (.getstatic 195, 3) := by decide +kernel
theorem own_d3_16 : decode jdk_33_method_22_code 16 = .ok (.iload_n 0, 1) := by decide +kernel
theorem own_d3_17 : decode jdk_33_method_22_code 17 = .ok (.sipush 128, 3) := by decide +kernel
theorem own_d3_20 : decode jdk_33_method_22_code 20 = .ok (.iadd, 1) := by decide +kernel
theorem own_d3_21 : decode jdk_33_method_22_code 21 = .ok (.aaload, 1) := by decide +kernel
theorem own_d3_22 : decode jdk_33_method_22_code 22 = .ok (.areturn, 1) := by decide +kernel
def own_Q3 (Z : State) (p1 : Int32) (h0 : Heap) (n0 : Nat) (v : Option Value) (h : Heap) (L : List Loc) : Prop := ∃ w, v = some (.ref w) ∧ Fr n0 L ∧ Keep h0 h [] ∧ Exa Z h w "java/lang/Integer"
set_option maxRecDepth 65536 in
set_option maxHeartbeats 40000000 in
theorem own_rm3 (l : Launch) (Z : State) (a0 : Array Value) (hw : ∀ d ∈ tables_1, d.before a0 Z = true) (ws : List Jvm.Cond) (p1 : Int32) (h0 : Heap) (n0 : Nat) (ca : Addr) (cc : Cell) (O : Old Z n0 h0) (Sh : Sta Z Z.heap "java/lang/Integer$IntegerCache" "high" "I" (.int (127 : Int32))) (Sc : Sta Z Z.heap "java/lang/Integer$IntegerCache" "cache" "[Ljava/lang/Integer;" (.ref ca)) (A : Arr Z Z.heap ca cc (.object "java/lang/Integer")) (hsz : cc.slots.size = 256) (hel : ∀ j : Nat, j < 256 → ∃ w, cc.slots[j]? = some (.ref w) ∧ Exa Z Z.heap w "java/lang/Integer") :
    own_Met l Z (⟨"java/lang/Integer", "valueOf", "(I)Ljava/lang/Integer;"⟩ : MethodName) jdk_33_method_22_code 1 (some (.object "java/lang/Integer")) ws ({ frames := 3, cells := 1, slots := 1, locals := 40 } : Room) #[(.int p1)] h0 (own_Q3 Z p1 h0 n0) := by
  refine own_met (plainFor_of_name own_pn2) ?_
  intro p e s m below meth c s₁ X0 hx hZ hby hml hown hnm hret hlk e0
  have N0 := Fr.nil n0
  refine own_go (fun t k => castTop (own_ef3 m p1) k) ?_
  have K := Keep.refl h0 []
  show own_Go _ _ _ _ s₁ (mkF m 0 #[.val (.int p1)] [])
  refine own_go (fun _ k => XS.iloadN X0.here hx rfl (hb hby own_d3_0) rfl k) ?_
  show own_Go _ _ _ _ s₁ (mkF m 1 #[.val (.int p1)] [(.int p1)])
  refine own_go (fun _ k => XS.bipush X0.here hx rfl (hb hby own_d3_1) k) ?_
  show own_Go _ _ _ _ s₁ (mkF m 3 #[.val (.int p1)] [(.int (-128 : Int32)), (.int p1)])
  by_cases hC : p1 < (-128 : Int32)
  · refine own_go (fun _ k => XS.icmpYes X0.here hx rfl (pc0 := 3) (pc' := 23) rfl (hb hby own_d3_3) rfl (tlt hC).1 (by decide) (by decide) k) ?_
    show own_Go _ _ _ _ s₁ (mkF m 23 #[.val (.int p1)] [])
    obtain ⟨Tz8, hz8, Xz8, ez8, Ez8, Az8, Dz8, -, stz8⟩ := newO X0 hx hZ hown (hw _ (List.mem_of_getElem? (i := 32) rfl)) (hw _ (List.mem_of_getElem? (i := 33) rfl)) (hw _ (List.mem_of_getElem? (i := 17) rfl)) e0 (g := (mkF m 23 #[.val (.int p1)] [])) rfl (hb hby own_d3_23) (by decide) (by decide)
    obtain ⟨b, gz8⟩ : ∃ z, z = h0.size := ⟨_, rfl⟩
    rw [← gz8] at Az8 Dz8 stz8
    have g_b : n0 ≤ b := by rw [gz8, ← O.1]; exact O.2.1
    have sz_b : h0.size ≤ b := by rw [gz8]; exact K.1
    have O := O.ext Ez8
    have K := K.ext Ez8
    refine own_go stz8 ?_
    have E_b := Az8
    have F_value_b : Fld Z hz8 b "java/lang/Integer" "value" "I" (.int (0 : Int32)) := Dz8 (Or.inr (hw _ (List.mem_of_getElem? (i := 46) rfl))) (ty := .int) (by decide)
    show own_Go _ _ _ _ Tz8 (mkF m 26 #[.val (.int p1)] [(.ref b)])
    refine own_go (fun _ k => XS.dup Xz8.here hx rfl (hb hby own_d3_26) rfl rfl k) ?_
    show own_Go _ _ _ _ Tz8 (mkF m 27 #[.val (.int p1)] [(.ref b), (.ref b)])
    refine own_go (fun _ k => XS.iloadN Xz8.here hx rfl (hb hby own_d3_27) rfl k) ?_
    show own_Go _ _ _ _ Tz8 (mkF m 28 #[.val (.int p1)] [(.int p1), (.ref b), (.ref b)])
    obtain ⟨vz9, Tz9, Lz9, Xz9, hQz9, stz9⟩ := own_callI Xz8 hx hZ rfl hown (hw _ (List.mem_of_getElem? (i := 34) rfl)) (hw _ (List.mem_of_getElem? (i := 35) rfl)) (hw _ (List.mem_of_getElem? (i := 17) rfl)) (hw _ (List.mem_of_getElem? (i := 37) rfl)) (by decide) ez8 (own_rm5 l Z a0 hw [] b p1 hz8 n0 g_b E_b F_value_b) (W := 1) (by decide) (by decide) (by decide) (by decide) own_pd1 rfl (g := (mkF m 28 #[.val (.int p1)] [(.int p1), (.ref b), (.ref b)])) (argsL := [(.int p1)]) (rest := [(.ref b)]) rfl (by rw [hml]; rfl) rfl (by show 2 * 0 + _ ≤ _; exact Nat.le_of_eq rfl) (hb hby own_d3_28)
    obtain ⟨rfl, Nz9q, Kz9, c1_z9⟩ := hQz9
    have Nz9 := Fr.app N0 Nz9q
    refine own_go stz9 ?_
    have O := O.keep Kz9 (allS g_b all0)
    have K := K.trans Kz9 (allS (Or.inr sz_b) all0)
    have E_b := c1_z9
    show own_Go _ _ _ _ Tz9 (mkF m 31 #[.val (.int p1)] [(.ref b)])
    exact own_end Xz9 hlk (v := (some (.ref b))) (fun h => by rw [hret] at h; cases h) (fun fs hr => retOut Xz9 hx hret rfl (Or.inr (Or.inr (Or.inr (Or.inr ⟨rfl, rfl, rfl⟩)))) (hb hby own_d3_31) hr) ⟨b, rfl, Nz9, K, E_b⟩ (by decide) (by decide)
  · refine own_go (fun _ k => XS.icmpNo X0.here hx rfl (hb hby own_d3_3) rfl (flt hC).1 k) ?_
    show own_Go _ _ _ _ s₁ (mkF m 6 #[.val (.int p1)] [])
    refine own_go (fun _ k => XS.iloadN X0.here hx rfl (hb hby own_d3_6) rfl k) ?_
    show own_Go _ _ _ _ s₁ (mkF m 7 #[.val (.int p1)] [(.int p1)])
    obtain ⟨Tz10, Xz10, ez10, stz10⟩ := getS2 X0 hx hZ hown (host := "") (Or.inl (hw _ (List.mem_of_getElem? (i := 19) rfl))) Via.refl e0 (Sh.ext O.2) (g := (mkF m 7 #[.val (.int p1)] [(.int p1)])) rfl (hb hby own_d3_7)
    refine own_go stz10 ?_
    show own_Go _ _ _ _ Tz10 (mkF m 10 #[.val (.int p1)] [(.int (127 : Int32)), (.int p1)])
    by_cases hD : (127 : Int32) < p1
    · refine own_go (fun _ k => XS.icmpYes Xz10.here hx rfl (pc0 := 10) (pc' := 23) rfl (hb hby own_d3_10) rfl (tlt hD).2.2.1 (by decide) (by decide) k) ?_
      show own_Go _ _ _ _ Tz10 (mkF m 23 #[.val (.int p1)] [])
      obtain ⟨Tz11, hz11, Xz11, ez11, Ez11, Az11, Dz11, -, stz11⟩ := newO Xz10 hx hZ hown (hw _ (List.mem_of_getElem? (i := 32) rfl)) (hw _ (List.mem_of_getElem? (i := 33) rfl)) (hw _ (List.mem_of_getElem? (i := 17) rfl)) ez10 (g := (mkF m 23 #[.val (.int p1)] [])) rfl (hb hby own_d3_23) (by decide) (by decide)
      obtain ⟨b, gz11⟩ : ∃ z, z = h0.size := ⟨_, rfl⟩
      rw [← gz11] at Az11 Dz11 stz11
      have g_b : n0 ≤ b := by rw [gz11, ← O.1]; exact O.2.1
      have sz_b : h0.size ≤ b := by rw [gz11]; exact K.1
      have O := O.ext Ez11
      have K := K.ext Ez11
      refine own_go stz11 ?_
      have E_b := Az11
      have F_value_b : Fld Z hz11 b "java/lang/Integer" "value" "I" (.int (0 : Int32)) := Dz11 (Or.inr (hw _ (List.mem_of_getElem? (i := 46) rfl))) (ty := .int) (by decide)
      show own_Go _ _ _ _ Tz11 (mkF m 26 #[.val (.int p1)] [(.ref b)])
      refine own_go (fun _ k => XS.dup Xz11.here hx rfl (hb hby own_d3_26) rfl rfl k) ?_
      show own_Go _ _ _ _ Tz11 (mkF m 27 #[.val (.int p1)] [(.ref b), (.ref b)])
      refine own_go (fun _ k => XS.iloadN Xz11.here hx rfl (hb hby own_d3_27) rfl k) ?_
      show own_Go _ _ _ _ Tz11 (mkF m 28 #[.val (.int p1)] [(.int p1), (.ref b), (.ref b)])
      obtain ⟨vz12, Tz12, Lz12, Xz12, hQz12, stz12⟩ := own_callI Xz11 hx hZ rfl hown (hw _ (List.mem_of_getElem? (i := 34) rfl)) (hw _ (List.mem_of_getElem? (i := 35) rfl)) (hw _ (List.mem_of_getElem? (i := 17) rfl)) (hw _ (List.mem_of_getElem? (i := 37) rfl)) (by decide) ez11 (own_rm5 l Z a0 hw [] b p1 hz11 n0 g_b E_b F_value_b) (W := 1) (by decide) (by decide) (by decide) (by decide) own_pd1 rfl (g := (mkF m 28 #[.val (.int p1)] [(.int p1), (.ref b), (.ref b)])) (argsL := [(.int p1)]) (rest := [(.ref b)]) rfl (by rw [hml]; rfl) rfl (by show 2 * 0 + _ ≤ _; exact Nat.le_of_eq rfl) (hb hby own_d3_28)
      obtain ⟨rfl, Nz12q, Kz12, c1_z12⟩ := hQz12
      have Nz12 := Fr.app N0 Nz12q
      refine own_go stz12 ?_
      have O := O.keep Kz12 (allS g_b all0)
      have K := K.trans Kz12 (allS (Or.inr sz_b) all0)
      have E_b := c1_z12
      show own_Go _ _ _ _ Tz12 (mkF m 31 #[.val (.int p1)] [(.ref b)])
      exact own_end Xz12 hlk (v := (some (.ref b))) (fun h => by rw [hret] at h; cases h) (fun fs hr => retOut Xz12 hx hret rfl (Or.inr (Or.inr (Or.inr (Or.inr ⟨rfl, rfl, rfl⟩)))) (hb hby own_d3_31) hr) ⟨b, rfl, Nz12, K, E_b⟩ (by decide) (by decide)
    · refine own_go (fun _ k => XS.icmpNo Xz10.here hx rfl (hb hby own_d3_10) rfl (flt hD).2.2.1 k) ?_
      show own_Go _ _ _ _ Tz10 (mkF m 13 #[.val (.int p1)] [])
      obtain ⟨Tz13, Xz13, ez13, stz13⟩ := getS2 Xz10 hx hZ hown (host := "") (Or.inl (hw _ (List.mem_of_getElem? (i := 21) rfl))) Via.refl ez10 (Sc.ext O.2) (g := (mkF m 13 #[.val (.int p1)] [])) rfl (hb hby own_d3_13)
      refine own_go stz13 ?_
      show own_Go _ _ _ _ Tz13 (mkF m 16 #[.val (.int p1)] [(.ref ca)])
      refine own_go (fun _ k => XS.iloadN Xz13.here hx rfl (hb hby own_d3_16) rfl k) ?_
      show own_Go _ _ _ _ Tz13 (mkF m 17 #[.val (.int p1)] [(.int p1), (.ref ca)])
      refine own_go (fun _ k => XS.sipush Xz13.here hx rfl (hb hby own_d3_17) k) ?_
      show own_Go _ _ _ _ Tz13 (mkF m 20 #[.val (.int p1)] [(.int (128 : Int32)), (.int p1), (.ref ca)])
      refine own_go (fun _ k => XS.iadd Xz13.here hx rfl (hb hby own_d3_20) rfl k) ?_
      show own_Go _ _ _ _ Tz13 (mkF m 21 #[.val (.int p1)] [(.int (p1 + (128 : Int32))), (.ref ca)])
      obtain ⟨hin, hlt⟩ := IntBox.place_ok p1 hC hD
      obtain ⟨w, hwa, hwE⟩ := hel _ hlt
      have Ac := A.ext O.2
      refine own_go (fun _ k => Xz13.aaload hx (j := (p1 + (128 : Int32))) (v := (.ref w)) (by rw [ez13]; exact Ac.1) (State.isArrayOf_alike hZ.alike Ac.2.1) rfl Ac.2.2 (by rw [hsz]; exact hin) hwa (g := (mkF m 21 #[.val (.int p1)] [(.int (p1 + (128 : Int32))), (.ref ca)])) rfl rfl (hb hby own_d3_21) _ k) ?_
      show own_Go _ _ _ _ Tz13 (mkF m 22 #[.val (.int p1)] [(.ref w)])
      exact own_end Xz13 hlk (v := (some (.ref w))) (fun h => by rw [hret] at h; cases h) (fun fs hr => retOut Xz13 hx hret rfl (Or.inr (Or.inr (Or.inr (Or.inr ⟨rfl, rfl, rfl⟩)))) (hb hby own_d3_22) hr) (by rw [ez13]; exact ⟨w, rfl, N0, K, hwE.ext O.2⟩) (by decide) (by decide)
theorem own_efeqP (m : MethodId) (a1 : Addr) (a2 : Addr) : entryFrame m #[(.ref a1), (.ref a2)] 3 = mkF m 0 #[.val (.ref a1), .val (.ref a2), .unset] [] := by first | (simp [entryFrame, mkF, argsToLocals, Value.category]; done) | rfl
theorem own_d4_0 : decode prog_78_method_5_code 0 = .ok (.aload_n 1, 1) := by decide +kernel
theorem own_d4_1 : decode prog_78_method_5_code 1 = .ok (.instanceof 8, 3) := by decide +kernel
theorem own_d4_4 : decode prog_78_method_5_code 4 = .ok (.ifCond .ne 5, 3) := by decide +kernel
theorem own_d4_9 : decode prog_78_method_5_code 9 = .ok (.aload_n 1, 1) := by decide +kernel
theorem own_d4_10 : decode prog_78_method_5_code 10 = .ok (.checkcast 8, 3) := by decide +kernel
theorem own_d4_13 : decode prog_78_method_5_code 13 = .ok (.astore_n 2, 1) := by decide +kernel
theorem own_d4_14 : decode prog_78_method_5_code 14 = .ok (.aload_n 0, 1) := by decide +kernel
theorem own_d4_15 : decode prog_78_method_5_code 15 = .ok (.getfield 7, 3) := by decide +kernel
theorem own_d4_18 : decode prog_78_method_5_code 18 = .ok (.aload_n 2, 1) := by decide +kernel
theorem own_d4_19 : decode prog_78_method_5_code 19 = .ok (.getfield 7, 3) := by decide +kernel
theorem own_d4_22 : decode prog_78_method_5_code 22 = .ok (.if_icmp .ne 31, 3) := by decide +kernel
theorem own_d4_25 : decode prog_78_method_5_code 25 = .ok (.aload_n 0, 1) := by decide +kernel
theorem own_d4_26 : decode prog_78_method_5_code 26 = .ok (.getfield 13, 3) := by decide +kernel
theorem own_d4_29 : decode prog_78_method_5_code 29 = .ok (.aload_n 2, 1) := by decide +kernel
theorem own_d4_30 : decode prog_78_method_5_code 30 = .ok (.getfield 13, 3) := by decide +kernel
theorem own_d4_33 : decode prog_78_method_5_code 33 = .ok (.lcmp, 1) := by decide +kernel
theorem own_d4_34 : decode prog_78_method_5_code 34 = .ok (.ifCond .ne 19, 3) := by decide +kernel
theorem own_d4_37 : decode prog_78_method_5_code 37 = .ok (.aload_n 0, 1) := by decide +kernel
theorem own_d4_38 : decode prog_78_method_5_code 38 = .ok (.getfield 17, 3) := by decide +kernel
theorem own_d4_41 : decode prog_78_method_5_code 41 = .ok (.aload_n 2, 1) := by decide +kernel
theorem own_d4_42 : decode prog_78_method_5_code 42 = .ok (.getfield 17, 3) := by decide +kernel
theorem own_d4_45 : decode prog_78_method_5_code 45 = .ok (.lcmp, 1) := by decide +kernel
theorem own_d4_46 : decode prog_78_method_5_code 46 = .ok (.ifCond .ne 7, 3) := by decide +kernel
theorem own_d4_49 : decode prog_78_method_5_code 49 = .ok (.iconst 1, 1) := by decide +kernel
theorem own_d4_50 : decode prog_78_method_5_code 50 = .ok (.goto 4, 3) := by decide +kernel
theorem own_d4_54 : decode prog_78_method_5_code 54 = .ok (.ireturn, 1) := by decide +kernel
theorem own_d4_53 : decode prog_78_method_5_code 53 = .ok (.iconst 0, 1) := by decide +kernel
def own_QeqP (Z : State) (r : Int32) (h0 : Heap) (n0 : Nat) (v : Option Value) (h : Heap) (L : List Loc) : Prop := v = some (.int r) ∧ Fr n0 L ∧ h = h0
set_option maxRecDepth 65536 in
set_option maxHeartbeats 40000000 in
theorem own_rmeqP (l : Launch) (Z : State) (a0 : Array Value) (hw : ∀ d ∈ tables_1, d.before a0 Z = true) (ws : List Jvm.Cond) (a1 : Addr) (a2 : Addr) (h0 : Heap) (n0 : Nat) (i1 : Int32) (o1 l1 : Int64) (i2 : Int32) (o2 l2 : Int64) (r : Int32) (hr : (if i1 = i2 ∧ o1 = o2 ∧ l1 = l2 then (1 : Int32) else 0) = r) (E_a2 : Exa Z h0 a2 "com/example/bound_bundle/boundbundle/format/ApkSigningBlock$Pair") (F_id_a1 : Fld Z h0 a1 "com/example/bound_bundle/boundbundle/format/ApkSigningBlock$Pair" "id" "I" (.int i1)) (F_valueOffset_a1 : Fld Z h0 a1 "com/example/bound_bundle/boundbundle/format/ApkSigningBlock$Pair" "valueOffset" "J" (.long o1)) (F_valueLength_a1 : Fld Z h0 a1 "com/example/bound_bundle/boundbundle/format/ApkSigningBlock$Pair" "valueLength" "J" (.long l1)) (F_id_a2 : Fld Z h0 a2 "com/example/bound_bundle/boundbundle/format/ApkSigningBlock$Pair" "id" "I" (.int i2)) (F_valueOffset_a2 : Fld Z h0 a2 "com/example/bound_bundle/boundbundle/format/ApkSigningBlock$Pair" "valueOffset" "J" (.long o2)) (F_valueLength_a2 : Fld Z h0 a2 "com/example/bound_bundle/boundbundle/format/ApkSigningBlock$Pair" "valueLength" "J" (.long l2)) :
    own_Met l Z (⟨"com/example/bound_bundle/boundbundle/format/ApkSigningBlock$Pair", "equals", "(Ljava/lang/Object;)Z"⟩ : MethodName) prog_78_method_5_code 3 (some .boolean) ws ({ frames := 0, cells := 0, slots := 0, locals := 0 } : Room) #[(.ref a1), (.ref a2)] h0 (own_QeqP Z r h0 n0) := by
  refine own_met (plainFor_of_name own_pn0) ?_
  intro p e s m below meth c s₁ X0 hx hZ hby hml hown hnm hret hlk e0
  have N0 := Fr.nil n0
  refine own_go (fun t k => castTop (own_efeqP m a1 a2) k) ?_
  show own_Go _ _ _ _ s₁ (mkF m 0 #[.val (.ref a1), .val (.ref a2), .unset] [])
  refine own_go (fun _ k => XS.aloadN X0.here hx rfl (hb hby own_d4_0) rfl rfl k) ?_
  show own_Go _ _ _ _ s₁ (mkF m 1 #[.val (.ref a1), .val (.ref a2), .unset] [(.ref a2)])
  obtain ⟨Tz14, Xz14, ez14, stz14⟩ := instY X0 hx hZ hown (hw _ (List.mem_of_getElem? (i := 27) rfl)) e0 (Ins.self E_a2) (g := (mkF m 1 #[.val (.ref a1), .val (.ref a2), .unset] [(.ref a2)])) rfl rfl (hb hby own_d4_1)
  refine own_go stz14 ?_
  show own_Go _ _ _ _ Tz14 (mkF m 4 #[.val (.ref a1), .val (.ref a2), .unset] [(.int (1 : Int32))])
  refine own_go (fun _ k => XS.ifYes Xz14.here hx rfl (pc0 := 4) (pc' := 9) rfl (hb hby own_d4_4) rfl ((if0 _ _).trans (feq (by decide : ¬ ((1 : Int32) = (0 : Int32)))).2) (by decide) (by decide) k) ?_
  show own_Go _ _ _ _ Tz14 (mkF m 9 #[.val (.ref a1), .val (.ref a2), .unset] [])
  refine own_go (fun _ k => XS.aloadN Xz14.here hx rfl (hb hby own_d4_9) rfl rfl k) ?_
  show own_Go _ _ _ _ Tz14 (mkF m 10 #[.val (.ref a1), .val (.ref a2), .unset] [(.ref a2)])
  obtain ⟨Tz15, Xz15, ez15, stz15⟩ := castY Xz14 hx hZ hown (hw _ (List.mem_of_getElem? (i := 27) rfl)) ez14 (Ins.self E_a2) (g := (mkF m 10 #[.val (.ref a1), .val (.ref a2), .unset] [(.ref a2)])) rfl rfl (hb hby own_d4_10)
  refine own_go stz15 ?_
  show own_Go _ _ _ _ Tz15 (mkF m 13 #[.val (.ref a1), .val (.ref a2), .unset] [(.ref a2)])
  refine own_go (fun _ k => XS.astoreN Xz15.here hx rfl (hb hby own_d4_13) rfl rfl (l' := #[.val (.ref a1), .val (.ref a2), .val (.ref a2)]) rfl k) ?_
  show own_Go _ _ _ _ Tz15 (mkF m 14 #[.val (.ref a1), .val (.ref a2), .val (.ref a2)] [])
  refine own_go (fun _ k => XS.aloadN Xz15.here hx rfl (hb hby own_d4_14) rfl rfl k) ?_
  show own_Go _ _ _ _ Tz15 (mkF m 15 #[.val (.ref a1), .val (.ref a2), .val (.ref a2)] [(.ref a1)])
  obtain ⟨Tz16, Xz16, ez16, stz16⟩ := getF Xz15 hx hZ hown (host := "") (Or.inl (hw _ (List.mem_of_getElem? (i := 9) rfl))) Via.refl ez15 F_id_a1 (g := (mkF m 15 #[.val (.ref a1), .val (.ref a2), .val (.ref a2)] [(.ref a1)])) rfl rfl (hb hby own_d4_15)
  refine own_go stz16 ?_
  show own_Go _ _ _ _ Tz16 (mkF m 18 #[.val (.ref a1), .val (.ref a2), .val (.ref a2)] [(.int i1)])
  refine own_go (fun _ k => XS.aloadN Xz16.here hx rfl (hb hby own_d4_18) rfl rfl k) ?_
  show own_Go _ _ _ _ Tz16 (mkF m 19 #[.val (.ref a1), .val (.ref a2), .val (.ref a2)] [(.ref a2), (.int i1)])
  obtain ⟨Tz17, Xz17, ez17, stz17⟩ := getF Xz16 hx hZ hown (host := "") (Or.inl (hw _ (List.mem_of_getElem? (i := 9) rfl))) Via.refl ez16 F_id_a2 (g := (mkF m 19 #[.val (.ref a1), .val (.ref a2), .val (.ref a2)] [(.ref a2), (.int i1)])) rfl rfl (hb hby own_d4_19)
  refine own_go stz17 ?_
  show own_Go _ _ _ _ Tz17 (mkF m 22 #[.val (.ref a1), .val (.ref a2), .val (.ref a2)] [(.int i2), (.int i1)])
  by_cases h1 : i1 = i2
  · refine own_go (fun _ k => XS.icmpNo Xz17.here hx rfl (hb hby own_d4_22) rfl (teq h1).2 k) ?_
    show own_Go _ _ _ _ Tz17 (mkF m 25 #[.val (.ref a1), .val (.ref a2), .val (.ref a2)] [])
    refine own_go (fun _ k => XS.aloadN Xz17.here hx rfl (hb hby own_d4_25) rfl rfl k) ?_
    show own_Go _ _ _ _ Tz17 (mkF m 26 #[.val (.ref a1), .val (.ref a2), .val (.ref a2)] [(.ref a1)])
    obtain ⟨Tz18, Xz18, ez18, stz18⟩ := getF Xz17 hx hZ hown (host := "") (Or.inl (hw _ (List.mem_of_getElem? (i := 11) rfl))) Via.refl ez17 F_valueOffset_a1 (g := (mkF m 26 #[.val (.ref a1), .val (.ref a2), .val (.ref a2)] [(.ref a1)])) rfl rfl (hb hby own_d4_26)
    refine own_go stz18 ?_
    show own_Go _ _ _ _ Tz18 (mkF m 29 #[.val (.ref a1), .val (.ref a2), .val (.ref a2)] [(.long o1)])
    refine own_go (fun _ k => XS.aloadN Xz18.here hx rfl (hb hby own_d4_29) rfl rfl k) ?_
    show own_Go _ _ _ _ Tz18 (mkF m 30 #[.val (.ref a1), .val (.ref a2), .val (.ref a2)] [(.ref a2), (.long o1)])
    obtain ⟨Tz19, Xz19, ez19, stz19⟩ := getF Xz18 hx hZ hown (host := "") (Or.inl (hw _ (List.mem_of_getElem? (i := 11) rfl))) Via.refl ez18 F_valueOffset_a2 (g := (mkF m 30 #[.val (.ref a1), .val (.ref a2), .val (.ref a2)] [(.ref a2), (.long o1)])) rfl rfl (hb hby own_d4_30)
    refine own_go stz19 ?_
    show own_Go _ _ _ _ Tz19 (mkF m 33 #[.val (.ref a1), .val (.ref a2), .val (.ref a2)] [(.long o2), (.long o1)])
    refine own_go (fun _ k => XS.lcmp Xz19.here hx rfl (hb hby own_d4_33) rfl k) ?_
    show own_Go _ _ _ _ Tz19 (mkF m 34 #[.val (.ref a1), .val (.ref a2), .val (.ref a2)] [(.int (lcmpW o1 o2))])
    by_cases h2 : (lcmpW o1 o2) = (0 : Int32)
    · refine own_go (fun _ k => XS.ifNo Xz19.here hx rfl (hb hby own_d4_34) rfl ((if0 _ _).trans (teq h2).2) k) ?_
      show own_Go _ _ _ _ Tz19 (mkF m 37 #[.val (.ref a1), .val (.ref a2), .val (.ref a2)] [])
      refine own_go (fun _ k => XS.aloadN Xz19.here hx rfl (hb hby own_d4_37) rfl rfl k) ?_
      show own_Go _ _ _ _ Tz19 (mkF m 38 #[.val (.ref a1), .val (.ref a2), .val (.ref a2)] [(.ref a1)])
      obtain ⟨Tz20, Xz20, ez20, stz20⟩ := getF Xz19 hx hZ hown (host := "") (Or.inl (hw _ (List.mem_of_getElem? (i := 13) rfl))) Via.refl ez19 F_valueLength_a1 (g := (mkF m 38 #[.val (.ref a1), .val (.ref a2), .val (.ref a2)] [(.ref a1)])) rfl rfl (hb hby own_d4_38)
      refine own_go stz20 ?_
      show own_Go _ _ _ _ Tz20 (mkF m 41 #[.val (.ref a1), .val (.ref a2), .val (.ref a2)] [(.long l1)])
      refine own_go (fun _ k => XS.aloadN Xz20.here hx rfl (hb hby own_d4_41) rfl rfl k) ?_
      show own_Go _ _ _ _ Tz20 (mkF m 42 #[.val (.ref a1), .val (.ref a2), .val (.ref a2)] [(.ref a2), (.long l1)])
      obtain ⟨Tz21, Xz21, ez21, stz21⟩ := getF Xz20 hx hZ hown (host := "") (Or.inl (hw _ (List.mem_of_getElem? (i := 13) rfl))) Via.refl ez20 F_valueLength_a2 (g := (mkF m 42 #[.val (.ref a1), .val (.ref a2), .val (.ref a2)] [(.ref a2), (.long l1)])) rfl rfl (hb hby own_d4_42)
      refine own_go stz21 ?_
      show own_Go _ _ _ _ Tz21 (mkF m 45 #[.val (.ref a1), .val (.ref a2), .val (.ref a2)] [(.long l2), (.long l1)])
      refine own_go (fun _ k => XS.lcmp Xz21.here hx rfl (hb hby own_d4_45) rfl k) ?_
      show own_Go _ _ _ _ Tz21 (mkF m 46 #[.val (.ref a1), .val (.ref a2), .val (.ref a2)] [(.int (lcmpW l1 l2))])
      by_cases h3 : (lcmpW l1 l2) = (0 : Int32)
      · refine own_go (fun _ k => XS.ifNo Xz21.here hx rfl (hb hby own_d4_46) rfl ((if0 _ _).trans (teq h3).2) k) ?_
        show own_Go _ _ _ _ Tz21 (mkF m 49 #[.val (.ref a1), .val (.ref a2), .val (.ref a2)] [])
        refine own_go (fun _ k => XS.iconst Xz21.here hx rfl (hb hby own_d4_49) k) ?_
        show own_Go _ _ _ _ Tz21 (mkF m 50 #[.val (.ref a1), .val (.ref a2), .val (.ref a2)] [(.int (1 : Int32))])
        refine own_go (fun _ k => XS.goto Xz21.here hx rfl (pc0 := 50) (pc' := 54) rfl (hb hby own_d4_50) (by decide) (by decide) k) ?_
        show own_Go _ _ _ _ Tz21 (mkF m 54 #[.val (.ref a1), .val (.ref a2), .val (.ref a2)] [(.int (1 : Int32))])
        exact own_end Xz21 hlk (v := (some (.int (1 : Int32)))) (fun h => by rw [hret] at h; cases h) (fun fs hr => retN Xz21 hx (t := .boolean) hret (by simp) (hb hby own_d4_54) hr) (by rw [ez21]; exact ⟨by rw [← hr, if_pos (c := i1 = i2 ∧ o1 = o2 ∧ l1 = l2) ⟨h1, (lw_eq _ _).mp h2, (lw_eq _ _).mp h3⟩], N0, rfl⟩) (by decide) (by decide)
      · refine own_go (fun _ k => XS.ifYes Xz21.here hx rfl (pc0 := 46) (pc' := 53) rfl (hb hby own_d4_46) rfl ((if0 _ _).trans (feq h3).2) (by decide) (by decide) k) ?_
        show own_Go _ _ _ _ Tz21 (mkF m 53 #[.val (.ref a1), .val (.ref a2), .val (.ref a2)] [])
        refine own_go (fun _ k => XS.iconst Xz21.here hx rfl (hb hby own_d4_53) k) ?_
        show own_Go _ _ _ _ Tz21 (mkF m 54 #[.val (.ref a1), .val (.ref a2), .val (.ref a2)] [(.int (0 : Int32))])
        exact own_end Xz21 hlk (v := (some (.int (0 : Int32)))) (fun h => by rw [hret] at h; cases h) (fun fs hr => retN Xz21 hx (t := .boolean) hret (by simp) (hb hby own_d4_54) hr) (by rw [ez21]; exact ⟨by rw [← hr, if_neg (c := i1 = i2 ∧ o1 = o2 ∧ l1 = l2) (fun q => h3 ((lw_eq _ _).mpr q.2.2))], N0, rfl⟩) (by decide) (by decide)
    · refine own_go (fun _ k => XS.ifYes Xz19.here hx rfl (pc0 := 34) (pc' := 53) rfl (hb hby own_d4_34) rfl ((if0 _ _).trans (feq h2).2) (by decide) (by decide) k) ?_
      show own_Go _ _ _ _ Tz19 (mkF m 53 #[.val (.ref a1), .val (.ref a2), .val (.ref a2)] [])
      refine own_go (fun _ k => XS.iconst Xz19.here hx rfl (hb hby own_d4_53) k) ?_
      show own_Go _ _ _ _ Tz19 (mkF m 54 #[.val (.ref a1), .val (.ref a2), .val (.ref a2)] [(.int (0 : Int32))])
      exact own_end Xz19 hlk (v := (some (.int (0 : Int32)))) (fun h => by rw [hret] at h; cases h) (fun fs hr => retN Xz19 hx (t := .boolean) hret (by simp) (hb hby own_d4_54) hr) (by rw [ez19]; exact ⟨by rw [← hr, if_neg (c := i1 = i2 ∧ o1 = o2 ∧ l1 = l2) (fun q => h2 ((lw_eq _ _).mpr q.2.1))], N0, rfl⟩) (by decide) (by decide)
  · refine own_go (fun _ k => XS.icmpYes Xz17.here hx rfl (pc0 := 22) (pc' := 53) rfl (hb hby own_d4_22) rfl (feq h1).2 (by decide) (by decide) k) ?_
    show own_Go _ _ _ _ Tz17 (mkF m 53 #[.val (.ref a1), .val (.ref a2), .val (.ref a2)] [])
    refine own_go (fun _ k => XS.iconst Xz17.here hx rfl (hb hby own_d4_53) k) ?_
    show own_Go _ _ _ _ Tz17 (mkF m 54 #[.val (.ref a1), .val (.ref a2), .val (.ref a2)] [(.int (0 : Int32))])
    exact own_end Xz17 hlk (v := (some (.int (0 : Int32)))) (fun h => by rw [hret] at h; cases h) (fun fs hr => retN Xz17 hx (t := .boolean) hret (by simp) (hb hby own_d4_54) hr) (by rw [ez17]; exact ⟨by rw [← hr, if_neg (c := i1 = i2 ∧ o1 = o2 ∧ l1 = l2) (fun q => h1 q.1)], N0, rfl⟩) (by decide) (by decide)
theorem own_efeqN (m : MethodId) (a1 : Addr) : entryFrame m #[(.ref a1), .null] 3 = mkF m 0 #[.val (.ref a1), .val .null, .unset] [] := by first | (simp [entryFrame, mkF, argsToLocals, Value.category]; done) | rfl
theorem own_d4_7 : decode prog_78_method_5_code 7 = .ok (.iconst 0, 1) := by decide +kernel
theorem own_d4_8 : decode prog_78_method_5_code 8 = .ok (.ireturn, 1) := by decide +kernel
def own_QeqN (Z : State) (a1 : Addr) (h0 : Heap) (n0 : Nat) (v : Option Value) (h : Heap) (L : List Loc) : Prop := v = some (.int (0 : Int32)) ∧ Fr n0 L ∧ h = h0
set_option maxRecDepth 65536 in
set_option maxHeartbeats 40000000 in
theorem own_rmeqN (l : Launch) (Z : State) (a0 : Array Value) (hw : ∀ d ∈ tables_1, d.before a0 Z = true) (ws : List Jvm.Cond) (a1 : Addr) (h0 : Heap) (n0 : Nat)  :
    own_Met l Z (⟨"com/example/bound_bundle/boundbundle/format/ApkSigningBlock$Pair", "equals", "(Ljava/lang/Object;)Z"⟩ : MethodName) prog_78_method_5_code 3 (some .boolean) ws ({ frames := 0, cells := 0, slots := 0, locals := 0 } : Room) #[(.ref a1), .null] h0 (own_QeqN Z a1 h0 n0) := by
  refine own_met (plainFor_of_name own_pn0) ?_
  intro p e s m below meth c s₁ X0 hx hZ hby hml hown hnm hret hlk e0
  have N0 := Fr.nil n0
  refine own_go (fun t k => castTop (own_efeqN m a1) k) ?_
  show own_Go _ _ _ _ s₁ (mkF m 0 #[.val (.ref a1), .val .null, .unset] [])
  refine own_go (fun _ k => XS.aloadN X0.here hx rfl (hb hby own_d4_0) rfl rfl k) ?_
  show own_Go _ _ _ _ s₁ (mkF m 1 #[.val (.ref a1), .val .null, .unset] [.null])
  refine own_go (fun _ k => X0.instanceofNull hx (g := (mkF m 1 #[.val (.ref a1), .val .null, .unset] [.null])) rfl rfl (hb hby own_d4_1) _ k) ?_
  show own_Go _ _ _ _ s₁ (mkF m 4 #[.val (.ref a1), .val .null, .unset] [(.int (0 : Int32))])
  refine own_go (fun _ k => XS.ifNo X0.here hx rfl (hb hby own_d4_4) rfl ((if0 _ _).trans (teq (by decide : (0 : Int32) = (0 : Int32))).2) k) ?_
  show own_Go _ _ _ _ s₁ (mkF m 7 #[.val (.ref a1), .val .null, .unset] [])
  refine own_go (fun _ k => XS.iconst X0.here hx rfl (hb hby own_d4_7) k) ?_
  show own_Go _ _ _ _ s₁ (mkF m 8 #[.val (.ref a1), .val .null, .unset] [(.int (0 : Int32))])
  exact own_end X0 hlk (v := (some (.int (0 : Int32)))) (fun h => by rw [hret] at h; cases h) (fun fs hr => retN X0 hx (t := .boolean) hret (by simp) (hb hby own_d4_8) hr) (by rw [e0]; exact ⟨rfl, N0, rfl⟩) (by decide) (by decide)
theorem own_efeqX (m : MethodId) (a1 : Addr) (a2 : Addr) : entryFrame m #[(.ref a1), (.ref a2)] 3 = mkF m 0 #[.val (.ref a1), .val (.ref a2), .unset] [] := by first | (simp [entryFrame, mkF, argsToLocals, Value.category]; done) | rfl
def own_QeqX (Z : State) (a1 : Addr) (h0 : Heap) (n0 : Nat) (v : Option Value) (h : Heap) (L : List Loc) : Prop := v = some (.int (0 : Int32)) ∧ Fr n0 L ∧ h = h0
set_option maxRecDepth 65536 in
set_option maxHeartbeats 40000000 in
theorem own_rmeqX (l : Launch) (Z : State) (a0 : Array Value) (hw : ∀ d ∈ tables_1, d.before a0 Z = true) (ws : List Jvm.Cond) (a1 : Addr) (a2 : Addr) (h0 : Heap) (n0 : Nat) (E_a2 : Exa Z h0 a2 "java/lang/Integer") :
    own_Met l Z (⟨"com/example/bound_bundle/boundbundle/format/ApkSigningBlock$Pair", "equals", "(Ljava/lang/Object;)Z"⟩ : MethodName) prog_78_method_5_code 3 (some .boolean) ws ({ frames := 0, cells := 0, slots := 0, locals := 0 } : Room) #[(.ref a1), (.ref a2)] h0 (own_QeqX Z a1 h0 n0) := by
  refine own_met (plainFor_of_name own_pn0) ?_
  intro p e s m below meth c s₁ X0 hx hZ hby hml hown hnm hret hlk e0
  have N0 := Fr.nil n0
  refine own_go (fun t k => castTop (own_efeqX m a1 a2) k) ?_
  show own_Go _ _ _ _ s₁ (mkF m 0 #[.val (.ref a1), .val (.ref a2), .unset] [])
  refine own_go (fun _ k => XS.aloadN X0.here hx rfl (hb hby own_d4_0) rfl rfl k) ?_
  show own_Go _ _ _ _ s₁ (mkF m 1 #[.val (.ref a1), .val (.ref a2), .unset] [(.ref a2)])
  obtain ⟨Tz23, Xz23, ez23, stz23⟩ := instNo X0 hx hZ hown (hw _ (List.mem_of_getElem? (i := 27) rfl)) e0 E_a2 (own_NSno (hw _ (List.mem_of_getElem? (i := 29) rfl)) (hw _ (List.mem_of_getElem? (i := 1) rfl)) (NS.step (hw _ (List.mem_of_getElem? (i := 29) rfl)) (NS.step (hw _ (List.mem_of_getElem? (i := 30) rfl)) (own_NSroot (hw _ (List.mem_of_getElem? (i := 31) rfl)) (hw _ (List.mem_of_getElem? (i := 1) rfl)) (by decide)) (by decide)) (by decide)) (by decide)) (g := (mkF m 1 #[.val (.ref a1), .val (.ref a2), .unset] [(.ref a2)])) rfl rfl (hb hby own_d4_1)
  refine own_go stz23 ?_
  show own_Go _ _ _ _ Tz23 (mkF m 4 #[.val (.ref a1), .val (.ref a2), .unset] [(.int (0 : Int32))])
  refine own_go (fun _ k => XS.ifNo Xz23.here hx rfl (hb hby own_d4_4) rfl ((if0 _ _).trans (teq (by decide : (0 : Int32) = (0 : Int32))).2) k) ?_
  show own_Go _ _ _ _ Tz23 (mkF m 7 #[.val (.ref a1), .val (.ref a2), .unset] [])
  refine own_go (fun _ k => XS.iconst Xz23.here hx rfl (hb hby own_d4_7) k) ?_
  show own_Go _ _ _ _ Tz23 (mkF m 8 #[.val (.ref a1), .val (.ref a2), .unset] [(.int (0 : Int32))])
  exact own_end Xz23 hlk (v := (some (.int (0 : Int32)))) (fun h => by rw [hret] at h; cases h) (fun fs hr => retN Xz23 hx (t := .boolean) hret (by simp) (hb hby own_d4_8) hr) (by rw [ez23]; exact ⟨rfl, N0, rfl⟩) (by decide) (by decide)
theorem own_addz32 (a b : Int32) : a = a + b ↔ b = 0 := by
  constructor
  · intro h
    have q := c_iadd a b
    rw [← h] at q
    have r := rng32 b
    apply Int32.toInt_inj.mp
    have k : (0 : Int32).toInt = 0 := rfl
    omega
  · intro h; rw [h]; apply Int32.toInt_inj.mp; have q := c_iadd a 0; have r := rng32 a; have r2 := rng32 (a + 0); have k : (0 : Int32).toInt = 0 := rfl; omega
theorem own_addz64 (a b : Int64) : a = a + b ↔ b = 0 := by
  constructor
  · intro h
    have q := c_ladd a b
    rw [← h] at q
    have r := rng64 b
    apply Int64.toInt_inj.mp
    have k : (0 : Int64).toInt = 0 := rfl
    omega
  · intro h; rw [h]; apply Int64.toInt_inj.mp; have q := c_ladd a 0; have r := rng64 a; have r2 := rng64 (a + 0); have k : (0 : Int64).toInt = 0 := rfl; omega
theorem own_ex (i d : Int32) (o x l y : Int64) (ex : Int32) (h : ex = (if d = (0 : Int32) then (if (lcmpW x (0 : Int64)) = (0 : Int32) then (if (lcmpW y (0 : Int64)) = (0 : Int32) then (1 : Int32) else (0 : Int32)) else (0 : Int32)) else (0 : Int32))) :
    (if i = i + d ∧ o = o + x ∧ l = l + y then (1 : Int32) else 0) = ex ∧ (if i + d = i ∧ o + x = o ∧ l + y = l then (1 : Int32) else 0) = ex := by
  have e : (if i = i + d ∧ o = o + x ∧ l = l + y then (1 : Int32) else 0) = ex := by
    rw [h]
    simp only [lw_eq, own_addz32, own_addz64]
    by_cases a : d = 0 <;> by_cases b : x = 0 <;> by_cases c : y = 0 <;> simp [a, b, c]
  refine ⟨e, ?_⟩
  rw [← e]
  congr 1
  exact propext ⟨fun q => ⟨q.1.symm, q.2.1.symm, q.2.2.symm⟩, fun q => ⟨q.1.symm, q.2.1.symm, q.2.2.symm⟩⟩
theorem own_ef0 (m : MethodId) (p1 : Int32) (q2 : Int64) (q3 : Int64) (p4 : Int32) (q5 : Int64) (q6 : Int64) : entryFrame m #[(.int p1), (.long q2), (.long q3), (.int p4), (.long q5), (.long q6)] maxLocals = mkF m 0 #[.val (.int p1), .val (.long q2), .second, .val (.long q3), .second, .val (.int p4), .val (.long q5), .second, .val (.long q6), .second, .unset, .unset, .unset, .unset, .unset] [] := by first | (simp [entryFrame, mkF, argsToLocals, Value.category, maxLocals]; done) | rfl
theorem own_pd2 : parseMethodDescriptor "(IJJ)V" = some ⟨[.int, .long, .long], none⟩ := by decide +kernel
theorem own_pd3 : parseMethodDescriptor "(I)Ljava/lang/Integer;" = some ⟨[.int], some (.object "java/lang/Integer")⟩ := by decide +kernel
theorem own_pd4 : parseMethodDescriptor "(Ljava/lang/Object;)Z" = some ⟨[(.object "java/lang/Object")], some .boolean⟩ := by decide +kernel
theorem own_pn3 : plainName "com/example/bound_bundle/boundbundle/format/PairEqualsPinLaw" = true := by first | (simp [plainName, overriddenIn]; done) | decide +kernel
def own_Q0 (Z : State) (p1 : Int32) (h0 : Heap) (n0 : Nat) (v : Option Value) (h : Heap) (L : List Loc) : Prop := v = some (.int 1) ∧ Fr n0 L
set_option maxRecDepth 65536 in
set_option maxHeartbeats 40000000 in
theorem own_rm0 (l : Launch) (Z : State) (a0 : Array Value) (hw : ∀ d ∈ tables_1, d.before a0 Z = true) (ws : List Jvm.Cond) (p1 : Int32) (q2 : Int64) (q3 : Int64) (p4 : Int32) (q5 : Int64) (q6 : Int64) (h0 : Heap) (n0 : Nat) (ca : Addr) (cc : Cell) (O : Old Z n0 h0) (Sh : Sta Z Z.heap "java/lang/Integer$IntegerCache" "high" "I" (.int (127 : Int32))) (Sc : Sta Z Z.heap "java/lang/Integer$IntegerCache" "cache" "[Ljava/lang/Integer;" (.ref ca)) (A : Arr Z Z.heap ca cc (.object "java/lang/Integer")) (hsz : cc.slots.size = 256) (hel : ∀ j : Nat, j < 256 → ∃ w, cc.slots[j]? = some (.ref w) ∧ Exa Z Z.heap w "java/lang/Integer") :
    own_Met l Z x code maxLocals ret ws room_1 #[(.int p1), (.long q2), (.long q3), (.int p4), (.long q5), (.long q6)] h0 (own_Q0 Z p1 h0 n0) := by
  refine own_met (plainFor_of_name own_pn3) ?_
  intro p e s m below meth c s₁ X0 hx hZ hby hml hown hnm hret hlk e0
  have N0 := Fr.nil n0
  refine own_go (fun t k => castTop (own_ef0 m p1 q2 q3 p4 q5 q6) k) ?_
  show own_Go _ _ _ _ s₁ (mkF m 0 #[.val (.int p1), .val (.long q2), .second, .val (.long q3), .second, .val (.int p4), .val (.long q5), .second, .val (.long q6), .second, .unset, .unset, .unset, .unset, .unset] [])
  obtain ⟨Tz24, hz24, Xz24, ez24, Ez24, Az24, Dz24, -, stz24⟩ := newO X0 hx hZ hown (hw _ (List.mem_of_getElem? (i := 0) rfl)) (hw _ (List.mem_of_getElem? (i := 1) rfl)) (hw _ (List.mem_of_getElem? (i := 2) rfl)) e0 (g := (mkF m 0 #[.val (.int p1), .val (.long q2), .second, .val (.long q3), .second, .val (.int p4), .val (.long q5), .second, .val (.long q6), .second, .unset, .unset, .unset, .unset, .unset] [])) rfl (hb hby at_0) (by decide) (by decide)
  obtain ⟨ba, gz24⟩ : ∃ z, z = h0.size := ⟨_, rfl⟩
  rw [← gz24] at Az24 Dz24 stz24
  have g_ba : n0 ≤ ba := by rw [gz24, ← O.1]; exact O.2.1
  have O := O.ext Ez24
  refine own_go stz24 ?_
  have E_ba := Az24
  have F_id_ba : Fld Z hz24 ba "com/example/bound_bundle/boundbundle/format/ApkSigningBlock$Pair" "id" "I" (.int (0 : Int32)) := Dz24 (Or.inr (hw _ (List.mem_of_getElem? (i := 10) rfl))) (ty := .int) (by decide)
  have F_valueOffset_ba : Fld Z hz24 ba "com/example/bound_bundle/boundbundle/format/ApkSigningBlock$Pair" "valueOffset" "J" (.long (0 : Int64)) := Dz24 (Or.inr (hw _ (List.mem_of_getElem? (i := 12) rfl))) (ty := .long) (by decide)
  have F_valueLength_ba : Fld Z hz24 ba "com/example/bound_bundle/boundbundle/format/ApkSigningBlock$Pair" "valueLength" "J" (.long (0 : Int64)) := Dz24 (Or.inr (hw _ (List.mem_of_getElem? (i := 14) rfl))) (ty := .long) (by decide)
  show own_Go _ _ _ _ Tz24 (mkF m 3 #[.val (.int p1), .val (.long q2), .second, .val (.long q3), .second, .val (.int p4), .val (.long q5), .second, .val (.long q6), .second, .unset, .unset, .unset, .unset, .unset] [(.ref ba)])
  refine own_go (fun _ k => XS.dup Xz24.here hx rfl (hb hby at_3) rfl rfl k) ?_
  show own_Go _ _ _ _ Tz24 (mkF m 4 #[.val (.int p1), .val (.long q2), .second, .val (.long q3), .second, .val (.int p4), .val (.long q5), .second, .val (.long q6), .second, .unset, .unset, .unset, .unset, .unset] [(.ref ba), (.ref ba)])
  refine own_go (fun _ k => XS.iloadN Xz24.here hx rfl (hb hby at_4) rfl k) ?_
  show own_Go _ _ _ _ Tz24 (mkF m 5 #[.val (.int p1), .val (.long q2), .second, .val (.long q3), .second, .val (.int p4), .val (.long q5), .second, .val (.long q6), .second, .unset, .unset, .unset, .unset, .unset] [(.int p1), (.ref ba), (.ref ba)])
  refine own_go (fun _ k => XS.lloadN Xz24.here hx rfl (hb hby at_5) rfl k) ?_
  show own_Go _ _ _ _ Tz24 (mkF m 6 #[.val (.int p1), .val (.long q2), .second, .val (.long q3), .second, .val (.int p4), .val (.long q5), .second, .val (.long q6), .second, .unset, .unset, .unset, .unset, .unset] [(.long q2), (.int p1), (.ref ba), (.ref ba)])
  refine own_go (fun _ k => XS.lloadN Xz24.here hx rfl (hb hby at_6) rfl k) ?_
  show own_Go _ _ _ _ Tz24 (mkF m 7 #[.val (.int p1), .val (.long q2), .second, .val (.long q3), .second, .val (.int p4), .val (.long q5), .second, .val (.long q6), .second, .unset, .unset, .unset, .unset, .unset] [(.long q3), (.long q2), (.int p1), (.ref ba), (.ref ba)])
  obtain ⟨vz25, Tz25, Lz25, Xz25, hQz25, stz25⟩ := own_callI Xz24 hx hZ rfl hown (hw _ (List.mem_of_getElem? (i := 3) rfl)) (hw _ (List.mem_of_getElem? (i := 4) rfl)) (hw _ (List.mem_of_getElem? (i := 2) rfl)) (hw _ (List.mem_of_getElem? (i := 5) rfl)) (by decide) ez24 (own_rm1 l Z a0 hw [] ba p1 q2 q3 hz24 n0 g_ba E_ba F_id_ba F_valueOffset_ba F_valueLength_ba) (W := 1) (by decide) (by decide) (by decide) (by decide) own_pd2 rfl (g := (mkF m 7 #[.val (.int p1), .val (.long q2), .second, .val (.long q3), .second, .val (.int p4), .val (.long q5), .second, .val (.long q6), .second, .unset, .unset, .unset, .unset, .unset] [(.long q3), (.long q2), (.int p1), (.ref ba), (.ref ba)])) (argsL := [(.int p1), (.long q2), (.long q3)]) (rest := [(.ref ba)]) rfl (by rw [hml]; rfl) rfl (by show 2 * 0 + _ ≤ _; exact Nat.le_of_eq rfl) (hb hby at_7)
  obtain ⟨rfl, Nz25q, Kz25, c0_z25, c1_z25, c2_z25, c3_z25⟩ := hQz25
  have Nz25 := Fr.app N0 Nz25q
  refine own_go stz25 ?_
  have O := O.keep Kz25 (allS g_ba all0)
  have E_ba := c0_z25
  have F_id_ba := c1_z25
  have F_valueOffset_ba := c2_z25
  have F_valueLength_ba := c3_z25
  show own_Go _ _ _ _ Tz25 (mkF m 10 #[.val (.int p1), .val (.long q2), .second, .val (.long q3), .second, .val (.int p4), .val (.long q5), .second, .val (.long q6), .second, .unset, .unset, .unset, .unset, .unset] [(.ref ba)])
  refine own_go (fun _ k => XS.astore Xz25.here hx rfl (hb hby at_10) rfl rfl (l' := #[.val (.int p1), .val (.long q2), .second, .val (.long q3), .second, .val (.int p4), .val (.long q5), .second, .val (.long q6), .second, .val (.ref ba), .unset, .unset, .unset, .unset]) rfl k) ?_
  show own_Go _ _ _ _ Tz25 (mkF m 12 #[.val (.int p1), .val (.long q2), .second, .val (.long q3), .second, .val (.int p4), .val (.long q5), .second, .val (.long q6), .second, .val (.ref ba), .unset, .unset, .unset, .unset] [])
  obtain ⟨Tz26, hz26, Xz26, ez26, Ez26, Az26, Dz26, -, stz26⟩ := newO Xz25 hx hZ hown (hw _ (List.mem_of_getElem? (i := 0) rfl)) (hw _ (List.mem_of_getElem? (i := 1) rfl)) (hw _ (List.mem_of_getElem? (i := 2) rfl)) rfl (g := (mkF m 12 #[.val (.int p1), .val (.long q2), .second, .val (.long q3), .second, .val (.int p4), .val (.long q5), .second, .val (.long q6), .second, .val (.ref ba), .unset, .unset, .unset, .unset] [])) rfl (hb hby at_12) (by decide) (by decide)
  obtain ⟨bb, gz26⟩ : ∃ z, z = Tz25.heap.size := ⟨_, rfl⟩
  rw [← gz26] at Az26 Dz26 stz26
  have ne_ba_bb : ba ≠ bb := Nat.ne_of_lt (Nat.lt_of_lt_of_le E_ba.lt (Nat.le_of_eq gz26.symm))
  have g_bb : n0 ≤ bb := by rw [gz26, ← O.1]; exact O.2.1
  have O := O.ext Ez26
  have E_ba := E_ba.ext Ez26
  have F_id_ba := F_id_ba.ext Ez26
  have F_valueOffset_ba := F_valueOffset_ba.ext Ez26
  have F_valueLength_ba := F_valueLength_ba.ext Ez26
  refine own_go stz26 ?_
  have E_bb := Az26
  have F_id_bb : Fld Z hz26 bb "com/example/bound_bundle/boundbundle/format/ApkSigningBlock$Pair" "id" "I" (.int (0 : Int32)) := Dz26 (Or.inr (hw _ (List.mem_of_getElem? (i := 10) rfl))) (ty := .int) (by decide)
  have F_valueOffset_bb : Fld Z hz26 bb "com/example/bound_bundle/boundbundle/format/ApkSigningBlock$Pair" "valueOffset" "J" (.long (0 : Int64)) := Dz26 (Or.inr (hw _ (List.mem_of_getElem? (i := 12) rfl))) (ty := .long) (by decide)
  have F_valueLength_bb : Fld Z hz26 bb "com/example/bound_bundle/boundbundle/format/ApkSigningBlock$Pair" "valueLength" "J" (.long (0 : Int64)) := Dz26 (Or.inr (hw _ (List.mem_of_getElem? (i := 14) rfl))) (ty := .long) (by decide)
  show own_Go _ _ _ _ Tz26 (mkF m 15 #[.val (.int p1), .val (.long q2), .second, .val (.long q3), .second, .val (.int p4), .val (.long q5), .second, .val (.long q6), .second, .val (.ref ba), .unset, .unset, .unset, .unset] [(.ref bb)])
  refine own_go (fun _ k => XS.dup Xz26.here hx rfl (hb hby at_15) rfl rfl k) ?_
  show own_Go _ _ _ _ Tz26 (mkF m 16 #[.val (.int p1), .val (.long q2), .second, .val (.long q3), .second, .val (.int p4), .val (.long q5), .second, .val (.long q6), .second, .val (.ref ba), .unset, .unset, .unset, .unset] [(.ref bb), (.ref bb)])
  refine own_go (fun _ k => XS.iloadN Xz26.here hx rfl (hb hby at_16) rfl k) ?_
  show own_Go _ _ _ _ Tz26 (mkF m 17 #[.val (.int p1), .val (.long q2), .second, .val (.long q3), .second, .val (.int p4), .val (.long q5), .second, .val (.long q6), .second, .val (.ref ba), .unset, .unset, .unset, .unset] [(.int p1), (.ref bb), (.ref bb)])
  refine own_go (fun _ k => XS.lloadN Xz26.here hx rfl (hb hby at_17) rfl k) ?_
  show own_Go _ _ _ _ Tz26 (mkF m 18 #[.val (.int p1), .val (.long q2), .second, .val (.long q3), .second, .val (.int p4), .val (.long q5), .second, .val (.long q6), .second, .val (.ref ba), .unset, .unset, .unset, .unset] [(.long q2), (.int p1), (.ref bb), (.ref bb)])
  refine own_go (fun _ k => XS.lloadN Xz26.here hx rfl (hb hby at_18) rfl k) ?_
  show own_Go _ _ _ _ Tz26 (mkF m 19 #[.val (.int p1), .val (.long q2), .second, .val (.long q3), .second, .val (.int p4), .val (.long q5), .second, .val (.long q6), .second, .val (.ref ba), .unset, .unset, .unset, .unset] [(.long q3), (.long q2), (.int p1), (.ref bb), (.ref bb)])
  obtain ⟨vz27, Tz27, Lz27, Xz27, hQz27, stz27⟩ := own_callI Xz26 hx hZ rfl hown (hw _ (List.mem_of_getElem? (i := 3) rfl)) (hw _ (List.mem_of_getElem? (i := 4) rfl)) (hw _ (List.mem_of_getElem? (i := 2) rfl)) (hw _ (List.mem_of_getElem? (i := 5) rfl)) (by decide) ez26 (own_rm1 l Z a0 hw [] bb p1 q2 q3 hz26 n0 g_bb E_bb F_id_bb F_valueOffset_bb F_valueLength_bb) (W := 1) (by decide) (by decide) (by decide) (by decide) own_pd2 rfl (g := (mkF m 19 #[.val (.int p1), .val (.long q2), .second, .val (.long q3), .second, .val (.int p4), .val (.long q5), .second, .val (.long q6), .second, .val (.ref ba), .unset, .unset, .unset, .unset] [(.long q3), (.long q2), (.int p1), (.ref bb), (.ref bb)])) (argsL := [(.int p1), (.long q2), (.long q3)]) (rest := [(.ref bb)]) rfl (by rw [hml]; rfl) rfl (by show 2 * 0 + _ ≤ _; exact Nat.le_of_eq rfl) (hb hby at_19)
  obtain ⟨rfl, Nz27q, Kz27, c0_z27, c1_z27, c2_z27, c3_z27⟩ := hQz27
  have Nz27 := Fr.app Nz25 Nz27q
  refine own_go stz27 ?_
  have O := O.keep Kz27 (allS g_bb all0)
  have E_ba := E_ba.keep Kz27
  have F_id_ba := F_id_ba.keep Kz27 (ninS ne_ba_bb nin0)
  have F_valueOffset_ba := F_valueOffset_ba.keep Kz27 (ninS ne_ba_bb nin0)
  have F_valueLength_ba := F_valueLength_ba.keep Kz27 (ninS ne_ba_bb nin0)
  have E_bb := c0_z27
  have F_id_bb := c1_z27
  have F_valueOffset_bb := c2_z27
  have F_valueLength_bb := c3_z27
  show own_Go _ _ _ _ Tz27 (mkF m 22 #[.val (.int p1), .val (.long q2), .second, .val (.long q3), .second, .val (.int p4), .val (.long q5), .second, .val (.long q6), .second, .val (.ref ba), .unset, .unset, .unset, .unset] [(.ref bb)])
  refine own_go (fun _ k => XS.astore Xz27.here hx rfl (hb hby at_22) rfl rfl (l' := #[.val (.int p1), .val (.long q2), .second, .val (.long q3), .second, .val (.int p4), .val (.long q5), .second, .val (.long q6), .second, .val (.ref ba), .val (.ref bb), .unset, .unset, .unset]) rfl k) ?_
  show own_Go _ _ _ _ Tz27 (mkF m 24 #[.val (.int p1), .val (.long q2), .second, .val (.long q3), .second, .val (.int p4), .val (.long q5), .second, .val (.long q6), .second, .val (.ref ba), .val (.ref bb), .unset, .unset, .unset] [])
  obtain ⟨Tz28, hz28, Xz28, ez28, Ez28, Az28, Dz28, -, stz28⟩ := newO Xz27 hx hZ hown (hw _ (List.mem_of_getElem? (i := 0) rfl)) (hw _ (List.mem_of_getElem? (i := 1) rfl)) (hw _ (List.mem_of_getElem? (i := 2) rfl)) rfl (g := (mkF m 24 #[.val (.int p1), .val (.long q2), .second, .val (.long q3), .second, .val (.int p4), .val (.long q5), .second, .val (.long q6), .second, .val (.ref ba), .val (.ref bb), .unset, .unset, .unset] [])) rfl (hb hby at_24) (by decide) (by decide)
  obtain ⟨bc, gz28⟩ : ∃ z, z = Tz27.heap.size := ⟨_, rfl⟩
  rw [← gz28] at Az28 Dz28 stz28
  have ne_ba_bc : ba ≠ bc := Nat.ne_of_lt (Nat.lt_of_lt_of_le E_ba.lt (Nat.le_of_eq gz28.symm))
  have ne_bb_bc : bb ≠ bc := Nat.ne_of_lt (Nat.lt_of_lt_of_le E_bb.lt (Nat.le_of_eq gz28.symm))
  have g_bc : n0 ≤ bc := by rw [gz28, ← O.1]; exact O.2.1
  have O := O.ext Ez28
  have E_ba := E_ba.ext Ez28
  have F_id_ba := F_id_ba.ext Ez28
  have F_valueOffset_ba := F_valueOffset_ba.ext Ez28
  have F_valueLength_ba := F_valueLength_ba.ext Ez28
  have E_bb := E_bb.ext Ez28
  have F_id_bb := F_id_bb.ext Ez28
  have F_valueOffset_bb := F_valueOffset_bb.ext Ez28
  have F_valueLength_bb := F_valueLength_bb.ext Ez28
  refine own_go stz28 ?_
  have E_bc := Az28
  have F_id_bc : Fld Z hz28 bc "com/example/bound_bundle/boundbundle/format/ApkSigningBlock$Pair" "id" "I" (.int (0 : Int32)) := Dz28 (Or.inr (hw _ (List.mem_of_getElem? (i := 10) rfl))) (ty := .int) (by decide)
  have F_valueOffset_bc : Fld Z hz28 bc "com/example/bound_bundle/boundbundle/format/ApkSigningBlock$Pair" "valueOffset" "J" (.long (0 : Int64)) := Dz28 (Or.inr (hw _ (List.mem_of_getElem? (i := 12) rfl))) (ty := .long) (by decide)
  have F_valueLength_bc : Fld Z hz28 bc "com/example/bound_bundle/boundbundle/format/ApkSigningBlock$Pair" "valueLength" "J" (.long (0 : Int64)) := Dz28 (Or.inr (hw _ (List.mem_of_getElem? (i := 14) rfl))) (ty := .long) (by decide)
  show own_Go _ _ _ _ Tz28 (mkF m 27 #[.val (.int p1), .val (.long q2), .second, .val (.long q3), .second, .val (.int p4), .val (.long q5), .second, .val (.long q6), .second, .val (.ref ba), .val (.ref bb), .unset, .unset, .unset] [(.ref bc)])
  refine own_go (fun _ k => XS.dup Xz28.here hx rfl (hb hby at_27) rfl rfl k) ?_
  show own_Go _ _ _ _ Tz28 (mkF m 28 #[.val (.int p1), .val (.long q2), .second, .val (.long q3), .second, .val (.int p4), .val (.long q5), .second, .val (.long q6), .second, .val (.ref ba), .val (.ref bb), .unset, .unset, .unset] [(.ref bc), (.ref bc)])
  refine own_go (fun _ k => XS.iloadN Xz28.here hx rfl (hb hby at_28) rfl k) ?_
  show own_Go _ _ _ _ Tz28 (mkF m 29 #[.val (.int p1), .val (.long q2), .second, .val (.long q3), .second, .val (.int p4), .val (.long q5), .second, .val (.long q6), .second, .val (.ref ba), .val (.ref bb), .unset, .unset, .unset] [(.int p1), (.ref bc), (.ref bc)])
  refine own_go (fun _ k => XS.iload Xz28.here hx rfl (hb hby at_29) rfl k) ?_
  show own_Go _ _ _ _ Tz28 (mkF m 31 #[.val (.int p1), .val (.long q2), .second, .val (.long q3), .second, .val (.int p4), .val (.long q5), .second, .val (.long q6), .second, .val (.ref ba), .val (.ref bb), .unset, .unset, .unset] [(.int p4), (.int p1), (.ref bc), (.ref bc)])
  refine own_go (fun _ k => XS.iadd Xz28.here hx rfl (hb hby at_31) rfl k) ?_
  show own_Go _ _ _ _ Tz28 (mkF m 32 #[.val (.int p1), .val (.long q2), .second, .val (.long q3), .second, .val (.int p4), .val (.long q5), .second, .val (.long q6), .second, .val (.ref ba), .val (.ref bb), .unset, .unset, .unset] [(.int (p1 + p4)), (.ref bc), (.ref bc)])
  refine own_go (fun _ k => XS.lloadN Xz28.here hx rfl (hb hby at_32) rfl k) ?_
  show own_Go _ _ _ _ Tz28 (mkF m 33 #[.val (.int p1), .val (.long q2), .second, .val (.long q3), .second, .val (.int p4), .val (.long q5), .second, .val (.long q6), .second, .val (.ref ba), .val (.ref bb), .unset, .unset, .unset] [(.long q2), (.int (p1 + p4)), (.ref bc), (.ref bc)])
  refine own_go (fun _ k => XS.lload Xz28.here hx rfl (hb hby at_33) rfl k) ?_
  show own_Go _ _ _ _ Tz28 (mkF m 35 #[.val (.int p1), .val (.long q2), .second, .val (.long q3), .second, .val (.int p4), .val (.long q5), .second, .val (.long q6), .second, .val (.ref ba), .val (.ref bb), .unset, .unset, .unset] [(.long q5), (.long q2), (.int (p1 + p4)), (.ref bc), (.ref bc)])
  refine own_go (fun _ k => XS.ladd Xz28.here hx rfl (hb hby at_35) rfl k) ?_
  show own_Go _ _ _ _ Tz28 (mkF m 36 #[.val (.int p1), .val (.long q2), .second, .val (.long q3), .second, .val (.int p4), .val (.long q5), .second, .val (.long q6), .second, .val (.ref ba), .val (.ref bb), .unset, .unset, .unset] [(.long (q2 + q5)), (.int (p1 + p4)), (.ref bc), (.ref bc)])
  refine own_go (fun _ k => XS.lloadN Xz28.here hx rfl (hb hby at_36) rfl k) ?_
  show own_Go _ _ _ _ Tz28 (mkF m 37 #[.val (.int p1), .val (.long q2), .second, .val (.long q3), .second, .val (.int p4), .val (.long q5), .second, .val (.long q6), .second, .val (.ref ba), .val (.ref bb), .unset, .unset, .unset] [(.long q3), (.long (q2 + q5)), (.int (p1 + p4)), (.ref bc), (.ref bc)])
  refine own_go (fun _ k => XS.lload Xz28.here hx rfl (hb hby at_37) rfl k) ?_
  show own_Go _ _ _ _ Tz28 (mkF m 39 #[.val (.int p1), .val (.long q2), .second, .val (.long q3), .second, .val (.int p4), .val (.long q5), .second, .val (.long q6), .second, .val (.ref ba), .val (.ref bb), .unset, .unset, .unset] [(.long q6), (.long q3), (.long (q2 + q5)), (.int (p1 + p4)), (.ref bc), (.ref bc)])
  refine own_go (fun _ k => XS.ladd Xz28.here hx rfl (hb hby at_39) rfl k) ?_
  show own_Go _ _ _ _ Tz28 (mkF m 40 #[.val (.int p1), .val (.long q2), .second, .val (.long q3), .second, .val (.int p4), .val (.long q5), .second, .val (.long q6), .second, .val (.ref ba), .val (.ref bb), .unset, .unset, .unset] [(.long (q3 + q6)), (.long (q2 + q5)), (.int (p1 + p4)), (.ref bc), (.ref bc)])
  obtain ⟨vz29, Tz29, Lz29, Xz29, hQz29, stz29⟩ := own_callI Xz28 hx hZ rfl hown (hw _ (List.mem_of_getElem? (i := 3) rfl)) (hw _ (List.mem_of_getElem? (i := 4) rfl)) (hw _ (List.mem_of_getElem? (i := 2) rfl)) (hw _ (List.mem_of_getElem? (i := 5) rfl)) (by decide) ez28 (own_rm1 l Z a0 hw [] bc (p1 + p4) (q2 + q5) (q3 + q6) hz28 n0 g_bc E_bc F_id_bc F_valueOffset_bc F_valueLength_bc) (W := 1) (by decide) (by decide) (by decide) (by decide) own_pd2 rfl (g := (mkF m 40 #[.val (.int p1), .val (.long q2), .second, .val (.long q3), .second, .val (.int p4), .val (.long q5), .second, .val (.long q6), .second, .val (.ref ba), .val (.ref bb), .unset, .unset, .unset] [(.long (q3 + q6)), (.long (q2 + q5)), (.int (p1 + p4)), (.ref bc), (.ref bc)])) (argsL := [(.int (p1 + p4)), (.long (q2 + q5)), (.long (q3 + q6))]) (rest := [(.ref bc)]) rfl (by rw [hml]; rfl) rfl (by show 2 * 0 + _ ≤ _; exact Nat.le_of_eq rfl) (hb hby at_40)
  obtain ⟨rfl, Nz29q, Kz29, c0_z29, c1_z29, c2_z29, c3_z29⟩ := hQz29
  have Nz29 := Fr.app Nz27 Nz29q
  refine own_go stz29 ?_
  have O := O.keep Kz29 (allS g_bc all0)
  have E_ba := E_ba.keep Kz29
  have F_id_ba := F_id_ba.keep Kz29 (ninS ne_ba_bc nin0)
  have F_valueOffset_ba := F_valueOffset_ba.keep Kz29 (ninS ne_ba_bc nin0)
  have F_valueLength_ba := F_valueLength_ba.keep Kz29 (ninS ne_ba_bc nin0)
  have E_bb := E_bb.keep Kz29
  have F_id_bb := F_id_bb.keep Kz29 (ninS ne_bb_bc nin0)
  have F_valueOffset_bb := F_valueOffset_bb.keep Kz29 (ninS ne_bb_bc nin0)
  have F_valueLength_bb := F_valueLength_bb.keep Kz29 (ninS ne_bb_bc nin0)
  have E_bc := c0_z29
  have F_id_bc := c1_z29
  have F_valueOffset_bc := c2_z29
  have F_valueLength_bc := c3_z29
  show own_Go _ _ _ _ Tz29 (mkF m 43 #[.val (.int p1), .val (.long q2), .second, .val (.long q3), .second, .val (.int p4), .val (.long q5), .second, .val (.long q6), .second, .val (.ref ba), .val (.ref bb), .unset, .unset, .unset] [(.ref bc)])
  refine own_go (fun _ k => XS.astore Xz29.here hx rfl (hb hby at_43) rfl rfl (l' := #[.val (.int p1), .val (.long q2), .second, .val (.long q3), .second, .val (.int p4), .val (.long q5), .second, .val (.long q6), .second, .val (.ref ba), .val (.ref bb), .val (.ref bc), .unset, .unset]) rfl k) ?_
  show own_Go _ _ _ _ Tz29 (mkF m 45 #[.val (.int p1), .val (.long q2), .second, .val (.long q3), .second, .val (.int p4), .val (.long q5), .second, .val (.long q6), .second, .val (.ref ba), .val (.ref bb), .val (.ref bc), .unset, .unset] [])
  refine own_go (fun _ k => XS.iload Xz29.here hx rfl (hb hby at_45) rfl k) ?_
  show own_Go _ _ _ _ Tz29 (mkF m 47 #[.val (.int p1), .val (.long q2), .second, .val (.long q3), .second, .val (.int p4), .val (.long q5), .second, .val (.long q6), .second, .val (.ref ba), .val (.ref bb), .val (.ref bc), .unset, .unset] [(.int p4)])
  refine own_dia (α := Int32) (C := p4 = (0 : Int32)) (v1 := (if (lcmpW q5 (0 : Int64)) = (0 : Int32) then (if (lcmpW q6 (0 : Int64)) = (0 : Int32) then (1 : Int32) else (0 : Int32)) else (0 : Int32))) (v0 := (0 : Int32)) (f := fun v => (mkF m 69 #[.val (.int p1), .val (.long q2), .second, .val (.long q3), .second, .val (.int p4), .val (.long q5), .second, .val (.long q6), .second, .val (.ref ba), .val (.ref bb), .val (.ref bc), .unset, .unset] ((.int v) :: []))) (T' := Tz29) (fun hC k => ?_) (fun hC k => ?_) ?_
  · show own_Go _ _ _ _ Tz29 (mkF m 47 #[.val (.int p1), .val (.long q2), .second, .val (.long q3), .second, .val (.int p4), .val (.long q5), .second, .val (.long q6), .second, .val (.ref ba), .val (.ref bb), .val (.ref bc), .unset, .unset] [(.int p4)])
    refine own_go (fun _ k => XS.ifNo Xz29.here hx rfl (hb hby at_47) rfl ((if0 _ _).trans (teq hC).2) k) ?_
    show own_Go _ _ _ _ Tz29 (mkF m 50 #[.val (.int p1), .val (.long q2), .second, .val (.long q3), .second, .val (.int p4), .val (.long q5), .second, .val (.long q6), .second, .val (.ref ba), .val (.ref bb), .val (.ref bc), .unset, .unset] [])
    refine own_go (fun _ k => XS.lload Xz29.here hx rfl (hb hby at_50) rfl k) ?_
    show own_Go _ _ _ _ Tz29 (mkF m 52 #[.val (.int p1), .val (.long q2), .second, .val (.long q3), .second, .val (.int p4), .val (.long q5), .second, .val (.long q6), .second, .val (.ref ba), .val (.ref bb), .val (.ref bc), .unset, .unset] [(.long q5)])
    refine own_go (fun _ k => XS.lconst Xz29.here hx rfl (hb hby at_52) k) ?_
    show own_Go _ _ _ _ Tz29 (mkF m 53 #[.val (.int p1), .val (.long q2), .second, .val (.long q3), .second, .val (.int p4), .val (.long q5), .second, .val (.long q6), .second, .val (.ref ba), .val (.ref bb), .val (.ref bc), .unset, .unset] [(.long (0 : Int64)), (.long q5)])
    refine own_go (fun _ k => XS.lcmp Xz29.here hx rfl (hb hby at_53) rfl k) ?_
    show own_Go _ _ _ _ Tz29 (mkF m 54 #[.val (.int p1), .val (.long q2), .second, .val (.long q3), .second, .val (.int p4), .val (.long q5), .second, .val (.long q6), .second, .val (.ref ba), .val (.ref bb), .val (.ref bc), .unset, .unset] [(.int (lcmpW q5 (0 : Int64)))])
    refine own_dia (α := Int32) (C := (lcmpW q5 (0 : Int64)) = (0 : Int32)) (v1 := (if (lcmpW q6 (0 : Int64)) = (0 : Int32) then (1 : Int32) else (0 : Int32))) (v0 := (0 : Int32)) (f := fun v => (mkF m 69 #[.val (.int p1), .val (.long q2), .second, .val (.long q3), .second, .val (.int p4), .val (.long q5), .second, .val (.long q6), .second, .val (.ref ba), .val (.ref bb), .val (.ref bc), .unset, .unset] ((.int v) :: []))) (T' := Tz29) (fun hC k => ?_) (fun hC k => ?_) ?_
    · show own_Go _ _ _ _ Tz29 (mkF m 54 #[.val (.int p1), .val (.long q2), .second, .val (.long q3), .second, .val (.int p4), .val (.long q5), .second, .val (.long q6), .second, .val (.ref ba), .val (.ref bb), .val (.ref bc), .unset, .unset] [(.int (lcmpW q5 (0 : Int64)))])
      refine own_go (fun _ k => XS.ifNo Xz29.here hx rfl (hb hby at_54) rfl ((if0 _ _).trans (teq hC).2) k) ?_
      show own_Go _ _ _ _ Tz29 (mkF m 57 #[.val (.int p1), .val (.long q2), .second, .val (.long q3), .second, .val (.int p4), .val (.long q5), .second, .val (.long q6), .second, .val (.ref ba), .val (.ref bb), .val (.ref bc), .unset, .unset] [])
      refine own_go (fun _ k => XS.lload Xz29.here hx rfl (hb hby at_57) rfl k) ?_
      show own_Go _ _ _ _ Tz29 (mkF m 59 #[.val (.int p1), .val (.long q2), .second, .val (.long q3), .second, .val (.int p4), .val (.long q5), .second, .val (.long q6), .second, .val (.ref ba), .val (.ref bb), .val (.ref bc), .unset, .unset] [(.long q6)])
      refine own_go (fun _ k => XS.lconst Xz29.here hx rfl (hb hby at_59) k) ?_
      show own_Go _ _ _ _ Tz29 (mkF m 60 #[.val (.int p1), .val (.long q2), .second, .val (.long q3), .second, .val (.int p4), .val (.long q5), .second, .val (.long q6), .second, .val (.ref ba), .val (.ref bb), .val (.ref bc), .unset, .unset] [(.long (0 : Int64)), (.long q6)])
      refine own_go (fun _ k => XS.lcmp Xz29.here hx rfl (hb hby at_60) rfl k) ?_
      show own_Go _ _ _ _ Tz29 (mkF m 61 #[.val (.int p1), .val (.long q2), .second, .val (.long q3), .second, .val (.int p4), .val (.long q5), .second, .val (.long q6), .second, .val (.ref ba), .val (.ref bb), .val (.ref bc), .unset, .unset] [(.int (lcmpW q6 (0 : Int64)))])
      refine own_dia (α := Int32) (C := (lcmpW q6 (0 : Int64)) = (0 : Int32)) (v1 := (1 : Int32)) (v0 := (0 : Int32)) (f := fun v => (mkF m 69 #[.val (.int p1), .val (.long q2), .second, .val (.long q3), .second, .val (.int p4), .val (.long q5), .second, .val (.long q6), .second, .val (.ref ba), .val (.ref bb), .val (.ref bc), .unset, .unset] ((.int v) :: []))) (T' := Tz29) (fun hC k => ?_) (fun hC k => ?_) ?_
      · show own_Go _ _ _ _ Tz29 (mkF m 61 #[.val (.int p1), .val (.long q2), .second, .val (.long q3), .second, .val (.int p4), .val (.long q5), .second, .val (.long q6), .second, .val (.ref ba), .val (.ref bb), .val (.ref bc), .unset, .unset] [(.int (lcmpW q6 (0 : Int64)))])
        refine own_go (fun _ k => XS.ifNo Xz29.here hx rfl (hb hby at_61) rfl ((if0 _ _).trans (teq hC).2) k) ?_
        show own_Go _ _ _ _ Tz29 (mkF m 64 #[.val (.int p1), .val (.long q2), .second, .val (.long q3), .second, .val (.int p4), .val (.long q5), .second, .val (.long q6), .second, .val (.ref ba), .val (.ref bb), .val (.ref bc), .unset, .unset] [])
        refine own_go (fun _ k => XS.iconst Xz29.here hx rfl (hb hby at_64) k) ?_
        show own_Go _ _ _ _ Tz29 (mkF m 65 #[.val (.int p1), .val (.long q2), .second, .val (.long q3), .second, .val (.int p4), .val (.long q5), .second, .val (.long q6), .second, .val (.ref ba), .val (.ref bb), .val (.ref bc), .unset, .unset] [(.int (1 : Int32))])
        refine own_go (fun _ k => XS.goto Xz29.here hx rfl (pc0 := 65) (pc' := 69) rfl (hb hby at_65) (by decide) (by decide) k) ?_
        show own_Go _ _ _ _ Tz29 (mkF m 69 #[.val (.int p1), .val (.long q2), .second, .val (.long q3), .second, .val (.int p4), .val (.long q5), .second, .val (.long q6), .second, .val (.ref ba), .val (.ref bb), .val (.ref bc), .unset, .unset] [(.int (1 : Int32))])
        exact k
      · show own_Go _ _ _ _ Tz29 (mkF m 61 #[.val (.int p1), .val (.long q2), .second, .val (.long q3), .second, .val (.int p4), .val (.long q5), .second, .val (.long q6), .second, .val (.ref ba), .val (.ref bb), .val (.ref bc), .unset, .unset] [(.int (lcmpW q6 (0 : Int64)))])
        refine own_go (fun _ k => XS.ifYes Xz29.here hx rfl (pc0 := 61) (pc' := 68) rfl (hb hby at_61) rfl ((if0 _ _).trans (feq hC).2) (by decide) (by decide) k) ?_
        show own_Go _ _ _ _ Tz29 (mkF m 68 #[.val (.int p1), .val (.long q2), .second, .val (.long q3), .second, .val (.int p4), .val (.long q5), .second, .val (.long q6), .second, .val (.ref ba), .val (.ref bb), .val (.ref bc), .unset, .unset] [])
        refine own_go (fun _ k => XS.iconst Xz29.here hx rfl (hb hby at_68) k) ?_
        show own_Go _ _ _ _ Tz29 (mkF m 69 #[.val (.int p1), .val (.long q2), .second, .val (.long q3), .second, .val (.int p4), .val (.long q5), .second, .val (.long q6), .second, .val (.ref ba), .val (.ref bb), .val (.ref bc), .unset, .unset] [(.int (0 : Int32))])
        exact k
      show own_Go _ _ _ _ Tz29 (mkF m 69 #[.val (.int p1), .val (.long q2), .second, .val (.long q3), .second, .val (.int p4), .val (.long q5), .second, .val (.long q6), .second, .val (.ref ba), .val (.ref bb), .val (.ref bc), .unset, .unset] [(.int (if (lcmpW q6 (0 : Int64)) = (0 : Int32) then (1 : Int32) else (0 : Int32)))])
      exact k
    · show own_Go _ _ _ _ Tz29 (mkF m 54 #[.val (.int p1), .val (.long q2), .second, .val (.long q3), .second, .val (.int p4), .val (.long q5), .second, .val (.long q6), .second, .val (.ref ba), .val (.ref bb), .val (.ref bc), .unset, .unset] [(.int (lcmpW q5 (0 : Int64)))])
      refine own_go (fun _ k => XS.ifYes Xz29.here hx rfl (pc0 := 54) (pc' := 68) rfl (hb hby at_54) rfl ((if0 _ _).trans (feq hC).2) (by decide) (by decide) k) ?_
      show own_Go _ _ _ _ Tz29 (mkF m 68 #[.val (.int p1), .val (.long q2), .second, .val (.long q3), .second, .val (.int p4), .val (.long q5), .second, .val (.long q6), .second, .val (.ref ba), .val (.ref bb), .val (.ref bc), .unset, .unset] [])
      refine own_go (fun _ k => XS.iconst Xz29.here hx rfl (hb hby at_68) k) ?_
      show own_Go _ _ _ _ Tz29 (mkF m 69 #[.val (.int p1), .val (.long q2), .second, .val (.long q3), .second, .val (.int p4), .val (.long q5), .second, .val (.long q6), .second, .val (.ref ba), .val (.ref bb), .val (.ref bc), .unset, .unset] [(.int (0 : Int32))])
      exact k
    show own_Go _ _ _ _ Tz29 (mkF m 69 #[.val (.int p1), .val (.long q2), .second, .val (.long q3), .second, .val (.int p4), .val (.long q5), .second, .val (.long q6), .second, .val (.ref ba), .val (.ref bb), .val (.ref bc), .unset, .unset] [(.int (if (lcmpW q5 (0 : Int64)) = (0 : Int32) then (if (lcmpW q6 (0 : Int64)) = (0 : Int32) then (1 : Int32) else (0 : Int32)) else (0 : Int32)))])
    exact k
  · show own_Go _ _ _ _ Tz29 (mkF m 47 #[.val (.int p1), .val (.long q2), .second, .val (.long q3), .second, .val (.int p4), .val (.long q5), .second, .val (.long q6), .second, .val (.ref ba), .val (.ref bb), .val (.ref bc), .unset, .unset] [(.int p4)])
    refine own_go (fun _ k => XS.ifYes Xz29.here hx rfl (pc0 := 47) (pc' := 68) rfl (hb hby at_47) rfl ((if0 _ _).trans (feq hC).2) (by decide) (by decide) k) ?_
    show own_Go _ _ _ _ Tz29 (mkF m 68 #[.val (.int p1), .val (.long q2), .second, .val (.long q3), .second, .val (.int p4), .val (.long q5), .second, .val (.long q6), .second, .val (.ref ba), .val (.ref bb), .val (.ref bc), .unset, .unset] [])
    refine own_go (fun _ k => XS.iconst Xz29.here hx rfl (hb hby at_68) k) ?_
    show own_Go _ _ _ _ Tz29 (mkF m 69 #[.val (.int p1), .val (.long q2), .second, .val (.long q3), .second, .val (.int p4), .val (.long q5), .second, .val (.long q6), .second, .val (.ref ba), .val (.ref bb), .val (.ref bc), .unset, .unset] [(.int (0 : Int32))])
    exact k
  show own_Go _ _ _ _ Tz29 (mkF m 69 #[.val (.int p1), .val (.long q2), .second, .val (.long q3), .second, .val (.int p4), .val (.long q5), .second, .val (.long q6), .second, .val (.ref ba), .val (.ref bb), .val (.ref bc), .unset, .unset] [(.int (if p4 = (0 : Int32) then (if (lcmpW q5 (0 : Int64)) = (0 : Int32) then (if (lcmpW q6 (0 : Int64)) = (0 : Int32) then (1 : Int32) else (0 : Int32)) else (0 : Int32)) else (0 : Int32)))])
  obtain ⟨ex, h_ex⟩ : ∃ z, z = (if p4 = (0 : Int32) then (if (lcmpW q5 (0 : Int64)) = (0 : Int32) then (if (lcmpW q6 (0 : Int64)) = (0 : Int32) then (1 : Int32) else (0 : Int32)) else (0 : Int32)) else (0 : Int32)) := ⟨_, rfl⟩
  rw [← h_ex]
  show own_Go _ _ _ _ Tz29 (mkF m 69 #[.val (.int p1), .val (.long q2), .second, .val (.long q3), .second, .val (.int p4), .val (.long q5), .second, .val (.long q6), .second, .val (.ref ba), .val (.ref bb), .val (.ref bc), .unset, .unset] [(.int ex)])
  have hex := own_ex p1 p4 q2 q5 q3 q6 ex h_ex
  refine own_go (fun _ k => XS.istore Xz29.here hx rfl (hb hby at_69) rfl (l' := #[.val (.int p1), .val (.long q2), .second, .val (.long q3), .second, .val (.int p4), .val (.long q5), .second, .val (.long q6), .second, .val (.ref ba), .val (.ref bb), .val (.ref bc), .val (.int ex), .unset]) rfl k) ?_
  show own_Go _ _ _ _ Tz29 (mkF m 71 #[.val (.int p1), .val (.long q2), .second, .val (.long q3), .second, .val (.int p4), .val (.long q5), .second, .val (.long q6), .second, .val (.ref ba), .val (.ref bb), .val (.ref bc), .val (.int ex), .unset] [])
  refine own_go (fun _ k => XS.iloadN Xz29.here hx rfl (hb hby at_71) rfl k) ?_
  show own_Go _ _ _ _ Tz29 (mkF m 72 #[.val (.int p1), .val (.long q2), .second, .val (.long q3), .second, .val (.int p4), .val (.long q5), .second, .val (.long q6), .second, .val (.ref ba), .val (.ref bb), .val (.ref bc), .val (.int ex), .unset] [(.int p1)])
  obtain ⟨vz30, Tz30, Lz30, Xz30, hQz30, stz30⟩ := own_callS Xz29 hx hZ hown (hw _ (List.mem_of_getElem? (i := 15) rfl)) (hw _ (List.mem_of_getElem? (i := 16) rfl)) (hw _ (List.mem_of_getElem? (i := 17) rfl)) (hw _ (List.mem_of_getElem? (i := 18) rfl)) (by decide) rfl (own_rm3 l Z a0 hw [] p1 Tz29.heap n0 ca cc O Sh Sc A hsz hel) (W := 0) (by decide) (by decide) (by decide) (by decide) own_pd3 rfl (g := (mkF m 72 #[.val (.int p1), .val (.long q2), .second, .val (.long q3), .second, .val (.int p4), .val (.long q5), .second, .val (.long q6), .second, .val (.ref ba), .val (.ref bb), .val (.ref bc), .val (.int ex), .unset] [(.int p1)])) (argsL := [(.int p1)]) (rest := []) rfl (by rw [hml]; rfl) rfl (by show 2 * 0 + _ ≤ _; exact Nat.le_of_eq rfl) (hb hby at_72)
  obtain ⟨wz, rfl, Nz30q, Kz30, c1_z30⟩ := hQz30
  have Nz30 := Fr.app Nz29 Nz30q
  refine own_go stz30 ?_
  have O := O.keep Kz30 all0
  have E_ba := E_ba.keep Kz30
  have F_id_ba := F_id_ba.keep Kz30 nin0
  have F_valueOffset_ba := F_valueOffset_ba.keep Kz30 nin0
  have F_valueLength_ba := F_valueLength_ba.keep Kz30 nin0
  have E_bb := E_bb.keep Kz30
  have F_id_bb := F_id_bb.keep Kz30 nin0
  have F_valueOffset_bb := F_valueOffset_bb.keep Kz30 nin0
  have F_valueLength_bb := F_valueLength_bb.keep Kz30 nin0
  have E_bc := E_bc.keep Kz30
  have F_id_bc := F_id_bc.keep Kz30 nin0
  have F_valueOffset_bc := F_valueOffset_bc.keep Kz30 nin0
  have F_valueLength_bc := F_valueLength_bc.keep Kz30 nin0
  have E_wz := c1_z30
  show own_Go _ _ _ _ Tz30 (mkF m 75 #[.val (.int p1), .val (.long q2), .second, .val (.long q3), .second, .val (.int p4), .val (.long q5), .second, .val (.long q6), .second, .val (.ref ba), .val (.ref bb), .val (.ref bc), .val (.int ex), .unset] [(.ref wz)])
  refine own_go (fun _ k => XS.astore Xz30.here hx rfl (hb hby at_75) rfl rfl (l' := #[.val (.int p1), .val (.long q2), .second, .val (.long q3), .second, .val (.int p4), .val (.long q5), .second, .val (.long q6), .second, .val (.ref ba), .val (.ref bb), .val (.ref bc), .val (.int ex), .val (.ref wz)]) rfl k) ?_
  show own_Go _ _ _ _ Tz30 (mkF m 77 #[.val (.int p1), .val (.long q2), .second, .val (.long q3), .second, .val (.int p4), .val (.long q5), .second, .val (.long q6), .second, .val (.ref ba), .val (.ref bb), .val (.ref bc), .val (.int ex), .val (.ref wz)] [])
  refine own_go (fun _ k => XS.aload Xz30.here hx rfl (hb hby at_77) rfl rfl k) ?_
  show own_Go _ _ _ _ Tz30 (mkF m 79 #[.val (.int p1), .val (.long q2), .second, .val (.long q3), .second, .val (.int p4), .val (.long q5), .second, .val (.long q6), .second, .val (.ref ba), .val (.ref bb), .val (.ref bc), .val (.int ex), .val (.ref wz)] [(.ref ba)])
  refine own_go (fun _ k => XS.aload Xz30.here hx rfl (hb hby at_79) rfl rfl k) ?_
  show own_Go _ _ _ _ Tz30 (mkF m 81 #[.val (.int p1), .val (.long q2), .second, .val (.long q3), .second, .val (.int p4), .val (.long q5), .second, .val (.long q6), .second, .val (.ref ba), .val (.ref bb), .val (.ref bc), .val (.int ex), .val (.ref wz)] [(.ref ba), (.ref ba)])
  obtain ⟨vz31, Tz31, Lz31, Xz31, hQz31, stz31⟩ := own_callV Xz30 hx hZ hown (hw _ (List.mem_of_getElem? (i := 22) rfl)) (hw _ (List.mem_of_getElem? (i := 23) rfl)) (hw _ (List.mem_of_getElem? (i := 25) rfl)) (hw _ (List.mem_of_getElem? (i := 24) rfl)) (hw _ (List.mem_of_getElem? (i := 2) rfl)) (hw _ (List.mem_of_getElem? (i := 26) rfl)) (by decide) rfl E_ba (own_rmeqP l Z a0 hw [] ba ba Tz30.heap n0 p1 q2 q3 p1 q2 q3 (1 : Int32) (if_pos ⟨rfl, rfl, rfl⟩) E_ba F_id_ba F_valueOffset_ba F_valueLength_ba F_id_ba F_valueOffset_ba F_valueLength_ba) (W := 0) (by decide) (by decide) (by decide) (by decide) own_pd4 rfl (g := (mkF m 81 #[.val (.int p1), .val (.long q2), .second, .val (.long q3), .second, .val (.int p4), .val (.long q5), .second, .val (.long q6), .second, .val (.ref ba), .val (.ref bb), .val (.ref bc), .val (.int ex), .val (.ref wz)] [(.ref ba), (.ref ba)])) (argsL := [(.ref ba)]) (rest := []) rfl (by rw [hml]; rfl) rfl (by show 2 * 0 + _ ≤ _; exact Nat.le_of_eq rfl) (hb hby at_81)
  obtain ⟨rfl, Nz31q, ehz31⟩ := hQz31
  have Nz31 := Fr.app Nz30 Nz31q
  refine own_go stz31 ?_
  show own_Go _ _ _ _ Tz31 (mkF m 84 #[.val (.int p1), .val (.long q2), .second, .val (.long q3), .second, .val (.int p4), .val (.long q5), .second, .val (.long q6), .second, .val (.ref ba), .val (.ref bb), .val (.ref bc), .val (.int ex), .val (.ref wz)] [(.int (1 : Int32))])
  refine own_go (fun _ k => XS.ifNo Xz31.here hx rfl (hb hby at_84) rfl ((if0 _ _).trans (feq (by decide : ¬ ((1 : Int32) = (0 : Int32)))).1) k) ?_
  show own_Go _ _ _ _ Tz31 (mkF m 87 #[.val (.int p1), .val (.long q2), .second, .val (.long q3), .second, .val (.int p4), .val (.long q5), .second, .val (.long q6), .second, .val (.ref ba), .val (.ref bb), .val (.ref bc), .val (.int ex), .val (.ref wz)] [])
  refine own_go (fun _ k => XS.aload Xz31.here hx rfl (hb hby at_87) rfl rfl k) ?_
  show own_Go _ _ _ _ Tz31 (mkF m 89 #[.val (.int p1), .val (.long q2), .second, .val (.long q3), .second, .val (.int p4), .val (.long q5), .second, .val (.long q6), .second, .val (.ref ba), .val (.ref bb), .val (.ref bc), .val (.int ex), .val (.ref wz)] [(.ref ba)])
  refine own_go (fun _ k => XS.aload Xz31.here hx rfl (hb hby at_89) rfl rfl k) ?_
  show own_Go _ _ _ _ Tz31 (mkF m 91 #[.val (.int p1), .val (.long q2), .second, .val (.long q3), .second, .val (.int p4), .val (.long q5), .second, .val (.long q6), .second, .val (.ref ba), .val (.ref bb), .val (.ref bc), .val (.int ex), .val (.ref wz)] [(.ref bb), (.ref ba)])
  obtain ⟨vz32, Tz32, Lz32, Xz32, hQz32, stz32⟩ := own_callV Xz31 hx hZ hown (hw _ (List.mem_of_getElem? (i := 22) rfl)) (hw _ (List.mem_of_getElem? (i := 23) rfl)) (hw _ (List.mem_of_getElem? (i := 25) rfl)) (hw _ (List.mem_of_getElem? (i := 24) rfl)) (hw _ (List.mem_of_getElem? (i := 2) rfl)) (hw _ (List.mem_of_getElem? (i := 26) rfl)) (by decide) ehz31 E_ba (own_rmeqP l Z a0 hw [] ba bb Tz30.heap n0 p1 q2 q3 p1 q2 q3 (1 : Int32) (if_pos ⟨rfl, rfl, rfl⟩) E_bb F_id_ba F_valueOffset_ba F_valueLength_ba F_id_bb F_valueOffset_bb F_valueLength_bb) (W := 0) (by decide) (by decide) (by decide) (by decide) own_pd4 rfl (g := (mkF m 91 #[.val (.int p1), .val (.long q2), .second, .val (.long q3), .second, .val (.int p4), .val (.long q5), .second, .val (.long q6), .second, .val (.ref ba), .val (.ref bb), .val (.ref bc), .val (.int ex), .val (.ref wz)] [(.ref bb), (.ref ba)])) (argsL := [(.ref bb)]) (rest := []) rfl (by rw [hml]; rfl) rfl (by show 2 * 0 + _ ≤ _; exact Nat.le_of_eq rfl) (hb hby at_91)
  obtain ⟨rfl, Nz32q, ehz32⟩ := hQz32
  have Nz32 := Fr.app Nz31 Nz32q
  refine own_go stz32 ?_
  show own_Go _ _ _ _ Tz32 (mkF m 94 #[.val (.int p1), .val (.long q2), .second, .val (.long q3), .second, .val (.int p4), .val (.long q5), .second, .val (.long q6), .second, .val (.ref ba), .val (.ref bb), .val (.ref bc), .val (.int ex), .val (.ref wz)] [(.int (1 : Int32))])
  refine own_go (fun _ k => XS.ifNo Xz32.here hx rfl (hb hby at_94) rfl ((if0 _ _).trans (feq (by decide : ¬ ((1 : Int32) = (0 : Int32)))).1) k) ?_
  show own_Go _ _ _ _ Tz32 (mkF m 97 #[.val (.int p1), .val (.long q2), .second, .val (.long q3), .second, .val (.int p4), .val (.long q5), .second, .val (.long q6), .second, .val (.ref ba), .val (.ref bb), .val (.ref bc), .val (.int ex), .val (.ref wz)] [])
  refine own_go (fun _ k => XS.aload Xz32.here hx rfl (hb hby at_97) rfl rfl k) ?_
  show own_Go _ _ _ _ Tz32 (mkF m 99 #[.val (.int p1), .val (.long q2), .second, .val (.long q3), .second, .val (.int p4), .val (.long q5), .second, .val (.long q6), .second, .val (.ref ba), .val (.ref bb), .val (.ref bc), .val (.int ex), .val (.ref wz)] [(.ref bb)])
  refine own_go (fun _ k => XS.aload Xz32.here hx rfl (hb hby at_99) rfl rfl k) ?_
  show own_Go _ _ _ _ Tz32 (mkF m 101 #[.val (.int p1), .val (.long q2), .second, .val (.long q3), .second, .val (.int p4), .val (.long q5), .second, .val (.long q6), .second, .val (.ref ba), .val (.ref bb), .val (.ref bc), .val (.int ex), .val (.ref wz)] [(.ref ba), (.ref bb)])
  obtain ⟨vz33, Tz33, Lz33, Xz33, hQz33, stz33⟩ := own_callV Xz32 hx hZ hown (hw _ (List.mem_of_getElem? (i := 22) rfl)) (hw _ (List.mem_of_getElem? (i := 23) rfl)) (hw _ (List.mem_of_getElem? (i := 25) rfl)) (hw _ (List.mem_of_getElem? (i := 24) rfl)) (hw _ (List.mem_of_getElem? (i := 2) rfl)) (hw _ (List.mem_of_getElem? (i := 26) rfl)) (by decide) ehz32 E_bb (own_rmeqP l Z a0 hw [] bb ba Tz30.heap n0 p1 q2 q3 p1 q2 q3 (1 : Int32) (if_pos ⟨rfl, rfl, rfl⟩) E_ba F_id_bb F_valueOffset_bb F_valueLength_bb F_id_ba F_valueOffset_ba F_valueLength_ba) (W := 0) (by decide) (by decide) (by decide) (by decide) own_pd4 rfl (g := (mkF m 101 #[.val (.int p1), .val (.long q2), .second, .val (.long q3), .second, .val (.int p4), .val (.long q5), .second, .val (.long q6), .second, .val (.ref ba), .val (.ref bb), .val (.ref bc), .val (.int ex), .val (.ref wz)] [(.ref ba), (.ref bb)])) (argsL := [(.ref ba)]) (rest := []) rfl (by rw [hml]; rfl) rfl (by show 2 * 0 + _ ≤ _; exact Nat.le_of_eq rfl) (hb hby at_101)
  obtain ⟨rfl, Nz33q, ehz33⟩ := hQz33
  have Nz33 := Fr.app Nz32 Nz33q
  refine own_go stz33 ?_
  show own_Go _ _ _ _ Tz33 (mkF m 104 #[.val (.int p1), .val (.long q2), .second, .val (.long q3), .second, .val (.int p4), .val (.long q5), .second, .val (.long q6), .second, .val (.ref ba), .val (.ref bb), .val (.ref bc), .val (.int ex), .val (.ref wz)] [(.int (1 : Int32))])
  refine own_go (fun _ k => XS.ifNo Xz33.here hx rfl (hb hby at_104) rfl ((if0 _ _).trans (feq (by decide : ¬ ((1 : Int32) = (0 : Int32)))).1) k) ?_
  show own_Go _ _ _ _ Tz33 (mkF m 107 #[.val (.int p1), .val (.long q2), .second, .val (.long q3), .second, .val (.int p4), .val (.long q5), .second, .val (.long q6), .second, .val (.ref ba), .val (.ref bb), .val (.ref bc), .val (.int ex), .val (.ref wz)] [])
  refine own_go (fun _ k => XS.aload Xz33.here hx rfl (hb hby at_107) rfl rfl k) ?_
  show own_Go _ _ _ _ Tz33 (mkF m 109 #[.val (.int p1), .val (.long q2), .second, .val (.long q3), .second, .val (.int p4), .val (.long q5), .second, .val (.long q6), .second, .val (.ref ba), .val (.ref bb), .val (.ref bc), .val (.int ex), .val (.ref wz)] [(.ref ba)])
  refine own_go (fun _ k => XS.aload Xz33.here hx rfl (hb hby at_109) rfl rfl k) ?_
  show own_Go _ _ _ _ Tz33 (mkF m 111 #[.val (.int p1), .val (.long q2), .second, .val (.long q3), .second, .val (.int p4), .val (.long q5), .second, .val (.long q6), .second, .val (.ref ba), .val (.ref bb), .val (.ref bc), .val (.int ex), .val (.ref wz)] [(.ref bc), (.ref ba)])
  obtain ⟨vz34, Tz34, Lz34, Xz34, hQz34, stz34⟩ := own_callV Xz33 hx hZ hown (hw _ (List.mem_of_getElem? (i := 22) rfl)) (hw _ (List.mem_of_getElem? (i := 23) rfl)) (hw _ (List.mem_of_getElem? (i := 25) rfl)) (hw _ (List.mem_of_getElem? (i := 24) rfl)) (hw _ (List.mem_of_getElem? (i := 2) rfl)) (hw _ (List.mem_of_getElem? (i := 26) rfl)) (by decide) ehz33 E_ba (own_rmeqP l Z a0 hw [] ba bc Tz30.heap n0 p1 q2 q3 (p1 + p4) (q2 + q5) (q3 + q6) ex hex.1 E_bc F_id_ba F_valueOffset_ba F_valueLength_ba F_id_bc F_valueOffset_bc F_valueLength_bc) (W := 0) (by decide) (by decide) (by decide) (by decide) own_pd4 rfl (g := (mkF m 111 #[.val (.int p1), .val (.long q2), .second, .val (.long q3), .second, .val (.int p4), .val (.long q5), .second, .val (.long q6), .second, .val (.ref ba), .val (.ref bb), .val (.ref bc), .val (.int ex), .val (.ref wz)] [(.ref bc), (.ref ba)])) (argsL := [(.ref bc)]) (rest := []) rfl (by rw [hml]; rfl) rfl (by show 2 * 0 + _ ≤ _; exact Nat.le_of_eq rfl) (hb hby at_111)
  obtain ⟨rfl, Nz34q, ehz34⟩ := hQz34
  have Nz34 := Fr.app Nz33 Nz34q
  refine own_go stz34 ?_
  show own_Go _ _ _ _ Tz34 (mkF m 114 #[.val (.int p1), .val (.long q2), .second, .val (.long q3), .second, .val (.int p4), .val (.long q5), .second, .val (.long q6), .second, .val (.ref ba), .val (.ref bb), .val (.ref bc), .val (.int ex), .val (.ref wz)] [(.int ex)])
  refine own_go (fun _ k => XS.iload Xz34.here hx rfl (hb hby at_114) rfl k) ?_
  show own_Go _ _ _ _ Tz34 (mkF m 116 #[.val (.int p1), .val (.long q2), .second, .val (.long q3), .second, .val (.int p4), .val (.long q5), .second, .val (.long q6), .second, .val (.ref ba), .val (.ref bb), .val (.ref bc), .val (.int ex), .val (.ref wz)] [(.int ex), (.int ex)])
  refine own_go (fun _ k => XS.icmpNo Xz34.here hx rfl (hb hby at_116) rfl (teq rfl).2 k) ?_
  show own_Go _ _ _ _ Tz34 (mkF m 119 #[.val (.int p1), .val (.long q2), .second, .val (.long q3), .second, .val (.int p4), .val (.long q5), .second, .val (.long q6), .second, .val (.ref ba), .val (.ref bb), .val (.ref bc), .val (.int ex), .val (.ref wz)] [])
  refine own_go (fun _ k => XS.aload Xz34.here hx rfl (hb hby at_119) rfl rfl k) ?_
  show own_Go _ _ _ _ Tz34 (mkF m 121 #[.val (.int p1), .val (.long q2), .second, .val (.long q3), .second, .val (.int p4), .val (.long q5), .second, .val (.long q6), .second, .val (.ref ba), .val (.ref bb), .val (.ref bc), .val (.int ex), .val (.ref wz)] [(.ref bc)])
  refine own_go (fun _ k => XS.aload Xz34.here hx rfl (hb hby at_121) rfl rfl k) ?_
  show own_Go _ _ _ _ Tz34 (mkF m 123 #[.val (.int p1), .val (.long q2), .second, .val (.long q3), .second, .val (.int p4), .val (.long q5), .second, .val (.long q6), .second, .val (.ref ba), .val (.ref bb), .val (.ref bc), .val (.int ex), .val (.ref wz)] [(.ref ba), (.ref bc)])
  obtain ⟨vz35, Tz35, Lz35, Xz35, hQz35, stz35⟩ := own_callV Xz34 hx hZ hown (hw _ (List.mem_of_getElem? (i := 22) rfl)) (hw _ (List.mem_of_getElem? (i := 23) rfl)) (hw _ (List.mem_of_getElem? (i := 25) rfl)) (hw _ (List.mem_of_getElem? (i := 24) rfl)) (hw _ (List.mem_of_getElem? (i := 2) rfl)) (hw _ (List.mem_of_getElem? (i := 26) rfl)) (by decide) ehz34 E_bc (own_rmeqP l Z a0 hw [] bc ba Tz30.heap n0 (p1 + p4) (q2 + q5) (q3 + q6) p1 q2 q3 ex hex.2 E_ba F_id_bc F_valueOffset_bc F_valueLength_bc F_id_ba F_valueOffset_ba F_valueLength_ba) (W := 0) (by decide) (by decide) (by decide) (by decide) own_pd4 rfl (g := (mkF m 123 #[.val (.int p1), .val (.long q2), .second, .val (.long q3), .second, .val (.int p4), .val (.long q5), .second, .val (.long q6), .second, .val (.ref ba), .val (.ref bb), .val (.ref bc), .val (.int ex), .val (.ref wz)] [(.ref ba), (.ref bc)])) (argsL := [(.ref ba)]) (rest := []) rfl (by rw [hml]; rfl) rfl (by show 2 * 0 + _ ≤ _; exact Nat.le_of_eq rfl) (hb hby at_123)
  obtain ⟨rfl, Nz35q, ehz35⟩ := hQz35
  have Nz35 := Fr.app Nz34 Nz35q
  refine own_go stz35 ?_
  show own_Go _ _ _ _ Tz35 (mkF m 126 #[.val (.int p1), .val (.long q2), .second, .val (.long q3), .second, .val (.int p4), .val (.long q5), .second, .val (.long q6), .second, .val (.ref ba), .val (.ref bb), .val (.ref bc), .val (.int ex), .val (.ref wz)] [(.int ex)])
  refine own_go (fun _ k => XS.iload Xz35.here hx rfl (hb hby at_126) rfl k) ?_
  show own_Go _ _ _ _ Tz35 (mkF m 128 #[.val (.int p1), .val (.long q2), .second, .val (.long q3), .second, .val (.int p4), .val (.long q5), .second, .val (.long q6), .second, .val (.ref ba), .val (.ref bb), .val (.ref bc), .val (.int ex), .val (.ref wz)] [(.int ex), (.int ex)])
  refine own_go (fun _ k => XS.icmpNo Xz35.here hx rfl (hb hby at_128) rfl (teq rfl).2 k) ?_
  show own_Go _ _ _ _ Tz35 (mkF m 131 #[.val (.int p1), .val (.long q2), .second, .val (.long q3), .second, .val (.int p4), .val (.long q5), .second, .val (.long q6), .second, .val (.ref ba), .val (.ref bb), .val (.ref bc), .val (.int ex), .val (.ref wz)] [])
  refine own_go (fun _ k => XS.aload Xz35.here hx rfl (hb hby at_131) rfl rfl k) ?_
  show own_Go _ _ _ _ Tz35 (mkF m 133 #[.val (.int p1), .val (.long q2), .second, .val (.long q3), .second, .val (.int p4), .val (.long q5), .second, .val (.long q6), .second, .val (.ref ba), .val (.ref bb), .val (.ref bc), .val (.int ex), .val (.ref wz)] [(.ref ba)])
  refine own_go (fun _ k => XS.aconstNull Xz35.here hx rfl (hb hby at_133) k) ?_
  show own_Go _ _ _ _ Tz35 (mkF m 134 #[.val (.int p1), .val (.long q2), .second, .val (.long q3), .second, .val (.int p4), .val (.long q5), .second, .val (.long q6), .second, .val (.ref ba), .val (.ref bb), .val (.ref bc), .val (.int ex), .val (.ref wz)] [.null, (.ref ba)])
  obtain ⟨vz36, Tz36, Lz36, Xz36, hQz36, stz36⟩ := own_callV Xz35 hx hZ hown (hw _ (List.mem_of_getElem? (i := 22) rfl)) (hw _ (List.mem_of_getElem? (i := 23) rfl)) (hw _ (List.mem_of_getElem? (i := 25) rfl)) (hw _ (List.mem_of_getElem? (i := 24) rfl)) (hw _ (List.mem_of_getElem? (i := 2) rfl)) (hw _ (List.mem_of_getElem? (i := 26) rfl)) (by decide) ehz35 E_ba (own_rmeqN l Z a0 hw [] ba Tz30.heap n0) (W := 0) (by decide) (by decide) (by decide) (by decide) own_pd4 rfl (g := (mkF m 134 #[.val (.int p1), .val (.long q2), .second, .val (.long q3), .second, .val (.int p4), .val (.long q5), .second, .val (.long q6), .second, .val (.ref ba), .val (.ref bb), .val (.ref bc), .val (.int ex), .val (.ref wz)] [.null, (.ref ba)])) (argsL := [.null]) (rest := []) rfl (by rw [hml]; rfl) rfl (by show 2 * 0 + _ ≤ _; exact Nat.le_of_eq rfl) (hb hby at_134)
  obtain ⟨rfl, Nz36q, ehz36⟩ := hQz36
  have Nz36 := Fr.app Nz35 Nz36q
  refine own_go stz36 ?_
  show own_Go _ _ _ _ Tz36 (mkF m 137 #[.val (.int p1), .val (.long q2), .second, .val (.long q3), .second, .val (.int p4), .val (.long q5), .second, .val (.long q6), .second, .val (.ref ba), .val (.ref bb), .val (.ref bc), .val (.int ex), .val (.ref wz)] [(.int (0 : Int32))])
  refine own_go (fun _ k => XS.ifNo Xz36.here hx rfl (hb hby at_137) rfl ((if0 _ _).trans (teq (by decide : (0 : Int32) = (0 : Int32))).2) k) ?_
  show own_Go _ _ _ _ Tz36 (mkF m 140 #[.val (.int p1), .val (.long q2), .second, .val (.long q3), .second, .val (.int p4), .val (.long q5), .second, .val (.long q6), .second, .val (.ref ba), .val (.ref bb), .val (.ref bc), .val (.int ex), .val (.ref wz)] [])
  refine own_go (fun _ k => XS.aload Xz36.here hx rfl (hb hby at_140) rfl rfl k) ?_
  show own_Go _ _ _ _ Tz36 (mkF m 142 #[.val (.int p1), .val (.long q2), .second, .val (.long q3), .second, .val (.int p4), .val (.long q5), .second, .val (.long q6), .second, .val (.ref ba), .val (.ref bb), .val (.ref bc), .val (.int ex), .val (.ref wz)] [(.ref ba)])
  refine own_go (fun _ k => XS.aload Xz36.here hx rfl (hb hby at_142) rfl rfl k) ?_
  show own_Go _ _ _ _ Tz36 (mkF m 144 #[.val (.int p1), .val (.long q2), .second, .val (.long q3), .second, .val (.int p4), .val (.long q5), .second, .val (.long q6), .second, .val (.ref ba), .val (.ref bb), .val (.ref bc), .val (.int ex), .val (.ref wz)] [(.ref wz), (.ref ba)])
  obtain ⟨vz37, Tz37, Lz37, Xz37, hQz37, stz37⟩ := own_callV Xz36 hx hZ hown (hw _ (List.mem_of_getElem? (i := 22) rfl)) (hw _ (List.mem_of_getElem? (i := 23) rfl)) (hw _ (List.mem_of_getElem? (i := 25) rfl)) (hw _ (List.mem_of_getElem? (i := 24) rfl)) (hw _ (List.mem_of_getElem? (i := 2) rfl)) (hw _ (List.mem_of_getElem? (i := 26) rfl)) (by decide) ehz36 E_ba (own_rmeqX l Z a0 hw [] ba wz Tz30.heap n0 E_wz) (W := 0) (by decide) (by decide) (by decide) (by decide) own_pd4 rfl (g := (mkF m 144 #[.val (.int p1), .val (.long q2), .second, .val (.long q3), .second, .val (.int p4), .val (.long q5), .second, .val (.long q6), .second, .val (.ref ba), .val (.ref bb), .val (.ref bc), .val (.int ex), .val (.ref wz)] [(.ref wz), (.ref ba)])) (argsL := [(.ref wz)]) (rest := []) rfl (by rw [hml]; rfl) rfl (by show 2 * 0 + _ ≤ _; exact Nat.le_of_eq rfl) (hb hby at_144)
  obtain ⟨rfl, Nz37q, ehz37⟩ := hQz37
  have Nz37 := Fr.app Nz36 Nz37q
  refine own_go stz37 ?_
  show own_Go _ _ _ _ Tz37 (mkF m 147 #[.val (.int p1), .val (.long q2), .second, .val (.long q3), .second, .val (.int p4), .val (.long q5), .second, .val (.long q6), .second, .val (.ref ba), .val (.ref bb), .val (.ref bc), .val (.int ex), .val (.ref wz)] [(.int (0 : Int32))])
  refine own_go (fun _ k => XS.ifNo Xz37.here hx rfl (hb hby at_147) rfl ((if0 _ _).trans (teq (by decide : (0 : Int32) = (0 : Int32))).2) k) ?_
  show own_Go _ _ _ _ Tz37 (mkF m 150 #[.val (.int p1), .val (.long q2), .second, .val (.long q3), .second, .val (.int p4), .val (.long q5), .second, .val (.long q6), .second, .val (.ref ba), .val (.ref bb), .val (.ref bc), .val (.int ex), .val (.ref wz)] [])
  refine own_go (fun _ k => XS.iconst Xz37.here hx rfl (hb hby at_150) k) ?_
  show own_Go _ _ _ _ Tz37 (mkF m 151 #[.val (.int p1), .val (.long q2), .second, .val (.long q3), .second, .val (.int p4), .val (.long q5), .second, .val (.long q6), .second, .val (.ref ba), .val (.ref bb), .val (.ref bc), .val (.int ex), .val (.ref wz)] [(.int (1 : Int32))])
  refine own_go (fun _ k => XS.goto Xz37.here hx rfl (pc0 := 151) (pc' := 155) rfl (hb hby at_151) (by decide) (by decide) k) ?_
  show own_Go _ _ _ _ Tz37 (mkF m 155 #[.val (.int p1), .val (.long q2), .second, .val (.long q3), .second, .val (.int p4), .val (.long q5), .second, .val (.long q6), .second, .val (.ref ba), .val (.ref bb), .val (.ref bc), .val (.int ex), .val (.ref wz)] [(.int (1 : Int32))])
  exact own_end Xz37 hlk (v := (some (.int (1 : Int32)))) (fun h => by rw [hret] at h; cases h) (fun fs hr => retN Xz37 hx (t := .boolean) hret (by simp) (hb hby at_155) hr) (by rw [ehz37]; exact ⟨rfl, Nz37⟩) (by decide) (by decide)
set_option maxRecDepth 65536 in
set_option maxHeartbeats 40000000 in
theorem own_comes {Post : Tables → Env → Array Value → State → Outcome → State → Prop} (hpost : ∀ tb e args s v u, (limb_1_1.after args s (.returned v) u = true ∧ limb_1_2.after args s (.returned v) u = true ∧ True) → FrameEnd s (.returned v) u (Jvm.fieldLocs frame_1_writes args s ++ Jvm.arrayLocs frame_1_arrays args s ++ Jvm.staticLocs frame_1_statics s) 16 128 → Post tb e args s (.returned v) u) :
    ArmFor flags0 classFile x code maxLocals ret World_1 tables_1 room_1 Calls_1 rest_1 Pre_1 Post := by
  intro l hfl _ _ p e ha hc hk s m args below hf hA hF happ hP
  obtain ⟨hcalls, hrest, hpre⟩ := hP
  obtain ⟨-, -, -, hnamed, -, -, -, hat⟩ := (Spec.applies_iff hf).mp happ
  obtain ⟨hg, hn⟩ := and_e (Cond.before_iff.mp (show (Jvm.Cond.and given_1 narrow_1).before args s = true from hpre))
  obtain ⟨g1, g2⟩ := and_e hg
  obtain ⟨g3, g4⟩ := and_e g2
  obtain ⟨g5, g6⟩ := and_e g4
  obtain ⟨g7, g8⟩ := and_e g6
  obtain ⟨g9, g10⟩ := and_e g8
  obtain ⟨g11, g12⟩ := and_e g10
  obtain ⟨w0, w1, w2, w3, w4, w5, rfl⟩ : ∃ w0 w1 w2 w3 w4 w5 : Value, args = #[w0, w1, w2, w3, w4, w5] := by
    have hs : args.size = 6 := by simpa [Cond.value, given_1] using g1
    obtain ⟨L⟩ := args
    match L, hs with
    | [w0, w1, w2, w3, w4, w5], _ => exact ⟨w0, w1, w2, w3, w4, w5, rfl⟩
  have hw := fun d (hd : d ∈ tables_1) => atoms_spec (ws := Jvm.Cond.code x code maxLocals ret :: tables_1) hat d (List.mem_cons_of_mem _ hd)
  have hfit : Fit s := fun {y c} hc i hi => by
    obtain ⟨ha, rfl⟩ := Array.getElem?_eq_some_iff.mp hc
    have q := List.all_eq_true.mp ((Array.all_eq_true_iff_forall_mem.mp hF) _ (Array.getElem_mem ha)) i (List.mem_range.mpr hi)
    simpa [Array.getElem?_eq_getElem hi] using q
  obtain ⟨hsets, hown0⟩ := atoms_of _ (rest_1_c_eq ▸ (show rest_1_c.before _ s = true from hrest))
  have hr0 := Cond.before_iff.mp hown0
  obtain ⟨i0, ei0⟩ := is_v g3
  obtain rfl : w0 = (.int i0) := Option.some.inj ei0
  obtain ⟨i1, ei1⟩ := isL_v g5
  obtain rfl : w1 = (.long i1) := Option.some.inj ei1
  obtain ⟨i2, ei2⟩ := isL_v g7
  obtain rfl : w2 = (.long i2) := Option.some.inj ei2
  obtain ⟨i3, ei3⟩ := is_v g9
  obtain rfl : w3 = (.int i3) := Option.some.inj ei3
  obtain ⟨i4, ei4⟩ := isL_v g11
  obtain rfl : w4 = (.long i4) := Option.some.inj ei4
  obtain ⟨i5, ei5⟩ := isL_v g12
  obtain rfl : w5 = (.long i5) := Option.some.inj ei5
  obtain ⟨ca, cc, evc, A, hsz, hel⟩ := own_cache (hsets _ (List.mem_of_getElem? (i := 4) rfl)) (hsets _ (List.mem_of_getElem? (i := 6) rfl)) (hsets _ (List.mem_of_getElem? (i := 7) rfl))
  have Sh := Sta.start (own_eqv (Cond.before_iff.mp (hsets _ (List.mem_of_getElem? (i := 3) rfl)))) (Or.inl (hsets _ (List.mem_of_getElem? (i := 1) rfl)))
  have Sc := Sta.start evc (Or.inr ⟨(hw _ (List.mem_of_getElem? (i := 20) rfl)), (hsets _ (List.mem_of_getElem? (i := 2) rfl))⟩)
  obtain ⟨n, o, h1, h2, h3, _, L, rfl, ⟨rfl, N⟩, hq⟩ := own_rm0 l s _ hw tables_1 i0 i1 i2 i3 i4 i5 s.heap s.heap.size ca cc (Old.start s) Sh Sc A hsz hel p e ha hc hk s m _ below hf ((Spec.applies_iff_loose hf).mp happ).1 ⟨rfl, State.Warmed39.refl s, rfl⟩ trivial
  refine ⟨n, _, h1, h2, h3, hpost _ _ _ _ _ _ ⟨Cond.after_iff.mpr rfl, Cond.after_iff.mpr (eq_i res_at (Term.int_eval (1)) rfl), trivial⟩ ⟨hq.1, hq.2.1, (hq.2.2.sift fun y hy => Or.inr (N y hy)).mono (by decide) (by decide)⟩⟩
theorem main_1_1 : Claimed_1_1 := own_comes fun _ _ _ _ _ _ h hF => ⟨h.1, hF⟩
theorem main_1_2 : Claimed_1_2 := own_comes fun _ _ _ _ _ _ h hF => ⟨h.2.1, hF⟩
end Jvm.Pilot.@@N@@
namespace Jvm.Pilot.@@N@@
open Jvm Jvm.ClassFile Sem Op Lib Jvm.Free Jvm.Stand Jvm.Pilot.@@N@@.Jvm.D
/-! MADE BY PROGRAM (witnessworld.py) out of the Statement's table words and the real class files: 16 classes; the members and pool entries that the words name. The judged class is class 1, her method 1. -/
namespace start1
open Jvm.ClassFile
def u (s : String) : CpInfo := .utf8 (stringToUtf16 s)
/-- a pool by its gaps: so many unusable entries, then the entry; so many at the end -/
def gap : Nat → List CpInfo → List CpInfo
  | 0, r => r
  | n + 1, r => .unusable :: gap n r
def poolList (es : List (Nat × CpInfo)) (last : Nat) : List CpInfo := es.foldr (fun e r => gap e.1 (e.2 :: r)) (gap last [])
def pool (es : List (Nat × CpInfo)) (last : Nat) : Array CpInfo := ⟨poolList es last⟩
def fileOf (pool : Array CpInfo) (this : Nat) (attrs : Array Attribute := #[]) (ms : Array MethodInfo := #[]) (fl : Nat := 33) (sup : Nat := 0) (ifs : Array Nat := #[]) (fds : Array FieldInfo := #[]) : ClassFile where
  minorVersion := 0
  majorVersion := 65
  constantPool := pool
  accessFlags := fl
  thisClass := this
  superClass := sup
  interfaces := ifs
  fields := fds
  methods := ms
  attributes := attrs
def plain (name : String) (sup : Option ClassId) : Class where
  name := name
  kind := .ordinary
  loader := none
  accessFlags := 33
  super := sup
  interfaces := #[]
  cf := none
  fields := #[]
  methods := #[]
  instanceTypes := #[]
  staticTypes := #[]
  resolved := #[]
  callSites := []
  init := .initialized
  statics := none
  mirror := none

def pool0 : Array CpInfo := pool [(5, u "<init>"), (0, u "()V"), (1, .class_ 10), (1, u "java/lang/Object")] 113

def k0c0 : Code := { maxStack := 0, maxLocals := 1, code := object_method_1_code, exceptionTable := #[], attributes := #[] }
def k0m0 : Method := { name := "<init>", desc := "()V", sig := { parameters := [], returnType := none }, accessFlags := 1, code := some k0c0 }
/-- java/lang/Object -/
def k0 : Class := { plain "java/lang/Object" none with
  accessFlags := 33
  interfaces := #[]
  cf := some (fileOf pool0 8 #[] #[{ accessFlags := 1, nameIndex := 5, descriptorIndex := 6, attributes := #[] }] 33 0 #[] #[])
  fields := #[]
  methods := #[k0m0]
  instanceTypes := #[]
  staticTypes := #[]
  resolved := Array.replicate 124 none
  statics := none }

def pool1 : Array CpInfo := pool [(2, .class_ 4), (1, u "java/lang/Object"), (0, u "<init>"), (0, u "()V"), (0, .class_ 8), (0, u "com/example/bound_bundle/boundbundle/format/ApkSigningBlock$Pair"), (0, .methodref 7 10), (0, .nameAndType 5 11), (0, u "(IJJ)V"), (0, .methodref 13 14), (0, .class_ 15), (0, .nameAndType 16 17), (0, u "java/lang/Integer"), (0, u "valueOf"), (0, u "(I)Ljava/lang/Integer;"), (0, .methodref 7 19), (0, .nameAndType 20 21), (0, u "equals"), (0, u "(Ljava/lang/Object;)Z"), (0, .class_ 23), (0, u "com/example/bound_bundle/boundbundle/format/PairEqualsPinLaw"), (2, u "law"), (0, u "(IJJIJJ)Z")] 7

def k1m0 : Method := { name := "<init>", desc := "()V", sig := { parameters := [], returnType := none }, accessFlags := 2, code := none }
def k1c1 : Code := { maxStack := 9, maxLocals := 15, code := code, exceptionTable := #[], attributes := #[] }
def k1m1 : Method := { name := "law", desc := "(IJJIJJ)Z", sig := { parameters := [.int, .long, .long, .int, .long, .long], returnType := some .boolean }, accessFlags := 9, code := some k1c1 }
/-- com/example/bound_bundle/boundbundle/format/PairEqualsPinLaw -/
def k1 : Class := { plain "com/example/bound_bundle/boundbundle/format/PairEqualsPinLaw" (some 0) with
  accessFlags := 49
  interfaces := #[]
  cf := some (fileOf pool1 22 #[] #[{ accessFlags := 2, nameIndex := 5, descriptorIndex := 6, attributes := #[] }, { accessFlags := 9, nameIndex := 26, descriptorIndex := 27, attributes := #[] }] 49 2 #[] #[])
  fields := #[]
  methods := #[k1m0, k1m1]
  instanceTypes := #[]
  staticTypes := #[]
  resolved := Array.replicate 35 none
  statics := none }

def pool2 : Array CpInfo := pool [(1, .methodref 2 3), (0, .class_ 4), (0, .nameAndType 5 6), (0, u "java/lang/Object"), (0, u "<init>"), (0, u "()V"), (0, .fieldref 8 9), (0, .class_ 10), (0, .nameAndType 11 12), (0, u "com/example/bound_bundle/boundbundle/format/ApkSigningBlock$Pair"), (0, u "id"), (0, u "I"), (0, .fieldref 8 14), (0, .nameAndType 15 16), (0, u "valueOffset"), (0, u "J"), (0, .fieldref 8 18), (0, .nameAndType 19 16), (0, u "valueLength"), (25, u "(IJJ)V"), (7, u "equals"), (0, u "(Ljava/lang/Object;)Z"), (7, .class_ 63), (0, u "com/example/bound_bundle/boundbundle/format/ApkSigningBlock")] 2

def k2c0 : Code := { maxStack := 3, maxLocals := 6, code := prog_78_method_1_code, exceptionTable := #[], attributes := #[] }
def k2m0 : Method := { name := "<init>", desc := "(IJJ)V", sig := { parameters := [.int, .long, .long], returnType := none }, accessFlags := 1, code := some k2c0 }
def k2c1 : Code := { maxStack := 4, maxLocals := 3, code := prog_78_method_5_code, exceptionTable := #[], attributes := #[] }
def k2m1 : Method := { name := "equals", desc := "(Ljava/lang/Object;)Z", sig := { parameters := [(.object "java/lang/Object")], returnType := some .boolean }, accessFlags := 1, code := some k2c1 }
/-- com/example/bound_bundle/boundbundle/format/ApkSigningBlock$Pair -/
def k2 : Class := { plain "com/example/bound_bundle/boundbundle/format/ApkSigningBlock$Pair" (some 0) with
  accessFlags := 49
  interfaces := #[]
  cf := some (fileOf pool2 8 #[.nestHost 62] #[{ accessFlags := 1, nameIndex := 5, descriptorIndex := 45, attributes := #[] }, { accessFlags := 1, nameIndex := 53, descriptorIndex := 54, attributes := #[] }] 49 2 #[] #[{ accessFlags := 18, nameIndex := 11, descriptorIndex := 12, attributes := #[] }, { accessFlags := 18, nameIndex := 15, descriptorIndex := 16, attributes := #[] }, { accessFlags := 18, nameIndex := 19, descriptorIndex := 16, attributes := #[] }])
  fields := #[{ name := "id", type := .int, accessFlags := 18, slot := 0, constantValue := 0 }, { name := "valueOffset", type := .long, accessFlags := 18, slot := 1, constantValue := 0 }, { name := "valueLength", type := .long, accessFlags := 18, slot := 2, constantValue := 0 }]
  methods := #[k2m0, k2m1]
  instanceTypes := #[.int, .long, .long]
  staticTypes := #[]
  resolved := Array.replicate 66 none
  statics := none }

def pool3 : Array CpInfo := pool [(1, .class_ 2), (0, u "java/io/Serializable"), (0, .class_ 4), (0, u "java/lang/Object")] 2

/-- java/io/Serializable -/
def k3 : Class := { plain "java/io/Serializable" (some 0) with
  accessFlags := 1537
  interfaces := #[]
  cf := some (fileOf pool3 1 #[] #[] 1537 3 #[] #[])
  fields := #[]
  methods := #[]
  instanceTypes := #[]
  staticTypes := #[]
  resolved := Array.replicate 7 none
  statics := none }

def pool4 : Array CpInfo := pool [(1, .methodref 2 3), (0, .class_ 4), (0, .nameAndType 5 6), (0, u "java/lang/Object"), (0, u "<init>"), (0, u "()V"), (1, .class_ 10), (1, u "java/lang/Number"), (2, .class_ 14), (0, u "java/io/Serializable"), (0, u "serialVersionUID"), (0, u "J")] 20

def k4c0 : Code := { maxStack := 1, maxLocals := 1, code := jdk_18_method_1_code, exceptionTable := #[], attributes := #[] }
def k4m0 : Method := { name := "<init>", desc := "()V", sig := { parameters := [], returnType := none }, accessFlags := 1, code := some k4c0 }
/-- java/lang/Number -/
def k4 : Class := { plain "java/lang/Number" (some 0) with
  accessFlags := 1057
  interfaces := #[3]
  cf := some (fileOf pool4 8 #[] #[{ accessFlags := 1, nameIndex := 5, descriptorIndex := 6, attributes := #[] }] 1057 2 #[13] #[{ accessFlags := 26, nameIndex := 15, descriptorIndex := 16, attributes := #[] }])
  fields := #[{ name := "serialVersionUID", type := .long, accessFlags := 26, slot := 0, constantValue := 0 }]
  methods := #[k4m0]
  instanceTypes := #[]
  staticTypes := #[.long]
  resolved := Array.replicate 37 none
  statics := none }

def pool5 : Array CpInfo := pool [(1, .class_ 2), (0, u "java/lang/Comparable"), (0, .class_ 4), (0, u "java/lang/Object")] 7

/-- java/lang/Comparable -/
def k5 : Class := { plain "java/lang/Comparable" (some 0) with
  accessFlags := 1537
  interfaces := #[]
  cf := some (fileOf pool5 1 #[] #[] 1537 3 #[] #[])
  fields := #[]
  methods := #[]
  instanceTypes := #[]
  staticTypes := #[]
  resolved := Array.replicate 12 none
  statics := none }

def pool6 : Array CpInfo := pool [(1, .class_ 2), (0, u "java/lang/constant/Constable"), (0, .class_ 4), (0, u "java/lang/Object")] 6

/-- java/lang/constant/Constable -/
def k6 : Class := { plain "java/lang/constant/Constable" (some 0) with
  accessFlags := 1537
  interfaces := #[]
  cf := some (fileOf pool6 1 #[] #[] 1537 3 #[] #[])
  fields := #[]
  methods := #[]
  instanceTypes := #[]
  staticTypes := #[]
  resolved := Array.replicate 11 none
  statics := none }

def pool7 : Array CpInfo := pool [(1, .class_ 2), (0, u "java/lang/constant/ConstantDesc"), (0, .class_ 4), (0, u "java/lang/Object")] 32

/-- java/lang/constant/ConstantDesc -/
def k7 : Class := { plain "java/lang/constant/ConstantDesc" (some 0) with
  accessFlags := 1537
  interfaces := #[]
  cf := some (fileOf pool7 1 #[] #[] 1537 3 #[] #[])
  fields := #[]
  methods := #[]
  instanceTypes := #[]
  staticTypes := #[]
  resolved := Array.replicate 37 none
  statics := none }

def pool8 : Array CpInfo := pool [(1, .class_ 2), (0, u "java/lang/Integer"), (16, u "digits"), (0, u "[C"), (46, u "<init>"), (17, u "DigitOnes"), (0, u "[B"), (2, u "DigitTens"), (10, .nameAndType 67 101), (0, u "()V"), (85, u "valueOf"), (0, u "(I)Ljava/lang/Integer;"), (0, .class_ 190), (0, u "java/lang/Integer$IntegerCache"), (0, .fieldref 189 192), (0, .nameAndType 193 194), (0, u "high"), (0, u "I"), (0, .fieldref 189 196), (0, .nameAndType 197 198), (0, u "cache"), (0, u "[Ljava/lang/Integer;"), (0, .methodref 1 200), (0, .nameAndType 67 201), (0, u "(I)V"), (0, .methodref 203 100), (0, .class_ 204), (0, u "java/lang/Number"), (0, .fieldref 1 206), (0, .nameAndType 207 194), (0, u "value"), (94, u "TYPE"), (0, u "Ljava/lang/Class;"), (0, .class_ 305), (0, u "java/lang/Comparable"), (0, .class_ 307), (0, u "java/lang/constant/Constable"), (0, .class_ 309), (0, u "java/lang/constant/ConstantDesc"), (0, u "MIN_VALUE"), (1, u "MAX_VALUE"), (3, u "SIZE"), (1, u "BYTES"), (1, u "serialVersionUID"), (0, u "J")] 131

def k8c0 : Code := { maxStack := 3, maxLocals := 1, code := jdk_33_method_22_code, exceptionTable := #[], attributes := #[] }
def k8m0 : Method := { name := "valueOf", desc := "(I)Ljava/lang/Integer;", sig := { parameters := [.int], returnType := some (.object "java/lang/Integer") }, accessFlags := 9, code := some k8c0 }
def k8c1 : Code := { maxStack := 2, maxLocals := 2, code := jdk_33_method_23_code, exceptionTable := #[], attributes := #[] }
def k8m1 : Method := { name := "<init>", desc := "(I)V", sig := { parameters := [.int], returnType := none }, accessFlags := 1, code := some k8c1 }
/-- java/lang/Integer -/
def k8 : Class := { plain "java/lang/Integer" (some 4) with
  accessFlags := 49
  interfaces := #[5, 6, 7]
  cf := some (fileOf pool8 1 #[.nestMembers #[189]] #[{ accessFlags := 9, nameIndex := 187, descriptorIndex := 188, attributes := #[] }, { accessFlags := 1, nameIndex := 67, descriptorIndex := 201, attributes := #[] }] 49 203 #[304, 306, 308] #[{ accessFlags := 25, nameIndex := 310, descriptorIndex := 194, attributes := #[] }, { accessFlags := 25, nameIndex := 312, descriptorIndex := 194, attributes := #[] }, { accessFlags := 25, nameIndex := 302, descriptorIndex := 303, attributes := #[] }, { accessFlags := 24, nameIndex := 19, descriptorIndex := 20, attributes := #[] }, { accessFlags := 24, nameIndex := 89, descriptorIndex := 86, attributes := #[] }, { accessFlags := 24, nameIndex := 85, descriptorIndex := 86, attributes := #[] }, { accessFlags := 18, nameIndex := 207, descriptorIndex := 194, attributes := #[] }, { accessFlags := 25, nameIndex := 316, descriptorIndex := 194, attributes := #[] }, { accessFlags := 25, nameIndex := 318, descriptorIndex := 194, attributes := #[] }, { accessFlags := 26, nameIndex := 320, descriptorIndex := 321, attributes := #[] }])
  fields := #[{ name := "MIN_VALUE", type := .int, accessFlags := 25, slot := 0, constantValue := 0 }, { name := "MAX_VALUE", type := .int, accessFlags := 25, slot := 1, constantValue := 0 }, { name := "TYPE", type := (.object "java/lang/Class"), accessFlags := 25, slot := 2, constantValue := 0 }, { name := "digits", type := (.array .char), accessFlags := 24, slot := 3, constantValue := 0 }, { name := "DigitTens", type := (.array .byte), accessFlags := 24, slot := 4, constantValue := 0 }, { name := "DigitOnes", type := (.array .byte), accessFlags := 24, slot := 5, constantValue := 0 }, { name := "value", type := .int, accessFlags := 18, slot := 0, constantValue := 0 }, { name := "SIZE", type := .int, accessFlags := 25, slot := 6, constantValue := 0 }, { name := "BYTES", type := .int, accessFlags := 25, slot := 7, constantValue := 0 }, { name := "serialVersionUID", type := .long, accessFlags := 26, slot := 8, constantValue := 0 }]
  methods := #[k8m0, k8m1]
  instanceTypes := #[.int]
  staticTypes := #[.int, .int, (.object "java/lang/Class"), (.array .char), (.array .byte), (.array .byte), .int, .int, .long]
  resolved := Array.replicate 453 none
  statics := none }

def pool9 : Array CpInfo := pool [(2, .class_ 4), (1, u "java/lang/Object"), (0, u "<init>"), (0, u "()V"), (0, .class_ 8), (0, u "java/lang/Integer"), (7, .class_ 18), (1, u "java/lang/Integer$IntegerCache"), (0, u "$assertionsDisabled"), (0, u "Z"), (26, u "high"), (0, u "I"), (8, u "archivedCache"), (0, u "[Ljava/lang/Integer;"), (12, u "cache"), (0, u "low")] 27

def k9m0 : Method := { name := "<init>", desc := "()V", sig := { parameters := [], returnType := none }, accessFlags := 2, code := none }
/-- java/lang/Integer$IntegerCache -/
def k9 : Class := { plain "java/lang/Integer$IntegerCache" (some 0) with
  accessFlags := 48
  interfaces := #[]
  cf := some (fileOf pool9 16 #[.nestHost 7] #[{ accessFlags := 2, nameIndex := 5, descriptorIndex := 6, attributes := #[] }] 48 2 #[] #[{ accessFlags := 24, nameIndex := 72, descriptorIndex := 48, attributes := #[] }, { accessFlags := 24, nameIndex := 47, descriptorIndex := 48, attributes := #[] }, { accessFlags := 24, nameIndex := 71, descriptorIndex := 58, attributes := #[] }, { accessFlags := 8, nameIndex := 57, descriptorIndex := 58, attributes := #[] }, { accessFlags := 4120, nameIndex := 19, descriptorIndex := 20, attributes := #[] }])
  fields := #[{ name := "low", type := .int, accessFlags := 24, slot := 0, constantValue := 0 }, { name := "high", type := .int, accessFlags := 24, slot := 1, constantValue := 0 }, { name := "cache", type := (.array (.object "java/lang/Integer")), accessFlags := 24, slot := 2, constantValue := 0 }, { name := "archivedCache", type := (.array (.object "java/lang/Integer")), accessFlags := 8, slot := 3, constantValue := 0 }, { name := "$assertionsDisabled", type := .boolean, accessFlags := 4120, slot := 4, constantValue := 0 }]
  methods := #[k9m0]
  instanceTypes := #[]
  staticTypes := #[.int, .int, (.array (.object "java/lang/Integer")), (.array (.object "java/lang/Integer")), .boolean]
  resolved := Array.replicate 100 none
  statics := some 0 }

def pool10 : Array CpInfo := pool [(1, u "java/lang/Cloneable"), (0, .class_ 1), (0, u "java/lang/Object"), (0, .class_ 3)] 3

/-- java/lang/Cloneable -/
def k10 : Class := { plain "java/lang/Cloneable" (some 0) with
  accessFlags := 1537
  interfaces := #[]
  cf := some (fileOf pool10 2 #[] #[] 1537 4 #[] #[])
  fields := #[]
  methods := #[]
  instanceTypes := #[]
  staticTypes := #[]
  resolved := Array.replicate 8 none
  statics := none }

/-- the primitive byte -/
def k11 : Class := { plain "byte" none with kind := .primitive 'B', accessFlags := 0x411 }
/-- [B -/
def k12 : Class := { plain "[B" (some 0) with kind := .array 11 .byte, interfaces := #[10, 3], accessFlags := 1041 }

/-- the primitive int -/
def k13 : Class := { plain "int" none with kind := .primitive 'I', accessFlags := 0x411 }
/-- [I -/
def k14 : Class := { plain "[I" (some 0) with kind := .array 13 .int, interfaces := #[10, 3], accessFlags := 1041 }

/-- [Ljava/lang/Integer; -/
def k15 : Class := { plain "[Ljava/lang/Integer;" (some 0) with kind := .array 8 (.object "java/lang/Integer"), interfaces := #[10, 3], accessFlags := 1041 }

def heap : Heap := #[{ cls := 9, slots := #[.int 0, .int 127, .ref 1, .null, .int 0], vm := .statics 9 },
  { cls := 15, slots := #[.ref 2, .ref 3, .ref 4, .ref 5, .ref 6, .ref 7, .ref 8, .ref 9, .ref 10, .ref 11, .ref 12, .ref 13, .ref 14, .ref 15, .ref 16, .ref 17, .ref 18, .ref 19, .ref 20, .ref 21, .ref 22, .ref 23, .ref 24, .ref 25, .ref 26, .ref 27, .ref 28, .ref 29, .ref 30, .ref 31, .ref 32, .ref 33, .ref 34, .ref 35, .ref 36, .ref 37, .ref 38, .ref 39, .ref 40, .ref 41, .ref 42, .ref 43, .ref 44, .ref 45, .ref 46, .ref 47, .ref 48, .ref 49, .ref 50, .ref 51, .ref 52, .ref 53, .ref 54, .ref 55, .ref 56, .ref 57, .ref 58, .ref 59, .ref 60, .ref 61, .ref 62, .ref 63, .ref 64, .ref 65, .ref 66, .ref 67, .ref 68, .ref 69, .ref 70, .ref 71, .ref 72, .ref 73, .ref 74, .ref 75, .ref 76, .ref 77, .ref 78, .ref 79, .ref 80, .ref 81, .ref 82, .ref 83, .ref 84, .ref 85, .ref 86, .ref 87, .ref 88, .ref 89, .ref 90, .ref 91, .ref 92, .ref 93, .ref 94, .ref 95, .ref 96, .ref 97, .ref 98, .ref 99, .ref 100, .ref 101, .ref 102, .ref 103, .ref 104, .ref 105, .ref 106, .ref 107, .ref 108, .ref 109, .ref 110, .ref 111, .ref 112, .ref 113, .ref 114, .ref 115, .ref 116, .ref 117, .ref 118, .ref 119, .ref 120, .ref 121, .ref 122, .ref 123, .ref 124, .ref 125, .ref 126, .ref 127, .ref 128, .ref 129, .ref 130, .ref 131, .ref 132, .ref 133, .ref 134, .ref 135, .ref 136, .ref 137, .ref 138, .ref 139, .ref 140, .ref 141, .ref 142, .ref 143, .ref 144, .ref 145, .ref 146, .ref 147, .ref 148, .ref 149, .ref 150, .ref 151, .ref 152, .ref 153, .ref 154, .ref 155, .ref 156, .ref 157, .ref 158, .ref 159, .ref 160, .ref 161, .ref 162, .ref 163, .ref 164, .ref 165, .ref 166, .ref 167, .ref 168, .ref 169, .ref 170, .ref 171, .ref 172, .ref 173, .ref 174, .ref 175, .ref 176, .ref 177, .ref 178, .ref 179, .ref 180, .ref 181, .ref 182, .ref 183, .ref 184, .ref 185, .ref 186, .ref 187, .ref 188, .ref 189, .ref 190, .ref 191, .ref 192, .ref 193, .ref 194, .ref 195, .ref 196, .ref 197, .ref 198, .ref 199, .ref 200, .ref 201, .ref 202, .ref 203, .ref 204, .ref 205, .ref 206, .ref 207, .ref 208, .ref 209, .ref 210, .ref 211, .ref 212, .ref 213, .ref 214, .ref 215, .ref 216, .ref 217, .ref 218, .ref 219, .ref 220, .ref 221, .ref 222, .ref 223, .ref 224, .ref 225, .ref 226, .ref 227, .ref 228, .ref 229, .ref 230, .ref 231, .ref 232, .ref 233, .ref 234, .ref 235, .ref 236, .ref 237, .ref 238, .ref 239, .ref 240, .ref 241, .ref 242, .ref 243, .ref 244, .ref 245, .ref 246, .ref 247, .ref 248, .ref 249, .ref 250, .ref 251, .ref 252, .ref 253, .ref 254, .ref 255, .ref 256, .ref 257], vm := .none },
  { cls := 8, slots := #[.int (-128)], vm := .none },
  { cls := 8, slots := #[.int (-127)], vm := .none },
  { cls := 8, slots := #[.int (-126)], vm := .none },
  { cls := 8, slots := #[.int (-125)], vm := .none },
  { cls := 8, slots := #[.int (-124)], vm := .none },
  { cls := 8, slots := #[.int (-123)], vm := .none },
  { cls := 8, slots := #[.int (-122)], vm := .none },
  { cls := 8, slots := #[.int (-121)], vm := .none },
  { cls := 8, slots := #[.int (-120)], vm := .none },
  { cls := 8, slots := #[.int (-119)], vm := .none },
  { cls := 8, slots := #[.int (-118)], vm := .none },
  { cls := 8, slots := #[.int (-117)], vm := .none },
  { cls := 8, slots := #[.int (-116)], vm := .none },
  { cls := 8, slots := #[.int (-115)], vm := .none },
  { cls := 8, slots := #[.int (-114)], vm := .none },
  { cls := 8, slots := #[.int (-113)], vm := .none },
  { cls := 8, slots := #[.int (-112)], vm := .none },
  { cls := 8, slots := #[.int (-111)], vm := .none },
  { cls := 8, slots := #[.int (-110)], vm := .none },
  { cls := 8, slots := #[.int (-109)], vm := .none },
  { cls := 8, slots := #[.int (-108)], vm := .none },
  { cls := 8, slots := #[.int (-107)], vm := .none },
  { cls := 8, slots := #[.int (-106)], vm := .none },
  { cls := 8, slots := #[.int (-105)], vm := .none },
  { cls := 8, slots := #[.int (-104)], vm := .none },
  { cls := 8, slots := #[.int (-103)], vm := .none },
  { cls := 8, slots := #[.int (-102)], vm := .none },
  { cls := 8, slots := #[.int (-101)], vm := .none },
  { cls := 8, slots := #[.int (-100)], vm := .none },
  { cls := 8, slots := #[.int (-99)], vm := .none },
  { cls := 8, slots := #[.int (-98)], vm := .none },
  { cls := 8, slots := #[.int (-97)], vm := .none },
  { cls := 8, slots := #[.int (-96)], vm := .none },
  { cls := 8, slots := #[.int (-95)], vm := .none },
  { cls := 8, slots := #[.int (-94)], vm := .none },
  { cls := 8, slots := #[.int (-93)], vm := .none },
  { cls := 8, slots := #[.int (-92)], vm := .none },
  { cls := 8, slots := #[.int (-91)], vm := .none },
  { cls := 8, slots := #[.int (-90)], vm := .none },
  { cls := 8, slots := #[.int (-89)], vm := .none },
  { cls := 8, slots := #[.int (-88)], vm := .none },
  { cls := 8, slots := #[.int (-87)], vm := .none },
  { cls := 8, slots := #[.int (-86)], vm := .none },
  { cls := 8, slots := #[.int (-85)], vm := .none },
  { cls := 8, slots := #[.int (-84)], vm := .none },
  { cls := 8, slots := #[.int (-83)], vm := .none },
  { cls := 8, slots := #[.int (-82)], vm := .none },
  { cls := 8, slots := #[.int (-81)], vm := .none },
  { cls := 8, slots := #[.int (-80)], vm := .none },
  { cls := 8, slots := #[.int (-79)], vm := .none },
  { cls := 8, slots := #[.int (-78)], vm := .none },
  { cls := 8, slots := #[.int (-77)], vm := .none },
  { cls := 8, slots := #[.int (-76)], vm := .none },
  { cls := 8, slots := #[.int (-75)], vm := .none },
  { cls := 8, slots := #[.int (-74)], vm := .none },
  { cls := 8, slots := #[.int (-73)], vm := .none },
  { cls := 8, slots := #[.int (-72)], vm := .none },
  { cls := 8, slots := #[.int (-71)], vm := .none },
  { cls := 8, slots := #[.int (-70)], vm := .none },
  { cls := 8, slots := #[.int (-69)], vm := .none },
  { cls := 8, slots := #[.int (-68)], vm := .none },
  { cls := 8, slots := #[.int (-67)], vm := .none },
  { cls := 8, slots := #[.int (-66)], vm := .none },
  { cls := 8, slots := #[.int (-65)], vm := .none },
  { cls := 8, slots := #[.int (-64)], vm := .none },
  { cls := 8, slots := #[.int (-63)], vm := .none },
  { cls := 8, slots := #[.int (-62)], vm := .none },
  { cls := 8, slots := #[.int (-61)], vm := .none },
  { cls := 8, slots := #[.int (-60)], vm := .none },
  { cls := 8, slots := #[.int (-59)], vm := .none },
  { cls := 8, slots := #[.int (-58)], vm := .none },
  { cls := 8, slots := #[.int (-57)], vm := .none },
  { cls := 8, slots := #[.int (-56)], vm := .none },
  { cls := 8, slots := #[.int (-55)], vm := .none },
  { cls := 8, slots := #[.int (-54)], vm := .none },
  { cls := 8, slots := #[.int (-53)], vm := .none },
  { cls := 8, slots := #[.int (-52)], vm := .none },
  { cls := 8, slots := #[.int (-51)], vm := .none },
  { cls := 8, slots := #[.int (-50)], vm := .none },
  { cls := 8, slots := #[.int (-49)], vm := .none },
  { cls := 8, slots := #[.int (-48)], vm := .none },
  { cls := 8, slots := #[.int (-47)], vm := .none },
  { cls := 8, slots := #[.int (-46)], vm := .none },
  { cls := 8, slots := #[.int (-45)], vm := .none },
  { cls := 8, slots := #[.int (-44)], vm := .none },
  { cls := 8, slots := #[.int (-43)], vm := .none },
  { cls := 8, slots := #[.int (-42)], vm := .none },
  { cls := 8, slots := #[.int (-41)], vm := .none },
  { cls := 8, slots := #[.int (-40)], vm := .none },
  { cls := 8, slots := #[.int (-39)], vm := .none },
  { cls := 8, slots := #[.int (-38)], vm := .none },
  { cls := 8, slots := #[.int (-37)], vm := .none },
  { cls := 8, slots := #[.int (-36)], vm := .none },
  { cls := 8, slots := #[.int (-35)], vm := .none },
  { cls := 8, slots := #[.int (-34)], vm := .none },
  { cls := 8, slots := #[.int (-33)], vm := .none },
  { cls := 8, slots := #[.int (-32)], vm := .none },
  { cls := 8, slots := #[.int (-31)], vm := .none },
  { cls := 8, slots := #[.int (-30)], vm := .none },
  { cls := 8, slots := #[.int (-29)], vm := .none },
  { cls := 8, slots := #[.int (-28)], vm := .none },
  { cls := 8, slots := #[.int (-27)], vm := .none },
  { cls := 8, slots := #[.int (-26)], vm := .none },
  { cls := 8, slots := #[.int (-25)], vm := .none },
  { cls := 8, slots := #[.int (-24)], vm := .none },
  { cls := 8, slots := #[.int (-23)], vm := .none },
  { cls := 8, slots := #[.int (-22)], vm := .none },
  { cls := 8, slots := #[.int (-21)], vm := .none },
  { cls := 8, slots := #[.int (-20)], vm := .none },
  { cls := 8, slots := #[.int (-19)], vm := .none },
  { cls := 8, slots := #[.int (-18)], vm := .none },
  { cls := 8, slots := #[.int (-17)], vm := .none },
  { cls := 8, slots := #[.int (-16)], vm := .none },
  { cls := 8, slots := #[.int (-15)], vm := .none },
  { cls := 8, slots := #[.int (-14)], vm := .none },
  { cls := 8, slots := #[.int (-13)], vm := .none },
  { cls := 8, slots := #[.int (-12)], vm := .none },
  { cls := 8, slots := #[.int (-11)], vm := .none },
  { cls := 8, slots := #[.int (-10)], vm := .none },
  { cls := 8, slots := #[.int (-9)], vm := .none },
  { cls := 8, slots := #[.int (-8)], vm := .none },
  { cls := 8, slots := #[.int (-7)], vm := .none },
  { cls := 8, slots := #[.int (-6)], vm := .none },
  { cls := 8, slots := #[.int (-5)], vm := .none },
  { cls := 8, slots := #[.int (-4)], vm := .none },
  { cls := 8, slots := #[.int (-3)], vm := .none },
  { cls := 8, slots := #[.int (-2)], vm := .none },
  { cls := 8, slots := #[.int (-1)], vm := .none },
  { cls := 8, slots := #[.int 0], vm := .none },
  { cls := 8, slots := #[.int 1], vm := .none },
  { cls := 8, slots := #[.int 2], vm := .none },
  { cls := 8, slots := #[.int 3], vm := .none },
  { cls := 8, slots := #[.int 4], vm := .none },
  { cls := 8, slots := #[.int 5], vm := .none },
  { cls := 8, slots := #[.int 6], vm := .none },
  { cls := 8, slots := #[.int 7], vm := .none },
  { cls := 8, slots := #[.int 8], vm := .none },
  { cls := 8, slots := #[.int 9], vm := .none },
  { cls := 8, slots := #[.int 10], vm := .none },
  { cls := 8, slots := #[.int 11], vm := .none },
  { cls := 8, slots := #[.int 12], vm := .none },
  { cls := 8, slots := #[.int 13], vm := .none },
  { cls := 8, slots := #[.int 14], vm := .none },
  { cls := 8, slots := #[.int 15], vm := .none },
  { cls := 8, slots := #[.int 16], vm := .none },
  { cls := 8, slots := #[.int 17], vm := .none },
  { cls := 8, slots := #[.int 18], vm := .none },
  { cls := 8, slots := #[.int 19], vm := .none },
  { cls := 8, slots := #[.int 20], vm := .none },
  { cls := 8, slots := #[.int 21], vm := .none },
  { cls := 8, slots := #[.int 22], vm := .none },
  { cls := 8, slots := #[.int 23], vm := .none },
  { cls := 8, slots := #[.int 24], vm := .none },
  { cls := 8, slots := #[.int 25], vm := .none },
  { cls := 8, slots := #[.int 26], vm := .none },
  { cls := 8, slots := #[.int 27], vm := .none },
  { cls := 8, slots := #[.int 28], vm := .none },
  { cls := 8, slots := #[.int 29], vm := .none },
  { cls := 8, slots := #[.int 30], vm := .none },
  { cls := 8, slots := #[.int 31], vm := .none },
  { cls := 8, slots := #[.int 32], vm := .none },
  { cls := 8, slots := #[.int 33], vm := .none },
  { cls := 8, slots := #[.int 34], vm := .none },
  { cls := 8, slots := #[.int 35], vm := .none },
  { cls := 8, slots := #[.int 36], vm := .none },
  { cls := 8, slots := #[.int 37], vm := .none },
  { cls := 8, slots := #[.int 38], vm := .none },
  { cls := 8, slots := #[.int 39], vm := .none },
  { cls := 8, slots := #[.int 40], vm := .none },
  { cls := 8, slots := #[.int 41], vm := .none },
  { cls := 8, slots := #[.int 42], vm := .none },
  { cls := 8, slots := #[.int 43], vm := .none },
  { cls := 8, slots := #[.int 44], vm := .none },
  { cls := 8, slots := #[.int 45], vm := .none },
  { cls := 8, slots := #[.int 46], vm := .none },
  { cls := 8, slots := #[.int 47], vm := .none },
  { cls := 8, slots := #[.int 48], vm := .none },
  { cls := 8, slots := #[.int 49], vm := .none },
  { cls := 8, slots := #[.int 50], vm := .none },
  { cls := 8, slots := #[.int 51], vm := .none },
  { cls := 8, slots := #[.int 52], vm := .none },
  { cls := 8, slots := #[.int 53], vm := .none },
  { cls := 8, slots := #[.int 54], vm := .none },
  { cls := 8, slots := #[.int 55], vm := .none },
  { cls := 8, slots := #[.int 56], vm := .none },
  { cls := 8, slots := #[.int 57], vm := .none },
  { cls := 8, slots := #[.int 58], vm := .none },
  { cls := 8, slots := #[.int 59], vm := .none },
  { cls := 8, slots := #[.int 60], vm := .none },
  { cls := 8, slots := #[.int 61], vm := .none },
  { cls := 8, slots := #[.int 62], vm := .none },
  { cls := 8, slots := #[.int 63], vm := .none },
  { cls := 8, slots := #[.int 64], vm := .none },
  { cls := 8, slots := #[.int 65], vm := .none },
  { cls := 8, slots := #[.int 66], vm := .none },
  { cls := 8, slots := #[.int 67], vm := .none },
  { cls := 8, slots := #[.int 68], vm := .none },
  { cls := 8, slots := #[.int 69], vm := .none },
  { cls := 8, slots := #[.int 70], vm := .none },
  { cls := 8, slots := #[.int 71], vm := .none },
  { cls := 8, slots := #[.int 72], vm := .none },
  { cls := 8, slots := #[.int 73], vm := .none },
  { cls := 8, slots := #[.int 74], vm := .none },
  { cls := 8, slots := #[.int 75], vm := .none },
  { cls := 8, slots := #[.int 76], vm := .none },
  { cls := 8, slots := #[.int 77], vm := .none },
  { cls := 8, slots := #[.int 78], vm := .none },
  { cls := 8, slots := #[.int 79], vm := .none },
  { cls := 8, slots := #[.int 80], vm := .none },
  { cls := 8, slots := #[.int 81], vm := .none },
  { cls := 8, slots := #[.int 82], vm := .none },
  { cls := 8, slots := #[.int 83], vm := .none },
  { cls := 8, slots := #[.int 84], vm := .none },
  { cls := 8, slots := #[.int 85], vm := .none },
  { cls := 8, slots := #[.int 86], vm := .none },
  { cls := 8, slots := #[.int 87], vm := .none },
  { cls := 8, slots := #[.int 88], vm := .none },
  { cls := 8, slots := #[.int 89], vm := .none },
  { cls := 8, slots := #[.int 90], vm := .none },
  { cls := 8, slots := #[.int 91], vm := .none },
  { cls := 8, slots := #[.int 92], vm := .none },
  { cls := 8, slots := #[.int 93], vm := .none },
  { cls := 8, slots := #[.int 94], vm := .none },
  { cls := 8, slots := #[.int 95], vm := .none },
  { cls := 8, slots := #[.int 96], vm := .none },
  { cls := 8, slots := #[.int 97], vm := .none },
  { cls := 8, slots := #[.int 98], vm := .none },
  { cls := 8, slots := #[.int 99], vm := .none },
  { cls := 8, slots := #[.int 100], vm := .none },
  { cls := 8, slots := #[.int 101], vm := .none },
  { cls := 8, slots := #[.int 102], vm := .none },
  { cls := 8, slots := #[.int 103], vm := .none },
  { cls := 8, slots := #[.int 104], vm := .none },
  { cls := 8, slots := #[.int 105], vm := .none },
  { cls := 8, slots := #[.int 106], vm := .none },
  { cls := 8, slots := #[.int 107], vm := .none },
  { cls := 8, slots := #[.int 108], vm := .none },
  { cls := 8, slots := #[.int 109], vm := .none },
  { cls := 8, slots := #[.int 110], vm := .none },
  { cls := 8, slots := #[.int 111], vm := .none },
  { cls := 8, slots := #[.int 112], vm := .none },
  { cls := 8, slots := #[.int 113], vm := .none },
  { cls := 8, slots := #[.int 114], vm := .none },
  { cls := 8, slots := #[.int 115], vm := .none },
  { cls := 8, slots := #[.int 116], vm := .none },
  { cls := 8, slots := #[.int 117], vm := .none },
  { cls := 8, slots := #[.int 118], vm := .none },
  { cls := 8, slots := #[.int 119], vm := .none },
  { cls := 8, slots := #[.int 120], vm := .none },
  { cls := 8, slots := #[.int 121], vm := .none },
  { cls := 8, slots := #[.int 122], vm := .none },
  { cls := 8, slots := #[.int 123], vm := .none },
  { cls := 8, slots := #[.int 124], vm := .none },
  { cls := 8, slots := #[.int 125], vm := .none },
  { cls := 8, slots := #[.int 126], vm := .none },
  { cls := 8, slots := #[.int 127], vm := .none }]
def classes : Array Class := #[k0, k1, k2, k3, k4, k5, k6, k7, k8, k9, k10, k11, k12, k13, k14, k15]
def interned : List (Array UInt16 × Addr) := []
def slotsUsed : Nat := 517
def theMethod : MethodId := ⟨1, 1⟩
def args0 : Array Value := #[.int 5, .long 6, .long 7, .int 8, .long 9, .long 10]
def aboutOver (below : List Frame) : State where
  vm := { classes := classes, interned := interned.toArray }
  heap := heap
  slotsUsed := slotsUsed
  threads := #[{ frames := .invoking theMethod args0 :: below }]
def below0 : List Frame := [.native { method := ⟨0, 0⟩, args := #[] }]
def about1 : State := aboutOver below0
def p0 : Program := .bare "" "" ""
def e0 : Env := launch0.env 0 0 0
theorem w_frames : about1.frames = Frame.invoking theMethod args0 :: below0 := rfl
set_option maxRecDepth 65536 in
theorem w_args : argsFit about1.vm theMethod args0 = true := by decide +kernel
set_option maxRecDepth 65536 in
theorem w_heap : heapFits about1 = true := by decide +kernel
set_option maxRecDepth 65536 in
theorem w_runnable : about1.curStatus? = some .runnable := by decide +kernel
set_option maxRecDepth 65536 in
theorem w_alone : about1.alone = true := by decide +kernel
set_option maxRecDepth 65536 in
theorem w_named : about1.methodNamed? x = some theMethod := by decide +kernel
set_option maxRecDepth 65536 in
theorem w_hears : about1.hears theMethod below0 = true := by decide +kernel
set_option maxRecDepth 65536 in
theorem w_ripe : about1.ripe theMethod args0 below0 = true := by decide +kernel
theorem w_running : about1.status = .running := rfl
set_option maxRecDepth 65536 in
theorem w_room : about1.hasRoom e0.platform room_1 = true :=
  launch0.hasRoom_least _ room_1 (by decide +kernel) (by decide +kernel) (by decide +kernel) (by decide +kernel) (by decide +kernel) (by decide +kernel)
theorem allAtoms_all (ts : List Jvm.Cond) (a : Array Jvm.Value) (st : Jvm.State) : (allAtoms ts).before a st = ts.all (fun c => c.before a st) := by
  induction ts with
  | nil => rfl
  | cons c t ih =>
    show (Jvm.Cond.and c (allAtoms t)).before a st = _
    rw [Jvm.Cond.before_and, ih, List.all_cons]
def words1 : List Jvm.Cond := Jvm.Cond.code x code maxLocals ret :: tables_1
/-- a 'code' word, met by the world's own term for the bytes: nothing is compared byte by byte -/
theorem code_word {y : MethodName} {bytes : ByteArray} {mx : Nat} {rt : Option FieldType} {a : Array Value} {s : State} {m : MethodId} {meth : Method} {c : Code} (h1 : s.methodNamed? y = some m) (h2 : s.vm.method? m = some meth) (h3 : meth.code = some c) (h4 : c.code = bytes)
    (h5 : (c.maxLocals == mx && c.exceptionTable.isEmpty && decide (c.maxStack ≤ mostOperands) && decide (meth.sig.returnType = rt) && !meth.locks && decide (parseMethodDescriptor y.desc = some meth.sig)) = true) : (Jvm.Cond.code y bytes mx rt).before a s = true := by
  simp only [Bool.and_eq_true, beq_iff_eq, Bool.not_eq_true', decide_eq_true_eq] at h5
  obtain ⟨⟨⟨⟨⟨g1, g2⟩, g3⟩, g4⟩, g5⟩, g6⟩ := h5
  simp [Cond.before, Cond.holds, Cond.value, h1, h2, h3, h4, g1, g2, g3, g4, g5, g6]
def isCode : Jvm.Cond → Bool
  | .code _ _ _ _ => true
  | _ => false
theorem all_split {L : List Jvm.Cond} {P : Jvm.Cond → Bool} (h1 : L.all (fun c => isCode c || P c) = true) (h2 : ∀ c ∈ L.filter isCode, P c = true) : L.all P = true := by
  refine List.all_eq_true.mpr fun c hc => ?_
  have h := List.all_eq_true.mp h1 c hc
  rcases Bool.eq_false_or_eq_true (isCode c) with hi | hi
  · exact h2 c (List.mem_filter.mpr ⟨hc, hi⟩)
  · simpa [hi] using h
set_option maxRecDepth 65536 in
theorem w_c0 : (Jvm.Cond.code x code maxLocals ret).before args0 about1 = true := code_word (m := ⟨1, 1⟩) (meth := k1m1) (c := k1c1) (by decide +kernel) rfl rfl rfl (by decide +kernel)
set_option maxRecDepth 65536 in
theorem w_c1 : (Jvm.Cond.code ({ cls := "com/example/bound_bundle/boundbundle/format/ApkSigningBlock$Pair", name := "<init>", desc := "(IJJ)V" } : Jvm.MethodName) prog_78_method_1_code (6 : Nat) (Option.none : Option Jvm.ClassFile.FieldType)).before args0 about1 = true := code_word (m := ⟨2, 0⟩) (meth := k2m0) (c := k2c0) (by decide +kernel) rfl rfl rfl (by decide +kernel)
set_option maxRecDepth 65536 in
theorem w_c2 : (Jvm.Cond.code ({ cls := "java/lang/Object", name := "<init>", desc := "()V" } : Jvm.MethodName) object_method_1_code (1 : Nat) (Option.none : Option Jvm.ClassFile.FieldType)).before args0 about1 = true := code_word (m := ⟨0, 0⟩) (meth := k0m0) (c := k0c0) (by decide +kernel) rfl rfl rfl (by decide +kernel)
set_option maxRecDepth 65536 in
theorem w_c3 : (Jvm.Cond.code ({ cls := "java/lang/Integer", name := "valueOf", desc := "(I)Ljava/lang/Integer;" } : Jvm.MethodName) jdk_33_method_22_code (1 : Nat) (Option.some (Jvm.ClassFile.FieldType.object "java/lang/Integer"))).before args0 about1 = true := code_word (m := ⟨8, 0⟩) (meth := k8m0) (c := k8c0) (by decide +kernel) rfl rfl rfl (by decide +kernel)
set_option maxRecDepth 65536 in
theorem w_c4 : (Jvm.Cond.code ({ cls := "com/example/bound_bundle/boundbundle/format/ApkSigningBlock$Pair", name := "equals", desc := "(Ljava/lang/Object;)Z" } : Jvm.MethodName) prog_78_method_5_code (3 : Nat) (Option.some Jvm.ClassFile.FieldType.boolean)).before args0 about1 = true := code_word (m := ⟨2, 1⟩) (meth := k2m1) (c := k2c1) (by decide +kernel) rfl rfl rfl (by decide +kernel)
set_option maxRecDepth 65536 in
theorem w_c5 : (Jvm.Cond.code ({ cls := "java/lang/Integer", name := "<init>", desc := "(I)V" } : Jvm.MethodName) jdk_33_method_23_code (2 : Nat) (Option.none : Option Jvm.ClassFile.FieldType)).before args0 about1 = true := code_word (m := ⟨8, 1⟩) (meth := k8m1) (c := k8c1) (by decide +kernel) rfl rfl rfl (by decide +kernel)
set_option maxRecDepth 65536 in
theorem w_c6 : (Jvm.Cond.code ({ cls := "java/lang/Number", name := "<init>", desc := "()V" } : Jvm.MethodName) jdk_18_method_1_code (1 : Nat) (Option.none : Option Jvm.ClassFile.FieldType)).before args0 about1 = true := code_word (m := ⟨4, 0⟩) (meth := k4m0) (c := k4c0) (by decide +kernel) rfl rfl rfl (by decide +kernel)
def codes1 : List Jvm.Cond := [Jvm.Cond.code x code maxLocals ret, Jvm.Cond.code ({ cls := "com/example/bound_bundle/boundbundle/format/ApkSigningBlock$Pair", name := "<init>", desc := "(IJJ)V" } : Jvm.MethodName) prog_78_method_1_code (6 : Nat) (Option.none : Option Jvm.ClassFile.FieldType), Jvm.Cond.code ({ cls := "java/lang/Object", name := "<init>", desc := "()V" } : Jvm.MethodName) object_method_1_code (1 : Nat) (Option.none : Option Jvm.ClassFile.FieldType), Jvm.Cond.code ({ cls := "java/lang/Integer", name := "valueOf", desc := "(I)Ljava/lang/Integer;" } : Jvm.MethodName) jdk_33_method_22_code (1 : Nat) (Option.some (Jvm.ClassFile.FieldType.object "java/lang/Integer")), Jvm.Cond.code ({ cls := "com/example/bound_bundle/boundbundle/format/ApkSigningBlock$Pair", name := "equals", desc := "(Ljava/lang/Object;)Z" } : Jvm.MethodName) prog_78_method_5_code (3 : Nat) (Option.some Jvm.ClassFile.FieldType.boolean), Jvm.Cond.code ({ cls := "java/lang/Integer", name := "<init>", desc := "(I)V" } : Jvm.MethodName) jdk_33_method_23_code (2 : Nat) (Option.none : Option Jvm.ClassFile.FieldType), Jvm.Cond.code ({ cls := "java/lang/Number", name := "<init>", desc := "()V" } : Jvm.MethodName) jdk_18_method_1_code (1 : Nat) (Option.none : Option Jvm.ClassFile.FieldType)]
set_option maxRecDepth 65536 in
theorem codes_eq : words1.filter isCode = codes1 := rfl
theorem w_codes : ∀ c ∈ words1.filter isCode, c.before args0 about1 = true := by
  rw [codes_eq]
  intro c hc
  simp only [codes1, List.mem_cons, List.not_mem_nil, or_false] at hc
  rcases hc with rfl | rfl | rfl | rfl | rfl | rfl | rfl
  · exact w_c0
  · exact w_c1
  · exact w_c2
  · exact w_c3
  · exact w_c4
  · exact w_c5
  · exact w_c6
set_option maxRecDepth 65536 in
theorem w_t1 : (words1.take 24).all (fun c => isCode c || c.before args0 about1) = true := by decide +kernel
set_option maxRecDepth 65536 in
theorem w_t2 : (words1.drop 24).all (fun c => isCode c || c.before args0 about1) = true := by decide +kernel
theorem w_tables : (allAtoms (Jvm.Cond.code x code maxLocals ret :: tables_1)).before args0 about1 = true := by
  rw [allAtoms_all]
  show words1.all (fun c => c.before args0 about1) = true
  refine all_split ?_ w_codes
  rw [← List.take_append_drop 24 words1, List.all_append, w_t1, w_t2]
  rfl
set_option maxRecDepth 65536 in
theorem w_rest : rest_1_c.before args0 about1 = true := by decide +kernel
set_option maxRecDepth 65536 in
theorem w_case : (Jvm.Cond.and given_1 narrow_1).before args0 about1 = true := by decide +kernel
theorem w_applies : (headSpec (Jvm.Cond.code x code maxLocals ret :: tables_1) room_1).applies x e0.platform about1 = true :=
  (Spec.applies_iff w_frames).mpr ⟨w_running, w_runnable, w_alone, w_named, w_hears, w_ripe, w_room, w_tables⟩
theorem atStart : AtStart classFile x code maxLocals ret World_1 tables_1 room_1 Calls_1 rest_1 Pre_1 launch0 p0 e0 about1 theMethod args0 below0 :=
  ⟨lists_1, trivial, launch0.admits_env _ _ _, launch0.least_env, fairChoices_fair.cas, fairChoices_fair.clock, w_frames, w_args, w_heap, w_applies, trivial, w_rest, w_case⟩
end start1
theorem witness_1 : WitnessClaimed_1 := ⟨start1.p0, start1.e0, start1.about1, start1.theMethod, start1.args0, start1.below0, start1.atStart⟩
end Jvm.Pilot.@@N@@
