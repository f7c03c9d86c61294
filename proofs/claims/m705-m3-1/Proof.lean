import JvmDerived
import JvmDerived.Pilot.@@N@@Statement
import JvmDerived.Pilot.@@N@@Code
set_option linter.unusedVariables false
set_option linter.unusedSimpArgs false
namespace Jvm.Pilot.@@N@@
open Jvm Jvm.ClassFile Sem Op Lib Jvm.Free Jvm.Stand Jvm.LawKit Jvm.RoadKit Bundle Jvm.Pilot.@@N@@.Jvm.D
/-! own_: the walk's goal, said once: from the frame g at T the run comes to an end that Fin holds of -/
def own_Go (p : Program) (e : Env) (below : List Frame) (Fin : Outcome → State → Prop) (T : State) (g : JFrame) : Prop :=
  ∃ s₂ o, Steps p.tables e below (T.setTop g) s₂ ∧ s₂.status = .running ∧ Ended s₂ below o ∧ Fin o s₂
def own_Fin (s : State) (Q : Option Value → Heap → List Loc → Prop) (k n : Nat) (o : Outcome) (t : State) : Prop :=
  ∃ v L, o = .returned v ∧ Q v t.heap L ∧ FrameEnd s o t L k n
section OwnGo
variable {p : Program} {l : Launch} {e : Env} {R : Room} {s : State} {m : MethodId} {args : Array Value} {below : List Frame} {meth : Method} {c : Code} {T T' : State} {locs : List Loc} {cells slots : Nat} {Z : State} {a0 : Array Value} {h : Heap} {g g' : JFrame} {Fin : Outcome → State → Prop} {k n : Nat} {Q : Option Value → Heap → List Loc → Prop}
theorem own_go (st : ∀ target, Steps p.tables e below (T'.setTop g') target → Steps p.tables e below (T.setTop g) target) (G : own_Go p e below Fin T' g') : own_Go p e below Fin T g := by
  obtain ⟨s₂, o, h, r⟩ := G
  exact ⟨s₂, o, st _ h, r⟩
theorem own_end (X : Stand p l e R s m args below meth c T locs cells slots) (hlk : meth.locks = false) {v : Option Value} (hv : meth.sig.returnType = none → v = none)
    (hr : ∀ fs, (∀ (f : JFrame) (acts : List Action), f.method = m → f.locked = none → f.entered = [] → (doReturn e (T.setTop f) acts v).1 = T.setFrames fs) → Steps p.tables e below (T.setTop g) (T.setFrames fs))
    (hQ : Q v T.heap locs) (hc : cells ≤ k) (hn : slots ≤ n) : own_Go p e below (own_Fin s Q k n) T g := by
  obtain ⟨fs, h1, hrun, hended, hW, hsame⟩ := X.leave hv hlk
  exact ⟨_, _, hr fs h1, hrun, hended, v, locs, rfl, hQ, ⟨_, rfl⟩, hW, hsame.mono hc hn⟩
theorem own_dia {α : Type} {C : Prop} [Decidable C] {v1 v0 : α} {f : α → JFrame} (h1 : C → own_Go p e below Fin T' (f v1) → own_Go p e below Fin T g) (h0 : ¬ C → own_Go p e below Fin T' (f v0) → own_Go p e below Fin T g) (G : own_Go p e below Fin T' (f (if C then v1 else v0))) : own_Go p e below Fin T g := by
  by_cases hC : C
  · rw [if_pos hC] at G; exact h1 hC G
  · rw [if_neg hC] at G; exact h0 hC G
end OwnGo
def own_Met (l : Launch) (Z : State) (y : MethodName) (bytes : ByteArray) (maxL : Nat) (ret : Option FieldType) (ws : List Jvm.Cond) (rm : Room) (as : Array Value) (h0 : Heap) (Q : Option Value → Heap → List Loc → Prop) : Prop :=
  MetFree l y (head1 (Jvm.Cond.code y bytes maxL ret :: ws) rm) (fun a U => a = as ∧ Z.Warmed39 U.vm ∧ U.heap = h0) (fun _ _ _ _ _ => True) (fun _ U o U' => ∃ v L, o = .returned v ∧ Q v U'.heap L ∧ FrameEnd U o U' L rm.cells rm.slots)
theorem own_met {l : Launch} {Z : State} {y : MethodName} {bytes : ByteArray} {maxL : Nat} {ret : Option FieldType} {ws : List Jvm.Cond} {rm : Room} {as : Array Value} {h0 : Heap} {Q : Option Value → Heap → List Loc → Prop} (hp : plainFor y = true)
    (body : ∀ (p : Program) (e : Env) (s : State) (m : MethodId) (below : List Frame) (meth : Method) (c : Code) (s₁ : State), Stand p l e rm s m as below meth c s₁ [] 0 0 → p.tables.exec = Jvm.exec → Z.Warmed39 s.vm → c.code = bytes → c.maxLocals = maxL → s.vm.findClass y.cls = some m.cls → meth.name = y.name → meth.sig.returnType = ret → meth.locks = false → s₁.heap = h0 →
      own_Go p e below (own_Fin s Q rm.cells rm.slots) s₁ (entryFrame m as maxL)) : own_Met l Z y bytes maxL ret ws rm as h0 Q := by
  refine MetFree.of_bodySF hp hisR ?_
  intro p e s m args below meth c s₁ Bd hml0 hP hK
  obtain ⟨rfl, hZ, hh⟩ := hP
  exact body p e s m below meth c s₁ (Stand.of_body Bd) Bd.exec hZ Bd.bytes hml0 (findClass_of_methodNamed Bd.named) (name_of_methodNamed Bd.named Bd.method).1 Bd.returns Bd.notSynchronized (by rw [← hh, Bd.state]; rfl)
section OwnCall
variable {p : Program} {l : Launch} {e : Env} {R : Room} {s : State} {m : MethodId} {args : Array Value} {below : List Frame} {meth : Method} {c : Code} {T : State} {locs : List Loc} {cells slots : Nat} {Z : State} {a0 : Array Value} {h : Heap} {g : JFrame} {Q : Option Value → Heap → List Loc → Prop} {own : String} {index : Nat} {y z : MethodName} {bytes : ByteArray} {maxL W : Nat} {ret r0 : Option FieldType} {rm : Room} {argsL rest : List Value} {ps : List FieldType} {b : Addr} {C : String}
theorem own_callS (X : Stand p l e R s m args below meth c T locs cells slots) (hx : p.tables.exec = Jvm.exec) (hZ : Z.Warmed39 s.vm) (hown : s.vm.findClass own = some m.cls) (wl : (Cond.methodLink own index y).before a0 Z = true) (ws : (Cond.static y).before a0 Z = true) (wi : (Cond.initialized y.cls).before a0 Z = true) (wc : (Cond.code y bytes maxL ret).before a0 Z = true)
    (hy : y.cls ≠ "java/lang/invoke/MethodHandle" ∧ y.cls ≠ "java/lang/invoke/VarHandle") (eT : T.heap = h) (hM : own_Met l Z y bytes maxL ret [] rm argsL.toArray h Q) (hf : rm.frames + 1 ≤ R.frames) (hl : W + (maxL + 11) + rm.locals ≤ R.locals) (hc : cells + rm.cells ≤ R.cells) (hn : slots + rm.slots ≤ R.slots)
    (hpd : parseMethodDescriptor y.desc = some ⟨ps, r0⟩) (hlen : argsL.length = ps.length) (hg : g.method = m) (hsize : g.locals.size = c.maxLocals) (hstack : g.stack = argsL.reverse ++ rest) (hW : 2 * g.monitorRoom + (rest.map fun v => v.category).sum ≤ W) (hd : decode c.code g.pc = .ok (.invokestatic index, 3)) :
    ∃ (v : Option Value) (T' : State) (L : List Loc), Stand p l e R s m args below meth c T' (locs ++ L) (cells + rm.cells) (slots + rm.slots) ∧ Q v T'.heap L ∧ ∀ target, Steps p.tables e below (T'.setTop { g with pc := g.pc + 3, stack := v.toList ++ rest }) target → Steps p.tables e below (T.setTop g) target := by
  obtain ⟨v, vm₁, ⟨T1, L1, k1, n1⟩, -, X1, ⟨Lc, hQ, l1, y1, z1⟩, st⟩ := Jvm.LawKit.callS X hx (y := y) hown (mvT hZ wl) (mvT hZ ws) (mvT hZ wi) (mvT hZ wc) hy (backOf (W := W) hM hZ wc wi hf hl) hg hsize (lenOf hpd hlen) hstack hW hd (fun _ _ => ⟨rfl, eT, hc, hn⟩)
  dsimp only [Pt.U, Pt.locs, Pt.cells, Pt.slots] at X1 l1 y1 z1 st hQ
  subst l1 y1 z1
  exact ⟨v, T1, Lc, X1, hQ, st⟩
theorem own_callI (X : Stand p l e R s m args below meth c T locs cells slots) (hx : p.tables.exec = Jvm.exec) (hZ : Z.Warmed39 s.vm) (hy1 : y.name = "<init>") (hown : s.vm.findClass own = some m.cls) (wl : (Cond.methodLink own index y).before a0 Z = true) (ws : (Cond.instanceMethod y).before a0 Z = true) (wi : (Cond.initialized y.cls).before a0 Z = true) (wc : (Cond.code y bytes maxL none).before a0 Z = true)
    (hy : y.cls ≠ "java/lang/invoke/MethodHandle" ∧ y.cls ≠ "java/lang/invoke/VarHandle") (eT : T.heap = h) (hM : own_Met l Z y bytes maxL none [] rm (.ref b :: argsL).toArray h Q) (hf : rm.frames + 1 ≤ R.frames) (hl : W + (maxL + 11) + rm.locals ≤ R.locals) (hc : cells + rm.cells ≤ R.cells) (hn : slots + rm.slots ≤ R.slots)
    (hpd : parseMethodDescriptor y.desc = some ⟨ps, r0⟩) (hlen : argsL.length = ps.length) (hg : g.method = m) (hsize : g.locals.size = c.maxLocals) (hstack : g.stack = argsL.reverse ++ .ref b :: rest) (hW : 2 * g.monitorRoom + (rest.map fun v => v.category).sum ≤ W) (hd : decode c.code g.pc = .ok (.invokespecial index, 3)) :
    ∃ (v : Option Value) (T' : State) (L : List Loc), Stand p l e R s m args below meth c T' (locs ++ L) (cells + rm.cells) (slots + rm.slots) ∧ Q v T'.heap L ∧ ∀ target, Steps p.tables e below (T'.setTop { g with pc := g.pc + 3, stack := v.toList ++ rest }) target → Steps p.tables e below (T.setTop g) target := by
  obtain ⟨v, vm₁, ⟨T1, L1, k1, n1⟩, -, X1, ⟨Lc, hQ, l1, y1, z1⟩, st⟩ := X.specialBack hx (y := y) hy1 hown (mvT hZ wl) (mvT hZ ws) (mvT hZ wc) hy (backOf (W := W) hM hZ wc wi hf hl) hg hsize (Steps.refl _) (lenOf hpd hlen) hstack hW hd (fun _ _ => ⟨rfl, eT, hc, hn⟩)
  dsimp only [Pt.U, Pt.locs, Pt.cells, Pt.slots] at X1 l1 y1 z1 st hQ
  subst l1 y1 z1
  exact ⟨v, T1, Lc, X1, hQ, fun _ k => st.trans k⟩
theorem own_callV (X : Stand p l e R s m args below meth c T locs cells slots) (hx : p.tables.exec = Jvm.exec) (hZ : Z.Warmed39 s.vm) (hown : s.vm.findClass own = some m.cls) (wl : (Cond.methodLink own index y).before a0 Z = true) (wd : (Cond.declares y).before a0 Z = true) (wsel : (Cond.selects C y y).before a0 Z = true) (ws : (Cond.instanceMethod y).before a0 Z = true) (wi : (Cond.initialized y.cls).before a0 Z = true) (wc : (Cond.code y bytes maxL ret).before a0 Z = true)
    (hy : y.cls ≠ "java/lang/invoke/MethodHandle" ∧ y.cls ≠ "java/lang/invoke/VarHandle") (eT : T.heap = h) (E : Exa Z h b C) (hM : own_Met l Z y bytes maxL ret [] rm (.ref b :: argsL).toArray h Q) (hf : rm.frames + 1 ≤ R.frames) (hl : W + (maxL + 11) + rm.locals ≤ R.locals) (hc : cells + rm.cells ≤ R.cells) (hn : slots + rm.slots ≤ R.slots)
    (hpd : parseMethodDescriptor y.desc = some ⟨ps, r0⟩) (hlen : argsL.length = ps.length) (hg : g.method = m) (hsize : g.locals.size = c.maxLocals) (hstack : g.stack = argsL.reverse ++ .ref b :: rest) (hW : 2 * g.monitorRoom + (rest.map fun v => v.category).sum ≤ W) (hd : decode c.code g.pc = .ok (.invokevirtual index, 3)) :
    ∃ (v : Option Value) (T' : State) (L : List Loc), Stand p l e R s m args below meth c T' (locs ++ L) (cells + rm.cells) (slots + rm.slots) ∧ Q v T'.heap L ∧ ∀ target, Steps p.tables e below (T'.setTop { g with pc := g.pc + 3, stack := v.toList ++ rest }) target → Steps p.tables e below (T.setTop g) target := by
  obtain ⟨cq, kq, qa, qb, qc⟩ := isOf hZ eT E
  obtain ⟨v, vm₁, ⟨T1, L1, k1, n1⟩, -, X1, ⟨Lc, hQ, l1, y1, z1⟩, st⟩ := X.virtualBack hx (y := y) (z := y) hown (mvT hZ wl) (mvT hZ wd) (notFace_of_selects (args := #[]) (mvT hZ wsel)) (mvT hZ wsel) (mvT hZ ws) hy (backOf (W := W) hM hZ wc wi hf hl) qa qc hg hsize (Steps.refl _) (lenOf hpd hlen) hstack hW hd (fun _ _ => ⟨rfl, eT, hc, hn⟩)
  dsimp only [Pt.U, Pt.locs, Pt.cells, Pt.slots] at X1 l1 y1 z1 st hQ
  subst l1 y1 z1
  exact ⟨v, T1, Lc, X1, hQ, fun _ k => st.trans k⟩
end OwnCall
def own_FinW (s : State) (Q : Option Value → Heap → List Loc → Prop) (k n : Nat) (o : Outcome) (t : State) : Prop :=
  ∃ v L, o = .returned v ∧ Q v t.heap L ∧ ReturnedEndW s o t L k n
theorem own_endW {p : Program} {l : Launch} {e : Env} {R : Room} {s : State} {m : MethodId} {args : Array Value} {below : List Frame} {meth : Method} {c : Code} {T : State} {locs : List Loc} {cells slots : Nat} {g : JFrame} {k n : Nat} {Q : Option Value → Heap → List Loc → Prop} {vm₁ : Vm} {j : Nat}
    (X : Stand p l e R (s.setVm vm₁) m args below meth c T locs cells slots) (hS : s.Since vm₁ j) (hj : j ≤ T.heap.size) (hlk : meth.locks = false) {v : Option Value} (hv : meth.sig.returnType = none → v = none)
    (hr : ∀ fs, (∀ (f : JFrame) (acts : List Action), f.method = m → f.locked = none → f.entered = [] → (doReturn e (T.setTop f) acts v).1 = T.setFrames fs) → Steps p.tables e below (T.setTop g) (T.setFrames fs))
    (hQ : Q v T.heap locs) (hc : cells ≤ k) (hn : slots ≤ n) : own_Go p e below (own_FinW s Q k n) T g := by
  obtain ⟨fs, h1, hrun, hended, hE⟩ := X.leaveW hS hj hv hlk
  exact ⟨_, _, hr fs h1, hrun, hended, v, locs, rfl, hQ, hE.1, hE.2.1, hE.2.2.1, hE.2.2.2.mono hc hn⟩
def own_MetW (l : Launch) (Z : State) (y : MethodName) (bytes : ByteArray) (maxL : Nat) (ret : Option FieldType) (ws : List Jvm.Cond) (rm : Room) (as : Array Value) (h0 : Heap) (Q : Option Value → Heap → List Loc → Prop) : Prop :=
  MetFree l y (head1 (Jvm.Cond.code y bytes maxL ret :: ws) rm) (fun a U => a = as ∧ Z.Warmed39 U.vm ∧ U.heap = h0) (fun _ _ _ _ _ => True) (fun _ U o U' => ∃ v L, o = .returned v ∧ Q v U'.heap L ∧ ReturnedEndW U o U' L rm.cells rm.slots)
theorem own_metW {l : Launch} {Z : State} {y : MethodName} {bytes : ByteArray} {maxL : Nat} {ret : Option FieldType} {ws : List Jvm.Cond} {rm : Room} {as : Array Value} {h0 : Heap} {Q : Option Value → Heap → List Loc → Prop} (hp : plainFor y = true)
    (body : ∀ (p : Program) (e : Env) (s : State) (m : MethodId) (below : List Frame) (meth : Method) (c : Code) (s₁ : State), Stand p l e rm (s.setVm s.vm) m as below meth c s₁ [] 0 0 → p.tables.exec = Jvm.exec → Z.Warmed39 s.vm → c.code = bytes → c.maxLocals = maxL → s.vm.findClass y.cls = some m.cls → meth.name = y.name → meth.sig.returnType = ret → meth.locks = false → s₁.heap = h0 →
      own_Go p e below (own_FinW s Q rm.cells rm.slots) s₁ (entryFrame m as maxL)) : own_MetW l Z y bytes maxL ret ws rm as h0 Q := by
  refine MetFree.of_bodySF hp hisR ?_
  intro p e s m args below meth c s₁ Bd hml0 hP hK
  obtain ⟨rfl, hZ, hh⟩ := hP
  exact body p e s m below meth c s₁ (Stand.of_body Bd) Bd.exec hZ Bd.bytes hml0 (findClass_of_methodNamed Bd.named) (name_of_methodNamed Bd.named Bd.method).1 Bd.returns Bd.notSynchronized (by rw [← hh, Bd.state]; rfl)
def own_lim (n : Int64) : Int64 := if (4194304 : Int64) < n then (if n < (12582912 : Int64) then n * 32 else 402653184) else 134217728
def own_mx (a b : Int64) : Int64 := if a < b then b else a
def own_mn (a b : Int64) : Int64 := if b < a then b else a
theorem own_sub {a b : Int64} (h1 : -9223372036854775808 ≤ a.toInt - b.toInt) (h2 : a.toInt - b.toInt < 9223372036854775808) : (a - b).toInt = a.toInt - b.toInt := by
  have := c_lsub a b; have := rng64 (a - b); omega
theorem own_add {a b : Int64} (h1 : -9223372036854775808 ≤ a.toInt + b.toInt) (h2 : a.toInt + b.toInt < 9223372036854775808) : (a + b).toInt = a.toInt + b.toInt := by
  have := c_ladd a b; have := rng64 (a + b); omega
theorem own_mul32 {a : Int64} (h1 : 0 ≤ a.toInt) (h2 : a.toInt ≤ 288230376151711743) : (a * 32).toInt = a.toInt * 32 ∧ ((32 : Int64) * a).toInt = a.toInt * 32 := by
  have q1 := c_lmul a 32; have q2 := c_lmul 32 a; have k : (32 : Int64).toInt = 32 := rfl
  rw [k] at q1 q2
  have := rng64 (a * 32); have := rng64 (32 * a); omega
theorem own_apk (m : Int32) (a : Int64) : 0 ≤ (if m &&& (1 : Int32) = (0 : Int32) then a &&& (16777215 : Int64) else a &&& (288230376151711743 : Int64)).toInt ∧ (if m &&& (1 : Int32) = (0 : Int32) then a &&& (16777215 : Int64) else a &&& (288230376151711743 : Int64)).toInt ≤ 288230376151711743 := by
  have h1 := c_maskL a (16777215 : Int64) 24 (by decide) (by decide)
  have h2 := c_maskL a (288230376151711743 : Int64) 58 (by decide) (by decide)
  split <;> omega
theorem own_limb (n : Int64) (h0 : 0 ≤ n.toInt) (h1 : n.toInt ≤ 288230376151711743) : 134217728 ≤ (own_lim n).toInt ∧ (own_lim n).toInt ≤ 402653184 := by
  have k1 : (4194304 : Int64).toInt = 4194304 := rfl
  have k2 : (12582912 : Int64).toInt = 12582912 := rfl
  have k3 : (402653184 : Int64).toInt = 402653184 := rfl
  have k4 : (134217728 : Int64).toInt = 134217728 := rfl
  have q := own_mul32 h0 h1
  unfold own_lim
  simp only [Int64.lt_iff_toInt_lt, k1, k2]
  split
  · split <;> omega
  · omega
theorem own_limeq (n : Int64) (h0 : 0 ≤ n.toInt) (h1 : n.toInt ≤ 288230376151711743) : own_mn 402653184 (own_mx 134217728 ((32 : Int64) * n)) = own_lim n := by
  have k1 : (4194304 : Int64).toInt = 4194304 := rfl
  have k2 : (12582912 : Int64).toInt = 12582912 := rfl
  have k3 : (402653184 : Int64).toInt = 402653184 := rfl
  have k4 : (134217728 : Int64).toInt = 134217728 := rfl
  have q := own_mul32 h0 h1
  apply Int64.toInt_inj.mp
  unfold own_lim own_mn own_mx
  simp only [Int64.lt_iff_toInt_lt, k1, k2, k4]
  by_cases c1 : 134217728 < ((32 : Int64) * n).toInt
  · rw [if_pos c1]
    by_cases c2 : ((32 : Int64) * n).toInt < (402653184 : Int64).toInt
    · rw [if_pos c2, if_pos (by omega), if_pos (by omega)]; omega
    · rw [if_neg c2, if_pos (by omega), if_neg (by omega)]
  · rw [if_neg c1, if_pos (by omega), if_neg (by omega)]
theorem own_r1 (lim : Int64) (b0 : 134217728 ≤ lim.toInt) (b1 : lim.toInt ≤ 402653184) : (if (lim - (0 : Int64)) < lim then (0 : Int32) else 1) = 1 := by
  have k : (0 : Int64).toInt = 0 := rfl
  have := own_sub (a := lim) (b := 0) (by omega) (by omega)
  rw [if_neg]; rw [Int64.lt_iff_toInt_lt]; omega
theorem own_r2 (lim : Int64) (b0 : 134217728 ≤ lim.toInt) (b1 : lim.toInt ≤ 402653184) : (if (lim - (0 : Int64)) < (lim + (1 : Int64)) then (0 : Int32) else 1) = 0 := by
  have k : (0 : Int64).toInt = 0 := rfl
  have k1 : (1 : Int64).toInt = 1 := rfl
  have := own_sub (a := lim) (b := 0) (by omega) (by omega)
  have := own_add (a := lim) (b := 1) (by omega) (by omega)
  rw [if_pos]; rw [Int64.lt_iff_toInt_lt]; omega
theorem own_nz (y : Int64) (h : 0 < y.toInt) : y ≠ 0 := fun q => by rw [q] at h; exact absurd h (by decide)
theorem own_rem (x y : Int64) (h : 0 < y.toInt) : 0 ≤ ((x &&& (9223372036854775807 : Int64)) - (x &&& (9223372036854775807 : Int64)) / y * y).toInt ∧ ((x &&& (9223372036854775807 : Int64)) - (x &&& (9223372036854775807 : Int64)) / y * y).toInt < y.toInt := by
  have h1 := c_maskL x (9223372036854775807 : Int64) 63 (by decide) (by decide)
  have h2 := (c_lrem (x &&& (9223372036854775807 : Int64)) y y.toInt rfl).1 (by omega)
  rw [h2]
  exact ⟨Int.emod_nonneg _ (by omega), Int.emod_lt_of_pos _ h⟩
theorem own_p1 (lim : Int64) (b0 : 134217728 ≤ lim.toInt) (b1 : lim.toInt ≤ 402653184) : 0 < (lim + (1 : Int64)).toInt ∧ (lim + (1 : Int64)).toInt = lim.toInt + 1 := by
  have k1 : (1 : Int64).toInt = 1 := rfl
  have := own_add (a := lim) (b := 1) (by omega) (by omega)
  omega
theorem own_p2 (lim f : Int64) (b0 : 134217728 ≤ lim.toInt) (b1 : lim.toInt ≤ 402653184) (f0 : 0 ≤ f.toInt) (f1 : f.toInt < lim.toInt + 1) : 0 < (lim - f + (1 : Int64)).toInt ∧ (lim - f + (1 : Int64)).toInt = lim.toInt - f.toInt + 1 := by
  have k1 : (1 : Int64).toInt = 1 := rfl
  have := own_sub (a := lim) (b := f) (by omega) (by omega)
  have := own_add (a := lim - f) (b := 1) (by omega) (by omega)
  omega
theorem own_s1 (lim f : Int64) (b0 : 134217728 ≤ lim.toInt) (b1 : lim.toInt ≤ 402653184) (f0 : 0 ≤ f.toInt) (f1 : f.toInt < lim.toInt + 1) : ¬ (lim - (0 : Int64) < f) := by
  have k : (0 : Int64).toInt = 0 := rfl
  have := own_sub (a := lim) (b := 0) (by omega) (by omega)
  rw [Int64.lt_iff_toInt_lt]; omega
theorem own_left (lim f g : Int64) (b0 : 134217728 ≤ lim.toInt) (b1 : lim.toInt ≤ 402653184) (f0 : 0 ≤ f.toInt) (f1 : f.toInt < lim.toInt + 1) (g0 : 0 ≤ g.toInt) (g1 : g.toInt < lim.toInt - f.toInt + 1) :
    (lim - ((0 : Int64) + f)).toInt = lim.toInt - f.toInt ∧ (lim - (((0 : Int64) + f) + g)).toInt = lim.toInt - f.toInt - g.toInt ∧ (lim - f - g).toInt = lim.toInt - f.toInt - g.toInt ∧ (lim - f - g + (1 : Int64)).toInt = lim.toInt - f.toInt - g.toInt + 1 := by
  have k : (0 : Int64).toInt = 0 := rfl
  have k1 : (1 : Int64).toInt = 1 := rfl
  have e1 := own_add (a := 0) (b := f) (by omega) (by omega)
  have e2 := own_add (a := 0 + f) (b := g) (by omega) (by omega)
  have e3 := own_sub (a := lim) (b := 0 + f) (by omega) (by omega)
  have e4 := own_sub (a := lim) (b := 0 + f + g) (by omega) (by omega)
  have e5 := own_sub (a := lim) (b := f) (by omega) (by omega)
  have e6 := own_sub (a := lim - f) (b := g) (by omega) (by omega)
  have e7 := own_add (a := lim - f - g) (b := 1) (by omega) (by omega)
  omega
theorem own_xx (r x : Int64) : (if r < x then (0 : Int32) else 1) = (if (0 : Int32) < lcmpW x r then (0 : Int32) else 1) := by
  by_cases h : r < x
  · rw [if_pos h, if_pos ((lw_gt _ _).mpr h)]
  · rw [if_neg h, if_neg (fun q => h ((lw_gt _ _).mp q))]
theorem own_ef1 (m : MethodId) (q1 : Int64) : entryFrame m #[(.long q1)] 2 = mkF m 0 #[.val (.long q1), .second] [] := by first | (simp [entryFrame, mkF, argsToLocals, Value.category]; done) | rfl
theorem own_d1_0 : decode method_2_code 0 = .ok (.lload_n 0, 1) := by decide +kernel
theorem own_d1_1 : decode method_2_code 1 = .ok (.ldc2_w 7, 3) := by decide +kernel
theorem own_d1_4 : decode method_2_code 4 = .ok (.lcmp, 1) := by decide +kernel
theorem own_d1_5 : decode method_2_code 5 = .ok (.ifCond .gt 7, 3) := by decide +kernel
theorem own_d1_12 : decode method_2_code 12 = .ok (.lload_n 0, 1) := by decide +kernel
theorem own_d1_13 : decode method_2_code 13 = .ok (.ldc2_w 11, 3) := by decide +kernel
theorem own_d1_16 : decode method_2_code 16 = .ok (.lcmp, 1) := by decide +kernel
theorem own_d1_17 : decode method_2_code 17 = .ok (.ifCond .lt 7, 3) := by decide +kernel
theorem own_d1_24 : decode method_2_code 24 = .ok (.lload_n 0, 1) := by decide +kernel
theorem own_d1_25 : decode method_2_code 25 = .ok (.ldc2_w 15, 3) := by decide +kernel
theorem own_d1_28 : decode method_2_code 28 = .ok (.lmul, 1) := by decide +kernel
theorem own_d1_29 : decode method_2_code 29 = .ok (.lreturn, 1) := by decide +kernel
theorem own_d1_20 : decode method_2_code 20 = .ok (.ldc2_w 13, 3) := by decide +kernel
theorem own_d1_23 : decode method_2_code 23 = .ok (.lreturn, 1) := by decide +kernel
theorem own_d1_8 : decode method_2_code 8 = .ok (.ldc2_w 9, 3) := by decide +kernel
theorem own_d1_11 : decode method_2_code 11 = .ok (.lreturn, 1) := by decide +kernel
theorem own_pn0 : plainName "com/example/bound_bundle/boundbundle/core/JarReadBudgetHasRoomForPinLaw" = true := by first | (simp [plainName, overriddenIn]; done) | decide +kernel
def own_Q1 (Z : State) (q1 : Int64) (h0 : Heap) (n0 : Nat) (v : Option Value) (h : Heap) (L : List Loc) : Prop := v = some (.long (own_lim q1)) ∧ Fr n0 L ∧ h = h0
set_option maxRecDepth 65536 in
set_option maxHeartbeats 40000000 in
theorem own_rm1 (l : Launch) (Z : State) (a0 : Array Value) (hw : ∀ d ∈ tables_1, d.before a0 Z = true) (ws : List Jvm.Cond) (q1 : Int64) (h0 : Heap) (n0 : Nat)  :
    own_Met l Z (⟨"com/example/bound_bundle/boundbundle/core/JarReadBudgetHasRoomForPinLaw", "refLimit", "(J)J"⟩ : MethodName) method_2_code 2 (some .long) ws ({ frames := 0, cells := 0, slots := 0, locals := 0 } : Room) #[(.long q1)] h0 (own_Q1 Z q1 h0 n0) := by
  refine own_met (plainFor_of_name own_pn0) ?_
  intro p e s m below meth c s₁ X0 hx hZ hby hml hown hnm hret hlk e0
  have N0 := Fr.nil n0
  refine own_go (fun t k => castTop (own_ef1 m q1) k) ?_
  show own_Go _ _ _ _ s₁ (mkF m 0 #[.val (.long q1), .second] [])
  refine own_go (fun _ k => XS.lloadN X0.here hx rfl (hb hby own_d1_0) rfl k) ?_
  show own_Go _ _ _ _ s₁ (mkF m 1 #[.val (.long q1), .second] [(.long q1)])
  refine own_go (fun _ k => X0.ldc2Long hx hown (mvT hZ (hw _ (List.mem_of_getElem? (i := 5) rfl))) (g := (mkF m 1 #[.val (.long q1), .second] [(.long q1)])) rfl (hb hby own_d1_1) _ k) ?_
  show own_Go _ _ _ _ s₁ (mkF m 4 #[.val (.long q1), .second] [(.long (4194304 : Int64)), (.long q1)])
  refine own_go (fun _ k => XS.lcmp X0.here hx rfl (hb hby own_d1_4) rfl k) ?_
  show own_Go _ _ _ _ s₁ (mkF m 5 #[.val (.long q1), .second] [(.int (lcmpW q1 (4194304 : Int64)))])
  by_cases hC : (0 : Int32) < (lcmpW q1 (4194304 : Int64))
  · refine own_go (fun _ k => XS.ifYes X0.here hx rfl (pc0 := 5) (pc' := 12) rfl (hb hby own_d1_5) rfl ((if0 _ _).trans (tlt hC).2.2.1) (by decide) (by decide) k) ?_
    show own_Go _ _ _ _ s₁ (mkF m 12 #[.val (.long q1), .second] [])
    refine own_go (fun _ k => XS.lloadN X0.here hx rfl (hb hby own_d1_12) rfl k) ?_
    show own_Go _ _ _ _ s₁ (mkF m 13 #[.val (.long q1), .second] [(.long q1)])
    refine own_go (fun _ k => X0.ldc2Long hx hown (mvT hZ (hw _ (List.mem_of_getElem? (i := 52) rfl))) (g := (mkF m 13 #[.val (.long q1), .second] [(.long q1)])) rfl (hb hby own_d1_13) _ k) ?_
    show own_Go _ _ _ _ s₁ (mkF m 16 #[.val (.long q1), .second] [(.long (12582912 : Int64)), (.long q1)])
    refine own_go (fun _ k => XS.lcmp X0.here hx rfl (hb hby own_d1_16) rfl k) ?_
    show own_Go _ _ _ _ s₁ (mkF m 17 #[.val (.long q1), .second] [(.int (lcmpW q1 (12582912 : Int64)))])
    by_cases hD : (lcmpW q1 (12582912 : Int64)) < (0 : Int32)
    · refine own_go (fun _ k => XS.ifYes X0.here hx rfl (pc0 := 17) (pc' := 24) rfl (hb hby own_d1_17) rfl ((if0 _ _).trans (tlt hD).1) (by decide) (by decide) k) ?_
      show own_Go _ _ _ _ s₁ (mkF m 24 #[.val (.long q1), .second] [])
      refine own_go (fun _ k => XS.lloadN X0.here hx rfl (hb hby own_d1_24) rfl k) ?_
      show own_Go _ _ _ _ s₁ (mkF m 25 #[.val (.long q1), .second] [(.long q1)])
      refine own_go (fun _ k => X0.ldc2Long hx hown (mvT hZ (hw _ (List.mem_of_getElem? (i := 55) rfl))) (g := (mkF m 25 #[.val (.long q1), .second] [(.long q1)])) rfl (hb hby own_d1_25) _ k) ?_
      show own_Go _ _ _ _ s₁ (mkF m 28 #[.val (.long q1), .second] [(.long (32 : Int64)), (.long q1)])
      refine own_go (fun _ k => XS.lmul X0.here hx rfl (hb hby own_d1_28) rfl k) ?_
      show own_Go _ _ _ _ s₁ (mkF m 29 #[.val (.long q1), .second] [(.long (q1 * (32 : Int64)))])
      exact own_end X0 hlk (v := (some (.long (q1 * (32 : Int64))))) (fun h => by rw [hret] at h; cases h) (fun fs hr => retOut X0 hx hret rfl (Or.inr (Or.inl ⟨rfl, rfl, _, rfl⟩)) (hb hby own_d1_29) hr) (by rw [e0]; exact ⟨by rw [own_lim, if_pos ((lw_gt _ _).mp hC), if_pos ((lw_lt _ _).mp hD)], N0, rfl⟩) (by decide) (by decide)
    · refine own_go (fun _ k => XS.ifNo X0.here hx rfl (hb hby own_d1_17) rfl ((if0 _ _).trans (flt hD).1) k) ?_
      show own_Go _ _ _ _ s₁ (mkF m 20 #[.val (.long q1), .second] [])
      refine own_go (fun _ k => X0.ldc2Long hx hown (mvT hZ (hw _ (List.mem_of_getElem? (i := 53) rfl))) (g := (mkF m 20 #[.val (.long q1), .second] [])) rfl (hb hby own_d1_20) _ k) ?_
      show own_Go _ _ _ _ s₁ (mkF m 23 #[.val (.long q1), .second] [(.long (402653184 : Int64))])
      exact own_end X0 hlk (v := (some (.long (402653184 : Int64)))) (fun h => by rw [hret] at h; cases h) (fun fs hr => retOut X0 hx hret rfl (Or.inr (Or.inl ⟨rfl, rfl, _, rfl⟩)) (hb hby own_d1_23) hr) (by rw [e0]; exact ⟨by rw [own_lim, if_pos ((lw_gt _ _).mp hC), if_neg (fun q => hD ((lw_lt _ _).mpr q))], N0, rfl⟩) (by decide) (by decide)
  · refine own_go (fun _ k => XS.ifNo X0.here hx rfl (hb hby own_d1_5) rfl ((if0 _ _).trans (flt hC).2.2.1) k) ?_
    show own_Go _ _ _ _ s₁ (mkF m 8 #[.val (.long q1), .second] [])
    refine own_go (fun _ k => X0.ldc2Long hx hown (mvT hZ (hw _ (List.mem_of_getElem? (i := 6) rfl))) (g := (mkF m 8 #[.val (.long q1), .second] [])) rfl (hb hby own_d1_8) _ k) ?_
    show own_Go _ _ _ _ s₁ (mkF m 11 #[.val (.long q1), .second] [(.long (134217728 : Int64))])
    exact own_end X0 hlk (v := (some (.long (134217728 : Int64)))) (fun h => by rw [hret] at h; cases h) (fun fs hr => retOut X0 hx hret rfl (Or.inr (Or.inl ⟨rfl, rfl, _, rfl⟩)) (hb hby own_d1_11) hr) (by rw [e0]; exact ⟨by rw [own_lim, if_neg (fun q => hC ((lw_gt _ _).mpr q))], N0, rfl⟩) (by decide) (by decide)
theorem own_ef4 (m : MethodId) (q1 : Int64) (q2 : Int64) : entryFrame m #[(.long q1), (.long q2)] 4 = mkF m 0 #[.val (.long q1), .second, .val (.long q2), .second] [] := by first | (simp [entryFrame, mkF, argsToLocals, Value.category]; done) | rfl
theorem own_d4_0 : decode jdk_29_method_66_code 0 = .ok (.lload_n 0, 1) := by decide +kernel
theorem own_d4_1 : decode jdk_29_method_66_code 1 = .ok (.lload_n 2, 1) := by decide +kernel
theorem own_d4_2 : decode jdk_29_method_66_code 2 = .ok (.lcmp, 1) := by decide +kernel
theorem own_d4_3 : decode jdk_29_method_66_code 3 = .ok (.ifCond .lt 7, 3) := by decide +kernel
theorem own_d4_10 : decode jdk_29_method_66_code 10 = .ok (.lload_n 2, 1) := by decide +kernel
theorem own_d4_11 : decode jdk_29_method_66_code 11 = .ok (.lreturn, 1) := by decide +kernel
theorem own_d4_6 : decode jdk_29_method_66_code 6 = .ok (.lload_n 0, 1) := by decide +kernel
theorem own_d4_7 : decode jdk_29_method_66_code 7 = .ok (.goto 4, 3) := by decide +kernel
def own_Q4 (Z : State) (q1 : Int64) (q2 : Int64) (h0 : Heap) (n0 : Nat) (v : Option Value) (h : Heap) (L : List Loc) : Prop := v = some (.long (own_mx q1 q2)) ∧ Fr n0 L ∧ h = h0
set_option maxRecDepth 65536 in
set_option maxHeartbeats 40000000 in
theorem own_rm4 (l : Launch) (Z : State) (a0 : Array Value) (hw : ∀ d ∈ tables_1, d.before a0 Z = true) (ws : List Jvm.Cond) (q1 : Int64) (q2 : Int64) (h0 : Heap) (n0 : Nat)  :
    own_Met l Z (⟨"java/lang/Math", "max", "(JJ)J"⟩ : MethodName) jdk_29_method_66_code 4 (some .long) ws ({ frames := 0, cells := 0, slots := 0, locals := 0 } : Room) #[(.long q1), (.long q2)] h0 (own_Q4 Z q1 q2 h0 n0) := by
  refine own_met (Jvm.Free.JP.mathPlain rfl (by decide +kernel)) ?_
  intro p e s m below meth c s₁ X0 hx hZ hby hml hown hnm hret hlk e0
  have N0 := Fr.nil n0
  refine own_go (fun t k => castTop (own_ef4 m q1 q2) k) ?_
  show own_Go _ _ _ _ s₁ (mkF m 0 #[.val (.long q1), .second, .val (.long q2), .second] [])
  refine own_go (fun _ k => XS.lloadN X0.here hx rfl (hb hby own_d4_0) rfl k) ?_
  show own_Go _ _ _ _ s₁ (mkF m 1 #[.val (.long q1), .second, .val (.long q2), .second] [(.long q1)])
  refine own_go (fun _ k => XS.lloadN X0.here hx rfl (hb hby own_d4_1) rfl k) ?_
  show own_Go _ _ _ _ s₁ (mkF m 2 #[.val (.long q1), .second, .val (.long q2), .second] [(.long q2), (.long q1)])
  refine own_go (fun _ k => XS.lcmp X0.here hx rfl (hb hby own_d4_2) rfl k) ?_
  show own_Go _ _ _ _ s₁ (mkF m 3 #[.val (.long q1), .second, .val (.long q2), .second] [(.int (lcmpW q1 q2))])
  by_cases hC : (lcmpW q1 q2) < (0 : Int32)
  · refine own_go (fun _ k => XS.ifYes X0.here hx rfl (pc0 := 3) (pc' := 10) rfl (hb hby own_d4_3) rfl ((if0 _ _).trans (tlt hC).1) (by decide) (by decide) k) ?_
    show own_Go _ _ _ _ s₁ (mkF m 10 #[.val (.long q1), .second, .val (.long q2), .second] [])
    refine own_go (fun _ k => XS.lloadN X0.here hx rfl (hb hby own_d4_10) rfl k) ?_
    show own_Go _ _ _ _ s₁ (mkF m 11 #[.val (.long q1), .second, .val (.long q2), .second] [(.long q2)])
    exact own_end X0 hlk (v := (some (.long q2))) (fun h => by rw [hret] at h; cases h) (fun fs hr => retOut X0 hx hret rfl (Or.inr (Or.inl ⟨rfl, rfl, _, rfl⟩)) (hb hby own_d4_11) hr) (by rw [e0]; exact ⟨by rw [own_mx, if_pos ((lw_lt _ _).mp hC)], N0, rfl⟩) (by decide) (by decide)
  · refine own_go (fun _ k => XS.ifNo X0.here hx rfl (hb hby own_d4_3) rfl ((if0 _ _).trans (flt hC).1) k) ?_
    show own_Go _ _ _ _ s₁ (mkF m 6 #[.val (.long q1), .second, .val (.long q2), .second] [])
    refine own_go (fun _ k => XS.lloadN X0.here hx rfl (hb hby own_d4_6) rfl k) ?_
    show own_Go _ _ _ _ s₁ (mkF m 7 #[.val (.long q1), .second, .val (.long q2), .second] [(.long q1)])
    refine own_go (fun _ k => XS.goto X0.here hx rfl (pc0 := 7) (pc' := 11) rfl (hb hby own_d4_7) (by decide) (by decide) k) ?_
    show own_Go _ _ _ _ s₁ (mkF m 11 #[.val (.long q1), .second, .val (.long q2), .second] [(.long q1)])
    exact own_end X0 hlk (v := (some (.long q1))) (fun h => by rw [hret] at h; cases h) (fun fs hr => retOut X0 hx hret rfl (Or.inr (Or.inl ⟨rfl, rfl, _, rfl⟩)) (hb hby own_d4_11) hr) (by rw [e0]; exact ⟨by rw [own_mx, if_neg (fun q => hC ((lw_lt _ _).mpr q))], N0, rfl⟩) (by decide) (by decide)
theorem own_ef5 (m : MethodId) (q1 : Int64) (q2 : Int64) : entryFrame m #[(.long q1), (.long q2)] 4 = mkF m 0 #[.val (.long q1), .second, .val (.long q2), .second] [] := by first | (simp [entryFrame, mkF, argsToLocals, Value.category]; done) | rfl
theorem own_d5_0 : decode jdk_29_method_70_code 0 = .ok (.lload_n 0, 1) := by decide +kernel
theorem own_d5_1 : decode jdk_29_method_70_code 1 = .ok (.lload_n 2, 1) := by decide +kernel
theorem own_d5_2 : decode jdk_29_method_70_code 2 = .ok (.lcmp, 1) := by decide +kernel
theorem own_d5_3 : decode jdk_29_method_70_code 3 = .ok (.ifCond .gt 7, 3) := by decide +kernel
theorem own_d5_10 : decode jdk_29_method_70_code 10 = .ok (.lload_n 2, 1) := by decide +kernel
theorem own_d5_11 : decode jdk_29_method_70_code 11 = .ok (.lreturn, 1) := by decide +kernel
theorem own_d5_6 : decode jdk_29_method_70_code 6 = .ok (.lload_n 0, 1) := by decide +kernel
theorem own_d5_7 : decode jdk_29_method_70_code 7 = .ok (.goto 4, 3) := by decide +kernel
def own_Q5 (Z : State) (q1 : Int64) (q2 : Int64) (h0 : Heap) (n0 : Nat) (v : Option Value) (h : Heap) (L : List Loc) : Prop := v = some (.long (own_mn q1 q2)) ∧ Fr n0 L ∧ h = h0
set_option maxRecDepth 65536 in
set_option maxHeartbeats 40000000 in
theorem own_rm5 (l : Launch) (Z : State) (a0 : Array Value) (hw : ∀ d ∈ tables_1, d.before a0 Z = true) (ws : List Jvm.Cond) (q1 : Int64) (q2 : Int64) (h0 : Heap) (n0 : Nat)  :
    own_Met l Z (⟨"java/lang/Math", "min", "(JJ)J"⟩ : MethodName) jdk_29_method_70_code 4 (some .long) ws ({ frames := 0, cells := 0, slots := 0, locals := 0 } : Room) #[(.long q1), (.long q2)] h0 (own_Q5 Z q1 q2 h0 n0) := by
  refine own_met (Jvm.Free.JP.mathPlain rfl (by decide +kernel)) ?_
  intro p e s m below meth c s₁ X0 hx hZ hby hml hown hnm hret hlk e0
  have N0 := Fr.nil n0
  refine own_go (fun t k => castTop (own_ef5 m q1 q2) k) ?_
  show own_Go _ _ _ _ s₁ (mkF m 0 #[.val (.long q1), .second, .val (.long q2), .second] [])
  refine own_go (fun _ k => XS.lloadN X0.here hx rfl (hb hby own_d5_0) rfl k) ?_
  show own_Go _ _ _ _ s₁ (mkF m 1 #[.val (.long q1), .second, .val (.long q2), .second] [(.long q1)])
  refine own_go (fun _ k => XS.lloadN X0.here hx rfl (hb hby own_d5_1) rfl k) ?_
  show own_Go _ _ _ _ s₁ (mkF m 2 #[.val (.long q1), .second, .val (.long q2), .second] [(.long q2), (.long q1)])
  refine own_go (fun _ k => XS.lcmp X0.here hx rfl (hb hby own_d5_2) rfl k) ?_
  show own_Go _ _ _ _ s₁ (mkF m 3 #[.val (.long q1), .second, .val (.long q2), .second] [(.int (lcmpW q1 q2))])
  by_cases hC : (0 : Int32) < (lcmpW q1 q2)
  · refine own_go (fun _ k => XS.ifYes X0.here hx rfl (pc0 := 3) (pc' := 10) rfl (hb hby own_d5_3) rfl ((if0 _ _).trans (tlt hC).2.2.1) (by decide) (by decide) k) ?_
    show own_Go _ _ _ _ s₁ (mkF m 10 #[.val (.long q1), .second, .val (.long q2), .second] [])
    refine own_go (fun _ k => XS.lloadN X0.here hx rfl (hb hby own_d5_10) rfl k) ?_
    show own_Go _ _ _ _ s₁ (mkF m 11 #[.val (.long q1), .second, .val (.long q2), .second] [(.long q2)])
    exact own_end X0 hlk (v := (some (.long q2))) (fun h => by rw [hret] at h; cases h) (fun fs hr => retOut X0 hx hret rfl (Or.inr (Or.inl ⟨rfl, rfl, _, rfl⟩)) (hb hby own_d5_11) hr) (by rw [e0]; exact ⟨by rw [own_mn, if_pos ((lw_gt _ _).mp hC)], N0, rfl⟩) (by decide) (by decide)
  · refine own_go (fun _ k => XS.ifNo X0.here hx rfl (hb hby own_d5_3) rfl ((if0 _ _).trans (flt hC).2.2.1) k) ?_
    show own_Go _ _ _ _ s₁ (mkF m 6 #[.val (.long q1), .second, .val (.long q2), .second] [])
    refine own_go (fun _ k => XS.lloadN X0.here hx rfl (hb hby own_d5_6) rfl k) ?_
    show own_Go _ _ _ _ s₁ (mkF m 7 #[.val (.long q1), .second, .val (.long q2), .second] [(.long q1)])
    refine own_go (fun _ k => XS.goto X0.here hx rfl (pc0 := 7) (pc' := 11) rfl (hb hby own_d5_7) (by decide) (by decide) k) ?_
    show own_Go _ _ _ _ s₁ (mkF m 11 #[.val (.long q1), .second, .val (.long q2), .second] [(.long q1)])
    exact own_end X0 hlk (v := (some (.long q1))) (fun h => by rw [hret] at h; cases h) (fun fs hr => retOut X0 hx hret rfl (Or.inr (Or.inl ⟨rfl, rfl, _, rfl⟩)) (hb hby own_d5_11) hr) (by rw [e0]; exact ⟨by rw [own_mn, if_neg (fun q => hC ((lw_gt _ _).mpr q))], N0, rfl⟩) (by decide) (by decide)
theorem own_ef2 (m : MethodId) (a1 : Addr) (q2 : Int64) : entryFrame m #[(.ref a1), (.long q2)] 3 = mkF m 0 #[.val (.ref a1), .val (.long q2), .second] [] := by first | (simp [entryFrame, mkF, argsToLocals, Value.category]; done) | rfl
theorem own_d2_0 : decode prog_20_method_1_code 0 = .ok (.aload_n 0, 1) := by decide +kernel
theorem own_d2_1 : decode prog_20_method_1_code 1 = .ok (.invokespecial 3, 3) := by decide +kernel
theorem own_d2_4 : decode prog_20_method_1_code 4 = .ok (.aload_n 0, 1) := by decide +kernel
theorem own_d2_5 : decode prog_20_method_1_code 5 = .ok (.lload_n 1, 1) := by decide +kernel
theorem own_d2_6 : decode prog_20_method_1_code 6 = .ok (.putfield 9, 3) := by decide +kernel
theorem own_d2_9 : decode prog_20_method_1_code 9 = .ok (.aload_n 0, 1) := by decide +kernel
theorem own_d2_10 : decode prog_20_method_1_code 10 = .ok (.ldc2_w 15, 3) := by decide +kernel
theorem own_d2_13 : decode prog_20_method_1_code 13 = .ok (.ldc2_w 17, 3) := by decide +kernel
theorem own_d2_16 : decode prog_20_method_1_code 16 = .ok (.ldc2_w 19, 3) := by decide +kernel
theorem own_d2_19 : decode prog_20_method_1_code 19 = .ok (.lload_n 1, 1) := by decide +kernel
theorem own_d2_20 : decode prog_20_method_1_code 20 = .ok (.lmul, 1) := by decide +kernel
theorem own_d2_21 : decode prog_20_method_1_code 21 = .ok (.invokestatic 21, 3) := by decide +kernel
theorem own_pd0 : parseMethodDescriptor "(JJ)J" = some ⟨[.long, .long], some .long⟩ := by decide +kernel
theorem own_d2_24 : decode prog_20_method_1_code 24 = .ok (.invokestatic 27, 3) := by decide +kernel
theorem own_d2_27 : decode prog_20_method_1_code 27 = .ok (.putfield 30, 3) := by decide +kernel
theorem own_d2_30 : decode prog_20_method_1_code 30 = .ok (.return_, 1) := by decide +kernel
theorem own_pn1 : plainName "com/example/bound_bundle/boundbundle/core/JarReadBudget" = true := by first | (simp [plainName, overriddenIn]; done) | decide +kernel
def own_Q2 (Z : State) (a1 : Addr) (lim : Int64) (h0 : Heap) (n0 : Nat) (v : Option Value) (h : Heap) (L : List Loc) : Prop := v = none ∧ Fr n0 L ∧ Keep h0 h [a1] ∧ Exa Z h a1 "com/example/bound_bundle/boundbundle/core/JarReadBudget" ∧ Fld Z h a1 "com/example/bound_bundle/boundbundle/core/JarReadBudget" "limit" "J" (.long lim) ∧ Fld Z h a1 "com/example/bound_bundle/boundbundle/core/JarReadBudget" "read" "J" (.long (0 : Int64))
set_option maxRecDepth 65536 in
set_option maxHeartbeats 40000000 in
theorem own_rm2 (l : Launch) (Z : State) (a0 : Array Value) (hw : ∀ d ∈ tables_1, d.before a0 Z = true) (ws : List Jvm.Cond) (a1 : Addr) (q2 : Int64) (h0 : Heap) (n0 : Nat) (lim : Int64) (hl : own_mn (402653184 : Int64) (own_mx (134217728 : Int64) ((32 : Int64) * q2)) = lim) (g_a1 : n0 ≤ a1) (E_a1 : Exa Z h0 a1 "com/example/bound_bundle/boundbundle/core/JarReadBudget") (F_apkLength_a1 : Fld Z h0 a1 "com/example/bound_bundle/boundbundle/core/JarReadBudget" "apkLength" "J" (.long (0 : Int64))) (F_limit_a1 : Fld Z h0 a1 "com/example/bound_bundle/boundbundle/core/JarReadBudget" "limit" "J" (.long (0 : Int64))) (F_read_a1 : Fld Z h0 a1 "com/example/bound_bundle/boundbundle/core/JarReadBudget" "read" "J" (.long (0 : Int64))) :
    own_Met l Z (⟨"com/example/bound_bundle/boundbundle/core/JarReadBudget", "<init>", "(J)V"⟩ : MethodName) prog_20_method_1_code 3 none ws ({ frames := 1, cells := 0, slots := 0, locals := 40 } : Room) #[(.ref a1), (.long q2)] h0 (own_Q2 Z a1 lim h0 n0) := by
  refine own_met (plainFor_of_name own_pn1) ?_
  intro p e s m below meth c s₁ X0 hx hZ hby hml hown hnm hret hlk e0
  have N0 := Fr.nil n0
  refine own_go (fun t k => castTop (own_ef2 m a1 q2) k) ?_
  have K := Keep.refl h0 [a1]
  show own_Go _ _ _ _ s₁ (mkF m 0 #[.val (.ref a1), .val (.long q2), .second] [])
  refine own_go (fun _ k => XS.aloadN X0.here hx rfl (hb hby own_d2_0) rfl rfl k) ?_
  show own_Go _ _ _ _ s₁ (mkF m 1 #[.val (.ref a1), .val (.long q2), .second] [(.ref a1)])
  obtain ⟨Tz1, Xz1, ez1, stz1⟩ := initO X0 hx hZ hown (hw _ (List.mem_of_getElem? (i := 13) rfl)) (hw _ (List.mem_of_getElem? (i := 14) rfl)) (hw _ (List.mem_of_getElem? (i := 15) rfl)) e0 (g := (mkF m 1 #[.val (.ref a1), .val (.long q2), .second] [(.ref a1)])) rfl (by rw [hml]; rfl) rfl (hb hby own_d2_1) (by decide) (W := 0) (by show 2 * 0 + _ ≤ _; exact Nat.le_of_eq rfl) (by decide)
  refine own_go stz1 ?_
  show own_Go _ _ _ _ Tz1 (mkF m 4 #[.val (.ref a1), .val (.long q2), .second] [])
  refine own_go (fun _ k => XS.aloadN Xz1.here hx rfl (hb hby own_d2_4) rfl rfl k) ?_
  show own_Go _ _ _ _ Tz1 (mkF m 5 #[.val (.ref a1), .val (.long q2), .second] [(.ref a1)])
  refine own_go (fun _ k => XS.lloadN Xz1.here hx rfl (hb hby own_d2_5) rfl k) ?_
  show own_Go _ _ _ _ Tz1 (mkF m 6 #[.val (.ref a1), .val (.long q2), .second] [(.long q2), (.ref a1)])
  obtain ⟨Tz2, hz2, Xz2, ez2, Wz2, stz2⟩ := putF Xz1 hx hZ hown (host := "") (Or.inl (hw _ (List.mem_of_getElem? (i := 16) rfl))) Via.refl ez1 F_apkLength_a1 E_a1 (Or.inr ⟨(hw _ (List.mem_of_getElem? (i := 17) rfl)), rfl, hnm⟩) (hw _ (List.mem_of_getElem? (i := 8) rfl)) (ty := .long) (by decide) rfl rfl (g := (mkF m 6 #[.val (.ref a1), .val (.long q2), .second] [(.long q2), (.ref a1)])) rfl rfl (hb hby own_d2_6)
  refine own_go stz2 ?_
  have Nz2 := Fr.snoc Xz2 N0 g_a1
  have F_apkLength_a1_ := F_apkLength_a1.same Wz2
  have E_a1 := E_a1.wr Wz2
  have F_limit_a1 := F_limit_a1.other Wz2 (Or.inr (slot_ne (Or.inr (hw _ (List.mem_of_getElem? (i := 29) rfl))) (Or.inr (hw _ (List.mem_of_getElem? (i := 17) rfl))) (by decide) (t := .long) (t' := .long) (by decide) (by decide)))
  have F_read_a1 := F_read_a1.other Wz2 (Or.inr (slot_ne (Or.inl (hw _ (List.mem_of_getElem? (i := 36) rfl))) (Or.inr (hw _ (List.mem_of_getElem? (i := 17) rfl))) (by decide) (t := .long) (t' := .long) (by decide) (by decide)))
  have K := K.wr Wz2 (Or.inl (List.mem_of_getElem? (i := 0) rfl))
  have F_apkLength_a1 := F_apkLength_a1_
  show own_Go _ _ _ _ Tz2 (mkF m 9 #[.val (.ref a1), .val (.long q2), .second] [])
  refine own_go (fun _ k => XS.aloadN Xz2.here hx rfl (hb hby own_d2_9) rfl rfl k) ?_
  show own_Go _ _ _ _ Tz2 (mkF m 10 #[.val (.ref a1), .val (.long q2), .second] [(.ref a1)])
  refine own_go (fun _ k => Xz2.ldc2Long hx hown (mvT hZ (hw _ (List.mem_of_getElem? (i := 18) rfl))) (g := (mkF m 10 #[.val (.ref a1), .val (.long q2), .second] [(.ref a1)])) rfl (hb hby own_d2_10) _ k) ?_
  show own_Go _ _ _ _ Tz2 (mkF m 13 #[.val (.ref a1), .val (.long q2), .second] [(.long (402653184 : Int64)), (.ref a1)])
  refine own_go (fun _ k => Xz2.ldc2Long hx hown (mvT hZ (hw _ (List.mem_of_getElem? (i := 19) rfl))) (g := (mkF m 13 #[.val (.ref a1), .val (.long q2), .second] [(.long (402653184 : Int64)), (.ref a1)])) rfl (hb hby own_d2_13) _ k) ?_
  show own_Go _ _ _ _ Tz2 (mkF m 16 #[.val (.ref a1), .val (.long q2), .second] [(.long (134217728 : Int64)), (.long (402653184 : Int64)), (.ref a1)])
  refine own_go (fun _ k => Xz2.ldc2Long hx hown (mvT hZ (hw _ (List.mem_of_getElem? (i := 20) rfl))) (g := (mkF m 16 #[.val (.ref a1), .val (.long q2), .second] [(.long (134217728 : Int64)), (.long (402653184 : Int64)), (.ref a1)])) rfl (hb hby own_d2_16) _ k) ?_
  show own_Go _ _ _ _ Tz2 (mkF m 19 #[.val (.ref a1), .val (.long q2), .second] [(.long (32 : Int64)), (.long (134217728 : Int64)), (.long (402653184 : Int64)), (.ref a1)])
  refine own_go (fun _ k => XS.lloadN Xz2.here hx rfl (hb hby own_d2_19) rfl k) ?_
  show own_Go _ _ _ _ Tz2 (mkF m 20 #[.val (.ref a1), .val (.long q2), .second] [(.long q2), (.long (32 : Int64)), (.long (134217728 : Int64)), (.long (402653184 : Int64)), (.ref a1)])
  refine own_go (fun _ k => XS.lmul Xz2.here hx rfl (hb hby own_d2_20) rfl k) ?_
  show own_Go _ _ _ _ Tz2 (mkF m 21 #[.val (.ref a1), .val (.long q2), .second] [(.long ((32 : Int64) * q2)), (.long (134217728 : Int64)), (.long (402653184 : Int64)), (.ref a1)])
  obtain ⟨vz3, Tz3, Lz3, Xz3, hQz3, stz3⟩ := own_callS Xz2 hx hZ hown (hw _ (List.mem_of_getElem? (i := 21) rfl)) (hw _ (List.mem_of_getElem? (i := 22) rfl)) (hw _ (List.mem_of_getElem? (i := 23) rfl)) (hw _ (List.mem_of_getElem? (i := 24) rfl)) (by decide) ez2 (own_rm4 l Z a0 hw [] _ _ hz2 n0) (W := 3) (by decide) (by decide) (by decide) (by decide) own_pd0 rfl (g := (mkF m 21 #[.val (.ref a1), .val (.long q2), .second] [(.long ((32 : Int64) * q2)), (.long (134217728 : Int64)), (.long (402653184 : Int64)), (.ref a1)])) (argsL := [(.long (134217728 : Int64)), (.long ((32 : Int64) * q2))]) (rest := [(.long (402653184 : Int64)), (.ref a1)]) rfl (by rw [hml]; rfl) rfl (by show 2 * 0 + _ ≤ _; exact Nat.le_of_eq rfl) (hb hby own_d2_21)
  obtain ⟨rfl, Nz3q, ehz3⟩ := hQz3
  have Nz3 := Fr.app Nz2 Nz3q
  refine own_go stz3 ?_
  show own_Go _ _ _ _ Tz3 (mkF m 24 #[.val (.ref a1), .val (.long q2), .second] [(.long (own_mx (134217728 : Int64) ((32 : Int64) * q2))), (.long (402653184 : Int64)), (.ref a1)])
  obtain ⟨vz4, Tz4, Lz4, Xz4, hQz4, stz4⟩ := own_callS Xz3 hx hZ hown (hw _ (List.mem_of_getElem? (i := 25) rfl)) (hw _ (List.mem_of_getElem? (i := 26) rfl)) (hw _ (List.mem_of_getElem? (i := 23) rfl)) (hw _ (List.mem_of_getElem? (i := 27) rfl)) (by decide) ehz3 (own_rm5 l Z a0 hw [] _ _ hz2 n0) (W := 1) (by decide) (by decide) (by decide) (by decide) own_pd0 rfl (g := (mkF m 24 #[.val (.ref a1), .val (.long q2), .second] [(.long (own_mx (134217728 : Int64) ((32 : Int64) * q2))), (.long (402653184 : Int64)), (.ref a1)])) (argsL := [(.long (402653184 : Int64)), (.long (own_mx (134217728 : Int64) ((32 : Int64) * q2)))]) (rest := [(.ref a1)]) rfl (by rw [hml]; rfl) rfl (by show 2 * 0 + _ ≤ _; exact Nat.le_of_eq rfl) (hb hby own_d2_24)
  obtain ⟨rfl, Nz4q, ehz4⟩ := hQz4
  have Nz4 := Fr.app Nz3 Nz4q
  refine own_go stz4 ?_
  show own_Go _ _ _ _ Tz4 (mkF m 27 #[.val (.ref a1), .val (.long q2), .second] [(.long (own_mn (402653184 : Int64) (own_mx (134217728 : Int64) ((32 : Int64) * q2)))), (.ref a1)])
  obtain ⟨Tz5, hz5, Xz5, ez5, Wz5, stz5⟩ := putF Xz4 hx hZ hown (host := "") (Or.inl (hw _ (List.mem_of_getElem? (i := 28) rfl))) Via.refl ehz4 F_limit_a1 E_a1 (Or.inr ⟨(hw _ (List.mem_of_getElem? (i := 29) rfl)), rfl, hnm⟩) (hw _ (List.mem_of_getElem? (i := 8) rfl)) (ty := .long) (by decide) rfl rfl (g := (mkF m 27 #[.val (.ref a1), .val (.long q2), .second] [(.long (own_mn (402653184 : Int64) (own_mx (134217728 : Int64) ((32 : Int64) * q2)))), (.ref a1)])) rfl rfl (hb hby own_d2_27)
  refine own_go stz5 ?_
  have Nz5 := Fr.snoc Xz5 Nz4 g_a1
  have F_limit_a1_ := F_limit_a1.same Wz5
  have E_a1 := E_a1.wr Wz5
  have F_read_a1 := F_read_a1.other Wz5 (Or.inr (slot_ne (Or.inl (hw _ (List.mem_of_getElem? (i := 36) rfl))) (Or.inr (hw _ (List.mem_of_getElem? (i := 29) rfl))) (by decide) (t := .long) (t' := .long) (by decide) (by decide)))
  have K := K.wr Wz5 (Or.inl (List.mem_of_getElem? (i := 0) rfl))
  have F_apkLength_a1 := F_apkLength_a1.other Wz5 (Or.inr (slot_ne (Or.inr (hw _ (List.mem_of_getElem? (i := 17) rfl))) (Or.inr (hw _ (List.mem_of_getElem? (i := 29) rfl))) (by decide) (t := .long) (t' := .long) (by decide) (by decide)))
  have F_limit_a1 := F_limit_a1_
  show own_Go _ _ _ _ Tz5 (mkF m 30 #[.val (.ref a1), .val (.long q2), .second] [])
  exact own_end Xz5 hlk (v := none) (fun _ => rfl) (fun fs hr => Xz5.returnOut hx hret (hb hby own_d2_30) hr) (by rw [ez5]; exact ⟨rfl, Nz5, K, E_a1, hl ▸ F_limit_a1, F_read_a1⟩) (by decide) (by decide)
theorem own_ef6 (m : MethodId) (a1 : Addr) (q2 : Int64) : entryFrame m #[(.ref a1), (.long q2)] 3 = mkF m 0 #[.val (.ref a1), .val (.long q2), .second] [] := by first | (simp [entryFrame, mkF, argsToLocals, Value.category]; done) | rfl
theorem own_d6_0 : decode prog_20_method_3_code 0 = .ok (.lload_n 1, 1) := by decide +kernel
theorem own_d6_1 : decode prog_20_method_3_code 1 = .ok (.aload_n 0, 1) := by decide +kernel
theorem own_d6_2 : decode prog_20_method_3_code 2 = .ok (.getfield 30, 3) := by decide +kernel
theorem own_d6_5 : decode prog_20_method_3_code 5 = .ok (.aload_n 0, 1) := by decide +kernel
theorem own_d6_6 : decode prog_20_method_3_code 6 = .ok (.getfield 33, 3) := by decide +kernel
theorem own_d6_9 : decode prog_20_method_3_code 9 = .ok (.lsub, 1) := by decide +kernel
theorem own_d6_10 : decode prog_20_method_3_code 10 = .ok (.lcmp, 1) := by decide +kernel
theorem own_d6_11 : decode prog_20_method_3_code 11 = .ok (.ifCond .gt 7, 3) := by decide +kernel
theorem own_d6_18 : decode prog_20_method_3_code 18 = .ok (.iconst 0, 1) := by decide +kernel
theorem own_d6_19 : decode prog_20_method_3_code 19 = .ok (.ireturn, 1) := by decide +kernel
theorem own_d6_14 : decode prog_20_method_3_code 14 = .ok (.iconst 1, 1) := by decide +kernel
theorem own_d6_15 : decode prog_20_method_3_code 15 = .ok (.goto 4, 3) := by decide +kernel
def own_Q6 (Z : State) (r : Int32) (h0 : Heap) (n0 : Nat) (v : Option Value) (h : Heap) (L : List Loc) : Prop := v = some (.int r) ∧ Fr n0 L ∧ h = h0
set_option maxRecDepth 65536 in
set_option maxHeartbeats 40000000 in
theorem own_rm6 (l : Launch) (Z : State) (a0 : Array Value) (hw : ∀ d ∈ tables_1, d.before a0 Z = true) (ws : List Jvm.Cond) (a1 : Addr) (q2 : Int64) (h0 : Heap) (n0 : Nat) (lim rd : Int64) (r : Int32) (hr : (if (lim - rd) < q2 then (0 : Int32) else 1) = r) (F_limit_a1 : Fld Z h0 a1 "com/example/bound_bundle/boundbundle/core/JarReadBudget" "limit" "J" (.long lim)) (F_read_a1 : Fld Z h0 a1 "com/example/bound_bundle/boundbundle/core/JarReadBudget" "read" "J" (.long rd)) :
    own_Met l Z (⟨"com/example/bound_bundle/boundbundle/core/JarReadBudget", "hasRoomFor", "(J)Z"⟩ : MethodName) prog_20_method_3_code 3 (some .boolean) ws ({ frames := 0, cells := 0, slots := 0, locals := 0 } : Room) #[(.ref a1), (.long q2)] h0 (own_Q6 Z r h0 n0) := by
  refine own_met (plainFor_of_name own_pn1) ?_
  intro p e s m below meth c s₁ X0 hx hZ hby hml hown hnm hret hlk e0
  have N0 := Fr.nil n0
  refine own_go (fun t k => castTop (own_ef6 m a1 q2) k) ?_
  show own_Go _ _ _ _ s₁ (mkF m 0 #[.val (.ref a1), .val (.long q2), .second] [])
  refine own_go (fun _ k => XS.lloadN X0.here hx rfl (hb hby own_d6_0) rfl k) ?_
  show own_Go _ _ _ _ s₁ (mkF m 1 #[.val (.ref a1), .val (.long q2), .second] [(.long q2)])
  refine own_go (fun _ k => XS.aloadN X0.here hx rfl (hb hby own_d6_1) rfl rfl k) ?_
  show own_Go _ _ _ _ s₁ (mkF m 2 #[.val (.ref a1), .val (.long q2), .second] [(.ref a1), (.long q2)])
  obtain ⟨Tz6, Xz6, ez6, stz6⟩ := getF X0 hx hZ hown (host := "") (Or.inl (hw _ (List.mem_of_getElem? (i := 28) rfl))) Via.refl e0 F_limit_a1 (g := (mkF m 2 #[.val (.ref a1), .val (.long q2), .second] [(.ref a1), (.long q2)])) rfl rfl (hb hby own_d6_2)
  refine own_go stz6 ?_
  show own_Go _ _ _ _ Tz6 (mkF m 5 #[.val (.ref a1), .val (.long q2), .second] [(.long lim), (.long q2)])
  refine own_go (fun _ k => XS.aloadN Xz6.here hx rfl (hb hby own_d6_5) rfl rfl k) ?_
  show own_Go _ _ _ _ Tz6 (mkF m 6 #[.val (.ref a1), .val (.long q2), .second] [(.ref a1), (.long lim), (.long q2)])
  obtain ⟨Tz7, Xz7, ez7, stz7⟩ := getF Xz6 hx hZ hown (host := "") (Or.inl (hw _ (List.mem_of_getElem? (i := 35) rfl))) Via.refl ez6 F_read_a1 (g := (mkF m 6 #[.val (.ref a1), .val (.long q2), .second] [(.ref a1), (.long lim), (.long q2)])) rfl rfl (hb hby own_d6_6)
  refine own_go stz7 ?_
  show own_Go _ _ _ _ Tz7 (mkF m 9 #[.val (.ref a1), .val (.long q2), .second] [(.long rd), (.long lim), (.long q2)])
  refine own_go (fun _ k => XS.lsub Xz7.here hx rfl (hb hby own_d6_9) rfl k) ?_
  show own_Go _ _ _ _ Tz7 (mkF m 10 #[.val (.ref a1), .val (.long q2), .second] [(.long (lim - rd)), (.long q2)])
  refine own_go (fun _ k => XS.lcmp Xz7.here hx rfl (hb hby own_d6_10) rfl k) ?_
  show own_Go _ _ _ _ Tz7 (mkF m 11 #[.val (.ref a1), .val (.long q2), .second] [(.int (lcmpW q2 (lim - rd)))])
  by_cases hC : (0 : Int32) < (lcmpW q2 (lim - rd))
  · refine own_go (fun _ k => XS.ifYes Xz7.here hx rfl (pc0 := 11) (pc' := 18) rfl (hb hby own_d6_11) rfl ((if0 _ _).trans (tlt hC).2.2.1) (by decide) (by decide) k) ?_
    show own_Go _ _ _ _ Tz7 (mkF m 18 #[.val (.ref a1), .val (.long q2), .second] [])
    refine own_go (fun _ k => XS.iconst Xz7.here hx rfl (hb hby own_d6_18) k) ?_
    show own_Go _ _ _ _ Tz7 (mkF m 19 #[.val (.ref a1), .val (.long q2), .second] [(.int (0 : Int32))])
    exact own_end Xz7 hlk (v := (some (.int (0 : Int32)))) (fun h => by rw [hret] at h; cases h) (fun fs hr => retN Xz7 hx (t := .boolean) hret (by simp) (hb hby own_d6_19) hr) (by rw [ez7]; exact ⟨by rw [← hr, if_pos ((lw_gt _ _).mp hC)], N0, rfl⟩) (by decide) (by decide)
  · refine own_go (fun _ k => XS.ifNo Xz7.here hx rfl (hb hby own_d6_11) rfl ((if0 _ _).trans (flt hC).2.2.1) k) ?_
    show own_Go _ _ _ _ Tz7 (mkF m 14 #[.val (.ref a1), .val (.long q2), .second] [])
    refine own_go (fun _ k => XS.iconst Xz7.here hx rfl (hb hby own_d6_14) k) ?_
    show own_Go _ _ _ _ Tz7 (mkF m 15 #[.val (.ref a1), .val (.long q2), .second] [(.int (1 : Int32))])
    refine own_go (fun _ k => XS.goto Xz7.here hx rfl (pc0 := 15) (pc' := 19) rfl (hb hby own_d6_15) (by decide) (by decide) k) ?_
    show own_Go _ _ _ _ Tz7 (mkF m 19 #[.val (.ref a1), .val (.long q2), .second] [(.int (1 : Int32))])
    exact own_end Xz7 hlk (v := (some (.int (1 : Int32)))) (fun h => by rw [hret] at h; cases h) (fun fs hr => retN Xz7 hx (t := .boolean) hret (by simp) (hb hby own_d6_19) hr) (by rw [ez7]; exact ⟨by rw [← hr, if_neg (fun q => hC ((lw_gt _ _).mpr q))], N0, rfl⟩) (by decide) (by decide)
theorem own_ef7 (m : MethodId) (a1 : Addr) (a2 : Addr) (q3 : Int64) : entryFrame m #[(.ref a1), (.ref a2), (.long q3)] 4 = mkF m 0 #[.val (.ref a1), .val (.ref a2), .val (.long q3), .second] [] := by first | (simp [entryFrame, mkF, argsToLocals, Value.category]; done) | rfl
theorem own_d7_0 : decode prog_20_method_2_code 0 = .ok (.lload_n 2, 1) := by decide +kernel
theorem own_d7_1 : decode prog_20_method_2_code 1 = .ok (.aload_n 0, 1) := by decide +kernel
theorem own_d7_2 : decode prog_20_method_2_code 2 = .ok (.getfield 30, 3) := by decide +kernel
theorem own_d7_5 : decode prog_20_method_2_code 5 = .ok (.aload_n 0, 1) := by decide +kernel
theorem own_d7_6 : decode prog_20_method_2_code 6 = .ok (.getfield 33, 3) := by decide +kernel
theorem own_d7_9 : decode prog_20_method_2_code 9 = .ok (.lsub, 1) := by decide +kernel
theorem own_d7_10 : decode prog_20_method_2_code 10 = .ok (.lcmp, 1) := by decide +kernel
theorem own_d7_11 : decode prog_20_method_2_code 11 = .ok (.ifCond .le 26, 3) := by decide +kernel
theorem own_d7_37 : decode prog_20_method_2_code 37 = .ok (.aload_n 0, 1) := by decide +kernel
theorem own_d7_38 : decode prog_20_method_2_code 38 = .ok (.dup, 1) := by decide +kernel
theorem own_d7_39 : decode prog_20_method_2_code 39 = .ok (.getfield 33, 3) := by decide +kernel
theorem own_d7_42 : decode prog_20_method_2_code 42 = .ok (.lload_n 2, 1) := by decide +kernel
theorem own_d7_43 : decode prog_20_method_2_code 43 = .ok (.ladd, 1) := by decide +kernel
theorem own_d7_44 : decode prog_20_method_2_code 44 = .ok (.putfield 33, 3) := by decide +kernel
theorem own_d7_47 : decode prog_20_method_2_code 47 = .ok (.return_, 1) := by decide +kernel
def own_Q7 (Z : State) (a1 : Addr) (q3 : Int64) (lim : Int64) (rd : Int64) (h0 : Heap) (n0 : Nat) (v : Option Value) (h : Heap) (L : List Loc) : Prop := v = none ∧ Fr n0 L ∧ Keep h0 h [a1] ∧ Exa Z h a1 "com/example/bound_bundle/boundbundle/core/JarReadBudget" ∧ Fld Z h a1 "com/example/bound_bundle/boundbundle/core/JarReadBudget" "limit" "J" (.long lim) ∧ Fld Z h a1 "com/example/bound_bundle/boundbundle/core/JarReadBudget" "read" "J" (.long (rd + q3))
set_option maxRecDepth 65536 in
set_option maxHeartbeats 40000000 in
theorem own_rm7 (l : Launch) (Z : State) (a0 : Array Value) (hw : ∀ d ∈ tables_1, d.before a0 Z = true) (ws : List Jvm.Cond) (a1 : Addr) (a2 : Addr) (q3 : Int64) (h0 : Heap) (n0 : Nat) (lim rd : Int64) (hr : ¬ (lim - rd < q3)) (g_a1 : n0 ≤ a1) (E_a1 : Exa Z h0 a1 "com/example/bound_bundle/boundbundle/core/JarReadBudget") (F_limit_a1 : Fld Z h0 a1 "com/example/bound_bundle/boundbundle/core/JarReadBudget" "limit" "J" (.long lim)) (F_read_a1 : Fld Z h0 a1 "com/example/bound_bundle/boundbundle/core/JarReadBudget" "read" "J" (.long rd)) :
    own_Met l Z (⟨"com/example/bound_bundle/boundbundle/core/JarReadBudget", "read", "(Ljava/lang/String;J)V"⟩ : MethodName) prog_20_method_2_code 4 none ws ({ frames := 0, cells := 0, slots := 0, locals := 0 } : Room) #[(.ref a1), (.ref a2), (.long q3)] h0 (own_Q7 Z a1 q3 lim rd h0 n0) := by
  refine own_met (plainFor_of_name own_pn1) ?_
  intro p e s m below meth c s₁ X0 hx hZ hby hml hown hnm hret hlk e0
  have N0 := Fr.nil n0
  refine own_go (fun t k => castTop (own_ef7 m a1 a2 q3) k) ?_
  have K := Keep.refl h0 [a1]
  show own_Go _ _ _ _ s₁ (mkF m 0 #[.val (.ref a1), .val (.ref a2), .val (.long q3), .second] [])
  refine own_go (fun _ k => XS.lloadN X0.here hx rfl (hb hby own_d7_0) rfl k) ?_
  show own_Go _ _ _ _ s₁ (mkF m 1 #[.val (.ref a1), .val (.ref a2), .val (.long q3), .second] [(.long q3)])
  refine own_go (fun _ k => XS.aloadN X0.here hx rfl (hb hby own_d7_1) rfl rfl k) ?_
  show own_Go _ _ _ _ s₁ (mkF m 2 #[.val (.ref a1), .val (.ref a2), .val (.long q3), .second] [(.ref a1), (.long q3)])
  obtain ⟨Tz8, Xz8, ez8, stz8⟩ := getF X0 hx hZ hown (host := "") (Or.inl (hw _ (List.mem_of_getElem? (i := 28) rfl))) Via.refl e0 F_limit_a1 (g := (mkF m 2 #[.val (.ref a1), .val (.ref a2), .val (.long q3), .second] [(.ref a1), (.long q3)])) rfl rfl (hb hby own_d7_2)
  refine own_go stz8 ?_
  show own_Go _ _ _ _ Tz8 (mkF m 5 #[.val (.ref a1), .val (.ref a2), .val (.long q3), .second] [(.long lim), (.long q3)])
  refine own_go (fun _ k => XS.aloadN Xz8.here hx rfl (hb hby own_d7_5) rfl rfl k) ?_
  show own_Go _ _ _ _ Tz8 (mkF m 6 #[.val (.ref a1), .val (.ref a2), .val (.long q3), .second] [(.ref a1), (.long lim), (.long q3)])
  obtain ⟨Tz9, Xz9, ez9, stz9⟩ := getF Xz8 hx hZ hown (host := "") (Or.inl (hw _ (List.mem_of_getElem? (i := 35) rfl))) Via.refl ez8 F_read_a1 (g := (mkF m 6 #[.val (.ref a1), .val (.ref a2), .val (.long q3), .second] [(.ref a1), (.long lim), (.long q3)])) rfl rfl (hb hby own_d7_6)
  refine own_go stz9 ?_
  show own_Go _ _ _ _ Tz9 (mkF m 9 #[.val (.ref a1), .val (.ref a2), .val (.long q3), .second] [(.long rd), (.long lim), (.long q3)])
  refine own_go (fun _ k => XS.lsub Xz9.here hx rfl (hb hby own_d7_9) rfl k) ?_
  show own_Go _ _ _ _ Tz9 (mkF m 10 #[.val (.ref a1), .val (.ref a2), .val (.long q3), .second] [(.long (lim - rd)), (.long q3)])
  refine own_go (fun _ k => XS.lcmp Xz9.here hx rfl (hb hby own_d7_10) rfl k) ?_
  show own_Go _ _ _ _ Tz9 (mkF m 11 #[.val (.ref a1), .val (.ref a2), .val (.long q3), .second] [(.int (lcmpW q3 (lim - rd)))])
  refine own_go (fun _ k => XS.ifYes Xz9.here hx rfl (pc0 := 11) (pc' := 37) rfl (hb hby own_d7_11) rfl ((if0 _ _).trans (flt (fun q => hr ((lw_gt _ _).mp q))).2.2.2) (by decide) (by decide) k) ?_
  show own_Go _ _ _ _ Tz9 (mkF m 37 #[.val (.ref a1), .val (.ref a2), .val (.long q3), .second] [])
  refine own_go (fun _ k => XS.aloadN Xz9.here hx rfl (hb hby own_d7_37) rfl rfl k) ?_
  show own_Go _ _ _ _ Tz9 (mkF m 38 #[.val (.ref a1), .val (.ref a2), .val (.long q3), .second] [(.ref a1)])
  refine own_go (fun _ k => XS.dup Xz9.here hx rfl (hb hby own_d7_38) rfl rfl k) ?_
  show own_Go _ _ _ _ Tz9 (mkF m 39 #[.val (.ref a1), .val (.ref a2), .val (.long q3), .second] [(.ref a1), (.ref a1)])
  obtain ⟨Tz10, Xz10, ez10, stz10⟩ := getF Xz9 hx hZ hown (host := "") (Or.inl (hw _ (List.mem_of_getElem? (i := 35) rfl))) Via.refl ez9 F_read_a1 (g := (mkF m 39 #[.val (.ref a1), .val (.ref a2), .val (.long q3), .second] [(.ref a1), (.ref a1)])) rfl rfl (hb hby own_d7_39)
  refine own_go stz10 ?_
  show own_Go _ _ _ _ Tz10 (mkF m 42 #[.val (.ref a1), .val (.ref a2), .val (.long q3), .second] [(.long rd), (.ref a1)])
  refine own_go (fun _ k => XS.lloadN Xz10.here hx rfl (hb hby own_d7_42) rfl k) ?_
  show own_Go _ _ _ _ Tz10 (mkF m 43 #[.val (.ref a1), .val (.ref a2), .val (.long q3), .second] [(.long q3), (.long rd), (.ref a1)])
  refine own_go (fun _ k => XS.ladd Xz10.here hx rfl (hb hby own_d7_43) rfl k) ?_
  show own_Go _ _ _ _ Tz10 (mkF m 44 #[.val (.ref a1), .val (.ref a2), .val (.long q3), .second] [(.long (rd + q3)), (.ref a1)])
  obtain ⟨Tz11, hz11, Xz11, ez11, Wz11, stz11⟩ := putF Xz10 hx hZ hown (host := "") (Or.inl (hw _ (List.mem_of_getElem? (i := 35) rfl))) Via.refl ez10 F_read_a1 E_a1 (Or.inl (hw _ (List.mem_of_getElem? (i := 36) rfl))) (hw _ (List.mem_of_getElem? (i := 8) rfl)) (ty := .long) (by decide) rfl rfl (g := (mkF m 44 #[.val (.ref a1), .val (.ref a2), .val (.long q3), .second] [(.long (rd + q3)), (.ref a1)])) rfl rfl (hb hby own_d7_44)
  refine own_go stz11 ?_
  have Nz11 := Fr.snoc Xz11 N0 g_a1
  have F_read_a1_ := F_read_a1.same Wz11
  have E_a1 := E_a1.wr Wz11
  have F_limit_a1 := F_limit_a1.other Wz11 (Or.inr (slot_ne (Or.inr (hw _ (List.mem_of_getElem? (i := 29) rfl))) (Or.inl (hw _ (List.mem_of_getElem? (i := 36) rfl))) (by decide) (t := .long) (t' := .long) (by decide) (by decide)))
  have K := K.wr Wz11 (Or.inl (List.mem_of_getElem? (i := 0) rfl))
  have F_read_a1 := F_read_a1_
  show own_Go _ _ _ _ Tz11 (mkF m 47 #[.val (.ref a1), .val (.ref a2), .val (.long q3), .second] [])
  exact own_end Xz11 hlk (v := none) (fun _ => rfl) (fun fs hr => Xz11.returnOut hx hret (hb hby own_d7_47) hr) (by rw [ez11]; exact ⟨rfl, Nz11, K, E_a1, F_limit_a1, F_read_a1⟩) (by decide) (by decide)
theorem own_ef0 (m : MethodId) (q1 : Int64) (q2 : Int64) (q3 : Int64) (q4 : Int64) (p5 : Int32) : entryFrame m #[(.long q1), (.long q2), (.long q3), (.long q4), (.int p5)] maxLocals = mkF m 0 #[.val (.long q1), .second, .val (.long q2), .second, .val (.long q3), .second, .val (.long q4), .second, .val (.int p5), .unset, .unset, .unset, .unset, .unset, .unset, .unset, .unset, .unset, .unset, .unset, .unset, .unset, .unset, .unset, .unset, .unset, .unset] [] := by first | (simp [entryFrame, mkF, argsToLocals, Value.category, maxLocals]; done) | rfl
theorem own_pd1 : parseMethodDescriptor "(J)J" = some ⟨[.long], some .long⟩ := by decide +kernel
theorem own_pd2 : parseMethodDescriptor "(J)V" = some ⟨[.long], none⟩ := by decide +kernel
theorem own_pd3 : parseMethodDescriptor "(J)Z" = some ⟨[.long], some .boolean⟩ := by decide +kernel
theorem own_pd4 : parseMethodDescriptor "(Ljava/lang/String;J)V" = some ⟨[(.object "java/lang/String"), .long], none⟩ := by decide +kernel
def own_Q0 (Z : State) (p5 : Int32) (h0 : Heap) (n0 : Nat) (v : Option Value) (h : Heap) (L : List Loc) : Prop := v = some (.int 1) ∧ Fr n0 L
set_option maxRecDepth 65536 in
set_option maxHeartbeats 40000000 in
theorem own_rm0 (l : Launch) (Z : State) (a0 : Array Value) (hw : ∀ d ∈ tables_1, d.before a0 Z = true) (ws : List Jvm.Cond) (q1 : Int64) (q2 : Int64) (q3 : Int64) (q4 : Int64) (p5 : Int32) (h0 : Heap) (n0 : Nat) (O : Old Z n0 h0) :
    own_MetW l Z x code maxLocals ret ws room_1 #[(.long q1), (.long q2), (.long q3), (.long q4), (.int p5)] h0 (own_Q0 Z p5 h0 n0) := by
  refine own_metW (plainFor_of_name own_pn0) ?_
  intro p e s m below meth c s₁ X0 hx hZ hby hml hown hnm hret hlk e0
  have N0 := Fr.nil n0
  refine own_go (fun t k => castTop (own_ef0 m q1 q2 q3 q4 p5) k) ?_
  have hS0 : s.Since s.vm 0 := (State.WarmedH.refl s).since 0
  have hj : 0 ≤ h0.size := Nat.zero_le _
  show own_Go _ _ _ _ s₁ (mkF m 0 #[.val (.long q1), .second, .val (.long q2), .second, .val (.long q3), .second, .val (.long q4), .second, .val (.int p5), .unset, .unset, .unset, .unset, .unset, .unset, .unset, .unset, .unset, .unset, .unset, .unset, .unset, .unset, .unset, .unset, .unset, .unset] [])
  refine own_go (fun _ k => XS.iload X0.here hx rfl (hb hby at_0) rfl k) ?_
  show own_Go _ _ _ _ s₁ (mkF m 2 #[.val (.long q1), .second, .val (.long q2), .second, .val (.long q3), .second, .val (.long q4), .second, .val (.int p5), .unset, .unset, .unset, .unset, .unset, .unset, .unset, .unset, .unset, .unset, .unset, .unset, .unset, .unset, .unset, .unset, .unset, .unset] [(.int p5)])
  refine own_go (fun _ k => XS.iconst X0.here hx rfl (hb hby at_2) k) ?_
  show own_Go _ _ _ _ s₁ (mkF m 3 #[.val (.long q1), .second, .val (.long q2), .second, .val (.long q3), .second, .val (.long q4), .second, .val (.int p5), .unset, .unset, .unset, .unset, .unset, .unset, .unset, .unset, .unset, .unset, .unset, .unset, .unset, .unset, .unset, .unset, .unset, .unset] [(.int (1 : Int32)), (.int p5)])
  refine own_go (fun _ k => XS.iand X0.here hx rfl (hb hby at_3) rfl k) ?_
  show own_Go _ _ _ _ s₁ (mkF m 4 #[.val (.long q1), .second, .val (.long q2), .second, .val (.long q3), .second, .val (.long q4), .second, .val (.int p5), .unset, .unset, .unset, .unset, .unset, .unset, .unset, .unset, .unset, .unset, .unset, .unset, .unset, .unset, .unset, .unset, .unset, .unset] [(.int (p5 &&& (1 : Int32)))])
  refine own_dia (α := Int64) (C := (p5 &&& (1 : Int32)) = (0 : Int32)) (v1 := (q1 &&& (16777215 : Int64))) (v0 := (q1 &&& (288230376151711743 : Int64))) (f := fun v => (mkF m 20 #[.val (.long q1), .second, .val (.long q2), .second, .val (.long q3), .second, .val (.long q4), .second, .val (.int p5), .unset, .unset, .unset, .unset, .unset, .unset, .unset, .unset, .unset, .unset, .unset, .unset, .unset, .unset, .unset, .unset, .unset, .unset] ((.long v) :: []))) (T' := s₁) (fun hC k => ?_) (fun hC k => ?_) ?_
  · show own_Go _ _ _ _ s₁ (mkF m 4 #[.val (.long q1), .second, .val (.long q2), .second, .val (.long q3), .second, .val (.long q4), .second, .val (.int p5), .unset, .unset, .unset, .unset, .unset, .unset, .unset, .unset, .unset, .unset, .unset, .unset, .unset, .unset, .unset, .unset, .unset, .unset] [(.int (p5 &&& (1 : Int32)))])
    refine own_go (fun _ k => XS.ifYes X0.here hx rfl (pc0 := 4) (pc' := 15) rfl (hb hby at_4) rfl ((if0 _ _).trans (teq hC).1) (by decide) (by decide) k) ?_
    show own_Go _ _ _ _ s₁ (mkF m 15 #[.val (.long q1), .second, .val (.long q2), .second, .val (.long q3), .second, .val (.long q4), .second, .val (.int p5), .unset, .unset, .unset, .unset, .unset, .unset, .unset, .unset, .unset, .unset, .unset, .unset, .unset, .unset, .unset, .unset, .unset, .unset] [])
    refine own_go (fun _ k => XS.lloadN X0.here hx rfl (hb hby at_15) rfl k) ?_
    show own_Go _ _ _ _ s₁ (mkF m 16 #[.val (.long q1), .second, .val (.long q2), .second, .val (.long q3), .second, .val (.long q4), .second, .val (.int p5), .unset, .unset, .unset, .unset, .unset, .unset, .unset, .unset, .unset, .unset, .unset, .unset, .unset, .unset, .unset, .unset, .unset, .unset] [(.long q1)])
    refine own_go (fun _ k => X0.ldc2Long hx hown (mvT hZ (hw _ (List.mem_of_getElem? (i := 54) rfl))) (g := (mkF m 16 #[.val (.long q1), .second, .val (.long q2), .second, .val (.long q3), .second, .val (.long q4), .second, .val (.int p5), .unset, .unset, .unset, .unset, .unset, .unset, .unset, .unset, .unset, .unset, .unset, .unset, .unset, .unset, .unset, .unset, .unset, .unset] [(.long q1)])) rfl (hb hby at_16) _ k) ?_
    show own_Go _ _ _ _ s₁ (mkF m 19 #[.val (.long q1), .second, .val (.long q2), .second, .val (.long q3), .second, .val (.long q4), .second, .val (.int p5), .unset, .unset, .unset, .unset, .unset, .unset, .unset, .unset, .unset, .unset, .unset, .unset, .unset, .unset, .unset, .unset, .unset, .unset] [(.long (16777215 : Int64)), (.long q1)])
    refine own_go (fun _ k => XS.land X0.here hx rfl (hb hby at_19) rfl k) ?_
    show own_Go _ _ _ _ s₁ (mkF m 20 #[.val (.long q1), .second, .val (.long q2), .second, .val (.long q3), .second, .val (.long q4), .second, .val (.int p5), .unset, .unset, .unset, .unset, .unset, .unset, .unset, .unset, .unset, .unset, .unset, .unset, .unset, .unset, .unset, .unset, .unset, .unset] [(.long (q1 &&& (16777215 : Int64)))])
    exact k
  · show own_Go _ _ _ _ s₁ (mkF m 4 #[.val (.long q1), .second, .val (.long q2), .second, .val (.long q3), .second, .val (.long q4), .second, .val (.int p5), .unset, .unset, .unset, .unset, .unset, .unset, .unset, .unset, .unset, .unset, .unset, .unset, .unset, .unset, .unset, .unset, .unset, .unset] [(.int (p5 &&& (1 : Int32)))])
    refine own_go (fun _ k => XS.ifNo X0.here hx rfl (hb hby at_4) rfl ((if0 _ _).trans (feq hC).1) k) ?_
    show own_Go _ _ _ _ s₁ (mkF m 7 #[.val (.long q1), .second, .val (.long q2), .second, .val (.long q3), .second, .val (.long q4), .second, .val (.int p5), .unset, .unset, .unset, .unset, .unset, .unset, .unset, .unset, .unset, .unset, .unset, .unset, .unset, .unset, .unset, .unset, .unset, .unset] [])
    refine own_go (fun _ k => XS.lloadN X0.here hx rfl (hb hby at_7) rfl k) ?_
    show own_Go _ _ _ _ s₁ (mkF m 8 #[.val (.long q1), .second, .val (.long q2), .second, .val (.long q3), .second, .val (.long q4), .second, .val (.int p5), .unset, .unset, .unset, .unset, .unset, .unset, .unset, .unset, .unset, .unset, .unset, .unset, .unset, .unset, .unset, .unset, .unset, .unset] [(.long q1)])
    refine own_go (fun _ k => X0.ldc2Long hx hown (mvT hZ (hw _ (List.mem_of_getElem? (i := 0) rfl))) (g := (mkF m 8 #[.val (.long q1), .second, .val (.long q2), .second, .val (.long q3), .second, .val (.long q4), .second, .val (.int p5), .unset, .unset, .unset, .unset, .unset, .unset, .unset, .unset, .unset, .unset, .unset, .unset, .unset, .unset, .unset, .unset, .unset, .unset] [(.long q1)])) rfl (hb hby at_8) _ k) ?_
    show own_Go _ _ _ _ s₁ (mkF m 11 #[.val (.long q1), .second, .val (.long q2), .second, .val (.long q3), .second, .val (.long q4), .second, .val (.int p5), .unset, .unset, .unset, .unset, .unset, .unset, .unset, .unset, .unset, .unset, .unset, .unset, .unset, .unset, .unset, .unset, .unset, .unset] [(.long (288230376151711743 : Int64)), (.long q1)])
    refine own_go (fun _ k => XS.land X0.here hx rfl (hb hby at_11) rfl k) ?_
    show own_Go _ _ _ _ s₁ (mkF m 12 #[.val (.long q1), .second, .val (.long q2), .second, .val (.long q3), .second, .val (.long q4), .second, .val (.int p5), .unset, .unset, .unset, .unset, .unset, .unset, .unset, .unset, .unset, .unset, .unset, .unset, .unset, .unset, .unset, .unset, .unset, .unset] [(.long (q1 &&& (288230376151711743 : Int64)))])
    refine own_go (fun _ k => XS.goto X0.here hx rfl (pc0 := 12) (pc' := 20) rfl (hb hby at_12) (by decide) (by decide) k) ?_
    show own_Go _ _ _ _ s₁ (mkF m 20 #[.val (.long q1), .second, .val (.long q2), .second, .val (.long q3), .second, .val (.long q4), .second, .val (.int p5), .unset, .unset, .unset, .unset, .unset, .unset, .unset, .unset, .unset, .unset, .unset, .unset, .unset, .unset, .unset, .unset, .unset, .unset] [(.long (q1 &&& (288230376151711743 : Int64)))])
    exact k
  show own_Go _ _ _ _ s₁ (mkF m 20 #[.val (.long q1), .second, .val (.long q2), .second, .val (.long q3), .second, .val (.long q4), .second, .val (.int p5), .unset, .unset, .unset, .unset, .unset, .unset, .unset, .unset, .unset, .unset, .unset, .unset, .unset, .unset, .unset, .unset, .unset, .unset] [(.long (if (p5 &&& (1 : Int32)) = (0 : Int32) then (q1 &&& (16777215 : Int64)) else (q1 &&& (288230376151711743 : Int64))))])
  obtain ⟨n, h_n⟩ : ∃ z, z = (if (p5 &&& (1 : Int32)) = (0 : Int32) then (q1 &&& (16777215 : Int64)) else (q1 &&& (288230376151711743 : Int64))) := ⟨_, rfl⟩
  have hn := own_apk p5 q1
  rw [← h_n] at hn
  rw [← h_n]
  clear h_n
  show own_Go _ _ _ _ s₁ (mkF m 20 #[.val (.long q1), .second, .val (.long q2), .second, .val (.long q3), .second, .val (.long q4), .second, .val (.int p5), .unset, .unset, .unset, .unset, .unset, .unset, .unset, .unset, .unset, .unset, .unset, .unset, .unset, .unset, .unset, .unset, .unset, .unset] [(.long n)])
  refine own_go (fun _ k => XS.lstore X0.here hx rfl (hb hby at_20) rfl (l' := #[.val (.long q1), .second, .val (.long q2), .second, .val (.long q3), .second, .val (.long q4), .second, .val (.int p5), .val (.long n), .second, .unset, .unset, .unset, .unset, .unset, .unset, .unset, .unset, .unset, .unset, .unset, .unset, .unset, .unset, .unset, .unset]) rfl k) ?_
  show own_Go _ _ _ _ s₁ (mkF m 22 #[.val (.long q1), .second, .val (.long q2), .second, .val (.long q3), .second, .val (.long q4), .second, .val (.int p5), .val (.long n), .second, .unset, .unset, .unset, .unset, .unset, .unset, .unset, .unset, .unset, .unset, .unset, .unset, .unset, .unset, .unset, .unset] [])
  refine own_go (fun _ k => XS.lload X0.here hx rfl (hb hby at_22) rfl k) ?_
  show own_Go _ _ _ _ s₁ (mkF m 24 #[.val (.long q1), .second, .val (.long q2), .second, .val (.long q3), .second, .val (.long q4), .second, .val (.int p5), .val (.long n), .second, .unset, .unset, .unset, .unset, .unset, .unset, .unset, .unset, .unset, .unset, .unset, .unset, .unset, .unset, .unset, .unset] [(.long n)])
  obtain ⟨vz12, Tz12, Lz12, Xz12, hQz12, stz12⟩ := own_callS X0 hx hZ hown (hw _ (List.mem_of_getElem? (i := 1) rfl)) (hw _ (List.mem_of_getElem? (i := 2) rfl)) (hw _ (List.mem_of_getElem? (i := 3) rfl)) (hw _ (List.mem_of_getElem? (i := 4) rfl)) (by decide) e0 (own_rm1 l Z a0 hw [] n h0 n0) (W := 0) (by decide) (by decide) (by decide) (by decide) own_pd1 rfl (g := (mkF m 24 #[.val (.long q1), .second, .val (.long q2), .second, .val (.long q3), .second, .val (.long q4), .second, .val (.int p5), .val (.long n), .second, .unset, .unset, .unset, .unset, .unset, .unset, .unset, .unset, .unset, .unset, .unset, .unset, .unset, .unset, .unset, .unset] [(.long n)])) (argsL := [(.long n)]) (rest := []) rfl (by rw [hml]; rfl) rfl (by show 2 * 0 + _ ≤ _; exact Nat.le_of_eq rfl) (hb hby at_24)
  obtain ⟨rfl, Nz12q, ehz12⟩ := hQz12
  have Nz12 := Fr.app N0 Nz12q
  refine own_go stz12 ?_
  show own_Go _ _ _ _ Tz12 (mkF m 27 #[.val (.long q1), .second, .val (.long q2), .second, .val (.long q3), .second, .val (.long q4), .second, .val (.int p5), .val (.long n), .second, .unset, .unset, .unset, .unset, .unset, .unset, .unset, .unset, .unset, .unset, .unset, .unset, .unset, .unset, .unset, .unset] [(.long (own_lim n))])
  have hle := own_limeq n hn.1 hn.2
  obtain ⟨lim, h_lim⟩ : ∃ z, z = (own_lim n) := ⟨_, rfl⟩
  have hl := own_limb n hn.1 hn.2
  rw [← h_lim] at hl
  rw [← h_lim]
  show own_Go _ _ _ _ Tz12 (mkF m 27 #[.val (.long q1), .second, .val (.long q2), .second, .val (.long q3), .second, .val (.long q4), .second, .val (.int p5), .val (.long n), .second, .unset, .unset, .unset, .unset, .unset, .unset, .unset, .unset, .unset, .unset, .unset, .unset, .unset, .unset, .unset, .unset] [(.long lim)])
  rw [← h_lim] at hle
  refine own_go (fun _ k => XS.lstore Xz12.here hx rfl (hb hby at_27) rfl (l' := #[.val (.long q1), .second, .val (.long q2), .second, .val (.long q3), .second, .val (.long q4), .second, .val (.int p5), .val (.long n), .second, .val (.long lim), .second, .unset, .unset, .unset, .unset, .unset, .unset, .unset, .unset, .unset, .unset, .unset, .unset, .unset, .unset]) rfl k) ?_
  show own_Go _ _ _ _ Tz12 (mkF m 29 #[.val (.long q1), .second, .val (.long q2), .second, .val (.long q3), .second, .val (.long q4), .second, .val (.int p5), .val (.long n), .second, .val (.long lim), .second, .unset, .unset, .unset, .unset, .unset, .unset, .unset, .unset, .unset, .unset, .unset, .unset, .unset, .unset] [])
  obtain ⟨Tz13, hz13, Xz13, ez13, Ez13, Az13, Dz13, -, stz13⟩ := newO Xz12 hx hZ hown (hw _ (List.mem_of_getElem? (i := 7) rfl)) (hw _ (List.mem_of_getElem? (i := 8) rfl)) (hw _ (List.mem_of_getElem? (i := 9) rfl)) ehz12 (g := (mkF m 29 #[.val (.long q1), .second, .val (.long q2), .second, .val (.long q3), .second, .val (.long q4), .second, .val (.int p5), .val (.long n), .second, .val (.long lim), .second, .unset, .unset, .unset, .unset, .unset, .unset, .unset, .unset, .unset, .unset, .unset, .unset, .unset, .unset] [])) rfl (hb hby at_29) (by decide) (by decide)
  obtain ⟨b, gz13⟩ : ∃ z, z = h0.size := ⟨_, rfl⟩
  rw [← gz13] at Az13 Dz13 stz13
  have g_b : n0 ≤ b := by rw [gz13, ← O.1]; exact O.2.1
  have O := O.ext Ez13
  have hj := Nat.le_trans hj Ez13.1
  refine own_go stz13 ?_
  have E_b := Az13
  have F_apkLength_b : Fld Z hz13 b "com/example/bound_bundle/boundbundle/core/JarReadBudget" "apkLength" "J" (.long (0 : Int64)) := Dz13 (Or.inr (hw _ (List.mem_of_getElem? (i := 17) rfl))) (ty := .long) (by decide)
  have F_limit_b : Fld Z hz13 b "com/example/bound_bundle/boundbundle/core/JarReadBudget" "limit" "J" (.long (0 : Int64)) := Dz13 (Or.inr (hw _ (List.mem_of_getElem? (i := 29) rfl))) (ty := .long) (by decide)
  have F_read_b : Fld Z hz13 b "com/example/bound_bundle/boundbundle/core/JarReadBudget" "read" "J" (.long (0 : Int64)) := Dz13 (Or.inl (hw _ (List.mem_of_getElem? (i := 36) rfl))) (ty := .long) (by decide)
  show own_Go _ _ _ _ Tz13 (mkF m 32 #[.val (.long q1), .second, .val (.long q2), .second, .val (.long q3), .second, .val (.long q4), .second, .val (.int p5), .val (.long n), .second, .val (.long lim), .second, .unset, .unset, .unset, .unset, .unset, .unset, .unset, .unset, .unset, .unset, .unset, .unset, .unset, .unset] [(.ref b)])
  refine own_go (fun _ k => XS.dup Xz13.here hx rfl (hb hby at_32) rfl rfl k) ?_
  show own_Go _ _ _ _ Tz13 (mkF m 33 #[.val (.long q1), .second, .val (.long q2), .second, .val (.long q3), .second, .val (.long q4), .second, .val (.int p5), .val (.long n), .second, .val (.long lim), .second, .unset, .unset, .unset, .unset, .unset, .unset, .unset, .unset, .unset, .unset, .unset, .unset, .unset, .unset] [(.ref b), (.ref b)])
  refine own_go (fun _ k => XS.lload Xz13.here hx rfl (hb hby at_33) rfl k) ?_
  show own_Go _ _ _ _ Tz13 (mkF m 35 #[.val (.long q1), .second, .val (.long q2), .second, .val (.long q3), .second, .val (.long q4), .second, .val (.int p5), .val (.long n), .second, .val (.long lim), .second, .unset, .unset, .unset, .unset, .unset, .unset, .unset, .unset, .unset, .unset, .unset, .unset, .unset, .unset] [(.long n), (.ref b), (.ref b)])
  obtain ⟨vz14, Tz14, Lz14, Xz14, hQz14, stz14⟩ := own_callI Xz13 hx hZ rfl hown (hw _ (List.mem_of_getElem? (i := 10) rfl)) (hw _ (List.mem_of_getElem? (i := 11) rfl)) (hw _ (List.mem_of_getElem? (i := 9) rfl)) (hw _ (List.mem_of_getElem? (i := 12) rfl)) (by decide) ez13 (own_rm2 l Z a0 hw [] b n hz13 n0 lim hle g_b E_b F_apkLength_b F_limit_b F_read_b) (W := 1) (by decide) (by decide) (by decide) (by decide) own_pd2 rfl (g := (mkF m 35 #[.val (.long q1), .second, .val (.long q2), .second, .val (.long q3), .second, .val (.long q4), .second, .val (.int p5), .val (.long n), .second, .val (.long lim), .second, .unset, .unset, .unset, .unset, .unset, .unset, .unset, .unset, .unset, .unset, .unset, .unset, .unset, .unset] [(.long n), (.ref b), (.ref b)])) (argsL := [(.long n)]) (rest := [(.ref b)]) rfl (by rw [hml]; rfl) rfl (by show 2 * 0 + _ ≤ _; exact Nat.le_of_eq rfl) (hb hby at_35)
  obtain ⟨rfl, Nz14q, Kz14, c3_z14, c4_z14, c5_z14⟩ := hQz14
  have Nz14 := Fr.app Nz12 Nz14q
  refine own_go stz14 ?_
  have O := O.keep Kz14 (allS g_b all0)
  have hj := Nat.le_trans hj Kz14.1
  have E_b := c3_z14
  have F_limit_b := c4_z14
  have F_read_b := c5_z14
  show own_Go _ _ _ _ Tz14 (mkF m 38 #[.val (.long q1), .second, .val (.long q2), .second, .val (.long q3), .second, .val (.long q4), .second, .val (.int p5), .val (.long n), .second, .val (.long lim), .second, .unset, .unset, .unset, .unset, .unset, .unset, .unset, .unset, .unset, .unset, .unset, .unset, .unset, .unset] [(.ref b)])
  refine own_go (fun _ k => XS.astore Xz14.here hx rfl (hb hby at_38) rfl rfl (l' := #[.val (.long q1), .second, .val (.long q2), .second, .val (.long q3), .second, .val (.long q4), .second, .val (.int p5), .val (.long n), .second, .val (.long lim), .second, .val (.ref b), .unset, .unset, .unset, .unset, .unset, .unset, .unset, .unset, .unset, .unset, .unset, .unset, .unset]) rfl k) ?_
  show own_Go _ _ _ _ Tz14 (mkF m 40 #[.val (.long q1), .second, .val (.long q2), .second, .val (.long q3), .second, .val (.long q4), .second, .val (.int p5), .val (.long n), .second, .val (.long lim), .second, .val (.ref b), .unset, .unset, .unset, .unset, .unset, .unset, .unset, .unset, .unset, .unset, .unset, .unset, .unset] [])
  refine own_go (fun _ k => XS.aload Xz14.here hx rfl (hb hby at_40) rfl rfl k) ?_
  show own_Go _ _ _ _ Tz14 (mkF m 42 #[.val (.long q1), .second, .val (.long q2), .second, .val (.long q3), .second, .val (.long q4), .second, .val (.int p5), .val (.long n), .second, .val (.long lim), .second, .val (.ref b), .unset, .unset, .unset, .unset, .unset, .unset, .unset, .unset, .unset, .unset, .unset, .unset, .unset] [(.ref b)])
  refine own_go (fun _ k => XS.lload Xz14.here hx rfl (hb hby at_42) rfl k) ?_
  show own_Go _ _ _ _ Tz14 (mkF m 44 #[.val (.long q1), .second, .val (.long q2), .second, .val (.long q3), .second, .val (.long q4), .second, .val (.int p5), .val (.long n), .second, .val (.long lim), .second, .val (.ref b), .unset, .unset, .unset, .unset, .unset, .unset, .unset, .unset, .unset, .unset, .unset, .unset, .unset] [(.long lim), (.ref b)])
  obtain ⟨vz15, Tz15, Lz15, Xz15, hQz15, stz15⟩ := own_callV Xz14 hx hZ hown (hw _ (List.mem_of_getElem? (i := 30) rfl)) (hw _ (List.mem_of_getElem? (i := 31) rfl)) (hw _ (List.mem_of_getElem? (i := 33) rfl)) (hw _ (List.mem_of_getElem? (i := 32) rfl)) (hw _ (List.mem_of_getElem? (i := 9) rfl)) (hw _ (List.mem_of_getElem? (i := 34) rfl)) (by decide) rfl E_b (own_rm6 l Z a0 hw [] b lim Tz14.heap n0 lim (0 : Int64) (1 : Int32) (own_r1 lim hl.1 hl.2) F_limit_b F_read_b) (W := 0) (by decide) (by decide) (by decide) (by decide) own_pd3 rfl (g := (mkF m 44 #[.val (.long q1), .second, .val (.long q2), .second, .val (.long q3), .second, .val (.long q4), .second, .val (.int p5), .val (.long n), .second, .val (.long lim), .second, .val (.ref b), .unset, .unset, .unset, .unset, .unset, .unset, .unset, .unset, .unset, .unset, .unset, .unset, .unset] [(.long lim), (.ref b)])) (argsL := [(.long lim)]) (rest := []) rfl (by rw [hml]; rfl) rfl (by show 2 * 0 + _ ≤ _; exact Nat.le_of_eq rfl) (hb hby at_44)
  obtain ⟨rfl, Nz15q, ehz15⟩ := hQz15
  have Nz15 := Fr.app Nz14 Nz15q
  refine own_go stz15 ?_
  show own_Go _ _ _ _ Tz15 (mkF m 47 #[.val (.long q1), .second, .val (.long q2), .second, .val (.long q3), .second, .val (.long q4), .second, .val (.int p5), .val (.long n), .second, .val (.long lim), .second, .val (.ref b), .unset, .unset, .unset, .unset, .unset, .unset, .unset, .unset, .unset, .unset, .unset, .unset, .unset] [(.int (1 : Int32))])
  refine own_go (fun _ k => XS.istore Xz15.here hx rfl (hb hby at_47) rfl (l' := #[.val (.long q1), .second, .val (.long q2), .second, .val (.long q3), .second, .val (.long q4), .second, .val (.int p5), .val (.long n), .second, .val (.long lim), .second, .val (.ref b), .val (.int (1 : Int32)), .unset, .unset, .unset, .unset, .unset, .unset, .unset, .unset, .unset, .unset, .unset, .unset]) rfl k) ?_
  show own_Go _ _ _ _ Tz15 (mkF m 49 #[.val (.long q1), .second, .val (.long q2), .second, .val (.long q3), .second, .val (.long q4), .second, .val (.int p5), .val (.long n), .second, .val (.long lim), .second, .val (.ref b), .val (.int (1 : Int32)), .unset, .unset, .unset, .unset, .unset, .unset, .unset, .unset, .unset, .unset, .unset, .unset] [])
  refine own_go (fun _ k => XS.aload Xz15.here hx rfl (hb hby at_49) rfl rfl k) ?_
  show own_Go _ _ _ _ Tz15 (mkF m 51 #[.val (.long q1), .second, .val (.long q2), .second, .val (.long q3), .second, .val (.long q4), .second, .val (.int p5), .val (.long n), .second, .val (.long lim), .second, .val (.ref b), .val (.int (1 : Int32)), .unset, .unset, .unset, .unset, .unset, .unset, .unset, .unset, .unset, .unset, .unset, .unset] [(.ref b)])
  refine own_go (fun _ k => XS.lload Xz15.here hx rfl (hb hby at_51) rfl k) ?_
  show own_Go _ _ _ _ Tz15 (mkF m 53 #[.val (.long q1), .second, .val (.long q2), .second, .val (.long q3), .second, .val (.long q4), .second, .val (.int p5), .val (.long n), .second, .val (.long lim), .second, .val (.ref b), .val (.int (1 : Int32)), .unset, .unset, .unset, .unset, .unset, .unset, .unset, .unset, .unset, .unset, .unset, .unset] [(.long lim), (.ref b)])
  refine own_go (fun _ k => XS.lconst Xz15.here hx rfl (hb hby at_53) k) ?_
  show own_Go _ _ _ _ Tz15 (mkF m 54 #[.val (.long q1), .second, .val (.long q2), .second, .val (.long q3), .second, .val (.long q4), .second, .val (.int p5), .val (.long n), .second, .val (.long lim), .second, .val (.ref b), .val (.int (1 : Int32)), .unset, .unset, .unset, .unset, .unset, .unset, .unset, .unset, .unset, .unset, .unset, .unset] [(.long (1 : Int64)), (.long lim), (.ref b)])
  refine own_go (fun _ k => XS.ladd Xz15.here hx rfl (hb hby at_54) rfl k) ?_
  show own_Go _ _ _ _ Tz15 (mkF m 55 #[.val (.long q1), .second, .val (.long q2), .second, .val (.long q3), .second, .val (.long q4), .second, .val (.int p5), .val (.long n), .second, .val (.long lim), .second, .val (.ref b), .val (.int (1 : Int32)), .unset, .unset, .unset, .unset, .unset, .unset, .unset, .unset, .unset, .unset, .unset, .unset] [(.long (lim + (1 : Int64))), (.ref b)])
  obtain ⟨vz16, Tz16, Lz16, Xz16, hQz16, stz16⟩ := own_callV Xz15 hx hZ hown (hw _ (List.mem_of_getElem? (i := 30) rfl)) (hw _ (List.mem_of_getElem? (i := 31) rfl)) (hw _ (List.mem_of_getElem? (i := 33) rfl)) (hw _ (List.mem_of_getElem? (i := 32) rfl)) (hw _ (List.mem_of_getElem? (i := 9) rfl)) (hw _ (List.mem_of_getElem? (i := 34) rfl)) (by decide) ehz15 E_b (own_rm6 l Z a0 hw [] b (lim + (1 : Int64)) Tz14.heap n0 lim (0 : Int64) (0 : Int32) (own_r2 lim hl.1 hl.2) F_limit_b F_read_b) (W := 0) (by decide) (by decide) (by decide) (by decide) own_pd3 rfl (g := (mkF m 55 #[.val (.long q1), .second, .val (.long q2), .second, .val (.long q3), .second, .val (.long q4), .second, .val (.int p5), .val (.long n), .second, .val (.long lim), .second, .val (.ref b), .val (.int (1 : Int32)), .unset, .unset, .unset, .unset, .unset, .unset, .unset, .unset, .unset, .unset, .unset, .unset] [(.long (lim + (1 : Int64))), (.ref b)])) (argsL := [(.long (lim + (1 : Int64)))]) (rest := []) rfl (by rw [hml]; rfl) rfl (by show 2 * 0 + _ ≤ _; exact Nat.le_of_eq rfl) (hb hby at_55)
  obtain ⟨rfl, Nz16q, ehz16⟩ := hQz16
  have Nz16 := Fr.app Nz15 Nz16q
  refine own_go stz16 ?_
  show own_Go _ _ _ _ Tz16 (mkF m 58 #[.val (.long q1), .second, .val (.long q2), .second, .val (.long q3), .second, .val (.long q4), .second, .val (.int p5), .val (.long n), .second, .val (.long lim), .second, .val (.ref b), .val (.int (1 : Int32)), .unset, .unset, .unset, .unset, .unset, .unset, .unset, .unset, .unset, .unset, .unset, .unset] [(.int (0 : Int32))])
  refine own_go (fun _ k => XS.istore Xz16.here hx rfl (hb hby at_58) rfl (l' := #[.val (.long q1), .second, .val (.long q2), .second, .val (.long q3), .second, .val (.long q4), .second, .val (.int p5), .val (.long n), .second, .val (.long lim), .second, .val (.ref b), .val (.int (1 : Int32)), .val (.int (0 : Int32)), .unset, .unset, .unset, .unset, .unset, .unset, .unset, .unset, .unset, .unset, .unset]) rfl k) ?_
  show own_Go _ _ _ _ Tz16 (mkF m 60 #[.val (.long q1), .second, .val (.long q2), .second, .val (.long q3), .second, .val (.long q4), .second, .val (.int p5), .val (.long n), .second, .val (.long lim), .second, .val (.ref b), .val (.int (1 : Int32)), .val (.int (0 : Int32)), .unset, .unset, .unset, .unset, .unset, .unset, .unset, .unset, .unset, .unset, .unset] [])
  refine own_go (fun _ k => XS.lloadN Xz16.here hx rfl (hb hby at_60) rfl k) ?_
  show own_Go _ _ _ _ Tz16 (mkF m 61 #[.val (.long q1), .second, .val (.long q2), .second, .val (.long q3), .second, .val (.long q4), .second, .val (.int p5), .val (.long n), .second, .val (.long lim), .second, .val (.ref b), .val (.int (1 : Int32)), .val (.int (0 : Int32)), .unset, .unset, .unset, .unset, .unset, .unset, .unset, .unset, .unset, .unset, .unset] [(.long q2)])
  refine own_go (fun _ k => Xz16.ldc2Long hx hown (mvT hZ (hw _ (List.mem_of_getElem? (i := 37) rfl))) (g := (mkF m 61 #[.val (.long q1), .second, .val (.long q2), .second, .val (.long q3), .second, .val (.long q4), .second, .val (.int p5), .val (.long n), .second, .val (.long lim), .second, .val (.ref b), .val (.int (1 : Int32)), .val (.int (0 : Int32)), .unset, .unset, .unset, .unset, .unset, .unset, .unset, .unset, .unset, .unset, .unset] [(.long q2)])) rfl (hb hby at_61) _ k) ?_
  show own_Go _ _ _ _ Tz16 (mkF m 64 #[.val (.long q1), .second, .val (.long q2), .second, .val (.long q3), .second, .val (.long q4), .second, .val (.int p5), .val (.long n), .second, .val (.long lim), .second, .val (.ref b), .val (.int (1 : Int32)), .val (.int (0 : Int32)), .unset, .unset, .unset, .unset, .unset, .unset, .unset, .unset, .unset, .unset, .unset] [(.long (9223372036854775807 : Int64)), (.long q2)])
  refine own_go (fun _ k => XS.land Xz16.here hx rfl (hb hby at_64) rfl k) ?_
  show own_Go _ _ _ _ Tz16 (mkF m 65 #[.val (.long q1), .second, .val (.long q2), .second, .val (.long q3), .second, .val (.long q4), .second, .val (.int p5), .val (.long n), .second, .val (.long lim), .second, .val (.ref b), .val (.int (1 : Int32)), .val (.int (0 : Int32)), .unset, .unset, .unset, .unset, .unset, .unset, .unset, .unset, .unset, .unset, .unset] [(.long (q2 &&& (9223372036854775807 : Int64)))])
  refine own_go (fun _ k => XS.lload Xz16.here hx rfl (hb hby at_65) rfl k) ?_
  show own_Go _ _ _ _ Tz16 (mkF m 67 #[.val (.long q1), .second, .val (.long q2), .second, .val (.long q3), .second, .val (.long q4), .second, .val (.int p5), .val (.long n), .second, .val (.long lim), .second, .val (.ref b), .val (.int (1 : Int32)), .val (.int (0 : Int32)), .unset, .unset, .unset, .unset, .unset, .unset, .unset, .unset, .unset, .unset, .unset] [(.long lim), (.long (q2 &&& (9223372036854775807 : Int64)))])
  refine own_go (fun _ k => XS.lconst Xz16.here hx rfl (hb hby at_67) k) ?_
  show own_Go _ _ _ _ Tz16 (mkF m 68 #[.val (.long q1), .second, .val (.long q2), .second, .val (.long q3), .second, .val (.long q4), .second, .val (.int p5), .val (.long n), .second, .val (.long lim), .second, .val (.ref b), .val (.int (1 : Int32)), .val (.int (0 : Int32)), .unset, .unset, .unset, .unset, .unset, .unset, .unset, .unset, .unset, .unset, .unset] [(.long (1 : Int64)), (.long lim), (.long (q2 &&& (9223372036854775807 : Int64)))])
  refine own_go (fun _ k => XS.ladd Xz16.here hx rfl (hb hby at_68) rfl k) ?_
  show own_Go _ _ _ _ Tz16 (mkF m 69 #[.val (.long q1), .second, .val (.long q2), .second, .val (.long q3), .second, .val (.long q4), .second, .val (.int p5), .val (.long n), .second, .val (.long lim), .second, .val (.ref b), .val (.int (1 : Int32)), .val (.int (0 : Int32)), .unset, .unset, .unset, .unset, .unset, .unset, .unset, .unset, .unset, .unset, .unset] [(.long (lim + (1 : Int64))), (.long (q2 &&& (9223372036854775807 : Int64)))])
  have hp1 := own_p1 lim hl.1 hl.2
  refine own_go (fun _ k => XS.lrem Xz16.here hx rfl (hb hby at_69) rfl (own_nz _ hp1.1) k) ?_
  show own_Go _ _ _ _ Tz16 (mkF m 70 #[.val (.long q1), .second, .val (.long q2), .second, .val (.long q3), .second, .val (.long q4), .second, .val (.int p5), .val (.long n), .second, .val (.long lim), .second, .val (.ref b), .val (.int (1 : Int32)), .val (.int (0 : Int32)), .unset, .unset, .unset, .unset, .unset, .unset, .unset, .unset, .unset, .unset, .unset] [(.long ((q2 &&& (9223372036854775807 : Int64)) - (q2 &&& (9223372036854775807 : Int64)) / (lim + (1 : Int64)) * (lim + (1 : Int64))))])
  obtain ⟨f, h_f⟩ : ∃ z, z = ((q2 &&& (9223372036854775807 : Int64)) - (q2 &&& (9223372036854775807 : Int64)) / (lim + (1 : Int64)) * (lim + (1 : Int64))) := ⟨_, rfl⟩
  have hf := own_rem q2 (lim + (1 : Int64)) hp1.1
  rw [← h_f] at hf
  rw [← h_f]
  clear h_f
  show own_Go _ _ _ _ Tz16 (mkF m 70 #[.val (.long q1), .second, .val (.long q2), .second, .val (.long q3), .second, .val (.long q4), .second, .val (.int p5), .val (.long n), .second, .val (.long lim), .second, .val (.ref b), .val (.int (1 : Int32)), .val (.int (0 : Int32)), .unset, .unset, .unset, .unset, .unset, .unset, .unset, .unset, .unset, .unset, .unset] [(.long f)])
  rw [hp1.2] at hf
  refine own_go (fun _ k => XS.lstore Xz16.here hx rfl (hb hby at_70) rfl (l' := #[.val (.long q1), .second, .val (.long q2), .second, .val (.long q3), .second, .val (.long q4), .second, .val (.int p5), .val (.long n), .second, .val (.long lim), .second, .val (.ref b), .val (.int (1 : Int32)), .val (.int (0 : Int32)), .val (.long f), .second, .unset, .unset, .unset, .unset, .unset, .unset, .unset, .unset, .unset]) rfl k) ?_
  show own_Go _ _ _ _ Tz16 (mkF m 72 #[.val (.long q1), .second, .val (.long q2), .second, .val (.long q3), .second, .val (.long q4), .second, .val (.int p5), .val (.long n), .second, .val (.long lim), .second, .val (.ref b), .val (.int (1 : Int32)), .val (.int (0 : Int32)), .val (.long f), .second, .unset, .unset, .unset, .unset, .unset, .unset, .unset, .unset, .unset] [])
  refine own_go (fun _ k => XS.aload Xz16.here hx rfl (hb hby at_72) rfl rfl k) ?_
  show own_Go _ _ _ _ Tz16 (mkF m 74 #[.val (.long q1), .second, .val (.long q2), .second, .val (.long q3), .second, .val (.long q4), .second, .val (.int p5), .val (.long n), .second, .val (.long lim), .second, .val (.ref b), .val (.int (1 : Int32)), .val (.int (0 : Int32)), .val (.long f), .second, .unset, .unset, .unset, .unset, .unset, .unset, .unset, .unset, .unset] [(.ref b)])
  obtain ⟨sa, Tz17, hz17, jz17, Xz17, ez17, Ez17, hSz17, hj_z17, hZz17, hoz17, stz17⟩ := ldcS (s := s) (vm0 := s.vm) Xz16 hx hZ hown (hw _ (List.mem_of_getElem? (i := 38) rfl)) (fun d hd => hw d (List.mem_of_mem_drop (List.mem_of_mem_take ((show Bundle.stringAtoms = (tables_1.drop 39).take 7 from rfl) ▸ hd)))) ehz16 hS0 hj (g := (mkF m 74 #[.val (.long q1), .second, .val (.long q2), .second, .val (.long q3), .second, .val (.long q4), .second, .val (.int p5), .val (.long n), .second, .val (.long lim), .second, .val (.ref b), .val (.int (1 : Int32)), .val (.int (0 : Int32)), .val (.long f), .second, .unset, .unset, .unset, .unset, .unset, .unset, .unset, .unset, .unset] [(.ref b)])) rfl (hb hby at_74) (n := 4) (by decide) (by decide) (by decide) (by decide)
  refine own_go stz17 ?_
  have O := O.ext Ez17
  have E_b := E_b.ext Ez17
  have F_limit_b := F_limit_b.ext Ez17
  have F_read_b := F_read_b.ext Ez17
  have hj := hj_z17
  show own_Go _ _ _ _ Tz17 (mkF m 76 #[.val (.long q1), .second, .val (.long q2), .second, .val (.long q3), .second, .val (.long q4), .second, .val (.int p5), .val (.long n), .second, .val (.long lim), .second, .val (.ref b), .val (.int (1 : Int32)), .val (.int (0 : Int32)), .val (.long f), .second, .unset, .unset, .unset, .unset, .unset, .unset, .unset, .unset, .unset] [(.ref sa), (.ref b)])
  refine own_go (fun _ k => XS.lload Xz17.here hx rfl (hb hby at_76) rfl k) ?_
  show own_Go _ _ _ _ Tz17 (mkF m 78 #[.val (.long q1), .second, .val (.long q2), .second, .val (.long q3), .second, .val (.long q4), .second, .val (.int p5), .val (.long n), .second, .val (.long lim), .second, .val (.ref b), .val (.int (1 : Int32)), .val (.int (0 : Int32)), .val (.long f), .second, .unset, .unset, .unset, .unset, .unset, .unset, .unset, .unset, .unset] [(.long f), (.ref sa), (.ref b)])
  obtain ⟨vz18, Tz18, Lz18, Xz18, hQz18, stz18⟩ := own_callV Xz17 hx hZz17 hoz17 (hw _ (List.mem_of_getElem? (i := 46) rfl)) (hw _ (List.mem_of_getElem? (i := 47) rfl)) (hw _ (List.mem_of_getElem? (i := 49) rfl)) (hw _ (List.mem_of_getElem? (i := 48) rfl)) (hw _ (List.mem_of_getElem? (i := 9) rfl)) (hw _ (List.mem_of_getElem? (i := 50) rfl)) (by decide) ez17 E_b (own_rm7 l Z a0 hw [] b sa f hz17 n0 lim (0 : Int64) (own_s1 lim f hl.1 hl.2 hf.1 hf.2) g_b E_b F_limit_b F_read_b) (W := 0) (by decide) (by decide) (by decide) (by decide) own_pd4 rfl (g := (mkF m 78 #[.val (.long q1), .second, .val (.long q2), .second, .val (.long q3), .second, .val (.long q4), .second, .val (.int p5), .val (.long n), .second, .val (.long lim), .second, .val (.ref b), .val (.int (1 : Int32)), .val (.int (0 : Int32)), .val (.long f), .second, .unset, .unset, .unset, .unset, .unset, .unset, .unset, .unset, .unset] [(.long f), (.ref sa), (.ref b)])) (argsL := [(.ref sa), (.long f)]) (rest := []) rfl (by rw [hml]; rfl) rfl (by show 2 * 0 + _ ≤ _; exact Nat.le_of_eq rfl) (hb hby at_78)
  obtain ⟨rfl, Nz18q, Kz18, c3_z18, c4_z18, c5_z18⟩ := hQz18
  have Nz18 := Fr.app Nz16 Nz18q
  refine own_go stz18 ?_
  have O := O.keep Kz18 (allS g_b all0)
  have hj := Nat.le_trans hj Kz18.1
  have E_b := c3_z18
  have F_limit_b := c4_z18
  have F_read_b := c5_z18
  show own_Go _ _ _ _ Tz18 (mkF m 81 #[.val (.long q1), .second, .val (.long q2), .second, .val (.long q3), .second, .val (.long q4), .second, .val (.int p5), .val (.long n), .second, .val (.long lim), .second, .val (.ref b), .val (.int (1 : Int32)), .val (.int (0 : Int32)), .val (.long f), .second, .unset, .unset, .unset, .unset, .unset, .unset, .unset, .unset, .unset] [])
  refine own_go (fun _ k => XS.lload Xz18.here hx rfl (hb hby at_81) rfl k) ?_
  show own_Go _ _ _ _ Tz18 (mkF m 83 #[.val (.long q1), .second, .val (.long q2), .second, .val (.long q3), .second, .val (.long q4), .second, .val (.int p5), .val (.long n), .second, .val (.long lim), .second, .val (.ref b), .val (.int (1 : Int32)), .val (.int (0 : Int32)), .val (.long f), .second, .unset, .unset, .unset, .unset, .unset, .unset, .unset, .unset, .unset] [(.long q3)])
  refine own_go (fun _ k => Xz18.ldc2Long hx hoz17 (mvT hZz17 (hw _ (List.mem_of_getElem? (i := 37) rfl))) (g := (mkF m 83 #[.val (.long q1), .second, .val (.long q2), .second, .val (.long q3), .second, .val (.long q4), .second, .val (.int p5), .val (.long n), .second, .val (.long lim), .second, .val (.ref b), .val (.int (1 : Int32)), .val (.int (0 : Int32)), .val (.long f), .second, .unset, .unset, .unset, .unset, .unset, .unset, .unset, .unset, .unset] [(.long q3)])) rfl (hb hby at_83) _ k) ?_
  show own_Go _ _ _ _ Tz18 (mkF m 86 #[.val (.long q1), .second, .val (.long q2), .second, .val (.long q3), .second, .val (.long q4), .second, .val (.int p5), .val (.long n), .second, .val (.long lim), .second, .val (.ref b), .val (.int (1 : Int32)), .val (.int (0 : Int32)), .val (.long f), .second, .unset, .unset, .unset, .unset, .unset, .unset, .unset, .unset, .unset] [(.long (9223372036854775807 : Int64)), (.long q3)])
  refine own_go (fun _ k => XS.land Xz18.here hx rfl (hb hby at_86) rfl k) ?_
  show own_Go _ _ _ _ Tz18 (mkF m 87 #[.val (.long q1), .second, .val (.long q2), .second, .val (.long q3), .second, .val (.long q4), .second, .val (.int p5), .val (.long n), .second, .val (.long lim), .second, .val (.ref b), .val (.int (1 : Int32)), .val (.int (0 : Int32)), .val (.long f), .second, .unset, .unset, .unset, .unset, .unset, .unset, .unset, .unset, .unset] [(.long (q3 &&& (9223372036854775807 : Int64)))])
  refine own_go (fun _ k => XS.lload Xz18.here hx rfl (hb hby at_87) rfl k) ?_
  show own_Go _ _ _ _ Tz18 (mkF m 89 #[.val (.long q1), .second, .val (.long q2), .second, .val (.long q3), .second, .val (.long q4), .second, .val (.int p5), .val (.long n), .second, .val (.long lim), .second, .val (.ref b), .val (.int (1 : Int32)), .val (.int (0 : Int32)), .val (.long f), .second, .unset, .unset, .unset, .unset, .unset, .unset, .unset, .unset, .unset] [(.long lim), (.long (q3 &&& (9223372036854775807 : Int64)))])
  refine own_go (fun _ k => XS.lload Xz18.here hx rfl (hb hby at_89) rfl k) ?_
  show own_Go _ _ _ _ Tz18 (mkF m 91 #[.val (.long q1), .second, .val (.long q2), .second, .val (.long q3), .second, .val (.long q4), .second, .val (.int p5), .val (.long n), .second, .val (.long lim), .second, .val (.ref b), .val (.int (1 : Int32)), .val (.int (0 : Int32)), .val (.long f), .second, .unset, .unset, .unset, .unset, .unset, .unset, .unset, .unset, .unset] [(.long f), (.long lim), (.long (q3 &&& (9223372036854775807 : Int64)))])
  refine own_go (fun _ k => XS.lsub Xz18.here hx rfl (hb hby at_91) rfl k) ?_
  show own_Go _ _ _ _ Tz18 (mkF m 92 #[.val (.long q1), .second, .val (.long q2), .second, .val (.long q3), .second, .val (.long q4), .second, .val (.int p5), .val (.long n), .second, .val (.long lim), .second, .val (.ref b), .val (.int (1 : Int32)), .val (.int (0 : Int32)), .val (.long f), .second, .unset, .unset, .unset, .unset, .unset, .unset, .unset, .unset, .unset] [(.long (lim - f)), (.long (q3 &&& (9223372036854775807 : Int64)))])
  refine own_go (fun _ k => XS.lconst Xz18.here hx rfl (hb hby at_92) k) ?_
  show own_Go _ _ _ _ Tz18 (mkF m 93 #[.val (.long q1), .second, .val (.long q2), .second, .val (.long q3), .second, .val (.long q4), .second, .val (.int p5), .val (.long n), .second, .val (.long lim), .second, .val (.ref b), .val (.int (1 : Int32)), .val (.int (0 : Int32)), .val (.long f), .second, .unset, .unset, .unset, .unset, .unset, .unset, .unset, .unset, .unset] [(.long (1 : Int64)), (.long (lim - f)), (.long (q3 &&& (9223372036854775807 : Int64)))])
  refine own_go (fun _ k => XS.ladd Xz18.here hx rfl (hb hby at_93) rfl k) ?_
  show own_Go _ _ _ _ Tz18 (mkF m 94 #[.val (.long q1), .second, .val (.long q2), .second, .val (.long q3), .second, .val (.long q4), .second, .val (.int p5), .val (.long n), .second, .val (.long lim), .second, .val (.ref b), .val (.int (1 : Int32)), .val (.int (0 : Int32)), .val (.long f), .second, .unset, .unset, .unset, .unset, .unset, .unset, .unset, .unset, .unset] [(.long ((lim - f) + (1 : Int64))), (.long (q3 &&& (9223372036854775807 : Int64)))])
  have hp2 := own_p2 lim f hl.1 hl.2 hf.1 hf.2
  refine own_go (fun _ k => XS.lrem Xz18.here hx rfl (hb hby at_94) rfl (own_nz _ hp2.1) k) ?_
  show own_Go _ _ _ _ Tz18 (mkF m 95 #[.val (.long q1), .second, .val (.long q2), .second, .val (.long q3), .second, .val (.long q4), .second, .val (.int p5), .val (.long n), .second, .val (.long lim), .second, .val (.ref b), .val (.int (1 : Int32)), .val (.int (0 : Int32)), .val (.long f), .second, .unset, .unset, .unset, .unset, .unset, .unset, .unset, .unset, .unset] [(.long ((q3 &&& (9223372036854775807 : Int64)) - (q3 &&& (9223372036854775807 : Int64)) / ((lim - f) + (1 : Int64)) * ((lim - f) + (1 : Int64))))])
  obtain ⟨g, h_g⟩ : ∃ z, z = ((q3 &&& (9223372036854775807 : Int64)) - (q3 &&& (9223372036854775807 : Int64)) / ((lim - f) + (1 : Int64)) * ((lim - f) + (1 : Int64))) := ⟨_, rfl⟩
  have hg := own_rem q3 (lim - f + (1 : Int64)) hp2.1
  rw [← h_g] at hg
  rw [← h_g]
  clear h_g
  show own_Go _ _ _ _ Tz18 (mkF m 95 #[.val (.long q1), .second, .val (.long q2), .second, .val (.long q3), .second, .val (.long q4), .second, .val (.int p5), .val (.long n), .second, .val (.long lim), .second, .val (.ref b), .val (.int (1 : Int32)), .val (.int (0 : Int32)), .val (.long f), .second, .unset, .unset, .unset, .unset, .unset, .unset, .unset, .unset, .unset] [(.long g)])
  rw [hp2.2] at hg
  refine own_go (fun _ k => XS.lstore Xz18.here hx rfl (hb hby at_95) rfl (l' := #[.val (.long q1), .second, .val (.long q2), .second, .val (.long q3), .second, .val (.long q4), .second, .val (.int p5), .val (.long n), .second, .val (.long lim), .second, .val (.ref b), .val (.int (1 : Int32)), .val (.int (0 : Int32)), .val (.long f), .second, .val (.long g), .second, .unset, .unset, .unset, .unset, .unset, .unset, .unset]) rfl k) ?_
  show own_Go _ _ _ _ Tz18 (mkF m 97 #[.val (.long q1), .second, .val (.long q2), .second, .val (.long q3), .second, .val (.long q4), .second, .val (.int p5), .val (.long n), .second, .val (.long lim), .second, .val (.ref b), .val (.int (1 : Int32)), .val (.int (0 : Int32)), .val (.long f), .second, .val (.long g), .second, .unset, .unset, .unset, .unset, .unset, .unset, .unset] [])
  refine own_go (fun _ k => XS.aload Xz18.here hx rfl (hb hby at_97) rfl rfl k) ?_
  show own_Go _ _ _ _ Tz18 (mkF m 99 #[.val (.long q1), .second, .val (.long q2), .second, .val (.long q3), .second, .val (.long q4), .second, .val (.int p5), .val (.long n), .second, .val (.long lim), .second, .val (.ref b), .val (.int (1 : Int32)), .val (.int (0 : Int32)), .val (.long f), .second, .val (.long g), .second, .unset, .unset, .unset, .unset, .unset, .unset, .unset] [(.ref b)])
  obtain ⟨l1, l2, l3, l4⟩ := own_left lim f g hl.1 hl.2 hf.1 hf.2 hg.1 hg.2
  obtain ⟨sb, Tz19, hz19, jz19, Xz19, ez19, Ez19, hSz19, hj_z19, hZz19, hoz19, stz19⟩ := ldcS (s := s) (vm0 := Tz17.vm) Xz18 hx hZz17 hoz17 (hw _ (List.mem_of_getElem? (i := 51) rfl)) (fun d hd => hw d (List.mem_of_mem_drop (List.mem_of_mem_take ((show Bundle.stringAtoms = (tables_1.drop 39).take 7 from rfl) ▸ hd)))) rfl hSz17 hj (g := (mkF m 99 #[.val (.long q1), .second, .val (.long q2), .second, .val (.long q3), .second, .val (.long q4), .second, .val (.int p5), .val (.long n), .second, .val (.long lim), .second, .val (.ref b), .val (.int (1 : Int32)), .val (.int (0 : Int32)), .val (.long f), .second, .val (.long g), .second, .unset, .unset, .unset, .unset, .unset, .unset, .unset] [(.ref b)])) rfl (hb hby at_99) (n := 4) (by decide) (by decide) (by decide) (by decide)
  refine own_go stz19 ?_
  have O := O.ext Ez19
  have E_b := E_b.ext Ez19
  have F_limit_b := F_limit_b.ext Ez19
  have F_read_b := F_read_b.ext Ez19
  have hj := hj_z19
  show own_Go _ _ _ _ Tz19 (mkF m 101 #[.val (.long q1), .second, .val (.long q2), .second, .val (.long q3), .second, .val (.long q4), .second, .val (.int p5), .val (.long n), .second, .val (.long lim), .second, .val (.ref b), .val (.int (1 : Int32)), .val (.int (0 : Int32)), .val (.long f), .second, .val (.long g), .second, .unset, .unset, .unset, .unset, .unset, .unset, .unset] [(.ref sb), (.ref b)])
  refine own_go (fun _ k => XS.lload Xz19.here hx rfl (hb hby at_101) rfl k) ?_
  show own_Go _ _ _ _ Tz19 (mkF m 103 #[.val (.long q1), .second, .val (.long q2), .second, .val (.long q3), .second, .val (.long q4), .second, .val (.int p5), .val (.long n), .second, .val (.long lim), .second, .val (.ref b), .val (.int (1 : Int32)), .val (.int (0 : Int32)), .val (.long f), .second, .val (.long g), .second, .unset, .unset, .unset, .unset, .unset, .unset, .unset] [(.long g), (.ref sb), (.ref b)])
  obtain ⟨vz20, Tz20, Lz20, Xz20, hQz20, stz20⟩ := own_callV Xz19 hx hZz19 hoz19 (hw _ (List.mem_of_getElem? (i := 46) rfl)) (hw _ (List.mem_of_getElem? (i := 47) rfl)) (hw _ (List.mem_of_getElem? (i := 49) rfl)) (hw _ (List.mem_of_getElem? (i := 48) rfl)) (hw _ (List.mem_of_getElem? (i := 9) rfl)) (hw _ (List.mem_of_getElem? (i := 50) rfl)) (by decide) ez19 E_b (own_rm7 l Z a0 hw [] b sb g hz19 n0 lim ((0 : Int64) + f) (by rw [Int64.lt_iff_toInt_lt]; omega) g_b E_b F_limit_b F_read_b) (W := 0) (by decide) (by decide) (by decide) (by decide) own_pd4 rfl (g := (mkF m 103 #[.val (.long q1), .second, .val (.long q2), .second, .val (.long q3), .second, .val (.long q4), .second, .val (.int p5), .val (.long n), .second, .val (.long lim), .second, .val (.ref b), .val (.int (1 : Int32)), .val (.int (0 : Int32)), .val (.long f), .second, .val (.long g), .second, .unset, .unset, .unset, .unset, .unset, .unset, .unset] [(.long g), (.ref sb), (.ref b)])) (argsL := [(.ref sb), (.long g)]) (rest := []) rfl (by rw [hml]; rfl) rfl (by show 2 * 0 + _ ≤ _; exact Nat.le_of_eq rfl) (hb hby at_103)
  obtain ⟨rfl, Nz20q, Kz20, c3_z20, c4_z20, c5_z20⟩ := hQz20
  have Nz20 := Fr.app Nz18 Nz20q
  refine own_go stz20 ?_
  have O := O.keep Kz20 (allS g_b all0)
  have hj := Nat.le_trans hj Kz20.1
  have E_b := c3_z20
  have F_limit_b := c4_z20
  have F_read_b := c5_z20
  show own_Go _ _ _ _ Tz20 (mkF m 106 #[.val (.long q1), .second, .val (.long q2), .second, .val (.long q3), .second, .val (.long q4), .second, .val (.int p5), .val (.long n), .second, .val (.long lim), .second, .val (.ref b), .val (.int (1 : Int32)), .val (.int (0 : Int32)), .val (.long f), .second, .val (.long g), .second, .unset, .unset, .unset, .unset, .unset, .unset, .unset] [])
  refine own_go (fun _ k => XS.lload Xz20.here hx rfl (hb hby at_106) rfl k) ?_
  show own_Go _ _ _ _ Tz20 (mkF m 108 #[.val (.long q1), .second, .val (.long q2), .second, .val (.long q3), .second, .val (.long q4), .second, .val (.int p5), .val (.long n), .second, .val (.long lim), .second, .val (.ref b), .val (.int (1 : Int32)), .val (.int (0 : Int32)), .val (.long f), .second, .val (.long g), .second, .unset, .unset, .unset, .unset, .unset, .unset, .unset] [(.long lim)])
  refine own_go (fun _ k => XS.lload Xz20.here hx rfl (hb hby at_108) rfl k) ?_
  show own_Go _ _ _ _ Tz20 (mkF m 110 #[.val (.long q1), .second, .val (.long q2), .second, .val (.long q3), .second, .val (.long q4), .second, .val (.int p5), .val (.long n), .second, .val (.long lim), .second, .val (.ref b), .val (.int (1 : Int32)), .val (.int (0 : Int32)), .val (.long f), .second, .val (.long g), .second, .unset, .unset, .unset, .unset, .unset, .unset, .unset] [(.long f), (.long lim)])
  refine own_go (fun _ k => XS.lsub Xz20.here hx rfl (hb hby at_110) rfl k) ?_
  show own_Go _ _ _ _ Tz20 (mkF m 111 #[.val (.long q1), .second, .val (.long q2), .second, .val (.long q3), .second, .val (.long q4), .second, .val (.int p5), .val (.long n), .second, .val (.long lim), .second, .val (.ref b), .val (.int (1 : Int32)), .val (.int (0 : Int32)), .val (.long f), .second, .val (.long g), .second, .unset, .unset, .unset, .unset, .unset, .unset, .unset] [(.long (lim - f))])
  refine own_go (fun _ k => XS.lload Xz20.here hx rfl (hb hby at_111) rfl k) ?_
  show own_Go _ _ _ _ Tz20 (mkF m 113 #[.val (.long q1), .second, .val (.long q2), .second, .val (.long q3), .second, .val (.long q4), .second, .val (.int p5), .val (.long n), .second, .val (.long lim), .second, .val (.ref b), .val (.int (1 : Int32)), .val (.int (0 : Int32)), .val (.long f), .second, .val (.long g), .second, .unset, .unset, .unset, .unset, .unset, .unset, .unset] [(.long g), (.long (lim - f))])
  refine own_go (fun _ k => XS.lsub Xz20.here hx rfl (hb hby at_113) rfl k) ?_
  show own_Go _ _ _ _ Tz20 (mkF m 114 #[.val (.long q1), .second, .val (.long q2), .second, .val (.long q3), .second, .val (.long q4), .second, .val (.int p5), .val (.long n), .second, .val (.long lim), .second, .val (.ref b), .val (.int (1 : Int32)), .val (.int (0 : Int32)), .val (.long f), .second, .val (.long g), .second, .unset, .unset, .unset, .unset, .unset, .unset, .unset] [(.long ((lim - f) - g))])
  refine own_go (fun _ k => XS.lstore Xz20.here hx rfl (hb hby at_114) rfl (l' := #[.val (.long q1), .second, .val (.long q2), .second, .val (.long q3), .second, .val (.long q4), .second, .val (.int p5), .val (.long n), .second, .val (.long lim), .second, .val (.ref b), .val (.int (1 : Int32)), .val (.int (0 : Int32)), .val (.long f), .second, .val (.long g), .second, .val (.long ((lim - f) - g)), .second, .unset, .unset, .unset, .unset, .unset]) rfl k) ?_
  show own_Go _ _ _ _ Tz20 (mkF m 116 #[.val (.long q1), .second, .val (.long q2), .second, .val (.long q3), .second, .val (.long q4), .second, .val (.int p5), .val (.long n), .second, .val (.long lim), .second, .val (.ref b), .val (.int (1 : Int32)), .val (.int (0 : Int32)), .val (.long f), .second, .val (.long g), .second, .val (.long ((lim - f) - g)), .second, .unset, .unset, .unset, .unset, .unset] [])
  refine own_go (fun _ k => XS.aload Xz20.here hx rfl (hb hby at_116) rfl rfl k) ?_
  show own_Go _ _ _ _ Tz20 (mkF m 118 #[.val (.long q1), .second, .val (.long q2), .second, .val (.long q3), .second, .val (.long q4), .second, .val (.int p5), .val (.long n), .second, .val (.long lim), .second, .val (.ref b), .val (.int (1 : Int32)), .val (.int (0 : Int32)), .val (.long f), .second, .val (.long g), .second, .val (.long ((lim - f) - g)), .second, .unset, .unset, .unset, .unset, .unset] [(.ref b)])
  refine own_go (fun _ k => XS.lload Xz20.here hx rfl (hb hby at_118) rfl k) ?_
  show own_Go _ _ _ _ Tz20 (mkF m 120 #[.val (.long q1), .second, .val (.long q2), .second, .val (.long q3), .second, .val (.long q4), .second, .val (.int p5), .val (.long n), .second, .val (.long lim), .second, .val (.ref b), .val (.int (1 : Int32)), .val (.int (0 : Int32)), .val (.long f), .second, .val (.long g), .second, .val (.long ((lim - f) - g)), .second, .unset, .unset, .unset, .unset, .unset] [(.long ((lim - f) - g)), (.ref b)])
  obtain ⟨vz21, Tz21, Lz21, Xz21, hQz21, stz21⟩ := own_callV Xz20 hx hZz19 hoz19 (hw _ (List.mem_of_getElem? (i := 30) rfl)) (hw _ (List.mem_of_getElem? (i := 31) rfl)) (hw _ (List.mem_of_getElem? (i := 33) rfl)) (hw _ (List.mem_of_getElem? (i := 32) rfl)) (hw _ (List.mem_of_getElem? (i := 9) rfl)) (hw _ (List.mem_of_getElem? (i := 34) rfl)) (by decide) rfl E_b (own_rm6 l Z a0 hw [] b ((lim - f) - g) Tz20.heap n0 lim (((0 : Int64) + f) + g) (1 : Int32) (if_neg (by rw [Int64.lt_iff_toInt_lt]; omega)) F_limit_b F_read_b) (W := 0) (by decide) (by decide) (by decide) (by decide) own_pd3 rfl (g := (mkF m 120 #[.val (.long q1), .second, .val (.long q2), .second, .val (.long q3), .second, .val (.long q4), .second, .val (.int p5), .val (.long n), .second, .val (.long lim), .second, .val (.ref b), .val (.int (1 : Int32)), .val (.int (0 : Int32)), .val (.long f), .second, .val (.long g), .second, .val (.long ((lim - f) - g)), .second, .unset, .unset, .unset, .unset, .unset] [(.long ((lim - f) - g)), (.ref b)])) (argsL := [(.long ((lim - f) - g))]) (rest := []) rfl (by rw [hml]; rfl) rfl (by show 2 * 0 + _ ≤ _; exact Nat.le_of_eq rfl) (hb hby at_120)
  obtain ⟨rfl, Nz21q, ehz21⟩ := hQz21
  have Nz21 := Fr.app Nz20 Nz21q
  refine own_go stz21 ?_
  show own_Go _ _ _ _ Tz21 (mkF m 123 #[.val (.long q1), .second, .val (.long q2), .second, .val (.long q3), .second, .val (.long q4), .second, .val (.int p5), .val (.long n), .second, .val (.long lim), .second, .val (.ref b), .val (.int (1 : Int32)), .val (.int (0 : Int32)), .val (.long f), .second, .val (.long g), .second, .val (.long ((lim - f) - g)), .second, .unset, .unset, .unset, .unset, .unset] [(.int (1 : Int32))])
  refine own_go (fun _ k => XS.istore Xz21.here hx rfl (hb hby at_123) rfl (l' := #[.val (.long q1), .second, .val (.long q2), .second, .val (.long q3), .second, .val (.long q4), .second, .val (.int p5), .val (.long n), .second, .val (.long lim), .second, .val (.ref b), .val (.int (1 : Int32)), .val (.int (0 : Int32)), .val (.long f), .second, .val (.long g), .second, .val (.long ((lim - f) - g)), .second, .val (.int (1 : Int32)), .unset, .unset, .unset, .unset]) rfl k) ?_
  show own_Go _ _ _ _ Tz21 (mkF m 125 #[.val (.long q1), .second, .val (.long q2), .second, .val (.long q3), .second, .val (.long q4), .second, .val (.int p5), .val (.long n), .second, .val (.long lim), .second, .val (.ref b), .val (.int (1 : Int32)), .val (.int (0 : Int32)), .val (.long f), .second, .val (.long g), .second, .val (.long ((lim - f) - g)), .second, .val (.int (1 : Int32)), .unset, .unset, .unset, .unset] [])
  refine own_go (fun _ k => XS.aload Xz21.here hx rfl (hb hby at_125) rfl rfl k) ?_
  show own_Go _ _ _ _ Tz21 (mkF m 127 #[.val (.long q1), .second, .val (.long q2), .second, .val (.long q3), .second, .val (.long q4), .second, .val (.int p5), .val (.long n), .second, .val (.long lim), .second, .val (.ref b), .val (.int (1 : Int32)), .val (.int (0 : Int32)), .val (.long f), .second, .val (.long g), .second, .val (.long ((lim - f) - g)), .second, .val (.int (1 : Int32)), .unset, .unset, .unset, .unset] [(.ref b)])
  refine own_go (fun _ k => XS.lload Xz21.here hx rfl (hb hby at_127) rfl k) ?_
  show own_Go _ _ _ _ Tz21 (mkF m 129 #[.val (.long q1), .second, .val (.long q2), .second, .val (.long q3), .second, .val (.long q4), .second, .val (.int p5), .val (.long n), .second, .val (.long lim), .second, .val (.ref b), .val (.int (1 : Int32)), .val (.int (0 : Int32)), .val (.long f), .second, .val (.long g), .second, .val (.long ((lim - f) - g)), .second, .val (.int (1 : Int32)), .unset, .unset, .unset, .unset] [(.long ((lim - f) - g)), (.ref b)])
  refine own_go (fun _ k => XS.lconst Xz21.here hx rfl (hb hby at_129) k) ?_
  show own_Go _ _ _ _ Tz21 (mkF m 130 #[.val (.long q1), .second, .val (.long q2), .second, .val (.long q3), .second, .val (.long q4), .second, .val (.int p5), .val (.long n), .second, .val (.long lim), .second, .val (.ref b), .val (.int (1 : Int32)), .val (.int (0 : Int32)), .val (.long f), .second, .val (.long g), .second, .val (.long ((lim - f) - g)), .second, .val (.int (1 : Int32)), .unset, .unset, .unset, .unset] [(.long (1 : Int64)), (.long ((lim - f) - g)), (.ref b)])
  refine own_go (fun _ k => XS.ladd Xz21.here hx rfl (hb hby at_130) rfl k) ?_
  show own_Go _ _ _ _ Tz21 (mkF m 131 #[.val (.long q1), .second, .val (.long q2), .second, .val (.long q3), .second, .val (.long q4), .second, .val (.int p5), .val (.long n), .second, .val (.long lim), .second, .val (.ref b), .val (.int (1 : Int32)), .val (.int (0 : Int32)), .val (.long f), .second, .val (.long g), .second, .val (.long ((lim - f) - g)), .second, .val (.int (1 : Int32)), .unset, .unset, .unset, .unset] [(.long (((lim - f) - g) + (1 : Int64))), (.ref b)])
  obtain ⟨vz22, Tz22, Lz22, Xz22, hQz22, stz22⟩ := own_callV Xz21 hx hZz19 hoz19 (hw _ (List.mem_of_getElem? (i := 30) rfl)) (hw _ (List.mem_of_getElem? (i := 31) rfl)) (hw _ (List.mem_of_getElem? (i := 33) rfl)) (hw _ (List.mem_of_getElem? (i := 32) rfl)) (hw _ (List.mem_of_getElem? (i := 9) rfl)) (hw _ (List.mem_of_getElem? (i := 34) rfl)) (by decide) ehz21 E_b (own_rm6 l Z a0 hw [] b (((lim - f) - g) + (1 : Int64)) Tz20.heap n0 lim (((0 : Int64) + f) + g) (0 : Int32) (if_pos (by rw [Int64.lt_iff_toInt_lt]; omega)) F_limit_b F_read_b) (W := 0) (by decide) (by decide) (by decide) (by decide) own_pd3 rfl (g := (mkF m 131 #[.val (.long q1), .second, .val (.long q2), .second, .val (.long q3), .second, .val (.long q4), .second, .val (.int p5), .val (.long n), .second, .val (.long lim), .second, .val (.ref b), .val (.int (1 : Int32)), .val (.int (0 : Int32)), .val (.long f), .second, .val (.long g), .second, .val (.long ((lim - f) - g)), .second, .val (.int (1 : Int32)), .unset, .unset, .unset, .unset] [(.long (((lim - f) - g) + (1 : Int64))), (.ref b)])) (argsL := [(.long (((lim - f) - g) + (1 : Int64)))]) (rest := []) rfl (by rw [hml]; rfl) rfl (by show 2 * 0 + _ ≤ _; exact Nat.le_of_eq rfl) (hb hby at_131)
  obtain ⟨rfl, Nz22q, ehz22⟩ := hQz22
  have Nz22 := Fr.app Nz21 Nz22q
  refine own_go stz22 ?_
  show own_Go _ _ _ _ Tz22 (mkF m 134 #[.val (.long q1), .second, .val (.long q2), .second, .val (.long q3), .second, .val (.long q4), .second, .val (.int p5), .val (.long n), .second, .val (.long lim), .second, .val (.ref b), .val (.int (1 : Int32)), .val (.int (0 : Int32)), .val (.long f), .second, .val (.long g), .second, .val (.long ((lim - f) - g)), .second, .val (.int (1 : Int32)), .unset, .unset, .unset, .unset] [(.int (0 : Int32))])
  refine own_go (fun _ k => XS.istore Xz22.here hx rfl (hb hby at_134) rfl (l' := #[.val (.long q1), .second, .val (.long q2), .second, .val (.long q3), .second, .val (.long q4), .second, .val (.int p5), .val (.long n), .second, .val (.long lim), .second, .val (.ref b), .val (.int (1 : Int32)), .val (.int (0 : Int32)), .val (.long f), .second, .val (.long g), .second, .val (.long ((lim - f) - g)), .second, .val (.int (1 : Int32)), .val (.int (0 : Int32)), .unset, .unset, .unset]) rfl k) ?_
  show own_Go _ _ _ _ Tz22 (mkF m 136 #[.val (.long q1), .second, .val (.long q2), .second, .val (.long q3), .second, .val (.long q4), .second, .val (.int p5), .val (.long n), .second, .val (.long lim), .second, .val (.ref b), .val (.int (1 : Int32)), .val (.int (0 : Int32)), .val (.long f), .second, .val (.long g), .second, .val (.long ((lim - f) - g)), .second, .val (.int (1 : Int32)), .val (.int (0 : Int32)), .unset, .unset, .unset] [])
  refine own_go (fun _ k => XS.aload Xz22.here hx rfl (hb hby at_136) rfl rfl k) ?_
  show own_Go _ _ _ _ Tz22 (mkF m 138 #[.val (.long q1), .second, .val (.long q2), .second, .val (.long q3), .second, .val (.long q4), .second, .val (.int p5), .val (.long n), .second, .val (.long lim), .second, .val (.ref b), .val (.int (1 : Int32)), .val (.int (0 : Int32)), .val (.long f), .second, .val (.long g), .second, .val (.long ((lim - f) - g)), .second, .val (.int (1 : Int32)), .val (.int (0 : Int32)), .unset, .unset, .unset] [(.ref b)])
  refine own_go (fun _ k => XS.lload Xz22.here hx rfl (hb hby at_138) rfl k) ?_
  show own_Go _ _ _ _ Tz22 (mkF m 140 #[.val (.long q1), .second, .val (.long q2), .second, .val (.long q3), .second, .val (.long q4), .second, .val (.int p5), .val (.long n), .second, .val (.long lim), .second, .val (.ref b), .val (.int (1 : Int32)), .val (.int (0 : Int32)), .val (.long f), .second, .val (.long g), .second, .val (.long ((lim - f) - g)), .second, .val (.int (1 : Int32)), .val (.int (0 : Int32)), .unset, .unset, .unset] [(.long q4), (.ref b)])
  obtain ⟨vz23, Tz23, Lz23, Xz23, hQz23, stz23⟩ := own_callV Xz22 hx hZz19 hoz19 (hw _ (List.mem_of_getElem? (i := 30) rfl)) (hw _ (List.mem_of_getElem? (i := 31) rfl)) (hw _ (List.mem_of_getElem? (i := 33) rfl)) (hw _ (List.mem_of_getElem? (i := 32) rfl)) (hw _ (List.mem_of_getElem? (i := 9) rfl)) (hw _ (List.mem_of_getElem? (i := 34) rfl)) (by decide) ehz22 E_b (own_rm6 l Z a0 hw [] b q4 Tz20.heap n0 lim (((0 : Int64) + f) + g) (if ((lim - f) - g) < q4 then (0 : Int32) else 1) (by rw [show lim - (((0 : Int64) + f) + g) = ((lim - f) - g) from Int64.toInt_inj.mp (by omega)]) F_limit_b F_read_b) (W := 0) (by decide) (by decide) (by decide) (by decide) own_pd3 rfl (g := (mkF m 140 #[.val (.long q1), .second, .val (.long q2), .second, .val (.long q3), .second, .val (.long q4), .second, .val (.int p5), .val (.long n), .second, .val (.long lim), .second, .val (.ref b), .val (.int (1 : Int32)), .val (.int (0 : Int32)), .val (.long f), .second, .val (.long g), .second, .val (.long ((lim - f) - g)), .second, .val (.int (1 : Int32)), .val (.int (0 : Int32)), .unset, .unset, .unset] [(.long q4), (.ref b)])) (argsL := [(.long q4)]) (rest := []) rfl (by rw [hml]; rfl) rfl (by show 2 * 0 + _ ≤ _; exact Nat.le_of_eq rfl) (hb hby at_140)
  obtain ⟨rfl, Nz23q, ehz23⟩ := hQz23
  have Nz23 := Fr.app Nz22 Nz23q
  refine own_go stz23 ?_
  show own_Go _ _ _ _ Tz23 (mkF m 143 #[.val (.long q1), .second, .val (.long q2), .second, .val (.long q3), .second, .val (.long q4), .second, .val (.int p5), .val (.long n), .second, .val (.long lim), .second, .val (.ref b), .val (.int (1 : Int32)), .val (.int (0 : Int32)), .val (.long f), .second, .val (.long g), .second, .val (.long ((lim - f) - g)), .second, .val (.int (1 : Int32)), .val (.int (0 : Int32)), .unset, .unset, .unset] [(.int (if ((lim - f) - g) < q4 then (0 : Int32) else 1))])
  refine own_go (fun _ k => XS.istore Xz23.here hx rfl (hb hby at_143) rfl (l' := #[.val (.long q1), .second, .val (.long q2), .second, .val (.long q3), .second, .val (.long q4), .second, .val (.int p5), .val (.long n), .second, .val (.long lim), .second, .val (.ref b), .val (.int (1 : Int32)), .val (.int (0 : Int32)), .val (.long f), .second, .val (.long g), .second, .val (.long ((lim - f) - g)), .second, .val (.int (1 : Int32)), .val (.int (0 : Int32)), .val (.int (if ((lim - f) - g) < q4 then (0 : Int32) else 1)), .unset, .unset]) rfl k) ?_
  show own_Go _ _ _ _ Tz23 (mkF m 145 #[.val (.long q1), .second, .val (.long q2), .second, .val (.long q3), .second, .val (.long q4), .second, .val (.int p5), .val (.long n), .second, .val (.long lim), .second, .val (.ref b), .val (.int (1 : Int32)), .val (.int (0 : Int32)), .val (.long f), .second, .val (.long g), .second, .val (.long ((lim - f) - g)), .second, .val (.int (1 : Int32)), .val (.int (0 : Int32)), .val (.int (if ((lim - f) - g) < q4 then (0 : Int32) else 1)), .unset, .unset] [])
  refine own_go (fun _ k => XS.aload Xz23.here hx rfl (hb hby at_145) rfl rfl k) ?_
  show own_Go _ _ _ _ Tz23 (mkF m 147 #[.val (.long q1), .second, .val (.long q2), .second, .val (.long q3), .second, .val (.long q4), .second, .val (.int p5), .val (.long n), .second, .val (.long lim), .second, .val (.ref b), .val (.int (1 : Int32)), .val (.int (0 : Int32)), .val (.long f), .second, .val (.long g), .second, .val (.long ((lim - f) - g)), .second, .val (.int (1 : Int32)), .val (.int (0 : Int32)), .val (.int (if ((lim - f) - g) < q4 then (0 : Int32) else 1)), .unset, .unset] [(.ref b)])
  refine own_go (fun _ k => XS.lload Xz23.here hx rfl (hb hby at_147) rfl k) ?_
  show own_Go _ _ _ _ Tz23 (mkF m 149 #[.val (.long q1), .second, .val (.long q2), .second, .val (.long q3), .second, .val (.long q4), .second, .val (.int p5), .val (.long n), .second, .val (.long lim), .second, .val (.ref b), .val (.int (1 : Int32)), .val (.int (0 : Int32)), .val (.long f), .second, .val (.long g), .second, .val (.long ((lim - f) - g)), .second, .val (.int (1 : Int32)), .val (.int (0 : Int32)), .val (.int (if ((lim - f) - g) < q4 then (0 : Int32) else 1)), .unset, .unset] [(.long q4), (.ref b)])
  obtain ⟨vz24, Tz24, Lz24, Xz24, hQz24, stz24⟩ := own_callV Xz23 hx hZz19 hoz19 (hw _ (List.mem_of_getElem? (i := 30) rfl)) (hw _ (List.mem_of_getElem? (i := 31) rfl)) (hw _ (List.mem_of_getElem? (i := 33) rfl)) (hw _ (List.mem_of_getElem? (i := 32) rfl)) (hw _ (List.mem_of_getElem? (i := 9) rfl)) (hw _ (List.mem_of_getElem? (i := 34) rfl)) (by decide) ehz23 E_b (own_rm6 l Z a0 hw [] b q4 Tz20.heap n0 lim (((0 : Int64) + f) + g) (if ((lim - f) - g) < q4 then (0 : Int32) else 1) (by rw [show lim - (((0 : Int64) + f) + g) = ((lim - f) - g) from Int64.toInt_inj.mp (by omega)]) F_limit_b F_read_b) (W := 0) (by decide) (by decide) (by decide) (by decide) own_pd3 rfl (g := (mkF m 149 #[.val (.long q1), .second, .val (.long q2), .second, .val (.long q3), .second, .val (.long q4), .second, .val (.int p5), .val (.long n), .second, .val (.long lim), .second, .val (.ref b), .val (.int (1 : Int32)), .val (.int (0 : Int32)), .val (.long f), .second, .val (.long g), .second, .val (.long ((lim - f) - g)), .second, .val (.int (1 : Int32)), .val (.int (0 : Int32)), .val (.int (if ((lim - f) - g) < q4 then (0 : Int32) else 1)), .unset, .unset] [(.long q4), (.ref b)])) (argsL := [(.long q4)]) (rest := []) rfl (by rw [hml]; rfl) rfl (by show 2 * 0 + _ ≤ _; exact Nat.le_of_eq rfl) (hb hby at_149)
  obtain ⟨rfl, Nz24q, ehz24⟩ := hQz24
  have Nz24 := Fr.app Nz23 Nz24q
  refine own_go stz24 ?_
  show own_Go _ _ _ _ Tz24 (mkF m 152 #[.val (.long q1), .second, .val (.long q2), .second, .val (.long q3), .second, .val (.long q4), .second, .val (.int p5), .val (.long n), .second, .val (.long lim), .second, .val (.ref b), .val (.int (1 : Int32)), .val (.int (0 : Int32)), .val (.long f), .second, .val (.long g), .second, .val (.long ((lim - f) - g)), .second, .val (.int (1 : Int32)), .val (.int (0 : Int32)), .val (.int (if ((lim - f) - g) < q4 then (0 : Int32) else 1)), .unset, .unset] [(.int (if ((lim - f) - g) < q4 then (0 : Int32) else 1))])
  refine own_go (fun _ k => XS.istore Xz24.here hx rfl (hb hby at_152) rfl (l' := #[.val (.long q1), .second, .val (.long q2), .second, .val (.long q3), .second, .val (.long q4), .second, .val (.int p5), .val (.long n), .second, .val (.long lim), .second, .val (.ref b), .val (.int (1 : Int32)), .val (.int (0 : Int32)), .val (.long f), .second, .val (.long g), .second, .val (.long ((lim - f) - g)), .second, .val (.int (1 : Int32)), .val (.int (0 : Int32)), .val (.int (if ((lim - f) - g) < q4 then (0 : Int32) else 1)), .val (.int (if ((lim - f) - g) < q4 then (0 : Int32) else 1)), .unset]) rfl k) ?_
  show own_Go _ _ _ _ Tz24 (mkF m 154 #[.val (.long q1), .second, .val (.long q2), .second, .val (.long q3), .second, .val (.long q4), .second, .val (.int p5), .val (.long n), .second, .val (.long lim), .second, .val (.ref b), .val (.int (1 : Int32)), .val (.int (0 : Int32)), .val (.long f), .second, .val (.long g), .second, .val (.long ((lim - f) - g)), .second, .val (.int (1 : Int32)), .val (.int (0 : Int32)), .val (.int (if ((lim - f) - g) < q4 then (0 : Int32) else 1)), .val (.int (if ((lim - f) - g) < q4 then (0 : Int32) else 1)), .unset] [])
  refine own_go (fun _ k => XS.lload Xz24.here hx rfl (hb hby at_154) rfl k) ?_
  show own_Go _ _ _ _ Tz24 (mkF m 156 #[.val (.long q1), .second, .val (.long q2), .second, .val (.long q3), .second, .val (.long q4), .second, .val (.int p5), .val (.long n), .second, .val (.long lim), .second, .val (.ref b), .val (.int (1 : Int32)), .val (.int (0 : Int32)), .val (.long f), .second, .val (.long g), .second, .val (.long ((lim - f) - g)), .second, .val (.int (1 : Int32)), .val (.int (0 : Int32)), .val (.int (if ((lim - f) - g) < q4 then (0 : Int32) else 1)), .val (.int (if ((lim - f) - g) < q4 then (0 : Int32) else 1)), .unset] [(.long q4)])
  refine own_go (fun _ k => XS.lload Xz24.here hx rfl (hb hby at_156) rfl k) ?_
  show own_Go _ _ _ _ Tz24 (mkF m 158 #[.val (.long q1), .second, .val (.long q2), .second, .val (.long q3), .second, .val (.long q4), .second, .val (.int p5), .val (.long n), .second, .val (.long lim), .second, .val (.ref b), .val (.int (1 : Int32)), .val (.int (0 : Int32)), .val (.long f), .second, .val (.long g), .second, .val (.long ((lim - f) - g)), .second, .val (.int (1 : Int32)), .val (.int (0 : Int32)), .val (.int (if ((lim - f) - g) < q4 then (0 : Int32) else 1)), .val (.int (if ((lim - f) - g) < q4 then (0 : Int32) else 1)), .unset] [(.long ((lim - f) - g)), (.long q4)])
  refine own_go (fun _ k => XS.lcmp Xz24.here hx rfl (hb hby at_158) rfl k) ?_
  show own_Go _ _ _ _ Tz24 (mkF m 159 #[.val (.long q1), .second, .val (.long q2), .second, .val (.long q3), .second, .val (.long q4), .second, .val (.int p5), .val (.long n), .second, .val (.long lim), .second, .val (.ref b), .val (.int (1 : Int32)), .val (.int (0 : Int32)), .val (.long f), .second, .val (.long g), .second, .val (.long ((lim - f) - g)), .second, .val (.int (1 : Int32)), .val (.int (0 : Int32)), .val (.int (if ((lim - f) - g) < q4 then (0 : Int32) else 1)), .val (.int (if ((lim - f) - g) < q4 then (0 : Int32) else 1)), .unset] [(.int (lcmpW q4 ((lim - f) - g)))])
  refine own_dia (α := Int32) (C := (0 : Int32) < (lcmpW q4 ((lim - f) - g))) (v1 := (0 : Int32)) (v0 := (1 : Int32)) (f := fun v => (mkF m 167 #[.val (.long q1), .second, .val (.long q2), .second, .val (.long q3), .second, .val (.long q4), .second, .val (.int p5), .val (.long n), .second, .val (.long lim), .second, .val (.ref b), .val (.int (1 : Int32)), .val (.int (0 : Int32)), .val (.long f), .second, .val (.long g), .second, .val (.long ((lim - f) - g)), .second, .val (.int (1 : Int32)), .val (.int (0 : Int32)), .val (.int (if ((lim - f) - g) < q4 then (0 : Int32) else 1)), .val (.int (if ((lim - f) - g) < q4 then (0 : Int32) else 1)), .unset] ((.int v) :: []))) (T' := Tz24) (fun hC k => ?_) (fun hC k => ?_) ?_
  · show own_Go _ _ _ _ Tz24 (mkF m 159 #[.val (.long q1), .second, .val (.long q2), .second, .val (.long q3), .second, .val (.long q4), .second, .val (.int p5), .val (.long n), .second, .val (.long lim), .second, .val (.ref b), .val (.int (1 : Int32)), .val (.int (0 : Int32)), .val (.long f), .second, .val (.long g), .second, .val (.long ((lim - f) - g)), .second, .val (.int (1 : Int32)), .val (.int (0 : Int32)), .val (.int (if ((lim - f) - g) < q4 then (0 : Int32) else 1)), .val (.int (if ((lim - f) - g) < q4 then (0 : Int32) else 1)), .unset] [(.int (lcmpW q4 ((lim - f) - g)))])
    refine own_go (fun _ k => XS.ifYes Xz24.here hx rfl (pc0 := 159) (pc' := 166) rfl (hb hby at_159) rfl ((if0 _ _).trans (tlt hC).2.2.1) (by decide) (by decide) k) ?_
    show own_Go _ _ _ _ Tz24 (mkF m 166 #[.val (.long q1), .second, .val (.long q2), .second, .val (.long q3), .second, .val (.long q4), .second, .val (.int p5), .val (.long n), .second, .val (.long lim), .second, .val (.ref b), .val (.int (1 : Int32)), .val (.int (0 : Int32)), .val (.long f), .second, .val (.long g), .second, .val (.long ((lim - f) - g)), .second, .val (.int (1 : Int32)), .val (.int (0 : Int32)), .val (.int (if ((lim - f) - g) < q4 then (0 : Int32) else 1)), .val (.int (if ((lim - f) - g) < q4 then (0 : Int32) else 1)), .unset] [])
    refine own_go (fun _ k => XS.iconst Xz24.here hx rfl (hb hby at_166) k) ?_
    show own_Go _ _ _ _ Tz24 (mkF m 167 #[.val (.long q1), .second, .val (.long q2), .second, .val (.long q3), .second, .val (.long q4), .second, .val (.int p5), .val (.long n), .second, .val (.long lim), .second, .val (.ref b), .val (.int (1 : Int32)), .val (.int (0 : Int32)), .val (.long f), .second, .val (.long g), .second, .val (.long ((lim - f) - g)), .second, .val (.int (1 : Int32)), .val (.int (0 : Int32)), .val (.int (if ((lim - f) - g) < q4 then (0 : Int32) else 1)), .val (.int (if ((lim - f) - g) < q4 then (0 : Int32) else 1)), .unset] [(.int (0 : Int32))])
    exact k
  · show own_Go _ _ _ _ Tz24 (mkF m 159 #[.val (.long q1), .second, .val (.long q2), .second, .val (.long q3), .second, .val (.long q4), .second, .val (.int p5), .val (.long n), .second, .val (.long lim), .second, .val (.ref b), .val (.int (1 : Int32)), .val (.int (0 : Int32)), .val (.long f), .second, .val (.long g), .second, .val (.long ((lim - f) - g)), .second, .val (.int (1 : Int32)), .val (.int (0 : Int32)), .val (.int (if ((lim - f) - g) < q4 then (0 : Int32) else 1)), .val (.int (if ((lim - f) - g) < q4 then (0 : Int32) else 1)), .unset] [(.int (lcmpW q4 ((lim - f) - g)))])
    refine own_go (fun _ k => XS.ifNo Xz24.here hx rfl (hb hby at_159) rfl ((if0 _ _).trans (flt hC).2.2.1) k) ?_
    show own_Go _ _ _ _ Tz24 (mkF m 162 #[.val (.long q1), .second, .val (.long q2), .second, .val (.long q3), .second, .val (.long q4), .second, .val (.int p5), .val (.long n), .second, .val (.long lim), .second, .val (.ref b), .val (.int (1 : Int32)), .val (.int (0 : Int32)), .val (.long f), .second, .val (.long g), .second, .val (.long ((lim - f) - g)), .second, .val (.int (1 : Int32)), .val (.int (0 : Int32)), .val (.int (if ((lim - f) - g) < q4 then (0 : Int32) else 1)), .val (.int (if ((lim - f) - g) < q4 then (0 : Int32) else 1)), .unset] [])
    refine own_go (fun _ k => XS.iconst Xz24.here hx rfl (hb hby at_162) k) ?_
    show own_Go _ _ _ _ Tz24 (mkF m 163 #[.val (.long q1), .second, .val (.long q2), .second, .val (.long q3), .second, .val (.long q4), .second, .val (.int p5), .val (.long n), .second, .val (.long lim), .second, .val (.ref b), .val (.int (1 : Int32)), .val (.int (0 : Int32)), .val (.long f), .second, .val (.long g), .second, .val (.long ((lim - f) - g)), .second, .val (.int (1 : Int32)), .val (.int (0 : Int32)), .val (.int (if ((lim - f) - g) < q4 then (0 : Int32) else 1)), .val (.int (if ((lim - f) - g) < q4 then (0 : Int32) else 1)), .unset] [(.int (1 : Int32))])
    refine own_go (fun _ k => XS.goto Xz24.here hx rfl (pc0 := 163) (pc' := 167) rfl (hb hby at_163) (by decide) (by decide) k) ?_
    show own_Go _ _ _ _ Tz24 (mkF m 167 #[.val (.long q1), .second, .val (.long q2), .second, .val (.long q3), .second, .val (.long q4), .second, .val (.int p5), .val (.long n), .second, .val (.long lim), .second, .val (.ref b), .val (.int (1 : Int32)), .val (.int (0 : Int32)), .val (.long f), .second, .val (.long g), .second, .val (.long ((lim - f) - g)), .second, .val (.int (1 : Int32)), .val (.int (0 : Int32)), .val (.int (if ((lim - f) - g) < q4 then (0 : Int32) else 1)), .val (.int (if ((lim - f) - g) < q4 then (0 : Int32) else 1)), .unset] [(.int (1 : Int32))])
    exact k
  show own_Go _ _ _ _ Tz24 (mkF m 167 #[.val (.long q1), .second, .val (.long q2), .second, .val (.long q3), .second, .val (.long q4), .second, .val (.int p5), .val (.long n), .second, .val (.long lim), .second, .val (.ref b), .val (.int (1 : Int32)), .val (.int (0 : Int32)), .val (.long f), .second, .val (.long g), .second, .val (.long ((lim - f) - g)), .second, .val (.int (1 : Int32)), .val (.int (0 : Int32)), .val (.int (if ((lim - f) - g) < q4 then (0 : Int32) else 1)), .val (.int (if ((lim - f) - g) < q4 then (0 : Int32) else 1)), .unset] [(.int (if (0 : Int32) < (lcmpW q4 ((lim - f) - g)) then (0 : Int32) else (1 : Int32)))])
  refine own_go (fun _ k => XS.istore Xz24.here hx rfl (hb hby at_167) rfl (l' := #[.val (.long q1), .second, .val (.long q2), .second, .val (.long q3), .second, .val (.long q4), .second, .val (.int p5), .val (.long n), .second, .val (.long lim), .second, .val (.ref b), .val (.int (1 : Int32)), .val (.int (0 : Int32)), .val (.long f), .second, .val (.long g), .second, .val (.long ((lim - f) - g)), .second, .val (.int (1 : Int32)), .val (.int (0 : Int32)), .val (.int (if ((lim - f) - g) < q4 then (0 : Int32) else 1)), .val (.int (if ((lim - f) - g) < q4 then (0 : Int32) else 1)), .val (.int (if (0 : Int32) < (lcmpW q4 ((lim - f) - g)) then (0 : Int32) else (1 : Int32)))]) rfl k) ?_
  show own_Go _ _ _ _ Tz24 (mkF m 169 #[.val (.long q1), .second, .val (.long q2), .second, .val (.long q3), .second, .val (.long q4), .second, .val (.int p5), .val (.long n), .second, .val (.long lim), .second, .val (.ref b), .val (.int (1 : Int32)), .val (.int (0 : Int32)), .val (.long f), .second, .val (.long g), .second, .val (.long ((lim - f) - g)), .second, .val (.int (1 : Int32)), .val (.int (0 : Int32)), .val (.int (if ((lim - f) - g) < q4 then (0 : Int32) else 1)), .val (.int (if ((lim - f) - g) < q4 then (0 : Int32) else 1)), .val (.int (if (0 : Int32) < (lcmpW q4 ((lim - f) - g)) then (0 : Int32) else (1 : Int32)))] [])
  refine own_go (fun _ k => XS.iload Xz24.here hx rfl (hb hby at_169) rfl k) ?_
  show own_Go _ _ _ _ Tz24 (mkF m 171 #[.val (.long q1), .second, .val (.long q2), .second, .val (.long q3), .second, .val (.long q4), .second, .val (.int p5), .val (.long n), .second, .val (.long lim), .second, .val (.ref b), .val (.int (1 : Int32)), .val (.int (0 : Int32)), .val (.long f), .second, .val (.long g), .second, .val (.long ((lim - f) - g)), .second, .val (.int (1 : Int32)), .val (.int (0 : Int32)), .val (.int (if ((lim - f) - g) < q4 then (0 : Int32) else 1)), .val (.int (if ((lim - f) - g) < q4 then (0 : Int32) else 1)), .val (.int (if (0 : Int32) < (lcmpW q4 ((lim - f) - g)) then (0 : Int32) else (1 : Int32)))] [(.int (1 : Int32))])
  refine own_go (fun _ k => XS.ifNo Xz24.here hx rfl (hb hby at_171) rfl ((if0 _ _).trans (feq (by decide : ¬ ((1 : Int32) = (0 : Int32)))).1) k) ?_
  show own_Go _ _ _ _ Tz24 (mkF m 174 #[.val (.long q1), .second, .val (.long q2), .second, .val (.long q3), .second, .val (.long q4), .second, .val (.int p5), .val (.long n), .second, .val (.long lim), .second, .val (.ref b), .val (.int (1 : Int32)), .val (.int (0 : Int32)), .val (.long f), .second, .val (.long g), .second, .val (.long ((lim - f) - g)), .second, .val (.int (1 : Int32)), .val (.int (0 : Int32)), .val (.int (if ((lim - f) - g) < q4 then (0 : Int32) else 1)), .val (.int (if ((lim - f) - g) < q4 then (0 : Int32) else 1)), .val (.int (if (0 : Int32) < (lcmpW q4 ((lim - f) - g)) then (0 : Int32) else (1 : Int32)))] [])
  refine own_go (fun _ k => XS.iload Xz24.here hx rfl (hb hby at_174) rfl k) ?_
  show own_Go _ _ _ _ Tz24 (mkF m 176 #[.val (.long q1), .second, .val (.long q2), .second, .val (.long q3), .second, .val (.long q4), .second, .val (.int p5), .val (.long n), .second, .val (.long lim), .second, .val (.ref b), .val (.int (1 : Int32)), .val (.int (0 : Int32)), .val (.long f), .second, .val (.long g), .second, .val (.long ((lim - f) - g)), .second, .val (.int (1 : Int32)), .val (.int (0 : Int32)), .val (.int (if ((lim - f) - g) < q4 then (0 : Int32) else 1)), .val (.int (if ((lim - f) - g) < q4 then (0 : Int32) else 1)), .val (.int (if (0 : Int32) < (lcmpW q4 ((lim - f) - g)) then (0 : Int32) else (1 : Int32)))] [(.int (0 : Int32))])
  refine own_go (fun _ k => XS.ifNo Xz24.here hx rfl (hb hby at_176) rfl ((if0 _ _).trans (teq (by decide : (0 : Int32) = (0 : Int32))).2) k) ?_
  show own_Go _ _ _ _ Tz24 (mkF m 179 #[.val (.long q1), .second, .val (.long q2), .second, .val (.long q3), .second, .val (.long q4), .second, .val (.int p5), .val (.long n), .second, .val (.long lim), .second, .val (.ref b), .val (.int (1 : Int32)), .val (.int (0 : Int32)), .val (.long f), .second, .val (.long g), .second, .val (.long ((lim - f) - g)), .second, .val (.int (1 : Int32)), .val (.int (0 : Int32)), .val (.int (if ((lim - f) - g) < q4 then (0 : Int32) else 1)), .val (.int (if ((lim - f) - g) < q4 then (0 : Int32) else 1)), .val (.int (if (0 : Int32) < (lcmpW q4 ((lim - f) - g)) then (0 : Int32) else (1 : Int32)))] [])
  refine own_go (fun _ k => XS.iload Xz24.here hx rfl (hb hby at_179) rfl k) ?_
  show own_Go _ _ _ _ Tz24 (mkF m 181 #[.val (.long q1), .second, .val (.long q2), .second, .val (.long q3), .second, .val (.long q4), .second, .val (.int p5), .val (.long n), .second, .val (.long lim), .second, .val (.ref b), .val (.int (1 : Int32)), .val (.int (0 : Int32)), .val (.long f), .second, .val (.long g), .second, .val (.long ((lim - f) - g)), .second, .val (.int (1 : Int32)), .val (.int (0 : Int32)), .val (.int (if ((lim - f) - g) < q4 then (0 : Int32) else 1)), .val (.int (if ((lim - f) - g) < q4 then (0 : Int32) else 1)), .val (.int (if (0 : Int32) < (lcmpW q4 ((lim - f) - g)) then (0 : Int32) else (1 : Int32)))] [(.int (1 : Int32))])
  refine own_go (fun _ k => XS.ifNo Xz24.here hx rfl (hb hby at_181) rfl ((if0 _ _).trans (feq (by decide : ¬ ((1 : Int32) = (0 : Int32)))).1) k) ?_
  show own_Go _ _ _ _ Tz24 (mkF m 184 #[.val (.long q1), .second, .val (.long q2), .second, .val (.long q3), .second, .val (.long q4), .second, .val (.int p5), .val (.long n), .second, .val (.long lim), .second, .val (.ref b), .val (.int (1 : Int32)), .val (.int (0 : Int32)), .val (.long f), .second, .val (.long g), .second, .val (.long ((lim - f) - g)), .second, .val (.int (1 : Int32)), .val (.int (0 : Int32)), .val (.int (if ((lim - f) - g) < q4 then (0 : Int32) else 1)), .val (.int (if ((lim - f) - g) < q4 then (0 : Int32) else 1)), .val (.int (if (0 : Int32) < (lcmpW q4 ((lim - f) - g)) then (0 : Int32) else (1 : Int32)))] [])
  refine own_go (fun _ k => XS.iload Xz24.here hx rfl (hb hby at_184) rfl k) ?_
  show own_Go _ _ _ _ Tz24 (mkF m 186 #[.val (.long q1), .second, .val (.long q2), .second, .val (.long q3), .second, .val (.long q4), .second, .val (.int p5), .val (.long n), .second, .val (.long lim), .second, .val (.ref b), .val (.int (1 : Int32)), .val (.int (0 : Int32)), .val (.long f), .second, .val (.long g), .second, .val (.long ((lim - f) - g)), .second, .val (.int (1 : Int32)), .val (.int (0 : Int32)), .val (.int (if ((lim - f) - g) < q4 then (0 : Int32) else 1)), .val (.int (if ((lim - f) - g) < q4 then (0 : Int32) else 1)), .val (.int (if (0 : Int32) < (lcmpW q4 ((lim - f) - g)) then (0 : Int32) else (1 : Int32)))] [(.int (0 : Int32))])
  refine own_go (fun _ k => XS.ifNo Xz24.here hx rfl (hb hby at_186) rfl ((if0 _ _).trans (teq (by decide : (0 : Int32) = (0 : Int32))).2) k) ?_
  show own_Go _ _ _ _ Tz24 (mkF m 189 #[.val (.long q1), .second, .val (.long q2), .second, .val (.long q3), .second, .val (.long q4), .second, .val (.int p5), .val (.long n), .second, .val (.long lim), .second, .val (.ref b), .val (.int (1 : Int32)), .val (.int (0 : Int32)), .val (.long f), .second, .val (.long g), .second, .val (.long ((lim - f) - g)), .second, .val (.int (1 : Int32)), .val (.int (0 : Int32)), .val (.int (if ((lim - f) - g) < q4 then (0 : Int32) else 1)), .val (.int (if ((lim - f) - g) < q4 then (0 : Int32) else 1)), .val (.int (if (0 : Int32) < (lcmpW q4 ((lim - f) - g)) then (0 : Int32) else (1 : Int32)))] [])
  refine own_go (fun _ k => XS.iload Xz24.here hx rfl (hb hby at_189) rfl k) ?_
  show own_Go _ _ _ _ Tz24 (mkF m 191 #[.val (.long q1), .second, .val (.long q2), .second, .val (.long q3), .second, .val (.long q4), .second, .val (.int p5), .val (.long n), .second, .val (.long lim), .second, .val (.ref b), .val (.int (1 : Int32)), .val (.int (0 : Int32)), .val (.long f), .second, .val (.long g), .second, .val (.long ((lim - f) - g)), .second, .val (.int (1 : Int32)), .val (.int (0 : Int32)), .val (.int (if ((lim - f) - g) < q4 then (0 : Int32) else 1)), .val (.int (if ((lim - f) - g) < q4 then (0 : Int32) else 1)), .val (.int (if (0 : Int32) < (lcmpW q4 ((lim - f) - g)) then (0 : Int32) else (1 : Int32)))] [(.int (if ((lim - f) - g) < q4 then (0 : Int32) else 1))])
  refine own_go (fun _ k => XS.iload Xz24.here hx rfl (hb hby at_191) rfl k) ?_
  show own_Go _ _ _ _ Tz24 (mkF m 193 #[.val (.long q1), .second, .val (.long q2), .second, .val (.long q3), .second, .val (.long q4), .second, .val (.int p5), .val (.long n), .second, .val (.long lim), .second, .val (.ref b), .val (.int (1 : Int32)), .val (.int (0 : Int32)), .val (.long f), .second, .val (.long g), .second, .val (.long ((lim - f) - g)), .second, .val (.int (1 : Int32)), .val (.int (0 : Int32)), .val (.int (if ((lim - f) - g) < q4 then (0 : Int32) else 1)), .val (.int (if ((lim - f) - g) < q4 then (0 : Int32) else 1)), .val (.int (if (0 : Int32) < (lcmpW q4 ((lim - f) - g)) then (0 : Int32) else (1 : Int32)))] [(.int (if (0 : Int32) < (lcmpW q4 ((lim - f) - g)) then (0 : Int32) else (1 : Int32))), (.int (if ((lim - f) - g) < q4 then (0 : Int32) else 1))])
  refine own_go (fun _ k => XS.icmpNo Xz24.here hx rfl (hb hby at_193) rfl (teq (own_xx _ _)).2 k) ?_
  show own_Go _ _ _ _ Tz24 (mkF m 196 #[.val (.long q1), .second, .val (.long q2), .second, .val (.long q3), .second, .val (.long q4), .second, .val (.int p5), .val (.long n), .second, .val (.long lim), .second, .val (.ref b), .val (.int (1 : Int32)), .val (.int (0 : Int32)), .val (.long f), .second, .val (.long g), .second, .val (.long ((lim - f) - g)), .second, .val (.int (1 : Int32)), .val (.int (0 : Int32)), .val (.int (if ((lim - f) - g) < q4 then (0 : Int32) else 1)), .val (.int (if ((lim - f) - g) < q4 then (0 : Int32) else 1)), .val (.int (if (0 : Int32) < (lcmpW q4 ((lim - f) - g)) then (0 : Int32) else (1 : Int32)))] [])
  refine own_go (fun _ k => XS.iload Xz24.here hx rfl (hb hby at_196) rfl k) ?_
  show own_Go _ _ _ _ Tz24 (mkF m 198 #[.val (.long q1), .second, .val (.long q2), .second, .val (.long q3), .second, .val (.long q4), .second, .val (.int p5), .val (.long n), .second, .val (.long lim), .second, .val (.ref b), .val (.int (1 : Int32)), .val (.int (0 : Int32)), .val (.long f), .second, .val (.long g), .second, .val (.long ((lim - f) - g)), .second, .val (.int (1 : Int32)), .val (.int (0 : Int32)), .val (.int (if ((lim - f) - g) < q4 then (0 : Int32) else 1)), .val (.int (if ((lim - f) - g) < q4 then (0 : Int32) else 1)), .val (.int (if (0 : Int32) < (lcmpW q4 ((lim - f) - g)) then (0 : Int32) else (1 : Int32)))] [(.int (if ((lim - f) - g) < q4 then (0 : Int32) else 1))])
  refine own_go (fun _ k => XS.iload Xz24.here hx rfl (hb hby at_198) rfl k) ?_
  show own_Go _ _ _ _ Tz24 (mkF m 200 #[.val (.long q1), .second, .val (.long q2), .second, .val (.long q3), .second, .val (.long q4), .second, .val (.int p5), .val (.long n), .second, .val (.long lim), .second, .val (.ref b), .val (.int (1 : Int32)), .val (.int (0 : Int32)), .val (.long f), .second, .val (.long g), .second, .val (.long ((lim - f) - g)), .second, .val (.int (1 : Int32)), .val (.int (0 : Int32)), .val (.int (if ((lim - f) - g) < q4 then (0 : Int32) else 1)), .val (.int (if ((lim - f) - g) < q4 then (0 : Int32) else 1)), .val (.int (if (0 : Int32) < (lcmpW q4 ((lim - f) - g)) then (0 : Int32) else (1 : Int32)))] [(.int (if (0 : Int32) < (lcmpW q4 ((lim - f) - g)) then (0 : Int32) else (1 : Int32))), (.int (if ((lim - f) - g) < q4 then (0 : Int32) else 1))])
  refine own_go (fun _ k => XS.icmpNo Xz24.here hx rfl (hb hby at_200) rfl (teq (own_xx _ _)).2 k) ?_
  show own_Go _ _ _ _ Tz24 (mkF m 203 #[.val (.long q1), .second, .val (.long q2), .second, .val (.long q3), .second, .val (.long q4), .second, .val (.int p5), .val (.long n), .second, .val (.long lim), .second, .val (.ref b), .val (.int (1 : Int32)), .val (.int (0 : Int32)), .val (.long f), .second, .val (.long g), .second, .val (.long ((lim - f) - g)), .second, .val (.int (1 : Int32)), .val (.int (0 : Int32)), .val (.int (if ((lim - f) - g) < q4 then (0 : Int32) else 1)), .val (.int (if ((lim - f) - g) < q4 then (0 : Int32) else 1)), .val (.int (if (0 : Int32) < (lcmpW q4 ((lim - f) - g)) then (0 : Int32) else (1 : Int32)))] [])
  refine own_go (fun _ k => XS.iconst Xz24.here hx rfl (hb hby at_203) k) ?_
  show own_Go _ _ _ _ Tz24 (mkF m 204 #[.val (.long q1), .second, .val (.long q2), .second, .val (.long q3), .second, .val (.long q4), .second, .val (.int p5), .val (.long n), .second, .val (.long lim), .second, .val (.ref b), .val (.int (1 : Int32)), .val (.int (0 : Int32)), .val (.long f), .second, .val (.long g), .second, .val (.long ((lim - f) - g)), .second, .val (.int (1 : Int32)), .val (.int (0 : Int32)), .val (.int (if ((lim - f) - g) < q4 then (0 : Int32) else 1)), .val (.int (if ((lim - f) - g) < q4 then (0 : Int32) else 1)), .val (.int (if (0 : Int32) < (lcmpW q4 ((lim - f) - g)) then (0 : Int32) else (1 : Int32)))] [(.int (1 : Int32))])
  refine own_go (fun _ k => XS.goto Xz24.here hx rfl (pc0 := 204) (pc' := 208) rfl (hb hby at_204) (by decide) (by decide) k) ?_
  show own_Go _ _ _ _ Tz24 (mkF m 208 #[.val (.long q1), .second, .val (.long q2), .second, .val (.long q3), .second, .val (.long q4), .second, .val (.int p5), .val (.long n), .second, .val (.long lim), .second, .val (.ref b), .val (.int (1 : Int32)), .val (.int (0 : Int32)), .val (.long f), .second, .val (.long g), .second, .val (.long ((lim - f) - g)), .second, .val (.int (1 : Int32)), .val (.int (0 : Int32)), .val (.int (if ((lim - f) - g) < q4 then (0 : Int32) else 1)), .val (.int (if ((lim - f) - g) < q4 then (0 : Int32) else 1)), .val (.int (if (0 : Int32) < (lcmpW q4 ((lim - f) - g)) then (0 : Int32) else (1 : Int32)))] [(.int (1 : Int32))])
  exact own_endW Xz24 hSz19 (by rw [ehz24]; exact hj) hlk (v := (some (.int (1 : Int32)))) (fun h => by rw [hret] at h; cases h) (fun fs hr => retN Xz24 hx (t := .boolean) hret (by simp) (hb hby at_208) hr) (by rw [ehz24]; exact ⟨rfl, Nz24⟩) (by decide) (by decide)
set_option maxRecDepth 65536 in
set_option maxHeartbeats 40000000 in
theorem own_comes {Post : Tables → Env → Array Value → State → Outcome → State → Prop} (hpost : ∀ tb e args s v u, (limb_1_1.after args s (.returned v) u = true ∧ limb_1_2.after args s (.returned v) u = true ∧ True) → ReturnedEndW s (.returned v) u (Jvm.fieldLocs frame_1_writes args s ++ Jvm.arrayLocs frame_1_arrays args s ++ Jvm.staticLocs frame_1_statics s) 16 2176 → Post tb e args s (.returned v) u) :
    ArmFor flags0 classFile x code maxLocals ret World_1 tables_1 room_1 Calls_1 rest_1 Pre_1 Post := by
  intro l hfl _ _ p e ha hc hk s m args below hf hA hF happ hP
  obtain ⟨hcalls, hrest, hpre⟩ := hP
  obtain ⟨-, -, -, hnamed, -, -, -, hat⟩ := (Spec.applies_iff hf).mp happ
  obtain ⟨hg, hn⟩ := and_e (Cond.before_iff.mp (show (Jvm.Cond.and given_1 narrow_1).before args s = true from hpre))
  obtain ⟨g1, g2⟩ := and_e hg
  obtain ⟨g3, g4⟩ := and_e g2
  obtain ⟨g5, g6⟩ := and_e g4
  obtain ⟨g7, g8⟩ := and_e g6
  obtain ⟨g9, g10⟩ := and_e g8
  obtain ⟨w0, w1, w2, w3, w4, rfl⟩ : ∃ w0 w1 w2 w3 w4 : Value, args = #[w0, w1, w2, w3, w4] := by
    have hs : args.size = 5 := by simpa [Cond.value, given_1] using g1
    obtain ⟨L⟩ := args
    match L, hs with
    | [w0, w1, w2, w3, w4], _ => exact ⟨w0, w1, w2, w3, w4, rfl⟩
  have hw := fun d (hd : d ∈ tables_1) => atoms_spec (ws := Jvm.Cond.code x code maxLocals ret :: tables_1) hat d (List.mem_cons_of_mem _ hd)
  have hfit : Fit s := fun {y c} hc i hi => by
    obtain ⟨ha, rfl⟩ := Array.getElem?_eq_some_iff.mp hc
    have q := List.all_eq_true.mp ((Array.all_eq_true_iff_forall_mem.mp hF) _ (Array.getElem_mem ha)) i (List.mem_range.mpr hi)
    simpa [Array.getElem?_eq_getElem hi] using q
  obtain ⟨i0, ei0⟩ := isL_v g3
  obtain rfl : w0 = (.long i0) := Option.some.inj ei0
  obtain ⟨i1, ei1⟩ := isL_v g5
  obtain rfl : w1 = (.long i1) := Option.some.inj ei1
  obtain ⟨i2, ei2⟩ := isL_v g7
  obtain rfl : w2 = (.long i2) := Option.some.inj ei2
  obtain ⟨i3, ei3⟩ := isL_v g9
  obtain rfl : w3 = (.long i3) := Option.some.inj ei3
  obtain ⟨i4, ei4⟩ := is_v g10
  obtain rfl : w4 = (.int i4) := Option.some.inj ei4
  obtain ⟨n, o, h1, h2, h3, _, L, rfl, ⟨rfl, N⟩, hq⟩ := own_rm0 l s _ hw tables_1 i0 i1 i2 i3 i4 s.heap s.heap.size (Old.start s) p e ha hc hk s m _ below hf ((Spec.applies_iff_loose hf).mp happ).1 ⟨rfl, State.Warmed39.refl s, rfl⟩ trivial
  refine ⟨n, _, h1, h2, h3, hpost _ _ _ _ _ _ ⟨Cond.after_iff.mpr rfl, Cond.after_iff.mpr (eq_i res_at (Term.int_eval (1)) rfl), trivial⟩ ⟨hq.1, hq.2.1, hq.2.2.1, (hq.2.2.2.sift fun y hy => Or.inr (N y hy)).mono (by decide) (by decide)⟩⟩
theorem main_1_1 : Claimed_1_1 := own_comes fun _ _ _ _ _ _ h hF => ⟨h.1, hF⟩
theorem main_1_2 : Claimed_1_2 := own_comes fun _ _ _ _ _ _ h hF => ⟨h.2.1, hF⟩
end Jvm.Pilot.@@N@@
namespace Jvm.Pilot.@@N@@
open Jvm Jvm.ClassFile Sem Op Lib Jvm.Free Jvm.Stand Jvm.Pilot.@@N@@.Jvm.D
/-! MADE BY PROGRAM (witnessworld.py) out of the Statement's table words and the real class files: 15 classes; the members and pool entries that the words name. The judged class is class 1, her method 2. -/
namespace start1
open Jvm.ClassFile
def u (s : String) : CpInfo := .utf8 (stringToUtf16 s)
/-- a pool by its gaps: so many unusable entries, then the entry; so many at the end -/
def gap : Nat → List CpInfo → List CpInfo
  | 0, r => r
  | n + 1, r => .unusable :: gap n r
def poolList (es : List (Nat × CpInfo)) (last : Nat) : List CpInfo := es.foldr (fun e r => gap e.1 (e.2 :: r)) (gap last [])
def pool (es : List (Nat × CpInfo)) (last : Nat) : Array CpInfo := ⟨poolList es last⟩
def fileOf (pool : Array CpInfo) (this : Nat) (attrs : Array Attribute := #[]) (ms : Array MethodInfo := #[]) (fl : Nat := 33) (sup : Nat := 0) (ifs : Array Nat := #[]) (fds : Array FieldInfo := #[]) : ClassFile where
  minorVersion := 0
  majorVersion := 65
  constantPool := pool
  accessFlags := fl
  thisClass := this
  superClass := sup
  interfaces := ifs
  fields := fds
  methods := ms
  attributes := attrs
def plain (name : String) (sup : Option ClassId) : Class where
  name := name
  kind := .ordinary
  loader := none
  accessFlags := 33
  super := sup
  interfaces := #[]
  cf := none
  fields := #[]
  methods := #[]
  instanceTypes := #[]
  staticTypes := #[]
  resolved := #[]
  callSites := []
  init := .initialized
  statics := none
  mirror := none

def pool0 : Array CpInfo := pool [(5, u "<init>"), (0, u "()V"), (1, .class_ 10), (1, u "java/lang/Object")] 113

def k0c0 : Code := { maxStack := 0, maxLocals := 1, code := object_method_1_code, exceptionTable := #[], attributes := #[] }
def k0m0 : Method := { name := "<init>", desc := "()V", sig := { parameters := [], returnType := none }, accessFlags := 1, code := some k0c0 }
/-- java/lang/Object -/
def k0 : Class := { plain "java/lang/Object" none with
  accessFlags := 33
  interfaces := #[]
  cf := some (fileOf pool0 8 #[] #[{ accessFlags := 1, nameIndex := 5, descriptorIndex := 6, attributes := #[] }] 33 0 #[] #[])
  fields := #[]
  methods := #[k0m0]
  instanceTypes := #[]
  staticTypes := #[]
  resolved := Array.replicate 124 none
  statics := none }

def pool1 : Array CpInfo := pool [(2, .class_ 4), (1, u "java/lang/Object"), (0, u "<init>"), (0, u "()V"), (0, .long 4194304), (1, .long 134217728), (1, .long 12582912), (1, .long 402653184), (1, .long 32), (1, .long 288230376151711743), (1, .long 16777215), (1, .methodref 22 23), (0, .class_ 24), (0, .nameAndType 25 26), (0, u "com/example/bound_bundle/boundbundle/core/JarReadBudgetHasRoomForPinLaw"), (0, u "refLimit"), (0, u "(J)J"), (0, .class_ 28), (0, u "com/example/bound_bundle/boundbundle/core/JarReadBudget"), (0, .methodref 27 30), (0, .nameAndType 5 31), (0, u "(J)V"), (0, .methodref 27 33), (0, .nameAndType 34 35), (0, u "hasRoomFor"), (0, u "(J)Z"), (2, .long 9223372036854775807), (1, .string 41), (0, u "a"), (0, .methodref 27 43), (0, .nameAndType 44 45), (0, u "read"), (0, u "(Ljava/lang/String;J)V"), (0, .string 47), (0, u "b"), (3, u "law"), (0, u "(JJJJI)Z")] 5

def k1m0 : Method := { name := "<init>", desc := "()V", sig := { parameters := [], returnType := none }, accessFlags := 2, code := none }
def k1c1 : Code := { maxStack := 4, maxLocals := 2, code := method_2_code, exceptionTable := #[], attributes := #[] }
def k1m1 : Method := { name := "refLimit", desc := "(J)J", sig := { parameters := [.long], returnType := some .long }, accessFlags := 10, code := some k1c1 }
def k1c2 : Code := { maxStack := 6, maxLocals := 27, code := code, exceptionTable := #[], attributes := #[] }
def k1m2 : Method := { name := "law", desc := "(JJJJI)Z", sig := { parameters := [.long, .long, .long, .long, .int], returnType := some .boolean }, accessFlags := 9, code := some k1c2 }
/-- com/example/bound_bundle/boundbundle/core/JarReadBudgetHasRoomForPinLaw -/
def k1 : Class := { plain "com/example/bound_bundle/boundbundle/core/JarReadBudgetHasRoomForPinLaw" (some 0) with
  accessFlags := 49
  interfaces := #[]
  cf := some (fileOf pool1 22 #[] #[{ accessFlags := 2, nameIndex := 5, descriptorIndex := 6, attributes := #[] }, { accessFlags := 10, nameIndex := 25, descriptorIndex := 26, attributes := #[] }, { accessFlags := 9, nameIndex := 51, descriptorIndex := 52, attributes := #[] }] 49 2 #[] #[])
  fields := #[]
  methods := #[k1m0, k1m1, k1m2]
  instanceTypes := #[]
  staticTypes := #[]
  resolved := Array.replicate 58 none
  statics := none }

def pool2 : Array CpInfo := pool [(3, .methodref 4 5), (0, .class_ 6), (0, .nameAndType 7 8), (0, u "java/lang/Object"), (0, u "<init>"), (0, u "()V"), (0, .fieldref 10 11), (0, .class_ 12), (0, .nameAndType 13 14), (0, u "com/example/bound_bundle/boundbundle/core/JarReadBudget"), (0, u "apkLength"), (0, u "J"), (0, .long 402653184), (1, .long 134217728), (1, .long 32), (1, .methodref 22 23), (0, .class_ 24), (0, .nameAndType 25 26), (0, u "java/lang/Math"), (0, u "max"), (0, u "(JJ)J"), (0, .methodref 22 28), (0, .nameAndType 29 26), (0, u "min"), (0, .fieldref 10 31), (0, .nameAndType 32 14), (0, u "limit"), (0, .fieldref 10 34), (0, .nameAndType 35 14), (0, u "read"), (0, .class_ 37), (0, u "com/example/bound_bundle/boundbundle/core/JarReadBudget$Exceeded"), (19, u "(Ljava/lang/String;J)V"), (3, u "RATIO"), (0, u "I"), (2, u "MIN_LENGTH"), (0, u "MAX_LENGTH"), (0, u "(J)V"), (4, u "hasRoomFor"), (0, u "(J)Z")] 27

def k2c0 : Code := { maxStack := 9, maxLocals := 3, code := prog_20_method_1_code, exceptionTable := #[], attributes := #[] }
def k2m0 : Method := { name := "<init>", desc := "(J)V", sig := { parameters := [.long], returnType := none }, accessFlags := 0, code := some k2c0 }
def k2c1 : Code := { maxStack := 9, maxLocals := 4, code := prog_20_method_2_code, exceptionTable := #[], attributes := #[] }
def k2m1 : Method := { name := "read", desc := "(Ljava/lang/String;J)V", sig := { parameters := [(.object "java/lang/String"), .long], returnType := none }, accessFlags := 0, code := some k2c1 }
def k2c2 : Code := { maxStack := 6, maxLocals := 3, code := prog_20_method_3_code, exceptionTable := #[], attributes := #[] }
def k2m2 : Method := { name := "hasRoomFor", desc := "(J)Z", sig := { parameters := [.long], returnType := some .boolean }, accessFlags := 0, code := some k2c2 }
/-- com/example/bound_bundle/boundbundle/core/JarReadBudget -/
def k2 : Class := { plain "com/example/bound_bundle/boundbundle/core/JarReadBudget" (some 0) with
  accessFlags := 48
  interfaces := #[]
  cf := some (fileOf pool2 10 #[.nestMembers #[36]] #[{ accessFlags := 0, nameIndex := 7, descriptorIndex := 67, attributes := #[] }, { accessFlags := 0, nameIndex := 35, descriptorIndex := 57, attributes := #[] }, { accessFlags := 0, nameIndex := 72, descriptorIndex := 73, attributes := #[] }] 48 4 #[] #[{ accessFlags := 24, nameIndex := 61, descriptorIndex := 62, attributes := #[] }, { accessFlags := 24, nameIndex := 65, descriptorIndex := 14, attributes := #[] }, { accessFlags := 24, nameIndex := 66, descriptorIndex := 14, attributes := #[] }, { accessFlags := 18, nameIndex := 13, descriptorIndex := 14, attributes := #[] }, { accessFlags := 18, nameIndex := 32, descriptorIndex := 14, attributes := #[] }, { accessFlags := 2, nameIndex := 35, descriptorIndex := 14, attributes := #[] }])
  fields := #[{ name := "RATIO", type := .int, accessFlags := 24, slot := 0, constantValue := 0 }, { name := "MIN_LENGTH", type := .long, accessFlags := 24, slot := 1, constantValue := 0 }, { name := "MAX_LENGTH", type := .long, accessFlags := 24, slot := 2, constantValue := 0 }, { name := "apkLength", type := .long, accessFlags := 18, slot := 0, constantValue := 0 }, { name := "limit", type := .long, accessFlags := 18, slot := 1, constantValue := 0 }, { name := "read", type := .long, accessFlags := 2, slot := 2, constantValue := 0 }]
  methods := #[k2m0, k2m1, k2m2]
  instanceTypes := #[.long, .long, .long]
  staticTypes := #[.int, .long, .long]
  resolved := Array.replicate 101 none
  statics := none }

def pool3 : Array CpInfo := pool [(1, .class_ 2), (0, u "java/lang/Math"), (1, .class_ 6), (1, u "java/lang/Object"), (0, u "<init>"), (0, u "()V"), (89, .class_ 100), (1, u "java/lang/Math$RandomNumberGeneratorHolder"), (20, u "(JJ)J"), (50, u "negativeZeroFloatBits"), (0, u "J"), (2, u "negativeZeroDoubleBits"), (21, u "max"), (2, u "min"), (43, u "$assertionsDisabled"), (0, u "Z"), (91, u "twoToTheDoubleScaleDown"), (0, u "D"), (4, u "twoToTheDoubleScaleUp"), (9, u "E"), (3, u "PI"), (2, u "TAU"), (2, u "DEGREES_TO_RADIANS"), (0, u "RADIANS_TO_DEGREES")] 94

def k3m0 : Method := { name := "<init>", desc := "()V", sig := { parameters := [], returnType := none }, accessFlags := 2, code := none }
def k3c1 : Code := { maxStack := 4, maxLocals := 4, code := jdk_29_method_66_code, exceptionTable := #[], attributes := #[] }
def k3m1 : Method := { name := "max", desc := "(JJ)J", sig := { parameters := [.long, .long], returnType := some .long }, accessFlags := 9, code := some k3c1 }
def k3c2 : Code := { maxStack := 4, maxLocals := 4, code := jdk_29_method_70_code, exceptionTable := #[], attributes := #[] }
def k3m2 : Method := { name := "min", desc := "(JJ)J", sig := { parameters := [.long, .long], returnType := some .long }, accessFlags := 9, code := some k3c2 }
/-- java/lang/Math -/
def k3 : Class := { plain "java/lang/Math" (some 0) with
  accessFlags := 49
  interfaces := #[]
  cf := some (fileOf pool3 1 #[.nestMembers #[98]] #[{ accessFlags := 2, nameIndex := 7, descriptorIndex := 8, attributes := #[] }, { accessFlags := 9, nameIndex := 198, descriptorIndex := 121, attributes := #[] }, { accessFlags := 9, nameIndex := 201, descriptorIndex := 121, attributes := #[] }] 49 4 #[] #[{ accessFlags := 25, nameIndex := 354, descriptorIndex := 339, attributes := #[] }, { accessFlags := 25, nameIndex := 358, descriptorIndex := 339, attributes := #[] }, { accessFlags := 25, nameIndex := 361, descriptorIndex := 339, attributes := #[] }, { accessFlags := 26, nameIndex := 364, descriptorIndex := 339, attributes := #[] }, { accessFlags := 26, nameIndex := 365, descriptorIndex := 339, attributes := #[] }, { accessFlags := 26, nameIndex := 172, descriptorIndex := 173, attributes := #[] }, { accessFlags := 26, nameIndex := 176, descriptorIndex := 173, attributes := #[] }, { accessFlags := 8, nameIndex := 344, descriptorIndex := 339, attributes := #[] }, { accessFlags := 8, nameIndex := 338, descriptorIndex := 339, attributes := #[] }, { accessFlags := 4120, nameIndex := 245, descriptorIndex := 246, attributes := #[] }])
  fields := #[{ name := "E", type := .double, accessFlags := 25, slot := 0, constantValue := 0 }, { name := "PI", type := .double, accessFlags := 25, slot := 1, constantValue := 0 }, { name := "TAU", type := .double, accessFlags := 25, slot := 2, constantValue := 0 }, { name := "DEGREES_TO_RADIANS", type := .double, accessFlags := 26, slot := 3, constantValue := 0 }, { name := "RADIANS_TO_DEGREES", type := .double, accessFlags := 26, slot := 4, constantValue := 0 }, { name := "negativeZeroFloatBits", type := .long, accessFlags := 26, slot := 5, constantValue := 0 }, { name := "negativeZeroDoubleBits", type := .long, accessFlags := 26, slot := 6, constantValue := 0 }, { name := "twoToTheDoubleScaleUp", type := .double, accessFlags := 8, slot := 7, constantValue := 0 }, { name := "twoToTheDoubleScaleDown", type := .double, accessFlags := 8, slot := 8, constantValue := 0 }, { name := "$assertionsDisabled", type := .boolean, accessFlags := 4120, slot := 9, constantValue := 0 }]
  methods := #[k3m0, k3m1, k3m2]
  instanceTypes := #[]
  staticTypes := #[.double, .double, .double, .double, .double, .long, .long, .double, .double, .boolean]
  resolved := Array.replicate 460 none
  statics := none }

def pool4 : Array CpInfo := pool [(1, .class_ 2), (0, u "java/io/Serializable"), (0, .class_ 4), (0, u "java/lang/Object")] 2

/-- java/io/Serializable -/
def k4 : Class := { plain "java/io/Serializable" (some 0) with
  accessFlags := 1537
  interfaces := #[]
  cf := some (fileOf pool4 1 #[] #[] 1537 3 #[] #[])
  fields := #[]
  methods := #[]
  instanceTypes := #[]
  staticTypes := #[]
  resolved := Array.replicate 7 none
  statics := none }

def pool5 : Array CpInfo := pool [(1, .class_ 2), (0, u "java/lang/Comparable"), (0, .class_ 4), (0, u "java/lang/Object")] 7

/-- java/lang/Comparable -/
def k5 : Class := { plain "java/lang/Comparable" (some 0) with
  accessFlags := 1537
  interfaces := #[]
  cf := some (fileOf pool5 1 #[] #[] 1537 3 #[] #[])
  fields := #[]
  methods := #[]
  instanceTypes := #[]
  staticTypes := #[]
  resolved := Array.replicate 12 none
  statics := none }

def pool6 : Array CpInfo := pool [(2, .class_ 4), (1, u "java/lang/CharSequence"), (42, .class_ 48), (0, u "java/lang/CharSequence$1CodePointIterator"), (10, .class_ 60), (0, u "java/lang/CharSequence$1CharIterator"), (5, .class_ 67), (0, u "java/lang/Object")] 63

/-- java/lang/CharSequence -/
def k6 : Class := { plain "java/lang/CharSequence" (some 0) with
  accessFlags := 1537
  interfaces := #[]
  cf := some (fileOf pool6 2 #[.nestMembers #[47, 59]] #[] 1537 66 #[] #[])
  fields := #[]
  methods := #[]
  instanceTypes := #[]
  staticTypes := #[]
  resolved := Array.replicate 131 none
  statics := none }

def pool7 : Array CpInfo := pool [(1, .class_ 2), (0, u "java/lang/constant/Constable"), (0, .class_ 4), (0, u "java/lang/Object")] 6

/-- java/lang/constant/Constable -/
def k7 : Class := { plain "java/lang/constant/Constable" (some 0) with
  accessFlags := 1537
  interfaces := #[]
  cf := some (fileOf pool7 1 #[] #[] 1537 3 #[] #[])
  fields := #[]
  methods := #[]
  instanceTypes := #[]
  staticTypes := #[]
  resolved := Array.replicate 11 none
  statics := none }

def pool8 : Array CpInfo := pool [(1, .class_ 2), (0, u "java/lang/constant/ConstantDesc"), (0, .class_ 4), (0, u "java/lang/Object")] 32

/-- java/lang/constant/ConstantDesc -/
def k8 : Class := { plain "java/lang/constant/ConstantDesc" (some 0) with
  accessFlags := 1537
  interfaces := #[]
  cf := some (fileOf pool8 1 #[] #[] 1537 3 #[] #[])
  fields := #[]
  methods := #[]
  instanceTypes := #[]
  staticTypes := #[]
  resolved := Array.replicate 37 none
  statics := none }

def pool9 : Array CpInfo := pool [(2, .class_ 4), (1, u "java/lang/Object"), (0, u "<init>"), (0, u "()V"), (3, .class_ 12), (1, u "java/lang/String"), (0, u "value"), (0, u "[B"), (2, u "coder"), (0, u "B"), (2, u "hash"), (0, u "I"), (2, u "hashIsZero"), (0, u "Z"), (13, u "COMPACT_STRINGS"), (534, .class_ 576), (0, u "java/lang/CharSequence"), (22, u "CASE_INSENSITIVE_ORDER"), (0, u "Ljava/util/Comparator;"), (500, u "serialPersistentFields"), (0, u "[Ljava/io/ObjectStreamField;"), (0, .class_ 1104), (0, u "java/lang/String$CaseInsensitiveComparator"), (1, .class_ 1107), (0, u "java/io/Serializable"), (0, .class_ 1109), (0, u "java/lang/Comparable"), (0, .class_ 1111), (0, u "java/lang/constant/Constable"), (0, .class_ 1113), (0, u "java/lang/constant/ConstantDesc"), (2, u "serialVersionUID"), (0, u "J"), (3, u "REPL"), (0, u "C"), (2, u "LATIN1"), (1, u "UTF16")] 323

def k9m0 : Method := { name := "<init>", desc := "()V", sig := { parameters := [], returnType := none }, accessFlags := 1, code := none }
/-- java/lang/String -/
def k9 : Class := { plain "java/lang/String" (some 0) with
  accessFlags := 49
  interfaces := #[4, 5, 6, 7, 8]
  cf := some (fileOf pool9 10 #[.nestMembers #[1103]] #[{ accessFlags := 1, nameIndex := 5, descriptorIndex := 6, attributes := #[] }] 49 2 #[1106, 1108, 575, 1110, 1112] #[{ accessFlags := 18, nameIndex := 13, descriptorIndex := 14, attributes := #[] }, { accessFlags := 18, nameIndex := 17, descriptorIndex := 18, attributes := #[] }, { accessFlags := 2, nameIndex := 21, descriptorIndex := 22, attributes := #[] }, { accessFlags := 2, nameIndex := 25, descriptorIndex := 26, attributes := #[] }, { accessFlags := 26, nameIndex := 1116, descriptorIndex := 1117, attributes := #[] }, { accessFlags := 24, nameIndex := 40, descriptorIndex := 26, attributes := #[] }, { accessFlags := 26, nameIndex := 1101, descriptorIndex := 1102, attributes := #[] }, { accessFlags := 26, nameIndex := 1121, descriptorIndex := 1122, attributes := #[] }, { accessFlags := 25, nameIndex := 599, descriptorIndex := 600, attributes := #[] }, { accessFlags := 24, nameIndex := 1125, descriptorIndex := 18, attributes := #[] }, { accessFlags := 24, nameIndex := 1127, descriptorIndex := 18, attributes := #[] }])
  fields := #[{ name := "value", type := (.array .byte), accessFlags := 18, slot := 0, constantValue := 0 }, { name := "coder", type := .byte, accessFlags := 18, slot := 1, constantValue := 0 }, { name := "hash", type := .int, accessFlags := 2, slot := 2, constantValue := 0 }, { name := "hashIsZero", type := .boolean, accessFlags := 2, slot := 3, constantValue := 0 }, { name := "serialVersionUID", type := .long, accessFlags := 26, slot := 0, constantValue := 0 }, { name := "COMPACT_STRINGS", type := .boolean, accessFlags := 24, slot := 1, constantValue := 0 }, { name := "serialPersistentFields", type := (.array (.object "java/io/ObjectStreamField")), accessFlags := 26, slot := 2, constantValue := 0 }, { name := "REPL", type := .char, accessFlags := 26, slot := 3, constantValue := 0 }, { name := "CASE_INSENSITIVE_ORDER", type := (.object "java/util/Comparator"), accessFlags := 25, slot := 4, constantValue := 0 }, { name := "LATIN1", type := .byte, accessFlags := 24, slot := 5, constantValue := 0 }, { name := "UTF16", type := .byte, accessFlags := 24, slot := 6, constantValue := 0 }]
  methods := #[k9m0]
  instanceTypes := #[(.array .byte), .byte, .int, .boolean]
  staticTypes := #[.long, .boolean, (.array (.object "java/io/ObjectStreamField")), .char, (.object "java/util/Comparator"), .byte, .byte]
  resolved := Array.replicate 1451 none
  statics := none }

def pool10 : Array CpInfo := pool [(1, u "java/lang/Cloneable"), (0, .class_ 1), (0, u "java/lang/Object"), (0, .class_ 3)] 3

/-- java/lang/Cloneable -/
def k10 : Class := { plain "java/lang/Cloneable" (some 0) with
  accessFlags := 1537
  interfaces := #[]
  cf := some (fileOf pool10 2 #[] #[] 1537 4 #[] #[])
  fields := #[]
  methods := #[]
  instanceTypes := #[]
  staticTypes := #[]
  resolved := Array.replicate 8 none
  statics := none }

/-- the primitive byte -/
def k11 : Class := { plain "byte" none with kind := .primitive 'B', accessFlags := 0x411 }
/-- [B -/
def k12 : Class := { plain "[B" (some 0) with kind := .array 11 .byte, interfaces := #[10, 4], accessFlags := 1041 }

/-- the primitive int -/
def k13 : Class := { plain "int" none with kind := .primitive 'I', accessFlags := 0x411 }
/-- [I -/
def k14 : Class := { plain "[I" (some 0) with kind := .array 13 .int, interfaces := #[10, 4], accessFlags := 1041 }

def heap : Heap := #[]
def classes : Array Class := #[k0, k1, k2, k3, k4, k5, k6, k7, k8, k9, k10, k11, k12, k13, k14]
def interned : List (Array UInt16 × Addr) := []
def slotsUsed : Nat := 0
def theMethod : MethodId := ⟨1, 2⟩
def args0 : Array Value := #[.long 5, .long 6, .long 7, .long 8, .int 1]
def aboutOver (below : List Frame) : State where
  vm := { classes := classes, interned := interned.toArray }
  heap := heap
  slotsUsed := slotsUsed
  threads := #[{ frames := .invoking theMethod args0 :: below }]
def below0 : List Frame := [.native { method := ⟨0, 0⟩, args := #[] }]
def about1 : State := aboutOver below0
def p0 : Program := .bare "" "" ""
def e0 : Env := launch0.env 0 0 0
theorem w_frames : about1.frames = Frame.invoking theMethod args0 :: below0 := rfl
set_option maxRecDepth 65536 in
theorem w_args : argsFit about1.vm theMethod args0 = true := by decide +kernel
set_option maxRecDepth 65536 in
theorem w_heap : heapFits about1 = true := by decide +kernel
set_option maxRecDepth 65536 in
theorem w_runnable : about1.curStatus? = some .runnable := by decide +kernel
set_option maxRecDepth 65536 in
theorem w_alone : about1.alone = true := by decide +kernel
set_option maxRecDepth 65536 in
theorem w_named : about1.methodNamed? x = some theMethod := by decide +kernel
set_option maxRecDepth 65536 in
theorem w_hears : about1.hears theMethod below0 = true := by decide +kernel
set_option maxRecDepth 65536 in
theorem w_ripe : about1.ripe theMethod args0 below0 = true := by decide +kernel
theorem w_running : about1.status = .running := rfl
set_option maxRecDepth 65536 in
theorem w_room : about1.hasRoom e0.platform room_1 = true :=
  launch0.hasRoom_least _ room_1 (by decide +kernel) (by decide +kernel) (by decide +kernel) (by decide +kernel) (by decide +kernel) (by decide +kernel)
theorem allAtoms_all (ts : List Jvm.Cond) (a : Array Jvm.Value) (st : Jvm.State) : (allAtoms ts).before a st = ts.all (fun c => c.before a st) := by
  induction ts with
  | nil => rfl
  | cons c t ih =>
    show (Jvm.Cond.and c (allAtoms t)).before a st = _
    rw [Jvm.Cond.before_and, ih, List.all_cons]
def words1 : List Jvm.Cond := Jvm.Cond.code x code maxLocals ret :: tables_1
/-- a 'code' word, met by the world's own term for the bytes: nothing is compared byte by byte -/
theorem code_word {y : MethodName} {bytes : ByteArray} {mx : Nat} {rt : Option FieldType} {a : Array Value} {s : State} {m : MethodId} {meth : Method} {c : Code} (h1 : s.methodNamed? y = some m) (h2 : s.vm.method? m = some meth) (h3 : meth.code = some c) (h4 : c.code = bytes)
    (h5 : (c.maxLocals == mx && c.exceptionTable.isEmpty && decide (c.maxStack ≤ mostOperands) && decide (meth.sig.returnType = rt) && !meth.locks && decide (parseMethodDescriptor y.desc = some meth.sig)) = true) : (Jvm.Cond.code y bytes mx rt).before a s = true := by
  simp only [Bool.and_eq_true, beq_iff_eq, Bool.not_eq_true', decide_eq_true_eq] at h5
  obtain ⟨⟨⟨⟨⟨g1, g2⟩, g3⟩, g4⟩, g5⟩, g6⟩ := h5
  simp [Cond.before, Cond.holds, Cond.value, h1, h2, h3, h4, g1, g2, g3, g4, g5, g6]
def isCode : Jvm.Cond → Bool
  | .code _ _ _ _ => true
  | _ => false
theorem all_split {L : List Jvm.Cond} {P : Jvm.Cond → Bool} (h1 : L.all (fun c => isCode c || P c) = true) (h2 : ∀ c ∈ L.filter isCode, P c = true) : L.all P = true := by
  refine List.all_eq_true.mpr fun c hc => ?_
  have h := List.all_eq_true.mp h1 c hc
  rcases Bool.eq_false_or_eq_true (isCode c) with hi | hi
  · exact h2 c (List.mem_filter.mpr ⟨hc, hi⟩)
  · simpa [hi] using h
set_option maxRecDepth 65536 in
theorem w_c0 : (Jvm.Cond.code x code maxLocals ret).before args0 about1 = true := code_word (m := ⟨1, 2⟩) (meth := k1m2) (c := k1c2) (by decide +kernel) rfl rfl rfl (by decide +kernel)
set_option maxRecDepth 65536 in
theorem w_c1 : (Jvm.Cond.code ({ cls := "com/example/bound_bundle/boundbundle/core/JarReadBudgetHasRoomForPinLaw", name := "refLimit", desc := "(J)J" } : Jvm.MethodName) method_2_code (2 : Nat) (Option.some Jvm.ClassFile.FieldType.long)).before args0 about1 = true := code_word (m := ⟨1, 1⟩) (meth := k1m1) (c := k1c1) (by decide +kernel) rfl rfl rfl (by decide +kernel)
set_option maxRecDepth 65536 in
theorem w_c2 : (Jvm.Cond.code ({ cls := "com/example/bound_bundle/boundbundle/core/JarReadBudget", name := "<init>", desc := "(J)V" } : Jvm.MethodName) prog_20_method_1_code (3 : Nat) (Option.none : Option Jvm.ClassFile.FieldType)).before args0 about1 = true := code_word (m := ⟨2, 0⟩) (meth := k2m0) (c := k2c0) (by decide +kernel) rfl rfl rfl (by decide +kernel)
set_option maxRecDepth 65536 in
theorem w_c3 : (Jvm.Cond.code ({ cls := "java/lang/Object", name := "<init>", desc := "()V" } : Jvm.MethodName) object_method_1_code (1 : Nat) (Option.none : Option Jvm.ClassFile.FieldType)).before args0 about1 = true := code_word (m := ⟨0, 0⟩) (meth := k0m0) (c := k0c0) (by decide +kernel) rfl rfl rfl (by decide +kernel)
set_option maxRecDepth 65536 in
theorem w_c4 : (Jvm.Cond.code ({ cls := "java/lang/Math", name := "max", desc := "(JJ)J" } : Jvm.MethodName) jdk_29_method_66_code (4 : Nat) (Option.some Jvm.ClassFile.FieldType.long)).before args0 about1 = true := code_word (m := ⟨3, 1⟩) (meth := k3m1) (c := k3c1) (by decide +kernel) rfl rfl rfl (by decide +kernel)
set_option maxRecDepth 65536 in
theorem w_c5 : (Jvm.Cond.code ({ cls := "java/lang/Math", name := "min", desc := "(JJ)J" } : Jvm.MethodName) jdk_29_method_70_code (4 : Nat) (Option.some Jvm.ClassFile.FieldType.long)).before args0 about1 = true := code_word (m := ⟨3, 2⟩) (meth := k3m2) (c := k3c2) (by decide +kernel) rfl rfl rfl (by decide +kernel)
set_option maxRecDepth 65536 in
theorem w_c6 : (Jvm.Cond.code ({ cls := "com/example/bound_bundle/boundbundle/core/JarReadBudget", name := "hasRoomFor", desc := "(J)Z" } : Jvm.MethodName) prog_20_method_3_code (3 : Nat) (Option.some Jvm.ClassFile.FieldType.boolean)).before args0 about1 = true := code_word (m := ⟨2, 2⟩) (meth := k2m2) (c := k2c2) (by decide +kernel) rfl rfl rfl (by decide +kernel)
set_option maxRecDepth 65536 in
theorem w_c7 : (Jvm.Cond.code ({ cls := "com/example/bound_bundle/boundbundle/core/JarReadBudget", name := "read", desc := "(Ljava/lang/String;J)V" } : Jvm.MethodName) prog_20_method_2_code (4 : Nat) (Option.none : Option Jvm.ClassFile.FieldType)).before args0 about1 = true := code_word (m := ⟨2, 1⟩) (meth := k2m1) (c := k2c1) (by decide +kernel) rfl rfl rfl (by decide +kernel)
def codes1 : List Jvm.Cond := [Jvm.Cond.code x code maxLocals ret, Jvm.Cond.code ({ cls := "com/example/bound_bundle/boundbundle/core/JarReadBudgetHasRoomForPinLaw", name := "refLimit", desc := "(J)J" } : Jvm.MethodName) method_2_code (2 : Nat) (Option.some Jvm.ClassFile.FieldType.long), Jvm.Cond.code ({ cls := "com/example/bound_bundle/boundbundle/core/JarReadBudget", name := "<init>", desc := "(J)V" } : Jvm.MethodName) prog_20_method_1_code (3 : Nat) (Option.none : Option Jvm.ClassFile.FieldType), Jvm.Cond.code ({ cls := "java/lang/Object", name := "<init>", desc := "()V" } : Jvm.MethodName) object_method_1_code (1 : Nat) (Option.none : Option Jvm.ClassFile.FieldType), Jvm.Cond.code ({ cls := "java/lang/Math", name := "max", desc := "(JJ)J" } : Jvm.MethodName) jdk_29_method_66_code (4 : Nat) (Option.some Jvm.ClassFile.FieldType.long), Jvm.Cond.code ({ cls := "java/lang/Math", name := "min", desc := "(JJ)J" } : Jvm.MethodName) jdk_29_method_70_code (4 : Nat) (Option.some Jvm.ClassFile.FieldType.long), Jvm.Cond.code ({ cls := "com/example/bound_bundle/boundbundle/core/JarReadBudget", name := "hasRoomFor", desc := "(J)Z" } : Jvm.MethodName) prog_20_method_3_code (3 : Nat) (Option.some Jvm.ClassFile.FieldType.boolean), Jvm.Cond.code ({ cls := "com/example/bound_bundle/boundbundle/core/JarReadBudget", name := "read", desc := "(Ljava/lang/String;J)V" } : Jvm.MethodName) prog_20_method_2_code (4 : Nat) (Option.none : Option Jvm.ClassFile.FieldType)]
set_option maxRecDepth 65536 in
theorem codes_eq : words1.filter isCode = codes1 := rfl
theorem w_codes : ∀ c ∈ words1.filter isCode, c.before args0 about1 = true := by
  rw [codes_eq]
  intro c hc
  simp only [codes1, List.mem_cons, List.not_mem_nil, or_false] at hc
  rcases hc with rfl | rfl | rfl | rfl | rfl | rfl | rfl | rfl
  · exact w_c0
  · exact w_c1
  · exact w_c2
  · exact w_c3
  · exact w_c4
  · exact w_c5
  · exact w_c6
  · exact w_c7
set_option maxRecDepth 65536 in
theorem w_t1 : (words1.take 24).all (fun c => isCode c || c.before args0 about1) = true := by decide +kernel
set_option maxRecDepth 65536 in
theorem w_t2 : ((words1.drop 24).take 24).all (fun c => isCode c || c.before args0 about1) = true := by decide +kernel
set_option maxRecDepth 65536 in
theorem w_t3 : ((words1.drop 24).drop 24).all (fun c => isCode c || c.before args0 about1) = true := by decide +kernel
theorem w_tables : (allAtoms (Jvm.Cond.code x code maxLocals ret :: tables_1)).before args0 about1 = true := by
  rw [allAtoms_all]
  show words1.all (fun c => c.before args0 about1) = true
  refine all_split ?_ w_codes
  rw [← List.take_append_drop 24 words1, List.all_append, w_t1, ← List.take_append_drop 24 (words1.drop 24), List.all_append, w_t2, w_t3]
  rfl
set_option maxRecDepth 65536 in
theorem w_case : (Jvm.Cond.and given_1 narrow_1).before args0 about1 = true := by decide +kernel
theorem w_applies : (headSpec (Jvm.Cond.code x code maxLocals ret :: tables_1) room_1).applies x e0.platform about1 = true :=
  (Spec.applies_iff w_frames).mpr ⟨w_running, w_runnable, w_alone, w_named, w_hears, w_ripe, w_room, w_tables⟩
theorem atStart : AtStart classFile x code maxLocals ret World_1 tables_1 room_1 Calls_1 rest_1 Pre_1 launch0 p0 e0 about1 theMethod args0 below0 :=
  ⟨lists_1, trivial, launch0.admits_env _ _ _, launch0.least_env, fairChoices_fair.cas, fairChoices_fair.clock, w_frames, w_args, w_heap, w_applies, trivial, trivial, w_case⟩
end start1
theorem witness_1 : WitnessClaimed_1 := ⟨start1.p0, start1.e0, start1.about1, start1.theMethod, start1.args0, start1.below0, start1.atStart⟩
end Jvm.Pilot.@@N@@
