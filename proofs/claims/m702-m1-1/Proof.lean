import JvmDerived
import JvmDerived.Pilot.@@N@@Statement
import JvmDerived.Pilot.@@N@@Code
set_option linter.unusedVariables false
set_option linter.unusedSimpArgs false
namespace Jvm.Pilot.@@N@@
open Jvm Jvm.ClassFile Sem Op Lib Jvm.Free Jvm.Stand Jvm.LawKit Jvm.RoadKit Bundle Jvm.Pilot.@@N@@.Jvm.D
/-! own_: the walk's goal, said once: from the frame g at T the run comes to an end that Fin holds of -/
def own_Go (p : Program) (e : Env) (below : List Frame) (Fin : Outcome → State → Prop) (T : State) (g : JFrame) : Prop :=
  ∃ s₂ o, Steps p.tables e below (T.setTop g) s₂ ∧ s₂.status = .running ∧ Ended s₂ below o ∧ Fin o s₂
def own_Fin (s : State) (Q : Option Value → Heap → List Loc → Prop) (k n : Nat) (o : Outcome) (t : State) : Prop :=
  ∃ v L, o = .returned v ∧ Q v t.heap L ∧ FrameEnd s o t L k n
section OwnGo
variable {p : Program} {l : Launch} {e : Env} {R : Room} {s : State} {m : MethodId} {args : Array Value} {below : List Frame} {meth : Method} {c : Code} {T T' : State} {locs : List Loc} {cells slots : Nat} {Z : State} {a0 : Array Value} {h : Heap} {g g' : JFrame} {Fin : Outcome → State → Prop} {k n : Nat} {Q : Option Value → Heap → List Loc → Prop}
theorem own_go (st : ∀ target, Steps p.tables e below (T'.setTop g') target → Steps p.tables e below (T.setTop g) target) (G : own_Go p e below Fin T' g') : own_Go p e below Fin T g := by
  obtain ⟨s₂, o, h, r⟩ := G
  exact ⟨s₂, o, st _ h, r⟩
theorem own_end (X : Stand p l e R s m args below meth c T locs cells slots) (hlk : meth.locks = false) {v : Option Value} (hv : meth.sig.returnType = none → v = none)
    (hr : ∀ fs, (∀ (f : JFrame) (acts : List Action), f.method = m → f.locked = none → f.entered = [] → (doReturn e (T.setTop f) acts v).1 = T.setFrames fs) → Steps p.tables e below (T.setTop g) (T.setFrames fs))
    (hQ : Q v T.heap locs) (hc : cells ≤ k) (hn : slots ≤ n) : own_Go p e below (own_Fin s Q k n) T g := by
  obtain ⟨fs, h1, hrun, hended, hW, hsame⟩ := X.leave hv hlk
  exact ⟨_, _, hr fs h1, hrun, hended, v, locs, rfl, hQ, ⟨_, rfl⟩, hW, hsame.mono hc hn⟩
theorem own_dia {α : Type} {C : Prop} [Decidable C] {v1 v0 : α} {f : α → JFrame} (h1 : C → own_Go p e below Fin T' (f v1) → own_Go p e below Fin T g) (h0 : ¬ C → own_Go p e below Fin T' (f v0) → own_Go p e below Fin T g) (G : own_Go p e below Fin T' (f (if C then v1 else v0))) : own_Go p e below Fin T g := by
  by_cases hC : C
  · rw [if_pos hC] at G; exact h1 hC G
  · rw [if_neg hC] at G; exact h0 hC G
end OwnGo
def own_Met (l : Launch) (Z : State) (y : MethodName) (bytes : ByteArray) (maxL : Nat) (ret : Option FieldType) (ws : List Jvm.Cond) (rm : Room) (as : Array Value) (h0 : Heap) (Q : Option Value → Heap → List Loc → Prop) : Prop :=
  MetFree l y (head1 (Jvm.Cond.code y bytes maxL ret :: ws) rm) (fun a U => a = as ∧ Z.Warmed39 U.vm ∧ U.heap = h0) (fun _ _ _ _ _ => True) (fun _ U o U' => ∃ v L, o = .returned v ∧ Q v U'.heap L ∧ FrameEnd U o U' L rm.cells rm.slots)
theorem own_met {l : Launch} {Z : State} {y : MethodName} {bytes : ByteArray} {maxL : Nat} {ret : Option FieldType} {ws : List Jvm.Cond} {rm : Room} {as : Array Value} {h0 : Heap} {Q : Option Value → Heap → List Loc → Prop} (hp : plainFor y = true)
    (body : ∀ (p : Program) (e : Env) (s : State) (m : MethodId) (below : List Frame) (meth : Method) (c : Code) (s₁ : State), Stand p l e rm s m as below meth c s₁ [] 0 0 → p.tables.exec = Jvm.exec → Z.Warmed39 s.vm → c.code = bytes → c.maxLocals = maxL → s.vm.findClass y.cls = some m.cls → meth.name = y.name → meth.sig.returnType = ret → meth.locks = false → s₁.heap = h0 →
      own_Go p e below (own_Fin s Q rm.cells rm.slots) s₁ (entryFrame m as maxL)) : own_Met l Z y bytes maxL ret ws rm as h0 Q := by
  refine MetFree.of_bodySF hp hisR ?_
  intro p e s m args below meth c s₁ Bd hml0 hP hK
  obtain ⟨rfl, hZ, hh⟩ := hP
  exact body p e s m below meth c s₁ (Stand.of_body Bd) Bd.exec hZ Bd.bytes hml0 (findClass_of_methodNamed Bd.named) (name_of_methodNamed Bd.named Bd.method).1 Bd.returns Bd.notSynchronized (by rw [← hh, Bd.state]; rfl)
section OwnCall
variable {p : Program} {l : Launch} {e : Env} {R : Room} {s : State} {m : MethodId} {args : Array Value} {below : List Frame} {meth : Method} {c : Code} {T : State} {locs : List Loc} {cells slots : Nat} {Z : State} {a0 : Array Value} {h : Heap} {g : JFrame} {Q : Option Value → Heap → List Loc → Prop} {own : String} {index : Nat} {y z : MethodName} {bytes : ByteArray} {maxL W : Nat} {ret r0 : Option FieldType} {rm : Room} {argsL rest : List Value} {ps : List FieldType} {b : Addr} {C : String}
theorem own_callS (X : Stand p l e R s m args below meth c T locs cells slots) (hx : p.tables.exec = Jvm.exec) (hZ : Z.Warmed39 s.vm) (hown : s.vm.findClass own = some m.cls) (wl : (Cond.methodLink own index y).before a0 Z = true) (ws : (Cond.static y).before a0 Z = true) (wi : (Cond.initialized y.cls).before a0 Z = true) (wc : (Cond.code y bytes maxL ret).before a0 Z = true)
    (hy : y.cls ≠ "java/lang/invoke/MethodHandle" ∧ y.cls ≠ "java/lang/invoke/VarHandle") (eT : T.heap = h) (hM : own_Met l Z y bytes maxL ret [] rm argsL.toArray h Q) (hf : rm.frames + 1 ≤ R.frames) (hl : W + (maxL + 11) + rm.locals ≤ R.locals) (hc : cells + rm.cells ≤ R.cells) (hn : slots + rm.slots ≤ R.slots)
    (hpd : parseMethodDescriptor y.desc = some ⟨ps, r0⟩) (hlen : argsL.length = ps.length) (hg : g.method = m) (hsize : g.locals.size = c.maxLocals) (hstack : g.stack = argsL.reverse ++ rest) (hW : 2 * g.monitorRoom + (rest.map fun v => v.category).sum ≤ W) (hd : decode c.code g.pc = .ok (.invokestatic index, 3)) :
    ∃ (v : Option Value) (T' : State) (L : List Loc), Stand p l e R s m args below meth c T' (locs ++ L) (cells + rm.cells) (slots + rm.slots) ∧ Q v T'.heap L ∧ ∀ target, Steps p.tables e below (T'.setTop { g with pc := g.pc + 3, stack := v.toList ++ rest }) target → Steps p.tables e below (T.setTop g) target := by
  obtain ⟨v, vm₁, ⟨T1, L1, k1, n1⟩, -, X1, ⟨Lc, hQ, l1, y1, z1⟩, st⟩ := Jvm.LawKit.callS X hx (y := y) hown (mvT hZ wl) (mvT hZ ws) (mvT hZ wi) (mvT hZ wc) hy (backOf (W := W) hM hZ wc wi hf hl) hg hsize (lenOf hpd hlen) hstack hW hd (fun _ _ => ⟨rfl, eT, hc, hn⟩)
  dsimp only [Pt.U, Pt.locs, Pt.cells, Pt.slots] at X1 l1 y1 z1 st hQ
  subst l1 y1 z1
  exact ⟨v, T1, Lc, X1, hQ, st⟩
theorem own_callI (X : Stand p l e R s m args below meth c T locs cells slots) (hx : p.tables.exec = Jvm.exec) (hZ : Z.Warmed39 s.vm) (hy1 : y.name = "<init>") (hown : s.vm.findClass own = some m.cls) (wl : (Cond.methodLink own index y).before a0 Z = true) (ws : (Cond.instanceMethod y).before a0 Z = true) (wi : (Cond.initialized y.cls).before a0 Z = true) (wc : (Cond.code y bytes maxL none).before a0 Z = true)
    (hy : y.cls ≠ "java/lang/invoke/MethodHandle" ∧ y.cls ≠ "java/lang/invoke/VarHandle") (eT : T.heap = h) (hM : own_Met l Z y bytes maxL none [] rm (.ref b :: argsL).toArray h Q) (hf : rm.frames + 1 ≤ R.frames) (hl : W + (maxL + 11) + rm.locals ≤ R.locals) (hc : cells + rm.cells ≤ R.cells) (hn : slots + rm.slots ≤ R.slots)
    (hpd : parseMethodDescriptor y.desc = some ⟨ps, r0⟩) (hlen : argsL.length = ps.length) (hg : g.method = m) (hsize : g.locals.size = c.maxLocals) (hstack : g.stack = argsL.reverse ++ .ref b :: rest) (hW : 2 * g.monitorRoom + (rest.map fun v => v.category).sum ≤ W) (hd : decode c.code g.pc = .ok (.invokespecial index, 3)) :
    ∃ (v : Option Value) (T' : State) (L : List Loc), Stand p l e R s m args below meth c T' (locs ++ L) (cells + rm.cells) (slots + rm.slots) ∧ Q v T'.heap L ∧ ∀ target, Steps p.tables e below (T'.setTop { g with pc := g.pc + 3, stack := v.toList ++ rest }) target → Steps p.tables e below (T.setTop g) target := by
  obtain ⟨v, vm₁, ⟨T1, L1, k1, n1⟩, -, X1, ⟨Lc, hQ, l1, y1, z1⟩, st⟩ := X.specialBack hx (y := y) hy1 hown (mvT hZ wl) (mvT hZ ws) (mvT hZ wc) hy (backOf (W := W) hM hZ wc wi hf hl) hg hsize (Steps.refl _) (lenOf hpd hlen) hstack hW hd (fun _ _ => ⟨rfl, eT, hc, hn⟩)
  dsimp only [Pt.U, Pt.locs, Pt.cells, Pt.slots] at X1 l1 y1 z1 st hQ
  subst l1 y1 z1
  exact ⟨v, T1, Lc, X1, hQ, fun _ k => st.trans k⟩
theorem own_callV (X : Stand p l e R s m args below meth c T locs cells slots) (hx : p.tables.exec = Jvm.exec) (hZ : Z.Warmed39 s.vm) (hown : s.vm.findClass own = some m.cls) (wl : (Cond.methodLink own index y).before a0 Z = true) (wd : (Cond.declares y).before a0 Z = true) (wsel : (Cond.selects C y y).before a0 Z = true) (ws : (Cond.instanceMethod y).before a0 Z = true) (wi : (Cond.initialized y.cls).before a0 Z = true) (wc : (Cond.code y bytes maxL ret).before a0 Z = true)
    (hy : y.cls ≠ "java/lang/invoke/MethodHandle" ∧ y.cls ≠ "java/lang/invoke/VarHandle") (eT : T.heap = h) (E : Exa Z h b C) (hM : own_Met l Z y bytes maxL ret [] rm (.ref b :: argsL).toArray h Q) (hf : rm.frames + 1 ≤ R.frames) (hl : W + (maxL + 11) + rm.locals ≤ R.locals) (hc : cells + rm.cells ≤ R.cells) (hn : slots + rm.slots ≤ R.slots)
    (hpd : parseMethodDescriptor y.desc = some ⟨ps, r0⟩) (hlen : argsL.length = ps.length) (hg : g.method = m) (hsize : g.locals.size = c.maxLocals) (hstack : g.stack = argsL.reverse ++ .ref b :: rest) (hW : 2 * g.monitorRoom + (rest.map fun v => v.category).sum ≤ W) (hd : decode c.code g.pc = .ok (.invokevirtual index, 3)) :
    ∃ (v : Option Value) (T' : State) (L : List Loc), Stand p l e R s m args below meth c T' (locs ++ L) (cells + rm.cells) (slots + rm.slots) ∧ Q v T'.heap L ∧ ∀ target, Steps p.tables e below (T'.setTop { g with pc := g.pc + 3, stack := v.toList ++ rest }) target → Steps p.tables e below (T.setTop g) target := by
  obtain ⟨cq, kq, qa, qb, qc⟩ := isOf hZ eT E
  obtain ⟨v, vm₁, ⟨T1, L1, k1, n1⟩, -, X1, ⟨Lc, hQ, l1, y1, z1⟩, st⟩ := X.virtualBack hx (y := y) (z := y) hown (mvT hZ wl) (mvT hZ wd) (notFace_of_selects (args := #[]) (mvT hZ wsel)) (mvT hZ wsel) (mvT hZ ws) hy (backOf (W := W) hM hZ wc wi hf hl) qa qc hg hsize (Steps.refl _) (lenOf hpd hlen) hstack hW hd (fun _ _ => ⟨rfl, eT, hc, hn⟩)
  dsimp only [Pt.U, Pt.locs, Pt.cells, Pt.slots] at X1 l1 y1 z1 st hQ
  subst l1 y1 z1
  exact ⟨v, T1, Lc, X1, hQ, fun _ k => st.trans k⟩
end OwnCall
def own_any (y : Nat → Int32) (t : Int32) : Nat → Nat → Int32
  | 0, _ => 0
  | k + 1, i => if y i = t then 1 else own_any y t k (i + 1)
theorem own_lt {i n : Nat} (hi : i < 2 ^ 31) (hn : n < 2 ^ 31) : i.toInt32 < n.toInt32 ↔ i < n := by
  rw [Int32.lt_iff_toInt_lt, len_toInt hi, len_toInt hn]; omega
theorem own_nn {i : Nat} (hi : i < 2 ^ 31) : ¬ i.toInt32 < 0 := by
  rw [Int32.lt_iff_toInt_lt, len_toInt hi]
  have : (0 : Int32).toInt = 0 := rfl
  omega
theorem own_clamp {i : Nat} (hi : i < 2 ^ 31) : i.toInt32.toNatClampNeg = i := by
  have h1 := nat_of (own_nn hi)
  rw [len_toInt hi] at h1
  omega
theorem own_succ (i : Nat) : i.toInt32 + (1 : Int32) = (i + 1).toInt32 := by
  show Int32.ofNat i + Int32.ofNat 1 = Int32.ofNat (i + 1)
  rw [Int32.ofNat_add]
theorem own_nat {z : Int32} (h : 0 ≤ z.toInt) : ∃ n : Nat, z = n.toInt32 ∧ z.toInt = n ∧ n < 2 ^ 31 := by
  have r := rng32 z
  refine ⟨z.toInt.toNat, Int32.toInt_inj.mp ?_, by omega, by omega⟩
  rw [len_toInt (by omega)]; omega
def own_y (y0 y1 y2 y3 : Int32) : Nat → Int32
  | 0 => y0
  | 1 => y1
  | 2 => y2
  | _ => y3
def own_at (s e y t : Int32) (i : Int32) : Int32 := if i < s then 0 else if i < e then (if y = t then 1 else 0) else 0
theorem own_expect (y0 y1 y2 y3 t : Int32) (s e : Nat) (hs : s ≤ e) (he : e ≤ 4) : own_any (own_y y0 y1 y2 y3) t (e - s) s =
    if ¬ own_at s.toInt32 e.toInt32 y0 t 0 = 0 then 1 else if ¬ own_at s.toInt32 e.toInt32 y1 t 1 = 0 then 1 else if ¬ own_at s.toInt32 e.toInt32 y2 t 2 = 0 then 1 else if own_at s.toInt32 e.toInt32 y3 t 3 = 0 then 0 else 1 := by
  have key : ∀ (i : Nat) (y : Int32), i < 4 → own_at s.toInt32 e.toInt32 y t i.toInt32 = if s ≤ i ∧ i < e ∧ y = t then 1 else 0 := fun i y hi => by
    unfold own_at
    by_cases h1 : i < s
    · rw [if_pos ((own_lt (by omega) (by omega)).mpr h1), if_neg (by omega)]
    · rw [if_neg (fun q => h1 ((own_lt (by omega) (by omega)).mp q))]
      by_cases h2 : i < e
      · rw [if_pos ((own_lt (by omega) (by omega)).mpr h2)]
        by_cases h3 : y = t
        · rw [if_pos h3, if_pos ⟨by omega, h2, h3⟩]
        · rw [if_neg h3, if_neg (fun q => h3 q.2.2)]
      · rw [if_neg (fun q => h2 ((own_lt (by omega) (by omega)).mp q)), if_neg (fun q => h2 q.2.1)]
  have k0 : own_at s.toInt32 e.toInt32 y0 t 0 = if s ≤ 0 ∧ 0 < e ∧ y0 = t then 1 else 0 := key 0 y0 (by omega)
  have k1 : own_at s.toInt32 e.toInt32 y1 t 1 = if s ≤ 1 ∧ 1 < e ∧ y1 = t then 1 else 0 := key 1 y1 (by omega)
  have k2 : own_at s.toInt32 e.toInt32 y2 t 2 = if s ≤ 2 ∧ 2 < e ∧ y2 = t then 1 else 0 := key 2 y2 (by omega)
  have k3 : own_at s.toInt32 e.toInt32 y3 t 3 = if s ≤ 3 ∧ 3 < e ∧ y3 = t then 1 else 0 := key 3 y3 (by omega)
  rw [k0, k1, k2, k3]
  clear key k0 k1 k2 k3
  have h10 : ¬ (1 : Int32) = 0 := by decide
  by_cases c0 : y0 = t <;> by_cases c1 : y1 = t <;> by_cases c2 : y2 = t <;> by_cases c3 : y3 = t <;>
  (match s, e, hs, he with
  | 0, 0, _, _ => simp [own_any]
  | 0, 1, _, _ => simp [own_any, own_y, c0, c1, c2, c3]
  | 0, 2, _, _ => simp [own_any, own_y, c0, c1, c2, c3]
  | 0, 3, _, _ => simp [own_any, own_y, c0, c1, c2, c3]
  | 0, 4, _, _ => simp [own_any, own_y, c0, c1, c2, c3]
  | 1, 1, _, _ => simp [own_any, own_y, c0, c1, c2, c3]
  | 1, 2, _, _ => simp [own_any, own_y, c0, c1, c2, c3]
  | 1, 3, _, _ => simp [own_any, own_y, c0, c1, c2, c3]
  | 1, 4, _, _ => simp [own_any, own_y, c0, c1, c2, c3]
  | 2, 2, _, _ => simp [own_any, own_y, c0, c1, c2, c3]
  | 2, 3, _, _ => simp [own_any, own_y, c0, c1, c2, c3]
  | 2, 4, _, _ => simp [own_any, own_y, c0, c1, c2, c3]
  | 3, 3, _, _ => simp [own_any, own_y, c0, c1, c2, c3]
  | 3, 4, _, _ => simp [own_any, own_y, c0, c1, c2, c3]
  | 4, 4, _, _ => simp [own_any]
  | n + 5, e, h1, h2 => exact absurd (Nat.le_trans h1 h2) (by omega))
theorem own_ef1 (m : MethodId) (a1 : Addr) (p2 : Int32) (p3 : Int32) (p4 : Int32) (p5 : Int32) : entryFrame m #[(.ref a1), (.int p2), (.int p3), (.int p4), (.int p5)] 5 = mkF m 0 #[.val (.ref a1), .val (.int p2), .val (.int p3), .val (.int p4), .val (.int p5)] [] := by first | (simp [entryFrame, mkF, argsToLocals, Value.category]; done) | rfl
theorem own_d1_0 : decode method_2_code 0 = .ok (.iload_n 2, 1) := by decide +kernel
theorem own_d1_1 : decode method_2_code 1 = .ok (.iload_n 1, 1) := by decide +kernel
theorem own_d1_2 : decode method_2_code 2 = .ok (.if_icmp .gt 20, 3) := by decide +kernel
theorem own_d1_22 : decode method_2_code 22 = .ok (.iconst 0, 1) := by decide +kernel
theorem own_d1_23 : decode method_2_code 23 = .ok (.ireturn, 1) := by decide +kernel
theorem own_d1_5 : decode method_2_code 5 = .ok (.iload_n 1, 1) := by decide +kernel
theorem own_d1_6 : decode method_2_code 6 = .ok (.iload_n 3, 1) := by decide +kernel
theorem own_d1_7 : decode method_2_code 7 = .ok (.if_icmp .ge 15, 3) := by decide +kernel
theorem own_d1_10 : decode method_2_code 10 = .ok (.aload_n 0, 1) := by decide +kernel
theorem own_d1_11 : decode method_2_code 11 = .ok (.iload_n 1, 1) := by decide +kernel
theorem own_d1_12 : decode method_2_code 12 = .ok (.caload, 1) := by decide +kernel
theorem own_d1_13 : decode method_2_code 13 = .ok (.iload 4, 2) := by decide +kernel
theorem own_d1_15 : decode method_2_code 15 = .ok (.if_icmp .ne 7, 3) := by decide +kernel
theorem own_d1_18 : decode method_2_code 18 = .ok (.iconst 1, 1) := by decide +kernel
theorem own_d1_19 : decode method_2_code 19 = .ok (.goto 4, 3) := by decide +kernel
theorem own_pn0 : plainName "com/example/holds_for_transducers/holdsfortransducers/TextListAnyHoldsPinLaw" = true := by first | (simp [plainName, overriddenIn]; done) | decide +kernel
def own_Q1 (Z : State) (p2 : Int32) (p3 : Int32) (p4 : Int32) (p5 : Int32) (y : Int32) (h0 : Heap) (n0 : Nat) (v : Option Value) (h : Heap) (L : List Loc) : Prop := v = some (.int (own_at p3 p4 y p5 p2)) ∧ Fr n0 L ∧ h = h0
set_option maxRecDepth 65536 in
set_option maxHeartbeats 40000000 in
theorem own_rm1 (l : Launch) (Z : State) (a0 : Array Value) (hw : ∀ d ∈ tables_1, d.before a0 Z = true) (ws : List Jvm.Cond) (a1 : Addr) (p2 : Int32) (p3 : Int32) (p4 : Int32) (p5 : Int32) (h0 : Heap) (n0 : Nat) (y0 y1 y2 y3 y : Int32) (ka : ClassId) (V_a1 : Arv Z h0 a1 ka .char (4 : Int32) [(.int y0), (.int y1), (.int y2), (.int y3)] (.int (0 : Int32))) (hlo : ¬ p2 < 0) (hhi : p2 < (4 : Int32)) (hat : ([(.int y0), (.int y1), (.int y2), (.int y3)] : List Value).getD p2.toNatClampNeg (.int (0 : Int32)) = .int y) :
    own_Met l Z (⟨"com/example/holds_for_transducers/holdsfortransducers/TextListAnyHoldsPinLaw", "at", "([CIIIC)Z"⟩ : MethodName) method_2_code 5 (some .boolean) ws ({ frames := 0, cells := 0, slots := 0, locals := 0 } : Room) #[(.ref a1), (.int p2), (.int p3), (.int p4), (.int p5)] h0 (own_Q1 Z p2 p3 p4 p5 y h0 n0) := by
  refine own_met (plainFor_of_name own_pn0) ?_
  intro p e s m below meth c s₁ X0 hx hZ hby hml hown hnm hret hlk e0
  have N0 := Fr.nil n0
  refine own_go (fun t k => castTop (own_ef1 m a1 p2 p3 p4 p5) k) ?_
  show own_Go _ _ _ _ s₁ (mkF m 0 #[.val (.ref a1), .val (.int p2), .val (.int p3), .val (.int p4), .val (.int p5)] [])
  refine own_go (fun _ k => XS.iloadN X0.here hx rfl (hb hby own_d1_0) rfl k) ?_
  show own_Go _ _ _ _ s₁ (mkF m 1 #[.val (.ref a1), .val (.int p2), .val (.int p3), .val (.int p4), .val (.int p5)] [(.int p3)])
  refine own_go (fun _ k => XS.iloadN X0.here hx rfl (hb hby own_d1_1) rfl k) ?_
  show own_Go _ _ _ _ s₁ (mkF m 2 #[.val (.ref a1), .val (.int p2), .val (.int p3), .val (.int p4), .val (.int p5)] [(.int p2), (.int p3)])
  by_cases hC : p2 < p3
  · refine own_go (fun _ k => XS.icmpYes X0.here hx rfl (pc0 := 2) (pc' := 22) rfl (hb hby own_d1_2) rfl (tlt hC).2.2.1 (by decide) (by decide) k) ?_
    show own_Go _ _ _ _ s₁ (mkF m 22 #[.val (.ref a1), .val (.int p2), .val (.int p3), .val (.int p4), .val (.int p5)] [])
    refine own_go (fun _ k => XS.iconst X0.here hx rfl (hb hby own_d1_22) k) ?_
    show own_Go _ _ _ _ s₁ (mkF m 23 #[.val (.ref a1), .val (.int p2), .val (.int p3), .val (.int p4), .val (.int p5)] [(.int (0 : Int32))])
    exact own_end X0 hlk (v := (some (.int (0 : Int32)))) (fun h => by rw [hret] at h; cases h) (fun fs hr => retN X0 hx (t := .boolean) hret (by simp) (hb hby own_d1_23) hr) (by rw [e0]; exact ⟨by rw [own_at, if_pos hC], N0, rfl⟩) (by decide) (by decide)
  · refine own_go (fun _ k => XS.icmpNo X0.here hx rfl (hb hby own_d1_2) rfl (flt hC).2.2.1 k) ?_
    show own_Go _ _ _ _ s₁ (mkF m 5 #[.val (.ref a1), .val (.int p2), .val (.int p3), .val (.int p4), .val (.int p5)] [])
    refine own_go (fun _ k => XS.iloadN X0.here hx rfl (hb hby own_d1_5) rfl k) ?_
    show own_Go _ _ _ _ s₁ (mkF m 6 #[.val (.ref a1), .val (.int p2), .val (.int p3), .val (.int p4), .val (.int p5)] [(.int p2)])
    refine own_go (fun _ k => XS.iloadN X0.here hx rfl (hb hby own_d1_6) rfl k) ?_
    show own_Go _ _ _ _ s₁ (mkF m 7 #[.val (.ref a1), .val (.int p2), .val (.int p3), .val (.int p4), .val (.int p5)] [(.int p4), (.int p2)])
    by_cases hD : p2 < p4
    · refine own_go (fun _ k => XS.icmpNo X0.here hx rfl (hb hby own_d1_7) rfl (tlt hD).2.1 k) ?_
      show own_Go _ _ _ _ s₁ (mkF m 10 #[.val (.ref a1), .val (.int p2), .val (.int p3), .val (.int p4), .val (.int p5)] [])
      refine own_go (fun _ k => XS.aloadN X0.here hx rfl (hb hby own_d1_10) rfl rfl k) ?_
      show own_Go _ _ _ _ s₁ (mkF m 11 #[.val (.ref a1), .val (.int p2), .val (.int p3), .val (.int p4), .val (.int p5)] [(.ref a1)])
      refine own_go (fun _ k => XS.iloadN X0.here hx rfl (hb hby own_d1_11) rfl k) ?_
      show own_Go _ _ _ _ s₁ (mkF m 12 #[.val (.ref a1), .val (.int p2), .val (.int p3), .val (.int p4), .val (.int p5)] [(.int p2), (.ref a1)])
      obtain ⟨clz1, Arz1, qz1, Sz1, Mz1, HHz1, Gz1⟩ := id V_a1
      have hinz1 : ¬ (p2 < 0 ∨ clz1.slots.size ≤ (p2).toNatClampNeg) := inb_of Sz1 ⟨hlo, hhi⟩
      have hatz1 : clz1.slots[(p2).toNatClampNeg]? = some (.int y) := HHz1.at hinz1 (hat)
      refine own_go (fun _ k => X0.caload hx (j := p2) (v := (.int y)) (by rw [e0]; exact Arz1.1) (State.isArrayOf_alike hZ.alike Arz1.2.1) Arz1.2.2 hinz1 hatz1 (g := (mkF m 12 #[.val (.ref a1), .val (.int p2), .val (.int p3), .val (.int p4), .val (.int p5)] [(.int p2), (.ref a1)])) rfl rfl (hb hby own_d1_12) _ k) ?_
      show own_Go _ _ _ _ s₁ (mkF m 13 #[.val (.ref a1), .val (.int p2), .val (.int p3), .val (.int p4), .val (.int p5)] [(.int y)])
      refine own_go (fun _ k => XS.iload X0.here hx rfl (hb hby own_d1_13) rfl k) ?_
      show own_Go _ _ _ _ s₁ (mkF m 15 #[.val (.ref a1), .val (.int p2), .val (.int p3), .val (.int p4), .val (.int p5)] [(.int p5), (.int y)])
      by_cases hE : y = p5
      · refine own_go (fun _ k => XS.icmpNo X0.here hx rfl (hb hby own_d1_15) rfl (teq hE).2 k) ?_
        show own_Go _ _ _ _ s₁ (mkF m 18 #[.val (.ref a1), .val (.int p2), .val (.int p3), .val (.int p4), .val (.int p5)] [])
        refine own_go (fun _ k => XS.iconst X0.here hx rfl (hb hby own_d1_18) k) ?_
        show own_Go _ _ _ _ s₁ (mkF m 19 #[.val (.ref a1), .val (.int p2), .val (.int p3), .val (.int p4), .val (.int p5)] [(.int (1 : Int32))])
        refine own_go (fun _ k => XS.goto X0.here hx rfl (pc0 := 19) (pc' := 23) rfl (hb hby own_d1_19) (by decide) (by decide) k) ?_
        show own_Go _ _ _ _ s₁ (mkF m 23 #[.val (.ref a1), .val (.int p2), .val (.int p3), .val (.int p4), .val (.int p5)] [(.int (1 : Int32))])
        exact own_end X0 hlk (v := (some (.int (1 : Int32)))) (fun h => by rw [hret] at h; cases h) (fun fs hr => retN X0 hx (t := .boolean) hret (by simp) (hb hby own_d1_23) hr) (by rw [e0]; exact ⟨by rw [own_at, if_neg hC, if_pos hD, if_pos hE], N0, rfl⟩) (by decide) (by decide)
      · refine own_go (fun _ k => XS.icmpYes X0.here hx rfl (pc0 := 15) (pc' := 22) rfl (hb hby own_d1_15) rfl (feq hE).2 (by decide) (by decide) k) ?_
        show own_Go _ _ _ _ s₁ (mkF m 22 #[.val (.ref a1), .val (.int p2), .val (.int p3), .val (.int p4), .val (.int p5)] [])
        refine own_go (fun _ k => XS.iconst X0.here hx rfl (hb hby own_d1_22) k) ?_
        show own_Go _ _ _ _ s₁ (mkF m 23 #[.val (.ref a1), .val (.int p2), .val (.int p3), .val (.int p4), .val (.int p5)] [(.int (0 : Int32))])
        exact own_end X0 hlk (v := (some (.int (0 : Int32)))) (fun h => by rw [hret] at h; cases h) (fun fs hr => retN X0 hx (t := .boolean) hret (by simp) (hb hby own_d1_23) hr) (by rw [e0]; exact ⟨by rw [own_at, if_neg hC, if_pos hD, if_neg hE], N0, rfl⟩) (by decide) (by decide)
    · refine own_go (fun _ k => XS.icmpYes X0.here hx rfl (pc0 := 7) (pc' := 22) rfl (hb hby own_d1_7) rfl (flt hD).2.1 (by decide) (by decide) k) ?_
      show own_Go _ _ _ _ s₁ (mkF m 22 #[.val (.ref a1), .val (.int p2), .val (.int p3), .val (.int p4), .val (.int p5)] [])
      refine own_go (fun _ k => XS.iconst X0.here hx rfl (hb hby own_d1_22) k) ?_
      show own_Go _ _ _ _ s₁ (mkF m 23 #[.val (.ref a1), .val (.int p2), .val (.int p3), .val (.int p4), .val (.int p5)] [(.int (0 : Int32))])
      exact own_end X0 hlk (v := (some (.int (0 : Int32)))) (fun h => by rw [hret] at h; cases h) (fun fs hr => retN X0 hx (t := .boolean) hret (by simp) (hb hby own_d1_23) hr) (by rw [e0]; exact ⟨by rw [own_at, if_neg hC, if_neg hD], N0, rfl⟩) (by decide) (by decide)
theorem own_ef4 (m : MethodId) (a1 : Addr) : entryFrame m #[(.ref a1)] 1 = mkF m 0 #[.val (.ref a1)] [] := by first | (simp [entryFrame, mkF, argsToLocals, Value.category]; done) | rfl
theorem own_d4_0 : decode jdk_22_method_1_code 0 = .ok (.aload_n 0, 1) := by decide +kernel
theorem own_d4_1 : decode jdk_22_method_1_code 1 = .ok (.invokespecial 1, 3) := by decide +kernel
theorem own_d4_4 : decode jdk_22_method_1_code 4 = .ok (.return_, 1) := by decide +kernel
theorem own_pn1 : plainName "java/util/AbstractCollection" = true := by first | (simp [plainName, overriddenIn]; done) | decide +kernel
def own_Q4 (Z : State) (a1 : Addr) (h0 : Heap) (n0 : Nat) (v : Option Value) (h : Heap) (L : List Loc) : Prop := v = none ∧ Fr n0 L ∧ h = h0
set_option maxRecDepth 65536 in
set_option maxHeartbeats 40000000 in
theorem own_rm4 (l : Launch) (Z : State) (a0 : Array Value) (hw : ∀ d ∈ tables_1, d.before a0 Z = true) (ws : List Jvm.Cond) (a1 : Addr) (h0 : Heap) (n0 : Nat)  :
    own_Met l Z (⟨"java/util/AbstractCollection", "<init>", "()V"⟩ : MethodName) jdk_22_method_1_code 1 none ws ({ frames := 1, cells := 0, slots := 0, locals := 12 } : Room) #[(.ref a1)] h0 (own_Q4 Z a1 h0 n0) := by
  refine own_met (plainFor_of_name own_pn1) ?_
  intro p e s m below meth c s₁ X0 hx hZ hby hml hown hnm hret hlk e0
  have N0 := Fr.nil n0
  refine own_go (fun t k => castTop (own_ef4 m a1) k) ?_
  show own_Go _ _ _ _ s₁ (mkF m 0 #[.val (.ref a1)] [])
  refine own_go (fun _ k => XS.aloadN X0.here hx rfl (hb hby own_d4_0) rfl rfl k) ?_
  show own_Go _ _ _ _ s₁ (mkF m 1 #[.val (.ref a1)] [(.ref a1)])
  obtain ⟨Tz2, Xz2, ez2, stz2⟩ := initO X0 hx hZ hown (hw _ (List.mem_of_getElem? (i := 24) rfl)) (hw _ (List.mem_of_getElem? (i := 25) rfl)) (hw _ (List.mem_of_getElem? (i := 26) rfl)) e0 (g := (mkF m 1 #[.val (.ref a1)] [(.ref a1)])) rfl (by rw [hml]; rfl) rfl (hb hby own_d4_1) (by decide) (W := 0) (by show 2 * 0 + _ ≤ _; exact Nat.le_of_eq rfl) (by decide)
  refine own_go stz2 ?_
  show own_Go _ _ _ _ Tz2 (mkF m 4 #[.val (.ref a1)] [])
  exact own_end Xz2 hlk (v := none) (fun _ => rfl) (fun fs hr => Xz2.returnOut hx hret (hb hby own_d4_4) hr) (by rw [ez2]; exact ⟨rfl, N0, rfl⟩) (by decide) (by decide)
theorem own_ef3 (m : MethodId) (a1 : Addr) : entryFrame m #[(.ref a1)] 1 = mkF m 0 #[.val (.ref a1)] [] := by first | (simp [entryFrame, mkF, argsToLocals, Value.category]; done) | rfl
theorem own_d3_0 : decode jdk_39_method_1_code 0 = .ok (.aload_n 0, 1) := by decide +kernel
theorem own_d3_1 : decode jdk_39_method_1_code 1 = .ok (.invokespecial 1, 3) := by decide +kernel
theorem own_pd0 : parseMethodDescriptor "()V" = some ⟨[], none⟩ := by decide +kernel
theorem own_d3_4 : decode jdk_39_method_1_code 4 = .ok (.aload_n 0, 1) := by decide +kernel
theorem own_d3_5 : decode jdk_39_method_1_code 5 = .ok (.iconst 0, 1) := by decide +kernel
theorem own_d3_6 : decode jdk_39_method_1_code 6 = .ok (.putfield 7, 3) := by decide +kernel
theorem own_d3_9 : decode jdk_39_method_1_code 9 = .ok (.return_, 1) := by decide +kernel
theorem own_pn2 : plainName "java/util/AbstractList" = true := by first | (simp [plainName, overriddenIn]; done) | decide +kernel
def own_Q3 (Z : State) (a1 : Addr) (h0 : Heap) (n0 : Nat) (v : Option Value) (h : Heap) (L : List Loc) : Prop := v = none ∧ Fr n0 L ∧ Keep h0 h [a1] ∧ Exa Z h a1 "com/example/holds_for_transducers/holdsfortransducers/TextList" ∧ Fld Z h a1 "com/example/holds_for_transducers/holdsfortransducers/TextList" "characters" "[C" .null ∧ Fld Z h a1 "com/example/holds_for_transducers/holdsfortransducers/TextList" "bounds" "[I" .null
set_option maxRecDepth 65536 in
set_option maxHeartbeats 40000000 in
theorem own_rm3 (l : Launch) (Z : State) (a0 : Array Value) (hw : ∀ d ∈ tables_1, d.before a0 Z = true) (ws : List Jvm.Cond) (a1 : Addr) (h0 : Heap) (n0 : Nat) (g_a1 : n0 ≤ a1) (E_a1 : Exa Z h0 a1 "com/example/holds_for_transducers/holdsfortransducers/TextList") (F_modCount_a1 : Fld Z h0 a1 "java/util/AbstractList" "modCount" "I" (.int (0 : Int32))) (F_characters_a1 : Fld Z h0 a1 "com/example/holds_for_transducers/holdsfortransducers/TextList" "characters" "[C" .null) (F_bounds_a1 : Fld Z h0 a1 "com/example/holds_for_transducers/holdsfortransducers/TextList" "bounds" "[I" .null) :
    own_Met l Z (⟨"java/util/AbstractList", "<init>", "()V"⟩ : MethodName) jdk_39_method_1_code 1 none ws ({ frames := 2, cells := 0, slots := 0, locals := 24 } : Room) #[(.ref a1)] h0 (own_Q3 Z a1 h0 n0) := by
  refine own_met (plainFor_of_name own_pn2) ?_
  intro p e s m below meth c s₁ X0 hx hZ hby hml hown hnm hret hlk e0
  have N0 := Fr.nil n0
  refine own_go (fun t k => castTop (own_ef3 m a1) k) ?_
  have K := Keep.refl h0 [a1]
  show own_Go _ _ _ _ s₁ (mkF m 0 #[.val (.ref a1)] [])
  refine own_go (fun _ k => XS.aloadN X0.here hx rfl (hb hby own_d3_0) rfl rfl k) ?_
  show own_Go _ _ _ _ s₁ (mkF m 1 #[.val (.ref a1)] [(.ref a1)])
  obtain ⟨vz3, Tz3, Lz3, Xz3, hQz3, stz3⟩ := own_callI X0 hx hZ rfl hown (hw _ (List.mem_of_getElem? (i := 18) rfl)) (hw _ (List.mem_of_getElem? (i := 19) rfl)) (hw _ (List.mem_of_getElem? (i := 22) rfl)) (hw _ (List.mem_of_getElem? (i := 23) rfl)) (by decide) e0 (own_rm4 l Z a0 hw [] a1 h0 n0) (W := 0) (by decide) (by decide) (by decide) (by decide) own_pd0 rfl (g := (mkF m 1 #[.val (.ref a1)] [(.ref a1)])) (argsL := []) (rest := []) rfl (by rw [hml]; rfl) rfl (by show 2 * 0 + _ ≤ _; exact Nat.le_of_eq rfl) (hb hby own_d3_1)
  obtain ⟨rfl, Nz3q, ehz3⟩ := hQz3
  have Nz3 := Fr.app N0 Nz3q
  refine own_go stz3 ?_
  show own_Go _ _ _ _ Tz3 (mkF m 4 #[.val (.ref a1)] [])
  refine own_go (fun _ k => XS.aloadN Xz3.here hx rfl (hb hby own_d3_4) rfl rfl k) ?_
  show own_Go _ _ _ _ Tz3 (mkF m 5 #[.val (.ref a1)] [(.ref a1)])
  refine own_go (fun _ k => XS.iconst Xz3.here hx rfl (hb hby own_d3_5) k) ?_
  show own_Go _ _ _ _ Tz3 (mkF m 6 #[.val (.ref a1)] [(.int (0 : Int32)), (.ref a1)])
  obtain ⟨Tz4, hz4, Xz4, ez4, Wz4, stz4⟩ := putF Xz3 hx hZ hown (host := "") (Or.inl (hw _ (List.mem_of_getElem? (i := 27) rfl))) Via.refl ehz3 F_modCount_a1 E_a1 (Or.inl (hw _ (List.mem_of_getElem? (i := 28) rfl))) (hw _ (List.mem_of_getElem? (i := 8) rfl)) (ty := .int) (by decide) rfl rfl (g := (mkF m 6 #[.val (.ref a1)] [(.int (0 : Int32)), (.ref a1)])) rfl rfl (hb hby own_d3_6)
  refine own_go stz4 ?_
  have Nz4 := Fr.snoc Xz4 Nz3 g_a1
  have F_modCount_a1_ := F_modCount_a1.same Wz4
  have E_a1 := E_a1.wr Wz4
  have F_characters_a1 := F_characters_a1.other Wz4 (Or.inr (slot_ne (Or.inr (hw _ (List.mem_of_getElem? (i := 30) rfl))) (Or.inl (hw _ (List.mem_of_getElem? (i := 28) rfl))) (by decide) (t := (.array .char)) (t' := .int) (by decide) (by decide)))
  have F_bounds_a1 := F_bounds_a1.other Wz4 (Or.inr (slot_ne (Or.inr (hw _ (List.mem_of_getElem? (i := 32) rfl))) (Or.inl (hw _ (List.mem_of_getElem? (i := 28) rfl))) (by decide) (t := (.array .int)) (t' := .int) (by decide) (by decide)))
  have K := K.wr Wz4 (Or.inl (List.mem_of_getElem? (i := 0) rfl))
  have F_modCount_a1 := F_modCount_a1_
  show own_Go _ _ _ _ Tz4 (mkF m 9 #[.val (.ref a1)] [])
  exact own_end Xz4 hlk (v := none) (fun _ => rfl) (fun fs hr => Xz4.returnOut hx hret (hb hby own_d3_9) hr) (by rw [ez4]; exact ⟨rfl, Nz4, K, E_a1, F_characters_a1, F_bounds_a1⟩) (by decide) (by decide)
theorem own_ef2 (m : MethodId) (a1 : Addr) (a2 : Addr) (a3 : Addr) : entryFrame m #[(.ref a1), (.ref a2), (.ref a3)] 3 = mkF m 0 #[.val (.ref a1), .val (.ref a2), .val (.ref a3)] [] := by first | (simp [entryFrame, mkF, argsToLocals, Value.category]; done) | rfl
theorem own_d2_0 : decode prog_112_method_1_code 0 = .ok (.aload_n 0, 1) := by decide +kernel
theorem own_d2_1 : decode prog_112_method_1_code 1 = .ok (.invokespecial 1, 3) := by decide +kernel
theorem own_d2_4 : decode prog_112_method_1_code 4 = .ok (.aload_n 0, 1) := by decide +kernel
theorem own_d2_5 : decode prog_112_method_1_code 5 = .ok (.aload_n 1, 1) := by decide +kernel
theorem own_d2_6 : decode prog_112_method_1_code 6 = .ok (.putfield 7, 3) := by decide +kernel
theorem own_d2_9 : decode prog_112_method_1_code 9 = .ok (.aload_n 0, 1) := by decide +kernel
theorem own_d2_10 : decode prog_112_method_1_code 10 = .ok (.aload_n 2, 1) := by decide +kernel
theorem own_d2_11 : decode prog_112_method_1_code 11 = .ok (.putfield 13, 3) := by decide +kernel
theorem own_d2_14 : decode prog_112_method_1_code 14 = .ok (.return_, 1) := by decide +kernel
theorem own_pn3 : plainName "com/example/holds_for_transducers/holdsfortransducers/TextList" = true := by first | (simp [plainName, overriddenIn]; done) | decide +kernel
def own_Q2 (Z : State) (a1 : Addr) (a2 : Addr) (a3 : Addr) (h0 : Heap) (n0 : Nat) (v : Option Value) (h : Heap) (L : List Loc) : Prop := v = none ∧ Fr n0 L ∧ Keep h0 h [a1] ∧ Exa Z h a1 "com/example/holds_for_transducers/holdsfortransducers/TextList" ∧ Fld Z h a1 "com/example/holds_for_transducers/holdsfortransducers/TextList" "characters" "[C" (.ref a2) ∧ Fld Z h a1 "com/example/holds_for_transducers/holdsfortransducers/TextList" "bounds" "[I" (.ref a3)
set_option maxRecDepth 65536 in
set_option maxHeartbeats 40000000 in
theorem own_rm2 (l : Launch) (Z : State) (a0 : Array Value) (hw : ∀ d ∈ tables_1, d.before a0 Z = true) (ws : List Jvm.Cond) (a1 : Addr) (a2 : Addr) (a3 : Addr) (h0 : Heap) (n0 : Nat) (g_a1 : n0 ≤ a1) (E_a1 : Exa Z h0 a1 "com/example/holds_for_transducers/holdsfortransducers/TextList") (F_modCount_a1 : Fld Z h0 a1 "java/util/AbstractList" "modCount" "I" (.int (0 : Int32))) (F_characters_a1 : Fld Z h0 a1 "com/example/holds_for_transducers/holdsfortransducers/TextList" "characters" "[C" .null) (F_bounds_a1 : Fld Z h0 a1 "com/example/holds_for_transducers/holdsfortransducers/TextList" "bounds" "[I" .null) :
    own_Met l Z (⟨"com/example/holds_for_transducers/holdsfortransducers/TextList", "<init>", "([C[I)V"⟩ : MethodName) prog_112_method_1_code 3 none ws ({ frames := 3, cells := 0, slots := 0, locals := 36 } : Room) #[(.ref a1), (.ref a2), (.ref a3)] h0 (own_Q2 Z a1 a2 a3 h0 n0) := by
  refine own_met (plainFor_of_name own_pn3) ?_
  intro p e s m below meth c s₁ X0 hx hZ hby hml hown hnm hret hlk e0
  have N0 := Fr.nil n0
  refine own_go (fun t k => castTop (own_ef2 m a1 a2 a3) k) ?_
  have K := Keep.refl h0 [a1]
  show own_Go _ _ _ _ s₁ (mkF m 0 #[.val (.ref a1), .val (.ref a2), .val (.ref a3)] [])
  refine own_go (fun _ k => XS.aloadN X0.here hx rfl (hb hby own_d2_0) rfl rfl k) ?_
  show own_Go _ _ _ _ s₁ (mkF m 1 #[.val (.ref a1), .val (.ref a2), .val (.ref a3)] [(.ref a1)])
  obtain ⟨vz5, Tz5, Lz5, Xz5, hQz5, stz5⟩ := own_callI X0 hx hZ rfl hown (hw _ (List.mem_of_getElem? (i := 13) rfl)) (hw _ (List.mem_of_getElem? (i := 14) rfl)) (hw _ (List.mem_of_getElem? (i := 16) rfl)) (hw _ (List.mem_of_getElem? (i := 17) rfl)) (by decide) e0 (own_rm3 l Z a0 hw [] a1 h0 n0 g_a1 E_a1 F_modCount_a1 F_characters_a1 F_bounds_a1) (W := 0) (by decide) (by decide) (by decide) (by decide) own_pd0 rfl (g := (mkF m 1 #[.val (.ref a1), .val (.ref a2), .val (.ref a3)] [(.ref a1)])) (argsL := []) (rest := []) rfl (by rw [hml]; rfl) rfl (by show 2 * 0 + _ ≤ _; exact Nat.le_of_eq rfl) (hb hby own_d2_1)
  obtain ⟨rfl, Nz5q, Kz5, c1_z5, c2_z5, c3_z5⟩ := hQz5
  have Nz5 := Fr.app N0 Nz5q
  refine own_go stz5 ?_
  have K := K.trans Kz5 (allS (Or.inl (List.mem_of_getElem? (i := 0) rfl)) all0)
  have E_a1 := c1_z5
  have F_characters_a1 := c2_z5
  have F_bounds_a1 := c3_z5
  show own_Go _ _ _ _ Tz5 (mkF m 4 #[.val (.ref a1), .val (.ref a2), .val (.ref a3)] [])
  refine own_go (fun _ k => XS.aloadN Xz5.here hx rfl (hb hby own_d2_4) rfl rfl k) ?_
  show own_Go _ _ _ _ Tz5 (mkF m 5 #[.val (.ref a1), .val (.ref a2), .val (.ref a3)] [(.ref a1)])
  refine own_go (fun _ k => XS.aloadN Xz5.here hx rfl (hb hby own_d2_5) rfl rfl k) ?_
  show own_Go _ _ _ _ Tz5 (mkF m 6 #[.val (.ref a1), .val (.ref a2), .val (.ref a3)] [(.ref a2), (.ref a1)])
  obtain ⟨Tz6, hz6, Xz6, ez6, Wz6, stz6⟩ := putF Xz5 hx hZ hown (host := "") (Or.inl (hw _ (List.mem_of_getElem? (i := 29) rfl))) Via.refl rfl F_characters_a1 E_a1 (Or.inr ⟨(hw _ (List.mem_of_getElem? (i := 30) rfl)), rfl, hnm⟩) (hw _ (List.mem_of_getElem? (i := 8) rfl)) (ty := (.array .char)) (by decide) rfl rfl (g := (mkF m 6 #[.val (.ref a1), .val (.ref a2), .val (.ref a3)] [(.ref a2), (.ref a1)])) rfl rfl (hb hby own_d2_6)
  refine own_go stz6 ?_
  have Nz6 := Fr.snoc Xz6 Nz5 g_a1
  have F_characters_a1_ := F_characters_a1.same Wz6
  have K := K.wr Wz6 (Or.inl (List.mem_of_getElem? (i := 0) rfl))
  have E_a1 := E_a1.wr Wz6
  have F_bounds_a1 := F_bounds_a1.other Wz6 (Or.inr (slot_ne (Or.inr (hw _ (List.mem_of_getElem? (i := 32) rfl))) (Or.inr (hw _ (List.mem_of_getElem? (i := 30) rfl))) (by decide) (t := (.array .int)) (t' := (.array .char)) (by decide) (by decide)))
  have F_characters_a1 := F_characters_a1_
  show own_Go _ _ _ _ Tz6 (mkF m 9 #[.val (.ref a1), .val (.ref a2), .val (.ref a3)] [])
  refine own_go (fun _ k => XS.aloadN Xz6.here hx rfl (hb hby own_d2_9) rfl rfl k) ?_
  show own_Go _ _ _ _ Tz6 (mkF m 10 #[.val (.ref a1), .val (.ref a2), .val (.ref a3)] [(.ref a1)])
  refine own_go (fun _ k => XS.aloadN Xz6.here hx rfl (hb hby own_d2_10) rfl rfl k) ?_
  show own_Go _ _ _ _ Tz6 (mkF m 11 #[.val (.ref a1), .val (.ref a2), .val (.ref a3)] [(.ref a3), (.ref a1)])
  obtain ⟨Tz7, hz7, Xz7, ez7, Wz7, stz7⟩ := putF Xz6 hx hZ hown (host := "") (Or.inl (hw _ (List.mem_of_getElem? (i := 31) rfl))) Via.refl ez6 F_bounds_a1 E_a1 (Or.inr ⟨(hw _ (List.mem_of_getElem? (i := 32) rfl)), rfl, hnm⟩) (hw _ (List.mem_of_getElem? (i := 8) rfl)) (ty := (.array .int)) (by decide) rfl rfl (g := (mkF m 11 #[.val (.ref a1), .val (.ref a2), .val (.ref a3)] [(.ref a3), (.ref a1)])) rfl rfl (hb hby own_d2_11)
  refine own_go stz7 ?_
  have Nz7 := Fr.snoc Xz7 Nz6 g_a1
  have F_bounds_a1_ := F_bounds_a1.same Wz7
  have K := K.wr Wz7 (Or.inl (List.mem_of_getElem? (i := 0) rfl))
  have E_a1 := E_a1.wr Wz7
  have F_characters_a1 := F_characters_a1.other Wz7 (Or.inr (slot_ne (Or.inr (hw _ (List.mem_of_getElem? (i := 30) rfl))) (Or.inr (hw _ (List.mem_of_getElem? (i := 32) rfl))) (by decide) (t := (.array .char)) (t' := (.array .int)) (by decide) (by decide)))
  have F_bounds_a1 := F_bounds_a1_
  show own_Go _ _ _ _ Tz7 (mkF m 14 #[.val (.ref a1), .val (.ref a2), .val (.ref a3)] [])
  exact own_end Xz7 hlk (v := none) (fun _ => rfl) (fun fs hr => Xz7.returnOut hx hret (hb hby own_d2_14) hr) (by rw [ez7]; exact ⟨rfl, Nz7, K, E_a1, F_characters_a1, F_bounds_a1⟩) (by decide) (by decide)
theorem own_ychar (y0 y1 y2 y3 : Int32) (i : Nat) (h : i < 4) : ([(.int y0), (.int y1), (.int y2), (.int y3)] : List Value).getD i (.int (0 : Int32)) = .int (own_y y0 y1 y2 y3 i) := by
  match i, h with
  | 0, _ => rfl
  | 1, _ => rfl
  | 2, _ => rfl
  | 3, _ => rfl
theorem own_ef6 (m : MethodId) (a1 : Addr) (p2 : Int32) : entryFrame m #[(.ref a1), (.int p2)] 4 = mkF m 0 #[.val (.ref a1), .val (.int p2), .unset, .unset] [] := by first | (simp [entryFrame, mkF, argsToLocals, Value.category]; done) | rfl
theorem own_d6_0 : decode prog_112_method_4_code 0 = .ok (.iconst 0, 1) := by decide +kernel
theorem own_d6_1 : decode prog_112_method_4_code 1 = .ok (.istore_n 2, 1) := by decide +kernel
theorem own_d6_2 : decode prog_112_method_4_code 2 = .ok (.aload_n 0, 1) := by decide +kernel
theorem own_d6_3 : decode prog_112_method_4_code 3 = .ok (.getfield 13, 3) := by decide +kernel
theorem own_d6_6 : decode prog_112_method_4_code 6 = .ok (.iconst 0, 1) := by decide +kernel
theorem own_d6_7 : decode prog_112_method_4_code 7 = .ok (.iaload, 1) := by decide +kernel
theorem own_d6_8 : decode prog_112_method_4_code 8 = .ok (.istore_n 3, 1) := by decide +kernel
theorem own_d6_9 : decode prog_112_method_4_code 9 = .ok (.iload_n 2, 1) := by decide +kernel
theorem own_d6_10 : decode prog_112_method_4_code 10 = .ok (.ifCond .ne 41, 3) := by decide +kernel
theorem own_d6_13 : decode prog_112_method_4_code 13 = .ok (.iload_n 3, 1) := by decide +kernel
theorem own_d6_14 : decode prog_112_method_4_code 14 = .ok (.aload_n 0, 1) := by decide +kernel
theorem own_d6_15 : decode prog_112_method_4_code 15 = .ok (.getfield 13, 3) := by decide +kernel
theorem own_d6_18 : decode prog_112_method_4_code 18 = .ok (.aload_n 0, 1) := by decide +kernel
theorem own_d6_19 : decode prog_112_method_4_code 19 = .ok (.getfield 13, 3) := by decide +kernel
theorem own_d6_22 : decode prog_112_method_4_code 22 = .ok (.arraylength, 1) := by decide +kernel
theorem own_d6_23 : decode prog_112_method_4_code 23 = .ok (.iconst 1, 1) := by decide +kernel
theorem own_d6_24 : decode prog_112_method_4_code 24 = .ok (.isub, 1) := by decide +kernel
theorem own_d6_25 : decode prog_112_method_4_code 25 = .ok (.iaload, 1) := by decide +kernel
theorem own_d6_26 : decode prog_112_method_4_code 26 = .ok (.if_icmp .ge 25, 3) := by decide +kernel
theorem own_d6_51 : decode prog_112_method_4_code 51 = .ok (.iload_n 2, 1) := by decide +kernel
theorem own_d6_52 : decode prog_112_method_4_code 52 = .ok (.ireturn, 1) := by decide +kernel
theorem own_d6_29 : decode prog_112_method_4_code 29 = .ok (.aload_n 0, 1) := by decide +kernel
theorem own_d6_30 : decode prog_112_method_4_code 30 = .ok (.getfield 7, 3) := by decide +kernel
theorem own_d6_33 : decode prog_112_method_4_code 33 = .ok (.iload_n 3, 1) := by decide +kernel
theorem own_d6_34 : decode prog_112_method_4_code 34 = .ok (.caload, 1) := by decide +kernel
theorem own_d6_35 : decode prog_112_method_4_code 35 = .ok (.iload_n 1, 1) := by decide +kernel
theorem own_d6_36 : decode prog_112_method_4_code 36 = .ok (.if_icmp .ne 7, 3) := by decide +kernel
theorem own_d6_39 : decode prog_112_method_4_code 39 = .ok (.iconst 1, 1) := by decide +kernel
theorem own_d6_40 : decode prog_112_method_4_code 40 = .ok (.goto 4, 3) := by decide +kernel
theorem own_d6_44 : decode prog_112_method_4_code 44 = .ok (.istore_n 2, 1) := by decide +kernel
theorem own_d6_45 : decode prog_112_method_4_code 45 = .ok (.iinc 3 1, 3) := by decide +kernel
theorem own_d6_48 : decode prog_112_method_4_code 48 = .ok (.goto (-39), 3) := by decide +kernel
theorem own_d6_43 : decode prog_112_method_4_code 43 = .ok (.iconst 0, 1) := by decide +kernel
def own_Q6 (Z : State) (p2 : Int32) (y0 : Int32) (y1 : Int32) (y2 : Int32) (y3 : Int32) (sn : Nat) (en : Nat) (h0 : Heap) (n0 : Nat) (v : Option Value) (h : Heap) (L : List Loc) : Prop := v = some (.int (own_any (own_y y0 y1 y2 y3) p2 (en - sn) sn)) ∧ Fr n0 L ∧ h = h0
set_option maxRecDepth 65536 in
set_option maxHeartbeats 40000000 in
theorem own_rm6 (l : Launch) (Z : State) (a0 : Array Value) (hw : ∀ d ∈ tables_1, d.before a0 Z = true) (ws : List Jvm.Cond) (a1 : Addr) (p2 : Int32) (h0 : Heap) (n0 : Nat) (y0 y1 y2 y3 : Int32) (sn en : Nat) (hse : sn ≤ en) (hen : en ≤ 4) (ac ab : Addr) (kc kb : ClassId) (nb : Int32) (bs : List Value) (F_characters_a1 : Fld Z h0 a1 "com/example/holds_for_transducers/holdsfortransducers/TextList" "characters" "[C" (.ref ac)) (F_bounds_a1 : Fld Z h0 a1 "com/example/holds_for_transducers/holdsfortransducers/TextList" "bounds" "[I" (.ref ab)) (V_ac : Arv Z h0 ac kc .char (4 : Int32) [(.int y0), (.int y1), (.int y2), (.int y3)] (.int (0 : Int32))) (V_ab : Arv Z h0 ab kb .int nb bs (.int (0 : Int32))) (hb0 : bs.getD (0 : Int32).toNatClampNeg (.int (0 : Int32)) = .int sn.toInt32) (hb1 : (0 : Int32) < nb) (hb2 : ¬ (nb - (1 : Int32)) < 0) (hb3 : (nb - (1 : Int32)) < nb) (hb4 : bs.getD (nb - (1 : Int32)).toNatClampNeg (.int (0 : Int32)) = .int en.toInt32) :
    own_Met l Z (⟨"com/example/holds_for_transducers/holdsfortransducers/TextList", "anyHolds", "(C)Z"⟩ : MethodName) prog_112_method_4_code 4 (some .boolean) ws ({ frames := 0, cells := 0, slots := 0, locals := 0 } : Room) #[(.ref a1), (.int p2)] h0 (own_Q6 Z p2 y0 y1 y2 y3 sn en h0 n0) := by
  refine own_met (plainFor_of_name own_pn3) ?_
  intro p e s m below meth c s₁ X0 hx hZ hby hml hown hnm hret hlk e0
  have N0 := Fr.nil n0
  refine own_go (fun t k => castTop (own_ef6 m a1 p2) k) ?_
  show own_Go _ _ _ _ s₁ (mkF m 0 #[.val (.ref a1), .val (.int p2), .unset, .unset] [])
  refine own_go (fun _ k => XS.iconst X0.here hx rfl (hb hby own_d6_0) k) ?_
  show own_Go _ _ _ _ s₁ (mkF m 1 #[.val (.ref a1), .val (.int p2), .unset, .unset] [(.int (0 : Int32))])
  refine own_go (fun _ k => XS.istoreN X0.here hx rfl (hb hby own_d6_1) rfl (l' := #[.val (.ref a1), .val (.int p2), .val (.int (0 : Int32)), .unset]) rfl k) ?_
  show own_Go _ _ _ _ s₁ (mkF m 2 #[.val (.ref a1), .val (.int p2), .val (.int (0 : Int32)), .unset] [])
  refine own_go (fun _ k => XS.aloadN X0.here hx rfl (hb hby own_d6_2) rfl rfl k) ?_
  show own_Go _ _ _ _ s₁ (mkF m 3 #[.val (.ref a1), .val (.int p2), .val (.int (0 : Int32)), .unset] [(.ref a1)])
  obtain ⟨Tz8, Xz8, ez8, stz8⟩ := getF X0 hx hZ hown (host := "") (Or.inl (hw _ (List.mem_of_getElem? (i := 31) rfl))) Via.refl e0 F_bounds_a1 (g := (mkF m 3 #[.val (.ref a1), .val (.int p2), .val (.int (0 : Int32)), .unset] [(.ref a1)])) rfl rfl (hb hby own_d6_3)
  refine own_go stz8 ?_
  show own_Go _ _ _ _ Tz8 (mkF m 6 #[.val (.ref a1), .val (.int p2), .val (.int (0 : Int32)), .unset] [(.ref ab)])
  refine own_go (fun _ k => XS.iconst Xz8.here hx rfl (hb hby own_d6_6) k) ?_
  show own_Go _ _ _ _ Tz8 (mkF m 7 #[.val (.ref a1), .val (.int p2), .val (.int (0 : Int32)), .unset] [(.int (0 : Int32)), (.ref ab)])
  obtain ⟨clz9, Arz9, qz9, Sz9, Mz9, HHz9, Gz9⟩ := id V_ab
  have hinz9 : ¬ ((0 : Int32) < 0 ∨ clz9.slots.size ≤ ((0 : Int32)).toNatClampNeg) := inb_of Sz9 ⟨(by decide), hb1⟩
  have hatz9 : clz9.slots[((0 : Int32)).toNatClampNeg]? = some (.int sn.toInt32) := HHz9.at hinz9 (hb0)
  refine own_go (fun _ k => Xz8.iaload hx (j := (0 : Int32)) (v := (.int sn.toInt32)) (by rw [ez8]; exact Arz9.1) (State.isArrayOf_alike hZ.alike Arz9.2.1) Arz9.2.2 hinz9 hatz9 (g := (mkF m 7 #[.val (.ref a1), .val (.int p2), .val (.int (0 : Int32)), .unset] [(.int (0 : Int32)), (.ref ab)])) rfl rfl (hb hby own_d6_7) _ k) ?_
  show own_Go _ _ _ _ Tz8 (mkF m 8 #[.val (.ref a1), .val (.int p2), .val (.int (0 : Int32)), .unset] [(.int sn.toInt32)])
  refine own_go (fun _ k => XS.istoreN Xz8.here hx rfl (hb hby own_d6_8) rfl (l' := #[.val (.ref a1), .val (.int p2), .val (.int (0 : Int32)), .val (.int sn.toInt32)]) rfl k) ?_
  show own_Go _ _ _ _ Tz8 (mkF m 9 #[.val (.ref a1), .val (.int p2), .val (.int (0 : Int32)), .val (.int sn.toInt32)] [])
  have loop : ∀ (k i : Nat) (T : State) (X : Stand p l e ({ frames := 0, cells := 0, slots := 0, locals := 0 } : Room) s m #[(.ref a1), (.int p2)] below meth c T [] 0 0) (eT : T.heap = h0), i + k = en → own_any (own_y y0 y1 y2 y3) p2 (en - sn) sn = own_any (own_y y0 y1 y2 y3) p2 k i → own_Go p e below (own_Fin s (own_Q6 Z p2 y0 y1 y2 y3 sn en h0 n0) ({ frames := 0, cells := 0, slots := 0, locals := 0 } : Room).cells ({ frames := 0, cells := 0, slots := 0, locals := 0 } : Room).slots) T (mkF m 9 #[.val (.ref a1), .val (.int p2), .val (.int (0 : Int32)), .val (.int i.toInt32)] []) := by
    intro k
    induction k with
    | zero =>
      intro i T X eT hik hv
      have hi31 : i < 2 ^ 31 := by omega
      show own_Go _ _ _ _ T (mkF m 9 #[.val (.ref a1), .val (.int p2), .val (.int (0 : Int32)), .val (.int i.toInt32)] [])
      refine own_go (fun _ k => XS.iloadN X.here hx rfl (hb hby own_d6_9) rfl k) ?_
      show own_Go _ _ _ _ T (mkF m 10 #[.val (.ref a1), .val (.int p2), .val (.int (0 : Int32)), .val (.int i.toInt32)] [(.int (0 : Int32))])
      refine own_go (fun _ k => XS.ifNo X.here hx rfl (hb hby own_d6_10) rfl ((if0 _ _).trans (teq (by decide : (0 : Int32) = (0 : Int32))).2) k) ?_
      show own_Go _ _ _ _ T (mkF m 13 #[.val (.ref a1), .val (.int p2), .val (.int (0 : Int32)), .val (.int i.toInt32)] [])
      refine own_go (fun _ k => XS.iloadN X.here hx rfl (hb hby own_d6_13) rfl k) ?_
      show own_Go _ _ _ _ T (mkF m 14 #[.val (.ref a1), .val (.int p2), .val (.int (0 : Int32)), .val (.int i.toInt32)] [(.int i.toInt32)])
      refine own_go (fun _ k => XS.aloadN X.here hx rfl (hb hby own_d6_14) rfl rfl k) ?_
      show own_Go _ _ _ _ T (mkF m 15 #[.val (.ref a1), .val (.int p2), .val (.int (0 : Int32)), .val (.int i.toInt32)] [(.ref a1), (.int i.toInt32)])
      obtain ⟨Tz10, Xz10, ez10, stz10⟩ := getF X hx hZ hown (host := "") (Or.inl (hw _ (List.mem_of_getElem? (i := 31) rfl))) Via.refl eT F_bounds_a1 (g := (mkF m 15 #[.val (.ref a1), .val (.int p2), .val (.int (0 : Int32)), .val (.int i.toInt32)] [(.ref a1), (.int i.toInt32)])) rfl rfl (hb hby own_d6_15)
      refine own_go stz10 ?_
      show own_Go _ _ _ _ Tz10 (mkF m 18 #[.val (.ref a1), .val (.int p2), .val (.int (0 : Int32)), .val (.int i.toInt32)] [(.ref ab), (.int i.toInt32)])
      refine own_go (fun _ k => XS.aloadN Xz10.here hx rfl (hb hby own_d6_18) rfl rfl k) ?_
      show own_Go _ _ _ _ Tz10 (mkF m 19 #[.val (.ref a1), .val (.int p2), .val (.int (0 : Int32)), .val (.int i.toInt32)] [(.ref a1), (.ref ab), (.int i.toInt32)])
      obtain ⟨Tz11, Xz11, ez11, stz11⟩ := getF Xz10 hx hZ hown (host := "") (Or.inl (hw _ (List.mem_of_getElem? (i := 31) rfl))) Via.refl ez10 F_bounds_a1 (g := (mkF m 19 #[.val (.ref a1), .val (.int p2), .val (.int (0 : Int32)), .val (.int i.toInt32)] [(.ref a1), (.ref ab), (.int i.toInt32)])) rfl rfl (hb hby own_d6_19)
      refine own_go stz11 ?_
      show own_Go _ _ _ _ Tz11 (mkF m 22 #[.val (.ref a1), .val (.int p2), .val (.int (0 : Int32)), .val (.int i.toInt32)] [(.ref ab), (.ref ab), (.int i.toInt32)])
      obtain ⟨clz12, Arz12, qz12, Sz12, Mz12, HHz12, Gz12⟩ := id V_ab
      refine own_go (fun _ k => Xz11.arraylength hx (by rw [ez11]; exact Arz12.1) (State.isArrayOf_alike hZ.alike Arz12.2.1) (g := (mkF m 22 #[.val (.ref a1), .val (.int p2), .val (.int (0 : Int32)), .val (.int i.toInt32)] [(.ref ab), (.ref ab), (.int i.toInt32)])) rfl rfl (hb hby own_d6_22) _ k) ?_
      rw [len_of Sz12 Mz12]
      show own_Go _ _ _ _ Tz11 (mkF m 23 #[.val (.ref a1), .val (.int p2), .val (.int (0 : Int32)), .val (.int i.toInt32)] [(.int nb), (.ref ab), (.int i.toInt32)])
      refine own_go (fun _ k => XS.iconst Xz11.here hx rfl (hb hby own_d6_23) k) ?_
      show own_Go _ _ _ _ Tz11 (mkF m 24 #[.val (.ref a1), .val (.int p2), .val (.int (0 : Int32)), .val (.int i.toInt32)] [(.int (1 : Int32)), (.int nb), (.ref ab), (.int i.toInt32)])
      refine own_go (fun _ k => XS.isub Xz11.here hx rfl (hb hby own_d6_24) rfl k) ?_
      show own_Go _ _ _ _ Tz11 (mkF m 25 #[.val (.ref a1), .val (.int p2), .val (.int (0 : Int32)), .val (.int i.toInt32)] [(.int (nb - (1 : Int32))), (.ref ab), (.int i.toInt32)])
      obtain ⟨clz13, Arz13, qz13, Sz13, Mz13, HHz13, Gz13⟩ := id V_ab
      have hinz13 : ¬ ((nb - (1 : Int32)) < 0 ∨ clz13.slots.size ≤ ((nb - (1 : Int32))).toNatClampNeg) := inb_of Sz13 ⟨hb2, hb3⟩
      have hatz13 : clz13.slots[((nb - (1 : Int32))).toNatClampNeg]? = some (.int en.toInt32) := HHz13.at hinz13 (hb4)
      refine own_go (fun _ k => Xz11.iaload hx (j := (nb - (1 : Int32))) (v := (.int en.toInt32)) (by rw [ez11]; exact Arz13.1) (State.isArrayOf_alike hZ.alike Arz13.2.1) Arz13.2.2 hinz13 hatz13 (g := (mkF m 25 #[.val (.ref a1), .val (.int p2), .val (.int (0 : Int32)), .val (.int i.toInt32)] [(.int (nb - (1 : Int32))), (.ref ab), (.int i.toInt32)])) rfl rfl (hb hby own_d6_25) _ k) ?_
      show own_Go _ _ _ _ Tz11 (mkF m 26 #[.val (.ref a1), .val (.int p2), .val (.int (0 : Int32)), .val (.int i.toInt32)] [(.int en.toInt32), (.int i.toInt32)])
      refine own_go (fun _ k => XS.icmpYes Xz11.here hx rfl (pc0 := 26) (pc' := 51) rfl (hb hby own_d6_26) rfl (flt (fun q => absurd ((own_lt hi31 (by omega)).mp q) (by omega))).2.1 (by decide) (by decide) k) ?_
      show own_Go _ _ _ _ Tz11 (mkF m 51 #[.val (.ref a1), .val (.int p2), .val (.int (0 : Int32)), .val (.int i.toInt32)] [])
      refine own_go (fun _ k => XS.iloadN Xz11.here hx rfl (hb hby own_d6_51) rfl k) ?_
      show own_Go _ _ _ _ Tz11 (mkF m 52 #[.val (.ref a1), .val (.int p2), .val (.int (0 : Int32)), .val (.int i.toInt32)] [(.int (0 : Int32))])
      have hv : own_any (own_y y0 y1 y2 y3) p2 (en - sn) sn = 0 := hv
      exact own_end Xz11 hlk (v := (some (.int (0 : Int32)))) (fun h => by rw [hret] at h; cases h) (fun fs hr => retN Xz11 hx (t := .boolean) hret (by simp) (hb hby own_d6_52) hr) (by rw [ez11]; exact ⟨by rw [hv], N0, rfl⟩) (by decide) (by decide)
    | succ k ih =>
      intro i T X eT hik hv
      have hi31 : i < 2 ^ 31 := by omega
      show own_Go _ _ _ _ T (mkF m 9 #[.val (.ref a1), .val (.int p2), .val (.int (0 : Int32)), .val (.int i.toInt32)] [])
      refine own_go (fun _ k => XS.iloadN X.here hx rfl (hb hby own_d6_9) rfl k) ?_
      show own_Go _ _ _ _ T (mkF m 10 #[.val (.ref a1), .val (.int p2), .val (.int (0 : Int32)), .val (.int i.toInt32)] [(.int (0 : Int32))])
      refine own_go (fun _ k => XS.ifNo X.here hx rfl (hb hby own_d6_10) rfl ((if0 _ _).trans (teq (by decide : (0 : Int32) = (0 : Int32))).2) k) ?_
      show own_Go _ _ _ _ T (mkF m 13 #[.val (.ref a1), .val (.int p2), .val (.int (0 : Int32)), .val (.int i.toInt32)] [])
      refine own_go (fun _ k => XS.iloadN X.here hx rfl (hb hby own_d6_13) rfl k) ?_
      show own_Go _ _ _ _ T (mkF m 14 #[.val (.ref a1), .val (.int p2), .val (.int (0 : Int32)), .val (.int i.toInt32)] [(.int i.toInt32)])
      refine own_go (fun _ k => XS.aloadN X.here hx rfl (hb hby own_d6_14) rfl rfl k) ?_
      show own_Go _ _ _ _ T (mkF m 15 #[.val (.ref a1), .val (.int p2), .val (.int (0 : Int32)), .val (.int i.toInt32)] [(.ref a1), (.int i.toInt32)])
      obtain ⟨Tz14, Xz14, ez14, stz14⟩ := getF X hx hZ hown (host := "") (Or.inl (hw _ (List.mem_of_getElem? (i := 31) rfl))) Via.refl eT F_bounds_a1 (g := (mkF m 15 #[.val (.ref a1), .val (.int p2), .val (.int (0 : Int32)), .val (.int i.toInt32)] [(.ref a1), (.int i.toInt32)])) rfl rfl (hb hby own_d6_15)
      refine own_go stz14 ?_
      show own_Go _ _ _ _ Tz14 (mkF m 18 #[.val (.ref a1), .val (.int p2), .val (.int (0 : Int32)), .val (.int i.toInt32)] [(.ref ab), (.int i.toInt32)])
      refine own_go (fun _ k => XS.aloadN Xz14.here hx rfl (hb hby own_d6_18) rfl rfl k) ?_
      show own_Go _ _ _ _ Tz14 (mkF m 19 #[.val (.ref a1), .val (.int p2), .val (.int (0 : Int32)), .val (.int i.toInt32)] [(.ref a1), (.ref ab), (.int i.toInt32)])
      obtain ⟨Tz15, Xz15, ez15, stz15⟩ := getF Xz14 hx hZ hown (host := "") (Or.inl (hw _ (List.mem_of_getElem? (i := 31) rfl))) Via.refl ez14 F_bounds_a1 (g := (mkF m 19 #[.val (.ref a1), .val (.int p2), .val (.int (0 : Int32)), .val (.int i.toInt32)] [(.ref a1), (.ref ab), (.int i.toInt32)])) rfl rfl (hb hby own_d6_19)
      refine own_go stz15 ?_
      show own_Go _ _ _ _ Tz15 (mkF m 22 #[.val (.ref a1), .val (.int p2), .val (.int (0 : Int32)), .val (.int i.toInt32)] [(.ref ab), (.ref ab), (.int i.toInt32)])
      obtain ⟨clz16, Arz16, qz16, Sz16, Mz16, HHz16, Gz16⟩ := id V_ab
      refine own_go (fun _ k => Xz15.arraylength hx (by rw [ez15]; exact Arz16.1) (State.isArrayOf_alike hZ.alike Arz16.2.1) (g := (mkF m 22 #[.val (.ref a1), .val (.int p2), .val (.int (0 : Int32)), .val (.int i.toInt32)] [(.ref ab), (.ref ab), (.int i.toInt32)])) rfl rfl (hb hby own_d6_22) _ k) ?_
      rw [len_of Sz16 Mz16]
      show own_Go _ _ _ _ Tz15 (mkF m 23 #[.val (.ref a1), .val (.int p2), .val (.int (0 : Int32)), .val (.int i.toInt32)] [(.int nb), (.ref ab), (.int i.toInt32)])
      refine own_go (fun _ k => XS.iconst Xz15.here hx rfl (hb hby own_d6_23) k) ?_
      show own_Go _ _ _ _ Tz15 (mkF m 24 #[.val (.ref a1), .val (.int p2), .val (.int (0 : Int32)), .val (.int i.toInt32)] [(.int (1 : Int32)), (.int nb), (.ref ab), (.int i.toInt32)])
      refine own_go (fun _ k => XS.isub Xz15.here hx rfl (hb hby own_d6_24) rfl k) ?_
      show own_Go _ _ _ _ Tz15 (mkF m 25 #[.val (.ref a1), .val (.int p2), .val (.int (0 : Int32)), .val (.int i.toInt32)] [(.int (nb - (1 : Int32))), (.ref ab), (.int i.toInt32)])
      obtain ⟨clz17, Arz17, qz17, Sz17, Mz17, HHz17, Gz17⟩ := id V_ab
      have hinz17 : ¬ ((nb - (1 : Int32)) < 0 ∨ clz17.slots.size ≤ ((nb - (1 : Int32))).toNatClampNeg) := inb_of Sz17 ⟨hb2, hb3⟩
      have hatz17 : clz17.slots[((nb - (1 : Int32))).toNatClampNeg]? = some (.int en.toInt32) := HHz17.at hinz17 (hb4)
      refine own_go (fun _ k => Xz15.iaload hx (j := (nb - (1 : Int32))) (v := (.int en.toInt32)) (by rw [ez15]; exact Arz17.1) (State.isArrayOf_alike hZ.alike Arz17.2.1) Arz17.2.2 hinz17 hatz17 (g := (mkF m 25 #[.val (.ref a1), .val (.int p2), .val (.int (0 : Int32)), .val (.int i.toInt32)] [(.int (nb - (1 : Int32))), (.ref ab), (.int i.toInt32)])) rfl rfl (hb hby own_d6_25) _ k) ?_
      show own_Go _ _ _ _ Tz15 (mkF m 26 #[.val (.ref a1), .val (.int p2), .val (.int (0 : Int32)), .val (.int i.toInt32)] [(.int en.toInt32), (.int i.toInt32)])
      refine own_go (fun _ k => XS.icmpNo Xz15.here hx rfl (hb hby own_d6_26) rfl (tlt ((own_lt hi31 (by omega)).mpr (by omega))).2.1 k) ?_
      show own_Go _ _ _ _ Tz15 (mkF m 29 #[.val (.ref a1), .val (.int p2), .val (.int (0 : Int32)), .val (.int i.toInt32)] [])
      refine own_go (fun _ k => XS.aloadN Xz15.here hx rfl (hb hby own_d6_29) rfl rfl k) ?_
      show own_Go _ _ _ _ Tz15 (mkF m 30 #[.val (.ref a1), .val (.int p2), .val (.int (0 : Int32)), .val (.int i.toInt32)] [(.ref a1)])
      obtain ⟨Tz18, Xz18, ez18, stz18⟩ := getF Xz15 hx hZ hown (host := "") (Or.inl (hw _ (List.mem_of_getElem? (i := 29) rfl))) Via.refl ez15 F_characters_a1 (g := (mkF m 30 #[.val (.ref a1), .val (.int p2), .val (.int (0 : Int32)), .val (.int i.toInt32)] [(.ref a1)])) rfl rfl (hb hby own_d6_30)
      refine own_go stz18 ?_
      show own_Go _ _ _ _ Tz18 (mkF m 33 #[.val (.ref a1), .val (.int p2), .val (.int (0 : Int32)), .val (.int i.toInt32)] [(.ref ac)])
      refine own_go (fun _ k => XS.iloadN Xz18.here hx rfl (hb hby own_d6_33) rfl k) ?_
      show own_Go _ _ _ _ Tz18 (mkF m 34 #[.val (.ref a1), .val (.int p2), .val (.int (0 : Int32)), .val (.int i.toInt32)] [(.int i.toInt32), (.ref ac)])
      obtain ⟨clz19, Arz19, qz19, Sz19, Mz19, HHz19, Gz19⟩ := id V_ac
      have hinz19 : ¬ (i.toInt32 < 0 ∨ clz19.slots.size ≤ (i.toInt32).toNatClampNeg) := inb_of Sz19 ⟨(own_nn hi31), ((own_lt hi31 (by decide : 4 < 2 ^ 31)).mpr (by omega))⟩
      have hatz19 : clz19.slots[(i.toInt32).toNatClampNeg]? = some (.int (own_y y0 y1 y2 y3 i)) := HHz19.at hinz19 (by rw [own_clamp hi31]; exact own_ychar y0 y1 y2 y3 i (by omega))
      refine own_go (fun _ k => Xz18.caload hx (j := i.toInt32) (v := (.int (own_y y0 y1 y2 y3 i))) (by rw [ez18]; exact Arz19.1) (State.isArrayOf_alike hZ.alike Arz19.2.1) Arz19.2.2 hinz19 hatz19 (g := (mkF m 34 #[.val (.ref a1), .val (.int p2), .val (.int (0 : Int32)), .val (.int i.toInt32)] [(.int i.toInt32), (.ref ac)])) rfl rfl (hb hby own_d6_34) _ k) ?_
      show own_Go _ _ _ _ Tz18 (mkF m 35 #[.val (.ref a1), .val (.int p2), .val (.int (0 : Int32)), .val (.int i.toInt32)] [(.int (own_y y0 y1 y2 y3 i))])
      refine own_go (fun _ k => XS.iloadN Xz18.here hx rfl (hb hby own_d6_35) rfl k) ?_
      show own_Go _ _ _ _ Tz18 (mkF m 36 #[.val (.ref a1), .val (.int p2), .val (.int (0 : Int32)), .val (.int i.toInt32)] [(.int p2), (.int (own_y y0 y1 y2 y3 i))])
      by_cases hD : (own_y y0 y1 y2 y3 i) = p2
      · refine own_go (fun _ k => XS.icmpNo Xz18.here hx rfl (hb hby own_d6_36) rfl (teq hD).2 k) ?_
        show own_Go _ _ _ _ Tz18 (mkF m 39 #[.val (.ref a1), .val (.int p2), .val (.int (0 : Int32)), .val (.int i.toInt32)] [])
        have hv := hv.trans (if_pos hD)
        refine own_go (fun _ k => XS.iconst Xz18.here hx rfl (hb hby own_d6_39) k) ?_
        show own_Go _ _ _ _ Tz18 (mkF m 40 #[.val (.ref a1), .val (.int p2), .val (.int (0 : Int32)), .val (.int i.toInt32)] [(.int (1 : Int32))])
        refine own_go (fun _ k => XS.goto Xz18.here hx rfl (pc0 := 40) (pc' := 44) rfl (hb hby own_d6_40) (by decide) (by decide) k) ?_
        show own_Go _ _ _ _ Tz18 (mkF m 44 #[.val (.ref a1), .val (.int p2), .val (.int (0 : Int32)), .val (.int i.toInt32)] [(.int (1 : Int32))])
        refine own_go (fun _ k => XS.istoreN Xz18.here hx rfl (hb hby own_d6_44) rfl (l' := #[.val (.ref a1), .val (.int p2), .val (.int (1 : Int32)), .val (.int i.toInt32)]) rfl k) ?_
        show own_Go _ _ _ _ Tz18 (mkF m 45 #[.val (.ref a1), .val (.int p2), .val (.int (1 : Int32)), .val (.int i.toInt32)] [])
        refine own_go (fun _ k => XS.iinc Xz18.here hx rfl (hb hby own_d6_45) rfl (l' := #[.val (.ref a1), .val (.int p2), .val (.int (1 : Int32)), .val (.int (i.toInt32 + (1 : Int32)))]) rfl k) ?_
        show own_Go _ _ _ _ Tz18 (mkF m 48 #[.val (.ref a1), .val (.int p2), .val (.int (1 : Int32)), .val (.int (i.toInt32 + (1 : Int32)))] [])
        refine own_go (fun _ k => XS.goto Xz18.here hx rfl (pc0 := 48) (pc' := 9) rfl (hb hby own_d6_48) (by decide) (by decide) k) ?_
        show own_Go _ _ _ _ Tz18 (mkF m 9 #[.val (.ref a1), .val (.int p2), .val (.int (1 : Int32)), .val (.int (i.toInt32 + (1 : Int32)))] [])
        refine own_go (fun _ k => XS.iloadN Xz18.here hx rfl (hb hby own_d6_9) rfl k) ?_
        show own_Go _ _ _ _ Tz18 (mkF m 10 #[.val (.ref a1), .val (.int p2), .val (.int (1 : Int32)), .val (.int (i.toInt32 + (1 : Int32)))] [(.int (1 : Int32))])
        refine own_go (fun _ k => XS.ifYes Xz18.here hx rfl (pc0 := 10) (pc' := 51) rfl (hb hby own_d6_10) rfl ((if0 _ _).trans (feq (by decide : ¬ ((1 : Int32) = (0 : Int32)))).2) (by decide) (by decide) k) ?_
        show own_Go _ _ _ _ Tz18 (mkF m 51 #[.val (.ref a1), .val (.int p2), .val (.int (1 : Int32)), .val (.int (i.toInt32 + (1 : Int32)))] [])
        refine own_go (fun _ k => XS.iloadN Xz18.here hx rfl (hb hby own_d6_51) rfl k) ?_
        show own_Go _ _ _ _ Tz18 (mkF m 52 #[.val (.ref a1), .val (.int p2), .val (.int (1 : Int32)), .val (.int (i.toInt32 + (1 : Int32)))] [(.int (1 : Int32))])
        exact own_end Xz18 hlk (v := (some (.int (1 : Int32)))) (fun h => by rw [hret] at h; cases h) (fun fs hr => retN Xz18 hx (t := .boolean) hret (by simp) (hb hby own_d6_52) hr) (by rw [ez18]; exact ⟨by rw [hv], N0, rfl⟩) (by decide) (by decide)
      · refine own_go (fun _ k => XS.icmpYes Xz18.here hx rfl (pc0 := 36) (pc' := 43) rfl (hb hby own_d6_36) rfl (feq hD).2 (by decide) (by decide) k) ?_
        show own_Go _ _ _ _ Tz18 (mkF m 43 #[.val (.ref a1), .val (.int p2), .val (.int (0 : Int32)), .val (.int i.toInt32)] [])
        have hv := hv.trans (if_neg hD)
        refine own_go (fun _ k => XS.iconst Xz18.here hx rfl (hb hby own_d6_43) k) ?_
        show own_Go _ _ _ _ Tz18 (mkF m 44 #[.val (.ref a1), .val (.int p2), .val (.int (0 : Int32)), .val (.int i.toInt32)] [(.int (0 : Int32))])
        refine own_go (fun _ k => XS.istoreN Xz18.here hx rfl (hb hby own_d6_44) rfl (l' := #[.val (.ref a1), .val (.int p2), .val (.int (0 : Int32)), .val (.int i.toInt32)]) rfl k) ?_
        show own_Go _ _ _ _ Tz18 (mkF m 45 #[.val (.ref a1), .val (.int p2), .val (.int (0 : Int32)), .val (.int i.toInt32)] [])
        refine own_go (fun _ k => XS.iinc Xz18.here hx rfl (hb hby own_d6_45) rfl (l' := #[.val (.ref a1), .val (.int p2), .val (.int (0 : Int32)), .val (.int (i.toInt32 + (1 : Int32)))]) rfl k) ?_
        show own_Go _ _ _ _ Tz18 (mkF m 48 #[.val (.ref a1), .val (.int p2), .val (.int (0 : Int32)), .val (.int (i.toInt32 + (1 : Int32)))] [])
        refine own_go (fun _ k => XS.goto Xz18.here hx rfl (pc0 := 48) (pc' := 9) rfl (hb hby own_d6_48) (by decide) (by decide) k) ?_
        show own_Go _ _ _ _ Tz18 (mkF m 9 #[.val (.ref a1), .val (.int p2), .val (.int (0 : Int32)), .val (.int (i.toInt32 + (1 : Int32)))] [])
        rw [own_succ]
        exact ih (i + 1) Tz18 Xz18 ez18 (by omega) hv
  exact loop (en - sn) sn Tz8 Xz8 ez8 (by omega) rfl
theorem own_four (x : Int32) : x &&& (3 : Int32) = 0 ∨ x &&& (3 : Int32) = 1 ∨ x &&& (3 : Int32) = 2 ∨ x &&& (3 : Int32) = 3 := by
  have h1 := c_and x (3 : Int32) (by decide)
  have k3 : (3 : Int32).toInt = 3 := rfl
  have k0 : (0 : Int32).toInt = 0 := rfl
  have k1 : (1 : Int32).toInt = 1 := rfl
  have k2 : (2 : Int32).toInt = 2 := rfl
  simp only [← Int32.toInt_inj, k0, k1, k2, k3]
  omega
theorem own_s (c : Int32) : 0 ≤ ((c &&& (2147483647 : Int32)) % (5 : Int32)).toInt ∧ ((c &&& (2147483647 : Int32)) % (5 : Int32)).toInt < 5 := by
  have h1 := c_and c (2147483647 : Int32) (by decide)
  have h2 := (c_irem (c &&& (2147483647 : Int32)) (5 : Int32) 5 rfl).1 h1.1
  omega
theorem own_sub {a b : Int32} (h1 : -2147483648 ≤ a.toInt - b.toInt) (h2 : a.toInt - b.toInt < 2147483648) : (a - b).toInt = a.toInt - b.toInt := by
  have := c_isub a b; have := rng32 (a - b); omega
theorem own_add {a b : Int32} (h1 : -2147483648 ≤ a.toInt + b.toInt) (h2 : a.toInt + b.toInt < 2147483648) : (a + b).toInt = a.toInt + b.toInt := by
  have := c_iadd a b; have := rng32 (a + b); omega
theorem own_nz (y : Int32) (h : 0 < y.toInt) : y ≠ 0 := fun q => by rw [q] at h; exact absurd h (by decide)
theorem own_d5 (s : Int32) (h : 0 ≤ s.toInt ∧ s.toInt < 5) : 0 < ((5 : Int32) - s).toInt ∧ ((5 : Int32) - s).toInt = 5 - s.toInt := by
  have k : (5 : Int32).toInt = 5 := rfl
  have := own_sub (a := 5) (b := s) (by omega) (by omega)
  omega
theorem own_rng (b x m k : Int32) (hb : 0 ≤ b.toInt) (hk : 0 < k.toInt) (hk2 : b.toInt + k.toInt ≤ 1000) (hm : 0 ≤ m.toInt) : b.toInt ≤ (b + (x &&& m) % k).toInt ∧ (b + (x &&& m) % k).toInt < b.toInt + k.toInt := by
  have h1 := c_and x m hm
  have h2 := (c_iremV (x &&& m) k).1 h1.1 hk
  have := own_add (a := b) (b := (x &&& m) % k) (by omega) (by omega)
  omega
theorem own_d1 (s e : Int32) (h0 : 0 ≤ s.toInt) (h1 : s.toInt ≤ e.toInt) (h2 : e.toInt < 5) : 0 < (e - s + (1 : Int32)).toInt ∧ (e - s + (1 : Int32)).toInt = e.toInt - s.toInt + 1 := by
  have k : (1 : Int32).toInt = 1 := rfl
  have := own_sub (a := e) (b := s) (by omega) (by omega)
  have := own_add (a := e - s) (b := 1) (by omega) (by omega)
  omega
theorem own_ef0 (m : MethodId) (q1 : Int64) (p2 : Int32) (p3 : Int32) (p4 : Int32) (p5 : Int32) : entryFrame m #[(.long q1), (.int p2), (.int p3), (.int p4), (.int p5)] maxLocals = mkF m 0 #[.val (.long q1), .second, .val (.int p2), .val (.int p3), .val (.int p4), .val (.int p5), .unset, .unset, .unset, .unset, .unset, .unset, .unset, .unset, .unset, .unset] [] := by first | (simp [entryFrame, mkF, argsToLocals, Value.category, maxLocals]; done) | rfl
theorem own_pd1 : parseMethodDescriptor "([C[I)V" = some ⟨[(.array .char), (.array .int)], none⟩ := by decide +kernel
theorem own_pd2 : parseMethodDescriptor "(C)Z" = some ⟨[.char], some .boolean⟩ := by decide +kernel
theorem own_pd3 : parseMethodDescriptor "([CIIIC)Z" = some ⟨[(.array .char), .int, .int, .int, .char], some .boolean⟩ := by decide +kernel
def own_Q0 (Z : State) (p2 : Int32) (h0 : Heap) (n0 : Nat) (v : Option Value) (h : Heap) (L : List Loc) : Prop := v = some (.int 1) ∧ Fr n0 L
set_option maxRecDepth 65536 in
set_option maxHeartbeats 40000000 in
theorem own_rm0 (l : Launch) (Z : State) (a0 : Array Value) (hw : ∀ d ∈ tables_1, d.before a0 Z = true) (ws : List Jvm.Cond) (q1 : Int64) (p2 : Int32) (p3 : Int32) (p4 : Int32) (p5 : Int32) (h0 : Heap) (n0 : Nat) (O : Old Z n0 h0) :
    own_Met l Z x code maxLocals ret ws room_1 #[(.long q1), (.int p2), (.int p3), (.int p4), (.int p5)] h0 (own_Q0 Z p2 h0 n0) := by
  refine own_met (plainFor_of_name own_pn0) ?_
  intro p e s m below meth c s₁ X0 hx hZ hby hml hown hnm hret hlk e0
  have N0 := Fr.nil n0
  refine own_go (fun t k => castTop (own_ef0 m q1 p2 p3 p4 p5) k) ?_
  show own_Go _ _ _ _ s₁ (mkF m 0 #[.val (.long q1), .second, .val (.int p2), .val (.int p3), .val (.int p4), .val (.int p5), .unset, .unset, .unset, .unset, .unset, .unset, .unset, .unset, .unset, .unset] [])
  refine own_go (fun _ k => XS.iloadN X0.here hx rfl (hb hby at_0) rfl k) ?_
  show own_Go _ _ _ _ s₁ (mkF m 1 #[.val (.long q1), .second, .val (.int p2), .val (.int p3), .val (.int p4), .val (.int p5), .unset, .unset, .unset, .unset, .unset, .unset, .unset, .unset, .unset, .unset] [(.int p2)])
  refine own_go (fun _ k => XS.i2c X0.here hx rfl (hb hby at_1) rfl k) ?_
  show own_Go _ _ _ _ s₁ (mkF m 2 #[.val (.long q1), .second, .val (.int p2), .val (.int p3), .val (.int p4), .val (.int p5), .unset, .unset, .unset, .unset, .unset, .unset, .unset, .unset, .unset, .unset] [(.int p2.toUInt32.toUInt16.toUInt32.toInt32)])
  refine own_go (fun _ k => XS.istore X0.here hx rfl (hb hby at_2) rfl (l' := #[.val (.long q1), .second, .val (.int p2), .val (.int p3), .val (.int p4), .val (.int p5), .val (.int p2.toUInt32.toUInt16.toUInt32.toInt32), .unset, .unset, .unset, .unset, .unset, .unset, .unset, .unset, .unset]) rfl k) ?_
  show own_Go _ _ _ _ s₁ (mkF m 4 #[.val (.long q1), .second, .val (.int p2), .val (.int p3), .val (.int p4), .val (.int p5), .val (.int p2.toUInt32.toUInt16.toUInt32.toInt32), .unset, .unset, .unset, .unset, .unset, .unset, .unset, .unset, .unset] [])
  refine own_go (fun _ k => XS.iconst X0.here hx rfl (hb hby at_4) k) ?_
  show own_Go _ _ _ _ s₁ (mkF m 5 #[.val (.long q1), .second, .val (.int p2), .val (.int p3), .val (.int p4), .val (.int p5), .val (.int p2.toUInt32.toUInt16.toUInt32.toInt32), .unset, .unset, .unset, .unset, .unset, .unset, .unset, .unset, .unset] [(.int (4 : Int32))])
  obtain ⟨Tz20, hz20, kz20, Xz20, ez20, Ez20, Az20, stz20⟩ := newP X0 hx hZ (hw _ (List.mem_of_getElem? (i := 0) rfl)) e0 (g := (mkF m 5 #[.val (.long q1), .second, .val (.int p2), .val (.int p3), .val (.int p4), .val (.int p5), .val (.int p2.toUInt32.toUInt16.toUInt32.toInt32), .unset, .unset, .unset, .unset, .unset, .unset, .unset, .unset, .unset] [(.int (4 : Int32))])) rfl (hb hby at_5) rfl (by decide) (cap := 4) (by decide) (by decide) (by decide) (by decide)
  obtain ⟨ac, gz20⟩ : ∃ z, z = h0.size := ⟨_, rfl⟩
  rw [← gz20] at Az20 stz20
  have g_ac : n0 ≤ ac := by rw [gz20, ← O.1]; exact O.2.1
  have O := O.ext Ez20
  refine own_go stz20 ?_
  have V_ac : Arv Z hz20 ac kz20 .char (4 : Int32) [(.int (0 : Int32)), (.int (0 : Int32)), (.int (0 : Int32)), (.int (0 : Int32))] (.int (0 : Int32)) := (Arv.new Az20 (by decide)).pad (pad_rep [] (.int (0 : Int32)) 4)
  show own_Go _ _ _ _ Tz20 (mkF m 7 #[.val (.long q1), .second, .val (.int p2), .val (.int p3), .val (.int p4), .val (.int p5), .val (.int p2.toUInt32.toUInt16.toUInt32.toInt32), .unset, .unset, .unset, .unset, .unset, .unset, .unset, .unset, .unset] [(.ref ac)])
  refine own_go (fun _ k => XS.astore Xz20.here hx rfl (hb hby at_7) rfl rfl (l' := #[.val (.long q1), .second, .val (.int p2), .val (.int p3), .val (.int p4), .val (.int p5), .val (.int p2.toUInt32.toUInt16.toUInt32.toInt32), .val (.ref ac), .unset, .unset, .unset, .unset, .unset, .unset, .unset, .unset]) rfl k) ?_
  show own_Go _ _ _ _ Tz20 (mkF m 9 #[.val (.long q1), .second, .val (.int p2), .val (.int p3), .val (.int p4), .val (.int p5), .val (.int p2.toUInt32.toUInt16.toUInt32.toInt32), .val (.ref ac), .unset, .unset, .unset, .unset, .unset, .unset, .unset, .unset] [])
  refine own_go (fun _ k => XS.aload Xz20.here hx rfl (hb hby at_9) rfl rfl k) ?_
  show own_Go _ _ _ _ Tz20 (mkF m 11 #[.val (.long q1), .second, .val (.int p2), .val (.int p3), .val (.int p4), .val (.int p5), .val (.int p2.toUInt32.toUInt16.toUInt32.toInt32), .val (.ref ac), .unset, .unset, .unset, .unset, .unset, .unset, .unset, .unset] [(.ref ac)])
  refine own_go (fun _ k => XS.iconst Xz20.here hx rfl (hb hby at_11) k) ?_
  show own_Go _ _ _ _ Tz20 (mkF m 12 #[.val (.long q1), .second, .val (.int p2), .val (.int p3), .val (.int p4), .val (.int p5), .val (.int p2.toUInt32.toUInt16.toUInt32.toInt32), .val (.ref ac), .unset, .unset, .unset, .unset, .unset, .unset, .unset, .unset] [(.int (0 : Int32)), (.ref ac)])
  refine own_go (fun _ k => XS.lloadN Xz20.here hx rfl (hb hby at_12) rfl k) ?_
  show own_Go _ _ _ _ Tz20 (mkF m 13 #[.val (.long q1), .second, .val (.int p2), .val (.int p3), .val (.int p4), .val (.int p5), .val (.int p2.toUInt32.toUInt16.toUInt32.toInt32), .val (.ref ac), .unset, .unset, .unset, .unset, .unset, .unset, .unset, .unset] [(.long q1), (.int (0 : Int32)), (.ref ac)])
  refine own_go (fun _ k => XS.l2i Xz20.here hx rfl (hb hby at_13) rfl k) ?_
  show own_Go _ _ _ _ Tz20 (mkF m 14 #[.val (.long q1), .second, .val (.int p2), .val (.int p3), .val (.int p4), .val (.int p5), .val (.int p2.toUInt32.toUInt16.toUInt32.toInt32), .val (.ref ac), .unset, .unset, .unset, .unset, .unset, .unset, .unset, .unset] [(.int q1.toInt32), (.int (0 : Int32)), (.ref ac)])
  refine own_go (fun _ k => XS.i2c Xz20.here hx rfl (hb hby at_14) rfl k) ?_
  show own_Go _ _ _ _ Tz20 (mkF m 15 #[.val (.long q1), .second, .val (.int p2), .val (.int p3), .val (.int p4), .val (.int p5), .val (.int p2.toUInt32.toUInt16.toUInt32.toInt32), .val (.ref ac), .unset, .unset, .unset, .unset, .unset, .unset, .unset, .unset] [(.int q1.toInt32.toUInt32.toUInt16.toUInt32.toInt32), (.int (0 : Int32)), (.ref ac)])
  obtain ⟨x0, h_x0⟩ : ∃ z, z = q1.toInt32.toUInt32.toUInt16.toUInt32.toInt32 := ⟨_, rfl⟩
  rw [← h_x0]
  clear h_x0
  show own_Go _ _ _ _ Tz20 (mkF m 15 #[.val (.long q1), .second, .val (.int p2), .val (.int p3), .val (.int p4), .val (.int p5), .val (.int p2.toUInt32.toUInt16.toUInt32.toInt32), .val (.ref ac), .unset, .unset, .unset, .unset, .unset, .unset, .unset, .unset] [(.int x0), (.int (0 : Int32)), (.ref ac)])
  obtain ⟨clz21, Arz21, qz21, Sz21, Mz21, HHz21, Gz21⟩ := V_ac
  have hinz21 : ¬ ((0 : Int32) < 0 ∨ clz21.slots.size ≤ ((0 : Int32)).toNatClampNeg) := inb_of Sz21 ⟨(by decide), (by decide)⟩
  obtain ⟨Tz21, hz21, Xz21, ez21, Wz21, stz21⟩ := stC Xz20 hx hZ ez20 Arz21 (j := (0 : Int32)) hinz21 (g := (mkF m 15 #[.val (.long q1), .second, .val (.int p2), .val (.int p3), .val (.int p4), .val (.int p5), .val (.int p2.toUInt32.toUInt16.toUInt32.toInt32), .val (.ref ac), .unset, .unset, .unset, .unset, .unset, .unset, .unset, .unset] [(.int x0), (.int (0 : Int32)), (.ref ac)])) rfl rfl (hb hby at_15)
  refine own_go stz21 ?_
  have V_ac_ : Arv Z hz21 ac kz20 .char (4 : Int32) [(.int (nar .char x0)), (.int (0 : Int32)), (.int (0 : Int32)), (.int (0 : Int32))] (.int (0 : Int32)) := Arv.set Arz21 qz21 Sz21 Mz21 HHz21 Gz21 (fits_nar_char _) Wz21 0 rfl (Nat.le_of_ble_eq_true rfl)
  have Nz21 := Fr.snoc Xz21 N0 g_ac
  have O := O.wr Wz21 g_ac
  have V_ac := V_ac_
  show own_Go _ _ _ _ Tz21 (mkF m 16 #[.val (.long q1), .second, .val (.int p2), .val (.int p3), .val (.int p4), .val (.int p5), .val (.int p2.toUInt32.toUInt16.toUInt32.toInt32), .val (.ref ac), .unset, .unset, .unset, .unset, .unset, .unset, .unset, .unset] [])
  refine own_go (fun _ k => XS.aload Xz21.here hx rfl (hb hby at_16) rfl rfl k) ?_
  show own_Go _ _ _ _ Tz21 (mkF m 18 #[.val (.long q1), .second, .val (.int p2), .val (.int p3), .val (.int p4), .val (.int p5), .val (.int p2.toUInt32.toUInt16.toUInt32.toInt32), .val (.ref ac), .unset, .unset, .unset, .unset, .unset, .unset, .unset, .unset] [(.ref ac)])
  refine own_go (fun _ k => XS.iconst Xz21.here hx rfl (hb hby at_18) k) ?_
  show own_Go _ _ _ _ Tz21 (mkF m 19 #[.val (.long q1), .second, .val (.int p2), .val (.int p3), .val (.int p4), .val (.int p5), .val (.int p2.toUInt32.toUInt16.toUInt32.toInt32), .val (.ref ac), .unset, .unset, .unset, .unset, .unset, .unset, .unset, .unset] [(.int (1 : Int32)), (.ref ac)])
  refine own_go (fun _ k => XS.lloadN Xz21.here hx rfl (hb hby at_19) rfl k) ?_
  show own_Go _ _ _ _ Tz21 (mkF m 20 #[.val (.long q1), .second, .val (.int p2), .val (.int p3), .val (.int p4), .val (.int p5), .val (.int p2.toUInt32.toUInt16.toUInt32.toInt32), .val (.ref ac), .unset, .unset, .unset, .unset, .unset, .unset, .unset, .unset] [(.long q1), (.int (1 : Int32)), (.ref ac)])
  refine own_go (fun _ k => XS.bipush Xz21.here hx rfl (hb hby at_20) k) ?_
  show own_Go _ _ _ _ Tz21 (mkF m 22 #[.val (.long q1), .second, .val (.int p2), .val (.int p3), .val (.int p4), .val (.int p5), .val (.int p2.toUInt32.toUInt16.toUInt32.toInt32), .val (.ref ac), .unset, .unset, .unset, .unset, .unset, .unset, .unset, .unset] [(.int (16 : Int32)), (.long q1), (.int (1 : Int32)), (.ref ac)])
  refine own_go (fun _ k => XS.lushr Xz21.here hx rfl (hb hby at_22) rfl k) ?_
  show own_Go _ _ _ _ Tz21 (mkF m 23 #[.val (.long q1), .second, .val (.int p2), .val (.int p3), .val (.int p4), .val (.int p5), .val (.int p2.toUInt32.toUInt16.toUInt32.toInt32), .val (.ref ac), .unset, .unset, .unset, .unset, .unset, .unset, .unset, .unset] [(.long ((q1.toUInt64 >>> ((16 : Int32) &&& 0x3f).toInt64.toUInt64).toInt64)), (.int (1 : Int32)), (.ref ac)])
  refine own_go (fun _ k => XS.l2i Xz21.here hx rfl (hb hby at_23) rfl k) ?_
  show own_Go _ _ _ _ Tz21 (mkF m 24 #[.val (.long q1), .second, .val (.int p2), .val (.int p3), .val (.int p4), .val (.int p5), .val (.int p2.toUInt32.toUInt16.toUInt32.toInt32), .val (.ref ac), .unset, .unset, .unset, .unset, .unset, .unset, .unset, .unset] [(.int ((q1.toUInt64 >>> ((16 : Int32) &&& 0x3f).toInt64.toUInt64).toInt64).toInt32), (.int (1 : Int32)), (.ref ac)])
  refine own_go (fun _ k => XS.i2c Xz21.here hx rfl (hb hby at_24) rfl k) ?_
  show own_Go _ _ _ _ Tz21 (mkF m 25 #[.val (.long q1), .second, .val (.int p2), .val (.int p3), .val (.int p4), .val (.int p5), .val (.int p2.toUInt32.toUInt16.toUInt32.toInt32), .val (.ref ac), .unset, .unset, .unset, .unset, .unset, .unset, .unset, .unset] [(.int ((q1.toUInt64 >>> ((16 : Int32) &&& 0x3f).toInt64.toUInt64).toInt64).toInt32.toUInt32.toUInt16.toUInt32.toInt32), (.int (1 : Int32)), (.ref ac)])
  obtain ⟨x1, h_x1⟩ : ∃ z, z = ((q1.toUInt64 >>> ((16 : Int32) &&& 0x3f).toInt64.toUInt64).toInt64).toInt32.toUInt32.toUInt16.toUInt32.toInt32 := ⟨_, rfl⟩
  rw [← h_x1]
  clear h_x1
  show own_Go _ _ _ _ Tz21 (mkF m 25 #[.val (.long q1), .second, .val (.int p2), .val (.int p3), .val (.int p4), .val (.int p5), .val (.int p2.toUInt32.toUInt16.toUInt32.toInt32), .val (.ref ac), .unset, .unset, .unset, .unset, .unset, .unset, .unset, .unset] [(.int x1), (.int (1 : Int32)), (.ref ac)])
  obtain ⟨clz22, Arz22, qz22, Sz22, Mz22, HHz22, Gz22⟩ := V_ac
  have hinz22 : ¬ ((1 : Int32) < 0 ∨ clz22.slots.size ≤ ((1 : Int32)).toNatClampNeg) := inb_of Sz22 ⟨(by decide), (by decide)⟩
  obtain ⟨Tz22, hz22, Xz22, ez22, Wz22, stz22⟩ := stC Xz21 hx hZ ez21 Arz22 (j := (1 : Int32)) hinz22 (g := (mkF m 25 #[.val (.long q1), .second, .val (.int p2), .val (.int p3), .val (.int p4), .val (.int p5), .val (.int p2.toUInt32.toUInt16.toUInt32.toInt32), .val (.ref ac), .unset, .unset, .unset, .unset, .unset, .unset, .unset, .unset] [(.int x1), (.int (1 : Int32)), (.ref ac)])) rfl rfl (hb hby at_25)
  refine own_go stz22 ?_
  have V_ac_ : Arv Z hz22 ac kz20 .char (4 : Int32) [(.int (nar .char x0)), (.int (nar .char x1)), (.int (0 : Int32)), (.int (0 : Int32))] (.int (0 : Int32)) := Arv.set Arz22 qz22 Sz22 Mz22 HHz22 Gz22 (fits_nar_char _) Wz22 1 rfl (Nat.le_of_ble_eq_true rfl)
  have Nz22 := Fr.snoc Xz22 Nz21 g_ac
  have O := O.wr Wz22 g_ac
  have V_ac := V_ac_
  show own_Go _ _ _ _ Tz22 (mkF m 26 #[.val (.long q1), .second, .val (.int p2), .val (.int p3), .val (.int p4), .val (.int p5), .val (.int p2.toUInt32.toUInt16.toUInt32.toInt32), .val (.ref ac), .unset, .unset, .unset, .unset, .unset, .unset, .unset, .unset] [])
  refine own_go (fun _ k => XS.aload Xz22.here hx rfl (hb hby at_26) rfl rfl k) ?_
  show own_Go _ _ _ _ Tz22 (mkF m 28 #[.val (.long q1), .second, .val (.int p2), .val (.int p3), .val (.int p4), .val (.int p5), .val (.int p2.toUInt32.toUInt16.toUInt32.toInt32), .val (.ref ac), .unset, .unset, .unset, .unset, .unset, .unset, .unset, .unset] [(.ref ac)])
  refine own_go (fun _ k => XS.iconst Xz22.here hx rfl (hb hby at_28) k) ?_
  show own_Go _ _ _ _ Tz22 (mkF m 29 #[.val (.long q1), .second, .val (.int p2), .val (.int p3), .val (.int p4), .val (.int p5), .val (.int p2.toUInt32.toUInt16.toUInt32.toInt32), .val (.ref ac), .unset, .unset, .unset, .unset, .unset, .unset, .unset, .unset] [(.int (2 : Int32)), (.ref ac)])
  refine own_go (fun _ k => XS.lloadN Xz22.here hx rfl (hb hby at_29) rfl k) ?_
  show own_Go _ _ _ _ Tz22 (mkF m 30 #[.val (.long q1), .second, .val (.int p2), .val (.int p3), .val (.int p4), .val (.int p5), .val (.int p2.toUInt32.toUInt16.toUInt32.toInt32), .val (.ref ac), .unset, .unset, .unset, .unset, .unset, .unset, .unset, .unset] [(.long q1), (.int (2 : Int32)), (.ref ac)])
  refine own_go (fun _ k => XS.bipush Xz22.here hx rfl (hb hby at_30) k) ?_
  show own_Go _ _ _ _ Tz22 (mkF m 32 #[.val (.long q1), .second, .val (.int p2), .val (.int p3), .val (.int p4), .val (.int p5), .val (.int p2.toUInt32.toUInt16.toUInt32.toInt32), .val (.ref ac), .unset, .unset, .unset, .unset, .unset, .unset, .unset, .unset] [(.int (32 : Int32)), (.long q1), (.int (2 : Int32)), (.ref ac)])
  refine own_go (fun _ k => XS.lushr Xz22.here hx rfl (hb hby at_32) rfl k) ?_
  show own_Go _ _ _ _ Tz22 (mkF m 33 #[.val (.long q1), .second, .val (.int p2), .val (.int p3), .val (.int p4), .val (.int p5), .val (.int p2.toUInt32.toUInt16.toUInt32.toInt32), .val (.ref ac), .unset, .unset, .unset, .unset, .unset, .unset, .unset, .unset] [(.long ((q1.toUInt64 >>> ((32 : Int32) &&& 0x3f).toInt64.toUInt64).toInt64)), (.int (2 : Int32)), (.ref ac)])
  refine own_go (fun _ k => XS.l2i Xz22.here hx rfl (hb hby at_33) rfl k) ?_
  show own_Go _ _ _ _ Tz22 (mkF m 34 #[.val (.long q1), .second, .val (.int p2), .val (.int p3), .val (.int p4), .val (.int p5), .val (.int p2.toUInt32.toUInt16.toUInt32.toInt32), .val (.ref ac), .unset, .unset, .unset, .unset, .unset, .unset, .unset, .unset] [(.int ((q1.toUInt64 >>> ((32 : Int32) &&& 0x3f).toInt64.toUInt64).toInt64).toInt32), (.int (2 : Int32)), (.ref ac)])
  refine own_go (fun _ k => XS.i2c Xz22.here hx rfl (hb hby at_34) rfl k) ?_
  show own_Go _ _ _ _ Tz22 (mkF m 35 #[.val (.long q1), .second, .val (.int p2), .val (.int p3), .val (.int p4), .val (.int p5), .val (.int p2.toUInt32.toUInt16.toUInt32.toInt32), .val (.ref ac), .unset, .unset, .unset, .unset, .unset, .unset, .unset, .unset] [(.int ((q1.toUInt64 >>> ((32 : Int32) &&& 0x3f).toInt64.toUInt64).toInt64).toInt32.toUInt32.toUInt16.toUInt32.toInt32), (.int (2 : Int32)), (.ref ac)])
  obtain ⟨x2, h_x2⟩ : ∃ z, z = ((q1.toUInt64 >>> ((32 : Int32) &&& 0x3f).toInt64.toUInt64).toInt64).toInt32.toUInt32.toUInt16.toUInt32.toInt32 := ⟨_, rfl⟩
  rw [← h_x2]
  clear h_x2
  show own_Go _ _ _ _ Tz22 (mkF m 35 #[.val (.long q1), .second, .val (.int p2), .val (.int p3), .val (.int p4), .val (.int p5), .val (.int p2.toUInt32.toUInt16.toUInt32.toInt32), .val (.ref ac), .unset, .unset, .unset, .unset, .unset, .unset, .unset, .unset] [(.int x2), (.int (2 : Int32)), (.ref ac)])
  obtain ⟨clz23, Arz23, qz23, Sz23, Mz23, HHz23, Gz23⟩ := V_ac
  have hinz23 : ¬ ((2 : Int32) < 0 ∨ clz23.slots.size ≤ ((2 : Int32)).toNatClampNeg) := inb_of Sz23 ⟨(by decide), (by decide)⟩
  obtain ⟨Tz23, hz23, Xz23, ez23, Wz23, stz23⟩ := stC Xz22 hx hZ ez22 Arz23 (j := (2 : Int32)) hinz23 (g := (mkF m 35 #[.val (.long q1), .second, .val (.int p2), .val (.int p3), .val (.int p4), .val (.int p5), .val (.int p2.toUInt32.toUInt16.toUInt32.toInt32), .val (.ref ac), .unset, .unset, .unset, .unset, .unset, .unset, .unset, .unset] [(.int x2), (.int (2 : Int32)), (.ref ac)])) rfl rfl (hb hby at_35)
  refine own_go stz23 ?_
  have V_ac_ : Arv Z hz23 ac kz20 .char (4 : Int32) [(.int (nar .char x0)), (.int (nar .char x1)), (.int (nar .char x2)), (.int (0 : Int32))] (.int (0 : Int32)) := Arv.set Arz23 qz23 Sz23 Mz23 HHz23 Gz23 (fits_nar_char _) Wz23 2 rfl (Nat.le_of_ble_eq_true rfl)
  have Nz23 := Fr.snoc Xz23 Nz22 g_ac
  have O := O.wr Wz23 g_ac
  have V_ac := V_ac_
  show own_Go _ _ _ _ Tz23 (mkF m 36 #[.val (.long q1), .second, .val (.int p2), .val (.int p3), .val (.int p4), .val (.int p5), .val (.int p2.toUInt32.toUInt16.toUInt32.toInt32), .val (.ref ac), .unset, .unset, .unset, .unset, .unset, .unset, .unset, .unset] [])
  refine own_go (fun _ k => XS.aload Xz23.here hx rfl (hb hby at_36) rfl rfl k) ?_
  show own_Go _ _ _ _ Tz23 (mkF m 38 #[.val (.long q1), .second, .val (.int p2), .val (.int p3), .val (.int p4), .val (.int p5), .val (.int p2.toUInt32.toUInt16.toUInt32.toInt32), .val (.ref ac), .unset, .unset, .unset, .unset, .unset, .unset, .unset, .unset] [(.ref ac)])
  refine own_go (fun _ k => XS.iconst Xz23.here hx rfl (hb hby at_38) k) ?_
  show own_Go _ _ _ _ Tz23 (mkF m 39 #[.val (.long q1), .second, .val (.int p2), .val (.int p3), .val (.int p4), .val (.int p5), .val (.int p2.toUInt32.toUInt16.toUInt32.toInt32), .val (.ref ac), .unset, .unset, .unset, .unset, .unset, .unset, .unset, .unset] [(.int (3 : Int32)), (.ref ac)])
  refine own_go (fun _ k => XS.lloadN Xz23.here hx rfl (hb hby at_39) rfl k) ?_
  show own_Go _ _ _ _ Tz23 (mkF m 40 #[.val (.long q1), .second, .val (.int p2), .val (.int p3), .val (.int p4), .val (.int p5), .val (.int p2.toUInt32.toUInt16.toUInt32.toInt32), .val (.ref ac), .unset, .unset, .unset, .unset, .unset, .unset, .unset, .unset] [(.long q1), (.int (3 : Int32)), (.ref ac)])
  refine own_go (fun _ k => XS.bipush Xz23.here hx rfl (hb hby at_40) k) ?_
  show own_Go _ _ _ _ Tz23 (mkF m 42 #[.val (.long q1), .second, .val (.int p2), .val (.int p3), .val (.int p4), .val (.int p5), .val (.int p2.toUInt32.toUInt16.toUInt32.toInt32), .val (.ref ac), .unset, .unset, .unset, .unset, .unset, .unset, .unset, .unset] [(.int (48 : Int32)), (.long q1), (.int (3 : Int32)), (.ref ac)])
  refine own_go (fun _ k => XS.lushr Xz23.here hx rfl (hb hby at_42) rfl k) ?_
  show own_Go _ _ _ _ Tz23 (mkF m 43 #[.val (.long q1), .second, .val (.int p2), .val (.int p3), .val (.int p4), .val (.int p5), .val (.int p2.toUInt32.toUInt16.toUInt32.toInt32), .val (.ref ac), .unset, .unset, .unset, .unset, .unset, .unset, .unset, .unset] [(.long ((q1.toUInt64 >>> ((48 : Int32) &&& 0x3f).toInt64.toUInt64).toInt64)), (.int (3 : Int32)), (.ref ac)])
  refine own_go (fun _ k => XS.l2i Xz23.here hx rfl (hb hby at_43) rfl k) ?_
  show own_Go _ _ _ _ Tz23 (mkF m 44 #[.val (.long q1), .second, .val (.int p2), .val (.int p3), .val (.int p4), .val (.int p5), .val (.int p2.toUInt32.toUInt16.toUInt32.toInt32), .val (.ref ac), .unset, .unset, .unset, .unset, .unset, .unset, .unset, .unset] [(.int ((q1.toUInt64 >>> ((48 : Int32) &&& 0x3f).toInt64.toUInt64).toInt64).toInt32), (.int (3 : Int32)), (.ref ac)])
  refine own_go (fun _ k => XS.i2c Xz23.here hx rfl (hb hby at_44) rfl k) ?_
  show own_Go _ _ _ _ Tz23 (mkF m 45 #[.val (.long q1), .second, .val (.int p2), .val (.int p3), .val (.int p4), .val (.int p5), .val (.int p2.toUInt32.toUInt16.toUInt32.toInt32), .val (.ref ac), .unset, .unset, .unset, .unset, .unset, .unset, .unset, .unset] [(.int ((q1.toUInt64 >>> ((48 : Int32) &&& 0x3f).toInt64.toUInt64).toInt64).toInt32.toUInt32.toUInt16.toUInt32.toInt32), (.int (3 : Int32)), (.ref ac)])
  obtain ⟨x3, h_x3⟩ : ∃ z, z = ((q1.toUInt64 >>> ((48 : Int32) &&& 0x3f).toInt64.toUInt64).toInt64).toInt32.toUInt32.toUInt16.toUInt32.toInt32 := ⟨_, rfl⟩
  rw [← h_x3]
  clear h_x3
  show own_Go _ _ _ _ Tz23 (mkF m 45 #[.val (.long q1), .second, .val (.int p2), .val (.int p3), .val (.int p4), .val (.int p5), .val (.int p2.toUInt32.toUInt16.toUInt32.toInt32), .val (.ref ac), .unset, .unset, .unset, .unset, .unset, .unset, .unset, .unset] [(.int x3), (.int (3 : Int32)), (.ref ac)])
  obtain ⟨clz24, Arz24, qz24, Sz24, Mz24, HHz24, Gz24⟩ := V_ac
  have hinz24 : ¬ ((3 : Int32) < 0 ∨ clz24.slots.size ≤ ((3 : Int32)).toNatClampNeg) := inb_of Sz24 ⟨(by decide), (by decide)⟩
  obtain ⟨Tz24, hz24, Xz24, ez24, Wz24, stz24⟩ := stC Xz23 hx hZ ez23 Arz24 (j := (3 : Int32)) hinz24 (g := (mkF m 45 #[.val (.long q1), .second, .val (.int p2), .val (.int p3), .val (.int p4), .val (.int p5), .val (.int p2.toUInt32.toUInt16.toUInt32.toInt32), .val (.ref ac), .unset, .unset, .unset, .unset, .unset, .unset, .unset, .unset] [(.int x3), (.int (3 : Int32)), (.ref ac)])) rfl rfl (hb hby at_45)
  refine own_go stz24 ?_
  have V_ac_ : Arv Z hz24 ac kz20 .char (4 : Int32) [(.int (nar .char x0)), (.int (nar .char x1)), (.int (nar .char x2)), (.int (nar .char x3))] (.int (0 : Int32)) := Arv.set Arz24 qz24 Sz24 Mz24 HHz24 Gz24 (fits_nar_char _) Wz24 3 rfl (Nat.le_of_ble_eq_true rfl)
  have Nz24 := Fr.snoc Xz24 Nz23 g_ac
  have O := O.wr Wz24 g_ac
  have V_ac := V_ac_
  show own_Go _ _ _ _ Tz24 (mkF m 46 #[.val (.long q1), .second, .val (.int p2), .val (.int p3), .val (.int p4), .val (.int p5), .val (.int p2.toUInt32.toUInt16.toUInt32.toInt32), .val (.ref ac), .unset, .unset, .unset, .unset, .unset, .unset, .unset, .unset] [])
  refine own_go (fun _ k => XS.iload Xz24.here hx rfl (hb hby at_46) rfl k) ?_
  show own_Go _ _ _ _ Tz24 (mkF m 48 #[.val (.long q1), .second, .val (.int p2), .val (.int p3), .val (.int p4), .val (.int p5), .val (.int p2.toUInt32.toUInt16.toUInt32.toInt32), .val (.ref ac), .unset, .unset, .unset, .unset, .unset, .unset, .unset, .unset] [(.int p5)])
  refine own_go (fun _ k => XS.iconst Xz24.here hx rfl (hb hby at_48) k) ?_
  show own_Go _ _ _ _ Tz24 (mkF m 49 #[.val (.long q1), .second, .val (.int p2), .val (.int p3), .val (.int p4), .val (.int p5), .val (.int p2.toUInt32.toUInt16.toUInt32.toInt32), .val (.ref ac), .unset, .unset, .unset, .unset, .unset, .unset, .unset, .unset] [(.int (1 : Int32)), (.int p5)])
  refine own_go (fun _ k => XS.iand Xz24.here hx rfl (hb hby at_49) rfl k) ?_
  show own_Go _ _ _ _ Tz24 (mkF m 50 #[.val (.long q1), .second, .val (.int p2), .val (.int p3), .val (.int p4), .val (.int p5), .val (.int p2.toUInt32.toUInt16.toUInt32.toInt32), .val (.ref ac), .unset, .unset, .unset, .unset, .unset, .unset, .unset, .unset] [(.int (p5 &&& (1 : Int32)))])
  obtain ⟨t, h_t⟩ : ∃ z, z = p2.toUInt32.toUInt16.toUInt32.toInt32 := ⟨_, rfl⟩
  rw [← h_t]
  clear h_t
  show own_Go _ _ _ _ Tz24 (mkF m 50 #[.val (.long q1), .second, .val (.int p2), .val (.int p3), .val (.int p4), .val (.int p5), .val (.int t), .val (.ref ac), .unset, .unset, .unset, .unset, .unset, .unset, .unset, .unset] [(.int (p5 &&& (1 : Int32)))])
  have k4 : ∀ (T : State) (hh : Heap) (locs : List Loc) (X : Stand p l e room_1 s m #[(.long q1), (.int p2), (.int p3), (.int p4), (.int p5)] below meth c T locs 2 8) (eT : T.heap = hh) (N : Fr n0 locs) (O : Old Z n0 hh) (y0 y1 y2 y3 : Int32) (V_ac : Arv Z hh ac kz20 .char (4 : Int32) [(.int y0), (.int y1), (.int y2), (.int y3)] (.int (0 : Int32))) (ab : Addr) (kb : ClassId) (nb : Int32) (bs : List Value) (nn m1 m2 : Int32) (sn en : Nat) (hse : sn ≤ en) (hen : en ≤ 4) (V_ab : Arv Z hh ab kb .int nb bs (.int (0 : Int32))) (hb0 : bs.getD (0 : Int32).toNatClampNeg (.int (0 : Int32)) = .int sn.toInt32) (hb1 : (0 : Int32) < nb) (hb2 : ¬ (nb - (1 : Int32)) < 0) (hb3 : (nb - (1 : Int32)) < nb) (hb4 : bs.getD (nb - (1 : Int32)).toNatClampNeg (.int (0 : Int32)) = .int en.toInt32) (hab : ac ≠ ab) (ex : Int32) (hex : own_any (own_y y0 y1 y2 y3) t (en - sn) sn = ex), own_Go p e below (own_Fin s (own_Q0 Z p2 h0 n0) room_1.cells room_1.slots) T (mkF m 308 #[.val (.long q1), .second, .val (.int p2), .val (.int p3), .val (.int p4), .val (.int p5), .val (.int t), .val (.ref ac), .val (.int sn.toInt32), .val (.int en.toInt32), .val (.int nn), .val (.int m1), .val (.int m2), .val (.ref ab), .unset, .unset] [(.int ex)]) := by
    intro T hh locs X eT N O y0 y1 y2 y3 V_ac ab kb nb bs nn m1 m2 sn en hse hen V_ab hb0 hb1 hb2 hb3 hb4 hab ex hex
    show own_Go _ _ _ _ T (mkF m 308 #[.val (.long q1), .second, .val (.int p2), .val (.int p3), .val (.int p4), .val (.int p5), .val (.int t), .val (.ref ac), .val (.int sn.toInt32), .val (.int en.toInt32), .val (.int nn), .val (.int m1), .val (.int m2), .val (.ref ab), .unset, .unset] [(.int ex)])
    refine own_go (fun _ k => XS.istore X.here hx rfl (hb hby at_308) rfl (l' := #[.val (.long q1), .second, .val (.int p2), .val (.int p3), .val (.int p4), .val (.int p5), .val (.int t), .val (.ref ac), .val (.int sn.toInt32), .val (.int en.toInt32), .val (.int nn), .val (.int m1), .val (.int m2), .val (.ref ab), .val (.int ex), .unset]) rfl k) ?_
    show own_Go _ _ _ _ T (mkF m 310 #[.val (.long q1), .second, .val (.int p2), .val (.int p3), .val (.int p4), .val (.int p5), .val (.int t), .val (.ref ac), .val (.int sn.toInt32), .val (.int en.toInt32), .val (.int nn), .val (.int m1), .val (.int m2), .val (.ref ab), .val (.int ex), .unset] [])
    obtain ⟨Tz25, hz25, Xz25, ez25, Ez25, Az25, Dz25, -, stz25⟩ := newO X hx hZ hown (hw _ (List.mem_of_getElem? (i := 7) rfl)) (hw _ (List.mem_of_getElem? (i := 8) rfl)) (hw _ (List.mem_of_getElem? (i := 9) rfl)) eT (g := (mkF m 310 #[.val (.long q1), .second, .val (.int p2), .val (.int p3), .val (.int p4), .val (.int p5), .val (.int t), .val (.ref ac), .val (.int sn.toInt32), .val (.int en.toInt32), .val (.int nn), .val (.int m1), .val (.int m2), .val (.ref ab), .val (.int ex), .unset] [])) rfl (hb hby at_310) (by decide) (by decide)
    obtain ⟨b, gz25⟩ : ∃ z, z = hh.size := ⟨_, rfl⟩
    rw [← gz25] at Az25 Dz25 stz25
    have ne_ac_b : ac ≠ b := Nat.ne_of_lt (Nat.lt_of_lt_of_le V_ac.lt (Nat.le_of_eq gz25.symm))
    have ne_ab_b : ab ≠ b := Nat.ne_of_lt (Nat.lt_of_lt_of_le V_ab.lt (Nat.le_of_eq gz25.symm))
    have g_b : n0 ≤ b := by rw [gz25, ← O.1]; exact O.2.1
    have O := O.ext Ez25
    have V_ac := V_ac.ext Ez25
    have V_ab := V_ab.ext Ez25
    refine own_go stz25 ?_
    have E_b := Az25
    have F_modCount_b : Fld Z hz25 b "java/util/AbstractList" "modCount" "I" (.int (0 : Int32)) := Dz25 (Or.inl (hw _ (List.mem_of_getElem? (i := 28) rfl))) (ty := .int) (by decide)
    have F_characters_b : Fld Z hz25 b "com/example/holds_for_transducers/holdsfortransducers/TextList" "characters" "[C" .null := Dz25 (Or.inr (hw _ (List.mem_of_getElem? (i := 30) rfl))) (ty := (.array .char)) (by decide)
    have F_bounds_b : Fld Z hz25 b "com/example/holds_for_transducers/holdsfortransducers/TextList" "bounds" "[I" .null := Dz25 (Or.inr (hw _ (List.mem_of_getElem? (i := 32) rfl))) (ty := (.array .int)) (by decide)
    show own_Go _ _ _ _ Tz25 (mkF m 313 #[.val (.long q1), .second, .val (.int p2), .val (.int p3), .val (.int p4), .val (.int p5), .val (.int t), .val (.ref ac), .val (.int sn.toInt32), .val (.int en.toInt32), .val (.int nn), .val (.int m1), .val (.int m2), .val (.ref ab), .val (.int ex), .unset] [(.ref b)])
    refine own_go (fun _ k => XS.dup Xz25.here hx rfl (hb hby at_313) rfl rfl k) ?_
    show own_Go _ _ _ _ Tz25 (mkF m 314 #[.val (.long q1), .second, .val (.int p2), .val (.int p3), .val (.int p4), .val (.int p5), .val (.int t), .val (.ref ac), .val (.int sn.toInt32), .val (.int en.toInt32), .val (.int nn), .val (.int m1), .val (.int m2), .val (.ref ab), .val (.int ex), .unset] [(.ref b), (.ref b)])
    refine own_go (fun _ k => XS.aload Xz25.here hx rfl (hb hby at_314) rfl rfl k) ?_
    show own_Go _ _ _ _ Tz25 (mkF m 316 #[.val (.long q1), .second, .val (.int p2), .val (.int p3), .val (.int p4), .val (.int p5), .val (.int t), .val (.ref ac), .val (.int sn.toInt32), .val (.int en.toInt32), .val (.int nn), .val (.int m1), .val (.int m2), .val (.ref ab), .val (.int ex), .unset] [(.ref ac), (.ref b), (.ref b)])
    refine own_go (fun _ k => XS.aload Xz25.here hx rfl (hb hby at_316) rfl rfl k) ?_
    show own_Go _ _ _ _ Tz25 (mkF m 318 #[.val (.long q1), .second, .val (.int p2), .val (.int p3), .val (.int p4), .val (.int p5), .val (.int t), .val (.ref ac), .val (.int sn.toInt32), .val (.int en.toInt32), .val (.int nn), .val (.int m1), .val (.int m2), .val (.ref ab), .val (.int ex), .unset] [(.ref ab), (.ref ac), (.ref b), (.ref b)])
    obtain ⟨vz26, Tz26, Lz26, Xz26, hQz26, stz26⟩ := own_callI Xz25 hx hZ rfl hown (hw _ (List.mem_of_getElem? (i := 10) rfl)) (hw _ (List.mem_of_getElem? (i := 11) rfl)) (hw _ (List.mem_of_getElem? (i := 9) rfl)) (hw _ (List.mem_of_getElem? (i := 12) rfl)) (by decide) ez25 (own_rm2 l Z a0 hw [] b ac ab hz25 n0 g_b E_b F_modCount_b F_characters_b F_bounds_b) (W := 1) (by decide) (by decide) (by decide) (by decide) own_pd1 rfl (g := (mkF m 318 #[.val (.long q1), .second, .val (.int p2), .val (.int p3), .val (.int p4), .val (.int p5), .val (.int t), .val (.ref ac), .val (.int sn.toInt32), .val (.int en.toInt32), .val (.int nn), .val (.int m1), .val (.int m2), .val (.ref ab), .val (.int ex), .unset] [(.ref ab), (.ref ac), (.ref b), (.ref b)])) (argsL := [(.ref ac), (.ref ab)]) (rest := [(.ref b)]) rfl (by rw [hml]; rfl) rfl (by show 2 * 0 + _ ≤ _; exact Nat.le_of_eq rfl) (hb hby at_318)
    obtain ⟨rfl, Nz26q, Kz26, c1_z26, c2_z26, c3_z26⟩ := hQz26
    have Nz26 := Fr.app N Nz26q
    refine own_go stz26 ?_
    have O := O.keep Kz26 (allS g_b all0)
    have V_ac := V_ac.keep Kz26 (ninS ne_ac_b nin0)
    have V_ab := V_ab.keep Kz26 (ninS ne_ab_b nin0)
    have E_b := c1_z26
    have F_characters_b := c2_z26
    have F_bounds_b := c3_z26
    show own_Go _ _ _ _ Tz26 (mkF m 321 #[.val (.long q1), .second, .val (.int p2), .val (.int p3), .val (.int p4), .val (.int p5), .val (.int t), .val (.ref ac), .val (.int sn.toInt32), .val (.int en.toInt32), .val (.int nn), .val (.int m1), .val (.int m2), .val (.ref ab), .val (.int ex), .unset] [(.ref b)])
    refine own_go (fun _ k => XS.astore Xz26.here hx rfl (hb hby at_321) rfl rfl (l' := #[.val (.long q1), .second, .val (.int p2), .val (.int p3), .val (.int p4), .val (.int p5), .val (.int t), .val (.ref ac), .val (.int sn.toInt32), .val (.int en.toInt32), .val (.int nn), .val (.int m1), .val (.int m2), .val (.ref ab), .val (.int ex), .val (.ref b)]) rfl k) ?_
    show own_Go _ _ _ _ Tz26 (mkF m 323 #[.val (.long q1), .second, .val (.int p2), .val (.int p3), .val (.int p4), .val (.int p5), .val (.int t), .val (.ref ac), .val (.int sn.toInt32), .val (.int en.toInt32), .val (.int nn), .val (.int m1), .val (.int m2), .val (.ref ab), .val (.int ex), .val (.ref b)] [])
    refine own_go (fun _ k => XS.aload Xz26.here hx rfl (hb hby at_323) rfl rfl k) ?_
    show own_Go _ _ _ _ Tz26 (mkF m 325 #[.val (.long q1), .second, .val (.int p2), .val (.int p3), .val (.int p4), .val (.int p5), .val (.int t), .val (.ref ac), .val (.int sn.toInt32), .val (.int en.toInt32), .val (.int nn), .val (.int m1), .val (.int m2), .val (.ref ab), .val (.int ex), .val (.ref b)] [(.ref b)])
    refine own_go (fun _ k => XS.iload Xz26.here hx rfl (hb hby at_325) rfl k) ?_
    show own_Go _ _ _ _ Tz26 (mkF m 327 #[.val (.long q1), .second, .val (.int p2), .val (.int p3), .val (.int p4), .val (.int p5), .val (.int t), .val (.ref ac), .val (.int sn.toInt32), .val (.int en.toInt32), .val (.int nn), .val (.int m1), .val (.int m2), .val (.ref ab), .val (.int ex), .val (.ref b)] [(.int t), (.ref b)])
    obtain ⟨vz27, Tz27, Lz27, Xz27, hQz27, stz27⟩ := own_callV Xz26 hx hZ hown (hw _ (List.mem_of_getElem? (i := 33) rfl)) (hw _ (List.mem_of_getElem? (i := 34) rfl)) (hw _ (List.mem_of_getElem? (i := 36) rfl)) (hw _ (List.mem_of_getElem? (i := 35) rfl)) (hw _ (List.mem_of_getElem? (i := 9) rfl)) (hw _ (List.mem_of_getElem? (i := 37) rfl)) (by decide) rfl E_b (own_rm6 l Z a0 hw [] b t Tz26.heap n0 y0 y1 y2 y3 sn en hse hen ac ab kz20 kb nb bs F_characters_b F_bounds_b V_ac V_ab hb0 hb1 hb2 hb3 hb4) (W := 0) (by decide) (by decide) (by decide) (by decide) own_pd2 rfl (g := (mkF m 327 #[.val (.long q1), .second, .val (.int p2), .val (.int p3), .val (.int p4), .val (.int p5), .val (.int t), .val (.ref ac), .val (.int sn.toInt32), .val (.int en.toInt32), .val (.int nn), .val (.int m1), .val (.int m2), .val (.ref ab), .val (.int ex), .val (.ref b)] [(.int t), (.ref b)])) (argsL := [(.int t)]) (rest := []) rfl (by rw [hml]; rfl) rfl (by show 2 * 0 + _ ≤ _; exact Nat.le_of_eq rfl) (hb hby at_327)
    obtain ⟨rfl, Nz27q, ehz27⟩ := hQz27
    have Nz27 := Fr.app Nz26 Nz27q
    refine own_go stz27 ?_
    show own_Go _ _ _ _ Tz27 (mkF m 330 #[.val (.long q1), .second, .val (.int p2), .val (.int p3), .val (.int p4), .val (.int p5), .val (.int t), .val (.ref ac), .val (.int sn.toInt32), .val (.int en.toInt32), .val (.int nn), .val (.int m1), .val (.int m2), .val (.ref ab), .val (.int ex), .val (.ref b)] [(.int (own_any (own_y y0 y1 y2 y3) t (en - sn) sn))])
    refine own_go (fun _ k => XS.iload Xz27.here hx rfl (hb hby at_330) rfl k) ?_
    show own_Go _ _ _ _ Tz27 (mkF m 332 #[.val (.long q1), .second, .val (.int p2), .val (.int p3), .val (.int p4), .val (.int p5), .val (.int t), .val (.ref ac), .val (.int sn.toInt32), .val (.int en.toInt32), .val (.int nn), .val (.int m1), .val (.int m2), .val (.ref ab), .val (.int ex), .val (.ref b)] [(.int ex), (.int (own_any (own_y y0 y1 y2 y3) t (en - sn) sn))])
    refine own_go (fun _ k => XS.icmpNo Xz27.here hx rfl (hb hby at_332) rfl (teq hex).2 k) ?_
    show own_Go _ _ _ _ Tz27 (mkF m 335 #[.val (.long q1), .second, .val (.int p2), .val (.int p3), .val (.int p4), .val (.int p5), .val (.int t), .val (.ref ac), .val (.int sn.toInt32), .val (.int en.toInt32), .val (.int nn), .val (.int m1), .val (.int m2), .val (.ref ab), .val (.int ex), .val (.ref b)] [])
    refine own_go (fun _ k => XS.iconst Xz27.here hx rfl (hb hby at_335) k) ?_
    show own_Go _ _ _ _ Tz27 (mkF m 336 #[.val (.long q1), .second, .val (.int p2), .val (.int p3), .val (.int p4), .val (.int p5), .val (.int t), .val (.ref ac), .val (.int sn.toInt32), .val (.int en.toInt32), .val (.int nn), .val (.int m1), .val (.int m2), .val (.ref ab), .val (.int ex), .val (.ref b)] [(.int (1 : Int32))])
    refine own_go (fun _ k => XS.goto Xz27.here hx rfl (pc0 := 336) (pc' := 340) rfl (hb hby at_336) (by decide) (by decide) k) ?_
    show own_Go _ _ _ _ Tz27 (mkF m 340 #[.val (.long q1), .second, .val (.int p2), .val (.int p3), .val (.int p4), .val (.int p5), .val (.int t), .val (.ref ac), .val (.int sn.toInt32), .val (.int en.toInt32), .val (.int nn), .val (.int m1), .val (.int m2), .val (.ref ab), .val (.int ex), .val (.ref b)] [(.int (1 : Int32))])
    exact own_end Xz27 hlk (v := (some (.int (1 : Int32)))) (fun h => by rw [hret] at h; cases h) (fun fs hr => retN Xz27 hx (t := .boolean) hret (by simp) (hb hby at_340) hr) (by rw [ehz27]; exact ⟨rfl, Nz27⟩) (by decide) (by decide)
  have k3 : ∀ (T : State) (hh : Heap) (locs : List Loc) (X : Stand p l e room_1 s m #[(.long q1), (.int p2), (.int p3), (.int p4), (.int p5)] below meth c T locs 2 8) (eT : T.heap = hh) (N : Fr n0 locs) (O : Old Z n0 hh) (y0 y1 y2 y3 : Int32) (V_ac : Arv Z hh ac kz20 .char (4 : Int32) [(.int y0), (.int y1), (.int y2), (.int y3)] (.int (0 : Int32))) (ab : Addr) (kb : ClassId) (nb : Int32) (bs : List Value) (nn m1 m2 : Int32) (sn en : Nat) (hse : sn ≤ en) (hen : en ≤ 4) (V_ab : Arv Z hh ab kb .int nb bs (.int (0 : Int32))) (hb0 : bs.getD (0 : Int32).toNatClampNeg (.int (0 : Int32)) = .int sn.toInt32) (hb1 : (0 : Int32) < nb) (hb2 : ¬ (nb - (1 : Int32)) < 0) (hb3 : (nb - (1 : Int32)) < nb) (hb4 : bs.getD (nb - (1 : Int32)).toNatClampNeg (.int (0 : Int32)) = .int en.toInt32) (hab : ac ≠ ab), own_Go p e below (own_Fin s (own_Q0 Z p2 h0 n0) room_1.cells room_1.slots) T (mkF m 243 #[.val (.long q1), .second, .val (.int p2), .val (.int p3), .val (.int p4), .val (.int p5), .val (.int t), .val (.ref ac), .val (.int sn.toInt32), .val (.int en.toInt32), .val (.int nn), .val (.int m1), .val (.int m2), .val (.ref ab), .unset, .unset] []) := by
    intro T hh locs X eT N O y0 y1 y2 y3 V_ac ab kb nb bs nn m1 m2 sn en hse hen V_ab hb0 hb1 hb2 hb3 hb4 hab
    show own_Go _ _ _ _ T (mkF m 243 #[.val (.long q1), .second, .val (.int p2), .val (.int p3), .val (.int p4), .val (.int p5), .val (.int t), .val (.ref ac), .val (.int sn.toInt32), .val (.int en.toInt32), .val (.int nn), .val (.int m1), .val (.int m2), .val (.ref ab), .unset, .unset] [])
    have hexp := own_expect y0 y1 y2 y3 t sn en hse hen
    refine own_go (fun _ k => XS.aload X.here hx rfl (hb hby at_243) rfl rfl k) ?_
    show own_Go _ _ _ _ T (mkF m 245 #[.val (.long q1), .second, .val (.int p2), .val (.int p3), .val (.int p4), .val (.int p5), .val (.int t), .val (.ref ac), .val (.int sn.toInt32), .val (.int en.toInt32), .val (.int nn), .val (.int m1), .val (.int m2), .val (.ref ab), .unset, .unset] [(.ref ac)])
    refine own_go (fun _ k => XS.iconst X.here hx rfl (hb hby at_245) k) ?_
    show own_Go _ _ _ _ T (mkF m 246 #[.val (.long q1), .second, .val (.int p2), .val (.int p3), .val (.int p4), .val (.int p5), .val (.int t), .val (.ref ac), .val (.int sn.toInt32), .val (.int en.toInt32), .val (.int nn), .val (.int m1), .val (.int m2), .val (.ref ab), .unset, .unset] [(.int (0 : Int32)), (.ref ac)])
    refine own_go (fun _ k => XS.iload X.here hx rfl (hb hby at_246) rfl k) ?_
    show own_Go _ _ _ _ T (mkF m 248 #[.val (.long q1), .second, .val (.int p2), .val (.int p3), .val (.int p4), .val (.int p5), .val (.int t), .val (.ref ac), .val (.int sn.toInt32), .val (.int en.toInt32), .val (.int nn), .val (.int m1), .val (.int m2), .val (.ref ab), .unset, .unset] [(.int sn.toInt32), (.int (0 : Int32)), (.ref ac)])
    refine own_go (fun _ k => XS.iload X.here hx rfl (hb hby at_248) rfl k) ?_
    show own_Go _ _ _ _ T (mkF m 250 #[.val (.long q1), .second, .val (.int p2), .val (.int p3), .val (.int p4), .val (.int p5), .val (.int t), .val (.ref ac), .val (.int sn.toInt32), .val (.int en.toInt32), .val (.int nn), .val (.int m1), .val (.int m2), .val (.ref ab), .unset, .unset] [(.int en.toInt32), (.int sn.toInt32), (.int (0 : Int32)), (.ref ac)])
    refine own_go (fun _ k => XS.iload X.here hx rfl (hb hby at_250) rfl k) ?_
    show own_Go _ _ _ _ T (mkF m 252 #[.val (.long q1), .second, .val (.int p2), .val (.int p3), .val (.int p4), .val (.int p5), .val (.int t), .val (.ref ac), .val (.int sn.toInt32), .val (.int en.toInt32), .val (.int nn), .val (.int m1), .val (.int m2), .val (.ref ab), .unset, .unset] [(.int t), (.int en.toInt32), (.int sn.toInt32), (.int (0 : Int32)), (.ref ac)])
    obtain ⟨vz28, Tz28, Lz28, Xz28, hQz28, stz28⟩ := own_callS X hx hZ hown (hw _ (List.mem_of_getElem? (i := 3) rfl)) (hw _ (List.mem_of_getElem? (i := 4) rfl)) (hw _ (List.mem_of_getElem? (i := 5) rfl)) (hw _ (List.mem_of_getElem? (i := 6) rfl)) (by decide) eT (own_rm1 l Z a0 hw [] ac (0 : Int32) sn.toInt32 en.toInt32 t hh n0 y0 y1 y2 y3 y0 kz20 V_ac (by decide) (by decide) rfl) (W := 0) (by decide) (by decide) (by decide) (by decide) own_pd3 rfl (g := (mkF m 252 #[.val (.long q1), .second, .val (.int p2), .val (.int p3), .val (.int p4), .val (.int p5), .val (.int t), .val (.ref ac), .val (.int sn.toInt32), .val (.int en.toInt32), .val (.int nn), .val (.int m1), .val (.int m2), .val (.ref ab), .unset, .unset] [(.int t), (.int en.toInt32), (.int sn.toInt32), (.int (0 : Int32)), (.ref ac)])) (argsL := [(.ref ac), (.int (0 : Int32)), (.int sn.toInt32), (.int en.toInt32), (.int t)]) (rest := []) rfl (by rw [hml]; rfl) rfl (by show 2 * 0 + _ ≤ _; exact Nat.le_of_eq rfl) (hb hby at_252)
    obtain ⟨rfl, Nz28q, ehz28⟩ := hQz28
    have Nz28 := Fr.app N Nz28q
    refine own_go stz28 ?_
    show own_Go _ _ _ _ Tz28 (mkF m 255 #[.val (.long q1), .second, .val (.int p2), .val (.int p3), .val (.int p4), .val (.int p5), .val (.int t), .val (.ref ac), .val (.int sn.toInt32), .val (.int en.toInt32), .val (.int nn), .val (.int m1), .val (.int m2), .val (.ref ab), .unset, .unset] [(.int (own_at sn.toInt32 en.toInt32 y0 t (0 : Int32)))])
    by_cases hk0 : (own_at sn.toInt32 en.toInt32 y0 t (0 : Int32)) = (0 : Int32)
    · refine own_go (fun _ k => XS.ifNo Xz28.here hx rfl (hb hby at_255) rfl ((if0 _ _).trans (teq hk0).2) k) ?_
      show own_Go _ _ _ _ Tz28 (mkF m 258 #[.val (.long q1), .second, .val (.int p2), .val (.int p3), .val (.int p4), .val (.int p5), .val (.int t), .val (.ref ac), .val (.int sn.toInt32), .val (.int en.toInt32), .val (.int nn), .val (.int m1), .val (.int m2), .val (.ref ab), .unset, .unset] [])
      refine own_go (fun _ k => XS.aload Xz28.here hx rfl (hb hby at_258) rfl rfl k) ?_
      show own_Go _ _ _ _ Tz28 (mkF m 260 #[.val (.long q1), .second, .val (.int p2), .val (.int p3), .val (.int p4), .val (.int p5), .val (.int t), .val (.ref ac), .val (.int sn.toInt32), .val (.int en.toInt32), .val (.int nn), .val (.int m1), .val (.int m2), .val (.ref ab), .unset, .unset] [(.ref ac)])
      refine own_go (fun _ k => XS.iconst Xz28.here hx rfl (hb hby at_260) k) ?_
      show own_Go _ _ _ _ Tz28 (mkF m 261 #[.val (.long q1), .second, .val (.int p2), .val (.int p3), .val (.int p4), .val (.int p5), .val (.int t), .val (.ref ac), .val (.int sn.toInt32), .val (.int en.toInt32), .val (.int nn), .val (.int m1), .val (.int m2), .val (.ref ab), .unset, .unset] [(.int (1 : Int32)), (.ref ac)])
      refine own_go (fun _ k => XS.iload Xz28.here hx rfl (hb hby at_261) rfl k) ?_
      show own_Go _ _ _ _ Tz28 (mkF m 263 #[.val (.long q1), .second, .val (.int p2), .val (.int p3), .val (.int p4), .val (.int p5), .val (.int t), .val (.ref ac), .val (.int sn.toInt32), .val (.int en.toInt32), .val (.int nn), .val (.int m1), .val (.int m2), .val (.ref ab), .unset, .unset] [(.int sn.toInt32), (.int (1 : Int32)), (.ref ac)])
      refine own_go (fun _ k => XS.iload Xz28.here hx rfl (hb hby at_263) rfl k) ?_
      show own_Go _ _ _ _ Tz28 (mkF m 265 #[.val (.long q1), .second, .val (.int p2), .val (.int p3), .val (.int p4), .val (.int p5), .val (.int t), .val (.ref ac), .val (.int sn.toInt32), .val (.int en.toInt32), .val (.int nn), .val (.int m1), .val (.int m2), .val (.ref ab), .unset, .unset] [(.int en.toInt32), (.int sn.toInt32), (.int (1 : Int32)), (.ref ac)])
      refine own_go (fun _ k => XS.iload Xz28.here hx rfl (hb hby at_265) rfl k) ?_
      show own_Go _ _ _ _ Tz28 (mkF m 267 #[.val (.long q1), .second, .val (.int p2), .val (.int p3), .val (.int p4), .val (.int p5), .val (.int t), .val (.ref ac), .val (.int sn.toInt32), .val (.int en.toInt32), .val (.int nn), .val (.int m1), .val (.int m2), .val (.ref ab), .unset, .unset] [(.int t), (.int en.toInt32), (.int sn.toInt32), (.int (1 : Int32)), (.ref ac)])
      obtain ⟨vz29, Tz29, Lz29, Xz29, hQz29, stz29⟩ := own_callS Xz28 hx hZ hown (hw _ (List.mem_of_getElem? (i := 3) rfl)) (hw _ (List.mem_of_getElem? (i := 4) rfl)) (hw _ (List.mem_of_getElem? (i := 5) rfl)) (hw _ (List.mem_of_getElem? (i := 6) rfl)) (by decide) ehz28 (own_rm1 l Z a0 hw [] ac (1 : Int32) sn.toInt32 en.toInt32 t hh n0 y0 y1 y2 y3 y1 kz20 V_ac (by decide) (by decide) rfl) (W := 0) (by decide) (by decide) (by decide) (by decide) own_pd3 rfl (g := (mkF m 267 #[.val (.long q1), .second, .val (.int p2), .val (.int p3), .val (.int p4), .val (.int p5), .val (.int t), .val (.ref ac), .val (.int sn.toInt32), .val (.int en.toInt32), .val (.int nn), .val (.int m1), .val (.int m2), .val (.ref ab), .unset, .unset] [(.int t), (.int en.toInt32), (.int sn.toInt32), (.int (1 : Int32)), (.ref ac)])) (argsL := [(.ref ac), (.int (1 : Int32)), (.int sn.toInt32), (.int en.toInt32), (.int t)]) (rest := []) rfl (by rw [hml]; rfl) rfl (by show 2 * 0 + _ ≤ _; exact Nat.le_of_eq rfl) (hb hby at_267)
      obtain ⟨rfl, Nz29q, ehz29⟩ := hQz29
      have Nz29 := Fr.app Nz28 Nz29q
      refine own_go stz29 ?_
      show own_Go _ _ _ _ Tz29 (mkF m 270 #[.val (.long q1), .second, .val (.int p2), .val (.int p3), .val (.int p4), .val (.int p5), .val (.int t), .val (.ref ac), .val (.int sn.toInt32), .val (.int en.toInt32), .val (.int nn), .val (.int m1), .val (.int m2), .val (.ref ab), .unset, .unset] [(.int (own_at sn.toInt32 en.toInt32 y1 t (1 : Int32)))])
      by_cases hk1 : (own_at sn.toInt32 en.toInt32 y1 t (1 : Int32)) = (0 : Int32)
      · refine own_go (fun _ k => XS.ifNo Xz29.here hx rfl (hb hby at_270) rfl ((if0 _ _).trans (teq hk1).2) k) ?_
        show own_Go _ _ _ _ Tz29 (mkF m 273 #[.val (.long q1), .second, .val (.int p2), .val (.int p3), .val (.int p4), .val (.int p5), .val (.int t), .val (.ref ac), .val (.int sn.toInt32), .val (.int en.toInt32), .val (.int nn), .val (.int m1), .val (.int m2), .val (.ref ab), .unset, .unset] [])
        refine own_go (fun _ k => XS.aload Xz29.here hx rfl (hb hby at_273) rfl rfl k) ?_
        show own_Go _ _ _ _ Tz29 (mkF m 275 #[.val (.long q1), .second, .val (.int p2), .val (.int p3), .val (.int p4), .val (.int p5), .val (.int t), .val (.ref ac), .val (.int sn.toInt32), .val (.int en.toInt32), .val (.int nn), .val (.int m1), .val (.int m2), .val (.ref ab), .unset, .unset] [(.ref ac)])
        refine own_go (fun _ k => XS.iconst Xz29.here hx rfl (hb hby at_275) k) ?_
        show own_Go _ _ _ _ Tz29 (mkF m 276 #[.val (.long q1), .second, .val (.int p2), .val (.int p3), .val (.int p4), .val (.int p5), .val (.int t), .val (.ref ac), .val (.int sn.toInt32), .val (.int en.toInt32), .val (.int nn), .val (.int m1), .val (.int m2), .val (.ref ab), .unset, .unset] [(.int (2 : Int32)), (.ref ac)])
        refine own_go (fun _ k => XS.iload Xz29.here hx rfl (hb hby at_276) rfl k) ?_
        show own_Go _ _ _ _ Tz29 (mkF m 278 #[.val (.long q1), .second, .val (.int p2), .val (.int p3), .val (.int p4), .val (.int p5), .val (.int t), .val (.ref ac), .val (.int sn.toInt32), .val (.int en.toInt32), .val (.int nn), .val (.int m1), .val (.int m2), .val (.ref ab), .unset, .unset] [(.int sn.toInt32), (.int (2 : Int32)), (.ref ac)])
        refine own_go (fun _ k => XS.iload Xz29.here hx rfl (hb hby at_278) rfl k) ?_
        show own_Go _ _ _ _ Tz29 (mkF m 280 #[.val (.long q1), .second, .val (.int p2), .val (.int p3), .val (.int p4), .val (.int p5), .val (.int t), .val (.ref ac), .val (.int sn.toInt32), .val (.int en.toInt32), .val (.int nn), .val (.int m1), .val (.int m2), .val (.ref ab), .unset, .unset] [(.int en.toInt32), (.int sn.toInt32), (.int (2 : Int32)), (.ref ac)])
        refine own_go (fun _ k => XS.iload Xz29.here hx rfl (hb hby at_280) rfl k) ?_
        show own_Go _ _ _ _ Tz29 (mkF m 282 #[.val (.long q1), .second, .val (.int p2), .val (.int p3), .val (.int p4), .val (.int p5), .val (.int t), .val (.ref ac), .val (.int sn.toInt32), .val (.int en.toInt32), .val (.int nn), .val (.int m1), .val (.int m2), .val (.ref ab), .unset, .unset] [(.int t), (.int en.toInt32), (.int sn.toInt32), (.int (2 : Int32)), (.ref ac)])
        obtain ⟨vz30, Tz30, Lz30, Xz30, hQz30, stz30⟩ := own_callS Xz29 hx hZ hown (hw _ (List.mem_of_getElem? (i := 3) rfl)) (hw _ (List.mem_of_getElem? (i := 4) rfl)) (hw _ (List.mem_of_getElem? (i := 5) rfl)) (hw _ (List.mem_of_getElem? (i := 6) rfl)) (by decide) ehz29 (own_rm1 l Z a0 hw [] ac (2 : Int32) sn.toInt32 en.toInt32 t hh n0 y0 y1 y2 y3 y2 kz20 V_ac (by decide) (by decide) rfl) (W := 0) (by decide) (by decide) (by decide) (by decide) own_pd3 rfl (g := (mkF m 282 #[.val (.long q1), .second, .val (.int p2), .val (.int p3), .val (.int p4), .val (.int p5), .val (.int t), .val (.ref ac), .val (.int sn.toInt32), .val (.int en.toInt32), .val (.int nn), .val (.int m1), .val (.int m2), .val (.ref ab), .unset, .unset] [(.int t), (.int en.toInt32), (.int sn.toInt32), (.int (2 : Int32)), (.ref ac)])) (argsL := [(.ref ac), (.int (2 : Int32)), (.int sn.toInt32), (.int en.toInt32), (.int t)]) (rest := []) rfl (by rw [hml]; rfl) rfl (by show 2 * 0 + _ ≤ _; exact Nat.le_of_eq rfl) (hb hby at_282)
        obtain ⟨rfl, Nz30q, ehz30⟩ := hQz30
        have Nz30 := Fr.app Nz29 Nz30q
        refine own_go stz30 ?_
        show own_Go _ _ _ _ Tz30 (mkF m 285 #[.val (.long q1), .second, .val (.int p2), .val (.int p3), .val (.int p4), .val (.int p5), .val (.int t), .val (.ref ac), .val (.int sn.toInt32), .val (.int en.toInt32), .val (.int nn), .val (.int m1), .val (.int m2), .val (.ref ab), .unset, .unset] [(.int (own_at sn.toInt32 en.toInt32 y2 t (2 : Int32)))])
        by_cases hk2 : (own_at sn.toInt32 en.toInt32 y2 t (2 : Int32)) = (0 : Int32)
        · refine own_go (fun _ k => XS.ifNo Xz30.here hx rfl (hb hby at_285) rfl ((if0 _ _).trans (teq hk2).2) k) ?_
          show own_Go _ _ _ _ Tz30 (mkF m 288 #[.val (.long q1), .second, .val (.int p2), .val (.int p3), .val (.int p4), .val (.int p5), .val (.int t), .val (.ref ac), .val (.int sn.toInt32), .val (.int en.toInt32), .val (.int nn), .val (.int m1), .val (.int m2), .val (.ref ab), .unset, .unset] [])
          refine own_go (fun _ k => XS.aload Xz30.here hx rfl (hb hby at_288) rfl rfl k) ?_
          show own_Go _ _ _ _ Tz30 (mkF m 290 #[.val (.long q1), .second, .val (.int p2), .val (.int p3), .val (.int p4), .val (.int p5), .val (.int t), .val (.ref ac), .val (.int sn.toInt32), .val (.int en.toInt32), .val (.int nn), .val (.int m1), .val (.int m2), .val (.ref ab), .unset, .unset] [(.ref ac)])
          refine own_go (fun _ k => XS.iconst Xz30.here hx rfl (hb hby at_290) k) ?_
          show own_Go _ _ _ _ Tz30 (mkF m 291 #[.val (.long q1), .second, .val (.int p2), .val (.int p3), .val (.int p4), .val (.int p5), .val (.int t), .val (.ref ac), .val (.int sn.toInt32), .val (.int en.toInt32), .val (.int nn), .val (.int m1), .val (.int m2), .val (.ref ab), .unset, .unset] [(.int (3 : Int32)), (.ref ac)])
          refine own_go (fun _ k => XS.iload Xz30.here hx rfl (hb hby at_291) rfl k) ?_
          show own_Go _ _ _ _ Tz30 (mkF m 293 #[.val (.long q1), .second, .val (.int p2), .val (.int p3), .val (.int p4), .val (.int p5), .val (.int t), .val (.ref ac), .val (.int sn.toInt32), .val (.int en.toInt32), .val (.int nn), .val (.int m1), .val (.int m2), .val (.ref ab), .unset, .unset] [(.int sn.toInt32), (.int (3 : Int32)), (.ref ac)])
          refine own_go (fun _ k => XS.iload Xz30.here hx rfl (hb hby at_293) rfl k) ?_
          show own_Go _ _ _ _ Tz30 (mkF m 295 #[.val (.long q1), .second, .val (.int p2), .val (.int p3), .val (.int p4), .val (.int p5), .val (.int t), .val (.ref ac), .val (.int sn.toInt32), .val (.int en.toInt32), .val (.int nn), .val (.int m1), .val (.int m2), .val (.ref ab), .unset, .unset] [(.int en.toInt32), (.int sn.toInt32), (.int (3 : Int32)), (.ref ac)])
          refine own_go (fun _ k => XS.iload Xz30.here hx rfl (hb hby at_295) rfl k) ?_
          show own_Go _ _ _ _ Tz30 (mkF m 297 #[.val (.long q1), .second, .val (.int p2), .val (.int p3), .val (.int p4), .val (.int p5), .val (.int t), .val (.ref ac), .val (.int sn.toInt32), .val (.int en.toInt32), .val (.int nn), .val (.int m1), .val (.int m2), .val (.ref ab), .unset, .unset] [(.int t), (.int en.toInt32), (.int sn.toInt32), (.int (3 : Int32)), (.ref ac)])
          obtain ⟨vz31, Tz31, Lz31, Xz31, hQz31, stz31⟩ := own_callS Xz30 hx hZ hown (hw _ (List.mem_of_getElem? (i := 3) rfl)) (hw _ (List.mem_of_getElem? (i := 4) rfl)) (hw _ (List.mem_of_getElem? (i := 5) rfl)) (hw _ (List.mem_of_getElem? (i := 6) rfl)) (by decide) ehz30 (own_rm1 l Z a0 hw [] ac (3 : Int32) sn.toInt32 en.toInt32 t hh n0 y0 y1 y2 y3 y3 kz20 V_ac (by decide) (by decide) rfl) (W := 0) (by decide) (by decide) (by decide) (by decide) own_pd3 rfl (g := (mkF m 297 #[.val (.long q1), .second, .val (.int p2), .val (.int p3), .val (.int p4), .val (.int p5), .val (.int t), .val (.ref ac), .val (.int sn.toInt32), .val (.int en.toInt32), .val (.int nn), .val (.int m1), .val (.int m2), .val (.ref ab), .unset, .unset] [(.int t), (.int en.toInt32), (.int sn.toInt32), (.int (3 : Int32)), (.ref ac)])) (argsL := [(.ref ac), (.int (3 : Int32)), (.int sn.toInt32), (.int en.toInt32), (.int t)]) (rest := []) rfl (by rw [hml]; rfl) rfl (by show 2 * 0 + _ ≤ _; exact Nat.le_of_eq rfl) (hb hby at_297)
          obtain ⟨rfl, Nz31q, ehz31⟩ := hQz31
          have Nz31 := Fr.app Nz30 Nz31q
          refine own_go stz31 ?_
          show own_Go _ _ _ _ Tz31 (mkF m 300 #[.val (.long q1), .second, .val (.int p2), .val (.int p3), .val (.int p4), .val (.int p5), .val (.int t), .val (.ref ac), .val (.int sn.toInt32), .val (.int en.toInt32), .val (.int nn), .val (.int m1), .val (.int m2), .val (.ref ab), .unset, .unset] [(.int (own_at sn.toInt32 en.toInt32 y3 t (3 : Int32)))])
          by_cases hk3 : (own_at sn.toInt32 en.toInt32 y3 t (3 : Int32)) = (0 : Int32)
          · refine own_go (fun _ k => XS.ifYes Xz31.here hx rfl (pc0 := 300) (pc' := 307) rfl (hb hby at_300) rfl ((if0 _ _).trans (teq hk3).1) (by decide) (by decide) k) ?_
            show own_Go _ _ _ _ Tz31 (mkF m 307 #[.val (.long q1), .second, .val (.int p2), .val (.int p3), .val (.int p4), .val (.int p5), .val (.int t), .val (.ref ac), .val (.int sn.toInt32), .val (.int en.toInt32), .val (.int nn), .val (.int m1), .val (.int m2), .val (.ref ab), .unset, .unset] [])
            refine own_go (fun _ k => XS.iconst Xz31.here hx rfl (hb hby at_307) k) ?_
            show own_Go _ _ _ _ Tz31 (mkF m 308 #[.val (.long q1), .second, .val (.int p2), .val (.int p3), .val (.int p4), .val (.int p5), .val (.int t), .val (.ref ac), .val (.int sn.toInt32), .val (.int en.toInt32), .val (.int nn), .val (.int m1), .val (.int m2), .val (.ref ab), .unset, .unset] [(.int (0 : Int32))])
            exact k4 Tz31 hh _ Xz31 ehz31 Nz31 O y0 y1 y2 y3 V_ac ab kb nb bs nn m1 m2 sn en hse hen V_ab hb0 hb1 hb2 hb3 hb4 hab (0 : Int32) (by rw [hexp, if_neg (Decidable.not_not.mpr hk0), if_neg (Decidable.not_not.mpr hk1), if_neg (Decidable.not_not.mpr hk2), if_pos hk3])
          · refine own_go (fun _ k => XS.ifNo Xz31.here hx rfl (hb hby at_300) rfl ((if0 _ _).trans (feq hk3).1) k) ?_
            show own_Go _ _ _ _ Tz31 (mkF m 303 #[.val (.long q1), .second, .val (.int p2), .val (.int p3), .val (.int p4), .val (.int p5), .val (.int t), .val (.ref ac), .val (.int sn.toInt32), .val (.int en.toInt32), .val (.int nn), .val (.int m1), .val (.int m2), .val (.ref ab), .unset, .unset] [])
            refine own_go (fun _ k => XS.iconst Xz31.here hx rfl (hb hby at_303) k) ?_
            show own_Go _ _ _ _ Tz31 (mkF m 304 #[.val (.long q1), .second, .val (.int p2), .val (.int p3), .val (.int p4), .val (.int p5), .val (.int t), .val (.ref ac), .val (.int sn.toInt32), .val (.int en.toInt32), .val (.int nn), .val (.int m1), .val (.int m2), .val (.ref ab), .unset, .unset] [(.int (1 : Int32))])
            refine own_go (fun _ k => XS.goto Xz31.here hx rfl (pc0 := 304) (pc' := 308) rfl (hb hby at_304) (by decide) (by decide) k) ?_
            show own_Go _ _ _ _ Tz31 (mkF m 308 #[.val (.long q1), .second, .val (.int p2), .val (.int p3), .val (.int p4), .val (.int p5), .val (.int t), .val (.ref ac), .val (.int sn.toInt32), .val (.int en.toInt32), .val (.int nn), .val (.int m1), .val (.int m2), .val (.ref ab), .unset, .unset] [(.int (1 : Int32))])
            exact k4 Tz31 hh _ Xz31 ehz31 Nz31 O y0 y1 y2 y3 V_ac ab kb nb bs nn m1 m2 sn en hse hen V_ab hb0 hb1 hb2 hb3 hb4 hab (1 : Int32) (by rw [hexp, if_neg (Decidable.not_not.mpr hk0), if_neg (Decidable.not_not.mpr hk1), if_neg (Decidable.not_not.mpr hk2), if_neg hk3])
        · refine own_go (fun _ k => XS.ifYes Xz30.here hx rfl (pc0 := 285) (pc' := 303) rfl (hb hby at_285) rfl ((if0 _ _).trans (feq hk2).2) (by decide) (by decide) k) ?_
          show own_Go _ _ _ _ Tz30 (mkF m 303 #[.val (.long q1), .second, .val (.int p2), .val (.int p3), .val (.int p4), .val (.int p5), .val (.int t), .val (.ref ac), .val (.int sn.toInt32), .val (.int en.toInt32), .val (.int nn), .val (.int m1), .val (.int m2), .val (.ref ab), .unset, .unset] [])
          refine own_go (fun _ k => XS.iconst Xz30.here hx rfl (hb hby at_303) k) ?_
          show own_Go _ _ _ _ Tz30 (mkF m 304 #[.val (.long q1), .second, .val (.int p2), .val (.int p3), .val (.int p4), .val (.int p5), .val (.int t), .val (.ref ac), .val (.int sn.toInt32), .val (.int en.toInt32), .val (.int nn), .val (.int m1), .val (.int m2), .val (.ref ab), .unset, .unset] [(.int (1 : Int32))])
          refine own_go (fun _ k => XS.goto Xz30.here hx rfl (pc0 := 304) (pc' := 308) rfl (hb hby at_304) (by decide) (by decide) k) ?_
          show own_Go _ _ _ _ Tz30 (mkF m 308 #[.val (.long q1), .second, .val (.int p2), .val (.int p3), .val (.int p4), .val (.int p5), .val (.int t), .val (.ref ac), .val (.int sn.toInt32), .val (.int en.toInt32), .val (.int nn), .val (.int m1), .val (.int m2), .val (.ref ab), .unset, .unset] [(.int (1 : Int32))])
          exact k4 Tz30 hh _ Xz30 ehz30 Nz30 O y0 y1 y2 y3 V_ac ab kb nb bs nn m1 m2 sn en hse hen V_ab hb0 hb1 hb2 hb3 hb4 hab (1 : Int32) (by rw [hexp, if_neg (Decidable.not_not.mpr hk0), if_neg (Decidable.not_not.mpr hk1), if_pos hk2])
      · refine own_go (fun _ k => XS.ifYes Xz29.here hx rfl (pc0 := 270) (pc' := 303) rfl (hb hby at_270) rfl ((if0 _ _).trans (feq hk1).2) (by decide) (by decide) k) ?_
        show own_Go _ _ _ _ Tz29 (mkF m 303 #[.val (.long q1), .second, .val (.int p2), .val (.int p3), .val (.int p4), .val (.int p5), .val (.int t), .val (.ref ac), .val (.int sn.toInt32), .val (.int en.toInt32), .val (.int nn), .val (.int m1), .val (.int m2), .val (.ref ab), .unset, .unset] [])
        refine own_go (fun _ k => XS.iconst Xz29.here hx rfl (hb hby at_303) k) ?_
        show own_Go _ _ _ _ Tz29 (mkF m 304 #[.val (.long q1), .second, .val (.int p2), .val (.int p3), .val (.int p4), .val (.int p5), .val (.int t), .val (.ref ac), .val (.int sn.toInt32), .val (.int en.toInt32), .val (.int nn), .val (.int m1), .val (.int m2), .val (.ref ab), .unset, .unset] [(.int (1 : Int32))])
        refine own_go (fun _ k => XS.goto Xz29.here hx rfl (pc0 := 304) (pc' := 308) rfl (hb hby at_304) (by decide) (by decide) k) ?_
        show own_Go _ _ _ _ Tz29 (mkF m 308 #[.val (.long q1), .second, .val (.int p2), .val (.int p3), .val (.int p4), .val (.int p5), .val (.int t), .val (.ref ac), .val (.int sn.toInt32), .val (.int en.toInt32), .val (.int nn), .val (.int m1), .val (.int m2), .val (.ref ab), .unset, .unset] [(.int (1 : Int32))])
        exact k4 Tz29 hh _ Xz29 ehz29 Nz29 O y0 y1 y2 y3 V_ac ab kb nb bs nn m1 m2 sn en hse hen V_ab hb0 hb1 hb2 hb3 hb4 hab (1 : Int32) (by rw [hexp, if_neg (Decidable.not_not.mpr hk0), if_pos hk1])
    · refine own_go (fun _ k => XS.ifYes Xz28.here hx rfl (pc0 := 255) (pc' := 303) rfl (hb hby at_255) rfl ((if0 _ _).trans (feq hk0).2) (by decide) (by decide) k) ?_
      show own_Go _ _ _ _ Tz28 (mkF m 303 #[.val (.long q1), .second, .val (.int p2), .val (.int p3), .val (.int p4), .val (.int p5), .val (.int t), .val (.ref ac), .val (.int sn.toInt32), .val (.int en.toInt32), .val (.int nn), .val (.int m1), .val (.int m2), .val (.ref ab), .unset, .unset] [])
      refine own_go (fun _ k => XS.iconst Xz28.here hx rfl (hb hby at_303) k) ?_
      show own_Go _ _ _ _ Tz28 (mkF m 304 #[.val (.long q1), .second, .val (.int p2), .val (.int p3), .val (.int p4), .val (.int p5), .val (.int t), .val (.ref ac), .val (.int sn.toInt32), .val (.int en.toInt32), .val (.int nn), .val (.int m1), .val (.int m2), .val (.ref ab), .unset, .unset] [(.int (1 : Int32))])
      refine own_go (fun _ k => XS.goto Xz28.here hx rfl (pc0 := 304) (pc' := 308) rfl (hb hby at_304) (by decide) (by decide) k) ?_
      show own_Go _ _ _ _ Tz28 (mkF m 308 #[.val (.long q1), .second, .val (.int p2), .val (.int p3), .val (.int p4), .val (.int p5), .val (.int t), .val (.ref ac), .val (.int sn.toInt32), .val (.int en.toInt32), .val (.int nn), .val (.int m1), .val (.int m2), .val (.ref ab), .unset, .unset] [(.int (1 : Int32))])
      exact k4 Tz28 hh _ Xz28 ehz28 Nz28 O y0 y1 y2 y3 V_ac ab kb nb bs nn m1 m2 sn en hse hen V_ab hb0 hb1 hb2 hb3 hb4 hab (1 : Int32) (by rw [hexp, if_pos hk0])
  have k1 : ∀ (T : State) (hh : Heap) (locs : List Loc) (X : Stand p l e room_1 s m #[(.long q1), (.int p2), (.int p3), (.int p4), (.int p5)] below meth c T locs 1 4) (eT : T.heap = hh) (N : Fr n0 locs) (O : Old Z n0 hh) (y0 y1 y2 y3 : Int32) (V_ac : Arv Z hh ac kz20 .char (4 : Int32) [(.int y0), (.int y1), (.int y2), (.int y3)] (.int (0 : Int32))), own_Go p e below (own_Fin s (own_Q0 Z p2 h0 n0) room_1.cells room_1.slots) T (mkF m 64 #[.val (.long q1), .second, .val (.int p2), .val (.int p3), .val (.int p4), .val (.int p5), .val (.int t), .val (.ref ac), .unset, .unset, .unset, .unset, .unset, .unset, .unset, .unset] []) := by
    intro T hh locs X eT N O y0 y1 y2 y3 V_ac
    show own_Go _ _ _ _ T (mkF m 64 #[.val (.long q1), .second, .val (.int p2), .val (.int p3), .val (.int p4), .val (.int p5), .val (.int t), .val (.ref ac), .unset, .unset, .unset, .unset, .unset, .unset, .unset, .unset] [])
    refine own_go (fun _ k => XS.iloadN X.here hx rfl (hb hby at_64) rfl k) ?_
    show own_Go _ _ _ _ T (mkF m 65 #[.val (.long q1), .second, .val (.int p2), .val (.int p3), .val (.int p4), .val (.int p5), .val (.int t), .val (.ref ac), .unset, .unset, .unset, .unset, .unset, .unset, .unset, .unset] [(.int p3)])
    refine own_go (fun _ k => X.ldcInt hx hown (mvT hZ (hw _ (List.mem_of_getElem? (i := 1) rfl))) (g := (mkF m 65 #[.val (.long q1), .second, .val (.int p2), .val (.int p3), .val (.int p4), .val (.int p5), .val (.int t), .val (.ref ac), .unset, .unset, .unset, .unset, .unset, .unset, .unset, .unset] [(.int p3)])) rfl (hb hby at_65) _ k) ?_
    show own_Go _ _ _ _ T (mkF m 67 #[.val (.long q1), .second, .val (.int p2), .val (.int p3), .val (.int p4), .val (.int p5), .val (.int t), .val (.ref ac), .unset, .unset, .unset, .unset, .unset, .unset, .unset, .unset] [(.int (2147483647 : Int32)), (.int p3)])
    refine own_go (fun _ k => XS.iand X.here hx rfl (hb hby at_67) rfl k) ?_
    show own_Go _ _ _ _ T (mkF m 68 #[.val (.long q1), .second, .val (.int p2), .val (.int p3), .val (.int p4), .val (.int p5), .val (.int t), .val (.ref ac), .unset, .unset, .unset, .unset, .unset, .unset, .unset, .unset] [(.int (p3 &&& (2147483647 : Int32)))])
    refine own_go (fun _ k => XS.iconst X.here hx rfl (hb hby at_68) k) ?_
    show own_Go _ _ _ _ T (mkF m 69 #[.val (.long q1), .second, .val (.int p2), .val (.int p3), .val (.int p4), .val (.int p5), .val (.int t), .val (.ref ac), .unset, .unset, .unset, .unset, .unset, .unset, .unset, .unset] [(.int (5 : Int32)), (.int (p3 &&& (2147483647 : Int32)))])
    refine own_go (fun _ k => iremM X hx rfl (hb hby at_69) rfl (by decide) k) ?_
    show own_Go _ _ _ _ T (mkF m 70 #[.val (.long q1), .second, .val (.int p2), .val (.int p3), .val (.int p4), .val (.int p5), .val (.int t), .val (.ref ac), .unset, .unset, .unset, .unset, .unset, .unset, .unset, .unset] [(.int ((p3 &&& (2147483647 : Int32)) % (5 : Int32)))])
    obtain ⟨sv, h_sv⟩ : ∃ z, z = ((p3 &&& (2147483647 : Int32)) % (5 : Int32)) := ⟨_, rfl⟩
    have hs := own_s p3
    rw [← h_sv] at hs
    rw [← h_sv]
    clear h_sv
    show own_Go _ _ _ _ T (mkF m 70 #[.val (.long q1), .second, .val (.int p2), .val (.int p3), .val (.int p4), .val (.int p5), .val (.int t), .val (.ref ac), .unset, .unset, .unset, .unset, .unset, .unset, .unset, .unset] [(.int sv)])
    refine own_go (fun _ k => XS.istore X.here hx rfl (hb hby at_70) rfl (l' := #[.val (.long q1), .second, .val (.int p2), .val (.int p3), .val (.int p4), .val (.int p5), .val (.int t), .val (.ref ac), .val (.int sv), .unset, .unset, .unset, .unset, .unset, .unset, .unset]) rfl k) ?_
    show own_Go _ _ _ _ T (mkF m 72 #[.val (.long q1), .second, .val (.int p2), .val (.int p3), .val (.int p4), .val (.int p5), .val (.int t), .val (.ref ac), .val (.int sv), .unset, .unset, .unset, .unset, .unset, .unset, .unset] [])
    refine own_go (fun _ k => XS.iload X.here hx rfl (hb hby at_72) rfl k) ?_
    show own_Go _ _ _ _ T (mkF m 74 #[.val (.long q1), .second, .val (.int p2), .val (.int p3), .val (.int p4), .val (.int p5), .val (.int t), .val (.ref ac), .val (.int sv), .unset, .unset, .unset, .unset, .unset, .unset, .unset] [(.int sv)])
    refine own_go (fun _ k => XS.iloadN X.here hx rfl (hb hby at_74) rfl k) ?_
    show own_Go _ _ _ _ T (mkF m 75 #[.val (.long q1), .second, .val (.int p2), .val (.int p3), .val (.int p4), .val (.int p5), .val (.int t), .val (.ref ac), .val (.int sv), .unset, .unset, .unset, .unset, .unset, .unset, .unset] [(.int p3), (.int sv)])
    refine own_go (fun _ k => XS.bipush X.here hx rfl (hb hby at_75) k) ?_
    show own_Go _ _ _ _ T (mkF m 77 #[.val (.long q1), .second, .val (.int p2), .val (.int p3), .val (.int p4), .val (.int p5), .val (.int t), .val (.ref ac), .val (.int sv), .unset, .unset, .unset, .unset, .unset, .unset, .unset] [(.int (8 : Int32)), (.int p3), (.int sv)])
    refine own_go (fun _ k => XS.iushr X.here hx rfl (hb hby at_77) rfl k) ?_
    show own_Go _ _ _ _ T (mkF m 78 #[.val (.long q1), .second, .val (.int p2), .val (.int p3), .val (.int p4), .val (.int p5), .val (.int t), .val (.ref ac), .val (.int sv), .unset, .unset, .unset, .unset, .unset, .unset, .unset] [(.int ((p3.toUInt32 >>> ((8 : Int32) &&& 31).toUInt32).toInt32)), (.int sv)])
    refine own_go (fun _ k => X.ldcInt hx hown (mvT hZ (hw _ (List.mem_of_getElem? (i := 1) rfl))) (g := (mkF m 78 #[.val (.long q1), .second, .val (.int p2), .val (.int p3), .val (.int p4), .val (.int p5), .val (.int t), .val (.ref ac), .val (.int sv), .unset, .unset, .unset, .unset, .unset, .unset, .unset] [(.int ((p3.toUInt32 >>> ((8 : Int32) &&& 31).toUInt32).toInt32)), (.int sv)])) rfl (hb hby at_78) _ k) ?_
    show own_Go _ _ _ _ T (mkF m 80 #[.val (.long q1), .second, .val (.int p2), .val (.int p3), .val (.int p4), .val (.int p5), .val (.int t), .val (.ref ac), .val (.int sv), .unset, .unset, .unset, .unset, .unset, .unset, .unset] [(.int (2147483647 : Int32)), (.int ((p3.toUInt32 >>> ((8 : Int32) &&& 31).toUInt32).toInt32)), (.int sv)])
    refine own_go (fun _ k => XS.iand X.here hx rfl (hb hby at_80) rfl k) ?_
    show own_Go _ _ _ _ T (mkF m 81 #[.val (.long q1), .second, .val (.int p2), .val (.int p3), .val (.int p4), .val (.int p5), .val (.int t), .val (.ref ac), .val (.int sv), .unset, .unset, .unset, .unset, .unset, .unset, .unset] [(.int (((p3.toUInt32 >>> ((8 : Int32) &&& 31).toUInt32).toInt32) &&& (2147483647 : Int32))), (.int sv)])
    refine own_go (fun _ k => XS.iconst X.here hx rfl (hb hby at_81) k) ?_
    show own_Go _ _ _ _ T (mkF m 82 #[.val (.long q1), .second, .val (.int p2), .val (.int p3), .val (.int p4), .val (.int p5), .val (.int t), .val (.ref ac), .val (.int sv), .unset, .unset, .unset, .unset, .unset, .unset, .unset] [(.int (5 : Int32)), (.int (((p3.toUInt32 >>> ((8 : Int32) &&& 31).toUInt32).toInt32) &&& (2147483647 : Int32))), (.int sv)])
    refine own_go (fun _ k => XS.iload X.here hx rfl (hb hby at_82) rfl k) ?_
    show own_Go _ _ _ _ T (mkF m 84 #[.val (.long q1), .second, .val (.int p2), .val (.int p3), .val (.int p4), .val (.int p5), .val (.int t), .val (.ref ac), .val (.int sv), .unset, .unset, .unset, .unset, .unset, .unset, .unset] [(.int sv), (.int (5 : Int32)), (.int (((p3.toUInt32 >>> ((8 : Int32) &&& 31).toUInt32).toInt32) &&& (2147483647 : Int32))), (.int sv)])
    refine own_go (fun _ k => XS.isub X.here hx rfl (hb hby at_84) rfl k) ?_
    show own_Go _ _ _ _ T (mkF m 85 #[.val (.long q1), .second, .val (.int p2), .val (.int p3), .val (.int p4), .val (.int p5), .val (.int t), .val (.ref ac), .val (.int sv), .unset, .unset, .unset, .unset, .unset, .unset, .unset] [(.int ((5 : Int32) - sv)), (.int (((p3.toUInt32 >>> ((8 : Int32) &&& 31).toUInt32).toInt32) &&& (2147483647 : Int32))), (.int sv)])
    have h5 := own_d5 sv hs
    refine own_go (fun _ k => iremM X hx rfl (hb hby at_85) rfl (own_nz _ h5.1) k) ?_
    show own_Go _ _ _ _ T (mkF m 86 #[.val (.long q1), .second, .val (.int p2), .val (.int p3), .val (.int p4), .val (.int p5), .val (.int t), .val (.ref ac), .val (.int sv), .unset, .unset, .unset, .unset, .unset, .unset, .unset] [(.int ((((p3.toUInt32 >>> ((8 : Int32) &&& 31).toUInt32).toInt32) &&& (2147483647 : Int32)) % ((5 : Int32) - sv))), (.int sv)])
    refine own_go (fun _ k => XS.iadd X.here hx rfl (hb hby at_86) rfl k) ?_
    show own_Go _ _ _ _ T (mkF m 87 #[.val (.long q1), .second, .val (.int p2), .val (.int p3), .val (.int p4), .val (.int p5), .val (.int t), .val (.ref ac), .val (.int sv), .unset, .unset, .unset, .unset, .unset, .unset, .unset] [(.int (sv + ((((p3.toUInt32 >>> ((8 : Int32) &&& 31).toUInt32).toInt32) &&& (2147483647 : Int32)) % ((5 : Int32) - sv))))])
    refine own_go (fun _ k => XS.istore X.here hx rfl (hb hby at_87) rfl (l' := #[.val (.long q1), .second, .val (.int p2), .val (.int p3), .val (.int p4), .val (.int p5), .val (.int t), .val (.ref ac), .val (.int sv), .val (.int (sv + ((((p3.toUInt32 >>> ((8 : Int32) &&& 31).toUInt32).toInt32) &&& (2147483647 : Int32)) % ((5 : Int32) - sv)))), .unset, .unset, .unset, .unset, .unset, .unset]) rfl k) ?_
    show own_Go _ _ _ _ T (mkF m 89 #[.val (.long q1), .second, .val (.int p2), .val (.int p3), .val (.int p4), .val (.int p5), .val (.int t), .val (.ref ac), .val (.int sv), .val (.int (sv + ((((p3.toUInt32 >>> ((8 : Int32) &&& 31).toUInt32).toInt32) &&& (2147483647 : Int32)) % ((5 : Int32) - sv)))), .unset, .unset, .unset, .unset, .unset, .unset] [])
    have he := own_rng sv ((p3.toUInt32 >>> ((8 : Int32) &&& 31).toUInt32).toInt32) (2147483647 : Int32) ((5 : Int32) - sv) hs.1 h5.1 (by omega) (by decide)
    rw [h5.2] at he
    obtain ⟨ev, h_ev⟩ : ∃ z, z = (sv + ((((p3.toUInt32 >>> ((8 : Int32) &&& 31).toUInt32).toInt32) &&& (2147483647 : Int32)) % ((5 : Int32) - sv))) := ⟨_, rfl⟩
    rw [← h_ev]
    show own_Go _ _ _ _ T (mkF m 89 #[.val (.long q1), .second, .val (.int p2), .val (.int p3), .val (.int p4), .val (.int p5), .val (.int t), .val (.ref ac), .val (.int sv), .val (.int ev), .unset, .unset, .unset, .unset, .unset, .unset] [])
    rw [← h_ev] at he
    clear h_ev
    refine own_go (fun _ k => XS.iload X.here hx rfl (hb hby at_89) rfl k) ?_
    show own_Go _ _ _ _ T (mkF m 91 #[.val (.long q1), .second, .val (.int p2), .val (.int p3), .val (.int p4), .val (.int p5), .val (.int t), .val (.ref ac), .val (.int sv), .val (.int ev), .unset, .unset, .unset, .unset, .unset, .unset] [(.int p4)])
    refine own_go (fun _ k => XS.iconst X.here hx rfl (hb hby at_91) k) ?_
    show own_Go _ _ _ _ T (mkF m 92 #[.val (.long q1), .second, .val (.int p2), .val (.int p3), .val (.int p4), .val (.int p5), .val (.int t), .val (.ref ac), .val (.int sv), .val (.int ev), .unset, .unset, .unset, .unset, .unset, .unset] [(.int (3 : Int32)), (.int p4)])
    refine own_go (fun _ k => XS.iand X.here hx rfl (hb hby at_92) rfl k) ?_
    show own_Go _ _ _ _ T (mkF m 93 #[.val (.long q1), .second, .val (.int p2), .val (.int p3), .val (.int p4), .val (.int p5), .val (.int t), .val (.ref ac), .val (.int sv), .val (.int ev), .unset, .unset, .unset, .unset, .unset, .unset] [(.int (p4 &&& (3 : Int32)))])
    refine own_go (fun _ k => XS.istore X.here hx rfl (hb hby at_93) rfl (l' := #[.val (.long q1), .second, .val (.int p2), .val (.int p3), .val (.int p4), .val (.int p5), .val (.int t), .val (.ref ac), .val (.int sv), .val (.int ev), .val (.int (p4 &&& (3 : Int32))), .unset, .unset, .unset, .unset, .unset]) rfl k) ?_
    show own_Go _ _ _ _ T (mkF m 95 #[.val (.long q1), .second, .val (.int p2), .val (.int p3), .val (.int p4), .val (.int p5), .val (.int t), .val (.ref ac), .val (.int sv), .val (.int ev), .val (.int (p4 &&& (3 : Int32))), .unset, .unset, .unset, .unset, .unset] [])
    obtain ⟨nn, h_nn⟩ : ∃ z, z = (p4 &&& (3 : Int32)) := ⟨_, rfl⟩
    have hnn := own_four p4
    rw [← h_nn] at hnn
    rw [← h_nn]
    clear h_nn
    show own_Go _ _ _ _ T (mkF m 95 #[.val (.long q1), .second, .val (.int p2), .val (.int p3), .val (.int p4), .val (.int p5), .val (.int t), .val (.ref ac), .val (.int sv), .val (.int ev), .val (.int nn), .unset, .unset, .unset, .unset, .unset] [])
    refine own_go (fun _ k => XS.iload X.here hx rfl (hb hby at_95) rfl k) ?_
    show own_Go _ _ _ _ T (mkF m 97 #[.val (.long q1), .second, .val (.int p2), .val (.int p3), .val (.int p4), .val (.int p5), .val (.int t), .val (.ref ac), .val (.int sv), .val (.int ev), .val (.int nn), .unset, .unset, .unset, .unset, .unset] [(.int nn)])
    rcases hnn with rfl | rfl | rfl | rfl
    · show own_Go _ _ _ _ T (mkF m 97 #[.val (.long q1), .second, .val (.int p2), .val (.int p3), .val (.int p4), .val (.int p5), .val (.int t), .val (.ref ac), .val (.int sv), .val (.int ev), .val (.int (0 : Int32)), .unset, .unset, .unset, .unset, .unset] [(.int (0 : Int32))])
      refine own_go (fun _ k => XS.ifNo X.here hx rfl (hb hby at_97) rfl ((if0 _ _).trans (teq (by decide : (0 : Int32) = (0 : Int32))).2) k) ?_
      show own_Go _ _ _ _ T (mkF m 100 #[.val (.long q1), .second, .val (.int p2), .val (.int p3), .val (.int p4), .val (.int p5), .val (.int t), .val (.ref ac), .val (.int sv), .val (.int ev), .val (.int (0 : Int32)), .unset, .unset, .unset, .unset, .unset] [])
      refine own_go (fun _ k => XS.iload X.here hx rfl (hb hby at_100) rfl k) ?_
      show own_Go _ _ _ _ T (mkF m 102 #[.val (.long q1), .second, .val (.int p2), .val (.int p3), .val (.int p4), .val (.int p5), .val (.int t), .val (.ref ac), .val (.int sv), .val (.int ev), .val (.int (0 : Int32)), .unset, .unset, .unset, .unset, .unset] [(.int sv)])
      refine own_go (fun _ k => XS.istore X.here hx rfl (hb hby at_102) rfl (l' := #[.val (.long q1), .second, .val (.int p2), .val (.int p3), .val (.int p4), .val (.int p5), .val (.int t), .val (.ref ac), .val (.int sv), .val (.int sv), .val (.int (0 : Int32)), .unset, .unset, .unset, .unset, .unset]) rfl k) ?_
      show own_Go _ _ _ _ T (mkF m 104 #[.val (.long q1), .second, .val (.int p2), .val (.int p3), .val (.int p4), .val (.int p5), .val (.int t), .val (.ref ac), .val (.int sv), .val (.int sv), .val (.int (0 : Int32)), .unset, .unset, .unset, .unset, .unset] [])
      have hd1 := own_d1 sv sv hs.1 (by omega) (by omega)
      refine own_go (fun _ k => XS.iload X.here hx rfl (hb hby at_104) rfl k) ?_
      show own_Go _ _ _ _ T (mkF m 106 #[.val (.long q1), .second, .val (.int p2), .val (.int p3), .val (.int p4), .val (.int p5), .val (.int t), .val (.ref ac), .val (.int sv), .val (.int sv), .val (.int (0 : Int32)), .unset, .unset, .unset, .unset, .unset] [(.int sv)])
      refine own_go (fun _ k => XS.iload X.here hx rfl (hb hby at_106) rfl k) ?_
      show own_Go _ _ _ _ T (mkF m 108 #[.val (.long q1), .second, .val (.int p2), .val (.int p3), .val (.int p4), .val (.int p5), .val (.int t), .val (.ref ac), .val (.int sv), .val (.int sv), .val (.int (0 : Int32)), .unset, .unset, .unset, .unset, .unset] [(.int p4), (.int sv)])
      refine own_go (fun _ k => XS.iconst X.here hx rfl (hb hby at_108) k) ?_
      show own_Go _ _ _ _ T (mkF m 109 #[.val (.long q1), .second, .val (.int p2), .val (.int p3), .val (.int p4), .val (.int p5), .val (.int t), .val (.ref ac), .val (.int sv), .val (.int sv), .val (.int (0 : Int32)), .unset, .unset, .unset, .unset, .unset] [(.int (2 : Int32)), (.int p4), (.int sv)])
      refine own_go (fun _ k => XS.iushr X.here hx rfl (hb hby at_109) rfl k) ?_
      show own_Go _ _ _ _ T (mkF m 110 #[.val (.long q1), .second, .val (.int p2), .val (.int p3), .val (.int p4), .val (.int p5), .val (.int t), .val (.ref ac), .val (.int sv), .val (.int sv), .val (.int (0 : Int32)), .unset, .unset, .unset, .unset, .unset] [(.int ((p4.toUInt32 >>> ((2 : Int32) &&& 31).toUInt32).toInt32)), (.int sv)])
      refine own_go (fun _ k => XS.sipush X.here hx rfl (hb hby at_110) k) ?_
      show own_Go _ _ _ _ T (mkF m 113 #[.val (.long q1), .second, .val (.int p2), .val (.int p3), .val (.int p4), .val (.int p5), .val (.int t), .val (.ref ac), .val (.int sv), .val (.int sv), .val (.int (0 : Int32)), .unset, .unset, .unset, .unset, .unset] [(.int (255 : Int32)), (.int ((p4.toUInt32 >>> ((2 : Int32) &&& 31).toUInt32).toInt32)), (.int sv)])
      refine own_go (fun _ k => XS.iand X.here hx rfl (hb hby at_113) rfl k) ?_
      show own_Go _ _ _ _ T (mkF m 114 #[.val (.long q1), .second, .val (.int p2), .val (.int p3), .val (.int p4), .val (.int p5), .val (.int t), .val (.ref ac), .val (.int sv), .val (.int sv), .val (.int (0 : Int32)), .unset, .unset, .unset, .unset, .unset] [(.int (((p4.toUInt32 >>> ((2 : Int32) &&& 31).toUInt32).toInt32) &&& (255 : Int32))), (.int sv)])
      refine own_go (fun _ k => XS.iload X.here hx rfl (hb hby at_114) rfl k) ?_
      show own_Go _ _ _ _ T (mkF m 116 #[.val (.long q1), .second, .val (.int p2), .val (.int p3), .val (.int p4), .val (.int p5), .val (.int t), .val (.ref ac), .val (.int sv), .val (.int sv), .val (.int (0 : Int32)), .unset, .unset, .unset, .unset, .unset] [(.int sv), (.int (((p4.toUInt32 >>> ((2 : Int32) &&& 31).toUInt32).toInt32) &&& (255 : Int32))), (.int sv)])
      refine own_go (fun _ k => XS.iload X.here hx rfl (hb hby at_116) rfl k) ?_
      show own_Go _ _ _ _ T (mkF m 118 #[.val (.long q1), .second, .val (.int p2), .val (.int p3), .val (.int p4), .val (.int p5), .val (.int t), .val (.ref ac), .val (.int sv), .val (.int sv), .val (.int (0 : Int32)), .unset, .unset, .unset, .unset, .unset] [(.int sv), (.int sv), (.int (((p4.toUInt32 >>> ((2 : Int32) &&& 31).toUInt32).toInt32) &&& (255 : Int32))), (.int sv)])
      refine own_go (fun _ k => XS.isub X.here hx rfl (hb hby at_118) rfl k) ?_
      show own_Go _ _ _ _ T (mkF m 119 #[.val (.long q1), .second, .val (.int p2), .val (.int p3), .val (.int p4), .val (.int p5), .val (.int t), .val (.ref ac), .val (.int sv), .val (.int sv), .val (.int (0 : Int32)), .unset, .unset, .unset, .unset, .unset] [(.int (sv - sv)), (.int (((p4.toUInt32 >>> ((2 : Int32) &&& 31).toUInt32).toInt32) &&& (255 : Int32))), (.int sv)])
      refine own_go (fun _ k => XS.iconst X.here hx rfl (hb hby at_119) k) ?_
      show own_Go _ _ _ _ T (mkF m 120 #[.val (.long q1), .second, .val (.int p2), .val (.int p3), .val (.int p4), .val (.int p5), .val (.int t), .val (.ref ac), .val (.int sv), .val (.int sv), .val (.int (0 : Int32)), .unset, .unset, .unset, .unset, .unset] [(.int (1 : Int32)), (.int (sv - sv)), (.int (((p4.toUInt32 >>> ((2 : Int32) &&& 31).toUInt32).toInt32) &&& (255 : Int32))), (.int sv)])
      refine own_go (fun _ k => XS.iadd X.here hx rfl (hb hby at_120) rfl k) ?_
      show own_Go _ _ _ _ T (mkF m 121 #[.val (.long q1), .second, .val (.int p2), .val (.int p3), .val (.int p4), .val (.int p5), .val (.int t), .val (.ref ac), .val (.int sv), .val (.int sv), .val (.int (0 : Int32)), .unset, .unset, .unset, .unset, .unset] [(.int ((sv - sv) + (1 : Int32))), (.int (((p4.toUInt32 >>> ((2 : Int32) &&& 31).toUInt32).toInt32) &&& (255 : Int32))), (.int sv)])
      refine own_go (fun _ k => iremM X hx rfl (hb hby at_121) rfl (own_nz _ hd1.1) k) ?_
      show own_Go _ _ _ _ T (mkF m 122 #[.val (.long q1), .second, .val (.int p2), .val (.int p3), .val (.int p4), .val (.int p5), .val (.int t), .val (.ref ac), .val (.int sv), .val (.int sv), .val (.int (0 : Int32)), .unset, .unset, .unset, .unset, .unset] [(.int ((((p4.toUInt32 >>> ((2 : Int32) &&& 31).toUInt32).toInt32) &&& (255 : Int32)) % ((sv - sv) + (1 : Int32)))), (.int sv)])
      refine own_go (fun _ k => XS.iadd X.here hx rfl (hb hby at_122) rfl k) ?_
      show own_Go _ _ _ _ T (mkF m 123 #[.val (.long q1), .second, .val (.int p2), .val (.int p3), .val (.int p4), .val (.int p5), .val (.int t), .val (.ref ac), .val (.int sv), .val (.int sv), .val (.int (0 : Int32)), .unset, .unset, .unset, .unset, .unset] [(.int (sv + ((((p4.toUInt32 >>> ((2 : Int32) &&& 31).toUInt32).toInt32) &&& (255 : Int32)) % ((sv - sv) + (1 : Int32)))))])
      refine own_go (fun _ k => XS.istore X.here hx rfl (hb hby at_123) rfl (l' := #[.val (.long q1), .second, .val (.int p2), .val (.int p3), .val (.int p4), .val (.int p5), .val (.int t), .val (.ref ac), .val (.int sv), .val (.int sv), .val (.int (0 : Int32)), .val (.int (sv + ((((p4.toUInt32 >>> ((2 : Int32) &&& 31).toUInt32).toInt32) &&& (255 : Int32)) % ((sv - sv) + (1 : Int32))))), .unset, .unset, .unset, .unset]) rfl k) ?_
      show own_Go _ _ _ _ T (mkF m 125 #[.val (.long q1), .second, .val (.int p2), .val (.int p3), .val (.int p4), .val (.int p5), .val (.int t), .val (.ref ac), .val (.int sv), .val (.int sv), .val (.int (0 : Int32)), .val (.int (sv + ((((p4.toUInt32 >>> ((2 : Int32) &&& 31).toUInt32).toInt32) &&& (255 : Int32)) % ((sv - sv) + (1 : Int32))))), .unset, .unset, .unset, .unset] [])
      have hm1 := own_rng sv ((p4.toUInt32 >>> ((2 : Int32) &&& 31).toUInt32).toInt32) (255 : Int32) (sv - sv + (1 : Int32)) hs.1 hd1.1 (by omega) (by decide)
      rw [hd1.2] at hm1
      obtain ⟨m1, h_m1⟩ : ∃ z, z = (sv + ((((p4.toUInt32 >>> ((2 : Int32) &&& 31).toUInt32).toInt32) &&& (255 : Int32)) % ((sv - sv) + (1 : Int32)))) := ⟨_, rfl⟩
      rw [← h_m1]
      show own_Go _ _ _ _ T (mkF m 125 #[.val (.long q1), .second, .val (.int p2), .val (.int p3), .val (.int p4), .val (.int p5), .val (.int t), .val (.ref ac), .val (.int sv), .val (.int sv), .val (.int (0 : Int32)), .val (.int m1), .unset, .unset, .unset, .unset] [])
      rw [← h_m1] at hm1
      clear h_m1
      have hd2 := own_d1 m1 sv (by omega) (by omega) (by omega)
      refine own_go (fun _ k => XS.iload X.here hx rfl (hb hby at_125) rfl k) ?_
      show own_Go _ _ _ _ T (mkF m 127 #[.val (.long q1), .second, .val (.int p2), .val (.int p3), .val (.int p4), .val (.int p5), .val (.int t), .val (.ref ac), .val (.int sv), .val (.int sv), .val (.int (0 : Int32)), .val (.int m1), .unset, .unset, .unset, .unset] [(.int m1)])
      refine own_go (fun _ k => XS.iload X.here hx rfl (hb hby at_127) rfl k) ?_
      show own_Go _ _ _ _ T (mkF m 129 #[.val (.long q1), .second, .val (.int p2), .val (.int p3), .val (.int p4), .val (.int p5), .val (.int t), .val (.ref ac), .val (.int sv), .val (.int sv), .val (.int (0 : Int32)), .val (.int m1), .unset, .unset, .unset, .unset] [(.int p4), (.int m1)])
      refine own_go (fun _ k => XS.bipush X.here hx rfl (hb hby at_129) k) ?_
      show own_Go _ _ _ _ T (mkF m 131 #[.val (.long q1), .second, .val (.int p2), .val (.int p3), .val (.int p4), .val (.int p5), .val (.int t), .val (.ref ac), .val (.int sv), .val (.int sv), .val (.int (0 : Int32)), .val (.int m1), .unset, .unset, .unset, .unset] [(.int (10 : Int32)), (.int p4), (.int m1)])
      refine own_go (fun _ k => XS.iushr X.here hx rfl (hb hby at_131) rfl k) ?_
      show own_Go _ _ _ _ T (mkF m 132 #[.val (.long q1), .second, .val (.int p2), .val (.int p3), .val (.int p4), .val (.int p5), .val (.int t), .val (.ref ac), .val (.int sv), .val (.int sv), .val (.int (0 : Int32)), .val (.int m1), .unset, .unset, .unset, .unset] [(.int ((p4.toUInt32 >>> ((10 : Int32) &&& 31).toUInt32).toInt32)), (.int m1)])
      refine own_go (fun _ k => XS.sipush X.here hx rfl (hb hby at_132) k) ?_
      show own_Go _ _ _ _ T (mkF m 135 #[.val (.long q1), .second, .val (.int p2), .val (.int p3), .val (.int p4), .val (.int p5), .val (.int t), .val (.ref ac), .val (.int sv), .val (.int sv), .val (.int (0 : Int32)), .val (.int m1), .unset, .unset, .unset, .unset] [(.int (255 : Int32)), (.int ((p4.toUInt32 >>> ((10 : Int32) &&& 31).toUInt32).toInt32)), (.int m1)])
      refine own_go (fun _ k => XS.iand X.here hx rfl (hb hby at_135) rfl k) ?_
      show own_Go _ _ _ _ T (mkF m 136 #[.val (.long q1), .second, .val (.int p2), .val (.int p3), .val (.int p4), .val (.int p5), .val (.int t), .val (.ref ac), .val (.int sv), .val (.int sv), .val (.int (0 : Int32)), .val (.int m1), .unset, .unset, .unset, .unset] [(.int (((p4.toUInt32 >>> ((10 : Int32) &&& 31).toUInt32).toInt32) &&& (255 : Int32))), (.int m1)])
      refine own_go (fun _ k => XS.iload X.here hx rfl (hb hby at_136) rfl k) ?_
      show own_Go _ _ _ _ T (mkF m 138 #[.val (.long q1), .second, .val (.int p2), .val (.int p3), .val (.int p4), .val (.int p5), .val (.int t), .val (.ref ac), .val (.int sv), .val (.int sv), .val (.int (0 : Int32)), .val (.int m1), .unset, .unset, .unset, .unset] [(.int sv), (.int (((p4.toUInt32 >>> ((10 : Int32) &&& 31).toUInt32).toInt32) &&& (255 : Int32))), (.int m1)])
      refine own_go (fun _ k => XS.iload X.here hx rfl (hb hby at_138) rfl k) ?_
      show own_Go _ _ _ _ T (mkF m 140 #[.val (.long q1), .second, .val (.int p2), .val (.int p3), .val (.int p4), .val (.int p5), .val (.int t), .val (.ref ac), .val (.int sv), .val (.int sv), .val (.int (0 : Int32)), .val (.int m1), .unset, .unset, .unset, .unset] [(.int m1), (.int sv), (.int (((p4.toUInt32 >>> ((10 : Int32) &&& 31).toUInt32).toInt32) &&& (255 : Int32))), (.int m1)])
      refine own_go (fun _ k => XS.isub X.here hx rfl (hb hby at_140) rfl k) ?_
      show own_Go _ _ _ _ T (mkF m 141 #[.val (.long q1), .second, .val (.int p2), .val (.int p3), .val (.int p4), .val (.int p5), .val (.int t), .val (.ref ac), .val (.int sv), .val (.int sv), .val (.int (0 : Int32)), .val (.int m1), .unset, .unset, .unset, .unset] [(.int (sv - m1)), (.int (((p4.toUInt32 >>> ((10 : Int32) &&& 31).toUInt32).toInt32) &&& (255 : Int32))), (.int m1)])
      refine own_go (fun _ k => XS.iconst X.here hx rfl (hb hby at_141) k) ?_
      show own_Go _ _ _ _ T (mkF m 142 #[.val (.long q1), .second, .val (.int p2), .val (.int p3), .val (.int p4), .val (.int p5), .val (.int t), .val (.ref ac), .val (.int sv), .val (.int sv), .val (.int (0 : Int32)), .val (.int m1), .unset, .unset, .unset, .unset] [(.int (1 : Int32)), (.int (sv - m1)), (.int (((p4.toUInt32 >>> ((10 : Int32) &&& 31).toUInt32).toInt32) &&& (255 : Int32))), (.int m1)])
      refine own_go (fun _ k => XS.iadd X.here hx rfl (hb hby at_142) rfl k) ?_
      show own_Go _ _ _ _ T (mkF m 143 #[.val (.long q1), .second, .val (.int p2), .val (.int p3), .val (.int p4), .val (.int p5), .val (.int t), .val (.ref ac), .val (.int sv), .val (.int sv), .val (.int (0 : Int32)), .val (.int m1), .unset, .unset, .unset, .unset] [(.int ((sv - m1) + (1 : Int32))), (.int (((p4.toUInt32 >>> ((10 : Int32) &&& 31).toUInt32).toInt32) &&& (255 : Int32))), (.int m1)])
      refine own_go (fun _ k => iremM X hx rfl (hb hby at_143) rfl (own_nz _ hd2.1) k) ?_
      show own_Go _ _ _ _ T (mkF m 144 #[.val (.long q1), .second, .val (.int p2), .val (.int p3), .val (.int p4), .val (.int p5), .val (.int t), .val (.ref ac), .val (.int sv), .val (.int sv), .val (.int (0 : Int32)), .val (.int m1), .unset, .unset, .unset, .unset] [(.int ((((p4.toUInt32 >>> ((10 : Int32) &&& 31).toUInt32).toInt32) &&& (255 : Int32)) % ((sv - m1) + (1 : Int32)))), (.int m1)])
      refine own_go (fun _ k => XS.iadd X.here hx rfl (hb hby at_144) rfl k) ?_
      show own_Go _ _ _ _ T (mkF m 145 #[.val (.long q1), .second, .val (.int p2), .val (.int p3), .val (.int p4), .val (.int p5), .val (.int t), .val (.ref ac), .val (.int sv), .val (.int sv), .val (.int (0 : Int32)), .val (.int m1), .unset, .unset, .unset, .unset] [(.int (m1 + ((((p4.toUInt32 >>> ((10 : Int32) &&& 31).toUInt32).toInt32) &&& (255 : Int32)) % ((sv - m1) + (1 : Int32)))))])
      refine own_go (fun _ k => XS.istore X.here hx rfl (hb hby at_145) rfl (l' := #[.val (.long q1), .second, .val (.int p2), .val (.int p3), .val (.int p4), .val (.int p5), .val (.int t), .val (.ref ac), .val (.int sv), .val (.int sv), .val (.int (0 : Int32)), .val (.int m1), .val (.int (m1 + ((((p4.toUInt32 >>> ((10 : Int32) &&& 31).toUInt32).toInt32) &&& (255 : Int32)) % ((sv - m1) + (1 : Int32))))), .unset, .unset, .unset]) rfl k) ?_
      show own_Go _ _ _ _ T (mkF m 147 #[.val (.long q1), .second, .val (.int p2), .val (.int p3), .val (.int p4), .val (.int p5), .val (.int t), .val (.ref ac), .val (.int sv), .val (.int sv), .val (.int (0 : Int32)), .val (.int m1), .val (.int (m1 + ((((p4.toUInt32 >>> ((10 : Int32) &&& 31).toUInt32).toInt32) &&& (255 : Int32)) % ((sv - m1) + (1 : Int32))))), .unset, .unset, .unset] [])
      obtain ⟨m2, h_m2⟩ : ∃ z, z = (m1 + ((((p4.toUInt32 >>> ((10 : Int32) &&& 31).toUInt32).toInt32) &&& (255 : Int32)) % ((sv - m1) + (1 : Int32)))) := ⟨_, rfl⟩
      rw [← h_m2]
      clear h_m2
      show own_Go _ _ _ _ T (mkF m 147 #[.val (.long q1), .second, .val (.int p2), .val (.int p3), .val (.int p4), .val (.int p5), .val (.int t), .val (.ref ac), .val (.int sv), .val (.int sv), .val (.int (0 : Int32)), .val (.int m1), .val (.int m2), .unset, .unset, .unset] [])
      obtain ⟨sn, rfl, hsn, -⟩ := own_nat hs.1
      show own_Go _ _ _ _ T (mkF m 147 #[.val (.long q1), .second, .val (.int p2), .val (.int p3), .val (.int p4), .val (.int p5), .val (.int t), .val (.ref ac), .val (.int sn.toInt32), .val (.int sn.toInt32), .val (.int (0 : Int32)), .val (.int m1), .val (.int m2), .unset, .unset, .unset] [])
      refine own_go (fun _ k => XS.iload X.here hx rfl (hb hby at_147) rfl k) ?_
      show own_Go _ _ _ _ T (mkF m 149 #[.val (.long q1), .second, .val (.int p2), .val (.int p3), .val (.int p4), .val (.int p5), .val (.int t), .val (.ref ac), .val (.int sn.toInt32), .val (.int sn.toInt32), .val (.int (0 : Int32)), .val (.int m1), .val (.int m2), .unset, .unset, .unset] [(.int (0 : Int32))])
      refine own_go (fun _ k => XS.ifNo X.here hx rfl (hb hby at_149) rfl ((if0 _ _).trans (teq (by decide : (0 : Int32) = (0 : Int32))).2) k) ?_
      show own_Go _ _ _ _ T (mkF m 152 #[.val (.long q1), .second, .val (.int p2), .val (.int p3), .val (.int p4), .val (.int p5), .val (.int t), .val (.ref ac), .val (.int sn.toInt32), .val (.int sn.toInt32), .val (.int (0 : Int32)), .val (.int m1), .val (.int m2), .unset, .unset, .unset] [])
      refine own_go (fun _ k => XS.iconst X.here hx rfl (hb hby at_152) k) ?_
      show own_Go _ _ _ _ T (mkF m 153 #[.val (.long q1), .second, .val (.int p2), .val (.int p3), .val (.int p4), .val (.int p5), .val (.int t), .val (.ref ac), .val (.int sn.toInt32), .val (.int sn.toInt32), .val (.int (0 : Int32)), .val (.int m1), .val (.int m2), .unset, .unset, .unset] [(.int (1 : Int32))])
      obtain ⟨Tz32, hz32, kz32, Xz32, ez32, Ez32, Az32, stz32⟩ := newP X hx hZ (hw _ (List.mem_of_getElem? (i := 2) rfl)) eT (g := (mkF m 153 #[.val (.long q1), .second, .val (.int p2), .val (.int p3), .val (.int p4), .val (.int p5), .val (.int t), .val (.ref ac), .val (.int sn.toInt32), .val (.int sn.toInt32), .val (.int (0 : Int32)), .val (.int m1), .val (.int m2), .unset, .unset, .unset] [(.int (1 : Int32))])) rfl (hb hby at_153) rfl (by decide) (cap := 4) (by decide) (by decide) (by decide) (by decide)
      obtain ⟨ab, gz32⟩ : ∃ z, z = hh.size := ⟨_, rfl⟩
      rw [← gz32] at Az32 stz32
      have ne_ac_ab : ac ≠ ab := Nat.ne_of_lt (Nat.lt_of_lt_of_le V_ac.lt (Nat.le_of_eq gz32.symm))
      have g_ab : n0 ≤ ab := by rw [gz32, ← O.1]; exact O.2.1
      have O := O.ext Ez32
      have V_ac := V_ac.ext Ez32
      refine own_go stz32 ?_
      have V_ab : Arv Z hz32 ab kz32 .int (1 : Int32) [(.int (0 : Int32))] (.int (0 : Int32)) := (Arv.new Az32 (by decide)).pad (pad_rep [] (.int (0 : Int32)) 1)
      show own_Go _ _ _ _ Tz32 (mkF m 155 #[.val (.long q1), .second, .val (.int p2), .val (.int p3), .val (.int p4), .val (.int p5), .val (.int t), .val (.ref ac), .val (.int sn.toInt32), .val (.int sn.toInt32), .val (.int (0 : Int32)), .val (.int m1), .val (.int m2), .unset, .unset, .unset] [(.ref ab)])
      refine own_go (fun _ k => XS.dup Xz32.here hx rfl (hb hby at_155) rfl rfl k) ?_
      show own_Go _ _ _ _ Tz32 (mkF m 156 #[.val (.long q1), .second, .val (.int p2), .val (.int p3), .val (.int p4), .val (.int p5), .val (.int t), .val (.ref ac), .val (.int sn.toInt32), .val (.int sn.toInt32), .val (.int (0 : Int32)), .val (.int m1), .val (.int m2), .unset, .unset, .unset] [(.ref ab), (.ref ab)])
      refine own_go (fun _ k => XS.iconst Xz32.here hx rfl (hb hby at_156) k) ?_
      show own_Go _ _ _ _ Tz32 (mkF m 157 #[.val (.long q1), .second, .val (.int p2), .val (.int p3), .val (.int p4), .val (.int p5), .val (.int t), .val (.ref ac), .val (.int sn.toInt32), .val (.int sn.toInt32), .val (.int (0 : Int32)), .val (.int m1), .val (.int m2), .unset, .unset, .unset] [(.int (0 : Int32)), (.ref ab), (.ref ab)])
      refine own_go (fun _ k => XS.iload Xz32.here hx rfl (hb hby at_157) rfl k) ?_
      show own_Go _ _ _ _ Tz32 (mkF m 159 #[.val (.long q1), .second, .val (.int p2), .val (.int p3), .val (.int p4), .val (.int p5), .val (.int t), .val (.ref ac), .val (.int sn.toInt32), .val (.int sn.toInt32), .val (.int (0 : Int32)), .val (.int m1), .val (.int m2), .unset, .unset, .unset] [(.int sn.toInt32), (.int (0 : Int32)), (.ref ab), (.ref ab)])
      obtain ⟨clz33, Arz33, qz33, Sz33, Mz33, HHz33, Gz33⟩ := V_ab
      have hinz33 : ¬ ((0 : Int32) < 0 ∨ clz33.slots.size ≤ ((0 : Int32)).toNatClampNeg) := inb_of Sz33 ⟨(by decide), (by decide)⟩
      obtain ⟨Tz33, hz33, Xz33, ez33, Wz33, stz33⟩ := stI Xz32 hx hZ ez32 Arz33 (j := (0 : Int32)) hinz33 (g := (mkF m 159 #[.val (.long q1), .second, .val (.int p2), .val (.int p3), .val (.int p4), .val (.int p5), .val (.int t), .val (.ref ac), .val (.int sn.toInt32), .val (.int sn.toInt32), .val (.int (0 : Int32)), .val (.int m1), .val (.int m2), .unset, .unset, .unset] [(.int sn.toInt32), (.int (0 : Int32)), (.ref ab), (.ref ab)])) rfl rfl (hb hby at_159)
      refine own_go stz33 ?_
      have V_ab_ : Arv Z hz33 ab kz32 .int (1 : Int32) [(.int sn.toInt32)] (.int (0 : Int32)) := Arv.set Arz33 qz33 Sz33 Mz33 HHz33 Gz33 rfl Wz33 0 rfl (Nat.le_of_ble_eq_true rfl)
      have Nz33 := Fr.snoc Xz33 N g_ab
      have O := O.wr Wz33 g_ab
      have V_ac := V_ac.other Wz33 ne_ac_ab
      have V_ab := V_ab_
      show own_Go _ _ _ _ Tz33 (mkF m 160 #[.val (.long q1), .second, .val (.int p2), .val (.int p3), .val (.int p4), .val (.int p5), .val (.int t), .val (.ref ac), .val (.int sn.toInt32), .val (.int sn.toInt32), .val (.int (0 : Int32)), .val (.int m1), .val (.int m2), .unset, .unset, .unset] [(.ref ab)])
      refine own_go (fun _ k => XS.astore Xz33.here hx rfl (hb hby at_160) rfl rfl (l' := #[.val (.long q1), .second, .val (.int p2), .val (.int p3), .val (.int p4), .val (.int p5), .val (.int t), .val (.ref ac), .val (.int sn.toInt32), .val (.int sn.toInt32), .val (.int (0 : Int32)), .val (.int m1), .val (.int m2), .val (.ref ab), .unset, .unset]) rfl k) ?_
      show own_Go _ _ _ _ Tz33 (mkF m 162 #[.val (.long q1), .second, .val (.int p2), .val (.int p3), .val (.int p4), .val (.int p5), .val (.int t), .val (.ref ac), .val (.int sn.toInt32), .val (.int sn.toInt32), .val (.int (0 : Int32)), .val (.int m1), .val (.int m2), .val (.ref ab), .unset, .unset] [])
      refine own_go (fun _ k => XS.goto Xz33.here hx rfl (pc0 := 162) (pc' := 243) rfl (hb hby at_162) (by decide) (by decide) k) ?_
      show own_Go _ _ _ _ Tz33 (mkF m 243 #[.val (.long q1), .second, .val (.int p2), .val (.int p3), .val (.int p4), .val (.int p5), .val (.int t), .val (.ref ac), .val (.int sn.toInt32), .val (.int sn.toInt32), .val (.int (0 : Int32)), .val (.int m1), .val (.int m2), .val (.ref ab), .unset, .unset] [])
      exact k3 Tz33 hz33 _ Xz33 ez33 Nz33 O y0 y1 y2 y3 V_ac ab kz32 (1 : Int32) [(.int sn.toInt32)] (0 : Int32) m1 m2 sn sn (by omega) (by omega) V_ab rfl (by decide) (by decide) (by decide) rfl ne_ac_ab
    · show own_Go _ _ _ _ T (mkF m 97 #[.val (.long q1), .second, .val (.int p2), .val (.int p3), .val (.int p4), .val (.int p5), .val (.int t), .val (.ref ac), .val (.int sv), .val (.int ev), .val (.int (1 : Int32)), .unset, .unset, .unset, .unset, .unset] [(.int (1 : Int32))])
      refine own_go (fun _ k => XS.ifYes X.here hx rfl (pc0 := 97) (pc' := 104) rfl (hb hby at_97) rfl ((if0 _ _).trans (feq (by decide : ¬ ((1 : Int32) = (0 : Int32)))).2) (by decide) (by decide) k) ?_
      show own_Go _ _ _ _ T (mkF m 104 #[.val (.long q1), .second, .val (.int p2), .val (.int p3), .val (.int p4), .val (.int p5), .val (.int t), .val (.ref ac), .val (.int sv), .val (.int ev), .val (.int (1 : Int32)), .unset, .unset, .unset, .unset, .unset] [])
      have hd1 := own_d1 sv ev hs.1 (by omega) (by omega)
      refine own_go (fun _ k => XS.iload X.here hx rfl (hb hby at_104) rfl k) ?_
      show own_Go _ _ _ _ T (mkF m 106 #[.val (.long q1), .second, .val (.int p2), .val (.int p3), .val (.int p4), .val (.int p5), .val (.int t), .val (.ref ac), .val (.int sv), .val (.int ev), .val (.int (1 : Int32)), .unset, .unset, .unset, .unset, .unset] [(.int sv)])
      refine own_go (fun _ k => XS.iload X.here hx rfl (hb hby at_106) rfl k) ?_
      show own_Go _ _ _ _ T (mkF m 108 #[.val (.long q1), .second, .val (.int p2), .val (.int p3), .val (.int p4), .val (.int p5), .val (.int t), .val (.ref ac), .val (.int sv), .val (.int ev), .val (.int (1 : Int32)), .unset, .unset, .unset, .unset, .unset] [(.int p4), (.int sv)])
      refine own_go (fun _ k => XS.iconst X.here hx rfl (hb hby at_108) k) ?_
      show own_Go _ _ _ _ T (mkF m 109 #[.val (.long q1), .second, .val (.int p2), .val (.int p3), .val (.int p4), .val (.int p5), .val (.int t), .val (.ref ac), .val (.int sv), .val (.int ev), .val (.int (1 : Int32)), .unset, .unset, .unset, .unset, .unset] [(.int (2 : Int32)), (.int p4), (.int sv)])
      refine own_go (fun _ k => XS.iushr X.here hx rfl (hb hby at_109) rfl k) ?_
      show own_Go _ _ _ _ T (mkF m 110 #[.val (.long q1), .second, .val (.int p2), .val (.int p3), .val (.int p4), .val (.int p5), .val (.int t), .val (.ref ac), .val (.int sv), .val (.int ev), .val (.int (1 : Int32)), .unset, .unset, .unset, .unset, .unset] [(.int ((p4.toUInt32 >>> ((2 : Int32) &&& 31).toUInt32).toInt32)), (.int sv)])
      refine own_go (fun _ k => XS.sipush X.here hx rfl (hb hby at_110) k) ?_
      show own_Go _ _ _ _ T (mkF m 113 #[.val (.long q1), .second, .val (.int p2), .val (.int p3), .val (.int p4), .val (.int p5), .val (.int t), .val (.ref ac), .val (.int sv), .val (.int ev), .val (.int (1 : Int32)), .unset, .unset, .unset, .unset, .unset] [(.int (255 : Int32)), (.int ((p4.toUInt32 >>> ((2 : Int32) &&& 31).toUInt32).toInt32)), (.int sv)])
      refine own_go (fun _ k => XS.iand X.here hx rfl (hb hby at_113) rfl k) ?_
      show own_Go _ _ _ _ T (mkF m 114 #[.val (.long q1), .second, .val (.int p2), .val (.int p3), .val (.int p4), .val (.int p5), .val (.int t), .val (.ref ac), .val (.int sv), .val (.int ev), .val (.int (1 : Int32)), .unset, .unset, .unset, .unset, .unset] [(.int (((p4.toUInt32 >>> ((2 : Int32) &&& 31).toUInt32).toInt32) &&& (255 : Int32))), (.int sv)])
      refine own_go (fun _ k => XS.iload X.here hx rfl (hb hby at_114) rfl k) ?_
      show own_Go _ _ _ _ T (mkF m 116 #[.val (.long q1), .second, .val (.int p2), .val (.int p3), .val (.int p4), .val (.int p5), .val (.int t), .val (.ref ac), .val (.int sv), .val (.int ev), .val (.int (1 : Int32)), .unset, .unset, .unset, .unset, .unset] [(.int ev), (.int (((p4.toUInt32 >>> ((2 : Int32) &&& 31).toUInt32).toInt32) &&& (255 : Int32))), (.int sv)])
      refine own_go (fun _ k => XS.iload X.here hx rfl (hb hby at_116) rfl k) ?_
      show own_Go _ _ _ _ T (mkF m 118 #[.val (.long q1), .second, .val (.int p2), .val (.int p3), .val (.int p4), .val (.int p5), .val (.int t), .val (.ref ac), .val (.int sv), .val (.int ev), .val (.int (1 : Int32)), .unset, .unset, .unset, .unset, .unset] [(.int sv), (.int ev), (.int (((p4.toUInt32 >>> ((2 : Int32) &&& 31).toUInt32).toInt32) &&& (255 : Int32))), (.int sv)])
      refine own_go (fun _ k => XS.isub X.here hx rfl (hb hby at_118) rfl k) ?_
      show own_Go _ _ _ _ T (mkF m 119 #[.val (.long q1), .second, .val (.int p2), .val (.int p3), .val (.int p4), .val (.int p5), .val (.int t), .val (.ref ac), .val (.int sv), .val (.int ev), .val (.int (1 : Int32)), .unset, .unset, .unset, .unset, .unset] [(.int (ev - sv)), (.int (((p4.toUInt32 >>> ((2 : Int32) &&& 31).toUInt32).toInt32) &&& (255 : Int32))), (.int sv)])
      refine own_go (fun _ k => XS.iconst X.here hx rfl (hb hby at_119) k) ?_
      show own_Go _ _ _ _ T (mkF m 120 #[.val (.long q1), .second, .val (.int p2), .val (.int p3), .val (.int p4), .val (.int p5), .val (.int t), .val (.ref ac), .val (.int sv), .val (.int ev), .val (.int (1 : Int32)), .unset, .unset, .unset, .unset, .unset] [(.int (1 : Int32)), (.int (ev - sv)), (.int (((p4.toUInt32 >>> ((2 : Int32) &&& 31).toUInt32).toInt32) &&& (255 : Int32))), (.int sv)])
      refine own_go (fun _ k => XS.iadd X.here hx rfl (hb hby at_120) rfl k) ?_
      show own_Go _ _ _ _ T (mkF m 121 #[.val (.long q1), .second, .val (.int p2), .val (.int p3), .val (.int p4), .val (.int p5), .val (.int t), .val (.ref ac), .val (.int sv), .val (.int ev), .val (.int (1 : Int32)), .unset, .unset, .unset, .unset, .unset] [(.int ((ev - sv) + (1 : Int32))), (.int (((p4.toUInt32 >>> ((2 : Int32) &&& 31).toUInt32).toInt32) &&& (255 : Int32))), (.int sv)])
      refine own_go (fun _ k => iremM X hx rfl (hb hby at_121) rfl (own_nz _ hd1.1) k) ?_
      show own_Go _ _ _ _ T (mkF m 122 #[.val (.long q1), .second, .val (.int p2), .val (.int p3), .val (.int p4), .val (.int p5), .val (.int t), .val (.ref ac), .val (.int sv), .val (.int ev), .val (.int (1 : Int32)), .unset, .unset, .unset, .unset, .unset] [(.int ((((p4.toUInt32 >>> ((2 : Int32) &&& 31).toUInt32).toInt32) &&& (255 : Int32)) % ((ev - sv) + (1 : Int32)))), (.int sv)])
      refine own_go (fun _ k => XS.iadd X.here hx rfl (hb hby at_122) rfl k) ?_
      show own_Go _ _ _ _ T (mkF m 123 #[.val (.long q1), .second, .val (.int p2), .val (.int p3), .val (.int p4), .val (.int p5), .val (.int t), .val (.ref ac), .val (.int sv), .val (.int ev), .val (.int (1 : Int32)), .unset, .unset, .unset, .unset, .unset] [(.int (sv + ((((p4.toUInt32 >>> ((2 : Int32) &&& 31).toUInt32).toInt32) &&& (255 : Int32)) % ((ev - sv) + (1 : Int32)))))])
      refine own_go (fun _ k => XS.istore X.here hx rfl (hb hby at_123) rfl (l' := #[.val (.long q1), .second, .val (.int p2), .val (.int p3), .val (.int p4), .val (.int p5), .val (.int t), .val (.ref ac), .val (.int sv), .val (.int ev), .val (.int (1 : Int32)), .val (.int (sv + ((((p4.toUInt32 >>> ((2 : Int32) &&& 31).toUInt32).toInt32) &&& (255 : Int32)) % ((ev - sv) + (1 : Int32))))), .unset, .unset, .unset, .unset]) rfl k) ?_
      show own_Go _ _ _ _ T (mkF m 125 #[.val (.long q1), .second, .val (.int p2), .val (.int p3), .val (.int p4), .val (.int p5), .val (.int t), .val (.ref ac), .val (.int sv), .val (.int ev), .val (.int (1 : Int32)), .val (.int (sv + ((((p4.toUInt32 >>> ((2 : Int32) &&& 31).toUInt32).toInt32) &&& (255 : Int32)) % ((ev - sv) + (1 : Int32))))), .unset, .unset, .unset, .unset] [])
      have hm1 := own_rng sv ((p4.toUInt32 >>> ((2 : Int32) &&& 31).toUInt32).toInt32) (255 : Int32) (ev - sv + (1 : Int32)) hs.1 hd1.1 (by omega) (by decide)
      rw [hd1.2] at hm1
      obtain ⟨m1, h_m1⟩ : ∃ z, z = (sv + ((((p4.toUInt32 >>> ((2 : Int32) &&& 31).toUInt32).toInt32) &&& (255 : Int32)) % ((ev - sv) + (1 : Int32)))) := ⟨_, rfl⟩
      rw [← h_m1]
      show own_Go _ _ _ _ T (mkF m 125 #[.val (.long q1), .second, .val (.int p2), .val (.int p3), .val (.int p4), .val (.int p5), .val (.int t), .val (.ref ac), .val (.int sv), .val (.int ev), .val (.int (1 : Int32)), .val (.int m1), .unset, .unset, .unset, .unset] [])
      rw [← h_m1] at hm1
      clear h_m1
      have hd2 := own_d1 m1 ev (by omega) (by omega) (by omega)
      refine own_go (fun _ k => XS.iload X.here hx rfl (hb hby at_125) rfl k) ?_
      show own_Go _ _ _ _ T (mkF m 127 #[.val (.long q1), .second, .val (.int p2), .val (.int p3), .val (.int p4), .val (.int p5), .val (.int t), .val (.ref ac), .val (.int sv), .val (.int ev), .val (.int (1 : Int32)), .val (.int m1), .unset, .unset, .unset, .unset] [(.int m1)])
      refine own_go (fun _ k => XS.iload X.here hx rfl (hb hby at_127) rfl k) ?_
      show own_Go _ _ _ _ T (mkF m 129 #[.val (.long q1), .second, .val (.int p2), .val (.int p3), .val (.int p4), .val (.int p5), .val (.int t), .val (.ref ac), .val (.int sv), .val (.int ev), .val (.int (1 : Int32)), .val (.int m1), .unset, .unset, .unset, .unset] [(.int p4), (.int m1)])
      refine own_go (fun _ k => XS.bipush X.here hx rfl (hb hby at_129) k) ?_
      show own_Go _ _ _ _ T (mkF m 131 #[.val (.long q1), .second, .val (.int p2), .val (.int p3), .val (.int p4), .val (.int p5), .val (.int t), .val (.ref ac), .val (.int sv), .val (.int ev), .val (.int (1 : Int32)), .val (.int m1), .unset, .unset, .unset, .unset] [(.int (10 : Int32)), (.int p4), (.int m1)])
      refine own_go (fun _ k => XS.iushr X.here hx rfl (hb hby at_131) rfl k) ?_
      show own_Go _ _ _ _ T (mkF m 132 #[.val (.long q1), .second, .val (.int p2), .val (.int p3), .val (.int p4), .val (.int p5), .val (.int t), .val (.ref ac), .val (.int sv), .val (.int ev), .val (.int (1 : Int32)), .val (.int m1), .unset, .unset, .unset, .unset] [(.int ((p4.toUInt32 >>> ((10 : Int32) &&& 31).toUInt32).toInt32)), (.int m1)])
      refine own_go (fun _ k => XS.sipush X.here hx rfl (hb hby at_132) k) ?_
      show own_Go _ _ _ _ T (mkF m 135 #[.val (.long q1), .second, .val (.int p2), .val (.int p3), .val (.int p4), .val (.int p5), .val (.int t), .val (.ref ac), .val (.int sv), .val (.int ev), .val (.int (1 : Int32)), .val (.int m1), .unset, .unset, .unset, .unset] [(.int (255 : Int32)), (.int ((p4.toUInt32 >>> ((10 : Int32) &&& 31).toUInt32).toInt32)), (.int m1)])
      refine own_go (fun _ k => XS.iand X.here hx rfl (hb hby at_135) rfl k) ?_
      show own_Go _ _ _ _ T (mkF m 136 #[.val (.long q1), .second, .val (.int p2), .val (.int p3), .val (.int p4), .val (.int p5), .val (.int t), .val (.ref ac), .val (.int sv), .val (.int ev), .val (.int (1 : Int32)), .val (.int m1), .unset, .unset, .unset, .unset] [(.int (((p4.toUInt32 >>> ((10 : Int32) &&& 31).toUInt32).toInt32) &&& (255 : Int32))), (.int m1)])
      refine own_go (fun _ k => XS.iload X.here hx rfl (hb hby at_136) rfl k) ?_
      show own_Go _ _ _ _ T (mkF m 138 #[.val (.long q1), .second, .val (.int p2), .val (.int p3), .val (.int p4), .val (.int p5), .val (.int t), .val (.ref ac), .val (.int sv), .val (.int ev), .val (.int (1 : Int32)), .val (.int m1), .unset, .unset, .unset, .unset] [(.int ev), (.int (((p4.toUInt32 >>> ((10 : Int32) &&& 31).toUInt32).toInt32) &&& (255 : Int32))), (.int m1)])
      refine own_go (fun _ k => XS.iload X.here hx rfl (hb hby at_138) rfl k) ?_
      show own_Go _ _ _ _ T (mkF m 140 #[.val (.long q1), .second, .val (.int p2), .val (.int p3), .val (.int p4), .val (.int p5), .val (.int t), .val (.ref ac), .val (.int sv), .val (.int ev), .val (.int (1 : Int32)), .val (.int m1), .unset, .unset, .unset, .unset] [(.int m1), (.int ev), (.int (((p4.toUInt32 >>> ((10 : Int32) &&& 31).toUInt32).toInt32) &&& (255 : Int32))), (.int m1)])
      refine own_go (fun _ k => XS.isub X.here hx rfl (hb hby at_140) rfl k) ?_
      show own_Go _ _ _ _ T (mkF m 141 #[.val (.long q1), .second, .val (.int p2), .val (.int p3), .val (.int p4), .val (.int p5), .val (.int t), .val (.ref ac), .val (.int sv), .val (.int ev), .val (.int (1 : Int32)), .val (.int m1), .unset, .unset, .unset, .unset] [(.int (ev - m1)), (.int (((p4.toUInt32 >>> ((10 : Int32) &&& 31).toUInt32).toInt32) &&& (255 : Int32))), (.int m1)])
      refine own_go (fun _ k => XS.iconst X.here hx rfl (hb hby at_141) k) ?_
      show own_Go _ _ _ _ T (mkF m 142 #[.val (.long q1), .second, .val (.int p2), .val (.int p3), .val (.int p4), .val (.int p5), .val (.int t), .val (.ref ac), .val (.int sv), .val (.int ev), .val (.int (1 : Int32)), .val (.int m1), .unset, .unset, .unset, .unset] [(.int (1 : Int32)), (.int (ev - m1)), (.int (((p4.toUInt32 >>> ((10 : Int32) &&& 31).toUInt32).toInt32) &&& (255 : Int32))), (.int m1)])
      refine own_go (fun _ k => XS.iadd X.here hx rfl (hb hby at_142) rfl k) ?_
      show own_Go _ _ _ _ T (mkF m 143 #[.val (.long q1), .second, .val (.int p2), .val (.int p3), .val (.int p4), .val (.int p5), .val (.int t), .val (.ref ac), .val (.int sv), .val (.int ev), .val (.int (1 : Int32)), .val (.int m1), .unset, .unset, .unset, .unset] [(.int ((ev - m1) + (1 : Int32))), (.int (((p4.toUInt32 >>> ((10 : Int32) &&& 31).toUInt32).toInt32) &&& (255 : Int32))), (.int m1)])
      refine own_go (fun _ k => iremM X hx rfl (hb hby at_143) rfl (own_nz _ hd2.1) k) ?_
      show own_Go _ _ _ _ T (mkF m 144 #[.val (.long q1), .second, .val (.int p2), .val (.int p3), .val (.int p4), .val (.int p5), .val (.int t), .val (.ref ac), .val (.int sv), .val (.int ev), .val (.int (1 : Int32)), .val (.int m1), .unset, .unset, .unset, .unset] [(.int ((((p4.toUInt32 >>> ((10 : Int32) &&& 31).toUInt32).toInt32) &&& (255 : Int32)) % ((ev - m1) + (1 : Int32)))), (.int m1)])
      refine own_go (fun _ k => XS.iadd X.here hx rfl (hb hby at_144) rfl k) ?_
      show own_Go _ _ _ _ T (mkF m 145 #[.val (.long q1), .second, .val (.int p2), .val (.int p3), .val (.int p4), .val (.int p5), .val (.int t), .val (.ref ac), .val (.int sv), .val (.int ev), .val (.int (1 : Int32)), .val (.int m1), .unset, .unset, .unset, .unset] [(.int (m1 + ((((p4.toUInt32 >>> ((10 : Int32) &&& 31).toUInt32).toInt32) &&& (255 : Int32)) % ((ev - m1) + (1 : Int32)))))])
      refine own_go (fun _ k => XS.istore X.here hx rfl (hb hby at_145) rfl (l' := #[.val (.long q1), .second, .val (.int p2), .val (.int p3), .val (.int p4), .val (.int p5), .val (.int t), .val (.ref ac), .val (.int sv), .val (.int ev), .val (.int (1 : Int32)), .val (.int m1), .val (.int (m1 + ((((p4.toUInt32 >>> ((10 : Int32) &&& 31).toUInt32).toInt32) &&& (255 : Int32)) % ((ev - m1) + (1 : Int32))))), .unset, .unset, .unset]) rfl k) ?_
      show own_Go _ _ _ _ T (mkF m 147 #[.val (.long q1), .second, .val (.int p2), .val (.int p3), .val (.int p4), .val (.int p5), .val (.int t), .val (.ref ac), .val (.int sv), .val (.int ev), .val (.int (1 : Int32)), .val (.int m1), .val (.int (m1 + ((((p4.toUInt32 >>> ((10 : Int32) &&& 31).toUInt32).toInt32) &&& (255 : Int32)) % ((ev - m1) + (1 : Int32))))), .unset, .unset, .unset] [])
      obtain ⟨m2, h_m2⟩ : ∃ z, z = (m1 + ((((p4.toUInt32 >>> ((10 : Int32) &&& 31).toUInt32).toInt32) &&& (255 : Int32)) % ((ev - m1) + (1 : Int32)))) := ⟨_, rfl⟩
      rw [← h_m2]
      clear h_m2
      show own_Go _ _ _ _ T (mkF m 147 #[.val (.long q1), .second, .val (.int p2), .val (.int p3), .val (.int p4), .val (.int p5), .val (.int t), .val (.ref ac), .val (.int sv), .val (.int ev), .val (.int (1 : Int32)), .val (.int m1), .val (.int m2), .unset, .unset, .unset] [])
      obtain ⟨sn, rfl, hsn, -⟩ := own_nat hs.1
      obtain ⟨en, rfl, hen0, -⟩ := own_nat (z := ev) (by omega)
      show own_Go _ _ _ _ T (mkF m 147 #[.val (.long q1), .second, .val (.int p2), .val (.int p3), .val (.int p4), .val (.int p5), .val (.int t), .val (.ref ac), .val (.int sn.toInt32), .val (.int en.toInt32), .val (.int (1 : Int32)), .val (.int m1), .val (.int m2), .unset, .unset, .unset] [])
      refine own_go (fun _ k => XS.iload X.here hx rfl (hb hby at_147) rfl k) ?_
      show own_Go _ _ _ _ T (mkF m 149 #[.val (.long q1), .second, .val (.int p2), .val (.int p3), .val (.int p4), .val (.int p5), .val (.int t), .val (.ref ac), .val (.int sn.toInt32), .val (.int en.toInt32), .val (.int (1 : Int32)), .val (.int m1), .val (.int m2), .unset, .unset, .unset] [(.int (1 : Int32))])
      refine own_go (fun _ k => XS.ifYes X.here hx rfl (pc0 := 149) (pc' := 165) rfl (hb hby at_149) rfl ((if0 _ _).trans (feq (by decide : ¬ ((1 : Int32) = (0 : Int32)))).2) (by decide) (by decide) k) ?_
      show own_Go _ _ _ _ T (mkF m 165 #[.val (.long q1), .second, .val (.int p2), .val (.int p3), .val (.int p4), .val (.int p5), .val (.int t), .val (.ref ac), .val (.int sn.toInt32), .val (.int en.toInt32), .val (.int (1 : Int32)), .val (.int m1), .val (.int m2), .unset, .unset, .unset] [])
      refine own_go (fun _ k => XS.iload X.here hx rfl (hb hby at_165) rfl k) ?_
      show own_Go _ _ _ _ T (mkF m 167 #[.val (.long q1), .second, .val (.int p2), .val (.int p3), .val (.int p4), .val (.int p5), .val (.int t), .val (.ref ac), .val (.int sn.toInt32), .val (.int en.toInt32), .val (.int (1 : Int32)), .val (.int m1), .val (.int m2), .unset, .unset, .unset] [(.int (1 : Int32))])
      refine own_go (fun _ k => XS.iconst X.here hx rfl (hb hby at_167) k) ?_
      show own_Go _ _ _ _ T (mkF m 168 #[.val (.long q1), .second, .val (.int p2), .val (.int p3), .val (.int p4), .val (.int p5), .val (.int t), .val (.ref ac), .val (.int sn.toInt32), .val (.int en.toInt32), .val (.int (1 : Int32)), .val (.int m1), .val (.int m2), .unset, .unset, .unset] [(.int (1 : Int32)), (.int (1 : Int32))])
      refine own_go (fun _ k => XS.icmpNo X.here hx rfl (hb hby at_168) rfl (teq (by decide : (1 : Int32) = (1 : Int32))).2 k) ?_
      show own_Go _ _ _ _ T (mkF m 171 #[.val (.long q1), .second, .val (.int p2), .val (.int p3), .val (.int p4), .val (.int p5), .val (.int t), .val (.ref ac), .val (.int sn.toInt32), .val (.int en.toInt32), .val (.int (1 : Int32)), .val (.int m1), .val (.int m2), .unset, .unset, .unset] [])
      refine own_go (fun _ k => XS.iconst X.here hx rfl (hb hby at_171) k) ?_
      show own_Go _ _ _ _ T (mkF m 172 #[.val (.long q1), .second, .val (.int p2), .val (.int p3), .val (.int p4), .val (.int p5), .val (.int t), .val (.ref ac), .val (.int sn.toInt32), .val (.int en.toInt32), .val (.int (1 : Int32)), .val (.int m1), .val (.int m2), .unset, .unset, .unset] [(.int (2 : Int32))])
      obtain ⟨Tz34, hz34, kz34, Xz34, ez34, Ez34, Az34, stz34⟩ := newP X hx hZ (hw _ (List.mem_of_getElem? (i := 2) rfl)) eT (g := (mkF m 172 #[.val (.long q1), .second, .val (.int p2), .val (.int p3), .val (.int p4), .val (.int p5), .val (.int t), .val (.ref ac), .val (.int sn.toInt32), .val (.int en.toInt32), .val (.int (1 : Int32)), .val (.int m1), .val (.int m2), .unset, .unset, .unset] [(.int (2 : Int32))])) rfl (hb hby at_172) rfl (by decide) (cap := 4) (by decide) (by decide) (by decide) (by decide)
      obtain ⟨ab, gz34⟩ : ∃ z, z = hh.size := ⟨_, rfl⟩
      rw [← gz34] at Az34 stz34
      have ne_ac_ab : ac ≠ ab := Nat.ne_of_lt (Nat.lt_of_lt_of_le V_ac.lt (Nat.le_of_eq gz34.symm))
      have g_ab : n0 ≤ ab := by rw [gz34, ← O.1]; exact O.2.1
      have O := O.ext Ez34
      have V_ac := V_ac.ext Ez34
      refine own_go stz34 ?_
      have V_ab : Arv Z hz34 ab kz34 .int (2 : Int32) [(.int (0 : Int32)), (.int (0 : Int32))] (.int (0 : Int32)) := (Arv.new Az34 (by decide)).pad (pad_rep [] (.int (0 : Int32)) 2)
      show own_Go _ _ _ _ Tz34 (mkF m 174 #[.val (.long q1), .second, .val (.int p2), .val (.int p3), .val (.int p4), .val (.int p5), .val (.int t), .val (.ref ac), .val (.int sn.toInt32), .val (.int en.toInt32), .val (.int (1 : Int32)), .val (.int m1), .val (.int m2), .unset, .unset, .unset] [(.ref ab)])
      refine own_go (fun _ k => XS.dup Xz34.here hx rfl (hb hby at_174) rfl rfl k) ?_
      show own_Go _ _ _ _ Tz34 (mkF m 175 #[.val (.long q1), .second, .val (.int p2), .val (.int p3), .val (.int p4), .val (.int p5), .val (.int t), .val (.ref ac), .val (.int sn.toInt32), .val (.int en.toInt32), .val (.int (1 : Int32)), .val (.int m1), .val (.int m2), .unset, .unset, .unset] [(.ref ab), (.ref ab)])
      refine own_go (fun _ k => XS.iconst Xz34.here hx rfl (hb hby at_175) k) ?_
      show own_Go _ _ _ _ Tz34 (mkF m 176 #[.val (.long q1), .second, .val (.int p2), .val (.int p3), .val (.int p4), .val (.int p5), .val (.int t), .val (.ref ac), .val (.int sn.toInt32), .val (.int en.toInt32), .val (.int (1 : Int32)), .val (.int m1), .val (.int m2), .unset, .unset, .unset] [(.int (0 : Int32)), (.ref ab), (.ref ab)])
      refine own_go (fun _ k => XS.iload Xz34.here hx rfl (hb hby at_176) rfl k) ?_
      show own_Go _ _ _ _ Tz34 (mkF m 178 #[.val (.long q1), .second, .val (.int p2), .val (.int p3), .val (.int p4), .val (.int p5), .val (.int t), .val (.ref ac), .val (.int sn.toInt32), .val (.int en.toInt32), .val (.int (1 : Int32)), .val (.int m1), .val (.int m2), .unset, .unset, .unset] [(.int sn.toInt32), (.int (0 : Int32)), (.ref ab), (.ref ab)])
      obtain ⟨clz35, Arz35, qz35, Sz35, Mz35, HHz35, Gz35⟩ := V_ab
      have hinz35 : ¬ ((0 : Int32) < 0 ∨ clz35.slots.size ≤ ((0 : Int32)).toNatClampNeg) := inb_of Sz35 ⟨(by decide), (by decide)⟩
      obtain ⟨Tz35, hz35, Xz35, ez35, Wz35, stz35⟩ := stI Xz34 hx hZ ez34 Arz35 (j := (0 : Int32)) hinz35 (g := (mkF m 178 #[.val (.long q1), .second, .val (.int p2), .val (.int p3), .val (.int p4), .val (.int p5), .val (.int t), .val (.ref ac), .val (.int sn.toInt32), .val (.int en.toInt32), .val (.int (1 : Int32)), .val (.int m1), .val (.int m2), .unset, .unset, .unset] [(.int sn.toInt32), (.int (0 : Int32)), (.ref ab), (.ref ab)])) rfl rfl (hb hby at_178)
      refine own_go stz35 ?_
      have V_ab_ : Arv Z hz35 ab kz34 .int (2 : Int32) [(.int sn.toInt32), (.int (0 : Int32))] (.int (0 : Int32)) := Arv.set Arz35 qz35 Sz35 Mz35 HHz35 Gz35 rfl Wz35 0 rfl (Nat.le_of_ble_eq_true rfl)
      have Nz35 := Fr.snoc Xz35 N g_ab
      have O := O.wr Wz35 g_ab
      have V_ac := V_ac.other Wz35 ne_ac_ab
      have V_ab := V_ab_
      show own_Go _ _ _ _ Tz35 (mkF m 179 #[.val (.long q1), .second, .val (.int p2), .val (.int p3), .val (.int p4), .val (.int p5), .val (.int t), .val (.ref ac), .val (.int sn.toInt32), .val (.int en.toInt32), .val (.int (1 : Int32)), .val (.int m1), .val (.int m2), .unset, .unset, .unset] [(.ref ab)])
      refine own_go (fun _ k => XS.dup Xz35.here hx rfl (hb hby at_179) rfl rfl k) ?_
      show own_Go _ _ _ _ Tz35 (mkF m 180 #[.val (.long q1), .second, .val (.int p2), .val (.int p3), .val (.int p4), .val (.int p5), .val (.int t), .val (.ref ac), .val (.int sn.toInt32), .val (.int en.toInt32), .val (.int (1 : Int32)), .val (.int m1), .val (.int m2), .unset, .unset, .unset] [(.ref ab), (.ref ab)])
      refine own_go (fun _ k => XS.iconst Xz35.here hx rfl (hb hby at_180) k) ?_
      show own_Go _ _ _ _ Tz35 (mkF m 181 #[.val (.long q1), .second, .val (.int p2), .val (.int p3), .val (.int p4), .val (.int p5), .val (.int t), .val (.ref ac), .val (.int sn.toInt32), .val (.int en.toInt32), .val (.int (1 : Int32)), .val (.int m1), .val (.int m2), .unset, .unset, .unset] [(.int (1 : Int32)), (.ref ab), (.ref ab)])
      refine own_go (fun _ k => XS.iload Xz35.here hx rfl (hb hby at_181) rfl k) ?_
      show own_Go _ _ _ _ Tz35 (mkF m 183 #[.val (.long q1), .second, .val (.int p2), .val (.int p3), .val (.int p4), .val (.int p5), .val (.int t), .val (.ref ac), .val (.int sn.toInt32), .val (.int en.toInt32), .val (.int (1 : Int32)), .val (.int m1), .val (.int m2), .unset, .unset, .unset] [(.int en.toInt32), (.int (1 : Int32)), (.ref ab), (.ref ab)])
      obtain ⟨clz36, Arz36, qz36, Sz36, Mz36, HHz36, Gz36⟩ := V_ab
      have hinz36 : ¬ ((1 : Int32) < 0 ∨ clz36.slots.size ≤ ((1 : Int32)).toNatClampNeg) := inb_of Sz36 ⟨(by decide), (by decide)⟩
      obtain ⟨Tz36, hz36, Xz36, ez36, Wz36, stz36⟩ := stI Xz35 hx hZ ez35 Arz36 (j := (1 : Int32)) hinz36 (g := (mkF m 183 #[.val (.long q1), .second, .val (.int p2), .val (.int p3), .val (.int p4), .val (.int p5), .val (.int t), .val (.ref ac), .val (.int sn.toInt32), .val (.int en.toInt32), .val (.int (1 : Int32)), .val (.int m1), .val (.int m2), .unset, .unset, .unset] [(.int en.toInt32), (.int (1 : Int32)), (.ref ab), (.ref ab)])) rfl rfl (hb hby at_183)
      refine own_go stz36 ?_
      have V_ab_ : Arv Z hz36 ab kz34 .int (2 : Int32) [(.int sn.toInt32), (.int en.toInt32)] (.int (0 : Int32)) := Arv.set Arz36 qz36 Sz36 Mz36 HHz36 Gz36 rfl Wz36 1 rfl (Nat.le_of_ble_eq_true rfl)
      have Nz36 := Fr.snoc Xz36 Nz35 g_ab
      have O := O.wr Wz36 g_ab
      have V_ac := V_ac.other Wz36 ne_ac_ab
      have V_ab := V_ab_
      show own_Go _ _ _ _ Tz36 (mkF m 184 #[.val (.long q1), .second, .val (.int p2), .val (.int p3), .val (.int p4), .val (.int p5), .val (.int t), .val (.ref ac), .val (.int sn.toInt32), .val (.int en.toInt32), .val (.int (1 : Int32)), .val (.int m1), .val (.int m2), .unset, .unset, .unset] [(.ref ab)])
      refine own_go (fun _ k => XS.astore Xz36.here hx rfl (hb hby at_184) rfl rfl (l' := #[.val (.long q1), .second, .val (.int p2), .val (.int p3), .val (.int p4), .val (.int p5), .val (.int t), .val (.ref ac), .val (.int sn.toInt32), .val (.int en.toInt32), .val (.int (1 : Int32)), .val (.int m1), .val (.int m2), .val (.ref ab), .unset, .unset]) rfl k) ?_
      show own_Go _ _ _ _ Tz36 (mkF m 186 #[.val (.long q1), .second, .val (.int p2), .val (.int p3), .val (.int p4), .val (.int p5), .val (.int t), .val (.ref ac), .val (.int sn.toInt32), .val (.int en.toInt32), .val (.int (1 : Int32)), .val (.int m1), .val (.int m2), .val (.ref ab), .unset, .unset] [])
      refine own_go (fun _ k => XS.goto Xz36.here hx rfl (pc0 := 186) (pc' := 243) rfl (hb hby at_186) (by decide) (by decide) k) ?_
      show own_Go _ _ _ _ Tz36 (mkF m 243 #[.val (.long q1), .second, .val (.int p2), .val (.int p3), .val (.int p4), .val (.int p5), .val (.int t), .val (.ref ac), .val (.int sn.toInt32), .val (.int en.toInt32), .val (.int (1 : Int32)), .val (.int m1), .val (.int m2), .val (.ref ab), .unset, .unset] [])
      exact k3 Tz36 hz36 _ Xz36 ez36 Nz36 O y0 y1 y2 y3 V_ac ab kz34 (2 : Int32) [(.int sn.toInt32), (.int en.toInt32)] (1 : Int32) m1 m2 sn en (by omega) (by omega) V_ab rfl (by decide) (by decide) (by decide) rfl ne_ac_ab
    · show own_Go _ _ _ _ T (mkF m 97 #[.val (.long q1), .second, .val (.int p2), .val (.int p3), .val (.int p4), .val (.int p5), .val (.int t), .val (.ref ac), .val (.int sv), .val (.int ev), .val (.int (2 : Int32)), .unset, .unset, .unset, .unset, .unset] [(.int (2 : Int32))])
      refine own_go (fun _ k => XS.ifYes X.here hx rfl (pc0 := 97) (pc' := 104) rfl (hb hby at_97) rfl ((if0 _ _).trans (feq (by decide : ¬ ((2 : Int32) = (0 : Int32)))).2) (by decide) (by decide) k) ?_
      show own_Go _ _ _ _ T (mkF m 104 #[.val (.long q1), .second, .val (.int p2), .val (.int p3), .val (.int p4), .val (.int p5), .val (.int t), .val (.ref ac), .val (.int sv), .val (.int ev), .val (.int (2 : Int32)), .unset, .unset, .unset, .unset, .unset] [])
      have hd1 := own_d1 sv ev hs.1 (by omega) (by omega)
      refine own_go (fun _ k => XS.iload X.here hx rfl (hb hby at_104) rfl k) ?_
      show own_Go _ _ _ _ T (mkF m 106 #[.val (.long q1), .second, .val (.int p2), .val (.int p3), .val (.int p4), .val (.int p5), .val (.int t), .val (.ref ac), .val (.int sv), .val (.int ev), .val (.int (2 : Int32)), .unset, .unset, .unset, .unset, .unset] [(.int sv)])
      refine own_go (fun _ k => XS.iload X.here hx rfl (hb hby at_106) rfl k) ?_
      show own_Go _ _ _ _ T (mkF m 108 #[.val (.long q1), .second, .val (.int p2), .val (.int p3), .val (.int p4), .val (.int p5), .val (.int t), .val (.ref ac), .val (.int sv), .val (.int ev), .val (.int (2 : Int32)), .unset, .unset, .unset, .unset, .unset] [(.int p4), (.int sv)])
      refine own_go (fun _ k => XS.iconst X.here hx rfl (hb hby at_108) k) ?_
      show own_Go _ _ _ _ T (mkF m 109 #[.val (.long q1), .second, .val (.int p2), .val (.int p3), .val (.int p4), .val (.int p5), .val (.int t), .val (.ref ac), .val (.int sv), .val (.int ev), .val (.int (2 : Int32)), .unset, .unset, .unset, .unset, .unset] [(.int (2 : Int32)), (.int p4), (.int sv)])
      refine own_go (fun _ k => XS.iushr X.here hx rfl (hb hby at_109) rfl k) ?_
      show own_Go _ _ _ _ T (mkF m 110 #[.val (.long q1), .second, .val (.int p2), .val (.int p3), .val (.int p4), .val (.int p5), .val (.int t), .val (.ref ac), .val (.int sv), .val (.int ev), .val (.int (2 : Int32)), .unset, .unset, .unset, .unset, .unset] [(.int ((p4.toUInt32 >>> ((2 : Int32) &&& 31).toUInt32).toInt32)), (.int sv)])
      refine own_go (fun _ k => XS.sipush X.here hx rfl (hb hby at_110) k) ?_
      show own_Go _ _ _ _ T (mkF m 113 #[.val (.long q1), .second, .val (.int p2), .val (.int p3), .val (.int p4), .val (.int p5), .val (.int t), .val (.ref ac), .val (.int sv), .val (.int ev), .val (.int (2 : Int32)), .unset, .unset, .unset, .unset, .unset] [(.int (255 : Int32)), (.int ((p4.toUInt32 >>> ((2 : Int32) &&& 31).toUInt32).toInt32)), (.int sv)])
      refine own_go (fun _ k => XS.iand X.here hx rfl (hb hby at_113) rfl k) ?_
      show own_Go _ _ _ _ T (mkF m 114 #[.val (.long q1), .second, .val (.int p2), .val (.int p3), .val (.int p4), .val (.int p5), .val (.int t), .val (.ref ac), .val (.int sv), .val (.int ev), .val (.int (2 : Int32)), .unset, .unset, .unset, .unset, .unset] [(.int (((p4.toUInt32 >>> ((2 : Int32) &&& 31).toUInt32).toInt32) &&& (255 : Int32))), (.int sv)])
      refine own_go (fun _ k => XS.iload X.here hx rfl (hb hby at_114) rfl k) ?_
      show own_Go _ _ _ _ T (mkF m 116 #[.val (.long q1), .second, .val (.int p2), .val (.int p3), .val (.int p4), .val (.int p5), .val (.int t), .val (.ref ac), .val (.int sv), .val (.int ev), .val (.int (2 : Int32)), .unset, .unset, .unset, .unset, .unset] [(.int ev), (.int (((p4.toUInt32 >>> ((2 : Int32) &&& 31).toUInt32).toInt32) &&& (255 : Int32))), (.int sv)])
      refine own_go (fun _ k => XS.iload X.here hx rfl (hb hby at_116) rfl k) ?_
      show own_Go _ _ _ _ T (mkF m 118 #[.val (.long q1), .second, .val (.int p2), .val (.int p3), .val (.int p4), .val (.int p5), .val (.int t), .val (.ref ac), .val (.int sv), .val (.int ev), .val (.int (2 : Int32)), .unset, .unset, .unset, .unset, .unset] [(.int sv), (.int ev), (.int (((p4.toUInt32 >>> ((2 : Int32) &&& 31).toUInt32).toInt32) &&& (255 : Int32))), (.int sv)])
      refine own_go (fun _ k => XS.isub X.here hx rfl (hb hby at_118) rfl k) ?_
      show own_Go _ _ _ _ T (mkF m 119 #[.val (.long q1), .second, .val (.int p2), .val (.int p3), .val (.int p4), .val (.int p5), .val (.int t), .val (.ref ac), .val (.int sv), .val (.int ev), .val (.int (2 : Int32)), .unset, .unset, .unset, .unset, .unset] [(.int (ev - sv)), (.int (((p4.toUInt32 >>> ((2 : Int32) &&& 31).toUInt32).toInt32) &&& (255 : Int32))), (.int sv)])
      refine own_go (fun _ k => XS.iconst X.here hx rfl (hb hby at_119) k) ?_
      show own_Go _ _ _ _ T (mkF m 120 #[.val (.long q1), .second, .val (.int p2), .val (.int p3), .val (.int p4), .val (.int p5), .val (.int t), .val (.ref ac), .val (.int sv), .val (.int ev), .val (.int (2 : Int32)), .unset, .unset, .unset, .unset, .unset] [(.int (1 : Int32)), (.int (ev - sv)), (.int (((p4.toUInt32 >>> ((2 : Int32) &&& 31).toUInt32).toInt32) &&& (255 : Int32))), (.int sv)])
      refine own_go (fun _ k => XS.iadd X.here hx rfl (hb hby at_120) rfl k) ?_
      show own_Go _ _ _ _ T (mkF m 121 #[.val (.long q1), .second, .val (.int p2), .val (.int p3), .val (.int p4), .val (.int p5), .val (.int t), .val (.ref ac), .val (.int sv), .val (.int ev), .val (.int (2 : Int32)), .unset, .unset, .unset, .unset, .unset] [(.int ((ev - sv) + (1 : Int32))), (.int (((p4.toUInt32 >>> ((2 : Int32) &&& 31).toUInt32).toInt32) &&& (255 : Int32))), (.int sv)])
      refine own_go (fun _ k => iremM X hx rfl (hb hby at_121) rfl (own_nz _ hd1.1) k) ?_
      show own_Go _ _ _ _ T (mkF m 122 #[.val (.long q1), .second, .val (.int p2), .val (.int p3), .val (.int p4), .val (.int p5), .val (.int t), .val (.ref ac), .val (.int sv), .val (.int ev), .val (.int (2 : Int32)), .unset, .unset, .unset, .unset, .unset] [(.int ((((p4.toUInt32 >>> ((2 : Int32) &&& 31).toUInt32).toInt32) &&& (255 : Int32)) % ((ev - sv) + (1 : Int32)))), (.int sv)])
      refine own_go (fun _ k => XS.iadd X.here hx rfl (hb hby at_122) rfl k) ?_
      show own_Go _ _ _ _ T (mkF m 123 #[.val (.long q1), .second, .val (.int p2), .val (.int p3), .val (.int p4), .val (.int p5), .val (.int t), .val (.ref ac), .val (.int sv), .val (.int ev), .val (.int (2 : Int32)), .unset, .unset, .unset, .unset, .unset] [(.int (sv + ((((p4.toUInt32 >>> ((2 : Int32) &&& 31).toUInt32).toInt32) &&& (255 : Int32)) % ((ev - sv) + (1 : Int32)))))])
      refine own_go (fun _ k => XS.istore X.here hx rfl (hb hby at_123) rfl (l' := #[.val (.long q1), .second, .val (.int p2), .val (.int p3), .val (.int p4), .val (.int p5), .val (.int t), .val (.ref ac), .val (.int sv), .val (.int ev), .val (.int (2 : Int32)), .val (.int (sv + ((((p4.toUInt32 >>> ((2 : Int32) &&& 31).toUInt32).toInt32) &&& (255 : Int32)) % ((ev - sv) + (1 : Int32))))), .unset, .unset, .unset, .unset]) rfl k) ?_
      show own_Go _ _ _ _ T (mkF m 125 #[.val (.long q1), .second, .val (.int p2), .val (.int p3), .val (.int p4), .val (.int p5), .val (.int t), .val (.ref ac), .val (.int sv), .val (.int ev), .val (.int (2 : Int32)), .val (.int (sv + ((((p4.toUInt32 >>> ((2 : Int32) &&& 31).toUInt32).toInt32) &&& (255 : Int32)) % ((ev - sv) + (1 : Int32))))), .unset, .unset, .unset, .unset] [])
      have hm1 := own_rng sv ((p4.toUInt32 >>> ((2 : Int32) &&& 31).toUInt32).toInt32) (255 : Int32) (ev - sv + (1 : Int32)) hs.1 hd1.1 (by omega) (by decide)
      rw [hd1.2] at hm1
      obtain ⟨m1, h_m1⟩ : ∃ z, z = (sv + ((((p4.toUInt32 >>> ((2 : Int32) &&& 31).toUInt32).toInt32) &&& (255 : Int32)) % ((ev - sv) + (1 : Int32)))) := ⟨_, rfl⟩
      rw [← h_m1]
      show own_Go _ _ _ _ T (mkF m 125 #[.val (.long q1), .second, .val (.int p2), .val (.int p3), .val (.int p4), .val (.int p5), .val (.int t), .val (.ref ac), .val (.int sv), .val (.int ev), .val (.int (2 : Int32)), .val (.int m1), .unset, .unset, .unset, .unset] [])
      rw [← h_m1] at hm1
      clear h_m1
      have hd2 := own_d1 m1 ev (by omega) (by omega) (by omega)
      refine own_go (fun _ k => XS.iload X.here hx rfl (hb hby at_125) rfl k) ?_
      show own_Go _ _ _ _ T (mkF m 127 #[.val (.long q1), .second, .val (.int p2), .val (.int p3), .val (.int p4), .val (.int p5), .val (.int t), .val (.ref ac), .val (.int sv), .val (.int ev), .val (.int (2 : Int32)), .val (.int m1), .unset, .unset, .unset, .unset] [(.int m1)])
      refine own_go (fun _ k => XS.iload X.here hx rfl (hb hby at_127) rfl k) ?_
      show own_Go _ _ _ _ T (mkF m 129 #[.val (.long q1), .second, .val (.int p2), .val (.int p3), .val (.int p4), .val (.int p5), .val (.int t), .val (.ref ac), .val (.int sv), .val (.int ev), .val (.int (2 : Int32)), .val (.int m1), .unset, .unset, .unset, .unset] [(.int p4), (.int m1)])
      refine own_go (fun _ k => XS.bipush X.here hx rfl (hb hby at_129) k) ?_
      show own_Go _ _ _ _ T (mkF m 131 #[.val (.long q1), .second, .val (.int p2), .val (.int p3), .val (.int p4), .val (.int p5), .val (.int t), .val (.ref ac), .val (.int sv), .val (.int ev), .val (.int (2 : Int32)), .val (.int m1), .unset, .unset, .unset, .unset] [(.int (10 : Int32)), (.int p4), (.int m1)])
      refine own_go (fun _ k => XS.iushr X.here hx rfl (hb hby at_131) rfl k) ?_
      show own_Go _ _ _ _ T (mkF m 132 #[.val (.long q1), .second, .val (.int p2), .val (.int p3), .val (.int p4), .val (.int p5), .val (.int t), .val (.ref ac), .val (.int sv), .val (.int ev), .val (.int (2 : Int32)), .val (.int m1), .unset, .unset, .unset, .unset] [(.int ((p4.toUInt32 >>> ((10 : Int32) &&& 31).toUInt32).toInt32)), (.int m1)])
      refine own_go (fun _ k => XS.sipush X.here hx rfl (hb hby at_132) k) ?_
      show own_Go _ _ _ _ T (mkF m 135 #[.val (.long q1), .second, .val (.int p2), .val (.int p3), .val (.int p4), .val (.int p5), .val (.int t), .val (.ref ac), .val (.int sv), .val (.int ev), .val (.int (2 : Int32)), .val (.int m1), .unset, .unset, .unset, .unset] [(.int (255 : Int32)), (.int ((p4.toUInt32 >>> ((10 : Int32) &&& 31).toUInt32).toInt32)), (.int m1)])
      refine own_go (fun _ k => XS.iand X.here hx rfl (hb hby at_135) rfl k) ?_
      show own_Go _ _ _ _ T (mkF m 136 #[.val (.long q1), .second, .val (.int p2), .val (.int p3), .val (.int p4), .val (.int p5), .val (.int t), .val (.ref ac), .val (.int sv), .val (.int ev), .val (.int (2 : Int32)), .val (.int m1), .unset, .unset, .unset, .unset] [(.int (((p4.toUInt32 >>> ((10 : Int32) &&& 31).toUInt32).toInt32) &&& (255 : Int32))), (.int m1)])
      refine own_go (fun _ k => XS.iload X.here hx rfl (hb hby at_136) rfl k) ?_
      show own_Go _ _ _ _ T (mkF m 138 #[.val (.long q1), .second, .val (.int p2), .val (.int p3), .val (.int p4), .val (.int p5), .val (.int t), .val (.ref ac), .val (.int sv), .val (.int ev), .val (.int (2 : Int32)), .val (.int m1), .unset, .unset, .unset, .unset] [(.int ev), (.int (((p4.toUInt32 >>> ((10 : Int32) &&& 31).toUInt32).toInt32) &&& (255 : Int32))), (.int m1)])
      refine own_go (fun _ k => XS.iload X.here hx rfl (hb hby at_138) rfl k) ?_
      show own_Go _ _ _ _ T (mkF m 140 #[.val (.long q1), .second, .val (.int p2), .val (.int p3), .val (.int p4), .val (.int p5), .val (.int t), .val (.ref ac), .val (.int sv), .val (.int ev), .val (.int (2 : Int32)), .val (.int m1), .unset, .unset, .unset, .unset] [(.int m1), (.int ev), (.int (((p4.toUInt32 >>> ((10 : Int32) &&& 31).toUInt32).toInt32) &&& (255 : Int32))), (.int m1)])
      refine own_go (fun _ k => XS.isub X.here hx rfl (hb hby at_140) rfl k) ?_
      show own_Go _ _ _ _ T (mkF m 141 #[.val (.long q1), .second, .val (.int p2), .val (.int p3), .val (.int p4), .val (.int p5), .val (.int t), .val (.ref ac), .val (.int sv), .val (.int ev), .val (.int (2 : Int32)), .val (.int m1), .unset, .unset, .unset, .unset] [(.int (ev - m1)), (.int (((p4.toUInt32 >>> ((10 : Int32) &&& 31).toUInt32).toInt32) &&& (255 : Int32))), (.int m1)])
      refine own_go (fun _ k => XS.iconst X.here hx rfl (hb hby at_141) k) ?_
      show own_Go _ _ _ _ T (mkF m 142 #[.val (.long q1), .second, .val (.int p2), .val (.int p3), .val (.int p4), .val (.int p5), .val (.int t), .val (.ref ac), .val (.int sv), .val (.int ev), .val (.int (2 : Int32)), .val (.int m1), .unset, .unset, .unset, .unset] [(.int (1 : Int32)), (.int (ev - m1)), (.int (((p4.toUInt32 >>> ((10 : Int32) &&& 31).toUInt32).toInt32) &&& (255 : Int32))), (.int m1)])
      refine own_go (fun _ k => XS.iadd X.here hx rfl (hb hby at_142) rfl k) ?_
      show own_Go _ _ _ _ T (mkF m 143 #[.val (.long q1), .second, .val (.int p2), .val (.int p3), .val (.int p4), .val (.int p5), .val (.int t), .val (.ref ac), .val (.int sv), .val (.int ev), .val (.int (2 : Int32)), .val (.int m1), .unset, .unset, .unset, .unset] [(.int ((ev - m1) + (1 : Int32))), (.int (((p4.toUInt32 >>> ((10 : Int32) &&& 31).toUInt32).toInt32) &&& (255 : Int32))), (.int m1)])
      refine own_go (fun _ k => iremM X hx rfl (hb hby at_143) rfl (own_nz _ hd2.1) k) ?_
      show own_Go _ _ _ _ T (mkF m 144 #[.val (.long q1), .second, .val (.int p2), .val (.int p3), .val (.int p4), .val (.int p5), .val (.int t), .val (.ref ac), .val (.int sv), .val (.int ev), .val (.int (2 : Int32)), .val (.int m1), .unset, .unset, .unset, .unset] [(.int ((((p4.toUInt32 >>> ((10 : Int32) &&& 31).toUInt32).toInt32) &&& (255 : Int32)) % ((ev - m1) + (1 : Int32)))), (.int m1)])
      refine own_go (fun _ k => XS.iadd X.here hx rfl (hb hby at_144) rfl k) ?_
      show own_Go _ _ _ _ T (mkF m 145 #[.val (.long q1), .second, .val (.int p2), .val (.int p3), .val (.int p4), .val (.int p5), .val (.int t), .val (.ref ac), .val (.int sv), .val (.int ev), .val (.int (2 : Int32)), .val (.int m1), .unset, .unset, .unset, .unset] [(.int (m1 + ((((p4.toUInt32 >>> ((10 : Int32) &&& 31).toUInt32).toInt32) &&& (255 : Int32)) % ((ev - m1) + (1 : Int32)))))])
      refine own_go (fun _ k => XS.istore X.here hx rfl (hb hby at_145) rfl (l' := #[.val (.long q1), .second, .val (.int p2), .val (.int p3), .val (.int p4), .val (.int p5), .val (.int t), .val (.ref ac), .val (.int sv), .val (.int ev), .val (.int (2 : Int32)), .val (.int m1), .val (.int (m1 + ((((p4.toUInt32 >>> ((10 : Int32) &&& 31).toUInt32).toInt32) &&& (255 : Int32)) % ((ev - m1) + (1 : Int32))))), .unset, .unset, .unset]) rfl k) ?_
      show own_Go _ _ _ _ T (mkF m 147 #[.val (.long q1), .second, .val (.int p2), .val (.int p3), .val (.int p4), .val (.int p5), .val (.int t), .val (.ref ac), .val (.int sv), .val (.int ev), .val (.int (2 : Int32)), .val (.int m1), .val (.int (m1 + ((((p4.toUInt32 >>> ((10 : Int32) &&& 31).toUInt32).toInt32) &&& (255 : Int32)) % ((ev - m1) + (1 : Int32))))), .unset, .unset, .unset] [])
      obtain ⟨m2, h_m2⟩ : ∃ z, z = (m1 + ((((p4.toUInt32 >>> ((10 : Int32) &&& 31).toUInt32).toInt32) &&& (255 : Int32)) % ((ev - m1) + (1 : Int32)))) := ⟨_, rfl⟩
      rw [← h_m2]
      clear h_m2
      show own_Go _ _ _ _ T (mkF m 147 #[.val (.long q1), .second, .val (.int p2), .val (.int p3), .val (.int p4), .val (.int p5), .val (.int t), .val (.ref ac), .val (.int sv), .val (.int ev), .val (.int (2 : Int32)), .val (.int m1), .val (.int m2), .unset, .unset, .unset] [])
      obtain ⟨sn, rfl, hsn, -⟩ := own_nat hs.1
      obtain ⟨en, rfl, hen0, -⟩ := own_nat (z := ev) (by omega)
      show own_Go _ _ _ _ T (mkF m 147 #[.val (.long q1), .second, .val (.int p2), .val (.int p3), .val (.int p4), .val (.int p5), .val (.int t), .val (.ref ac), .val (.int sn.toInt32), .val (.int en.toInt32), .val (.int (2 : Int32)), .val (.int m1), .val (.int m2), .unset, .unset, .unset] [])
      refine own_go (fun _ k => XS.iload X.here hx rfl (hb hby at_147) rfl k) ?_
      show own_Go _ _ _ _ T (mkF m 149 #[.val (.long q1), .second, .val (.int p2), .val (.int p3), .val (.int p4), .val (.int p5), .val (.int t), .val (.ref ac), .val (.int sn.toInt32), .val (.int en.toInt32), .val (.int (2 : Int32)), .val (.int m1), .val (.int m2), .unset, .unset, .unset] [(.int (2 : Int32))])
      refine own_go (fun _ k => XS.ifYes X.here hx rfl (pc0 := 149) (pc' := 165) rfl (hb hby at_149) rfl ((if0 _ _).trans (feq (by decide : ¬ ((2 : Int32) = (0 : Int32)))).2) (by decide) (by decide) k) ?_
      show own_Go _ _ _ _ T (mkF m 165 #[.val (.long q1), .second, .val (.int p2), .val (.int p3), .val (.int p4), .val (.int p5), .val (.int t), .val (.ref ac), .val (.int sn.toInt32), .val (.int en.toInt32), .val (.int (2 : Int32)), .val (.int m1), .val (.int m2), .unset, .unset, .unset] [])
      refine own_go (fun _ k => XS.iload X.here hx rfl (hb hby at_165) rfl k) ?_
      show own_Go _ _ _ _ T (mkF m 167 #[.val (.long q1), .second, .val (.int p2), .val (.int p3), .val (.int p4), .val (.int p5), .val (.int t), .val (.ref ac), .val (.int sn.toInt32), .val (.int en.toInt32), .val (.int (2 : Int32)), .val (.int m1), .val (.int m2), .unset, .unset, .unset] [(.int (2 : Int32))])
      refine own_go (fun _ k => XS.iconst X.here hx rfl (hb hby at_167) k) ?_
      show own_Go _ _ _ _ T (mkF m 168 #[.val (.long q1), .second, .val (.int p2), .val (.int p3), .val (.int p4), .val (.int p5), .val (.int t), .val (.ref ac), .val (.int sn.toInt32), .val (.int en.toInt32), .val (.int (2 : Int32)), .val (.int m1), .val (.int m2), .unset, .unset, .unset] [(.int (1 : Int32)), (.int (2 : Int32))])
      refine own_go (fun _ k => XS.icmpYes X.here hx rfl (pc0 := 168) (pc' := 189) rfl (hb hby at_168) rfl (feq (by decide : ¬ ((2 : Int32) = (1 : Int32)))).2 (by decide) (by decide) k) ?_
      show own_Go _ _ _ _ T (mkF m 189 #[.val (.long q1), .second, .val (.int p2), .val (.int p3), .val (.int p4), .val (.int p5), .val (.int t), .val (.ref ac), .val (.int sn.toInt32), .val (.int en.toInt32), .val (.int (2 : Int32)), .val (.int m1), .val (.int m2), .unset, .unset, .unset] [])
      refine own_go (fun _ k => XS.iload X.here hx rfl (hb hby at_189) rfl k) ?_
      show own_Go _ _ _ _ T (mkF m 191 #[.val (.long q1), .second, .val (.int p2), .val (.int p3), .val (.int p4), .val (.int p5), .val (.int t), .val (.ref ac), .val (.int sn.toInt32), .val (.int en.toInt32), .val (.int (2 : Int32)), .val (.int m1), .val (.int m2), .unset, .unset, .unset] [(.int (2 : Int32))])
      refine own_go (fun _ k => XS.iconst X.here hx rfl (hb hby at_191) k) ?_
      show own_Go _ _ _ _ T (mkF m 192 #[.val (.long q1), .second, .val (.int p2), .val (.int p3), .val (.int p4), .val (.int p5), .val (.int t), .val (.ref ac), .val (.int sn.toInt32), .val (.int en.toInt32), .val (.int (2 : Int32)), .val (.int m1), .val (.int m2), .unset, .unset, .unset] [(.int (2 : Int32)), (.int (2 : Int32))])
      refine own_go (fun _ k => XS.icmpNo X.here hx rfl (hb hby at_192) rfl (teq (by decide : (2 : Int32) = (2 : Int32))).2 k) ?_
      show own_Go _ _ _ _ T (mkF m 195 #[.val (.long q1), .second, .val (.int p2), .val (.int p3), .val (.int p4), .val (.int p5), .val (.int t), .val (.ref ac), .val (.int sn.toInt32), .val (.int en.toInt32), .val (.int (2 : Int32)), .val (.int m1), .val (.int m2), .unset, .unset, .unset] [])
      refine own_go (fun _ k => XS.iconst X.here hx rfl (hb hby at_195) k) ?_
      show own_Go _ _ _ _ T (mkF m 196 #[.val (.long q1), .second, .val (.int p2), .val (.int p3), .val (.int p4), .val (.int p5), .val (.int t), .val (.ref ac), .val (.int sn.toInt32), .val (.int en.toInt32), .val (.int (2 : Int32)), .val (.int m1), .val (.int m2), .unset, .unset, .unset] [(.int (3 : Int32))])
      obtain ⟨Tz37, hz37, kz37, Xz37, ez37, Ez37, Az37, stz37⟩ := newP X hx hZ (hw _ (List.mem_of_getElem? (i := 2) rfl)) eT (g := (mkF m 196 #[.val (.long q1), .second, .val (.int p2), .val (.int p3), .val (.int p4), .val (.int p5), .val (.int t), .val (.ref ac), .val (.int sn.toInt32), .val (.int en.toInt32), .val (.int (2 : Int32)), .val (.int m1), .val (.int m2), .unset, .unset, .unset] [(.int (3 : Int32))])) rfl (hb hby at_196) rfl (by decide) (cap := 4) (by decide) (by decide) (by decide) (by decide)
      obtain ⟨ab, gz37⟩ : ∃ z, z = hh.size := ⟨_, rfl⟩
      rw [← gz37] at Az37 stz37
      have ne_ac_ab : ac ≠ ab := Nat.ne_of_lt (Nat.lt_of_lt_of_le V_ac.lt (Nat.le_of_eq gz37.symm))
      have g_ab : n0 ≤ ab := by rw [gz37, ← O.1]; exact O.2.1
      have O := O.ext Ez37
      have V_ac := V_ac.ext Ez37
      refine own_go stz37 ?_
      have V_ab : Arv Z hz37 ab kz37 .int (3 : Int32) [(.int (0 : Int32)), (.int (0 : Int32)), (.int (0 : Int32))] (.int (0 : Int32)) := (Arv.new Az37 (by decide)).pad (pad_rep [] (.int (0 : Int32)) 3)
      show own_Go _ _ _ _ Tz37 (mkF m 198 #[.val (.long q1), .second, .val (.int p2), .val (.int p3), .val (.int p4), .val (.int p5), .val (.int t), .val (.ref ac), .val (.int sn.toInt32), .val (.int en.toInt32), .val (.int (2 : Int32)), .val (.int m1), .val (.int m2), .unset, .unset, .unset] [(.ref ab)])
      refine own_go (fun _ k => XS.dup Xz37.here hx rfl (hb hby at_198) rfl rfl k) ?_
      show own_Go _ _ _ _ Tz37 (mkF m 199 #[.val (.long q1), .second, .val (.int p2), .val (.int p3), .val (.int p4), .val (.int p5), .val (.int t), .val (.ref ac), .val (.int sn.toInt32), .val (.int en.toInt32), .val (.int (2 : Int32)), .val (.int m1), .val (.int m2), .unset, .unset, .unset] [(.ref ab), (.ref ab)])
      refine own_go (fun _ k => XS.iconst Xz37.here hx rfl (hb hby at_199) k) ?_
      show own_Go _ _ _ _ Tz37 (mkF m 200 #[.val (.long q1), .second, .val (.int p2), .val (.int p3), .val (.int p4), .val (.int p5), .val (.int t), .val (.ref ac), .val (.int sn.toInt32), .val (.int en.toInt32), .val (.int (2 : Int32)), .val (.int m1), .val (.int m2), .unset, .unset, .unset] [(.int (0 : Int32)), (.ref ab), (.ref ab)])
      refine own_go (fun _ k => XS.iload Xz37.here hx rfl (hb hby at_200) rfl k) ?_
      show own_Go _ _ _ _ Tz37 (mkF m 202 #[.val (.long q1), .second, .val (.int p2), .val (.int p3), .val (.int p4), .val (.int p5), .val (.int t), .val (.ref ac), .val (.int sn.toInt32), .val (.int en.toInt32), .val (.int (2 : Int32)), .val (.int m1), .val (.int m2), .unset, .unset, .unset] [(.int sn.toInt32), (.int (0 : Int32)), (.ref ab), (.ref ab)])
      obtain ⟨clz38, Arz38, qz38, Sz38, Mz38, HHz38, Gz38⟩ := V_ab
      have hinz38 : ¬ ((0 : Int32) < 0 ∨ clz38.slots.size ≤ ((0 : Int32)).toNatClampNeg) := inb_of Sz38 ⟨(by decide), (by decide)⟩
      obtain ⟨Tz38, hz38, Xz38, ez38, Wz38, stz38⟩ := stI Xz37 hx hZ ez37 Arz38 (j := (0 : Int32)) hinz38 (g := (mkF m 202 #[.val (.long q1), .second, .val (.int p2), .val (.int p3), .val (.int p4), .val (.int p5), .val (.int t), .val (.ref ac), .val (.int sn.toInt32), .val (.int en.toInt32), .val (.int (2 : Int32)), .val (.int m1), .val (.int m2), .unset, .unset, .unset] [(.int sn.toInt32), (.int (0 : Int32)), (.ref ab), (.ref ab)])) rfl rfl (hb hby at_202)
      refine own_go stz38 ?_
      have V_ab_ : Arv Z hz38 ab kz37 .int (3 : Int32) [(.int sn.toInt32), (.int (0 : Int32)), (.int (0 : Int32))] (.int (0 : Int32)) := Arv.set Arz38 qz38 Sz38 Mz38 HHz38 Gz38 rfl Wz38 0 rfl (Nat.le_of_ble_eq_true rfl)
      have Nz38 := Fr.snoc Xz38 N g_ab
      have O := O.wr Wz38 g_ab
      have V_ac := V_ac.other Wz38 ne_ac_ab
      have V_ab := V_ab_
      show own_Go _ _ _ _ Tz38 (mkF m 203 #[.val (.long q1), .second, .val (.int p2), .val (.int p3), .val (.int p4), .val (.int p5), .val (.int t), .val (.ref ac), .val (.int sn.toInt32), .val (.int en.toInt32), .val (.int (2 : Int32)), .val (.int m1), .val (.int m2), .unset, .unset, .unset] [(.ref ab)])
      refine own_go (fun _ k => XS.dup Xz38.here hx rfl (hb hby at_203) rfl rfl k) ?_
      show own_Go _ _ _ _ Tz38 (mkF m 204 #[.val (.long q1), .second, .val (.int p2), .val (.int p3), .val (.int p4), .val (.int p5), .val (.int t), .val (.ref ac), .val (.int sn.toInt32), .val (.int en.toInt32), .val (.int (2 : Int32)), .val (.int m1), .val (.int m2), .unset, .unset, .unset] [(.ref ab), (.ref ab)])
      refine own_go (fun _ k => XS.iconst Xz38.here hx rfl (hb hby at_204) k) ?_
      show own_Go _ _ _ _ Tz38 (mkF m 205 #[.val (.long q1), .second, .val (.int p2), .val (.int p3), .val (.int p4), .val (.int p5), .val (.int t), .val (.ref ac), .val (.int sn.toInt32), .val (.int en.toInt32), .val (.int (2 : Int32)), .val (.int m1), .val (.int m2), .unset, .unset, .unset] [(.int (1 : Int32)), (.ref ab), (.ref ab)])
      refine own_go (fun _ k => XS.iload Xz38.here hx rfl (hb hby at_205) rfl k) ?_
      show own_Go _ _ _ _ Tz38 (mkF m 207 #[.val (.long q1), .second, .val (.int p2), .val (.int p3), .val (.int p4), .val (.int p5), .val (.int t), .val (.ref ac), .val (.int sn.toInt32), .val (.int en.toInt32), .val (.int (2 : Int32)), .val (.int m1), .val (.int m2), .unset, .unset, .unset] [(.int m1), (.int (1 : Int32)), (.ref ab), (.ref ab)])
      obtain ⟨clz39, Arz39, qz39, Sz39, Mz39, HHz39, Gz39⟩ := V_ab
      have hinz39 : ¬ ((1 : Int32) < 0 ∨ clz39.slots.size ≤ ((1 : Int32)).toNatClampNeg) := inb_of Sz39 ⟨(by decide), (by decide)⟩
      obtain ⟨Tz39, hz39, Xz39, ez39, Wz39, stz39⟩ := stI Xz38 hx hZ ez38 Arz39 (j := (1 : Int32)) hinz39 (g := (mkF m 207 #[.val (.long q1), .second, .val (.int p2), .val (.int p3), .val (.int p4), .val (.int p5), .val (.int t), .val (.ref ac), .val (.int sn.toInt32), .val (.int en.toInt32), .val (.int (2 : Int32)), .val (.int m1), .val (.int m2), .unset, .unset, .unset] [(.int m1), (.int (1 : Int32)), (.ref ab), (.ref ab)])) rfl rfl (hb hby at_207)
      refine own_go stz39 ?_
      have V_ab_ : Arv Z hz39 ab kz37 .int (3 : Int32) [(.int sn.toInt32), (.int m1), (.int (0 : Int32))] (.int (0 : Int32)) := Arv.set Arz39 qz39 Sz39 Mz39 HHz39 Gz39 rfl Wz39 1 rfl (Nat.le_of_ble_eq_true rfl)
      have Nz39 := Fr.snoc Xz39 Nz38 g_ab
      have O := O.wr Wz39 g_ab
      have V_ac := V_ac.other Wz39 ne_ac_ab
      have V_ab := V_ab_
      show own_Go _ _ _ _ Tz39 (mkF m 208 #[.val (.long q1), .second, .val (.int p2), .val (.int p3), .val (.int p4), .val (.int p5), .val (.int t), .val (.ref ac), .val (.int sn.toInt32), .val (.int en.toInt32), .val (.int (2 : Int32)), .val (.int m1), .val (.int m2), .unset, .unset, .unset] [(.ref ab)])
      refine own_go (fun _ k => XS.dup Xz39.here hx rfl (hb hby at_208) rfl rfl k) ?_
      show own_Go _ _ _ _ Tz39 (mkF m 209 #[.val (.long q1), .second, .val (.int p2), .val (.int p3), .val (.int p4), .val (.int p5), .val (.int t), .val (.ref ac), .val (.int sn.toInt32), .val (.int en.toInt32), .val (.int (2 : Int32)), .val (.int m1), .val (.int m2), .unset, .unset, .unset] [(.ref ab), (.ref ab)])
      refine own_go (fun _ k => XS.iconst Xz39.here hx rfl (hb hby at_209) k) ?_
      show own_Go _ _ _ _ Tz39 (mkF m 210 #[.val (.long q1), .second, .val (.int p2), .val (.int p3), .val (.int p4), .val (.int p5), .val (.int t), .val (.ref ac), .val (.int sn.toInt32), .val (.int en.toInt32), .val (.int (2 : Int32)), .val (.int m1), .val (.int m2), .unset, .unset, .unset] [(.int (2 : Int32)), (.ref ab), (.ref ab)])
      refine own_go (fun _ k => XS.iload Xz39.here hx rfl (hb hby at_210) rfl k) ?_
      show own_Go _ _ _ _ Tz39 (mkF m 212 #[.val (.long q1), .second, .val (.int p2), .val (.int p3), .val (.int p4), .val (.int p5), .val (.int t), .val (.ref ac), .val (.int sn.toInt32), .val (.int en.toInt32), .val (.int (2 : Int32)), .val (.int m1), .val (.int m2), .unset, .unset, .unset] [(.int en.toInt32), (.int (2 : Int32)), (.ref ab), (.ref ab)])
      obtain ⟨clz40, Arz40, qz40, Sz40, Mz40, HHz40, Gz40⟩ := V_ab
      have hinz40 : ¬ ((2 : Int32) < 0 ∨ clz40.slots.size ≤ ((2 : Int32)).toNatClampNeg) := inb_of Sz40 ⟨(by decide), (by decide)⟩
      obtain ⟨Tz40, hz40, Xz40, ez40, Wz40, stz40⟩ := stI Xz39 hx hZ ez39 Arz40 (j := (2 : Int32)) hinz40 (g := (mkF m 212 #[.val (.long q1), .second, .val (.int p2), .val (.int p3), .val (.int p4), .val (.int p5), .val (.int t), .val (.ref ac), .val (.int sn.toInt32), .val (.int en.toInt32), .val (.int (2 : Int32)), .val (.int m1), .val (.int m2), .unset, .unset, .unset] [(.int en.toInt32), (.int (2 : Int32)), (.ref ab), (.ref ab)])) rfl rfl (hb hby at_212)
      refine own_go stz40 ?_
      have V_ab_ : Arv Z hz40 ab kz37 .int (3 : Int32) [(.int sn.toInt32), (.int m1), (.int en.toInt32)] (.int (0 : Int32)) := Arv.set Arz40 qz40 Sz40 Mz40 HHz40 Gz40 rfl Wz40 2 rfl (Nat.le_of_ble_eq_true rfl)
      have Nz40 := Fr.snoc Xz40 Nz39 g_ab
      have O := O.wr Wz40 g_ab
      have V_ac := V_ac.other Wz40 ne_ac_ab
      have V_ab := V_ab_
      show own_Go _ _ _ _ Tz40 (mkF m 213 #[.val (.long q1), .second, .val (.int p2), .val (.int p3), .val (.int p4), .val (.int p5), .val (.int t), .val (.ref ac), .val (.int sn.toInt32), .val (.int en.toInt32), .val (.int (2 : Int32)), .val (.int m1), .val (.int m2), .unset, .unset, .unset] [(.ref ab)])
      refine own_go (fun _ k => XS.astore Xz40.here hx rfl (hb hby at_213) rfl rfl (l' := #[.val (.long q1), .second, .val (.int p2), .val (.int p3), .val (.int p4), .val (.int p5), .val (.int t), .val (.ref ac), .val (.int sn.toInt32), .val (.int en.toInt32), .val (.int (2 : Int32)), .val (.int m1), .val (.int m2), .val (.ref ab), .unset, .unset]) rfl k) ?_
      show own_Go _ _ _ _ Tz40 (mkF m 215 #[.val (.long q1), .second, .val (.int p2), .val (.int p3), .val (.int p4), .val (.int p5), .val (.int t), .val (.ref ac), .val (.int sn.toInt32), .val (.int en.toInt32), .val (.int (2 : Int32)), .val (.int m1), .val (.int m2), .val (.ref ab), .unset, .unset] [])
      refine own_go (fun _ k => XS.goto Xz40.here hx rfl (pc0 := 215) (pc' := 243) rfl (hb hby at_215) (by decide) (by decide) k) ?_
      show own_Go _ _ _ _ Tz40 (mkF m 243 #[.val (.long q1), .second, .val (.int p2), .val (.int p3), .val (.int p4), .val (.int p5), .val (.int t), .val (.ref ac), .val (.int sn.toInt32), .val (.int en.toInt32), .val (.int (2 : Int32)), .val (.int m1), .val (.int m2), .val (.ref ab), .unset, .unset] [])
      exact k3 Tz40 hz40 _ Xz40 ez40 Nz40 O y0 y1 y2 y3 V_ac ab kz37 (3 : Int32) [(.int sn.toInt32), (.int m1), (.int en.toInt32)] (2 : Int32) m1 m2 sn en (by omega) (by omega) V_ab rfl (by decide) (by decide) (by decide) rfl ne_ac_ab
    · show own_Go _ _ _ _ T (mkF m 97 #[.val (.long q1), .second, .val (.int p2), .val (.int p3), .val (.int p4), .val (.int p5), .val (.int t), .val (.ref ac), .val (.int sv), .val (.int ev), .val (.int (3 : Int32)), .unset, .unset, .unset, .unset, .unset] [(.int (3 : Int32))])
      refine own_go (fun _ k => XS.ifYes X.here hx rfl (pc0 := 97) (pc' := 104) rfl (hb hby at_97) rfl ((if0 _ _).trans (feq (by decide : ¬ ((3 : Int32) = (0 : Int32)))).2) (by decide) (by decide) k) ?_
      show own_Go _ _ _ _ T (mkF m 104 #[.val (.long q1), .second, .val (.int p2), .val (.int p3), .val (.int p4), .val (.int p5), .val (.int t), .val (.ref ac), .val (.int sv), .val (.int ev), .val (.int (3 : Int32)), .unset, .unset, .unset, .unset, .unset] [])
      have hd1 := own_d1 sv ev hs.1 (by omega) (by omega)
      refine own_go (fun _ k => XS.iload X.here hx rfl (hb hby at_104) rfl k) ?_
      show own_Go _ _ _ _ T (mkF m 106 #[.val (.long q1), .second, .val (.int p2), .val (.int p3), .val (.int p4), .val (.int p5), .val (.int t), .val (.ref ac), .val (.int sv), .val (.int ev), .val (.int (3 : Int32)), .unset, .unset, .unset, .unset, .unset] [(.int sv)])
      refine own_go (fun _ k => XS.iload X.here hx rfl (hb hby at_106) rfl k) ?_
      show own_Go _ _ _ _ T (mkF m 108 #[.val (.long q1), .second, .val (.int p2), .val (.int p3), .val (.int p4), .val (.int p5), .val (.int t), .val (.ref ac), .val (.int sv), .val (.int ev), .val (.int (3 : Int32)), .unset, .unset, .unset, .unset, .unset] [(.int p4), (.int sv)])
      refine own_go (fun _ k => XS.iconst X.here hx rfl (hb hby at_108) k) ?_
      show own_Go _ _ _ _ T (mkF m 109 #[.val (.long q1), .second, .val (.int p2), .val (.int p3), .val (.int p4), .val (.int p5), .val (.int t), .val (.ref ac), .val (.int sv), .val (.int ev), .val (.int (3 : Int32)), .unset, .unset, .unset, .unset, .unset] [(.int (2 : Int32)), (.int p4), (.int sv)])
      refine own_go (fun _ k => XS.iushr X.here hx rfl (hb hby at_109) rfl k) ?_
      show own_Go _ _ _ _ T (mkF m 110 #[.val (.long q1), .second, .val (.int p2), .val (.int p3), .val (.int p4), .val (.int p5), .val (.int t), .val (.ref ac), .val (.int sv), .val (.int ev), .val (.int (3 : Int32)), .unset, .unset, .unset, .unset, .unset] [(.int ((p4.toUInt32 >>> ((2 : Int32) &&& 31).toUInt32).toInt32)), (.int sv)])
      refine own_go (fun _ k => XS.sipush X.here hx rfl (hb hby at_110) k) ?_
      show own_Go _ _ _ _ T (mkF m 113 #[.val (.long q1), .second, .val (.int p2), .val (.int p3), .val (.int p4), .val (.int p5), .val (.int t), .val (.ref ac), .val (.int sv), .val (.int ev), .val (.int (3 : Int32)), .unset, .unset, .unset, .unset, .unset] [(.int (255 : Int32)), (.int ((p4.toUInt32 >>> ((2 : Int32) &&& 31).toUInt32).toInt32)), (.int sv)])
      refine own_go (fun _ k => XS.iand X.here hx rfl (hb hby at_113) rfl k) ?_
      show own_Go _ _ _ _ T (mkF m 114 #[.val (.long q1), .second, .val (.int p2), .val (.int p3), .val (.int p4), .val (.int p5), .val (.int t), .val (.ref ac), .val (.int sv), .val (.int ev), .val (.int (3 : Int32)), .unset, .unset, .unset, .unset, .unset] [(.int (((p4.toUInt32 >>> ((2 : Int32) &&& 31).toUInt32).toInt32) &&& (255 : Int32))), (.int sv)])
      refine own_go (fun _ k => XS.iload X.here hx rfl (hb hby at_114) rfl k) ?_
      show own_Go _ _ _ _ T (mkF m 116 #[.val (.long q1), .second, .val (.int p2), .val (.int p3), .val (.int p4), .val (.int p5), .val (.int t), .val (.ref ac), .val (.int sv), .val (.int ev), .val (.int (3 : Int32)), .unset, .unset, .unset, .unset, .unset] [(.int ev), (.int (((p4.toUInt32 >>> ((2 : Int32) &&& 31).toUInt32).toInt32) &&& (255 : Int32))), (.int sv)])
      refine own_go (fun _ k => XS.iload X.here hx rfl (hb hby at_116) rfl k) ?_
      show own_Go _ _ _ _ T (mkF m 118 #[.val (.long q1), .second, .val (.int p2), .val (.int p3), .val (.int p4), .val (.int p5), .val (.int t), .val (.ref ac), .val (.int sv), .val (.int ev), .val (.int (3 : Int32)), .unset, .unset, .unset, .unset, .unset] [(.int sv), (.int ev), (.int (((p4.toUInt32 >>> ((2 : Int32) &&& 31).toUInt32).toInt32) &&& (255 : Int32))), (.int sv)])
      refine own_go (fun _ k => XS.isub X.here hx rfl (hb hby at_118) rfl k) ?_
      show own_Go _ _ _ _ T (mkF m 119 #[.val (.long q1), .second, .val (.int p2), .val (.int p3), .val (.int p4), .val (.int p5), .val (.int t), .val (.ref ac), .val (.int sv), .val (.int ev), .val (.int (3 : Int32)), .unset, .unset, .unset, .unset, .unset] [(.int (ev - sv)), (.int (((p4.toUInt32 >>> ((2 : Int32) &&& 31).toUInt32).toInt32) &&& (255 : Int32))), (.int sv)])
      refine own_go (fun _ k => XS.iconst X.here hx rfl (hb hby at_119) k) ?_
      show own_Go _ _ _ _ T (mkF m 120 #[.val (.long q1), .second, .val (.int p2), .val (.int p3), .val (.int p4), .val (.int p5), .val (.int t), .val (.ref ac), .val (.int sv), .val (.int ev), .val (.int (3 : Int32)), .unset, .unset, .unset, .unset, .unset] [(.int (1 : Int32)), (.int (ev - sv)), (.int (((p4.toUInt32 >>> ((2 : Int32) &&& 31).toUInt32).toInt32) &&& (255 : Int32))), (.int sv)])
      refine own_go (fun _ k => XS.iadd X.here hx rfl (hb hby at_120) rfl k) ?_
      show own_Go _ _ _ _ T (mkF m 121 #[.val (.long q1), .second, .val (.int p2), .val (.int p3), .val (.int p4), .val (.int p5), .val (.int t), .val (.ref ac), .val (.int sv), .val (.int ev), .val (.int (3 : Int32)), .unset, .unset, .unset, .unset, .unset] [(.int ((ev - sv) + (1 : Int32))), (.int (((p4.toUInt32 >>> ((2 : Int32) &&& 31).toUInt32).toInt32) &&& (255 : Int32))), (.int sv)])
      refine own_go (fun _ k => iremM X hx rfl (hb hby at_121) rfl (own_nz _ hd1.1) k) ?_
      show own_Go _ _ _ _ T (mkF m 122 #[.val (.long q1), .second, .val (.int p2), .val (.int p3), .val (.int p4), .val (.int p5), .val (.int t), .val (.ref ac), .val (.int sv), .val (.int ev), .val (.int (3 : Int32)), .unset, .unset, .unset, .unset, .unset] [(.int ((((p4.toUInt32 >>> ((2 : Int32) &&& 31).toUInt32).toInt32) &&& (255 : Int32)) % ((ev - sv) + (1 : Int32)))), (.int sv)])
      refine own_go (fun _ k => XS.iadd X.here hx rfl (hb hby at_122) rfl k) ?_
      show own_Go _ _ _ _ T (mkF m 123 #[.val (.long q1), .second, .val (.int p2), .val (.int p3), .val (.int p4), .val (.int p5), .val (.int t), .val (.ref ac), .val (.int sv), .val (.int ev), .val (.int (3 : Int32)), .unset, .unset, .unset, .unset, .unset] [(.int (sv + ((((p4.toUInt32 >>> ((2 : Int32) &&& 31).toUInt32).toInt32) &&& (255 : Int32)) % ((ev - sv) + (1 : Int32)))))])
      refine own_go (fun _ k => XS.istore X.here hx rfl (hb hby at_123) rfl (l' := #[.val (.long q1), .second, .val (.int p2), .val (.int p3), .val (.int p4), .val (.int p5), .val (.int t), .val (.ref ac), .val (.int sv), .val (.int ev), .val (.int (3 : Int32)), .val (.int (sv + ((((p4.toUInt32 >>> ((2 : Int32) &&& 31).toUInt32).toInt32) &&& (255 : Int32)) % ((ev - sv) + (1 : Int32))))), .unset, .unset, .unset, .unset]) rfl k) ?_
      show own_Go _ _ _ _ T (mkF m 125 #[.val (.long q1), .second, .val (.int p2), .val (.int p3), .val (.int p4), .val (.int p5), .val (.int t), .val (.ref ac), .val (.int sv), .val (.int ev), .val (.int (3 : Int32)), .val (.int (sv + ((((p4.toUInt32 >>> ((2 : Int32) &&& 31).toUInt32).toInt32) &&& (255 : Int32)) % ((ev - sv) + (1 : Int32))))), .unset, .unset, .unset, .unset] [])
      have hm1 := own_rng sv ((p4.toUInt32 >>> ((2 : Int32) &&& 31).toUInt32).toInt32) (255 : Int32) (ev - sv + (1 : Int32)) hs.1 hd1.1 (by omega) (by decide)
      rw [hd1.2] at hm1
      obtain ⟨m1, h_m1⟩ : ∃ z, z = (sv + ((((p4.toUInt32 >>> ((2 : Int32) &&& 31).toUInt32).toInt32) &&& (255 : Int32)) % ((ev - sv) + (1 : Int32)))) := ⟨_, rfl⟩
      rw [← h_m1]
      show own_Go _ _ _ _ T (mkF m 125 #[.val (.long q1), .second, .val (.int p2), .val (.int p3), .val (.int p4), .val (.int p5), .val (.int t), .val (.ref ac), .val (.int sv), .val (.int ev), .val (.int (3 : Int32)), .val (.int m1), .unset, .unset, .unset, .unset] [])
      rw [← h_m1] at hm1
      clear h_m1
      have hd2 := own_d1 m1 ev (by omega) (by omega) (by omega)
      refine own_go (fun _ k => XS.iload X.here hx rfl (hb hby at_125) rfl k) ?_
      show own_Go _ _ _ _ T (mkF m 127 #[.val (.long q1), .second, .val (.int p2), .val (.int p3), .val (.int p4), .val (.int p5), .val (.int t), .val (.ref ac), .val (.int sv), .val (.int ev), .val (.int (3 : Int32)), .val (.int m1), .unset, .unset, .unset, .unset] [(.int m1)])
      refine own_go (fun _ k => XS.iload X.here hx rfl (hb hby at_127) rfl k) ?_
      show own_Go _ _ _ _ T (mkF m 129 #[.val (.long q1), .second, .val (.int p2), .val (.int p3), .val (.int p4), .val (.int p5), .val (.int t), .val (.ref ac), .val (.int sv), .val (.int ev), .val (.int (3 : Int32)), .val (.int m1), .unset, .unset, .unset, .unset] [(.int p4), (.int m1)])
      refine own_go (fun _ k => XS.bipush X.here hx rfl (hb hby at_129) k) ?_
      show own_Go _ _ _ _ T (mkF m 131 #[.val (.long q1), .second, .val (.int p2), .val (.int p3), .val (.int p4), .val (.int p5), .val (.int t), .val (.ref ac), .val (.int sv), .val (.int ev), .val (.int (3 : Int32)), .val (.int m1), .unset, .unset, .unset, .unset] [(.int (10 : Int32)), (.int p4), (.int m1)])
      refine own_go (fun _ k => XS.iushr X.here hx rfl (hb hby at_131) rfl k) ?_
      show own_Go _ _ _ _ T (mkF m 132 #[.val (.long q1), .second, .val (.int p2), .val (.int p3), .val (.int p4), .val (.int p5), .val (.int t), .val (.ref ac), .val (.int sv), .val (.int ev), .val (.int (3 : Int32)), .val (.int m1), .unset, .unset, .unset, .unset] [(.int ((p4.toUInt32 >>> ((10 : Int32) &&& 31).toUInt32).toInt32)), (.int m1)])
      refine own_go (fun _ k => XS.sipush X.here hx rfl (hb hby at_132) k) ?_
      show own_Go _ _ _ _ T (mkF m 135 #[.val (.long q1), .second, .val (.int p2), .val (.int p3), .val (.int p4), .val (.int p5), .val (.int t), .val (.ref ac), .val (.int sv), .val (.int ev), .val (.int (3 : Int32)), .val (.int m1), .unset, .unset, .unset, .unset] [(.int (255 : Int32)), (.int ((p4.toUInt32 >>> ((10 : Int32) &&& 31).toUInt32).toInt32)), (.int m1)])
      refine own_go (fun _ k => XS.iand X.here hx rfl (hb hby at_135) rfl k) ?_
      show own_Go _ _ _ _ T (mkF m 136 #[.val (.long q1), .second, .val (.int p2), .val (.int p3), .val (.int p4), .val (.int p5), .val (.int t), .val (.ref ac), .val (.int sv), .val (.int ev), .val (.int (3 : Int32)), .val (.int m1), .unset, .unset, .unset, .unset] [(.int (((p4.toUInt32 >>> ((10 : Int32) &&& 31).toUInt32).toInt32) &&& (255 : Int32))), (.int m1)])
      refine own_go (fun _ k => XS.iload X.here hx rfl (hb hby at_136) rfl k) ?_
      show own_Go _ _ _ _ T (mkF m 138 #[.val (.long q1), .second, .val (.int p2), .val (.int p3), .val (.int p4), .val (.int p5), .val (.int t), .val (.ref ac), .val (.int sv), .val (.int ev), .val (.int (3 : Int32)), .val (.int m1), .unset, .unset, .unset, .unset] [(.int ev), (.int (((p4.toUInt32 >>> ((10 : Int32) &&& 31).toUInt32).toInt32) &&& (255 : Int32))), (.int m1)])
      refine own_go (fun _ k => XS.iload X.here hx rfl (hb hby at_138) rfl k) ?_
      show own_Go _ _ _ _ T (mkF m 140 #[.val (.long q1), .second, .val (.int p2), .val (.int p3), .val (.int p4), .val (.int p5), .val (.int t), .val (.ref ac), .val (.int sv), .val (.int ev), .val (.int (3 : Int32)), .val (.int m1), .unset, .unset, .unset, .unset] [(.int m1), (.int ev), (.int (((p4.toUInt32 >>> ((10 : Int32) &&& 31).toUInt32).toInt32) &&& (255 : Int32))), (.int m1)])
      refine own_go (fun _ k => XS.isub X.here hx rfl (hb hby at_140) rfl k) ?_
      show own_Go _ _ _ _ T (mkF m 141 #[.val (.long q1), .second, .val (.int p2), .val (.int p3), .val (.int p4), .val (.int p5), .val (.int t), .val (.ref ac), .val (.int sv), .val (.int ev), .val (.int (3 : Int32)), .val (.int m1), .unset, .unset, .unset, .unset] [(.int (ev - m1)), (.int (((p4.toUInt32 >>> ((10 : Int32) &&& 31).toUInt32).toInt32) &&& (255 : Int32))), (.int m1)])
      refine own_go (fun _ k => XS.iconst X.here hx rfl (hb hby at_141) k) ?_
      show own_Go _ _ _ _ T (mkF m 142 #[.val (.long q1), .second, .val (.int p2), .val (.int p3), .val (.int p4), .val (.int p5), .val (.int t), .val (.ref ac), .val (.int sv), .val (.int ev), .val (.int (3 : Int32)), .val (.int m1), .unset, .unset, .unset, .unset] [(.int (1 : Int32)), (.int (ev - m1)), (.int (((p4.toUInt32 >>> ((10 : Int32) &&& 31).toUInt32).toInt32) &&& (255 : Int32))), (.int m1)])
      refine own_go (fun _ k => XS.iadd X.here hx rfl (hb hby at_142) rfl k) ?_
      show own_Go _ _ _ _ T (mkF m 143 #[.val (.long q1), .second, .val (.int p2), .val (.int p3), .val (.int p4), .val (.int p5), .val (.int t), .val (.ref ac), .val (.int sv), .val (.int ev), .val (.int (3 : Int32)), .val (.int m1), .unset, .unset, .unset, .unset] [(.int ((ev - m1) + (1 : Int32))), (.int (((p4.toUInt32 >>> ((10 : Int32) &&& 31).toUInt32).toInt32) &&& (255 : Int32))), (.int m1)])
      refine own_go (fun _ k => iremM X hx rfl (hb hby at_143) rfl (own_nz _ hd2.1) k) ?_
      show own_Go _ _ _ _ T (mkF m 144 #[.val (.long q1), .second, .val (.int p2), .val (.int p3), .val (.int p4), .val (.int p5), .val (.int t), .val (.ref ac), .val (.int sv), .val (.int ev), .val (.int (3 : Int32)), .val (.int m1), .unset, .unset, .unset, .unset] [(.int ((((p4.toUInt32 >>> ((10 : Int32) &&& 31).toUInt32).toInt32) &&& (255 : Int32)) % ((ev - m1) + (1 : Int32)))), (.int m1)])
      refine own_go (fun _ k => XS.iadd X.here hx rfl (hb hby at_144) rfl k) ?_
      show own_Go _ _ _ _ T (mkF m 145 #[.val (.long q1), .second, .val (.int p2), .val (.int p3), .val (.int p4), .val (.int p5), .val (.int t), .val (.ref ac), .val (.int sv), .val (.int ev), .val (.int (3 : Int32)), .val (.int m1), .unset, .unset, .unset, .unset] [(.int (m1 + ((((p4.toUInt32 >>> ((10 : Int32) &&& 31).toUInt32).toInt32) &&& (255 : Int32)) % ((ev - m1) + (1 : Int32)))))])
      refine own_go (fun _ k => XS.istore X.here hx rfl (hb hby at_145) rfl (l' := #[.val (.long q1), .second, .val (.int p2), .val (.int p3), .val (.int p4), .val (.int p5), .val (.int t), .val (.ref ac), .val (.int sv), .val (.int ev), .val (.int (3 : Int32)), .val (.int m1), .val (.int (m1 + ((((p4.toUInt32 >>> ((10 : Int32) &&& 31).toUInt32).toInt32) &&& (255 : Int32)) % ((ev - m1) + (1 : Int32))))), .unset, .unset, .unset]) rfl k) ?_
      show own_Go _ _ _ _ T (mkF m 147 #[.val (.long q1), .second, .val (.int p2), .val (.int p3), .val (.int p4), .val (.int p5), .val (.int t), .val (.ref ac), .val (.int sv), .val (.int ev), .val (.int (3 : Int32)), .val (.int m1), .val (.int (m1 + ((((p4.toUInt32 >>> ((10 : Int32) &&& 31).toUInt32).toInt32) &&& (255 : Int32)) % ((ev - m1) + (1 : Int32))))), .unset, .unset, .unset] [])
      obtain ⟨m2, h_m2⟩ : ∃ z, z = (m1 + ((((p4.toUInt32 >>> ((10 : Int32) &&& 31).toUInt32).toInt32) &&& (255 : Int32)) % ((ev - m1) + (1 : Int32)))) := ⟨_, rfl⟩
      rw [← h_m2]
      clear h_m2
      show own_Go _ _ _ _ T (mkF m 147 #[.val (.long q1), .second, .val (.int p2), .val (.int p3), .val (.int p4), .val (.int p5), .val (.int t), .val (.ref ac), .val (.int sv), .val (.int ev), .val (.int (3 : Int32)), .val (.int m1), .val (.int m2), .unset, .unset, .unset] [])
      obtain ⟨sn, rfl, hsn, -⟩ := own_nat hs.1
      obtain ⟨en, rfl, hen0, -⟩ := own_nat (z := ev) (by omega)
      show own_Go _ _ _ _ T (mkF m 147 #[.val (.long q1), .second, .val (.int p2), .val (.int p3), .val (.int p4), .val (.int p5), .val (.int t), .val (.ref ac), .val (.int sn.toInt32), .val (.int en.toInt32), .val (.int (3 : Int32)), .val (.int m1), .val (.int m2), .unset, .unset, .unset] [])
      refine own_go (fun _ k => XS.iload X.here hx rfl (hb hby at_147) rfl k) ?_
      show own_Go _ _ _ _ T (mkF m 149 #[.val (.long q1), .second, .val (.int p2), .val (.int p3), .val (.int p4), .val (.int p5), .val (.int t), .val (.ref ac), .val (.int sn.toInt32), .val (.int en.toInt32), .val (.int (3 : Int32)), .val (.int m1), .val (.int m2), .unset, .unset, .unset] [(.int (3 : Int32))])
      refine own_go (fun _ k => XS.ifYes X.here hx rfl (pc0 := 149) (pc' := 165) rfl (hb hby at_149) rfl ((if0 _ _).trans (feq (by decide : ¬ ((3 : Int32) = (0 : Int32)))).2) (by decide) (by decide) k) ?_
      show own_Go _ _ _ _ T (mkF m 165 #[.val (.long q1), .second, .val (.int p2), .val (.int p3), .val (.int p4), .val (.int p5), .val (.int t), .val (.ref ac), .val (.int sn.toInt32), .val (.int en.toInt32), .val (.int (3 : Int32)), .val (.int m1), .val (.int m2), .unset, .unset, .unset] [])
      refine own_go (fun _ k => XS.iload X.here hx rfl (hb hby at_165) rfl k) ?_
      show own_Go _ _ _ _ T (mkF m 167 #[.val (.long q1), .second, .val (.int p2), .val (.int p3), .val (.int p4), .val (.int p5), .val (.int t), .val (.ref ac), .val (.int sn.toInt32), .val (.int en.toInt32), .val (.int (3 : Int32)), .val (.int m1), .val (.int m2), .unset, .unset, .unset] [(.int (3 : Int32))])
      refine own_go (fun _ k => XS.iconst X.here hx rfl (hb hby at_167) k) ?_
      show own_Go _ _ _ _ T (mkF m 168 #[.val (.long q1), .second, .val (.int p2), .val (.int p3), .val (.int p4), .val (.int p5), .val (.int t), .val (.ref ac), .val (.int sn.toInt32), .val (.int en.toInt32), .val (.int (3 : Int32)), .val (.int m1), .val (.int m2), .unset, .unset, .unset] [(.int (1 : Int32)), (.int (3 : Int32))])
      refine own_go (fun _ k => XS.icmpYes X.here hx rfl (pc0 := 168) (pc' := 189) rfl (hb hby at_168) rfl (feq (by decide : ¬ ((3 : Int32) = (1 : Int32)))).2 (by decide) (by decide) k) ?_
      show own_Go _ _ _ _ T (mkF m 189 #[.val (.long q1), .second, .val (.int p2), .val (.int p3), .val (.int p4), .val (.int p5), .val (.int t), .val (.ref ac), .val (.int sn.toInt32), .val (.int en.toInt32), .val (.int (3 : Int32)), .val (.int m1), .val (.int m2), .unset, .unset, .unset] [])
      refine own_go (fun _ k => XS.iload X.here hx rfl (hb hby at_189) rfl k) ?_
      show own_Go _ _ _ _ T (mkF m 191 #[.val (.long q1), .second, .val (.int p2), .val (.int p3), .val (.int p4), .val (.int p5), .val (.int t), .val (.ref ac), .val (.int sn.toInt32), .val (.int en.toInt32), .val (.int (3 : Int32)), .val (.int m1), .val (.int m2), .unset, .unset, .unset] [(.int (3 : Int32))])
      refine own_go (fun _ k => XS.iconst X.here hx rfl (hb hby at_191) k) ?_
      show own_Go _ _ _ _ T (mkF m 192 #[.val (.long q1), .second, .val (.int p2), .val (.int p3), .val (.int p4), .val (.int p5), .val (.int t), .val (.ref ac), .val (.int sn.toInt32), .val (.int en.toInt32), .val (.int (3 : Int32)), .val (.int m1), .val (.int m2), .unset, .unset, .unset] [(.int (2 : Int32)), (.int (3 : Int32))])
      refine own_go (fun _ k => XS.icmpYes X.here hx rfl (pc0 := 192) (pc' := 218) rfl (hb hby at_192) rfl (feq (by decide : ¬ ((3 : Int32) = (2 : Int32)))).2 (by decide) (by decide) k) ?_
      show own_Go _ _ _ _ T (mkF m 218 #[.val (.long q1), .second, .val (.int p2), .val (.int p3), .val (.int p4), .val (.int p5), .val (.int t), .val (.ref ac), .val (.int sn.toInt32), .val (.int en.toInt32), .val (.int (3 : Int32)), .val (.int m1), .val (.int m2), .unset, .unset, .unset] [])
      refine own_go (fun _ k => XS.iconst X.here hx rfl (hb hby at_218) k) ?_
      show own_Go _ _ _ _ T (mkF m 219 #[.val (.long q1), .second, .val (.int p2), .val (.int p3), .val (.int p4), .val (.int p5), .val (.int t), .val (.ref ac), .val (.int sn.toInt32), .val (.int en.toInt32), .val (.int (3 : Int32)), .val (.int m1), .val (.int m2), .unset, .unset, .unset] [(.int (4 : Int32))])
      obtain ⟨Tz41, hz41, kz41, Xz41, ez41, Ez41, Az41, stz41⟩ := newP X hx hZ (hw _ (List.mem_of_getElem? (i := 2) rfl)) eT (g := (mkF m 219 #[.val (.long q1), .second, .val (.int p2), .val (.int p3), .val (.int p4), .val (.int p5), .val (.int t), .val (.ref ac), .val (.int sn.toInt32), .val (.int en.toInt32), .val (.int (3 : Int32)), .val (.int m1), .val (.int m2), .unset, .unset, .unset] [(.int (4 : Int32))])) rfl (hb hby at_219) rfl (by decide) (cap := 4) (by decide) (by decide) (by decide) (by decide)
      obtain ⟨ab, gz41⟩ : ∃ z, z = hh.size := ⟨_, rfl⟩
      rw [← gz41] at Az41 stz41
      have ne_ac_ab : ac ≠ ab := Nat.ne_of_lt (Nat.lt_of_lt_of_le V_ac.lt (Nat.le_of_eq gz41.symm))
      have g_ab : n0 ≤ ab := by rw [gz41, ← O.1]; exact O.2.1
      have O := O.ext Ez41
      have V_ac := V_ac.ext Ez41
      refine own_go stz41 ?_
      have V_ab : Arv Z hz41 ab kz41 .int (4 : Int32) [(.int (0 : Int32)), (.int (0 : Int32)), (.int (0 : Int32)), (.int (0 : Int32))] (.int (0 : Int32)) := (Arv.new Az41 (by decide)).pad (pad_rep [] (.int (0 : Int32)) 4)
      show own_Go _ _ _ _ Tz41 (mkF m 221 #[.val (.long q1), .second, .val (.int p2), .val (.int p3), .val (.int p4), .val (.int p5), .val (.int t), .val (.ref ac), .val (.int sn.toInt32), .val (.int en.toInt32), .val (.int (3 : Int32)), .val (.int m1), .val (.int m2), .unset, .unset, .unset] [(.ref ab)])
      refine own_go (fun _ k => XS.dup Xz41.here hx rfl (hb hby at_221) rfl rfl k) ?_
      show own_Go _ _ _ _ Tz41 (mkF m 222 #[.val (.long q1), .second, .val (.int p2), .val (.int p3), .val (.int p4), .val (.int p5), .val (.int t), .val (.ref ac), .val (.int sn.toInt32), .val (.int en.toInt32), .val (.int (3 : Int32)), .val (.int m1), .val (.int m2), .unset, .unset, .unset] [(.ref ab), (.ref ab)])
      refine own_go (fun _ k => XS.iconst Xz41.here hx rfl (hb hby at_222) k) ?_
      show own_Go _ _ _ _ Tz41 (mkF m 223 #[.val (.long q1), .second, .val (.int p2), .val (.int p3), .val (.int p4), .val (.int p5), .val (.int t), .val (.ref ac), .val (.int sn.toInt32), .val (.int en.toInt32), .val (.int (3 : Int32)), .val (.int m1), .val (.int m2), .unset, .unset, .unset] [(.int (0 : Int32)), (.ref ab), (.ref ab)])
      refine own_go (fun _ k => XS.iload Xz41.here hx rfl (hb hby at_223) rfl k) ?_
      show own_Go _ _ _ _ Tz41 (mkF m 225 #[.val (.long q1), .second, .val (.int p2), .val (.int p3), .val (.int p4), .val (.int p5), .val (.int t), .val (.ref ac), .val (.int sn.toInt32), .val (.int en.toInt32), .val (.int (3 : Int32)), .val (.int m1), .val (.int m2), .unset, .unset, .unset] [(.int sn.toInt32), (.int (0 : Int32)), (.ref ab), (.ref ab)])
      obtain ⟨clz42, Arz42, qz42, Sz42, Mz42, HHz42, Gz42⟩ := V_ab
      have hinz42 : ¬ ((0 : Int32) < 0 ∨ clz42.slots.size ≤ ((0 : Int32)).toNatClampNeg) := inb_of Sz42 ⟨(by decide), (by decide)⟩
      obtain ⟨Tz42, hz42, Xz42, ez42, Wz42, stz42⟩ := stI Xz41 hx hZ ez41 Arz42 (j := (0 : Int32)) hinz42 (g := (mkF m 225 #[.val (.long q1), .second, .val (.int p2), .val (.int p3), .val (.int p4), .val (.int p5), .val (.int t), .val (.ref ac), .val (.int sn.toInt32), .val (.int en.toInt32), .val (.int (3 : Int32)), .val (.int m1), .val (.int m2), .unset, .unset, .unset] [(.int sn.toInt32), (.int (0 : Int32)), (.ref ab), (.ref ab)])) rfl rfl (hb hby at_225)
      refine own_go stz42 ?_
      have V_ab_ : Arv Z hz42 ab kz41 .int (4 : Int32) [(.int sn.toInt32), (.int (0 : Int32)), (.int (0 : Int32)), (.int (0 : Int32))] (.int (0 : Int32)) := Arv.set Arz42 qz42 Sz42 Mz42 HHz42 Gz42 rfl Wz42 0 rfl (Nat.le_of_ble_eq_true rfl)
      have Nz42 := Fr.snoc Xz42 N g_ab
      have O := O.wr Wz42 g_ab
      have V_ac := V_ac.other Wz42 ne_ac_ab
      have V_ab := V_ab_
      show own_Go _ _ _ _ Tz42 (mkF m 226 #[.val (.long q1), .second, .val (.int p2), .val (.int p3), .val (.int p4), .val (.int p5), .val (.int t), .val (.ref ac), .val (.int sn.toInt32), .val (.int en.toInt32), .val (.int (3 : Int32)), .val (.int m1), .val (.int m2), .unset, .unset, .unset] [(.ref ab)])
      refine own_go (fun _ k => XS.dup Xz42.here hx rfl (hb hby at_226) rfl rfl k) ?_
      show own_Go _ _ _ _ Tz42 (mkF m 227 #[.val (.long q1), .second, .val (.int p2), .val (.int p3), .val (.int p4), .val (.int p5), .val (.int t), .val (.ref ac), .val (.int sn.toInt32), .val (.int en.toInt32), .val (.int (3 : Int32)), .val (.int m1), .val (.int m2), .unset, .unset, .unset] [(.ref ab), (.ref ab)])
      refine own_go (fun _ k => XS.iconst Xz42.here hx rfl (hb hby at_227) k) ?_
      show own_Go _ _ _ _ Tz42 (mkF m 228 #[.val (.long q1), .second, .val (.int p2), .val (.int p3), .val (.int p4), .val (.int p5), .val (.int t), .val (.ref ac), .val (.int sn.toInt32), .val (.int en.toInt32), .val (.int (3 : Int32)), .val (.int m1), .val (.int m2), .unset, .unset, .unset] [(.int (1 : Int32)), (.ref ab), (.ref ab)])
      refine own_go (fun _ k => XS.iload Xz42.here hx rfl (hb hby at_228) rfl k) ?_
      show own_Go _ _ _ _ Tz42 (mkF m 230 #[.val (.long q1), .second, .val (.int p2), .val (.int p3), .val (.int p4), .val (.int p5), .val (.int t), .val (.ref ac), .val (.int sn.toInt32), .val (.int en.toInt32), .val (.int (3 : Int32)), .val (.int m1), .val (.int m2), .unset, .unset, .unset] [(.int m1), (.int (1 : Int32)), (.ref ab), (.ref ab)])
      obtain ⟨clz43, Arz43, qz43, Sz43, Mz43, HHz43, Gz43⟩ := V_ab
      have hinz43 : ¬ ((1 : Int32) < 0 ∨ clz43.slots.size ≤ ((1 : Int32)).toNatClampNeg) := inb_of Sz43 ⟨(by decide), (by decide)⟩
      obtain ⟨Tz43, hz43, Xz43, ez43, Wz43, stz43⟩ := stI Xz42 hx hZ ez42 Arz43 (j := (1 : Int32)) hinz43 (g := (mkF m 230 #[.val (.long q1), .second, .val (.int p2), .val (.int p3), .val (.int p4), .val (.int p5), .val (.int t), .val (.ref ac), .val (.int sn.toInt32), .val (.int en.toInt32), .val (.int (3 : Int32)), .val (.int m1), .val (.int m2), .unset, .unset, .unset] [(.int m1), (.int (1 : Int32)), (.ref ab), (.ref ab)])) rfl rfl (hb hby at_230)
      refine own_go stz43 ?_
      have V_ab_ : Arv Z hz43 ab kz41 .int (4 : Int32) [(.int sn.toInt32), (.int m1), (.int (0 : Int32)), (.int (0 : Int32))] (.int (0 : Int32)) := Arv.set Arz43 qz43 Sz43 Mz43 HHz43 Gz43 rfl Wz43 1 rfl (Nat.le_of_ble_eq_true rfl)
      have Nz43 := Fr.snoc Xz43 Nz42 g_ab
      have O := O.wr Wz43 g_ab
      have V_ac := V_ac.other Wz43 ne_ac_ab
      have V_ab := V_ab_
      show own_Go _ _ _ _ Tz43 (mkF m 231 #[.val (.long q1), .second, .val (.int p2), .val (.int p3), .val (.int p4), .val (.int p5), .val (.int t), .val (.ref ac), .val (.int sn.toInt32), .val (.int en.toInt32), .val (.int (3 : Int32)), .val (.int m1), .val (.int m2), .unset, .unset, .unset] [(.ref ab)])
      refine own_go (fun _ k => XS.dup Xz43.here hx rfl (hb hby at_231) rfl rfl k) ?_
      show own_Go _ _ _ _ Tz43 (mkF m 232 #[.val (.long q1), .second, .val (.int p2), .val (.int p3), .val (.int p4), .val (.int p5), .val (.int t), .val (.ref ac), .val (.int sn.toInt32), .val (.int en.toInt32), .val (.int (3 : Int32)), .val (.int m1), .val (.int m2), .unset, .unset, .unset] [(.ref ab), (.ref ab)])
      refine own_go (fun _ k => XS.iconst Xz43.here hx rfl (hb hby at_232) k) ?_
      show own_Go _ _ _ _ Tz43 (mkF m 233 #[.val (.long q1), .second, .val (.int p2), .val (.int p3), .val (.int p4), .val (.int p5), .val (.int t), .val (.ref ac), .val (.int sn.toInt32), .val (.int en.toInt32), .val (.int (3 : Int32)), .val (.int m1), .val (.int m2), .unset, .unset, .unset] [(.int (2 : Int32)), (.ref ab), (.ref ab)])
      refine own_go (fun _ k => XS.iload Xz43.here hx rfl (hb hby at_233) rfl k) ?_
      show own_Go _ _ _ _ Tz43 (mkF m 235 #[.val (.long q1), .second, .val (.int p2), .val (.int p3), .val (.int p4), .val (.int p5), .val (.int t), .val (.ref ac), .val (.int sn.toInt32), .val (.int en.toInt32), .val (.int (3 : Int32)), .val (.int m1), .val (.int m2), .unset, .unset, .unset] [(.int m2), (.int (2 : Int32)), (.ref ab), (.ref ab)])
      obtain ⟨clz44, Arz44, qz44, Sz44, Mz44, HHz44, Gz44⟩ := V_ab
      have hinz44 : ¬ ((2 : Int32) < 0 ∨ clz44.slots.size ≤ ((2 : Int32)).toNatClampNeg) := inb_of Sz44 ⟨(by decide), (by decide)⟩
      obtain ⟨Tz44, hz44, Xz44, ez44, Wz44, stz44⟩ := stI Xz43 hx hZ ez43 Arz44 (j := (2 : Int32)) hinz44 (g := (mkF m 235 #[.val (.long q1), .second, .val (.int p2), .val (.int p3), .val (.int p4), .val (.int p5), .val (.int t), .val (.ref ac), .val (.int sn.toInt32), .val (.int en.toInt32), .val (.int (3 : Int32)), .val (.int m1), .val (.int m2), .unset, .unset, .unset] [(.int m2), (.int (2 : Int32)), (.ref ab), (.ref ab)])) rfl rfl (hb hby at_235)
      refine own_go stz44 ?_
      have V_ab_ : Arv Z hz44 ab kz41 .int (4 : Int32) [(.int sn.toInt32), (.int m1), (.int m2), (.int (0 : Int32))] (.int (0 : Int32)) := Arv.set Arz44 qz44 Sz44 Mz44 HHz44 Gz44 rfl Wz44 2 rfl (Nat.le_of_ble_eq_true rfl)
      have Nz44 := Fr.snoc Xz44 Nz43 g_ab
      have O := O.wr Wz44 g_ab
      have V_ac := V_ac.other Wz44 ne_ac_ab
      have V_ab := V_ab_
      show own_Go _ _ _ _ Tz44 (mkF m 236 #[.val (.long q1), .second, .val (.int p2), .val (.int p3), .val (.int p4), .val (.int p5), .val (.int t), .val (.ref ac), .val (.int sn.toInt32), .val (.int en.toInt32), .val (.int (3 : Int32)), .val (.int m1), .val (.int m2), .unset, .unset, .unset] [(.ref ab)])
      refine own_go (fun _ k => XS.dup Xz44.here hx rfl (hb hby at_236) rfl rfl k) ?_
      show own_Go _ _ _ _ Tz44 (mkF m 237 #[.val (.long q1), .second, .val (.int p2), .val (.int p3), .val (.int p4), .val (.int p5), .val (.int t), .val (.ref ac), .val (.int sn.toInt32), .val (.int en.toInt32), .val (.int (3 : Int32)), .val (.int m1), .val (.int m2), .unset, .unset, .unset] [(.ref ab), (.ref ab)])
      refine own_go (fun _ k => XS.iconst Xz44.here hx rfl (hb hby at_237) k) ?_
      show own_Go _ _ _ _ Tz44 (mkF m 238 #[.val (.long q1), .second, .val (.int p2), .val (.int p3), .val (.int p4), .val (.int p5), .val (.int t), .val (.ref ac), .val (.int sn.toInt32), .val (.int en.toInt32), .val (.int (3 : Int32)), .val (.int m1), .val (.int m2), .unset, .unset, .unset] [(.int (3 : Int32)), (.ref ab), (.ref ab)])
      refine own_go (fun _ k => XS.iload Xz44.here hx rfl (hb hby at_238) rfl k) ?_
      show own_Go _ _ _ _ Tz44 (mkF m 240 #[.val (.long q1), .second, .val (.int p2), .val (.int p3), .val (.int p4), .val (.int p5), .val (.int t), .val (.ref ac), .val (.int sn.toInt32), .val (.int en.toInt32), .val (.int (3 : Int32)), .val (.int m1), .val (.int m2), .unset, .unset, .unset] [(.int en.toInt32), (.int (3 : Int32)), (.ref ab), (.ref ab)])
      obtain ⟨clz45, Arz45, qz45, Sz45, Mz45, HHz45, Gz45⟩ := V_ab
      have hinz45 : ¬ ((3 : Int32) < 0 ∨ clz45.slots.size ≤ ((3 : Int32)).toNatClampNeg) := inb_of Sz45 ⟨(by decide), (by decide)⟩
      obtain ⟨Tz45, hz45, Xz45, ez45, Wz45, stz45⟩ := stI Xz44 hx hZ ez44 Arz45 (j := (3 : Int32)) hinz45 (g := (mkF m 240 #[.val (.long q1), .second, .val (.int p2), .val (.int p3), .val (.int p4), .val (.int p5), .val (.int t), .val (.ref ac), .val (.int sn.toInt32), .val (.int en.toInt32), .val (.int (3 : Int32)), .val (.int m1), .val (.int m2), .unset, .unset, .unset] [(.int en.toInt32), (.int (3 : Int32)), (.ref ab), (.ref ab)])) rfl rfl (hb hby at_240)
      refine own_go stz45 ?_
      have V_ab_ : Arv Z hz45 ab kz41 .int (4 : Int32) [(.int sn.toInt32), (.int m1), (.int m2), (.int en.toInt32)] (.int (0 : Int32)) := Arv.set Arz45 qz45 Sz45 Mz45 HHz45 Gz45 rfl Wz45 3 rfl (Nat.le_of_ble_eq_true rfl)
      have Nz45 := Fr.snoc Xz45 Nz44 g_ab
      have O := O.wr Wz45 g_ab
      have V_ac := V_ac.other Wz45 ne_ac_ab
      have V_ab := V_ab_
      show own_Go _ _ _ _ Tz45 (mkF m 241 #[.val (.long q1), .second, .val (.int p2), .val (.int p3), .val (.int p4), .val (.int p5), .val (.int t), .val (.ref ac), .val (.int sn.toInt32), .val (.int en.toInt32), .val (.int (3 : Int32)), .val (.int m1), .val (.int m2), .unset, .unset, .unset] [(.ref ab)])
      refine own_go (fun _ k => XS.astore Xz45.here hx rfl (hb hby at_241) rfl rfl (l' := #[.val (.long q1), .second, .val (.int p2), .val (.int p3), .val (.int p4), .val (.int p5), .val (.int t), .val (.ref ac), .val (.int sn.toInt32), .val (.int en.toInt32), .val (.int (3 : Int32)), .val (.int m1), .val (.int m2), .val (.ref ab), .unset, .unset]) rfl k) ?_
      show own_Go _ _ _ _ Tz45 (mkF m 243 #[.val (.long q1), .second, .val (.int p2), .val (.int p3), .val (.int p4), .val (.int p5), .val (.int t), .val (.ref ac), .val (.int sn.toInt32), .val (.int en.toInt32), .val (.int (3 : Int32)), .val (.int m1), .val (.int m2), .val (.ref ab), .unset, .unset] [])
      exact k3 Tz45 hz45 _ Xz45 ez45 Nz45 O y0 y1 y2 y3 V_ac ab kz41 (4 : Int32) [(.int sn.toInt32), (.int m1), (.int m2), (.int en.toInt32)] (3 : Int32) m1 m2 sn en (by omega) (by omega) V_ab rfl (by decide) (by decide) (by decide) rfl ne_ac_ab
  by_cases hM : (p5 &&& (1 : Int32)) = (0 : Int32)
  · refine own_go (fun _ k => XS.ifYes Xz24.here hx rfl (pc0 := 50) (pc' := 64) rfl (hb hby at_50) rfl ((if0 _ _).trans (teq hM).1) (by decide) (by decide) k) ?_
    show own_Go _ _ _ _ Tz24 (mkF m 64 #[.val (.long q1), .second, .val (.int p2), .val (.int p3), .val (.int p4), .val (.int p5), .val (.int t), .val (.ref ac), .unset, .unset, .unset, .unset, .unset, .unset, .unset, .unset] [])
    exact k1 Tz24 hz24 _ Xz24 ez24 Nz24 O _ _ _ _ V_ac
  · refine own_go (fun _ k => XS.ifNo Xz24.here hx rfl (hb hby at_50) rfl ((if0 _ _).trans (feq hM).1) k) ?_
    show own_Go _ _ _ _ Tz24 (mkF m 53 #[.val (.long q1), .second, .val (.int p2), .val (.int p3), .val (.int p4), .val (.int p5), .val (.int t), .val (.ref ac), .unset, .unset, .unset, .unset, .unset, .unset, .unset, .unset] [])
    refine own_go (fun _ k => XS.aload Xz24.here hx rfl (hb hby at_53) rfl rfl k) ?_
    show own_Go _ _ _ _ Tz24 (mkF m 55 #[.val (.long q1), .second, .val (.int p2), .val (.int p3), .val (.int p4), .val (.int p5), .val (.int t), .val (.ref ac), .unset, .unset, .unset, .unset, .unset, .unset, .unset, .unset] [(.ref ac)])
    refine own_go (fun _ k => XS.iload Xz24.here hx rfl (hb hby at_55) rfl k) ?_
    show own_Go _ _ _ _ Tz24 (mkF m 57 #[.val (.long q1), .second, .val (.int p2), .val (.int p3), .val (.int p4), .val (.int p5), .val (.int t), .val (.ref ac), .unset, .unset, .unset, .unset, .unset, .unset, .unset, .unset] [(.int p5), (.ref ac)])
    refine own_go (fun _ k => XS.iconst Xz24.here hx rfl (hb hby at_57) k) ?_
    show own_Go _ _ _ _ Tz24 (mkF m 58 #[.val (.long q1), .second, .val (.int p2), .val (.int p3), .val (.int p4), .val (.int p5), .val (.int t), .val (.ref ac), .unset, .unset, .unset, .unset, .unset, .unset, .unset, .unset] [(.int (1 : Int32)), (.int p5), (.ref ac)])
    refine own_go (fun _ k => XS.iushr Xz24.here hx rfl (hb hby at_58) rfl k) ?_
    show own_Go _ _ _ _ Tz24 (mkF m 59 #[.val (.long q1), .second, .val (.int p2), .val (.int p3), .val (.int p4), .val (.int p5), .val (.int t), .val (.ref ac), .unset, .unset, .unset, .unset, .unset, .unset, .unset, .unset] [(.int ((p5.toUInt32 >>> ((1 : Int32) &&& 31).toUInt32).toInt32)), (.ref ac)])
    refine own_go (fun _ k => XS.iconst Xz24.here hx rfl (hb hby at_59) k) ?_
    show own_Go _ _ _ _ Tz24 (mkF m 60 #[.val (.long q1), .second, .val (.int p2), .val (.int p3), .val (.int p4), .val (.int p5), .val (.int t), .val (.ref ac), .unset, .unset, .unset, .unset, .unset, .unset, .unset, .unset] [(.int (3 : Int32)), (.int ((p5.toUInt32 >>> ((1 : Int32) &&& 31).toUInt32).toInt32)), (.ref ac)])
    refine own_go (fun _ k => XS.iand Xz24.here hx rfl (hb hby at_60) rfl k) ?_
    show own_Go _ _ _ _ Tz24 (mkF m 61 #[.val (.long q1), .second, .val (.int p2), .val (.int p3), .val (.int p4), .val (.int p5), .val (.int t), .val (.ref ac), .unset, .unset, .unset, .unset, .unset, .unset, .unset, .unset] [(.int (((p5.toUInt32 >>> ((1 : Int32) &&& 31).toUInt32).toInt32) &&& (3 : Int32))), (.ref ac)])
    refine own_go (fun _ k => XS.iload Xz24.here hx rfl (hb hby at_61) rfl k) ?_
    show own_Go _ _ _ _ Tz24 (mkF m 63 #[.val (.long q1), .second, .val (.int p2), .val (.int p3), .val (.int p4), .val (.int p5), .val (.int t), .val (.ref ac), .unset, .unset, .unset, .unset, .unset, .unset, .unset, .unset] [(.int t), (.int (((p5.toUInt32 >>> ((1 : Int32) &&& 31).toUInt32).toInt32) &&& (3 : Int32))), (.ref ac)])
    obtain ⟨kv, hkv⟩ : ∃ z, z = (((p5.toUInt32 >>> ((1 : Int32) &&& 31).toUInt32).toInt32) &&& (3 : Int32)) := ⟨_, rfl⟩
    have hfk := own_four ((p5.toUInt32 >>> ((1 : Int32) &&& 31).toUInt32).toInt32)
    rw [← hkv] at hfk
    rw [← hkv]
    clear hkv
    show own_Go _ _ _ _ Tz24 (mkF m 63 #[.val (.long q1), .second, .val (.int p2), .val (.int p3), .val (.int p4), .val (.int p5), .val (.int t), .val (.ref ac), .unset, .unset, .unset, .unset, .unset, .unset, .unset, .unset] [(.int t), (.int kv), (.ref ac)])
    rcases hfk with rfl | rfl | rfl | rfl
    · show own_Go _ _ _ _ Tz24 (mkF m 63 #[.val (.long q1), .second, .val (.int p2), .val (.int p3), .val (.int p4), .val (.int p5), .val (.int t), .val (.ref ac), .unset, .unset, .unset, .unset, .unset, .unset, .unset, .unset] [(.int t), (.int (0 : Int32)), (.ref ac)])
      obtain ⟨clz46, Arz46, qz46, Sz46, Mz46, HHz46, Gz46⟩ := V_ac
      have hinz46 : ¬ ((0 : Int32) < 0 ∨ clz46.slots.size ≤ ((0 : Int32)).toNatClampNeg) := inb_of Sz46 ⟨(by decide), (by decide)⟩
      obtain ⟨Tz46, hz46, Xz46, ez46, Wz46, stz46⟩ := stC Xz24 hx hZ ez24 Arz46 (j := (0 : Int32)) hinz46 (g := (mkF m 63 #[.val (.long q1), .second, .val (.int p2), .val (.int p3), .val (.int p4), .val (.int p5), .val (.int t), .val (.ref ac), .unset, .unset, .unset, .unset, .unset, .unset, .unset, .unset] [(.int t), (.int (0 : Int32)), (.ref ac)])) rfl rfl (hb hby at_63)
      refine own_go stz46 ?_
      have V_ac_ : Arv Z hz46 ac kz20 .char (4 : Int32) [(.int (nar .char t)), (.int (nar .char x1)), (.int (nar .char x2)), (.int (nar .char x3))] (.int (0 : Int32)) := Arv.set Arz46 qz46 Sz46 Mz46 HHz46 Gz46 (fits_nar_char _) Wz46 0 rfl (Nat.le_of_ble_eq_true rfl)
      have Nz46 := Fr.snoc Xz46 Nz24 g_ac
      have O := O.wr Wz46 g_ac
      have V_ac := V_ac_
      show own_Go _ _ _ _ Tz46 (mkF m 64 #[.val (.long q1), .second, .val (.int p2), .val (.int p3), .val (.int p4), .val (.int p5), .val (.int t), .val (.ref ac), .unset, .unset, .unset, .unset, .unset, .unset, .unset, .unset] [])
      exact k1 Tz46 hz46 _ Xz46 ez46 Nz46 O _ _ _ _ V_ac
    · show own_Go _ _ _ _ Tz24 (mkF m 63 #[.val (.long q1), .second, .val (.int p2), .val (.int p3), .val (.int p4), .val (.int p5), .val (.int t), .val (.ref ac), .unset, .unset, .unset, .unset, .unset, .unset, .unset, .unset] [(.int t), (.int (1 : Int32)), (.ref ac)])
      obtain ⟨clz47, Arz47, qz47, Sz47, Mz47, HHz47, Gz47⟩ := V_ac
      have hinz47 : ¬ ((1 : Int32) < 0 ∨ clz47.slots.size ≤ ((1 : Int32)).toNatClampNeg) := inb_of Sz47 ⟨(by decide), (by decide)⟩
      obtain ⟨Tz47, hz47, Xz47, ez47, Wz47, stz47⟩ := stC Xz24 hx hZ ez24 Arz47 (j := (1 : Int32)) hinz47 (g := (mkF m 63 #[.val (.long q1), .second, .val (.int p2), .val (.int p3), .val (.int p4), .val (.int p5), .val (.int t), .val (.ref ac), .unset, .unset, .unset, .unset, .unset, .unset, .unset, .unset] [(.int t), (.int (1 : Int32)), (.ref ac)])) rfl rfl (hb hby at_63)
      refine own_go stz47 ?_
      have V_ac_ : Arv Z hz47 ac kz20 .char (4 : Int32) [(.int (nar .char x0)), (.int (nar .char t)), (.int (nar .char x2)), (.int (nar .char x3))] (.int (0 : Int32)) := Arv.set Arz47 qz47 Sz47 Mz47 HHz47 Gz47 (fits_nar_char _) Wz47 1 rfl (Nat.le_of_ble_eq_true rfl)
      have Nz47 := Fr.snoc Xz47 Nz24 g_ac
      have O := O.wr Wz47 g_ac
      have V_ac := V_ac_
      show own_Go _ _ _ _ Tz47 (mkF m 64 #[.val (.long q1), .second, .val (.int p2), .val (.int p3), .val (.int p4), .val (.int p5), .val (.int t), .val (.ref ac), .unset, .unset, .unset, .unset, .unset, .unset, .unset, .unset] [])
      exact k1 Tz47 hz47 _ Xz47 ez47 Nz47 O _ _ _ _ V_ac
    · show own_Go _ _ _ _ Tz24 (mkF m 63 #[.val (.long q1), .second, .val (.int p2), .val (.int p3), .val (.int p4), .val (.int p5), .val (.int t), .val (.ref ac), .unset, .unset, .unset, .unset, .unset, .unset, .unset, .unset] [(.int t), (.int (2 : Int32)), (.ref ac)])
      obtain ⟨clz48, Arz48, qz48, Sz48, Mz48, HHz48, Gz48⟩ := V_ac
      have hinz48 : ¬ ((2 : Int32) < 0 ∨ clz48.slots.size ≤ ((2 : Int32)).toNatClampNeg) := inb_of Sz48 ⟨(by decide), (by decide)⟩
      obtain ⟨Tz48, hz48, Xz48, ez48, Wz48, stz48⟩ := stC Xz24 hx hZ ez24 Arz48 (j := (2 : Int32)) hinz48 (g := (mkF m 63 #[.val (.long q1), .second, .val (.int p2), .val (.int p3), .val (.int p4), .val (.int p5), .val (.int t), .val (.ref ac), .unset, .unset, .unset, .unset, .unset, .unset, .unset, .unset] [(.int t), (.int (2 : Int32)), (.ref ac)])) rfl rfl (hb hby at_63)
      refine own_go stz48 ?_
      have V_ac_ : Arv Z hz48 ac kz20 .char (4 : Int32) [(.int (nar .char x0)), (.int (nar .char x1)), (.int (nar .char t)), (.int (nar .char x3))] (.int (0 : Int32)) := Arv.set Arz48 qz48 Sz48 Mz48 HHz48 Gz48 (fits_nar_char _) Wz48 2 rfl (Nat.le_of_ble_eq_true rfl)
      have Nz48 := Fr.snoc Xz48 Nz24 g_ac
      have O := O.wr Wz48 g_ac
      have V_ac := V_ac_
      show own_Go _ _ _ _ Tz48 (mkF m 64 #[.val (.long q1), .second, .val (.int p2), .val (.int p3), .val (.int p4), .val (.int p5), .val (.int t), .val (.ref ac), .unset, .unset, .unset, .unset, .unset, .unset, .unset, .unset] [])
      exact k1 Tz48 hz48 _ Xz48 ez48 Nz48 O _ _ _ _ V_ac
    · show own_Go _ _ _ _ Tz24 (mkF m 63 #[.val (.long q1), .second, .val (.int p2), .val (.int p3), .val (.int p4), .val (.int p5), .val (.int t), .val (.ref ac), .unset, .unset, .unset, .unset, .unset, .unset, .unset, .unset] [(.int t), (.int (3 : Int32)), (.ref ac)])
      obtain ⟨clz49, Arz49, qz49, Sz49, Mz49, HHz49, Gz49⟩ := V_ac
      have hinz49 : ¬ ((3 : Int32) < 0 ∨ clz49.slots.size ≤ ((3 : Int32)).toNatClampNeg) := inb_of Sz49 ⟨(by decide), (by decide)⟩
      obtain ⟨Tz49, hz49, Xz49, ez49, Wz49, stz49⟩ := stC Xz24 hx hZ ez24 Arz49 (j := (3 : Int32)) hinz49 (g := (mkF m 63 #[.val (.long q1), .second, .val (.int p2), .val (.int p3), .val (.int p4), .val (.int p5), .val (.int t), .val (.ref ac), .unset, .unset, .unset, .unset, .unset, .unset, .unset, .unset] [(.int t), (.int (3 : Int32)), (.ref ac)])) rfl rfl (hb hby at_63)
      refine own_go stz49 ?_
      have V_ac_ : Arv Z hz49 ac kz20 .char (4 : Int32) [(.int (nar .char x0)), (.int (nar .char x1)), (.int (nar .char x2)), (.int (nar .char t))] (.int (0 : Int32)) := Arv.set Arz49 qz49 Sz49 Mz49 HHz49 Gz49 (fits_nar_char _) Wz49 3 rfl (Nat.le_of_ble_eq_true rfl)
      have Nz49 := Fr.snoc Xz49 Nz24 g_ac
      have O := O.wr Wz49 g_ac
      have V_ac := V_ac_
      show own_Go _ _ _ _ Tz49 (mkF m 64 #[.val (.long q1), .second, .val (.int p2), .val (.int p3), .val (.int p4), .val (.int p5), .val (.int t), .val (.ref ac), .unset, .unset, .unset, .unset, .unset, .unset, .unset, .unset] [])
      exact k1 Tz49 hz49 _ Xz49 ez49 Nz49 O _ _ _ _ V_ac
set_option maxRecDepth 65536 in
set_option maxHeartbeats 40000000 in
theorem own_comes {Post : Tables → Env → Array Value → State → Outcome → State → Prop} (hpost : ∀ tb e args s v u, (limb_1_1.after args s (.returned v) u = true ∧ limb_1_2.after args s (.returned v) u = true ∧ True) → FrameEnd s (.returned v) u (Jvm.fieldLocs frame_1_writes args s ++ Jvm.arrayLocs frame_1_arrays args s ++ Jvm.staticLocs frame_1_statics s) 16 128 → Post tb e args s (.returned v) u) :
    ArmFor flags0 classFile x code maxLocals ret World_1 tables_1 room_1 Calls_1 rest_1 Pre_1 Post := by
  intro l hfl _ _ p e ha hc hk s m args below hf hA hF happ hP
  obtain ⟨hcalls, hrest, hpre⟩ := hP
  obtain ⟨-, -, -, hnamed, -, -, -, hat⟩ := (Spec.applies_iff hf).mp happ
  obtain ⟨hg, hn⟩ := and_e (Cond.before_iff.mp (show (Jvm.Cond.and given_1 narrow_1).before args s = true from hpre))
  obtain ⟨g1, g2⟩ := and_e hg
  obtain ⟨g3, g4⟩ := and_e g2
  obtain ⟨g5, g6⟩ := and_e g4
  obtain ⟨g7, g8⟩ := and_e g6
  obtain ⟨g9, g10⟩ := and_e g8
  obtain ⟨w0, w1, w2, w3, w4, rfl⟩ : ∃ w0 w1 w2 w3 w4 : Value, args = #[w0, w1, w2, w3, w4] := by
    have hs : args.size = 5 := by simpa [Cond.value, given_1] using g1
    obtain ⟨L⟩ := args
    match L, hs with
    | [w0, w1, w2, w3, w4], _ => exact ⟨w0, w1, w2, w3, w4, rfl⟩
  have hw := fun d (hd : d ∈ tables_1) => atoms_spec (ws := Jvm.Cond.code x code maxLocals ret :: tables_1) hat d (List.mem_cons_of_mem _ hd)
  have hfit : Fit s := fun {y c} hc i hi => by
    obtain ⟨ha, rfl⟩ := Array.getElem?_eq_some_iff.mp hc
    have q := List.all_eq_true.mp ((Array.all_eq_true_iff_forall_mem.mp hF) _ (Array.getElem_mem ha)) i (List.mem_range.mpr hi)
    simpa [Array.getElem?_eq_getElem hi] using q
  obtain ⟨i0, ei0⟩ := isL_v g3
  obtain rfl : w0 = (.long i0) := Option.some.inj ei0
  obtain ⟨i1, ei1⟩ := is_v g5
  obtain rfl : w1 = (.int i1) := Option.some.inj ei1
  obtain ⟨i2, ei2⟩ := is_v g7
  obtain rfl : w2 = (.int i2) := Option.some.inj ei2
  obtain ⟨i3, ei3⟩ := is_v g9
  obtain rfl : w3 = (.int i3) := Option.some.inj ei3
  obtain ⟨i4, ei4⟩ := is_v g10
  obtain rfl : w4 = (.int i4) := Option.some.inj ei4
  obtain ⟨n, o, h1, h2, h3, _, L, rfl, ⟨rfl, N⟩, hq⟩ := own_rm0 l s _ hw tables_1 i0 i1 i2 i3 i4 s.heap s.heap.size (Old.start s) p e ha hc hk s m _ below hf ((Spec.applies_iff_loose hf).mp happ).1 ⟨rfl, State.Warmed39.refl s, rfl⟩ trivial
  refine ⟨n, _, h1, h2, h3, hpost _ _ _ _ _ _ ⟨Cond.after_iff.mpr rfl, Cond.after_iff.mpr (eq_i res_at (Term.int_eval (1)) rfl), trivial⟩ ⟨hq.1, hq.2.1, (hq.2.2.sift fun y hy => Or.inr (N y hy)).mono (by decide) (by decide)⟩⟩
theorem main_1_1 : Claimed_1_1 := own_comes fun _ _ _ _ _ _ h hF => ⟨h.1, hF⟩
theorem main_1_2 : Claimed_1_2 := own_comes fun _ _ _ _ _ _ h hF => ⟨h.2.1, hF⟩
end Jvm.Pilot.@@N@@
namespace Jvm.Pilot.@@N@@
open Jvm Jvm.ClassFile Sem Op Lib Jvm.Free Jvm.Stand Jvm.Pilot.@@N@@.Jvm.D
/-! MADE BY PROGRAM (witnessworld.py) out of the Statement's table words and the real class files: 18 classes; the members and pool entries that the words name. The judged class is class 1, her method 2. -/
namespace start1
open Jvm.ClassFile
def u (s : String) : CpInfo := .utf8 (stringToUtf16 s)
/-- a pool by its gaps: so many unusable entries, then the entry; so many at the end -/
def gap : Nat → List CpInfo → List CpInfo
  | 0, r => r
  | n + 1, r => .unusable :: gap n r
def poolList (es : List (Nat × CpInfo)) (last : Nat) : List CpInfo := es.foldr (fun e r => gap e.1 (e.2 :: r)) (gap last [])
def pool (es : List (Nat × CpInfo)) (last : Nat) : Array CpInfo := ⟨poolList es last⟩
def fileOf (pool : Array CpInfo) (this : Nat) (attrs : Array Attribute := #[]) (ms : Array MethodInfo := #[]) (fl : Nat := 33) (sup : Nat := 0) (ifs : Array Nat := #[]) (fds : Array FieldInfo := #[]) : ClassFile where
  minorVersion := 0
  majorVersion := 65
  constantPool := pool
  accessFlags := fl
  thisClass := this
  superClass := sup
  interfaces := ifs
  fields := fds
  methods := ms
  attributes := attrs
def plain (name : String) (sup : Option ClassId) : Class where
  name := name
  kind := .ordinary
  loader := none
  accessFlags := 33
  super := sup
  interfaces := #[]
  cf := none
  fields := #[]
  methods := #[]
  instanceTypes := #[]
  staticTypes := #[]
  resolved := #[]
  callSites := []
  init := .initialized
  statics := none
  mirror := none

def pool0 : Array CpInfo := pool [(5, u "<init>"), (0, u "()V"), (1, .class_ 10), (1, u "java/lang/Object")] 113

def k0c0 : Code := { maxStack := 0, maxLocals := 1, code := object_method_1_code, exceptionTable := #[], attributes := #[] }
def k0m0 : Method := { name := "<init>", desc := "()V", sig := { parameters := [], returnType := none }, accessFlags := 1, code := some k0c0 }
/-- java/lang/Object -/
def k0 : Class := { plain "java/lang/Object" none with
  accessFlags := 33
  interfaces := #[]
  cf := some (fileOf pool0 8 #[] #[{ accessFlags := 1, nameIndex := 5, descriptorIndex := 6, attributes := #[] }] 33 0 #[] #[])
  fields := #[]
  methods := #[k0m0]
  instanceTypes := #[]
  staticTypes := #[]
  resolved := Array.replicate 124 none
  statics := none }

def pool1 : Array CpInfo := pool [(2, .class_ 4), (1, u "java/lang/Object"), (0, u "<init>"), (0, u "()V"), (0, .integer 2147483647), (0, .methodref 9 10), (0, .class_ 11), (0, .nameAndType 12 13), (0, u "com/example/holds_for_transducers/holdsfortransducers/TextListAnyHoldsPinLaw"), (0, u "at"), (0, u "([CIIIC)Z"), (0, .class_ 15), (0, u "com/example/holds_for_transducers/holdsfortransducers/TextList"), (0, .methodref 14 17), (0, .nameAndType 5 18), (0, u "([C[I)V"), (0, .methodref 14 20), (0, .nameAndType 21 22), (0, u "anyHolds"), (0, u "(C)Z"), (3, u "law"), (0, u "(JIIII)Z")] 6

def k1m0 : Method := { name := "<init>", desc := "()V", sig := { parameters := [], returnType := none }, accessFlags := 1, code := none }
def k1c1 : Code := { maxStack := 2, maxLocals := 5, code := method_2_code, exceptionTable := #[], attributes := #[] }
def k1m1 : Method := { name := "at", desc := "([CIIIC)Z", sig := { parameters := [(.array .char), .int, .int, .int, .char], returnType := some .boolean }, accessFlags := 10, code := some k1c1 }
def k1c2 : Code := { maxStack := 5, maxLocals := 16, code := code, exceptionTable := #[], attributes := #[] }
def k1m2 : Method := { name := "law", desc := "(JIIII)Z", sig := { parameters := [.long, .int, .int, .int, .int], returnType := some .boolean }, accessFlags := 9, code := some k1c2 }
/-- com/example/holds_for_transducers/holdsfortransducers/TextListAnyHoldsPinLaw -/
def k1 : Class := { plain "com/example/holds_for_transducers/holdsfortransducers/TextListAnyHoldsPinLaw" (some 0) with
  accessFlags := 49
  interfaces := #[]
  cf := some (fileOf pool1 9 #[] #[{ accessFlags := 1, nameIndex := 5, descriptorIndex := 6, attributes := #[] }, { accessFlags := 10, nameIndex := 12, descriptorIndex := 13, attributes := #[] }, { accessFlags := 9, nameIndex := 26, descriptorIndex := 27, attributes := #[] }] 49 2 #[] #[])
  fields := #[]
  methods := #[k1m0, k1m1, k1m2]
  instanceTypes := #[]
  staticTypes := #[]
  resolved := Array.replicate 34 none
  statics := none }

def pool2 : Array CpInfo := pool [(8, .class_ 10), (1, u "java/lang/Iterable"), (24, .class_ 36), (0, u "java/lang/Object")] 25

/-- java/lang/Iterable -/
def k2 : Class := { plain "java/lang/Iterable" (some 0) with
  accessFlags := 1537
  interfaces := #[]
  cf := some (fileOf pool2 8 #[] #[] 1537 35 #[] #[])
  fields := #[]
  methods := #[]
  instanceTypes := #[]
  staticTypes := #[]
  resolved := Array.replicate 62 none
  statics := none }

def pool3 : Array CpInfo := pool [(10, .class_ 12), (1, u "java/util/Collection"), (47, .class_ 61), (0, u "java/lang/Object"), (0, .class_ 63), (0, u "java/lang/Iterable")] 51

/-- java/util/Collection -/
def k3 : Class := { plain "java/util/Collection" (some 0) with
  accessFlags := 1537
  interfaces := #[2]
  cf := some (fileOf pool3 10 #[] #[] 1537 60 #[62] #[])
  fields := #[]
  methods := #[]
  instanceTypes := #[]
  staticTypes := #[]
  resolved := Array.replicate 115 none
  statics := none }

def pool4 : Array CpInfo := pool [(1, .methodref 2 3), (0, .class_ 4), (0, .nameAndType 5 6), (0, u "java/lang/Object"), (0, u "<init>"), (0, u "()V"), (1, .class_ 10), (1, u "java/util/AbstractCollection"), (66, .class_ 78), (0, u "java/util/Collection")] 81

def k4c0 : Code := { maxStack := 1, maxLocals := 1, code := jdk_22_method_1_code, exceptionTable := #[], attributes := #[] }
def k4m0 : Method := { name := "<init>", desc := "()V", sig := { parameters := [], returnType := none }, accessFlags := 4, code := some k4c0 }
/-- java/util/AbstractCollection -/
def k4 : Class := { plain "java/util/AbstractCollection" (some 0) with
  accessFlags := 1057
  interfaces := #[3]
  cf := some (fileOf pool4 8 #[] #[{ accessFlags := 4, nameIndex := 5, descriptorIndex := 6, attributes := #[] }] 1057 2 #[77] #[])
  fields := #[]
  methods := #[k4m0]
  instanceTypes := #[]
  staticTypes := #[]
  resolved := Array.replicate 160 none
  statics := none }

def pool5 : Array CpInfo := pool [(8, .class_ 10), (1, u "java/util/SequencedCollection"), (15, .class_ 27), (0, u "java/lang/Object"), (0, .class_ 29), (0, u "java/util/Collection")] 27

/-- java/util/SequencedCollection -/
def k5 : Class := { plain "java/util/SequencedCollection" (some 0) with
  accessFlags := 1537
  interfaces := #[3]
  cf := some (fileOf pool5 8 #[] #[] 1537 26 #[28] #[])
  fields := #[]
  methods := #[]
  instanceTypes := #[]
  staticTypes := #[]
  resolved := Array.replicate 57 none
  statics := none }

def pool6 : Array CpInfo := pool [(8, .class_ 10), (1, u "java/util/List"), (92, .class_ 104), (0, u "java/lang/Object"), (15, .class_ 121), (0, u "java/util/SequencedCollection")] 129

/-- java/util/List -/
def k6 : Class := { plain "java/util/List" (some 0) with
  accessFlags := 1537
  interfaces := #[5]
  cf := some (fileOf pool6 8 #[] #[] 1537 103 #[120] #[])
  fields := #[]
  methods := #[]
  instanceTypes := #[]
  staticTypes := #[]
  resolved := Array.replicate 251 none
  statics := none }

def pool7 : Array CpInfo := pool [(1, .methodref 2 3), (0, .class_ 4), (0, .nameAndType 5 6), (0, u "java/util/AbstractCollection"), (0, u "<init>"), (0, u "()V"), (0, .fieldref 8 9), (0, .class_ 10), (0, .nameAndType 11 12), (0, u "java/util/AbstractList"), (0, u "modCount"), (0, u "I"), (64, .class_ 78), (0, u "java/util/AbstractList$Itr"), (3, .class_ 83), (0, u "java/util/AbstractList$ListItr"), (9, .class_ 94), (0, u "java/util/AbstractList$RandomAccessSubList"), (3, .class_ 99), (0, u "java/util/AbstractList$SubList"), (33, .class_ 134), (0, u "java/util/List"), (73, .class_ 209), (0, u "java/util/AbstractList$SubList$1"), (0, .class_ 211), (0, u "java/util/AbstractList$RandomAccessSpliterator")] 6

def k7c0 : Code := { maxStack := 2, maxLocals := 1, code := jdk_39_method_1_code, exceptionTable := #[], attributes := #[] }
def k7m0 : Method := { name := "<init>", desc := "()V", sig := { parameters := [], returnType := none }, accessFlags := 4, code := some k7c0 }
/-- java/util/AbstractList -/
def k7 : Class := { plain "java/util/AbstractList" (some 4) with
  accessFlags := 1057
  interfaces := #[6]
  cf := some (fileOf pool7 8 #[.nestMembers #[93, 98, 208, 210, 82, 77]] #[{ accessFlags := 4, nameIndex := 5, descriptorIndex := 6, attributes := #[] }] 1057 2 #[133] #[{ accessFlags := 132, nameIndex := 11, descriptorIndex := 12, attributes := #[] }])
  fields := #[{ name := "modCount", type := .int, accessFlags := 132, slot := 0, constantValue := 0 }]
  methods := #[k7m0]
  instanceTypes := #[.int]
  staticTypes := #[]
  resolved := Array.replicate 218 none
  statics := none }

def pool8 : Array CpInfo := pool [(1, .class_ 2), (0, u "java/util/RandomAccess"), (0, .class_ 4), (0, u "java/lang/Object")] 2

/-- java/util/RandomAccess -/
def k8 : Class := { plain "java/util/RandomAccess" (some 0) with
  accessFlags := 1537
  interfaces := #[]
  cf := some (fileOf pool8 1 #[] #[] 1537 3 #[] #[])
  fields := #[]
  methods := #[]
  instanceTypes := #[]
  staticTypes := #[]
  resolved := Array.replicate 7 none
  statics := none }

def pool9 : Array CpInfo := pool [(1, .methodref 2 3), (0, .class_ 4), (0, .nameAndType 5 6), (0, u "java/util/AbstractList"), (0, u "<init>"), (0, u "()V"), (0, .fieldref 8 9), (0, .class_ 10), (0, .nameAndType 11 12), (0, u "com/example/holds_for_transducers/holdsfortransducers/TextList"), (0, u "characters"), (0, u "[C"), (0, .fieldref 8 14), (0, .nameAndType 15 16), (0, u "bounds"), (0, u "[I"), (13, u "([C[I)V"), (21, .class_ 53), (0, u "java/util/RandomAccess"), (3, u "anyHolds"), (0, u "(C)Z")] 13

def k9c0 : Code := { maxStack := 2, maxLocals := 3, code := prog_112_method_1_code, exceptionTable := #[], attributes := #[] }
def k9m0 : Method := { name := "<init>", desc := "([C[I)V", sig := { parameters := [(.array .char), (.array .int)], returnType := none }, accessFlags := 0, code := some k9c0 }
def k9c1 : Code := { maxStack := 4, maxLocals := 4, code := prog_112_method_4_code, exceptionTable := #[], attributes := #[] }
def k9m1 : Method := { name := "anyHolds", desc := "(C)Z", sig := { parameters := [.char], returnType := some .boolean }, accessFlags := 0, code := some k9c1 }
/-- com/example/holds_for_transducers/holdsfortransducers/TextList -/
def k9 : Class := { plain "com/example/holds_for_transducers/holdsfortransducers/TextList" (some 7) with
  accessFlags := 48
  interfaces := #[8]
  cf := some (fileOf pool9 8 #[] #[{ accessFlags := 0, nameIndex := 5, descriptorIndex := 30, attributes := #[] }, { accessFlags := 0, nameIndex := 57, descriptorIndex := 58, attributes := #[] }] 48 2 #[52] #[{ accessFlags := 18, nameIndex := 11, descriptorIndex := 12, attributes := #[] }, { accessFlags := 18, nameIndex := 15, descriptorIndex := 16, attributes := #[] }])
  fields := #[{ name := "characters", type := (.array .char), accessFlags := 18, slot := 1, constantValue := 0 }, { name := "bounds", type := (.array .int), accessFlags := 18, slot := 2, constantValue := 0 }]
  methods := #[k9m0, k9m1]
  instanceTypes := #[.int, (.array .char), (.array .int)]
  staticTypes := #[]
  resolved := Array.replicate 72 none
  statics := none }

def pool10 : Array CpInfo := pool [(1, u "java/lang/Cloneable"), (0, .class_ 1), (0, u "java/lang/Object"), (0, .class_ 3)] 3

/-- java/lang/Cloneable -/
def k10 : Class := { plain "java/lang/Cloneable" (some 0) with
  accessFlags := 1537
  interfaces := #[]
  cf := some (fileOf pool10 2 #[] #[] 1537 4 #[] #[])
  fields := #[]
  methods := #[]
  instanceTypes := #[]
  staticTypes := #[]
  resolved := Array.replicate 8 none
  statics := none }

def pool11 : Array CpInfo := pool [(1, u "java/io/Serializable"), (0, .class_ 1), (0, u "java/lang/Object"), (0, .class_ 3)] 3

/-- java/io/Serializable -/
def k11 : Class := { plain "java/io/Serializable" (some 0) with
  accessFlags := 1537
  interfaces := #[]
  cf := some (fileOf pool11 2 #[] #[] 1537 4 #[] #[])
  fields := #[]
  methods := #[]
  instanceTypes := #[]
  staticTypes := #[]
  resolved := Array.replicate 8 none
  statics := none }

/-- the primitive byte -/
def k12 : Class := { plain "byte" none with kind := .primitive 'B', accessFlags := 0x411 }
/-- [B -/
def k13 : Class := { plain "[B" (some 0) with kind := .array 12 .byte, interfaces := #[10, 11], accessFlags := 1041 }

/-- the primitive char -/
def k14 : Class := { plain "char" none with kind := .primitive 'C', accessFlags := 0x411 }
/-- [C -/
def k15 : Class := { plain "[C" (some 0) with kind := .array 14 .char, interfaces := #[10, 11], accessFlags := 1041 }

/-- the primitive int -/
def k16 : Class := { plain "int" none with kind := .primitive 'I', accessFlags := 0x411 }
/-- [I -/
def k17 : Class := { plain "[I" (some 0) with kind := .array 16 .int, interfaces := #[10, 11], accessFlags := 1041 }

def heap : Heap := #[]
def classes : Array Class := #[k0, k1, k2, k3, k4, k5, k6, k7, k8, k9, k10, k11, k12, k13, k14, k15, k16, k17]
def interned : List (Array UInt16 × Addr) := []
def slotsUsed : Nat := 0
def theMethod : MethodId := ⟨1, 2⟩
def args0 : Array Value := #[.long 5, .int 2, .int 3, .int 4, .int 5]
def aboutOver (below : List Frame) : State where
  vm := { classes := classes, interned := interned.toArray }
  heap := heap
  slotsUsed := slotsUsed
  threads := #[{ frames := .invoking theMethod args0 :: below }]
def below0 : List Frame := [.native { method := ⟨0, 0⟩, args := #[] }]
def about1 : State := aboutOver below0
def p0 : Program := .bare "" "" ""
def e0 : Env := launch0.env 0 0 0
theorem w_frames : about1.frames = Frame.invoking theMethod args0 :: below0 := rfl
set_option maxRecDepth 65536 in
theorem w_args : argsFit about1.vm theMethod args0 = true := by decide +kernel
set_option maxRecDepth 65536 in
theorem w_heap : heapFits about1 = true := by decide +kernel
set_option maxRecDepth 65536 in
theorem w_runnable : about1.curStatus? = some .runnable := by decide +kernel
set_option maxRecDepth 65536 in
theorem w_alone : about1.alone = true := by decide +kernel
set_option maxRecDepth 65536 in
theorem w_named : about1.methodNamed? x = some theMethod := by decide +kernel
set_option maxRecDepth 65536 in
theorem w_hears : about1.hears theMethod below0 = true := by decide +kernel
set_option maxRecDepth 65536 in
theorem w_ripe : about1.ripe theMethod args0 below0 = true := by decide +kernel
theorem w_running : about1.status = .running := rfl
set_option maxRecDepth 65536 in
theorem w_room : about1.hasRoom e0.platform room_1 = true :=
  launch0.hasRoom_least _ room_1 (by decide +kernel) (by decide +kernel) (by decide +kernel) (by decide +kernel) (by decide +kernel) (by decide +kernel)
theorem allAtoms_all (ts : List Jvm.Cond) (a : Array Jvm.Value) (st : Jvm.State) : (allAtoms ts).before a st = ts.all (fun c => c.before a st) := by
  induction ts with
  | nil => rfl
  | cons c t ih =>
    show (Jvm.Cond.and c (allAtoms t)).before a st = _
    rw [Jvm.Cond.before_and, ih, List.all_cons]
def words1 : List Jvm.Cond := Jvm.Cond.code x code maxLocals ret :: tables_1
/-- a 'code' word, met by the world's own term for the bytes: nothing is compared byte by byte -/
theorem code_word {y : MethodName} {bytes : ByteArray} {mx : Nat} {rt : Option FieldType} {a : Array Value} {s : State} {m : MethodId} {meth : Method} {c : Code} (h1 : s.methodNamed? y = some m) (h2 : s.vm.method? m = some meth) (h3 : meth.code = some c) (h4 : c.code = bytes)
    (h5 : (c.maxLocals == mx && c.exceptionTable.isEmpty && decide (c.maxStack ≤ mostOperands) && decide (meth.sig.returnType = rt) && !meth.locks && decide (parseMethodDescriptor y.desc = some meth.sig)) = true) : (Jvm.Cond.code y bytes mx rt).before a s = true := by
  simp only [Bool.and_eq_true, beq_iff_eq, Bool.not_eq_true', decide_eq_true_eq] at h5
  obtain ⟨⟨⟨⟨⟨g1, g2⟩, g3⟩, g4⟩, g5⟩, g6⟩ := h5
  simp [Cond.before, Cond.holds, Cond.value, h1, h2, h3, h4, g1, g2, g3, g4, g5, g6]
def isCode : Jvm.Cond → Bool
  | .code _ _ _ _ => true
  | _ => false
theorem all_split {L : List Jvm.Cond} {P : Jvm.Cond → Bool} (h1 : L.all (fun c => isCode c || P c) = true) (h2 : ∀ c ∈ L.filter isCode, P c = true) : L.all P = true := by
  refine List.all_eq_true.mpr fun c hc => ?_
  have h := List.all_eq_true.mp h1 c hc
  rcases Bool.eq_false_or_eq_true (isCode c) with hi | hi
  · exact h2 c (List.mem_filter.mpr ⟨hc, hi⟩)
  · simpa [hi] using h
set_option maxRecDepth 65536 in
theorem w_c0 : (Jvm.Cond.code x code maxLocals ret).before args0 about1 = true := code_word (m := ⟨1, 2⟩) (meth := k1m2) (c := k1c2) (by decide +kernel) rfl rfl rfl (by decide +kernel)
set_option maxRecDepth 65536 in
theorem w_c1 : (Jvm.Cond.code ({ cls := "com/example/holds_for_transducers/holdsfortransducers/TextListAnyHoldsPinLaw", name := "at", desc := "([CIIIC)Z" } : Jvm.MethodName) method_2_code (5 : Nat) (Option.some Jvm.ClassFile.FieldType.boolean)).before args0 about1 = true := code_word (m := ⟨1, 1⟩) (meth := k1m1) (c := k1c1) (by decide +kernel) rfl rfl rfl (by decide +kernel)
set_option maxRecDepth 65536 in
theorem w_c2 : (Jvm.Cond.code ({ cls := "com/example/holds_for_transducers/holdsfortransducers/TextList", name := "<init>", desc := "([C[I)V" } : Jvm.MethodName) prog_112_method_1_code (3 : Nat) (Option.none : Option Jvm.ClassFile.FieldType)).before args0 about1 = true := code_word (m := ⟨9, 0⟩) (meth := k9m0) (c := k9c0) (by decide +kernel) rfl rfl rfl (by decide +kernel)
set_option maxRecDepth 65536 in
theorem w_c3 : (Jvm.Cond.code ({ cls := "java/util/AbstractList", name := "<init>", desc := "()V" } : Jvm.MethodName) jdk_39_method_1_code (1 : Nat) (Option.none : Option Jvm.ClassFile.FieldType)).before args0 about1 = true := code_word (m := ⟨7, 0⟩) (meth := k7m0) (c := k7c0) (by decide +kernel) rfl rfl rfl (by decide +kernel)
set_option maxRecDepth 65536 in
theorem w_c4 : (Jvm.Cond.code ({ cls := "java/util/AbstractCollection", name := "<init>", desc := "()V" } : Jvm.MethodName) jdk_22_method_1_code (1 : Nat) (Option.none : Option Jvm.ClassFile.FieldType)).before args0 about1 = true := code_word (m := ⟨4, 0⟩) (meth := k4m0) (c := k4c0) (by decide +kernel) rfl rfl rfl (by decide +kernel)
set_option maxRecDepth 65536 in
theorem w_c5 : (Jvm.Cond.code ({ cls := "java/lang/Object", name := "<init>", desc := "()V" } : Jvm.MethodName) object_method_1_code (1 : Nat) (Option.none : Option Jvm.ClassFile.FieldType)).before args0 about1 = true := code_word (m := ⟨0, 0⟩) (meth := k0m0) (c := k0c0) (by decide +kernel) rfl rfl rfl (by decide +kernel)
set_option maxRecDepth 65536 in
theorem w_c6 : (Jvm.Cond.code ({ cls := "com/example/holds_for_transducers/holdsfortransducers/TextList", name := "anyHolds", desc := "(C)Z" } : Jvm.MethodName) prog_112_method_4_code (4 : Nat) (Option.some Jvm.ClassFile.FieldType.boolean)).before args0 about1 = true := code_word (m := ⟨9, 1⟩) (meth := k9m1) (c := k9c1) (by decide +kernel) rfl rfl rfl (by decide +kernel)
def codes1 : List Jvm.Cond := [Jvm.Cond.code x code maxLocals ret, Jvm.Cond.code ({ cls := "com/example/holds_for_transducers/holdsfortransducers/TextListAnyHoldsPinLaw", name := "at", desc := "([CIIIC)Z" } : Jvm.MethodName) method_2_code (5 : Nat) (Option.some Jvm.ClassFile.FieldType.boolean), Jvm.Cond.code ({ cls := "com/example/holds_for_transducers/holdsfortransducers/TextList", name := "<init>", desc := "([C[I)V" } : Jvm.MethodName) prog_112_method_1_code (3 : Nat) (Option.none : Option Jvm.ClassFile.FieldType), Jvm.Cond.code ({ cls := "java/util/AbstractList", name := "<init>", desc := "()V" } : Jvm.MethodName) jdk_39_method_1_code (1 : Nat) (Option.none : Option Jvm.ClassFile.FieldType), Jvm.Cond.code ({ cls := "java/util/AbstractCollection", name := "<init>", desc := "()V" } : Jvm.MethodName) jdk_22_method_1_code (1 : Nat) (Option.none : Option Jvm.ClassFile.FieldType), Jvm.Cond.code ({ cls := "java/lang/Object", name := "<init>", desc := "()V" } : Jvm.MethodName) object_method_1_code (1 : Nat) (Option.none : Option Jvm.ClassFile.FieldType), Jvm.Cond.code ({ cls := "com/example/holds_for_transducers/holdsfortransducers/TextList", name := "anyHolds", desc := "(C)Z" } : Jvm.MethodName) prog_112_method_4_code (4 : Nat) (Option.some Jvm.ClassFile.FieldType.boolean)]
set_option maxRecDepth 65536 in
theorem codes_eq : words1.filter isCode = codes1 := rfl
theorem w_codes : ∀ c ∈ words1.filter isCode, c.before args0 about1 = true := by
  rw [codes_eq]
  intro c hc
  simp only [codes1, List.mem_cons, List.not_mem_nil, or_false] at hc
  rcases hc with rfl | rfl | rfl | rfl | rfl | rfl | rfl
  · exact w_c0
  · exact w_c1
  · exact w_c2
  · exact w_c3
  · exact w_c4
  · exact w_c5
  · exact w_c6
set_option maxRecDepth 65536 in
theorem w_t1 : (words1.take 24).all (fun c => isCode c || c.before args0 about1) = true := by decide +kernel
set_option maxRecDepth 65536 in
theorem w_t2 : (words1.drop 24).all (fun c => isCode c || c.before args0 about1) = true := by decide +kernel
theorem w_tables : (allAtoms (Jvm.Cond.code x code maxLocals ret :: tables_1)).before args0 about1 = true := by
  rw [allAtoms_all]
  show words1.all (fun c => c.before args0 about1) = true
  refine all_split ?_ w_codes
  rw [← List.take_append_drop 24 words1, List.all_append, w_t1, w_t2]
  rfl
set_option maxRecDepth 65536 in
theorem w_case : (Jvm.Cond.and given_1 narrow_1).before args0 about1 = true := by decide +kernel
theorem w_applies : (headSpec (Jvm.Cond.code x code maxLocals ret :: tables_1) room_1).applies x e0.platform about1 = true :=
  (Spec.applies_iff w_frames).mpr ⟨w_running, w_runnable, w_alone, w_named, w_hears, w_ripe, w_room, w_tables⟩
theorem atStart : AtStart classFile x code maxLocals ret World_1 tables_1 room_1 Calls_1 rest_1 Pre_1 launch0 p0 e0 about1 theMethod args0 below0 :=
  ⟨lists_1, trivial, launch0.admits_env _ _ _, launch0.least_env, fairChoices_fair.cas, fairChoices_fair.clock, w_frames, w_args, w_heap, w_applies, trivial, trivial, w_case⟩
end start1
theorem witness_1 : WitnessClaimed_1 := ⟨start1.p0, start1.e0, start1.about1, start1.theMethod, start1.args0, start1.below0, start1.atStart⟩
end Jvm.Pilot.@@N@@
