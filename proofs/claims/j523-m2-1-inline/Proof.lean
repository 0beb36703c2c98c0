import JvmDerived
import JvmDerived.Pilot.@@N@@Statement
import JvmDerived.Pilot.@@N@@Code
set_option linter.unusedVariables false
set_option linter.unusedSimpArgs false
namespace Jvm.RoadKit
open Sem ClassFile Op Lib Jvm.Stand Jvm.Free Jvm.LawKit
section New
variable {p : Program} {l : Launch} {e : Env} {R : Room} {s : State} {m : MethodId} {args : Array Value} {below : List Frame} {meth : Method} {c : Code} {T : State} {locs : List Loc} {cells slots : Nat}
theorem retI (X : Stand p l e R s m args below meth c T locs cells slots) (hx : p.tables.exec = Jvm.exec) {pc : Nat} {Ls : Array Slot} {z : Int32} {rest : List Value} (hret : meth.sig.returnType = some .int) (hd : decode c.code pc = .ok (.ireturn, 1)) {fs : List Frame}
    (hl : ∀ (f : JFrame) (acts : List Action), f.method = m → f.locked = none → f.entered = [] → (doReturn e (T.setTop f) acts (some (.int z))).1 = T.setFrames fs) : Steps p.tables e below (T.setTop (mkF m pc Ls (.int z :: rest))) (T.setFrames fs) := by
  have hm' : T.vm.method? m = some meth := X.method'
  have hn : narrow .int (.int z) = .int z := rfl
  show Steps p.tables e below (T.setTop { method := m, pc := pc, locals := Ls, stack := _ :: rest, locked := none }) _
  jvm_step X.here [X.here.top, hx, hd, hm', hret, hn]
  first | (intro acts; rw [hl _ acts rfl rfl rfl]) | rw [hl _ _ rfl rfl rfl]
  exact Steps.refl _
end New
end Jvm.RoadKit
namespace Jvm.Pilot.@@N@@
open Jvm Jvm.ClassFile Sem Op Lib Jvm.Free Jvm.Stand Jvm.LawKit Jvm.RoadKit Bundle Jvm.Pilot.@@N@@.Jvm.D
theorem own_eqI {t : Term} {n : Int32} {args : Array Value} {s : State} (h : (Jvm.Cond.eq t (.int n)).value args s none s [] = some true) : t.eval args s none [] s = some (.int n) := by
  simp only [Cond.value, Term.eval] at h
  cases ht : t.eval args s none [] s with
  | none => simp [ht] at h
  | some x => cases x <;> simp [ht] at h ⊢; exact h
theorem own_eqJ {t : Term} {n : Int64} {args : Array Value} {s : State} (h : (Jvm.Cond.eq t (.long n)).value args s none s [] = some true) : t.eval args s none [] s = some (.long n) := by
  simp only [Cond.value, Term.eval] at h
  cases ht : t.eval args s none [] s with
  | none => simp [ht] at h
  | some x => cases x <;> simp [ht] at h ⊢; exact h
theorem own_eqR {t u : Term} {a : Addr} {args : Array Value} {s : State} (h : (Jvm.Cond.eq t u).value args s none s [] = some true) (hu : u.eval args s none [] s = some (.ref a)) : t.eval args s none [] s = some (.ref a) := by
  simp only [Cond.value, hu] at h
  cases ht : t.eval args s none [] s with
  | none => simp [ht] at h
  | some x => cases x <;> simp [ht] at h ⊢; exact h
theorem own_len {t : Term} {w : Addr} {c : Cell} {ty : FieldType} {n : Int32} {args : Array Value} {s : State} (ev : t.eval args s none [] s = some (.ref w)) (A : Arr s s.heap w c ty) (h : (Term.length t).eval args s none [] s = some (.int n)) (hn : ¬ n < 0) : c.slots.size = n.toNatClampNeg := by
  simp only [Term.eval, ev, A.fin (Vm.Alike.refl _), Option.bind_eq_bind, Option.bind_some] at h
  split at h
  · rename_i hl
    have q : c.slots.size.toInt32 = n := by simpa using h
    rw [← q]
    have q2 : c.slots.size.toInt32.toInt = (c.slots.size : Int) := len_toInt hl
    have q3 := nat_of (j := c.slots.size.toInt32) (by rw [q]; exact hn)
    omega
  · simp at h
theorem own_extW {Z : State} {h h' : Heap} {a : Addr} {sl : Nat} {v : Value} (X : Ext Z.heap h) (W : Wr h h' a sl v) (q : Z.heap.size ≤ a) : Ext Z.heap h' := (Old.wr (Z := Z) ⟨rfl, X⟩ W q).2
theorem own_ext2 {h h' h'' : Heap} (X : Ext h h') (E : Ext h' h'') : Ext h h'' := ⟨Nat.le_trans X.1 E.1, fun x c q => E.2 x c (X.2 x c q)⟩
theorem own_extK {Z : State} {h h' : Heap} {ws : List Addr} (X : Ext Z.heap h) (K : Keep h h' ws) (q : ∀ x ∈ ws, Z.heap.size ≤ x) : Ext Z.heap h' := (Old.keep (Z := Z) ⟨rfl, X⟩ K q).2
theorem own_neI {t : Term} {n x : Int32} {args : Array Value} {s : State} (h : (Jvm.Cond.eq t (.int n)).value args s none s [] = some (!true)) (ev : t.eval args s none [] s = some (.int x)) : ¬ (x = n) := by
  intro q
  subst q
  simp [Cond.value, Term.eval, ev] at h
theorem own_nsRoot {Z : State} {a0 : Array Value} {O K : String} {n : Nat} (w : (Jvm.Cond.noSuperclass O).before a0 Z = true) (wk : (Jvm.Cond.instantiable K n).before a0 Z = true) (hn : O ≠ K) : NS Z O K := by
  obtain ⟨c, k, h1, h2, h3, -, -⟩ := Cond.noSuperclass_spec w
  obtain ⟨t, k', g1, -⟩ := Cond.instantiable_spec wk
  have ne := ids_ne h1 g1 hn
  refine ⟨c, t, h1, g1, fun fuel => ?_⟩
  cases fuel with
  | zero => rfl
  | succ f => simp [Vm.isSubclassAux, ne, h2, h3]
theorem own_nsNo {Z : State} {a0 : Array Value} {C S K : String} {n : Nat} (w : (Jvm.Cond.superclass C S).before a0 Z = true) (wk : (Jvm.Cond.instantiable K n).before a0 Z = true) (N : NS Z C K) (hn : C ≠ K) : ∃ c t, Z.vm.findClass C = some c ∧ Z.vm.findClass K = some t ∧ Z.vm.assignable c t = false := by
  obtain ⟨c, t, h0, g0, n3⟩ := N
  obtain ⟨p, k, kp, h1, h2, h3, h4, h5, -, h7⟩ := Cond.superclass_spec h0 w
  obtain ⟨q, k', g1, g2, g5, g7, -, -⟩ := Cond.instantiable_spec wk
  cases g0.symm.trans g1
  have ne := ids_ne h0 g0 hn
  have gi : k'.isInterface = false := by cases hi : k'.isInterface <;> simp [hi] at g7 ⊢
  refine ⟨c, t, h0, g0, ?_⟩
  show Z.vm.assignableAux (255 + 1) c t = false
  simp [Vm.assignableAux, ne, h2, g2, h5, g5, gi, Vm.isSubclass, n3]
theorem own_nb (x : Int32) : nar .byte (x.toInt8.toInt32) = x.toInt8.toInt32 := by simp [nar]
set_option maxRecDepth 65536
set_option maxHeartbeats 40000000
abbrev own_HW (Z : State) (a0 : Array Value) : Prop := ∀ d ∈ tables_1, d.before a0 Z = true
abbrev own_S (p : Program) (e : Env) (below : List Frame) (T : State) (g : JFrame) (t : State) : Prop := Steps p.tables e below (T.setTop g) t
theorem own_w {Z : State} {a0 : Array Value} (hw : ∀ d ∈ tables_1, d.before a0 Z = true) {d : Jvm.Cond} (i : Nat) (h : tables_1[i]? = some d) : d.before a0 Z = true := hw _ (List.mem_of_getElem? h)
/-- a body's contract: what it returns and leaves -/
abbrev own_met (l : Launch) (y : MethodName) (b : ByteArray) (ml : Nat) (rt : Option FieldType) (ws : List Jvm.Cond) (R : Room) (Z : State) (A : Array Value) (h0 : Heap) (Q : Option Value → Heap → List Loc → Prop) : Prop :=
  MetFree l y (head1 (Jvm.Cond.code y b ml rt :: ws) R) (fun a U => a = A ∧ Z.Warmed39 U.vm ∧ U.heap = h0) (fun _ _ _ _ _ => True) (fun _ U o U' => ∃ v L, o = .returned v ∧ Q v U'.heap L ∧ FrameEnd U o U' L R.cells R.slots)
theorem own_start {l : Launch} {y : MethodName} {b : ByteArray} {ml : Nat} {rt : Option FieldType} {ws : List Jvm.Cond} {R : Room} {Z : State} {A : Array Value} {h0 : Heap} {Q : Option Value → Heap → List Loc → Prop} {Ls : Array Slot}
    (hpl : plainFor y = true) (hef : ∀ m, entryFrame m A ml = mkF m 0 Ls [])
    (body : ∀ p e s m below meth c s₁, p.tables.exec = Jvm.exec → c.code = b → c.maxLocals = ml → s.vm.findClass y.cls = some m.cls → meth.name = y.name → Stand p l e R s m A below meth c s₁ [] 0 0 → Z.Warmed39 s.vm → s₁.heap = h0 → meth.sig.returnType = rt → meth.locks = false →
      ∃ s₂ o, Steps p.tables e below (s₁.setTop (mkF m 0 Ls [])) s₂ ∧ s₂.status = .running ∧ Ended s₂ below o ∧ ∃ v L, o = .returned v ∧ Q v s₂.heap L ∧ FrameEnd s o s₂ L R.cells R.slots) : own_met l y b ml rt ws R Z A h0 Q := by
  refine MetFree.of_bodySF hpl hisR ?_
  intro p e s m args below meth c s₁ Bd hml0 hP hK
  obtain ⟨rfl, hZ, hh⟩ := hP
  obtain ⟨s₂, o, k, r⟩ := body p e s m below meth c s₁ Bd.exec Bd.bytes hml0 (findClass_of_methodNamed Bd.named) (name_of_methodNamed Bd.named Bd.method).1 (Stand.of_body Bd) hZ (by rw [← hh, Bd.state]; rfl) Bd.returns Bd.notSynchronized
  exact ⟨s₂, o, castTop (hef m) k, r⟩
section OwnCalls
variable {p : Program} {l : Launch} {e : Env} {R : Room} {s : State} {m : MethodId} {args : Array Value} {below : List Frame} {meth : Method} {c : Code} {T : State} {locs : List Loc} {cells slots : Nat} {Z : State} {a0 : Array Value} {h : Heap} {own : String} {index : Nat} {y z : MethodName} {b : ByteArray} {ml : Nat} {rt : Option FieldType} {rm : Room} {as' : Array Value} {Q : Option Value → Heap → List Loc → Prop} {W : Nat} {g : JFrame} {argsL rest : List Value}
theorem own_static (X : Stand p l e R s m args below meth c T locs cells slots) (hx : p.tables.exec = Jvm.exec) (hZ : Z.Warmed39 s.vm) (hown : s.vm.findClass own = some m.cls) (w1 : (Jvm.Cond.methodLink own index y).before a0 Z = true) (w2 : (Jvm.Cond.static y).before a0 Z = true) (w3 : (Jvm.Cond.initialized y.cls).before a0 Z = true) (w4 : (Jvm.Cond.code y b ml rt).before a0 Z = true)
    (hM : own_met l y b ml rt [] rm Z as' h Q) (eT : T.heap = h) (hlen : ∀ sig, parseMethodDescriptor y.desc = some sig → argsL.length = sig.parameters.length)     (hd : decode c.code g.pc = .ok (.invokestatic index, 3)) {ML : Nat} (hml : c.maxLocals = ML) (hy : y.cls ≠ "java/lang/invoke/MethodHandle" ∧ y.cls ≠ "java/lang/invoke/VarHandle" := by decide) (hf : rm.frames + 1 ≤ R.frames := by decide) (hl : W + (ml + 11) + rm.locals ≤ R.locals := by decide) (hg : g.method = m := by rfl) (hsz : g.locals.size = ML := by rfl) (ha : argsL.toArray = as' := by rfl) (hs : g.stack = argsL.reverse ++ rest := by rfl) (hW : 2 * g.monitorRoom + (rest.map fun v => v.category).sum ≤ W := by (show 2 * 0 + _ ≤ _; exact Nat.le_of_eq rfl)) (hc : cells + rm.cells ≤ R.cells := by decide) (hsl : slots + rm.slots ≤ R.slots := by decide) :
    ∃ v T' L, Stand p l e R s m args below meth c T' (locs ++ L) (cells + rm.cells) (slots + rm.slots) ∧ Q v T'.heap L ∧ ∀ target, Steps p.tables e below (T'.setTop { g with pc := g.pc + 3, stack := v.toList ++ rest }) target → Steps p.tables e below (T.setTop g) target := by
  obtain ⟨v, _, ⟨T', L', k', n'⟩, -, X', ⟨Lc, hQ, l1, y1, z1⟩, st⟩ := Jvm.LawKit.callS X hx (y := y) hown (mvT hZ w1) (mvT hZ w2) (mvT hZ w3) (mvT hZ w4) hy (backOf (W := W) hM hZ w4 w3 hf hl) (g := g) hg (hsz.trans hml.symm) (argsL := argsL) (rest := rest) hlen hs hW hd (fun _ _ => ⟨ha, eT, hc, hsl⟩)
  dsimp only [Pt.U, Pt.locs, Pt.cells, Pt.slots] at X' l1 y1 z1 st hQ
  subst l1 y1 z1
  exact ⟨v, T', Lc, X', hQ, st⟩
theorem own_special (X : Stand p l e R s m args below meth c T locs cells slots) (hx : p.tables.exec = Jvm.exec) (hZ : Z.Warmed39 s.vm) (hown : s.vm.findClass own = some m.cls) (hn : y.name = "<init>") (w1 : (Jvm.Cond.methodLink own index y).before a0 Z = true) (w2 : (Jvm.Cond.instanceMethod y).before a0 Z = true) (w3 : (Jvm.Cond.initialized y.cls).before a0 Z = true) (w4 : (Jvm.Cond.code y b ml none).before a0 Z = true)
    (hM : own_met l y b ml none [] rm Z as' h Q) (eT : T.heap = h) (a : Addr) (hlen : ∀ sig, parseMethodDescriptor y.desc = some sig → argsL.length = sig.parameters.length)     (hd : decode c.code g.pc = .ok (.invokespecial index, 3)) {ML : Nat} (hml : c.maxLocals = ML) (hy : y.cls ≠ "java/lang/invoke/MethodHandle" ∧ y.cls ≠ "java/lang/invoke/VarHandle" := by decide) (hf : rm.frames + 1 ≤ R.frames := by decide) (hl : W + (ml + 11) + rm.locals ≤ R.locals := by decide) (hg : g.method = m := by rfl) (hsz : g.locals.size = ML := by rfl) (ha : (Value.ref a :: argsL).toArray = as' := by rfl) (hs : g.stack = argsL.reverse ++ .ref a :: rest := by rfl) (hW : 2 * g.monitorRoom + (rest.map fun v => v.category).sum ≤ W := by (show 2 * 0 + _ ≤ _; exact Nat.le_of_eq rfl)) (hc : cells + rm.cells ≤ R.cells := by decide) (hsl : slots + rm.slots ≤ R.slots := by decide) :
    ∃ v T' L, Stand p l e R s m args below meth c T' (locs ++ L) (cells + rm.cells) (slots + rm.slots) ∧ Q v T'.heap L ∧ ∀ target, Steps p.tables e below (T'.setTop { g with pc := g.pc + 3, stack := v.toList ++ rest }) target → Steps p.tables e below (T.setTop g) target := by
  obtain ⟨v, _, ⟨T', L', k', n'⟩, -, X', ⟨Lc, hQ, l1, y1, z1⟩, st⟩ := X.specialBack hx (y := y) hn hown (mvT hZ w1) (mvT hZ w2) (mvT hZ w4) hy (backOf (W := W) hM hZ w4 w3 hf hl) (g := g) hg (hsz.trans hml.symm) (Steps.refl _) (a := a) (argsL := argsL) (rest := rest) hlen hs hW hd (fun _ _ => ⟨ha, eT, hc, hsl⟩)
  dsimp only [Pt.U, Pt.locs, Pt.cells, Pt.slots] at X' l1 y1 z1 st hQ
  subst l1 y1 z1
  exact ⟨v, T', Lc, X', hQ, fun _ k => st.trans k⟩
theorem own_virtual (X : Stand p l e R s m args below meth c T locs cells slots) (hx : p.tables.exec = Jvm.exec) (hZ : Z.Warmed39 s.vm) (hown : s.vm.findClass own = some m.cls) {C : String} (w1 : (Jvm.Cond.methodLink own index y).before a0 Z = true) (w5 : (Jvm.Cond.declares y).before a0 Z = true) (w6 : (Jvm.Cond.selects C y y).before a0 Z = true) (w2 : (Jvm.Cond.instanceMethod y).before a0 Z = true) (w3 : (Jvm.Cond.initialized y.cls).before a0 Z = true) (w4 : (Jvm.Cond.code y b ml rt).before a0 Z = true)
    (hM : own_met l y b ml rt [] rm Z as' h Q) (eT : T.heap = h) {a : Addr} (E : Exa Z h a C) (hlen : ∀ sig, parseMethodDescriptor y.desc = some sig → argsL.length = sig.parameters.length)     (hd : decode c.code g.pc = .ok (.invokevirtual index, 3)) {ML : Nat} (hml : c.maxLocals = ML) (hy : y.cls ≠ "java/lang/invoke/MethodHandle" ∧ y.cls ≠ "java/lang/invoke/VarHandle" := by decide) (hf : rm.frames + 1 ≤ R.frames := by decide) (hl : W + (ml + 11) + rm.locals ≤ R.locals := by decide) (hg : g.method = m := by rfl) (hsz : g.locals.size = ML := by rfl) (ha : (Value.ref a :: argsL).toArray = as' := by rfl) (hs : g.stack = argsL.reverse ++ .ref a :: rest := by rfl) (hW : 2 * g.monitorRoom + (rest.map fun v => v.category).sum ≤ W := by (show 2 * 0 + _ ≤ _; exact Nat.le_of_eq rfl)) (hc : cells + rm.cells ≤ R.cells := by decide) (hsl : slots + rm.slots ≤ R.slots := by decide) :
    ∃ v T' L, Stand p l e R s m args below meth c T' (locs ++ L) (cells + rm.cells) (slots + rm.slots) ∧ Q v T'.heap L ∧ ∀ target, Steps p.tables e below (T'.setTop { g with pc := g.pc + 3, stack := v.toList ++ rest }) target → Steps p.tables e below (T.setTop g) target := by
  obtain ⟨cq, kq, qa, qb, qc⟩ := isOf hZ eT E
  obtain ⟨v, _, ⟨T', L', k', n'⟩, -, X', ⟨Lc, hQ, l1, y1, z1⟩, st⟩ := X.virtualBack hx (y := y) (z := y) hown (mvT hZ w1) (mvT hZ w5) (notFace_of_selects (args := #[]) (mvT hZ w6)) (mvT hZ w6) (mvT hZ w2) hy (backOf (W := W) hM hZ w4 w3 hf hl) qa qc (g := g) hg (hsz.trans hml.symm) (Steps.refl _) (argsL := argsL) (rest := rest) hlen hs hW hd (fun _ _ => ⟨ha, eT, hc, hsl⟩)
  dsimp only [Pt.U, Pt.locs, Pt.cells, Pt.slots] at X' l1 y1 z1 st hQ
  subst l1 y1 z1
  exact ⟨v, T', Lc, X', hQ, fun _ k => st.trans k⟩
theorem own_virtualUp (X : Stand p l e R s m args below meth c T locs cells slots) (hx : p.tables.exec = Jvm.exec) (hZ : Z.Warmed39 s.vm) (hown : s.vm.findClass own = some m.cls) {C owner : String} (w1 : (Jvm.Cond.methodLink own index z).before a0 Z = true) (w7 : (Jvm.Cond.sameMethod z.cls owner z.name z.desc).before a0 Z = true) (w5 : (Jvm.Cond.declares ⟨owner, z.name, z.desc⟩).before a0 Z = true) (w6 : (Jvm.Cond.selects C z y).before a0 Z = true) (w2 : (Jvm.Cond.instanceMethod y).before a0 Z = true) (w3 : (Jvm.Cond.initialized y.cls).before a0 Z = true) (w4 : (Jvm.Cond.code y b ml rt).before a0 Z = true)
    (hM : own_met l y b ml rt [] rm Z as' h Q) (eT : T.heap = h) {a : Addr} (E : Exa Z h a C) (hlen : ∀ sig, parseMethodDescriptor z.desc = some sig → argsL.length = sig.parameters.length)     (hd : decode c.code g.pc = .ok (.invokevirtual index, 3)) {ML : Nat} (hml : c.maxLocals = ML) (hy : owner ≠ "java/lang/invoke/MethodHandle" ∧ owner ≠ "java/lang/invoke/VarHandle" := by decide) (hf : rm.frames + 1 ≤ R.frames := by decide) (hl : W + (ml + 11) + rm.locals ≤ R.locals := by decide) (hg : g.method = m := by rfl) (hsz : g.locals.size = ML := by rfl) (ha : (Value.ref a :: argsL).toArray = as' := by rfl) (hs : g.stack = argsL.reverse ++ .ref a :: rest := by rfl) (hW : 2 * g.monitorRoom + (rest.map fun v => v.category).sum ≤ W := by (show 2 * 0 + _ ≤ _; exact Nat.le_of_eq rfl)) (hc : cells + rm.cells ≤ R.cells := by decide) (hsl : slots + rm.slots ≤ R.slots := by decide) :
    ∃ v T' L, Stand p l e R s m args below meth c T' (locs ++ L) (cells + rm.cells) (slots + rm.slots) ∧ Q v T'.heap L ∧ ∀ target, Steps p.tables e below (T'.setTop { g with pc := g.pc + 3, stack := v.toList ++ rest }) target → Steps p.tables e below (T.setTop g) target := by
  obtain ⟨cq, kq, qa, qb, qc⟩ := isOf hZ eT E
  obtain ⟨v, _, ⟨T', L', k', n'⟩, -, X', ⟨Lc, hQ, l1, y1, z1⟩, st⟩ := X.virtualBackUp hx (x := z) (y := y) (owner := owner) hown (mvT hZ w1) (mvT hZ w7) (mvT hZ w5) hy (mvT hZ w6) (mvT hZ w2) (backOf (W := W) hM hZ w4 w3 hf hl) qa qc (g := g) hg (hsz.trans hml.symm) (Steps.refl _) (argsL := argsL) (rest := rest) hlen hs hW hd (fun _ _ => ⟨ha, eT, hc, hsl⟩)
  dsimp only [Pt.U, Pt.locs, Pt.cells, Pt.slots] at X' l1 y1 z1 st hQ
  subst l1 y1 z1
  exact ⟨v, T', Lc, X', hQ, fun _ k => st.trans k⟩
end OwnCalls
section OwnSteps
variable {p : Program} {l : Launch} {e : Env} {R : Room} {s : State} {m : MethodId} {args : Array Value} {below : List Frame} {meth : Method} {c : Code} {T target : State} {locs : List Loc} {cells slots : Nat} {b : ByteArray} {pc : Nat} {Ls : Array Slot} {St : List Value}
theorem own_aN (X : Stand p l e R s m args below meth c T locs cells slots) (hx : p.tables.exec = Jvm.exec) (hby : c.code = b) {k : Fin 4} {v : Value} (hd : decode b pc = .ok (.aload_n k, 1)) (hr : own_S p e below T (mkF m (pc + 1) Ls (v :: St)) target) (hl : Ls[k.val]? = some (.val v) := by rfl) (hv : v.isRef = true := by rfl) : own_S p e below T (mkF m pc Ls St) target := XS.aloadN X.here hx rfl (hb hby hd) hl hv hr
theorem own_a (X : Stand p l e R s m args below meth c T locs cells slots) (hx : p.tables.exec = Jvm.exec) (hby : c.code = b) {k : Nat} {v : Value} (hd : decode b pc = .ok (.aload k, 2)) (hr : own_S p e below T (mkF m (pc + 2) Ls (v :: St)) target) (hl : Ls[k]? = some (.val v) := by rfl) (hv : v.isRef = true := by rfl) : own_S p e below T (mkF m pc Ls St) target := XS.aload X.here hx rfl (hb hby hd) hl hv hr
theorem own_iN (X : Stand p l e R s m args below meth c T locs cells slots) (hx : p.tables.exec = Jvm.exec) (hby : c.code = b) {k : Fin 4} {v : Int32} (hd : decode b pc = .ok (.iload_n k, 1)) (hr : own_S p e below T (mkF m (pc + 1) Ls (.int v :: St)) target) (hl : Ls[k.val]? = some (.val (.int v)) := by rfl) : own_S p e below T (mkF m pc Ls St) target := XS.iloadN X.here hx rfl (hb hby hd) hl hr
theorem own_i (X : Stand p l e R s m args below meth c T locs cells slots) (hx : p.tables.exec = Jvm.exec) (hby : c.code = b) {k : Nat} {v : Int32} (hd : decode b pc = .ok (.iload k, 2)) (hr : own_S p e below T (mkF m (pc + 2) Ls (.int v :: St)) target) (hl : Ls[k]? = some (.val (.int v)) := by rfl) : own_S p e below T (mkF m pc Ls St) target := XS.iload X.here hx rfl (hb hby hd) hl hr
theorem own_k (X : Stand p l e R s m args below meth c T locs cells slots) (hx : p.tables.exec = Jvm.exec) (hby : c.code = b) {k : Int} (hd : decode b pc = .ok (.iconst k, 1)) (hr : own_S p e below T (mkF m (pc + 1) Ls (.int (Int32.ofInt k) :: St)) target) : own_S p e below T (mkF m pc Ls St) target := XS.iconst X.here hx rfl (hb hby hd) hr
theorem own_go (X : Stand p l e R s m args below meth c T locs cells slots) (hx : p.tables.exec = Jvm.exec) (hby : c.code = b) {o : Int} (hd : decode b pc = .ok (.goto o, 3)) (pc' : Nat) (hr : own_S p e below T (mkF m pc' Ls St) target) (h1 : 0 ≤ (pc : Int) + o := by decide) (h2 : ((pc : Int) + o).toNat = pc' := by decide) : own_S p e below T (mkF m pc Ls St) target := XS.goto X.here hx rfl (pc0 := pc) (pc' := pc') rfl (hb hby hd) h1 h2 hr
theorem own_in (X : Stand p l e R s m args below meth c T locs cells slots) (hx : p.tables.exec = Jvm.exec) (hby : c.code = b) {cd : ClassFile.Cond} {o : Int} {v : Int32} (hd : decode b pc = .ok (.ifCond cd o, 3)) (hq : if_icmp.holds cd v 0 = false) (hr : own_S p e below T (mkF m (pc + 3) Ls St) target) : own_S p e below T (mkF m pc Ls (.int v :: St)) target := XS.ifNo X.here hx rfl (hb hby hd) rfl ((if0 _ _).trans hq) hr
theorem own_iy (X : Stand p l e R s m args below meth c T locs cells slots) (hx : p.tables.exec = Jvm.exec) (hby : c.code = b) {cd : ClassFile.Cond} {o : Int} {v : Int32} (hd : decode b pc = .ok (.ifCond cd o, 3)) (hq : if_icmp.holds cd v 0 = true) (pc' : Nat) (hr : own_S p e below T (mkF m pc' Ls St) target) (h1 : 0 ≤ (pc : Int) + o := by decide) (h2 : ((pc : Int) + o).toNat = pc' := by decide) : own_S p e below T (mkF m pc Ls (.int v :: St)) target := XS.ifYes X.here hx rfl (pc0 := pc) (pc' := pc') rfl (hb hby hd) rfl ((if0 _ _).trans hq) h1 h2 hr
theorem own_cn (X : Stand p l e R s m args below meth c T locs cells slots) (hx : p.tables.exec = Jvm.exec) (hby : c.code = b) {cd : ClassFile.Cond} {o : Int} {v w : Int32} (hd : decode b pc = .ok (.if_icmp cd o, 3)) (hq : if_icmp.holds cd v w = false) (hr : own_S p e below T (mkF m (pc + 3) Ls St) target) : own_S p e below T (mkF m pc Ls (.int w :: .int v :: St)) target := XS.icmpNo X.here hx rfl (hb hby hd) rfl hq hr
theorem own_cy (X : Stand p l e R s m args below meth c T locs cells slots) (hx : p.tables.exec = Jvm.exec) (hby : c.code = b) {cd : ClassFile.Cond} {o : Int} {v w : Int32} (hd : decode b pc = .ok (.if_icmp cd o, 3)) (hq : if_icmp.holds cd v w = true) (pc' : Nat) (hr : own_S p e below T (mkF m pc' Ls St) target) (h1 : 0 ≤ (pc : Int) + o := by decide) (h2 : ((pc : Int) + o).toNat = pc' := by decide) : own_S p e below T (mkF m pc Ls (.int w :: .int v :: St)) target := XS.icmpYes X.here hx rfl (pc0 := pc) (pc' := pc') rfl (hb hby hd) rfl hq h1 h2 hr
end OwnSteps

def own_ib (j n : Int32) : Prop := ¬ j < 0 ∧ j < n
def own_get (vs : List Value) (j : Int32) (d v : Value) : Prop := vs.getD j.toNatClampNeg d = v
def own_cap (n : Int32) (k : Nat) : Prop := n.toNatClampNeg ≤ k
def own_qp (Z : State) (r : Option Value) (h0 : Heap) (v : Option Value) (h : Heap) (L : List Loc) : Prop := v = r ∧ Fr Z.heap.size L ∧ h = h0
theorem own_lt {a b : Int32} {x y : Int} (ha : a.toInt = x) (hb : b.toInt = y) (h : x < y) : a < b := by rw [Int32.lt_iff_toInt_lt, ha, hb]; exact h
theorem own_nlt {a b : Int32} {x y : Int} (ha : a.toInt = x) (hb : b.toInt = y) (h : ¬ x < y) : ¬ a < b := by rw [Int32.lt_iff_toInt_lt, ha, hb]; exact h
theorem own_ltI {a b : Int32} (h : a < b) : a.toInt < b.toInt := Int32.lt_iff_toInt_lt.mp h
theorem own_nltI {a b : Int32} (h : ¬ a < b) : b.toInt ≤ a.toInt := Int.not_lt.mp fun q => h (Int32.lt_iff_toInt_lt.mpr q)
theorem own_mono {l : Launch} {y : MethodName} {b : ByteArray} {ml : Nat} {rt : Option FieldType} {ws : List Jvm.Cond} {R : Room} {Z : State} {A : Array Value} {h0 : Heap} {Q Q' : Option Value → Heap → List Loc → Prop} (M : own_met l y b ml rt ws R Z A h0 Q) (q : ∀ v h L, Q v h L → Q' v h L) : own_met l y b ml rt ws R Z A h0 Q' :=
  M.mono (fun _ _ h => h) (fun _ _ _ _ _ h => h) (fun _ _ _ _ _ r => by obtain ⟨v, L, a, b, c⟩ := r; exact ⟨v, L, a, q _ _ _ b, c⟩)
theorem own_get_of {vs : List Value} {j : Int32} {d v : Value} (i : Nat) (h : j.toNatClampNeg = i) (q : vs.getD i d = v) : own_get vs j d v := by unfold own_get; rw [h]; exact q
theorem own_back {n : Nat} (h : n < 1000) : (Int32.ofNat n).toNatClampNeg = n ∧ ¬ (Int32.ofNat n < 0) := by
  have q : (Int32.ofNat n).toInt = n := Int32.toInt_ofNat_of_lt (by omega)
  have z : ¬ (Int32.ofNat n < 0) := own_nlt q (by decide : (0 : Int32).toInt = 0) (by omega)
  exact ⟨by have := nat_of z; omega, z⟩
theorem own_ofNat_lt {a b : Nat} (h : a < b) (hb : b < 1000) : Int32.ofNat a < Int32.ofNat b := own_lt (Int32.toInt_ofNat_of_lt (by omega)) (Int32.toInt_ofNat_of_lt (by omega)) (by omega)
theorem own_succ (i : Nat) : Int32.ofNat i + (1 : Int32) = Int32.ofNat (i + 1) := (Int32.ofNat_add i 1).symm
/-- q is not negative and has k decimal digits -/
def own_nd (q : Int32) (k : Nat) : Prop := (k = 1 ∧ 0 ≤ q.toInt ∧ q.toInt < 10) ∨ (k = 2 ∧ 10 ≤ q.toInt ∧ q.toInt < 100) ∨ (k = 3 ∧ 100 ≤ q.toInt ∧ q.toInt < 1000) ∨ (k = 4 ∧ 1000 ≤ q.toInt ∧ q.toInt < 10000) ∨ (k = 5 ∧ 10000 ≤ q.toInt ∧ q.toInt < 100000) ∨ (k = 6 ∧ 100000 ≤ q.toInt ∧ q.toInt < 1000000) ∨ (k = 7 ∧ 1000000 ≤ q.toInt ∧ q.toInt < 10000000) ∨ (k = 8 ∧ 10000000 ≤ q.toInt ∧ q.toInt < 100000000) ∨ (k = 9 ∧ 100000000 ≤ q.toInt ∧ q.toInt < 1000000000) ∨ (k = 10 ∧ 1000000000 ≤ q.toInt ∧ q.toInt < 2147483648)
theorem own_nd_ex {q : Int32} (h : 0 ≤ q.toInt) : ∃ k, own_nd q k := by
  have r := rng32 q
  by_cases h1 : q.toInt < 10; · exact ⟨1, Or.inl ⟨rfl, h, h1⟩⟩
  by_cases h2 : q.toInt < 100; · exact ⟨2, Or.inr (Or.inl ⟨rfl, by omega, h2⟩)⟩
  by_cases h3 : q.toInt < 1000; · exact ⟨3, Or.inr (Or.inr (Or.inl ⟨rfl, by omega, h3⟩))⟩
  by_cases h4 : q.toInt < 10000; · exact ⟨4, Or.inr (Or.inr (Or.inr (Or.inl ⟨rfl, by omega, h4⟩)))⟩
  by_cases h5 : q.toInt < 100000; · exact ⟨5, Or.inr (Or.inr (Or.inr (Or.inr (Or.inl ⟨rfl, by omega, h5⟩))))⟩
  by_cases h6 : q.toInt < 1000000; · exact ⟨6, Or.inr (Or.inr (Or.inr (Or.inr (Or.inr (Or.inl ⟨rfl, by omega, h6⟩)))))⟩
  by_cases h7 : q.toInt < 10000000; · exact ⟨7, Or.inr (Or.inr (Or.inr (Or.inr (Or.inr (Or.inr (Or.inl ⟨rfl, by omega, h7⟩))))))⟩
  by_cases h8 : q.toInt < 100000000; · exact ⟨8, Or.inr (Or.inr (Or.inr (Or.inr (Or.inr (Or.inr (Or.inr (Or.inl ⟨rfl, by omega, h8⟩)))))))⟩
  by_cases h9 : q.toInt < 1000000000; · exact ⟨9, Or.inr (Or.inr (Or.inr (Or.inr (Or.inr (Or.inr (Or.inr (Or.inr (Or.inl ⟨rfl, by omega, h9⟩))))))))⟩
  exact ⟨10, Or.inr (Or.inr (Or.inr (Or.inr (Or.inr (Or.inr (Or.inr (Or.inr (Or.inr ⟨rfl, by omega, by omega⟩))))))))⟩
theorem own_neg {q : Int32} (h : 0 ≤ q.toInt) : (-q).toInt = -q.toInt := by
  have a := c_ineg q
  have r := rng32 (-q)
  have r' := rng32 q
  omega
def own_N (q : Int32) : Nat := q.toInt.toNat
def own_x (q : Int32) (j : Nat) : Int32 := -(Int32.ofNat (own_N q / 100 ^ j))
def own_r (q : Int32) (j : Nat) : Int32 := Int32.ofNat (own_N q / 100 ^ j % 100)
def own_d (q : Int32) (t : Nat) : Int32 := Int32.ofNat (48 + own_N q / 10 ^ t % 10)
def own_ones : List Value := (List.range 100).map fun j => .int ((48 : Int32) + (Int32.ofNat j % 10))
def own_tens : List Value := (List.range 100).map fun j => .int ((48 : Int32) + (Int32.ofNat j / 10))
theorem own_nd_pow {q : Int32} {k : Nat} (h : own_nd q k) : 0 ≤ q.toInt ∧ 1 ≤ k ∧ k ≤ 10 ∧ own_N q < 10 ^ k ∧ (1 < k → 10 ^ (k - 1) ≤ own_N q) := by
  rcases h with ⟨rfl, a, b⟩ | ⟨rfl, a, b⟩ | ⟨rfl, a, b⟩ | ⟨rfl, a, b⟩ | ⟨rfl, a, b⟩ | ⟨rfl, a, b⟩ | ⟨rfl, a, b⟩ | ⟨rfl, a, b⟩ | ⟨rfl, a, b⟩ | ⟨rfl, a, b⟩ <;> refine ⟨by omega, by omega, by omega, ?_, ?_⟩ <;> simp only [own_N] <;> omega
theorem own_N_lt (q : Int32) : own_N q < 2147483648 := by have := rng32 q; simp only [own_N]; omega
theorem own_toI {n : Nat} (h : n < 2147483648) : (Int32.ofNat n).toInt = n := Int32.toInt_ofNat_of_lt (by omega)
theorem own_div_lt (q : Int32) (j : Nat) : own_N q / 100 ^ j < 2147483648 := Nat.lt_of_le_of_lt (Nat.div_le_self _ _) (own_N_lt q)
theorem own_xI (q : Int32) (j : Nat) : (own_x q j).toInt = -((own_N q / 100 ^ j : Nat) : Int) := by
  have h := own_toI (own_div_lt q j)
  rw [own_x, own_neg (by rw [h]; exact Int.natCast_nonneg _), h]
theorem own_x0 {q : Int32} (h : 0 ≤ q.toInt) : (-q) = own_x q 0 := by
  apply Int32.toInt_inj.mp
  rw [own_xI, own_neg h]
  simp only [own_N, Nat.pow_zero, Nat.div_one]; omega
theorem own_xd (q : Int32) (j : Nat) : own_x q j / (100 : Int32) = own_x q (j + 1) := by
  apply Int32.toInt_inj.mp
  have h := c_idiv (own_x q j) (100 : Int32) 100 (by decide) (by decide)
  rw [own_xI] at h ⊢
  rw [Nat.pow_succ, ← Nat.div_div_eq_div_mul]
  generalize own_N q / 100 ^ j = n at *
  by_cases z : n = 0
  · subst z; rw [h.1 (by omega)]; rfl
  · rw [h.2 (by omega)]; omega
theorem own_rI (q : Int32) (j : Nat) : (own_r q j).toInt = ((own_N q / 100 ^ j % 100 : Nat) : Int) := own_toI (by omega)
theorem own_xr (q : Int32) (j : Nat) : own_x q (j + 1) * (100 : Int32) - own_x q j = own_r q j := by
  apply Int32.toInt_inj.mp
  have a := c_imul (own_x q (j + 1)) (100 : Int32)
  have b := c_isub (own_x q (j + 1) * (100 : Int32)) (own_x q j)
  have r1 := rng32 (own_x q (j + 1) * (100 : Int32))
  have r2 := rng32 (own_x q (j + 1) * (100 : Int32) - own_x q j)
  rw [own_rI]
  rw [own_xI] at a
  rw [own_xI] at b
  rw [Nat.pow_succ, ← Nat.div_div_eq_div_mul] at a
  rw [(by decide : (100 : Int32).toInt = 100)] at a
  have l := own_div_lt q j
  generalize own_N q / 100 ^ j = n at *
  omega
theorem own_xn {q : Int32} {j : Nat} (h : own_N q / 100 ^ j < 100) : -(own_x q j) = own_r q j := by
  apply Int32.toInt_inj.mp
  have a := c_ineg (own_x q j)
  have r := rng32 (-(own_x q j))
  rw [own_xI] at a
  rw [own_rI]
  generalize own_N q / 100 ^ j = n at *
  omega
theorem own_rN (q : Int32) (j : Nat) : (own_r q j).toNatClampNeg = own_N q / 100 ^ j % 100 := (own_back (n := own_N q / 100 ^ j % 100) (by omega)).1
theorem own_rib (q : Int32) (j : Nat) : own_ib (own_r q j) (100 : Int32) := ⟨(own_back (n := own_N q / 100 ^ j % 100) (by omega)).2, own_ofNat_lt (b := 100) (by omega) (by omega)⟩
theorem own_pow2 (j : Nat) : (100 : Nat) ^ j = 10 ^ (2 * j) := by rw [show (100 : Nat) = 10 ^ 2 from rfl, ← Nat.pow_mul]
theorem own_r1 (q : Int32) (j : Nat) : own_get own_ones (own_r q j) (.int (0 : Int32)) (.int (own_d q (2 * j))) := by
  refine own_get_of _ (own_rN q j) ?_
  have h : own_N q / 100 ^ j % 100 < 100 := Nat.mod_lt _ (by decide)
  have e : own_d q (2 * j) = Int32.ofNat (48 + own_N q / 100 ^ j % 100 % 10) := by
    rw [own_d, own_pow2, show (own_N q / 10 ^ (2 * j)) % 10 = own_N q / 10 ^ (2 * j) % 100 % 10 by omega]
  rw [e]
  generalize own_N q / 100 ^ j % 100 = r at *
  exact (by decide : ∀ r, r < 100 → own_ones.getD r (.int (0 : Int32)) = .int (Int32.ofNat (48 + r % 10))) r h
theorem own_r2 (q : Int32) (j : Nat) : own_get own_tens (own_r q j) (.int (0 : Int32)) (.int (own_d q (2 * j + 1))) := by
  refine own_get_of _ (own_rN q j) ?_
  have h : own_N q / 100 ^ j % 100 < 100 := Nat.mod_lt _ (by decide)
  have e : own_d q (2 * j + 1) = Int32.ofNat (48 + own_N q / 100 ^ j % 100 / 10) := by
    rw [own_d, own_pow2, Nat.pow_succ, ← Nat.div_div_eq_div_mul]
    generalize own_N q / 10 ^ (2 * j) = n
    rw [show n / 10 % 10 = n % 100 / 10 by omega]
  rw [e]
  generalize own_N q / 100 ^ j % 100 = r at *
  exact (by decide : ∀ r, r < 100 → own_tens.getD r (.int (0 : Int32)) = .int (Int32.ofNat (48 + r / 10))) r h
theorem own_dnb (q : Int32) (t : Nat) : nar .byte (own_d q t) = own_d q t := by
  have h : own_N q / 10 ^ t % 10 < 10 := Nat.mod_lt _ (by decide)
  rw [own_d]
  generalize own_N q / 10 ^ t % 10 = r at *
  exact (by decide : ∀ r, r < 10 → nar .byte (Int32.ofNat (48 + r)) = Int32.ofNat (48 + r)) r h
theorem own_more {q : Int32} {k j : Nat} (h : own_nd q k) (hj : j < (k - 1) / 2) : 100 ≤ own_N q / 100 ^ j := by
  obtain ⟨-, h1, h2, h3, h4⟩ := own_nd_pow h
  have h5 := h4 (by omega)
  rw [Nat.le_div_iff_mul_le (Nat.pow_pos (by decide)), Nat.mul_comm, ← Nat.pow_succ, own_pow2]
  exact Nat.le_trans (Nat.pow_le_pow_right (by decide) (by omega)) h5
theorem own_less {q : Int32} {k : Nat} (h : own_nd q k) : own_N q / 100 ^ ((k - 1) / 2) < 100 := by
  obtain ⟨-, h1, h2, h3, h4⟩ := own_nd_pow h
  rw [Nat.div_lt_iff_lt_mul (Nat.pow_pos (by decide)), Nat.mul_comm, ← Nat.pow_succ, own_pow2]
  exact Nat.lt_of_lt_of_le h3 (Nat.pow_le_pow_right (by decide) (by omega))
theorem own_odd {q : Int32} {k : Nat} (h : own_nd q k) (o : k = 2 * ((k - 1) / 2) + 1) : own_N q / 100 ^ ((k - 1) / 2) < 10 := by
  obtain ⟨-, h1, h2, h3, h4⟩ := own_nd_pow h
  rw [Nat.div_lt_iff_lt_mul (Nat.pow_pos (by decide)), Nat.mul_comm, own_pow2, ← Nat.pow_succ, Nat.succ_eq_add_one, ← o]
  exact h3
theorem own_even {q : Int32} {k : Nat} (h : own_nd q k) (o : k = 2 * ((k - 1) / 2) + 2) : 10 ≤ own_N q / 100 ^ ((k - 1) / 2) := by
  obtain ⟨-, h1, h2, h3, h4⟩ := own_nd_pow h
  rw [Nat.le_div_iff_mul_le (Nat.pow_pos (by decide)), Nat.mul_comm, own_pow2, ← Nat.pow_succ]
  exact Nat.le_trans (Nat.pow_le_pow_right (by decide) (by omega)) (h4 (by omega))
/-- xs is us with q's k digits laid from place n0 on -/
def own_gx (us xs : List Value) (n0 k : Nat) (q : Int32) : Prop := xs.length = us.length ∧ n0 + k ≤ us.length ∧ us.length ≤ 100 ∧ (∀ t, t < k → xs.getD (n0 + k - 1 - t) (.int (0 : Int32)) = .int (own_d q t)) ∧ xs.take n0 = us.take n0 ∧ xs.drop (n0 + k) = us.drop (n0 + k)
def own_mix (i : Nat) (xs us : List Value) : List Value := xs.take i ++ us.drop i
theorem own_mix_len {i : Nat} {xs us : List Value} (h : xs.length = us.length) : (own_mix i xs us).length = us.length := by
  simp only [own_mix, List.length_append, List.length_take, List.length_drop]; omega
/-- one place more of the second list, from behind -/
theorem own_mix_back {e : Nat} {us xs : List Value} {v : Value} (h : xs.length = us.length) (he : 0 < e) (hl : e ≤ us.length) (hv : xs.getD (e - 1) (.int (0 : Int32)) = v) : (own_mix e us xs).set (e - 1) v = own_mix (e - 1) us xs := by
  apply List.ext_getElem?
  intro k
  have x1 : xs[e - 1]? = some v := by
    rw [← hv, List.getD_eq_getElem?_getD, List.getElem?_eq_getElem (by omega)]; rfl
  simp only [own_mix, List.getElem?_set, List.getElem?_append, List.getElem?_take, List.getElem?_drop, List.length_append, List.length_take, List.length_drop]
  by_cases q1 : e - 1 = k
  · subst q1
    simp only [if_true]
    rw [if_pos (by omega), if_neg (by omega), show e - 1 + (e - 1 - min (e - 1) us.length) = e - 1 by omega]; exact x1.symm
  · rw [if_neg q1]
    by_cases q2 : k < e - 1
    · rw [if_pos (by omega), if_pos (by omega), if_pos (by omega), if_pos q2]
    · rw [if_neg (by omega), if_neg (by omega)]
      congr 1; omega
theorem own_gx_start {us xs : List Value} {n0 k : Nat} {q : Int32} (h : own_gx us xs n0 k q) : own_mix (n0 + k) us xs = us := by
  rw [own_mix, h.2.2.2.2.2, List.take_append_drop]
theorem own_gx_end {us xs : List Value} {n0 k : Nat} {q : Int32} (h : own_gx us xs n0 k q) : own_mix n0 us xs = xs := by
  rw [own_mix, ← h.2.2.2.2.1, List.take_append_drop]
theorem own_gx_set {us xs : List Value} {n0 k t : Nat} {q : Int32} (h : own_gx us xs n0 k q) (ht : t < k) : (own_mix (n0 + k - t) us xs).set (n0 + k - t - 1) (.int (own_d q t)) = own_mix (n0 + k - t - 1) us xs :=
  own_mix_back h.1 (by omega) (by have := h.2.1; omega) (by rw [show n0 + k - t - 1 = n0 + k - 1 - t by omega]; exact h.2.2.2.1 t ht)
theorem own_dec {n : Nat} (h : 0 < n) : Int32.ofNat n + (-1 : Int32) = Int32.ofNat (n - 1) := by
  have q : Int32.ofNat n = Int32.ofNat (n - 1) + (1 : Int32) := by rw [own_succ]; congr 1; omega
  rw [q, Int32.add_assoc, (by decide : (1 : Int32) + (-1 : Int32) = 0), Int32.add_zero]
def own_slot (o : Option Int32) : Slot := match o with
  | none => .unset
  | some v => .val (.int v)
def own_par (k m : Nat) : Prop := k = 2 * ((k - 1) / 2) + m
theorem own_par_cases {k : Nat} (h : 1 ≤ k) : own_par k 1 ∨ own_par k 2 := by unfold own_par; omega
theorem own_nd_nn {q : Int32} {k : Nat} (h : own_nd q k) : ¬ (q < (0 : Int32)) := own_nlt rfl (by decide : (0 : Int32).toInt = 0) (by have := (own_nd_pow h).1; omega)
theorem own_t_100 {q : Int32} {k : Nat} (h : own_nd q k) : (-100 : Int32) < own_x q ((k - 1) / 2) := own_lt (by decide : (-100 : Int32).toInt = -100) (own_xI q _) (by have := own_less h; omega)
theorem own_t_9o {q : Int32} {k : Nat} (h : own_nd q k) (o : own_par k 1) : ¬ (own_x q ((k - 1) / 2) < (-9 : Int32)) := own_nlt (own_xI q _) (by decide : (-9 : Int32).toInt = -9) (by have := own_odd h o; omega)
theorem own_t_9e {q : Int32} {k : Nat} (h : own_nd q k) (o : own_par k 2) : own_x q ((k - 1) / 2) < (-9 : Int32) := own_lt (own_xI q _) (by decide : (-9 : Int32).toInt = -9) (by have := own_even h o; omega)
theorem own_t_1 {q : Int32} {us xs : List Value} {n0 k : Nat} (h : own_nd q k) (g : own_gx us xs n0 k q) : Int32.ofNat (n0 + k - 2 * ((k - 1) / 2)) + (-1 : Int32) = Int32.ofNat (n0 + k - 2 * ((k - 1) / 2) - 1) := own_dec (by have := (own_nd_pow h).2.1; omega)
theorem own_t_ib1 {q : Int32} {us xs : List Value} {n0 k : Nat} (h : own_nd q k) (g : own_gx us xs n0 k q) : own_ib (Int32.ofNat (n0 + k - 2 * ((k - 1) / 2)) + (-1 : Int32)) (Int32.ofNat us.length) := by
  have h1 := (own_nd_pow h).2.1; have h2 := g.2.1; have h3 := g.2.2.1
  rw [own_t_1 h g]; exact ⟨(own_back (by omega)).2, own_ofNat_lt (by omega) (by omega)⟩
theorem own_t_n1 {q : Int32} {us xs : List Value} {n0 k : Nat} (h : own_nd q k) (g : own_gx us xs n0 k q) : (Int32.ofNat (n0 + k - 2 * ((k - 1) / 2)) + (-1 : Int32)).toNatClampNeg = (n0 + k - 2 * ((k - 1) / 2) - 1) := by
  have h1 := (own_nd_pow h).2.1; have h2 := g.2.1; have h3 := g.2.2.1
  rw [own_t_1 h g]; exact (own_back (by omega)).1
theorem own_t_l1 {q : Int32} {us xs : List Value} {n0 k : Nat} (h : own_nd q k) (g : own_gx us xs n0 k q) : (n0 + k - 2 * ((k - 1) / 2) - 1) < (own_mix (n0 + k - 2 * ((k - 1) / 2)) us xs).length := by
  have h1 := (own_nd_pow h).2.1; have h2 := g.2.1; have h4 := g.1
  rw [own_mix_len g.1.symm]; omega
theorem own_t_2 {q : Int32} {us xs : List Value} {n0 k : Nat} (h : own_nd q k) (g : own_gx us xs n0 k q) (o : own_par k 2) : Int32.ofNat (n0 + k - 2 * ((k - 1) / 2)) + (-1 : Int32) + (-1 : Int32) = Int32.ofNat (n0 + k - 2 * ((k - 1) / 2) - 1 - 1) := by
  unfold own_par at o
  rw [own_t_1 h g, own_dec (by omega)]
theorem own_t_ib2 {q : Int32} {us xs : List Value} {n0 k : Nat} (h : own_nd q k) (g : own_gx us xs n0 k q) (o : own_par k 2) : own_ib (Int32.ofNat (n0 + k - 2 * ((k - 1) / 2)) + (-1 : Int32) + (-1 : Int32)) (Int32.ofNat us.length) := by
  have h2 := g.2.1; have h3 := g.2.2.1
  rw [own_t_2 h g o]; unfold own_par at o; exact ⟨(own_back (by omega)).2, own_ofNat_lt (by omega) (by omega)⟩
theorem own_t_n2 {q : Int32} {us xs : List Value} {n0 k : Nat} (h : own_nd q k) (g : own_gx us xs n0 k q) (o : own_par k 2) : (Int32.ofNat (n0 + k - 2 * ((k - 1) / 2)) + (-1 : Int32) + (-1 : Int32)).toNatClampNeg = (n0 + k - 2 * ((k - 1) / 2) - 1 - 1) := by
  have h2 := g.2.1; have h3 := g.2.2.1
  rw [own_t_2 h g o]; unfold own_par at o; exact (own_back (by omega)).1
theorem own_t_l2 {q : Int32} {us xs : List Value} {n0 k : Nat} (g : own_gx us xs n0 k q) (o : own_par k 2) : (n0 + k - 2 * ((k - 1) / 2) - 1 - 1) < (own_mix (n0 + k - 2 * ((k - 1) / 2) - 1) us xs).length := by
  have h2 := g.2.1; have h4 := g.1; unfold own_par at o
  rw [own_mix_len g.1.symm]; omega
theorem own_gx_o {q : Int32} {us xs : List Value} {n0 k : Nat} (g : own_gx us xs n0 k q) (o : own_par k 1) : (own_mix (n0 + k - 2 * ((k - 1) / 2)) us xs).set (n0 + k - 2 * ((k - 1) / 2) - 1) (.int (own_d q (2 * ((k - 1) / 2)))) = xs := by
  unfold own_par at o
  rw [own_gx_set g (by omega), show n0 + k - 2 * ((k - 1) / 2) - 1 = n0 by omega]; exact own_gx_end g
theorem own_gx_e {q : Int32} {us xs : List Value} {n0 k : Nat} (g : own_gx us xs n0 k q) (o : own_par k 2) : (own_mix (n0 + k - 2 * ((k - 1) / 2)) us xs).set (n0 + k - 2 * ((k - 1) / 2) - 1) (.int (own_d q (2 * ((k - 1) / 2)))) = own_mix (n0 + k - 2 * ((k - 1) / 2) - 1) us xs := by
  unfold own_par at o
  exact own_gx_set g (by omega)
theorem own_gx_e2 {q : Int32} {us xs : List Value} {n0 k : Nat} (g : own_gx us xs n0 k q) (o : own_par k 2) : (own_mix (n0 + k - 2 * ((k - 1) / 2) - 1) us xs).set (n0 + k - 2 * ((k - 1) / 2) - 1 - 1) (.int (own_d q (2 * ((k - 1) / 2) + 1))) = xs := by
  unfold own_par at o
  rw [show n0 + k - 2 * ((k - 1) / 2) - 1 = n0 + k - (2 * ((k - 1) / 2) + 1) by omega, own_gx_set g (by omega), show n0 + k - (2 * ((k - 1) / 2) + 1) - 1 = n0 by omega]; exact own_gx_end g
theorem own_ret_o {n0 k : Nat} (o : own_par k 1) : Int32.ofNat (n0 + k - 2 * ((k - 1) / 2)) + (-1 : Int32) = Int32.ofNat n0 := by
  unfold own_par at o
  rw [own_dec (by omega)]; congr 1; omega
theorem own_ret_e {n0 k : Nat} (o : own_par k 2) : Int32.ofNat (n0 + k - 2 * ((k - 1) / 2)) + (-1 : Int32) + (-1 : Int32) = Int32.ofNat n0 := by
  unfold own_par at o
  rw [own_dec (by omega), own_dec (by omega)]; congr 1; omega
abbrev own_ln (us : List Value) (nn : Int32) : Prop := nn = Int32.ofNat us.length
def own_ch (cs : List Int32) : List Value := cs.map fun c => Value.int c
/-- a builder's array of c bytes that holds cs -/
def own_buf (c : Nat) (cs : List Int32) : List Value := own_ch cs ++ List.replicate (c - cs.length) (.int (0 : Int32))
def own_ds (q : Int32) (k : Nat) : List Int32 := (List.range k).map fun i => own_d q (k - 1 - i)
theorem own_ch_len (cs : List Int32) : (own_ch cs).length = cs.length := List.length_map _
theorem own_ds_len (q : Int32) (k : Nat) : (own_ds q k).length = k := by simp [own_ds]
theorem own_buf_len {c : Nat} {cs : List Int32} (h : cs.length ≤ c) : (own_buf c cs).length = c := by
  simp only [own_buf, List.length_append, own_ch_len, List.length_replicate]; omega
/-- place i of a builder's array -/
theorem own_buf_at {c : Nat} {cs : List Int32} (h : cs.length ≤ c) (i : Nat) : (own_buf c cs)[i]? = if i < cs.length then (cs[i]?).map Value.int else if i < c then some (.int (0 : Int32)) else none := by
  simp only [own_buf, own_ch, List.getElem?_append, List.length_map, List.getElem?_map, List.getElem?_replicate]
  by_cases q : i < cs.length
  · rw [if_pos q, if_pos q]
  · rw [if_neg q, if_neg q]
    by_cases r : i < c
    · rw [if_pos r, if_pos (by omega)]
    · rw [if_neg r, if_neg (by omega)]
theorem own_gx_buf {c k : Nat} {cs : List Int32} {q : Int32} (h : cs.length + k ≤ c) (hc : c ≤ 100) : own_gx (own_buf c cs) (own_buf c (cs ++ own_ds q k)) cs.length k q := by
  have e : (cs ++ own_ds q k).length = cs.length + k := by rw [List.length_append, own_ds_len]
  have l1 := own_buf_len (c := c) (cs := cs) (by omega)
  have l2 := own_buf_len (c := c) (cs := cs ++ own_ds q k) (by omega)
  refine ⟨by rw [l1, l2], by rw [l1]; exact h, by rw [l1]; exact hc, ?_, ?_, ?_⟩
  · intro t ht
    rw [List.getD_eq_getElem?_getD, own_buf_at (by omega), e, if_pos (by omega), List.getElem?_append_right (by omega), own_ds, List.getElem?_map, List.getElem?_range (by omega)]
    simp only [Option.map_some, Option.getD_some]
    rw [show k - 1 - (cs.length + k - 1 - t - cs.length) = t by omega]
  · apply List.ext_getElem?
    intro i
    simp only [List.getElem?_take]
    by_cases r : i < cs.length
    · rw [if_pos r, if_pos r, own_buf_at (by omega), own_buf_at (by omega), e, if_pos (by omega), if_pos r, List.getElem?_append_left r]
    · rw [if_neg r, if_neg r]
  · apply List.ext_getElem?
    intro i
    simp only [List.getElem?_drop]
    rw [own_buf_at (by omega), own_buf_at (by omega), e, if_neg (show ¬ (cs.length + k + i < cs.length + k) by omega), if_neg (show ¬ (cs.length + k + i < cs.length) by omega)]
/-- System.arraycopy of bytes: ts is what stands there at the end -/
def own_cpl (z z' : Int32) (vs vd : List Value) (sp dp nn : Int32) (ts : List Value) : Prop := ¬ sp < 0 ∧ ¬ dp < 0 ∧ ¬ nn < 0 ∧ sp.toNatClampNeg + nn.toNatClampNeg ≤ z.toNatClampNeg ∧ dp.toNatClampNeg + nn.toNatClampNeg ≤ z'.toNatClampNeg ∧ dp.toNatClampNeg + nn.toNatClampNeg ≤ vd.length ∧ (vd.take dp.toNatClampNeg ++ ((List.range nn.toNatClampNeg).map fun i => vs.getD (sp.toNatClampNeg + i) (.int (0 : Int32))) ++ vd.drop (dp.toNatClampNeg + nn.toNatClampNeg)) = ts
section OwnCopy
variable {p : Program} {l : Launch} {e : Env} {R : Room} {s : State} {m : MethodId} {args : Array Value} {below : List Frame} {meth : Method} {c : Code} {T : State} {locs : List Loc} {cells slots : Nat} {Z : State} {a0 : Array Value} {h : Heap} {own : String} {index : Nat} {a b : Addr} {k k' : ClassId} {z z' sp dp nn : Int32} {vs vd ts : List Value} {g : JFrame} {rest : List Value} {W ML : Nat}
theorem own_cp (X : Stand p l e R s m args below meth c T locs cells slots) (hx : p.tables.exec = Jvm.exec) (hZ : Z.Warmed39 s.vm) (hown : s.vm.findClass own = some m.cls) (w1 : (Jvm.Cond.methodLink own index Jvm.Stand.acN).before a0 Z = true) (w2 : (Jvm.Cond.native Jvm.Stand.acN).before a0 Z = true) (w3 : (Jvm.Cond.static Jvm.Stand.acN).before a0 Z = true) (w4 : (Jvm.Cond.initialized "java/lang/System").before a0 Z = true) (eT : T.heap = h)
    (A : Arv Z h a k .byte z vs (.int (0 : Int32))) (B : Arv Z h b k' .byte z' vd (.int (0 : Int32))) (q : own_cpl z z' vs vd sp dp nn ts) (N : Fr Z.heap.size locs) (ge : Z.heap.size ≤ b) (hd : decode c.code g.pc = .ok (.invokestatic index, 3)) (hml : c.maxLocals = ML) (hg : g.method = m := by rfl) (hsz : g.locals.size = ML := by rfl) (hs : g.stack = .int nn :: .int dp :: .ref b :: .int sp :: .ref a :: rest := by rfl) (hf : 1 ≤ R.frames := by decide) (hW : 2 * g.monitorRoom + (rest.map fun v => v.category).sum ≤ W := by (show 2 * 0 + _ ≤ _; exact Nat.le_of_eq rfl)) (hlo : W + (nativeFrameWords "java/lang/System" "arraycopy" 5 + 11) ≤ R.locals := by decide) :
    ∃ T' h' L, Stand p l e R s m args below meth c T' L cells slots ∧ T'.heap = h' ∧ Fr Z.heap.size L ∧ Keep h h' [b] ∧ Arv Z h' b k' .byte z' ts (.int (0 : Int32)) ∧ ∀ target, Steps p.tables e below (T'.setTop { g with pc := g.pc + 3, stack := rest }) target → Steps p.tables e below (T.setTop g) target := by
  obtain ⟨q1, q2, q3, q4, q5, q6, q7⟩ := q
  obtain ⟨T', h', L, X', e', N', K, V, st⟩ := cpA X hx hZ hown w1 w2 w3 w4 eT A B (Or.inl ⟨rfl, rfl⟩) q1 q2 q3 q4 q5 rfl q6 N ge hg (hsz.trans hml.symm) hs hd hf hW hlo
  rw [q7] at V
  exact ⟨T', h', L, X', e', N', K, V, st⟩
end OwnCopy
/-- growth: the old array's bytes at the new one's front -/
theorem own_cp_grow {cs : List Int32} (h : cs.length ≤ 16) : own_cpl (16 : Int32) (34 : Int32) (own_buf 16 cs) (List.replicate 34 (.int (0 : Int32))) (0 : Int32) (0 : Int32) (16 : Int32) (own_buf 34 cs) := by
  refine ⟨by decide, by decide, by decide, by decide, by decide, by decide, ?_⟩
  rw [(by decide : (0 : Int32).toNatClampNeg = 0), (by decide : (16 : Int32).toNatClampNeg = 16)]
  apply List.ext_getElem?
  intro i
  rw [own_buf_at (by omega)]
  simp only [List.take_zero, List.nil_append, List.getElem?_append, List.length_map, List.length_range, List.getElem?_map, List.getElem?_drop, List.getElem?_replicate, Nat.zero_add]
  by_cases q : i < 16
  · rw [if_pos q, List.getElem?_range q]
    simp only [Option.map_some]
    rw [List.getD_eq_getElem?_getD, own_buf_at h]
    by_cases r : i < cs.length
    · rw [if_pos r, if_pos r, List.getElem?_eq_getElem r]; rfl
    · rw [if_neg r, if_neg r, if_pos q, if_pos (by omega)]; rfl
  · rw [if_neg q, show 16 + (i - 16) = i by omega, if_neg (show ¬ (i < cs.length) by omega)]
theorem own_cp_add {c : Nat} {cs ds : List Int32} {z : Int32} (h : cs.length + ds.length ≤ c) (hc : c ≤ 100) (hz : z.toNatClampNeg = c) : own_cpl (Int32.ofNat ds.length) z (own_ch ds) (own_buf c cs) (0 : Int32) (Int32.ofNat cs.length) (Int32.ofNat ds.length) (own_buf c (cs ++ ds)) := by
  have b1 := own_back (n := cs.length) (by omega)
  have b2 := own_back (n := ds.length) (by omega)
  have l := own_buf_len (c := c) (cs := cs) (by omega)
  refine ⟨by decide, b1.2, b2.2, ?_, ?_, ?_, ?_⟩
  · rw [b2.1, (by decide : (0 : Int32).toNatClampNeg = 0)]; omega
  · rw [b1.1, b2.1, hz]; exact h
  · rw [b1.1, b2.1, l]; exact h
  · rw [(by decide : (0 : Int32).toNatClampNeg = 0), b1.1, b2.1]
    apply List.ext_getElem?
    intro i
    rw [own_buf_at (by rw [List.length_append]; omega)]
    simp only [List.getElem?_append, List.length_append, List.length_take, List.length_map, List.length_range, List.getElem?_map, List.getElem?_take, List.getElem?_drop, Nat.zero_add, l]
    rw [show min cs.length c = cs.length by omega]
    by_cases q : i < cs.length
    · rw [if_pos (by omega), if_pos q, if_pos q, if_pos (by omega), own_buf_at (by omega), if_pos q, if_pos q]
    · by_cases r : i < cs.length + ds.length
      · rw [if_pos r, if_neg q, if_pos r, if_neg q, List.getElem?_range (by omega)]
        simp only [Option.map_some, own_ch, List.getD_eq_getElem?_getD, List.getElem?_map]
        rw [List.getElem?_eq_getElem (by omega)]; rfl
      · rw [if_neg r, if_neg r, own_buf_at (by omega)]
        by_cases u : i < c
        · rw [if_neg (by omega), if_pos (by omega), if_pos u]
        · rw [if_neg (by omega), if_neg (by omega), if_neg u]
theorem own_cp_out {c : Nat} {cs : List Int32} {z : Int32} (h : cs.length ≤ c) (hc : c ≤ 100) (hz : z.toNatClampNeg = c) : own_cpl z (Int32.ofNat cs.length) (own_buf c cs) (List.replicate cs.length (.int (0 : Int32))) (0 : Int32) (0 : Int32) (Int32.ofNat cs.length) (own_ch cs) := by
  have b2 := own_back (n := cs.length) (by omega)
  refine ⟨by decide, by decide, b2.2, ?_, ?_, ?_, ?_⟩
  · rw [b2.1, hz, (by decide : (0 : Int32).toNatClampNeg = 0)]; omega
  · rw [b2.1, (by decide : (0 : Int32).toNatClampNeg = 0)]; omega
  · rw [b2.1, List.length_replicate, (by decide : (0 : Int32).toNatClampNeg = 0)]; omega
  · rw [(by decide : (0 : Int32).toNatClampNeg = 0), b2.1]
    apply List.ext_getElem?
    intro i
    simp only [List.take_zero, List.nil_append, Nat.zero_add, own_ch, List.getElem?_append, List.length_map, List.length_range, List.getElem?_map, List.getElem?_drop, List.getElem?_replicate]
    by_cases q : i < cs.length
    · rw [if_pos q, List.getElem?_range q]
      simp only [Option.map_some]
      rw [List.getD_eq_getElem?_getD, own_buf_at h, if_pos q, List.getElem?_eq_getElem q]; rfl
    · rw [if_neg q, if_neg (by omega), List.getElem?_eq_none (by omega)]; rfl
def own_gw (n : Nat) : Prop := 16 < n ∧ n ≤ 33
theorem own_subI {n : Nat} (h : n < 1000) (k : Int32) (i : Int) (hk : k.toInt = i) (h0 : 0 ≤ i) (h1 : i < 1000) : (Int32.ofNat n - k).toInt = (n : Int) - i := by
  have a := c_isub (Int32.ofNat n) k
  have r := rng32 (Int32.ofNat n - k)
  rw [own_toI (by omega), hk] at a
  omega
theorem own_ng {n : Nat} (h : n ≤ 16) : ¬ ((0 : Int32) < (Int32.ofNat n - (16 : Int32))) := own_nlt (by decide : (0 : Int32).toInt = 0) (own_subI (by omega) (16 : Int32) 16 (by decide) (by decide) (by decide)) (by omega)
theorem own_ng2 {n : Nat} (h : n ≤ 34) : ¬ ((0 : Int32) < (Int32.ofNat n - (34 : Int32))) := own_nlt (by decide : (0 : Int32).toInt = 0) (own_subI (by omega) (34 : Int32) 34 (by decide) (by decide) (by decide)) (by omega)
theorem own_gw1 {n : Nat} (h : own_gw n) : (0 : Int32) < (Int32.ofNat n - (16 : Int32)) := own_lt (by decide : (0 : Int32).toInt = 0) (own_subI (by have := h.2; omega) (16 : Int32) 16 (by decide) (by decide) (by decide)) (by have := h.1; omega)
theorem own_gw2 {n : Nat} (h : own_gw n) : (Int32.ofNat n - (16 : Int32)) < (18 : Int32) := own_lt (own_subI (by have := h.2; omega) (16 : Int32) 16 (by decide) (by decide) (by decide)) (by decide : (18 : Int32).toInt = 18) (by have := h.2; omega)
theorem own_shl0 (c : Int32) : (c <<< ((0 : Int32) &&& 31)) = c := by
  have q := c_ishl c (0 : Int32) 0 (by decide)
  have hk : ((2 ^ 0 : Nat) : Int) = 1 := by decide
  rw [hk] at q
  have r := rng32 (c <<< ((0 : Int32) &&& 31))
  have r' := rng32 c
  exact Int32.toInt_inj.mp (by omega)
theorem own_ln_buf {c : Nat} {cs : List Int32} {z : Int32} (hz : z = Int32.ofNat c) (h : cs.length ≤ c) : own_ln (own_buf c cs) z := by rw [own_ln, own_buf_len h]; exact hz
theorem own_gw_le {n : Nat} (h : own_gw n) : n ≤ 34 := by have := h.2; omega
theorem own_le_of {a b c : Nat} (h : a + b ≤ c) : a ≤ c := by omega
theorem own_cl_nn {cs : List Int32} {c : Nat} (h : cs.length < c) (hc : c ≤ 100) : ¬ (Int32.ofNat cs.length < (0 : Int32)) := (own_back (by omega)).2
theorem own_cl_cap {cs : List Int32} {c : Nat} (h : cs.length < c) (hc : c ≤ 100) : own_cap (Int32.ofNat cs.length) c := by unfold own_cap; rw [(own_back (by omega)).1]; omega
theorem own_cl_lt {cs : List Int32} {c : Nat} {z : Int32} (h : cs.length < c) (hc : c ≤ 100) (hz : z = Int32.ofNat c) : Int32.ofNat cs.length < z := by rw [hz]; exact own_ofNat_lt h (by omega)
theorem own_cl_ne {cs : List Int32} {c : Nat} {z : Int32} (h : cs.length < c) (hc : c ≤ 100) (hz : z = Int32.ofNat c) : ¬ (Int32.ofNat cs.length = z) := fun q => by
  have := own_cl_lt h hc hz
  rw [q] at this
  exact Int32.lt_irrefl this
theorem own_sub0 (x : Int32) : x - (0 : Int32) = x := by
  have q := c_isub x (0 : Int32)
  have r := rng32 (x - (0 : Int32))
  have r' := rng32 x
  rw [(by decide : (0 : Int32).toInt = 0)] at q
  exact Int32.toInt_inj.mp (by omega)
theorem own_full {Z : State} {h : Heap} {a : Addr} {k : ClassId} {cs : List Int32} {d : Value} (e : cs.length = 16) (V : Arv Z h a k .byte (16 : Int32) (own_buf 16 cs) d) : Arv Z h a k .byte (Int32.ofNat cs.length) (own_ch cs) d := by
  have q : own_buf 16 cs = own_ch cs := by simp [own_buf, e]
  rw [q] at V
  rw [e]; exact V
/-- the String b holds the chars cs, each below 128 -/
def own_rep (Z : State) (h : Heap) (b : Addr) (cs : List Int32) : Prop := ∃ (a : Addr) (k : ClassId), Fld Z h b "java/lang/String" "value" "[B" (.ref a) ∧ Fld Z h b "java/lang/String" "coder" "B" (.int (0 : Int32)) ∧ Arv Z h a k .byte (Int32.ofNat cs.length) (own_ch cs) (.int (0 : Int32))
theorem own_rep.ext {Z : State} {h h' : Heap} {b : Addr} {cs : List Int32} (T : own_rep Z h b cs) (E : Ext h h') : own_rep Z h' b cs := by
  obtain ⟨a, k, V, C, A⟩ := T
  exact ⟨a, k, V.ext E, C.ext E, A.ext E⟩
theorem own_rep.keep0 {Z : State} {h h' : Heap} {b : Addr} {cs : List Int32} (T : own_rep Z h b cs) (K : Keep h h' []) : own_rep Z h' b cs := by
  obtain ⟨a, k, V, C, A⟩ := T
  exact ⟨a, k, V.keep K nin0, C.keep K nin0, A.keep K nin0⟩
/-- a version's text -/
def own_vs (qa qb qc : Int32) (ka kb kc : Nat) : List Int32 := (((((([] : List Int32) ++ own_ds qa ka) ++ [(46 : Int32)]) ++ own_ds qb kb) ++ [(46 : Int32)]) ++ own_ds qc kc)
def own_at (cs : List Int32) (ii cc : Int32) : Prop := ¬ ii < 0 ∧ ii < Int32.ofNat cs.length ∧ cs[ii.toNatClampNeg]? = some cc ∧ cs.length < 100 ∧ 0 ≤ cc.toInt ∧ cc.toInt ≤ 127
theorem own_g_get {cs : List Int32} {ii cc : Int32} (h : own_at cs ii cc) : own_get (own_ch cs) ii (.int (0 : Int32)) (.int cc) := by
  unfold own_get
  rw [List.getD_eq_getElem?_getD, own_ch, List.getElem?_map, h.2.2.1]; rfl
theorem own_g_ib {cs : List Int32} {ii cc : Int32} (h : own_at cs ii cc) : own_ib ii (Int32.ofNat cs.length) := ⟨h.1, h.2.1⟩
theorem own_g_255 {cs : List Int32} {ii cc : Int32} (h : own_at cs ii cc) : (cc &&& (255 : Int32)) = cc := by
  have q := c_mask cc (255 : Int32) 8 (by decide) (by decide)
  have hk : ((2 ^ 8 : Nat) : Int) = 256 := by decide
  rw [hk] at q
  have h1 := h.2.2.2.2.1; have h2 := h.2.2.2.2.2
  exact Int32.toInt_inj.mp (by omega)
theorem own_g_i2c {cs : List Int32} {ii cc : Int32} (h : own_at cs ii cc) : cc.toUInt32.toUInt16.toUInt32.toInt32 = cc := by
  obtain ⟨a, b, d⟩ := c_i2c cc
  have h1 := h.2.2.2.2.1; have h2 := h.2.2.2.2.2
  exact Int32.toInt_inj.mp (by omega)
theorem own_g_nar {cs : List Int32} {ii cc : Int32} (h : own_at cs ii cc) : nar .char cc = cc := own_g_i2c h
theorem own_shr0 (c : Int32) : (c >>> ((0 : Int32) &&& 31)) = c := by
  have q := c_ishr c (0 : Int32) 0 (by decide)
  have hk : ((2 ^ 0 : Nat) : Int) = 1 := by decide
  rw [hk] at q
  exact Int32.toInt_inj.mp (by omega)
/-- from place od on, cs says q's kk digits -/
def own_sub (cs : List Int32) (od kk : Nat) (q : Int32) : Prop := own_nd q kk ∧ od + kk ≤ cs.length ∧ cs.length < 100 ∧ ∀ t, t < kk → cs[od + t]? = some (own_d q (kk - 1 - t))
def own_pw (j : Nat) : Int32 := Int32.ofNat (10 ^ j)
def own_dg (q : Int32) (j : Nat) : Int32 := Int32.ofNat (own_N q / 10 ^ j % 10)
theorem own_pwI {j : Nat} (h : j < 10) : (own_pw j).toInt = ((10 ^ j : Nat) : Int) := own_toI (Nat.lt_of_le_of_lt (Nat.pow_le_pow_right (by decide) (Nat.le_of_lt_succ h)) (by decide))
theorem own_pw0 {j : Nat} (h : j < 10) : ¬ (own_pw j = (0 : Int32)) := fun q => by
  have e := own_pwI h
  rw [q] at e
  have p : 0 < 10 ^ j := Nat.pow_pos (by decide)
  have : (0 : Int32).toInt = 0 := by decide
  omega
theorem own_dgd {q : Int32} {j : Nat} (h : j < 10) (hq : 0 ≤ q.toInt) : ((q / own_pw j) % (10 : Int32)) = own_dg q j := by
  have hne : own_pw j ≠ -1 := fun z => by
    have e := own_pwI h
    have p : (0 : Int) ≤ ((10 ^ j : Nat) : Int) := Int.natCast_nonneg _
    rw [← e, z] at p
    exact absurd p (by decide)
  have a := (c_idiv q (own_pw j) ((10 ^ j : Nat) : Int) (own_pwI h) hne).1 hq
  have eN : q.toInt = (own_N q : Int) := by simp only [own_N]; omega
  rw [eN] at a
  have a' : (q / own_pw j).toInt = ((own_N q / 10 ^ j : Nat) : Int) := a
  have b := (c_irem (q / own_pw j) (10 : Int32) 10 (by decide)).1 (by rw [a']; exact Int.natCast_nonneg _)
  apply Int32.toInt_inj.mp
  rw [b, a', own_dg, own_toI (by omega)]
  rfl
theorem own_dgc (q : Int32) (j : Nat) : ((48 : Int32) + own_dg q j).toUInt32.toUInt16.toUInt32.toInt32 = own_d q j := by
  have h : own_N q / 10 ^ j % 10 < 10 := Nat.mod_lt _ (by decide)
  rw [own_dg, own_d]
  generalize own_N q / 10 ^ j % 10 = r at *
  exact (by decide : ∀ r, r < 10 → ((48 : Int32) + Int32.ofNat r).toUInt32.toUInt16.toUInt32.toInt32 = Int32.ofNat (48 + r)) r h
theorem own_pws {j : Nat} (h : j < 10) : own_get [(.int (1 : Int32)), (.int (10 : Int32)), (.int (100 : Int32)), (.int (1000 : Int32)), (.int (10000 : Int32)), (.int (100000 : Int32)), (.int (1000000 : Int32)), (.int (10000000 : Int32)), (.int (100000000 : Int32)), (.int (1000000000 : Int32))] (Int32.ofNat j) (.int (0 : Int32)) (.int (own_pw j)) := own_get_of j (own_back (by omega)).1 ((by decide : ∀ j, j < 10 → [(Value.int (1 : Int32)), (.int (10 : Int32)), (.int (100 : Int32)), (.int (1000 : Int32)), (.int (10000 : Int32)), (.int (100000 : Int32)), (.int (1000000 : Int32)), (.int (10000000 : Int32)), (.int (100000000 : Int32)), (.int (1000000000 : Int32))].getD j (.int (0 : Int32)) = .int (own_pw j)) j h)
theorem own_sub_at {cs : List Int32} {od kk t : Nat} {q : Int32} (h : own_sub cs od kk q) (ht : t < kk) : own_at cs (Int32.ofNat (od + t)) (own_d q (kk - 1 - t)) := by
  obtain ⟨h1, h2, h3, h4⟩ := h
  have b := own_back (n := od + t) (by omega)
  have r : own_N q / 10 ^ (kk - 1 - t) % 10 < 10 := Nat.mod_lt _ (by decide)
  have e : (own_d q (kk - 1 - t)).toInt = ((48 + own_N q / 10 ^ (kk - 1 - t) % 10 : Nat) : Int) := own_toI (by omega)
  refine ⟨b.2, own_ofNat_lt (by omega) (by omega), by rw [b.1]; exact h4 t ht, h3, ?_, ?_⟩ <;> rw [e] <;> omega
theorem own_ofNat_sub {a b : Nat} (h : b ≤ a) (ha : a < 1000) : Int32.ofNat a - Int32.ofNat b = Int32.ofNat (a - b) := by
  apply Int32.toInt_inj.mp
  rw [own_subI ha (Int32.ofNat b) b (own_toI (by omega)) (by omega) (by omega), own_toI (by omega)]
  omega
theorem own_vs_len (qa qb qc : Int32) (ka kb kc : Nat) : (own_vs qa qb qc ka kb kc).length = ka + 1 + kb + 1 + kc := by
  simp only [own_vs, List.length_append, own_ds_len, List.length_cons, List.length_nil]; omega
theorem own_ds_at {q : Int32} {k t : Nat} (h : t < k) : (own_ds q k)[t]? = some (own_d q (k - 1 - t)) := by
  rw [own_ds, List.getElem?_map, List.getElem?_range h]; rfl
theorem own_vs_a {qa qb qc : Int32} {ka kb kc t : Nat} (h : t < ka) : (own_vs qa qb qc ka kb kc)[t]? = some (own_d qa (ka - 1 - t)) := by
  rw [own_vs, List.getElem?_append_left (by simp only [List.length_append, own_ds_len, List.length_cons, List.length_nil]; omega), List.getElem?_append_left (by simp only [List.length_append, own_ds_len, List.length_cons, List.length_nil]; omega), List.getElem?_append_left (by simp only [List.length_append, own_ds_len, List.length_cons, List.length_nil]; omega), List.getElem?_append_left (by simp only [List.length_append, own_ds_len, List.length_nil]; omega), List.nil_append]
  exact own_ds_at h
theorem own_vs_d {qa qb qc : Int32} {ka kb kc : Nat} : (own_vs qa qb qc ka kb kc)[ka]? = some (46 : Int32) := by
  simp only [own_vs, List.nil_append, List.append_assoc]
  rw [List.getElem?_append_right (by rw [own_ds_len]; omega), own_ds_len, Nat.sub_self]; rfl
theorem own_vs_b {qa qb qc : Int32} {ka kb kc t : Nat} (h : t < kb) : (own_vs qa qb qc ka kb kc)[ka + 1 + t]? = some (own_d qb (kb - 1 - t)) := by
  simp only [own_vs, List.nil_append, List.append_assoc]
  rw [List.getElem?_append_right (by rw [own_ds_len]; omega), own_ds_len, show ka + 1 + t - ka = t + 1 by omega, List.singleton_append, List.getElem?_cons_succ, List.getElem?_append_left (by rw [own_ds_len]; exact h)]
  exact own_ds_at h
theorem own_vs_e {qa qb qc : Int32} {ka kb kc : Nat} : (own_vs qa qb qc ka kb kc)[ka + 1 + kb]? = some (46 : Int32) := by
  simp only [own_vs, List.nil_append, List.append_assoc]
  rw [List.getElem?_append_right (by rw [own_ds_len]; omega), own_ds_len, show ka + 1 + kb - ka = kb + 1 by omega, List.singleton_append, List.getElem?_cons_succ, List.getElem?_append_right (by rw [own_ds_len]; omega), own_ds_len, Nat.sub_self]; rfl
theorem own_vs_c {qa qb qc : Int32} {ka kb kc t : Nat} (h : t < kc) : (own_vs qa qb qc ka kb kc)[ka + kb + 2 + t]? = some (own_d qc (kc - 1 - t)) := by
  simp only [own_vs, List.nil_append, List.append_assoc]
  rw [List.getElem?_append_right (by rw [own_ds_len]; omega), own_ds_len, show ka + kb + 2 + t - ka = (kb + 1 + t) + 1 by omega, List.singleton_append, List.getElem?_cons_succ, List.getElem?_append_right (by rw [own_ds_len]; omega), own_ds_len, show kb + 1 + t - kb = t + 1 by omega, List.singleton_append, List.getElem?_cons_succ]
  exact own_ds_at h
theorem own_law_at1 {qa qb qc : Int32} {ka kb kc : Nat} (a : own_nd qa ka) (b : own_nd qb kb) (c : own_nd qc kc) : own_at (own_vs qa qb qc ka kb kc) (Int32.ofNat ka) (46 : Int32) := by
  have h1 := (own_nd_pow a).2.2.1; have h2 := (own_nd_pow b).2.2.1; have h3 := (own_nd_pow c).2.2.1
  have l := own_vs_len qa qb qc ka kb kc
  have r := own_back (n := ka) (by omega)
  exact ⟨r.2, own_ofNat_lt (by omega) (by omega), by rw [r.1]; exact own_vs_d, by omega, by decide, by decide⟩
theorem own_law_at2 {qa qb qc : Int32} {ka kb kc : Nat} (a : own_nd qa ka) (b : own_nd qb kb) (c : own_nd qc kc) : own_at (own_vs qa qb qc ka kb kc) (Int32.ofNat (ka + 1 + kb)) (46 : Int32) := by
  have h1 := (own_nd_pow a).2.2.1; have h2 := (own_nd_pow b).2.2.1; have h3 := (own_nd_pow c).2.2.1
  have l := own_vs_len qa qb qc ka kb kc
  have r := own_back (n := ka + 1 + kb) (by omega)
  exact ⟨r.2, own_ofNat_lt (by omega) (by omega), by rw [r.1]; exact own_vs_e, by omega, by decide, by decide⟩
theorem own_law_sa {qa qb qc : Int32} {ka kb kc : Nat} (a : own_nd qa ka) (b : own_nd qb kb) (c : own_nd qc kc) : own_sub (own_vs qa qb qc ka kb kc) 0 ka qa := by
  have h1 := (own_nd_pow a).2.2.1; have h2 := (own_nd_pow b).2.2.1; have h3 := (own_nd_pow c).2.2.1
  have l := own_vs_len qa qb qc ka kb kc
  exact ⟨a, by omega, by omega, fun t ht => by rw [Nat.zero_add]; exact own_vs_a ht⟩
theorem own_law_sb {qa qb qc : Int32} {ka kb kc : Nat} (a : own_nd qa ka) (b : own_nd qb kb) (c : own_nd qc kc) : own_sub (own_vs qa qb qc ka kb kc) (ka + 1) kb qb := by
  have h1 := (own_nd_pow a).2.2.1; have h2 := (own_nd_pow b).2.2.1; have h3 := (own_nd_pow c).2.2.1
  have l := own_vs_len qa qb qc ka kb kc
  exact ⟨b, by omega, by omega, fun t ht => own_vs_b ht⟩
theorem own_law_sc {qa qb qc : Int32} {ka kb kc : Nat} (a : own_nd qa ka) (b : own_nd qb kb) (c : own_nd qc kc) : own_sub (own_vs qa qb qc ka kb kc) (ka + kb + 2) kc qc := by
  have h1 := (own_nd_pow a).2.2.1; have h2 := (own_nd_pow b).2.2.1; have h3 := (own_nd_pow c).2.2.1
  have l := own_vs_len qa qb qc ka kb kc
  exact ⟨c, by omega, by omega, fun t ht => own_vs_c ht⟩
theorem own_law_len (qa qb qc : Int32) (ka kb kc : Nat) : Int32.ofNat ka + Int32.ofNat kb + Int32.ofNat kc + (2 : Int32) = Int32.ofNat (own_vs qa qb qc ka kb kc).length := by
  rw [own_vs_len, ← Int32.ofNat_add, ← Int32.ofNat_add]
  exact (Int32.ofNat_add (ka + kb + kc) 2).symm.trans (by congr 1; omega)
theorem own_msk (p : Int32) : 0 ≤ (p &&& (2147483647 : Int32)).toInt := by
  have h := c_mask p (2147483647 : Int32) 31 (by decide) (by decide)
  have hk : ((2 ^ 31 : Nat) : Int) = 2147483648 := by decide
  rw [hk] at h
  omega
theorem own_arrB {Z : State} {a0 : Array Value} {a : Addr} (E : Exa Z Z.heap a "[B") (w : (Jvm.Cond.arrayClass .byte).before a0 Z = true) (u : ∀ cl, Z.heap[a]? = some cl → cl.vm ≠ .unknown) : ∃ cl, Arr Z Z.heap a cl .byte := by
  obtain ⟨cell, k, h1, h2, h3, h4, -⟩ := E
  obtain ⟨cA, kA, comp, g1, g2, g3⟩ := Cond.arrayClass_spec w
  have e : cA = cell.cls := Option.some.inj (g1.symm.trans h2)
  subst e
  exact ⟨cell, h1, ⟨(fun q e => by rw [e] at h4; cases h4), kA, g2, comp, g3⟩, u _ h1⟩
theorem own_dtab {Z : State} {args : Array Value} {t r : Term} {a : Addr} {cl : Cell} (et : ∀ idx, t.eval args Z none idx Z = some (.ref a)) (A : Arr Z Z.heap a cl .byte) (S : cl.slots.size = 100) (h : (Cond.all t (.eq (.elem t (.index 0)) r)).value args Z none Z [] = some true) (i : Nat) (hi : i < 100) (y : Int32) (hr : r.eval args Z none [i] Z = some (.int y)) : cl.slots[i]? = some (.int y) := by
  have u := Cond.all_elim (et []) (A.fin (Vm.Alike.refl _)) h i (by omega)
  have nn := own_back (n := i) (by omega)
  have ei : (Term.index 0).eval args Z none [i] Z = some (.int (Int32.ofNat i)) := by
    have q := idx_at (args := args) (s := Z) (first := Z) (o := none) nn.2
    rw [nn.1] at q
    exact q
  have e := elem_f (et [i]) ei (A.fin (Vm.Alike.refl _)) nn.2
  rw [nn.1] at e
  simp only [Cond.value, hr, e] at u
  cases q : cl.slots[i]? with
  | none => simp [q] at u
  | some x => cases x <;> simp [q] at u ⊢; exact u
theorem own_unk {Z : State} {args : Array Value} {t : Term} {a : Addr} {n : Int32} (ev : t.eval args Z none [] Z = some (.ref a)) (hL : (Term.length t).eval args Z none [] Z = some (.int n)) : ∀ cl, Z.heap[a]? = some cl → cl.vm ≠ .unknown := fun cl hc hu => by
  have q : Z.arrayAt? a = none := by
    simp only [State.arrayAt?, hc, hu, Option.bind_eq_bind, Option.bind_some]
    cases Z.vm.classes[cl.cls]? <;> simp
  simp [Term.eval, ev, q] at hL
theorem own_digits {Z : State} {args a0 : Array Value} {C n d : String} {r : Term} {xs : List Value} (hx : (Cond.exactly (.static C n d) "[B").value args Z none Z [] = some true) (hi : (Cond.initializedFor C n d).before args Z = true) (hl : (Cond.eq (.length (.static C n d)) (.int (100 : Int32))).value args Z none Z [] = some true) (ha : (Cond.all (.static C n d) (.eq (.elem (.static C n d) (.index 0)) r)).value args Z none Z [] = some true) (w : (Jvm.Cond.arrayClass .byte).before a0 Z = true) (hr : ∀ i, i < 100 → ∃ y, r.eval args Z none [i] Z = some (.int y) ∧ xs.getD i (.int (0 : Int32)) = .int y ∧ fits .byte (.int y) = true) : ∃ (a : Addr) (k : ClassId), Sta Z Z.heap C n d (.ref a) ∧ Arv Z Z.heap a k .byte (100 : Int32) xs (.int (0 : Int32)) := by
  obtain ⟨a, ev⟩ := exa_v hx
  have E := Exa.start ev hx
  have hL := own_eqI hl
  have et : ∀ idx, (Term.static C n d).eval args Z none idx Z = some (.ref a) := fun idx => ev
  obtain ⟨cl, A⟩ := own_arrB E w (own_unk ev hL)
  have S : cl.slots.size = 100 := own_len ev A hL (by decide)
  refine ⟨a, cl.cls, Sta.start ev (Or.inl hi), cl, A, rfl, S, by decide, fun i hi => ?_, fun i hi => ?_⟩
  · obtain ⟨y, e, f, -⟩ := hr i (by omega)
    rw [own_dtab et A S ha i (by omega) y e, f]
  · obtain ⟨y, -, f, g⟩ := hr i (by omega)
    rw [f]; exact g
theorem own_on (args : Array Value) (Z : State) (i : Nat) (h : i < 100) : ∃ y, (Term.add (.int (48 : Int32)) (.rem (.index 0) (.int (10 : Int32)))).eval args Z none [i] Z = some (.int y) ∧ own_ones.getD i (.int (0 : Int32)) = .int y ∧ fits .byte (.int y) = true :=
  ⟨(48 : Int32) + (Int32.ofNat i % 10), rfl, (by decide : ∀ i, i < 100 → own_ones.getD i (.int (0 : Int32)) = .int ((48 : Int32) + (Int32.ofNat i % 10))) i h, (by decide : ∀ i, i < 100 → fits .byte (.int ((48 : Int32) + (Int32.ofNat i % 10))) = true) i h⟩
theorem own_tn (args : Array Value) (Z : State) (i : Nat) (h : i < 100) : ∃ y, (Term.add (.int (48 : Int32)) (.div (.index 0) (.int (10 : Int32)))).eval args Z none [i] Z = some (.int y) ∧ own_tens.getD i (.int (0 : Int32)) = .int y ∧ fits .byte (.int y) = true :=
  ⟨(48 : Int32) + (Int32.ofNat i / 10), rfl, (by decide : ∀ i, i < 100 → own_tens.getD i (.int (0 : Int32)) = .int ((48 : Int32) + (Int32.ofNat i / 10))) i h, (by decide : ∀ i, i < 100 → fits .byte (.int ((48 : Int32) + (Int32.ofNat i / 10))) = true) i h⟩
theorem own_decl {Z : State} {a0 : Array Value} {y : MethodName} {b : ByteArray} {ml : Nat} {rt : Option FieldType} (w2 : (Jvm.Cond.instanceMethod y).before a0 Z = true) (w4 : (Jvm.Cond.code y b ml rt).before a0 Z = true) : (Jvm.Cond.declares y).before a0 Z = true := by
  obtain ⟨mk, methM, hnamed, hmethM, hstM, -⟩ := Cond.instanceMethod_spec w2
  obtain ⟨m2, cM, q1, -, -, -, -, -, -, hsig⟩ := Cond.code_spec hnamed w4
  cases hmethM.symm.trans q1
  simp [Cond.before, Cond.holds, Cond.value, hnamed, hmethM, hstM, hsig]
theorem own_same {Z : State} {a0 : Array Value} {y z : MethodName} {C : String} (w3 : (Jvm.Cond.instanceMethod y).before a0 Z = true) (ws : (Jvm.Cond.selects C z z).before a0 Z = true) (hc : z.cls = y.cls) (hy : y.cls ≠ "java/lang/invoke/MethodHandle" ∧ y.cls ≠ "java/lang/invoke/VarHandle") : (Jvm.Cond.sameMethod y.cls y.cls y.name y.desc).before a0 Z = true := by
  obtain ⟨mk, methM, hnamed, -, -, -⟩ := Cond.instanceMethod_spec w3
  obtain ⟨c2, r2, m2, -, -, q3, -, kP, hkP, hkPi⟩ := Cond.selects_spec ws
  have h1 := findClass_of_methodNamed hnamed
  have h2 := findClass_of_methodNamed q3
  rw [hc] at h2
  have e : m2.cls = mk.cls := Option.some.inj (h2.symm.trans h1)
  rw [e] at hkP
  have hf := State.methodFound?_of_named hnamed hy
  have hn' : Z.methodNamed? ⟨y.cls, y.name, y.desc⟩ = some mk := hnamed
  simp [Cond.before, Cond.holds, Cond.value, h1, hf, hn', hkP, hkPi]
section OwnCallsS
variable {p : Program} {l : Launch} {e : Env} {R : Room} {s : State} {m : MethodId} {args : Array Value} {below : List Frame} {meth : Method} {c : Code} {T : State} {locs : List Loc} {cells slots : Nat} {Z : State} {a0 : Array Value} {h : Heap} {own : String} {index : Nat} {y z : MethodName} {b : ByteArray} {ml : Nat} {rt : Option FieldType} {rm : Room} {as' : Array Value} {Q : Option Value → Heap → List Loc → Prop} {W : Nat} {g : JFrame} {argsL rest : List Value}
theorem own_super (X : Stand p l e R s m args below meth c T locs cells slots) (hx : p.tables.exec = Jvm.exec) (hZ : Z.Warmed39 s.vm) (hown : s.vm.findClass own = some m.cls) {K : String} (w1 : (Jvm.Cond.methodLink own index y).before a0 Z = true) (w5 : (Jvm.Cond.sameMethod y.cls y.cls y.name y.desc).before a0 Z = true) (w2 : (Jvm.Cond.instanceMethod y).before a0 Z = true) (w6 : (Jvm.Cond.superclass own y.cls).before a0 Z = true) (w3 : (Jvm.Cond.initialized y.cls).before a0 Z = true) (w4 : (Jvm.Cond.code y b ml rt).before a0 Z = true)
    (hM : own_met l y b ml rt [] rm Z as' h Q) (eT : T.heap = h) {a : Addr} (F : Ins Z h a K true) (hlen : ∀ sig, parseMethodDescriptor y.desc = some sig → argsL.length = sig.parameters.length) (hd : decode c.code g.pc = .ok (.invokespecial index, 3)) {ML : Nat} (hml : c.maxLocals = ML) (hn : y.name ≠ "<init>" := by decide) (hf : rm.frames + 1 ≤ R.frames := by decide) (hl : W + (ml + 11) + rm.locals ≤ R.locals := by decide) (hg : g.method = m := by rfl) (hsz : g.locals.size = ML := by rfl) (ha : (Value.ref a :: argsL).toArray = as' := by rfl) (hs : g.stack = argsL.reverse ++ .ref a :: rest := by rfl) (hW : 2 * g.monitorRoom + (rest.map fun v => v.category).sum ≤ W := by (show 2 * 0 + _ ≤ _; exact Nat.le_of_eq rfl)) (hc : cells + rm.cells ≤ R.cells := by decide) (hsl : slots + rm.slots ≤ R.slots := by decide) :
    ∃ v T' L, Stand p l e R s m args below meth c T' (locs ++ L) (cells + rm.cells) (slots + rm.slots) ∧ Q v T'.heap L ∧ ∀ target, Steps p.tables e below (T'.setTop { g with pc := g.pc + 3, stack := v.toList ++ rest }) target → Steps p.tables e below (T.setTop g) target := by
  obtain ⟨v, _, ⟨T', L', k', n'⟩, -, X', ⟨Lc, hQ, l1, y1, z1⟩, st⟩ := superBack X hx hZ hown w1 w5 w2 w6 hn (backOf (W := W) hM hZ w4 w3 hf hl) eT F (g := g) hg (hsz.trans hml.symm) w4 (argsL := argsL) (rest := rest) hlen hs hW hd (fun _ _ => ⟨ha, eT, hc, hsl⟩)
  dsimp only [Pt.U, Pt.locs, Pt.cells, Pt.slots] at X' l1 y1 z1 st hQ
  subst l1 y1 z1
  exact ⟨v, T', Lc, X', hQ, fun _ k => st.trans k⟩
theorem own_virtualO (X : Stand p l e R s m args below meth c T locs cells slots) (hx : p.tables.exec = Jvm.exec) (hZ : Z.Warmed39 s.vm) (hown : s.vm.findClass own = some m.cls) {C : String} {u : MethodName} (w1 : (Jvm.Cond.methodLink own index z).before a0 Z = true) (w5 : (Jvm.Cond.declares z).before a0 Z = true) (wf : (Jvm.Cond.selects C u u).before a0 Z = true) (hu : u.cls = z.cls) (w6 : (Jvm.Cond.selects C z y).before a0 Z = true) (w2 : (Jvm.Cond.instanceMethod y).before a0 Z = true) (w3 : (Jvm.Cond.initialized y.cls).before a0 Z = true) (w4 : (Jvm.Cond.code y b ml rt).before a0 Z = true)
    (hM : own_met l y b ml rt [] rm Z as' h Q) (eT : T.heap = h) {a : Addr} (E : Exa Z h a C) (hlen : ∀ sig, parseMethodDescriptor z.desc = some sig → argsL.length = sig.parameters.length) (hd : decode c.code g.pc = .ok (.invokevirtual index, 3)) {ML : Nat} (hml : c.maxLocals = ML) (hy : z.cls ≠ "java/lang/invoke/MethodHandle" ∧ z.cls ≠ "java/lang/invoke/VarHandle" := by decide) (hf : rm.frames + 1 ≤ R.frames := by decide) (hl : W + (ml + 11) + rm.locals ≤ R.locals := by decide) (hg : g.method = m := by rfl) (hsz : g.locals.size = ML := by rfl) (ha : (Value.ref a :: argsL).toArray = as' := by rfl) (hs : g.stack = argsL.reverse ++ .ref a :: rest := by rfl) (hW : 2 * g.monitorRoom + (rest.map fun v => v.category).sum ≤ W := by (show 2 * 0 + _ ≤ _; exact Nat.le_of_eq rfl)) (hc : cells + rm.cells ≤ R.cells := by decide) (hsl : slots + rm.slots ≤ R.slots := by decide) :
    ∃ v T' L, Stand p l e R s m args below meth c T' (locs ++ L) (cells + rm.cells) (slots + rm.slots) ∧ Q v T'.heap L ∧ ∀ target, Steps p.tables e below (T'.setTop { g with pc := g.pc + 3, stack := v.toList ++ rest }) target → Steps p.tables e below (T.setTop g) target := by
  obtain ⟨cq, kq, qa, qb, qc⟩ := isOf hZ eT E
  have nf : NotFace s z := fun r hr => by
    obtain ⟨c2, r2, m2, -, -, q3, -, kP, hkP, hkPi⟩ := Cond.selects_spec (mvT (args := #[]) hZ wf)
    have h1 := findClass_of_methodNamed hr
    have h2 := findClass_of_methodNamed q3
    rw [hu] at h2
    have e : m2.cls = r.cls := Option.some.inj (h2.symm.trans h1)
    rw [e] at hkP
    exact ⟨kP, hkP, hkPi⟩
  obtain ⟨v, _, ⟨T', L', k', n'⟩, -, X', ⟨Lc, hQ, l1, y1, z1⟩, st⟩ := X.virtualBack hx (y := z) (z := y) hown (mvT hZ w1) (mvT hZ w5) nf (mvT hZ w6) (mvT hZ w2) hy (backOf (W := W) hM hZ w4 w3 hf hl) qa qc (g := g) hg (hsz.trans hml.symm) (Steps.refl _) (argsL := argsL) (rest := rest) hlen hs hW hd (fun _ _ => ⟨ha, eT, hc, hsl⟩)
  dsimp only [Pt.U, Pt.locs, Pt.cells, Pt.slots] at X' l1 y1 z1 st hQ
  subst l1 y1 z1
  exact ⟨v, T', Lc, X', hQ, fun _ k => st.trans k⟩
end OwnCallsS
/-- a body's contract where a String constant may be loaded -/
abbrev own_metW (l : Launch) (y : MethodName) (b : ByteArray) (ml : Nat) (rt : Option FieldType) (ws : List Jvm.Cond) (R : Room) (Z : State) (A : Array Value) (h0 : Heap) (Q : Option Value → Heap → List Loc → Prop) : Prop :=
  MetFree l y (head1 (Jvm.Cond.code y b ml rt :: ws) R) (fun a U => a = A ∧ Z.Warmed39 U.vm ∧ U.heap = h0 ∧ CHv Z consts_1 U.vm h0) (fun _ _ _ _ _ => True) (fun _ U o U' => ∃ v L, o = .returned v ∧ Q v U'.heap L ∧ CHr Z consts_1 U.vm U.heap U'.vm U'.heap ∧ ReturnedEndW U o U' L R.cells R.slots)
theorem own_startW {l : Launch} {y : MethodName} {b : ByteArray} {ml : Nat} {rt : Option FieldType} {ws : List Jvm.Cond} {R : Room} {Z : State} {A : Array Value} {h0 : Heap} {Q : Option Value → Heap → List Loc → Prop} {Ls : Array Slot}
    (hpl : plainFor y = true) (hef : ∀ m, entryFrame m A ml = mkF m 0 Ls [])
    (body : ∀ p e s m below meth c s₁, p.tables.exec = Jvm.exec → c.code = b → c.maxLocals = ml → s.vm.findClass y.cls = some m.cls → meth.name = y.name → Stand p l e R s m A below meth c s₁ [] 0 0 → Z.Warmed39 s.vm → s₁.heap = h0 → meth.sig.returnType = rt → meth.locks = false → s.heap = h0 → CHv Z consts_1 s.vm h0 →
      ∃ s₂ o, Steps p.tables e below (s₁.setTop (mkF m 0 Ls [])) s₂ ∧ s₂.status = .running ∧ Ended s₂ below o ∧ ∃ v L, o = .returned v ∧ Q v s₂.heap L ∧ CHr Z consts_1 s.vm s.heap s₂.vm s₂.heap ∧ ReturnedEndW s o s₂ L R.cells R.slots) : own_metW l y b ml rt ws R Z A h0 Q := by
  refine MetFree.of_bodySF hpl hisR ?_
  intro p e s m args below meth c s₁ Bd hml0 hP hK
  obtain ⟨rfl, hZ, hh, hC⟩ := hP
  obtain ⟨s₂, o, k, r⟩ := body p e s m below meth c s₁ Bd.exec Bd.bytes hml0 (findClass_of_methodNamed Bd.named) (name_of_methodNamed Bd.named Bd.method).1 (Stand.of_body Bd) hZ (by rw [← hh, Bd.state]; rfl) Bd.returns Bd.notSynchronized hh hC
  exact ⟨s₂, o, castTop (hef m) k, r⟩
theorem own_safe {Z : State} {a0 : Array Value} {EL : List (String × Nat)} {vm : Vm} {h : Heap} {x : Addr} {n : Nat} (hal : Z.vm.Alike vm) (E : Exa Z h x "java/lang/String") (w : (Jvm.Cond.instantiable "java/lang/String" n).before a0 Z = true) (F : Fld Z h x "java/lang/String" "value" "[B" .null) : Safe Z EL vm h x := fun B => by
  obtain ⟨p, -, u, a, -, q, -, F', rfl | rfl⟩ := B
  · obtain ⟨cS, ⟨⟨s1, s2, s3, ⟨cv, kv, iv, s4, s4'⟩, -, s6, s7, s8, -⟩, -⟩, -⟩ := F'
    obtain ⟨kv', z4⟩ := ff_back (U := Wst Z vm h) hal s4
    have G : Fld Z h q.sa "java/lang/String" "value" "[B" (.ref q.sd) := ⟨q.sC, cv, kv', iv, q.fSV, s1, z4, s6, s2, s3, by rw [← hal.assignable]; exact s4', s8⟩
    exact Fld.ne F G (fun q => nomatch q) rfl
  · obtain ⟨cS, ⟨⟨-, -, -, -, -, -, -, -, -, s10, ⟨hst, kB, hkB, compB, hkindB⟩, -⟩, -⟩, -⟩ := F'
    obtain ⟨c1, k1, e1, f1, g1, -⟩ := E
    cases (show h[q.sd]? = some q.SA from s10).symm.trans e1
    simp only [Cond.before, Cond.holds, Cond.value, f1, Option.bind_some, g1, Option.map_some] at w
    have ho : k1.kind = .ordinary := by
      simp only [beq_iff_eq, Option.some.injEq, Bool.and_eq_true, decide_eq_true_eq] at w; exact w.1.1.1
    obtain ⟨k1', hk1', ek1⟩ := hal.2.2 _ _ g1
    cases (show vm.classes[q.SA.cls]? = some kB from hkB).symm.trans hk1'
    rw [ek1] at hkindB
    have := hkindB.symm.trans ho
    cases this
section OwnCallsW
variable {p : Program} {l : Launch} {e : Env} {R : Room} {s : State} {m : MethodId} {args : Array Value} {below : List Frame} {meth : Method} {c : Code} {T : State} {locs : List Loc} {cells slots : Nat} {Z : State} {a0 : Array Value} {h : Heap} {own : String} {index : Nat} {y z : MethodName} {b : ByteArray} {ml : Nat} {rt : Option FieldType} {rm : Room} {as' : Array Value} {Q : Option Value → Heap → List Loc → Prop} {W : Nat} {g : JFrame} {argsL rest : List Value} {vm0 : Vm} {k0 : Nat}
theorem own_staticW (X : Stand p l e R (s.setVm vm0) m args below meth c T locs cells slots) (hx : p.tables.exec = Jvm.exec) (hZ : Z.Warmed39 vm0) (hown : vm0.findClass own = some m.cls) (w1 : (Jvm.Cond.methodLink own index y).before a0 Z = true) (w2 : (Jvm.Cond.static y).before a0 Z = true) (w3 : (Jvm.Cond.initialized y.cls).before a0 Z = true) (w4 : (Jvm.Cond.code y b ml rt).before a0 Z = true)
    (hM : own_metW l y b ml rt [] rm Z as' h Q) (eT : T.heap = h) (hEL : EW Z a0 consts_1) (H : CHv Z consts_1 vm0 h) (hS : s.Since vm0 k0) (hk : k0 ≤ h.size) (hlen : ∀ sig, parseMethodDescriptor y.desc = some sig → argsL.length = sig.parameters.length) (hd : decode c.code g.pc = .ok (.invokestatic index, 3)) {ML : Nat} (hml : c.maxLocals = ML) (hy : y.cls ≠ "java/lang/invoke/MethodHandle" ∧ y.cls ≠ "java/lang/invoke/VarHandle" := by decide) (hf : rm.frames + 1 ≤ R.frames := by decide) (hl : W + (ml + 11) + rm.locals ≤ R.locals := by decide) (hg : g.method = m := by rfl) (hsz : g.locals.size = ML := by rfl) (ha : argsL.toArray = as' := by rfl) (hs : g.stack = argsL.reverse ++ rest := by rfl) (hW : 2 * g.monitorRoom + (rest.map fun v => v.category).sum ≤ W := by (show 2 * 0 + _ ≤ _; exact Nat.le_of_eq rfl)) (hc : cells + rm.cells ≤ R.cells := by decide) (hsl : slots + rm.slots ≤ R.slots := by decide) :
    ∃ v T' L, Stand p l e R (s.setVm T'.vm) m args below meth c T' (locs ++ L) (cells + rm.cells) (slots + rm.slots) ∧ Q v T'.heap L ∧ s.Since T'.vm T'.heap.size ∧ Z.Warmed39 (s.setVm T'.vm).vm ∧ (s.setVm T'.vm).vm.findClass own = some m.cls ∧ CHr Z consts_1 vm0 h T'.vm T'.heap ∧ ∀ target, Steps p.tables e below (T'.setTop { g with pc := g.pc + 3, stack := v.toList ++ rest }) target → Steps p.tables e below (T.setTop g) target := by
  obtain ⟨v, _, ⟨T', L', k', n'⟩, -, X', h2, hgr, ⟨Lc, hQ, l1, y1, z1, hC⟩, st⟩ := callSS X hx (y := y) hown (mvT (s := s.setVm vm0) hZ w1) (mvT (s := s.setVm vm0) hZ w2) (mvT (s := s.setVm vm0) hZ w3) (mvT (s := s.setVm vm0) hZ w4) hy (backOfSH (W := W) hM hZ w4 w3 hf hl hEL H) (g := g) hg (hsz.trans hml.symm) (argsL := argsL) (rest := rest) hlen hs hW hd (fun _ _ => ⟨ha, eT, hc, hsl⟩)
  dsimp only [Pt.U, Pt.locs, Pt.cells, Pt.slots] at X' h2 hgr l1 y1 z1 st hQ hC
  subst l1 y1 z1
  obtain ⟨Y, a, b', d⟩ := rebS hS hk X' h2 (by rw [← eT]; exact hgr) hZ hown
  exact ⟨v, T', Lc, Y, hQ, a, b', d, hC, fun _ k => st.trans k⟩
theorem own_specialW (X : Stand p l e R (s.setVm vm0) m args below meth c T locs cells slots) (hx : p.tables.exec = Jvm.exec) (hZ : Z.Warmed39 vm0) (hown : vm0.findClass own = some m.cls) (hn : y.name = "<init>") (w1 : (Jvm.Cond.methodLink own index y).before a0 Z = true) (w2 : (Jvm.Cond.instanceMethod y).before a0 Z = true) (w3 : (Jvm.Cond.initialized y.cls).before a0 Z = true) (w4 : (Jvm.Cond.code y b ml none).before a0 Z = true)
    (hM : own_metW l y b ml none [] rm Z as' h Q) (eT : T.heap = h) (hEL : EW Z a0 consts_1) (H : CHv Z consts_1 vm0 h) (hS : s.Since vm0 k0) (hk : k0 ≤ h.size) (a : Addr) (hlen : ∀ sig, parseMethodDescriptor y.desc = some sig → argsL.length = sig.parameters.length) (hd : decode c.code g.pc = .ok (.invokespecial index, 3)) {ML : Nat} (hml : c.maxLocals = ML) (hy : y.cls ≠ "java/lang/invoke/MethodHandle" ∧ y.cls ≠ "java/lang/invoke/VarHandle" := by decide) (hf : rm.frames + 1 ≤ R.frames := by decide) (hl : W + (ml + 11) + rm.locals ≤ R.locals := by decide) (hg : g.method = m := by rfl) (hsz : g.locals.size = ML := by rfl) (ha : (Value.ref a :: argsL).toArray = as' := by rfl) (hs : g.stack = argsL.reverse ++ .ref a :: rest := by rfl) (hW : 2 * g.monitorRoom + (rest.map fun v => v.category).sum ≤ W := by (show 2 * 0 + _ ≤ _; exact Nat.le_of_eq rfl)) (hc : cells + rm.cells ≤ R.cells := by decide) (hsl : slots + rm.slots ≤ R.slots := by decide) :
    ∃ v T' L, Stand p l e R (s.setVm T'.vm) m args below meth c T' (locs ++ L) (cells + rm.cells) (slots + rm.slots) ∧ Q v T'.heap L ∧ s.Since T'.vm T'.heap.size ∧ Z.Warmed39 (s.setVm T'.vm).vm ∧ (s.setVm T'.vm).vm.findClass own = some m.cls ∧ CHr Z consts_1 vm0 h T'.vm T'.heap ∧ ∀ target, Steps p.tables e below (T'.setTop { g with pc := g.pc + 3, stack := v.toList ++ rest }) target → Steps p.tables e below (T.setTop g) target := by
  obtain ⟨v, _, ⟨T', L', k', n'⟩, -, X', h2, hgr, ⟨Lc, hQ, l1, y1, z1, hC⟩, st⟩ := X.specialBackS hx (y := y) hn hown (mvT (s := s.setVm vm0) hZ w1) (mvT (s := s.setVm vm0) hZ w2) (mvT (s := s.setVm vm0) hZ w4) hy (backOfSH (W := W) hM hZ w4 w3 hf hl hEL H) (g := g) hg (hsz.trans hml.symm) (Steps.refl _) (a := a) (argsL := argsL) (rest := rest) hlen hs hW hd (fun _ _ => ⟨ha, eT, hc, hsl⟩)
  dsimp only [Pt.U, Pt.locs, Pt.cells, Pt.slots] at X' h2 hgr l1 y1 z1 st hQ hC
  subst l1 y1 z1
  obtain ⟨Y, a', b', d⟩ := rebS hS hk X' h2 (by rw [← eT]; exact hgr) hZ hown
  exact ⟨v, T', Lc, Y, hQ, a', b', d, hC, fun _ k => st.trans k⟩
theorem own_virtualW (X : Stand p l e R (s.setVm vm0) m args below meth c T locs cells slots) (hx : p.tables.exec = Jvm.exec) (hZ : Z.Warmed39 vm0) (hown : vm0.findClass own = some m.cls) {C : String} (w1 : (Jvm.Cond.methodLink own index y).before a0 Z = true) (w5 : (Jvm.Cond.declares y).before a0 Z = true) (w6 : (Jvm.Cond.selects C y y).before a0 Z = true) (w2 : (Jvm.Cond.instanceMethod y).before a0 Z = true) (w3 : (Jvm.Cond.initialized y.cls).before a0 Z = true) (w4 : (Jvm.Cond.code y b ml rt).before a0 Z = true)
    (hM : own_metW l y b ml rt [] rm Z as' h Q) (eT : T.heap = h) (hEL : EW Z a0 consts_1) (H : CHv Z consts_1 vm0 h) (hS : s.Since vm0 k0) (hk : k0 ≤ h.size) {a : Addr} (E : Exa Z h a C) (hlen : ∀ sig, parseMethodDescriptor y.desc = some sig → argsL.length = sig.parameters.length) (hd : decode c.code g.pc = .ok (.invokevirtual index, 3)) {ML : Nat} (hml : c.maxLocals = ML) (hy : y.cls ≠ "java/lang/invoke/MethodHandle" ∧ y.cls ≠ "java/lang/invoke/VarHandle" := by decide) (hf : rm.frames + 1 ≤ R.frames := by decide) (hl : W + (ml + 11) + rm.locals ≤ R.locals := by decide) (hg : g.method = m := by rfl) (hsz : g.locals.size = ML := by rfl) (ha : (Value.ref a :: argsL).toArray = as' := by rfl) (hs : g.stack = argsL.reverse ++ .ref a :: rest := by rfl) (hW : 2 * g.monitorRoom + (rest.map fun v => v.category).sum ≤ W := by (show 2 * 0 + _ ≤ _; exact Nat.le_of_eq rfl)) (hc : cells + rm.cells ≤ R.cells := by decide) (hsl : slots + rm.slots ≤ R.slots := by decide) :
    ∃ v T' L, Stand p l e R (s.setVm T'.vm) m args below meth c T' (locs ++ L) (cells + rm.cells) (slots + rm.slots) ∧ Q v T'.heap L ∧ s.Since T'.vm T'.heap.size ∧ Z.Warmed39 (s.setVm T'.vm).vm ∧ (s.setVm T'.vm).vm.findClass own = some m.cls ∧ CHr Z consts_1 vm0 h T'.vm T'.heap ∧ ∀ target, Steps p.tables e below (T'.setTop { g with pc := g.pc + 3, stack := v.toList ++ rest }) target → Steps p.tables e below (T.setTop g) target := by
  obtain ⟨cq, kq, qa, qb, qc⟩ := isOf (s := s.setVm vm0) hZ eT E
  obtain ⟨v, _, ⟨T', L', k', n'⟩, -, X', h2, hgr, ⟨Lc, hQ, l1, y1, z1, hC⟩, st⟩ := X.virtualBackS hx (y := y) (z := y) hown (mvT (s := s.setVm vm0) hZ w1) (mvT (s := s.setVm vm0) hZ w5) (notFace_of_selects (args := #[]) (mvT (s := s.setVm vm0) hZ w6)) (mvT (s := s.setVm vm0) hZ w6) (mvT (s := s.setVm vm0) hZ w2) hy (backOfSH (W := W) hM hZ w4 w3 hf hl hEL H) qa qc (g := g) hg (hsz.trans hml.symm) (Steps.refl _) (argsL := argsL) (rest := rest) hlen hs hW hd (fun _ _ => ⟨ha, eT, hc, hsl⟩)
  dsimp only [Pt.U, Pt.locs, Pt.cells, Pt.slots] at X' h2 hgr l1 y1 z1 st hQ hC
  subst l1 y1 z1
  obtain ⟨Y, a', b', d⟩ := rebS hS hk X' h2 (by rw [← eT]; exact hgr) hZ hown
  exact ⟨v, T', Lc, Y, hQ, a', b', d, hC, fun _ k => st.trans k⟩
end OwnCallsW
/-- a contract without constants, as one with -/
theorem own_metW_of {l : Launch} {y : MethodName} {b : ByteArray} {ml : Nat} {rt : Option FieldType} {ws : List Jvm.Cond} {R : Room} {Z : State} {A : Array Value} {h0 : Heap} {Q : Option Value → Heap → List Loc → Prop} (M : own_met l y b ml rt ws R Z A h0 Q) : MetFree l y (head1 (Jvm.Cond.code y b ml rt :: ws) R) (fun a U => a = A ∧ Z.Warmed39 U.vm ∧ U.heap = h0 ∧ CHv Z consts_1 U.vm h0) (fun _ _ _ _ _ => True) (fun _ U o U' => ∃ v L, o = .returned v ∧ Q v U'.heap L ∧ ReturnedEndW U o U' L R.cells R.slots) :=
  M.mono (fun _ _ h => ⟨h.1, h.2.1, h.2.2.1⟩) (fun _ _ _ _ _ h => h) (fun _ _ _ _ _ r => by obtain ⟨v, L, a, b, c⟩ := r; exact ⟨v, L, a, b, ReturnedEndW.of_narrow c.1 c.2.1 c.2.2⟩)
theorem own_metW_drop {l : Launch} {y : MethodName} {b : ByteArray} {ml : Nat} {rt : Option FieldType} {ws : List Jvm.Cond} {R : Room} {Z : State} {A : Array Value} {h0 : Heap} {Q : Option Value → Heap → List Loc → Prop} (M : own_metW l y b ml rt ws R Z A h0 Q) : MetFree l y (head1 (Jvm.Cond.code y b ml rt :: ws) R) (fun a U => a = A ∧ Z.Warmed39 U.vm ∧ U.heap = h0 ∧ CHv Z consts_1 U.vm h0) (fun _ _ _ _ _ => True) (fun _ U o U' => ∃ v L, o = .returned v ∧ Q v U'.heap L ∧ ReturnedEndW U o U' L R.cells R.slots) :=
  M.mono (fun _ _ h => h) (fun _ _ _ _ _ h => h) (fun _ _ _ _ _ r => by obtain ⟨v, L, a, b, c, d⟩ := r; exact ⟨v, L, a, b, d⟩)
theorem own_monoW {l : Launch} {y : MethodName} {b : ByteArray} {ml : Nat} {rt : Option FieldType} {ws : List Jvm.Cond} {R : Room} {Z : State} {A : Array Value} {h0 : Heap} {Q Q' : Option Value → Heap → List Loc → Prop} (M : own_metW l y b ml rt ws R Z A h0 Q) (q : ∀ v h L, Q v h L → Q' v h L) : own_metW l y b ml rt ws R Z A h0 Q' :=
  M.mono (fun _ _ h => h) (fun _ _ _ _ _ h => h) (fun _ _ _ _ _ r => by obtain ⟨v, L, a, b, c, d⟩ := r; exact ⟨v, L, a, q _ _ _ b, c, d⟩)

abbrev own_w_CS (Z : State) (w_CS : Int32) : Prop := Sta Z Z.heap "java/lang/String" "COMPACT_STRINGS" "Z" (.int w_CS)
abbrev own_w_SF (Z : State) (w_SF : Value) : Prop := Sta Z Z.heap "jdk/internal/util/Preconditions" "SIOOBE_FORMATTER" "Ljava/util/function/BiFunction;" w_SF
abbrev own_Sw_DO (Z : State) (w_DO : Addr) : Prop := Sta Z Z.heap "java/lang/Integer" "DigitOnes" "[B" (.ref w_DO)
abbrev own_Sw_DT (Z : State) (w_DT : Addr) : Prop := Sta Z Z.heap "java/lang/Integer" "DigitTens" "[B" (.ref w_DT)
theorem pf_0 : plainFor ⟨"java/lang/Math", "max", "(II)I"⟩ = true := by first | (simp [plainFor]; done) | decide +kernel
theorem pf_1 : plainFor ⟨"java/lang/Math", "min", "(II)I"⟩ = true := by first | (simp [plainFor]; done) | decide +kernel
theorem pn_0 : plainName "java/lang/Integer" = true := by first | (simp [plainName, overriddenIn]; done) | decide +kernel
theorem pn_1 : plainName "com/example/tenderd/tenderd/core/ProtocolVersionToStringPinLaw" = true := by first | (simp [plainName, overriddenIn]; done) | decide +kernel
theorem pn_2 : plainName "java/lang/AbstractStringBuilder" = true := by first | (simp [plainName, overriddenIn]; done) | decide +kernel
theorem pn_3 : plainName "jdk/internal/util/ArraysSupport" = true := by first | (simp [plainName, overriddenIn]; done) | decide +kernel
theorem pn_4 : plainName "java/util/Arrays" = true := by first | (simp [plainName, overriddenIn]; done) | decide +kernel
theorem pn_5 : plainName "java/lang/StringBuilder" = true := by first | (simp [plainName, overriddenIn]; done) | decide +kernel
theorem pn_6 : plainName "java/lang/String" = true := by first | (simp [plainName, overriddenIn]; done) | decide +kernel
theorem pn_7 : plainName "com/example/tenderd/tenderd/core/ProtocolVersion" = true := by first | (simp [plainName, overriddenIn]; done) | decide +kernel
theorem pn_8 : plainName "jdk/internal/util/Preconditions" = true := by first | (simp [plainName, overriddenIn]; done) | decide +kernel
theorem pn_9 : plainName "java/lang/StringLatin1" = true := by first | (simp [plainName, overriddenIn]; done) | decide +kernel
theorem pd_0 : parseMethodDescriptor "(II)I" = some ⟨[.int, .int], some .int⟩ := by decide +kernel
theorem pd_1 : parseMethodDescriptor "(III)I" = some ⟨[.int, .int, .int], some .int⟩ := by decide +kernel
theorem pd_2 : parseMethodDescriptor "(I)I" = some ⟨[.int], some .int⟩ := by decide +kernel
theorem pd_3 : parseMethodDescriptor "([BI)[B" = some ⟨[(.array .byte), .int], some (.array .byte)⟩ := by decide +kernel
theorem pd_4 : parseMethodDescriptor "(I)V" = some ⟨[.int], none⟩ := by decide +kernel
theorem pd_5 : parseMethodDescriptor "()Z" = some ⟨[], some .boolean⟩ := by decide +kernel
theorem pd_6 : parseMethodDescriptor "(II[B)I" = some ⟨[.int, .int, (.array .byte)], some .int⟩ := by decide +kernel
theorem pd_7 : parseMethodDescriptor "(I)Ljava/lang/AbstractStringBuilder;" = some ⟨[.int], some (.object "java/lang/AbstractStringBuilder")⟩ := by decide +kernel
theorem pd_8 : parseMethodDescriptor "()B" = some ⟨[], some .byte⟩ := by decide +kernel
theorem pd_9 : parseMethodDescriptor "()I" = some ⟨[], some .int⟩ := by decide +kernel
theorem pd_10 : parseMethodDescriptor "(Ljava/lang/String;)V" = some ⟨[(.object "java/lang/String")], none⟩ := by decide +kernel
theorem pd_11 : parseMethodDescriptor "([BIB)V" = some ⟨[(.array .byte), .int, .byte], none⟩ := by decide +kernel
theorem pd_12 : parseMethodDescriptor "(ILjava/lang/String;)V" = some ⟨[.int, (.object "java/lang/String")], none⟩ := by decide +kernel
theorem pd_13 : parseMethodDescriptor "(Ljava/lang/String;)Ljava/lang/AbstractStringBuilder;" = some ⟨[(.object "java/lang/String")], some (.object "java/lang/AbstractStringBuilder")⟩ := by decide +kernel
theorem pd_14 : parseMethodDescriptor "()[B" = some ⟨[], some (.array .byte)⟩ := by decide +kernel
theorem pd_15 : parseMethodDescriptor "(II)V" = some ⟨[.int, .int], none⟩ := by decide +kernel
theorem pd_16 : parseMethodDescriptor "([BII)[B" = some ⟨[(.array .byte), .int, .int], some (.array .byte)⟩ := by decide +kernel
theorem pd_17 : parseMethodDescriptor "(Ljava/lang/AbstractStringBuilder;Ljava/lang/Void;)V" = some ⟨[(.object "java/lang/AbstractStringBuilder"), (.object "java/lang/Void")], none⟩ := by decide +kernel
theorem pd_18 : parseMethodDescriptor "(Ljava/lang/StringBuilder;)V" = some ⟨[(.object "java/lang/StringBuilder")], none⟩ := by decide +kernel
theorem pd_19 : parseMethodDescriptor "()V" = some ⟨[], none⟩ := by decide +kernel
theorem pd_20 : parseMethodDescriptor "(I)Ljava/lang/StringBuilder;" = some ⟨[.int], some (.object "java/lang/StringBuilder")⟩ := by decide +kernel
theorem pd_21 : parseMethodDescriptor "(Ljava/lang/String;)Ljava/lang/StringBuilder;" = some ⟨[(.object "java/lang/String")], some (.object "java/lang/StringBuilder")⟩ := by decide +kernel
theorem pd_22 : parseMethodDescriptor "()Ljava/lang/String;" = some ⟨[], some (.object "java/lang/String")⟩ := by decide +kernel
theorem pd_23 : parseMethodDescriptor "(IILjava/util/function/BiFunction;)I" = some ⟨[.int, .int, (.object "java/util/function/BiFunction")], some .int⟩ := by decide +kernel
theorem pd_24 : parseMethodDescriptor "([BI)C" = some ⟨[(.array .byte), .int], some .char⟩ := by decide +kernel
theorem pd_25 : parseMethodDescriptor "(I)C" = some ⟨[.int], some .char⟩ := by decide +kernel
theorem pd_26 : parseMethodDescriptor "(Ljava/lang/String;IIII)Z" = some ⟨[(.object "java/lang/String"), .int, .int, .int, .int], some .boolean⟩ := by decide +kernel
theorem pd_27 : parseMethodDescriptor "(III)V" = some ⟨[.int, .int, .int], none⟩ := by decide +kernel
theorem pd_28 : parseMethodDescriptor "(Ljava/lang/String;III)Z" = some ⟨[(.object "java/lang/String"), .int, .int, .int], some .boolean⟩ := by decide +kernel
abbrev y_0 : MethodName := ⟨"java/lang/Integer", "stringSize", "(I)I"⟩
abbrev y_1 : MethodName := ⟨"com/example/tenderd/tenderd/core/ProtocolVersionToStringPinLaw", "len", "(I)I"⟩
abbrev y_2 : MethodName := ⟨"java/lang/Integer", "getChars", "(II[B)I"⟩
abbrev y_3 : MethodName := ⟨"java/lang/AbstractStringBuilder", "ensureCapacityInternal", "(I)V"⟩
abbrev y_4 : MethodName := ⟨"java/lang/Math", "max", "(II)I"⟩
abbrev y_5 : MethodName := ⟨"jdk/internal/util/ArraysSupport", "newLength", "(III)I"⟩
abbrev y_6 : MethodName := ⟨"java/lang/AbstractStringBuilder", "newCapacity", "(I)I"⟩
abbrev y_7 : MethodName := ⟨"java/lang/Math", "min", "(II)I"⟩
abbrev y_8 : MethodName := ⟨"java/util/Arrays", "copyOf", "([BI)[B"⟩
abbrev y_9 : MethodName := ⟨"java/lang/AbstractStringBuilder", "isLatin1", "()Z"⟩
abbrev y_10 : MethodName := ⟨"java/lang/AbstractStringBuilder", "append", "(I)Ljava/lang/AbstractStringBuilder;"⟩
abbrev y_11 : MethodName := ⟨"java/lang/StringBuilder", "append", "(I)Ljava/lang/StringBuilder;"⟩
abbrev y_12 : MethodName := ⟨"java/lang/String", "coder", "()B"⟩
abbrev y_13 : MethodName := ⟨"java/lang/String", "length", "()I"⟩
abbrev y_14 : MethodName := ⟨"java/lang/AbstractStringBuilder", "inflateIfNeededFor", "(Ljava/lang/String;)V"⟩
abbrev y_15 : MethodName := ⟨"java/lang/String", "getBytes", "([BIB)V"⟩
abbrev y_16 : MethodName := ⟨"java/lang/AbstractStringBuilder", "putStringAt", "(ILjava/lang/String;)V"⟩
abbrev y_17 : MethodName := ⟨"java/lang/AbstractStringBuilder", "append", "(Ljava/lang/String;)Ljava/lang/AbstractStringBuilder;"⟩
abbrev y_18 : MethodName := ⟨"java/lang/StringBuilder", "append", "(Ljava/lang/String;)Ljava/lang/StringBuilder;"⟩
abbrev y_19 : MethodName := ⟨"java/lang/AbstractStringBuilder", "getValue", "()[B"⟩
abbrev y_20 : MethodName := ⟨"java/lang/AbstractStringBuilder", "length", "()I"⟩
abbrev y_21 : MethodName := ⟨"java/lang/StringBuilder", "length", "()I"⟩
abbrev y_22 : MethodName := ⟨"java/util/Arrays", "checkLength", "(II)V"⟩
abbrev y_23 : MethodName := ⟨"java/util/Arrays", "copyOfRangeByte", "([BII)[B"⟩
abbrev y_24 : MethodName := ⟨"java/util/Arrays", "copyOfRange", "([BII)[B"⟩
abbrev y_25 : MethodName := ⟨"java/lang/String", "<init>", "(Ljava/lang/AbstractStringBuilder;Ljava/lang/Void;)V"⟩
abbrev y_26 : MethodName := ⟨"java/lang/String", "<init>", "(Ljava/lang/StringBuilder;)V"⟩
abbrev y_27 : MethodName := ⟨"java/lang/StringBuilder", "toString", "()Ljava/lang/String;"⟩
abbrev y_28 : MethodName := ⟨"java/lang/AbstractStringBuilder", "<init>", "(I)V"⟩
abbrev y_29 : MethodName := ⟨"java/lang/StringBuilder", "<init>", "()V"⟩
abbrev y_30 : MethodName := ⟨"com/example/tenderd/tenderd/core/ProtocolVersion", "toString", "()Ljava/lang/String;"⟩
abbrev y_31 : MethodName := ⟨"java/lang/String", "isLatin1", "()Z"⟩
abbrev y_32 : MethodName := ⟨"jdk/internal/util/Preconditions", "checkIndex", "(IILjava/util/function/BiFunction;)I"⟩
abbrev y_33 : MethodName := ⟨"java/lang/String", "checkIndex", "(II)V"⟩
abbrev y_34 : MethodName := ⟨"java/lang/StringLatin1", "charAt", "([BI)C"⟩
abbrev y_35 : MethodName := ⟨"java/lang/String", "charAt", "(I)C"⟩
abbrev y_36 : MethodName := ⟨"com/example/tenderd/tenderd/core/ProtocolVersionToStringPinLaw", "digitOk", "(Ljava/lang/String;IIII)Z"⟩
abbrev y_37 : MethodName := ⟨"com/example/tenderd/tenderd/core/ProtocolVersionToStringPinLaw", "num", "(Ljava/lang/String;III)Z"⟩
abbrev y_38 : MethodName := ⟨"com/example/tenderd/tenderd/core/ProtocolVersion", "<init>", "(III)V"⟩
theorem d8_0 : decode jdk_33_method_13_code 0 = .ok (.iconst 1, 1) := by decide +kernel
theorem d8_1 : decode jdk_33_method_13_code 1 = .ok (.istore_n 1, 1) := by decide +kernel
theorem d8_2 : decode jdk_33_method_13_code 2 = .ok (.iload_n 0, 1) := by decide +kernel
theorem d8_3 : decode jdk_33_method_13_code 3 = .ok (.ifCond .lt 8, 3) := by decide +kernel
theorem d8_6 : decode jdk_33_method_13_code 6 = .ok (.iconst 0, 1) := by decide +kernel
theorem d8_7 : decode jdk_33_method_13_code 7 = .ok (.istore_n 1, 1) := by decide +kernel
theorem d8_8 : decode jdk_33_method_13_code 8 = .ok (.iload_n 0, 1) := by decide +kernel
theorem d8_9 : decode jdk_33_method_13_code 9 = .ok (.ineg, 1) := by decide +kernel
theorem d8_10 : decode jdk_33_method_13_code 10 = .ok (.istore_n 0, 1) := by decide +kernel
theorem d8_11 : decode jdk_33_method_13_code 11 = .ok (.bipush (-10), 2) := by decide +kernel
theorem d8_13 : decode jdk_33_method_13_code 13 = .ok (.istore_n 2, 1) := by decide +kernel
theorem d8_14 : decode jdk_33_method_13_code 14 = .ok (.iconst 1, 1) := by decide +kernel
theorem d8_15 : decode jdk_33_method_13_code 15 = .ok (.istore_n 3, 1) := by decide +kernel
theorem d8_16 : decode jdk_33_method_13_code 16 = .ok (.iload_n 3, 1) := by decide +kernel
theorem d8_17 : decode jdk_33_method_13_code 17 = .ok (.bipush 10, 2) := by decide +kernel
theorem d8_19 : decode jdk_33_method_13_code 19 = .ok (.if_icmp .ge 23, 3) := by decide +kernel
theorem d8_22 : decode jdk_33_method_13_code 22 = .ok (.iload_n 0, 1) := by decide +kernel
theorem d8_23 : decode jdk_33_method_13_code 23 = .ok (.iload_n 2, 1) := by decide +kernel
theorem d8_24 : decode jdk_33_method_13_code 24 = .ok (.if_icmp .le 7, 3) := by decide +kernel
theorem d8_27 : decode jdk_33_method_13_code 27 = .ok (.iload_n 3, 1) := by decide +kernel
theorem d8_28 : decode jdk_33_method_13_code 28 = .ok (.iload_n 1, 1) := by decide +kernel
theorem d8_29 : decode jdk_33_method_13_code 29 = .ok (.iadd, 1) := by decide +kernel
theorem d8_30 : decode jdk_33_method_13_code 30 = .ok (.ireturn, 1) := by decide +kernel
theorem d8_31 : decode jdk_33_method_13_code 31 = .ok (.bipush 10, 2) := by decide +kernel
theorem d8_33 : decode jdk_33_method_13_code 33 = .ok (.iload_n 2, 1) := by decide +kernel
theorem d8_34 : decode jdk_33_method_13_code 34 = .ok (.imul, 1) := by decide +kernel
theorem d8_35 : decode jdk_33_method_13_code 35 = .ok (.istore_n 2, 1) := by decide +kernel
theorem d8_36 : decode jdk_33_method_13_code 36 = .ok (.iinc 3 1, 3) := by decide +kernel
theorem d8_39 : decode jdk_33_method_13_code 39 = .ok (.goto (-23), 3) := by decide +kernel
theorem d8_42 : decode jdk_33_method_13_code 42 = .ok (.bipush 10, 2) := by decide +kernel
theorem d8_44 : decode jdk_33_method_13_code 44 = .ok (.iload_n 1, 1) := by decide +kernel
theorem d8_45 : decode jdk_33_method_13_code 45 = .ok (.iadd, 1) := by decide +kernel
theorem d8_46 : decode jdk_33_method_13_code 46 = .ok (.ireturn, 1) := by decide +kernel
theorem d29_0 : decode method_2_code 0 = .ok (.iload_n 0, 1) := by decide +kernel
theorem d29_1 : decode method_2_code 1 = .ok (.bipush 10, 2) := by decide +kernel
theorem d29_3 : decode method_2_code 3 = .ok (.if_icmp .ge 5, 3) := by decide +kernel
theorem d29_6 : decode method_2_code 6 = .ok (.iconst 1, 1) := by decide +kernel
theorem d29_7 : decode method_2_code 7 = .ok (.ireturn, 1) := by decide +kernel
theorem d29_8 : decode method_2_code 8 = .ok (.iload_n 0, 1) := by decide +kernel
theorem d29_9 : decode method_2_code 9 = .ok (.bipush 100, 2) := by decide +kernel
theorem d29_11 : decode method_2_code 11 = .ok (.if_icmp .ge 5, 3) := by decide +kernel
theorem d29_14 : decode method_2_code 14 = .ok (.iconst 2, 1) := by decide +kernel
theorem d29_15 : decode method_2_code 15 = .ok (.ireturn, 1) := by decide +kernel
theorem d29_16 : decode method_2_code 16 = .ok (.iload_n 0, 1) := by decide +kernel
theorem d29_17 : decode method_2_code 17 = .ok (.sipush 1000, 3) := by decide +kernel
theorem d29_20 : decode method_2_code 20 = .ok (.if_icmp .ge 5, 3) := by decide +kernel
theorem d29_23 : decode method_2_code 23 = .ok (.iconst 3, 1) := by decide +kernel
theorem d29_24 : decode method_2_code 24 = .ok (.ireturn, 1) := by decide +kernel
theorem d29_25 : decode method_2_code 25 = .ok (.iload_n 0, 1) := by decide +kernel
theorem d29_26 : decode method_2_code 26 = .ok (.sipush 10000, 3) := by decide +kernel
theorem d29_29 : decode method_2_code 29 = .ok (.if_icmp .ge 5, 3) := by decide +kernel
theorem d29_32 : decode method_2_code 32 = .ok (.iconst 4, 1) := by decide +kernel
theorem d29_33 : decode method_2_code 33 = .ok (.ireturn, 1) := by decide +kernel
theorem d29_34 : decode method_2_code 34 = .ok (.iload_n 0, 1) := by decide +kernel
theorem d29_35 : decode method_2_code 35 = .ok (.ldc 7, 2) := by decide +kernel
theorem d29_37 : decode method_2_code 37 = .ok (.if_icmp .ge 5, 3) := by decide +kernel
theorem d29_40 : decode method_2_code 40 = .ok (.iconst 5, 1) := by decide +kernel
theorem d29_41 : decode method_2_code 41 = .ok (.ireturn, 1) := by decide +kernel
theorem d29_42 : decode method_2_code 42 = .ok (.iload_n 0, 1) := by decide +kernel
theorem d29_43 : decode method_2_code 43 = .ok (.ldc 8, 2) := by decide +kernel
theorem d29_45 : decode method_2_code 45 = .ok (.if_icmp .ge 6, 3) := by decide +kernel
theorem d29_48 : decode method_2_code 48 = .ok (.bipush 6, 2) := by decide +kernel
theorem d29_50 : decode method_2_code 50 = .ok (.ireturn, 1) := by decide +kernel
theorem d29_51 : decode method_2_code 51 = .ok (.iload_n 0, 1) := by decide +kernel
theorem d29_52 : decode method_2_code 52 = .ok (.ldc 9, 2) := by decide +kernel
theorem d29_54 : decode method_2_code 54 = .ok (.if_icmp .ge 6, 3) := by decide +kernel
theorem d29_57 : decode method_2_code 57 = .ok (.bipush 7, 2) := by decide +kernel
theorem d29_59 : decode method_2_code 59 = .ok (.ireturn, 1) := by decide +kernel
theorem d29_60 : decode method_2_code 60 = .ok (.iload_n 0, 1) := by decide +kernel
theorem d29_61 : decode method_2_code 61 = .ok (.ldc 10, 2) := by decide +kernel
theorem d29_63 : decode method_2_code 63 = .ok (.if_icmp .ge 6, 3) := by decide +kernel
theorem d29_66 : decode method_2_code 66 = .ok (.bipush 8, 2) := by decide +kernel
theorem d29_68 : decode method_2_code 68 = .ok (.ireturn, 1) := by decide +kernel
theorem d29_69 : decode method_2_code 69 = .ok (.iload_n 0, 1) := by decide +kernel
theorem d29_70 : decode method_2_code 70 = .ok (.ldc 11, 2) := by decide +kernel
theorem d29_72 : decode method_2_code 72 = .ok (.if_icmp .ge 6, 3) := by decide +kernel
theorem d29_75 : decode method_2_code 75 = .ok (.bipush 9, 2) := by decide +kernel
theorem d29_77 : decode method_2_code 77 = .ok (.ireturn, 1) := by decide +kernel
theorem d29_78 : decode method_2_code 78 = .ok (.bipush 10, 2) := by decide +kernel
theorem d29_80 : decode method_2_code 80 = .ok (.ireturn, 1) := by decide +kernel
theorem d11_22 : decode jdk_33_method_12_code 22 = .ok (.iload_n 0, 1) := by decide +kernel
theorem d11_23 : decode jdk_33_method_12_code 23 = .ok (.bipush (-100), 2) := by decide +kernel
theorem d11_25 : decode jdk_33_method_12_code 25 = .ok (.if_icmp .gt 47, 3) := by decide +kernel
theorem d11_28 : decode jdk_33_method_12_code 28 = .ok (.iload_n 0, 1) := by decide +kernel
theorem d11_29 : decode jdk_33_method_12_code 29 = .ok (.bipush 100, 2) := by decide +kernel
theorem d11_31 : decode jdk_33_method_12_code 31 = .ok (.idiv, 1) := by decide +kernel
theorem d11_32 : decode jdk_33_method_12_code 32 = .ok (.istore_n 3, 1) := by decide +kernel
theorem d11_33 : decode jdk_33_method_12_code 33 = .ok (.iload_n 3, 1) := by decide +kernel
theorem d11_34 : decode jdk_33_method_12_code 34 = .ok (.bipush 100, 2) := by decide +kernel
theorem d11_36 : decode jdk_33_method_12_code 36 = .ok (.imul, 1) := by decide +kernel
theorem d11_37 : decode jdk_33_method_12_code 37 = .ok (.iload_n 0, 1) := by decide +kernel
theorem d11_38 : decode jdk_33_method_12_code 38 = .ok (.isub, 1) := by decide +kernel
theorem d11_39 : decode jdk_33_method_12_code 39 = .ok (.istore 4, 2) := by decide +kernel
theorem d11_41 : decode jdk_33_method_12_code 41 = .ok (.iload_n 3, 1) := by decide +kernel
theorem d11_42 : decode jdk_33_method_12_code 42 = .ok (.istore_n 0, 1) := by decide +kernel
theorem d11_43 : decode jdk_33_method_12_code 43 = .ok (.aload_n 2, 1) := by decide +kernel
theorem d11_44 : decode jdk_33_method_12_code 44 = .ok (.iinc 5 (-1), 3) := by decide +kernel
theorem d11_47 : decode jdk_33_method_12_code 47 = .ok (.iload 5, 2) := by decide +kernel
theorem d11_49 : decode jdk_33_method_12_code 49 = .ok (.getstatic 83, 3) := by decide +kernel
theorem d11_52 : decode jdk_33_method_12_code 52 = .ok (.iload 4, 2) := by decide +kernel
theorem d11_54 : decode jdk_33_method_12_code 54 = .ok (.baload, 1) := by decide +kernel
theorem d11_55 : decode jdk_33_method_12_code 55 = .ok (.bastore, 1) := by decide +kernel
theorem d11_56 : decode jdk_33_method_12_code 56 = .ok (.aload_n 2, 1) := by decide +kernel
theorem d11_57 : decode jdk_33_method_12_code 57 = .ok (.iinc 5 (-1), 3) := by decide +kernel
theorem d11_60 : decode jdk_33_method_12_code 60 = .ok (.iload 5, 2) := by decide +kernel
theorem d11_62 : decode jdk_33_method_12_code 62 = .ok (.getstatic 87, 3) := by decide +kernel
theorem d11_65 : decode jdk_33_method_12_code 65 = .ok (.iload 4, 2) := by decide +kernel
theorem d11_67 : decode jdk_33_method_12_code 67 = .ok (.baload, 1) := by decide +kernel
theorem d11_68 : decode jdk_33_method_12_code 68 = .ok (.bastore, 1) := by decide +kernel
theorem d11_69 : decode jdk_33_method_12_code 69 = .ok (.goto (-47), 3) := by decide +kernel
theorem d11_0 : decode jdk_33_method_12_code 0 = .ok (.iload_n 1, 1) := by decide +kernel
theorem d11_1 : decode jdk_33_method_12_code 1 = .ok (.istore 5, 2) := by decide +kernel
theorem d11_3 : decode jdk_33_method_12_code 3 = .ok (.iload_n 0, 1) := by decide +kernel
theorem d11_4 : decode jdk_33_method_12_code 4 = .ok (.ifCond .ge 7, 3) := by decide +kernel
theorem d11_11 : decode jdk_33_method_12_code 11 = .ok (.iconst 0, 1) := by decide +kernel
theorem d11_12 : decode jdk_33_method_12_code 12 = .ok (.istore 6, 2) := by decide +kernel
theorem d11_14 : decode jdk_33_method_12_code 14 = .ok (.iload 6, 2) := by decide +kernel
theorem d11_16 : decode jdk_33_method_12_code 16 = .ok (.ifCond .ne 6, 3) := by decide +kernel
theorem d11_19 : decode jdk_33_method_12_code 19 = .ok (.iload_n 0, 1) := by decide +kernel
theorem d11_20 : decode jdk_33_method_12_code 20 = .ok (.ineg, 1) := by decide +kernel
theorem d11_21 : decode jdk_33_method_12_code 21 = .ok (.istore_n 0, 1) := by decide +kernel
theorem d11_72 : decode jdk_33_method_12_code 72 = .ok (.aload_n 2, 1) := by decide +kernel
theorem d11_73 : decode jdk_33_method_12_code 73 = .ok (.iinc 5 (-1), 3) := by decide +kernel
theorem d11_76 : decode jdk_33_method_12_code 76 = .ok (.iload 5, 2) := by decide +kernel
theorem d11_78 : decode jdk_33_method_12_code 78 = .ok (.getstatic 83, 3) := by decide +kernel
theorem d11_81 : decode jdk_33_method_12_code 81 = .ok (.iload_n 0, 1) := by decide +kernel
theorem d11_82 : decode jdk_33_method_12_code 82 = .ok (.ineg, 1) := by decide +kernel
theorem d11_83 : decode jdk_33_method_12_code 83 = .ok (.baload, 1) := by decide +kernel
theorem d11_84 : decode jdk_33_method_12_code 84 = .ok (.bastore, 1) := by decide +kernel
theorem d11_85 : decode jdk_33_method_12_code 85 = .ok (.iload_n 0, 1) := by decide +kernel
theorem d11_86 : decode jdk_33_method_12_code 86 = .ok (.bipush (-9), 2) := by decide +kernel
theorem d11_88 : decode jdk_33_method_12_code 88 = .ok (.if_icmp .ge 16, 3) := by decide +kernel
theorem d11_104 : decode jdk_33_method_12_code 104 = .ok (.iload 6, 2) := by decide +kernel
theorem d11_106 : decode jdk_33_method_12_code 106 = .ok (.ifCond .eq 12, 3) := by decide +kernel
theorem d11_118 : decode jdk_33_method_12_code 118 = .ok (.iload 5, 2) := by decide +kernel
theorem d11_120 : decode jdk_33_method_12_code 120 = .ok (.ireturn, 1) := by decide +kernel
theorem d11_91 : decode jdk_33_method_12_code 91 = .ok (.aload_n 2, 1) := by decide +kernel
theorem d11_92 : decode jdk_33_method_12_code 92 = .ok (.iinc 5 (-1), 3) := by decide +kernel
theorem d11_95 : decode jdk_33_method_12_code 95 = .ok (.iload 5, 2) := by decide +kernel
theorem d11_97 : decode jdk_33_method_12_code 97 = .ok (.getstatic 87, 3) := by decide +kernel
theorem d11_100 : decode jdk_33_method_12_code 100 = .ok (.iload_n 0, 1) := by decide +kernel
theorem d11_101 : decode jdk_33_method_12_code 101 = .ok (.ineg, 1) := by decide +kernel
theorem d11_102 : decode jdk_33_method_12_code 102 = .ok (.baload, 1) := by decide +kernel
theorem d11_103 : decode jdk_33_method_12_code 103 = .ok (.bastore, 1) := by decide +kernel
theorem d9_0 : decode jdk_68_method_9_code 0 = .ok (.aload_n 0, 1) := by decide +kernel
theorem d9_1 : decode jdk_68_method_9_code 1 = .ok (.getfield 15, 3) := by decide +kernel
theorem d9_4 : decode jdk_68_method_9_code 4 = .ok (.arraylength, 1) := by decide +kernel
theorem d9_5 : decode jdk_68_method_9_code 5 = .ok (.aload_n 0, 1) := by decide +kernel
theorem d9_6 : decode jdk_68_method_9_code 6 = .ok (.getfield 22, 3) := by decide +kernel
theorem d9_9 : decode jdk_68_method_9_code 9 = .ok (.ishr, 1) := by decide +kernel
theorem d9_10 : decode jdk_68_method_9_code 10 = .ok (.istore_n 2, 1) := by decide +kernel
theorem d9_11 : decode jdk_68_method_9_code 11 = .ok (.iload_n 1, 1) := by decide +kernel
theorem d9_12 : decode jdk_68_method_9_code 12 = .ok (.iload_n 2, 1) := by decide +kernel
theorem d9_13 : decode jdk_68_method_9_code 13 = .ok (.isub, 1) := by decide +kernel
theorem d9_14 : decode jdk_68_method_9_code 14 = .ok (.ifCond .le 24, 3) := by decide +kernel
theorem d9_38 : decode jdk_68_method_9_code 38 = .ok (.return_, 1) := by decide +kernel
theorem d9_17 : decode jdk_68_method_9_code 17 = .ok (.aload_n 0, 1) := by decide +kernel
theorem d9_18 : decode jdk_68_method_9_code 18 = .ok (.aload_n 0, 1) := by decide +kernel
theorem d9_19 : decode jdk_68_method_9_code 19 = .ok (.getfield 15, 3) := by decide +kernel
theorem d9_22 : decode jdk_68_method_9_code 22 = .ok (.aload_n 0, 1) := by decide +kernel
theorem d9_23 : decode jdk_68_method_9_code 23 = .ok (.iload_n 1, 1) := by decide +kernel
theorem d9_24 : decode jdk_68_method_9_code 24 = .ok (.invokevirtual 104, 3) := by decide +kernel
theorem d37_0 : decode jdk_68_method_10_code 0 = .ok (.aload_n 0, 1) := by decide +kernel
theorem d37_1 : decode jdk_68_method_10_code 1 = .ok (.getfield 15, 3) := by decide +kernel
theorem d37_4 : decode jdk_68_method_10_code 4 = .ok (.arraylength, 1) := by decide +kernel
theorem d37_5 : decode jdk_68_method_10_code 5 = .ok (.istore_n 2, 1) := by decide +kernel
theorem d37_6 : decode jdk_68_method_10_code 6 = .ok (.iload_n 1, 1) := by decide +kernel
theorem d37_7 : decode jdk_68_method_10_code 7 = .ok (.aload_n 0, 1) := by decide +kernel
theorem d37_8 : decode jdk_68_method_10_code 8 = .ok (.getfield 22, 3) := by decide +kernel
theorem d37_11 : decode jdk_68_method_10_code 11 = .ok (.ishl, 1) := by decide +kernel
theorem d37_12 : decode jdk_68_method_10_code 12 = .ok (.istore_n 3, 1) := by decide +kernel
theorem d37_13 : decode jdk_68_method_10_code 13 = .ok (.iload_n 3, 1) := by decide +kernel
theorem d37_14 : decode jdk_68_method_10_code 14 = .ok (.iload_n 2, 1) := by decide +kernel
theorem d37_15 : decode jdk_68_method_10_code 15 = .ok (.isub, 1) := by decide +kernel
theorem d37_16 : decode jdk_68_method_10_code 16 = .ok (.istore 4, 2) := by decide +kernel
theorem d37_18 : decode jdk_68_method_10_code 18 = .ok (.iload_n 2, 1) := by decide +kernel
theorem d37_19 : decode jdk_68_method_10_code 19 = .ok (.iload 4, 2) := by decide +kernel
theorem d37_21 : decode jdk_68_method_10_code 21 = .ok (.iload_n 2, 1) := by decide +kernel
theorem d37_22 : decode jdk_68_method_10_code 22 = .ok (.iconst 2, 1) := by decide +kernel
theorem d37_23 : decode jdk_68_method_10_code 23 = .ok (.aload_n 0, 1) := by decide +kernel
theorem d37_24 : decode jdk_68_method_10_code 24 = .ok (.getfield 22, 3) := by decide +kernel
theorem d37_27 : decode jdk_68_method_10_code 27 = .ok (.ishl, 1) := by decide +kernel
theorem d37_28 : decode jdk_68_method_10_code 28 = .ok (.iadd, 1) := by decide +kernel
theorem d37_29 : decode jdk_68_method_10_code 29 = .ok (.invokestatic 114, 3) := by decide +kernel
theorem d38_0 : decode jdk_48_method_27_code 0 = .ok (.iload_n 0, 1) := by decide +kernel
theorem d38_1 : decode jdk_48_method_27_code 1 = .ok (.iload_n 1, 1) := by decide +kernel
theorem d38_2 : decode jdk_48_method_27_code 2 = .ok (.iload_n 2, 1) := by decide +kernel
theorem d38_3 : decode jdk_48_method_27_code 3 = .ok (.invokestatic 194, 3) := by decide +kernel
theorem d39_0 : decode jdk_29_method_65_code 0 = .ok (.iload_n 0, 1) := by decide +kernel
theorem d39_1 : decode jdk_29_method_65_code 1 = .ok (.iload_n 1, 1) := by decide +kernel
theorem d39_2 : decode jdk_29_method_65_code 2 = .ok (.if_icmp .lt 7, 3) := by decide +kernel
theorem d39_9 : decode jdk_29_method_65_code 9 = .ok (.iload_n 1, 1) := by decide +kernel
theorem d39_10 : decode jdk_29_method_65_code 10 = .ok (.ireturn, 1) := by decide +kernel
theorem d38_6 : decode jdk_48_method_27_code 6 = .ok (.iadd, 1) := by decide +kernel
theorem d38_7 : decode jdk_48_method_27_code 7 = .ok (.istore_n 3, 1) := by decide +kernel
theorem d38_8 : decode jdk_48_method_27_code 8 = .ok (.iconst 0, 1) := by decide +kernel
theorem d38_9 : decode jdk_48_method_27_code 9 = .ok (.iload_n 3, 1) := by decide +kernel
theorem d38_10 : decode jdk_48_method_27_code 10 = .ok (.if_icmp .ge 11, 3) := by decide +kernel
theorem d38_13 : decode jdk_48_method_27_code 13 = .ok (.iload_n 3, 1) := by decide +kernel
theorem d38_14 : decode jdk_48_method_27_code 14 = .ok (.ldc 200, 2) := by decide +kernel
theorem d38_16 : decode jdk_48_method_27_code 16 = .ok (.if_icmp .gt 5, 3) := by decide +kernel
theorem d38_19 : decode jdk_48_method_27_code 19 = .ok (.iload_n 3, 1) := by decide +kernel
theorem d38_20 : decode jdk_48_method_27_code 20 = .ok (.ireturn, 1) := by decide +kernel
theorem d37_32 : decode jdk_68_method_10_code 32 = .ok (.istore 5, 2) := by decide +kernel
theorem d37_34 : decode jdk_68_method_10_code 34 = .ok (.iload 5, 2) := by decide +kernel
theorem d37_36 : decode jdk_68_method_10_code 36 = .ok (.ldc 39, 2) := by decide +kernel
theorem d37_38 : decode jdk_68_method_10_code 38 = .ok (.if_icmp .ne 13, 3) := by decide +kernel
theorem d37_51 : decode jdk_68_method_10_code 51 = .ok (.iload 5, 2) := by decide +kernel
theorem d37_53 : decode jdk_68_method_10_code 53 = .ok (.aload_n 0, 1) := by decide +kernel
theorem d37_54 : decode jdk_68_method_10_code 54 = .ok (.getfield 22, 3) := by decide +kernel
theorem d37_57 : decode jdk_68_method_10_code 57 = .ok (.ishr, 1) := by decide +kernel
theorem d37_58 : decode jdk_68_method_10_code 58 = .ok (.ireturn, 1) := by decide +kernel
theorem d9_27 : decode jdk_68_method_9_code 27 = .ok (.aload_n 0, 1) := by decide +kernel
theorem d9_28 : decode jdk_68_method_9_code 28 = .ok (.getfield 22, 3) := by decide +kernel
theorem d9_31 : decode jdk_68_method_9_code 31 = .ok (.ishl, 1) := by decide +kernel
theorem d9_32 : decode jdk_68_method_9_code 32 = .ok (.invokestatic 108, 3) := by decide +kernel
theorem d40_0 : decode jdk_65_method_121_code 0 = .ok (.iload_n 1, 1) := by decide +kernel
theorem d40_1 : decode jdk_65_method_121_code 1 = .ok (.aload_n 0, 1) := by decide +kernel
theorem d40_2 : decode jdk_65_method_121_code 2 = .ok (.arraylength, 1) := by decide +kernel
theorem d40_3 : decode jdk_65_method_121_code 3 = .ok (.if_icmp .ne 11, 3) := by decide +kernel
theorem d40_14 : decode jdk_65_method_121_code 14 = .ok (.iload_n 1, 1) := by decide +kernel
theorem d40_15 : decode jdk_65_method_121_code 15 = .ok (.newarray .byte, 2) := by decide +kernel
theorem d40_17 : decode jdk_65_method_121_code 17 = .ok (.astore_n 2, 1) := by decide +kernel
theorem d40_18 : decode jdk_65_method_121_code 18 = .ok (.aload_n 0, 1) := by decide +kernel
theorem d40_19 : decode jdk_65_method_121_code 19 = .ok (.iconst 0, 1) := by decide +kernel
theorem d40_20 : decode jdk_65_method_121_code 20 = .ok (.aload_n 2, 1) := by decide +kernel
theorem d40_21 : decode jdk_65_method_121_code 21 = .ok (.iconst 0, 1) := by decide +kernel
theorem d40_22 : decode jdk_65_method_121_code 22 = .ok (.aload_n 0, 1) := by decide +kernel
theorem d40_23 : decode jdk_65_method_121_code 23 = .ok (.arraylength, 1) := by decide +kernel
theorem d40_24 : decode jdk_65_method_121_code 24 = .ok (.iload_n 1, 1) := by decide +kernel
theorem d40_25 : decode jdk_65_method_121_code 25 = .ok (.invokestatic 304, 3) := by decide +kernel
theorem d28_0 : decode jdk_29_method_69_code 0 = .ok (.iload_n 0, 1) := by decide +kernel
theorem d28_1 : decode jdk_29_method_69_code 1 = .ok (.iload_n 1, 1) := by decide +kernel
theorem d28_2 : decode jdk_29_method_69_code 2 = .ok (.if_icmp .gt 7, 3) := by decide +kernel
theorem d28_5 : decode jdk_29_method_69_code 5 = .ok (.iload_n 0, 1) := by decide +kernel
theorem d28_6 : decode jdk_29_method_69_code 6 = .ok (.goto 4, 3) := by decide +kernel
theorem d28_10 : decode jdk_29_method_69_code 10 = .ok (.ireturn, 1) := by decide +kernel
theorem d40_28 : decode jdk_65_method_121_code 28 = .ok (.invokestatic 150, 3) := by decide +kernel
theorem d40_31 : decode jdk_65_method_121_code 31 = .ok (.aload_n 2, 1) := by decide +kernel
theorem d40_32 : decode jdk_65_method_121_code 32 = .ok (.areturn, 1) := by decide +kernel
theorem d9_35 : decode jdk_68_method_9_code 35 = .ok (.putfield 15, 3) := by decide +kernel
theorem d6_0 : decode jdk_67_method_15_code 0 = .ok (.aload_n 0, 1) := by decide +kernel
theorem d6_1 : decode jdk_67_method_15_code 1 = .ok (.iload_n 1, 1) := by decide +kernel
theorem d6_2 : decode jdk_67_method_15_code 2 = .ok (.invokespecial 53, 3) := by decide +kernel
theorem d7_0 : decode jdk_68_method_32_code 0 = .ok (.aload_n 0, 1) := by decide +kernel
theorem d7_1 : decode jdk_68_method_32_code 1 = .ok (.getfield 79, 3) := by decide +kernel
theorem d7_4 : decode jdk_68_method_32_code 4 = .ok (.istore_n 2, 1) := by decide +kernel
theorem d7_5 : decode jdk_68_method_32_code 5 = .ok (.iload_n 2, 1) := by decide +kernel
theorem d7_6 : decode jdk_68_method_32_code 6 = .ok (.iload_n 1, 1) := by decide +kernel
theorem d7_7 : decode jdk_68_method_32_code 7 = .ok (.invokestatic 245, 3) := by decide +kernel
theorem d7_10 : decode jdk_68_method_32_code 10 = .ok (.iadd, 1) := by decide +kernel
theorem d7_11 : decode jdk_68_method_32_code 11 = .ok (.istore_n 3, 1) := by decide +kernel
theorem d7_12 : decode jdk_68_method_32_code 12 = .ok (.aload_n 0, 1) := by decide +kernel
theorem d7_13 : decode jdk_68_method_32_code 13 = .ok (.iload_n 3, 1) := by decide +kernel
theorem d7_14 : decode jdk_68_method_32_code 14 = .ok (.invokevirtual 100, 3) := by decide +kernel
theorem d7_17 : decode jdk_68_method_32_code 17 = .ok (.aload_n 0, 1) := by decide +kernel
theorem d7_18 : decode jdk_68_method_32_code 18 = .ok (.invokevirtual 83, 3) := by decide +kernel
theorem d10_0 : decode jdk_68_method_68_code 0 = .ok (.getstatic 18, 3) := by decide +kernel
theorem d10_3 : decode jdk_68_method_68_code 3 = .ok (.ifCond .eq 14, 3) := by decide +kernel
theorem d10_6 : decode jdk_68_method_68_code 6 = .ok (.aload_n 0, 1) := by decide +kernel
theorem d10_7 : decode jdk_68_method_68_code 7 = .ok (.getfield 22, 3) := by decide +kernel
theorem d10_10 : decode jdk_68_method_68_code 10 = .ok (.ifCond .ne 7, 3) := by decide +kernel
theorem d10_13 : decode jdk_68_method_68_code 13 = .ok (.iconst 1, 1) := by decide +kernel
theorem d10_14 : decode jdk_68_method_68_code 14 = .ok (.goto 4, 3) := by decide +kernel
theorem d10_18 : decode jdk_68_method_68_code 18 = .ok (.ireturn, 1) := by decide +kernel
theorem d7_21 : decode jdk_68_method_32_code 21 = .ok (.ifCond .eq 16, 3) := by decide +kernel
theorem d7_24 : decode jdk_68_method_32_code 24 = .ok (.iload_n 1, 1) := by decide +kernel
theorem d7_25 : decode jdk_68_method_32_code 25 = .ok (.iload_n 3, 1) := by decide +kernel
theorem d7_26 : decode jdk_68_method_32_code 26 = .ok (.aload_n 0, 1) := by decide +kernel
theorem d7_27 : decode jdk_68_method_32_code 27 = .ok (.getfield 15, 3) := by decide +kernel
theorem d7_30 : decode jdk_68_method_32_code 30 = .ok (.invokestatic 248, 3) := by decide +kernel
theorem d7_33 : decode jdk_68_method_32_code 33 = .ok (.pop, 1) := by decide +kernel
theorem d7_34 : decode jdk_68_method_32_code 34 = .ok (.goto 14, 3) := by decide +kernel
theorem d7_48 : decode jdk_68_method_32_code 48 = .ok (.aload_n 0, 1) := by decide +kernel
theorem d7_49 : decode jdk_68_method_32_code 49 = .ok (.iload_n 3, 1) := by decide +kernel
theorem d7_50 : decode jdk_68_method_32_code 50 = .ok (.putfield 79, 3) := by decide +kernel
theorem d7_53 : decode jdk_68_method_32_code 53 = .ok (.aload_n 0, 1) := by decide +kernel
theorem d7_54 : decode jdk_68_method_32_code 54 = .ok (.areturn, 1) := by decide +kernel
theorem d6_5 : decode jdk_67_method_15_code 5 = .ok (.pop, 1) := by decide +kernel
theorem d6_6 : decode jdk_67_method_15_code 6 = .ok (.aload_n 0, 1) := by decide +kernel
theorem d6_7 : decode jdk_67_method_15_code 7 = .ok (.areturn, 1) := by decide +kernel
theorem d12_0 : decode jdk_67_method_7_code 0 = .ok (.aload_n 0, 1) := by decide +kernel
theorem d12_1 : decode jdk_67_method_7_code 1 = .ok (.aload_n 1, 1) := by decide +kernel
theorem d12_2 : decode jdk_67_method_7_code 2 = .ok (.invokespecial 29, 3) := by decide +kernel
theorem d13_0 : decode jdk_68_method_22_code 0 = .ok (.aload_n 1, 1) := by decide +kernel
theorem d13_1 : decode jdk_68_method_22_code 1 = .ok (.ifnonnull 8, 3) := by decide +kernel
theorem d13_9 : decode jdk_68_method_22_code 9 = .ok (.aload_n 1, 1) := by decide +kernel
theorem d13_10 : decode jdk_68_method_22_code 10 = .ok (.invokevirtual 32, 3) := by decide +kernel
theorem d14_0 : decode jdk_42_method_54_code 0 = .ok (.aload_n 0, 1) := by decide +kernel
theorem d14_1 : decode jdk_42_method_54_code 1 = .ok (.getfield 9, 3) := by decide +kernel
theorem d14_4 : decode jdk_42_method_54_code 4 = .ok (.arraylength, 1) := by decide +kernel
theorem d14_5 : decode jdk_42_method_54_code 5 = .ok (.aload_n 0, 1) := by decide +kernel
theorem d14_6 : decode jdk_42_method_54_code 6 = .ok (.invokevirtual 335, 3) := by decide +kernel
theorem d15_0 : decode jdk_42_method_152_code 0 = .ok (.getstatic 38, 3) := by decide +kernel
theorem d15_3 : decode jdk_42_method_152_code 3 = .ok (.ifCond .eq 10, 3) := by decide +kernel
theorem d15_6 : decode jdk_42_method_152_code 6 = .ok (.aload_n 0, 1) := by decide +kernel
theorem d15_7 : decode jdk_42_method_152_code 7 = .ok (.getfield 15, 3) := by decide +kernel
theorem d15_10 : decode jdk_42_method_152_code 10 = .ok (.goto 4, 3) := by decide +kernel
theorem d15_14 : decode jdk_42_method_152_code 14 = .ok (.ireturn, 1) := by decide +kernel
theorem d14_9 : decode jdk_42_method_54_code 9 = .ok (.ishr, 1) := by decide +kernel
theorem d14_10 : decode jdk_42_method_54_code 10 = .ok (.ireturn, 1) := by decide +kernel
theorem d13_13 : decode jdk_68_method_22_code 13 = .ok (.istore_n 2, 1) := by decide +kernel
theorem d13_14 : decode jdk_68_method_22_code 14 = .ok (.aload_n 0, 1) := by decide +kernel
theorem d13_15 : decode jdk_68_method_22_code 15 = .ok (.aload_n 0, 1) := by decide +kernel
theorem d13_16 : decode jdk_68_method_22_code 16 = .ok (.getfield 79, 3) := by decide +kernel
theorem d13_19 : decode jdk_68_method_22_code 19 = .ok (.iload_n 2, 1) := by decide +kernel
theorem d13_20 : decode jdk_68_method_22_code 20 = .ok (.iadd, 1) := by decide +kernel
theorem d13_21 : decode jdk_68_method_22_code 21 = .ok (.invokevirtual 100, 3) := by decide +kernel
theorem d13_24 : decode jdk_68_method_22_code 24 = .ok (.aload_n 0, 1) := by decide +kernel
theorem d13_25 : decode jdk_68_method_22_code 25 = .ok (.aload_n 0, 1) := by decide +kernel
theorem d13_26 : decode jdk_68_method_22_code 26 = .ok (.getfield 79, 3) := by decide +kernel
theorem d13_29 : decode jdk_68_method_22_code 29 = .ok (.aload_n 1, 1) := by decide +kernel
theorem d13_30 : decode jdk_68_method_22_code 30 = .ok (.invokevirtual 208, 3) := by decide +kernel
theorem d16_0 : decode jdk_68_method_73_code 0 = .ok (.aload_n 0, 1) := by decide +kernel
theorem d16_1 : decode jdk_68_method_73_code 1 = .ok (.aload_n 2, 1) := by decide +kernel
theorem d16_2 : decode jdk_68_method_73_code 2 = .ok (.invokevirtual 397, 3) := by decide +kernel
theorem d17_0 : decode jdk_68_method_71_code 0 = .ok (.getstatic 18, 3) := by decide +kernel
theorem d17_3 : decode jdk_68_method_71_code 3 = .ok (.ifCond .eq 18, 3) := by decide +kernel
theorem d17_6 : decode jdk_68_method_71_code 6 = .ok (.aload_n 0, 1) := by decide +kernel
theorem d17_7 : decode jdk_68_method_71_code 7 = .ok (.getfield 22, 3) := by decide +kernel
theorem d17_10 : decode jdk_68_method_71_code 10 = .ok (.aload_n 1, 1) := by decide +kernel
theorem d17_11 : decode jdk_68_method_71_code 11 = .ok (.invokevirtual 40, 3) := by decide +kernel
theorem d17_14 : decode jdk_68_method_71_code 14 = .ok (.if_icmp .eq 7, 3) := by decide +kernel
theorem d17_21 : decode jdk_68_method_71_code 21 = .ok (.return_, 1) := by decide +kernel
theorem d16_5 : decode jdk_68_method_73_code 5 = .ok (.aload_n 2, 1) := by decide +kernel
theorem d16_6 : decode jdk_68_method_73_code 6 = .ok (.aload_n 0, 1) := by decide +kernel
theorem d16_7 : decode jdk_68_method_73_code 7 = .ok (.getfield 15, 3) := by decide +kernel
theorem d16_10 : decode jdk_68_method_73_code 10 = .ok (.iload_n 1, 1) := by decide +kernel
theorem d16_11 : decode jdk_68_method_73_code 11 = .ok (.aload_n 0, 1) := by decide +kernel
theorem d16_12 : decode jdk_68_method_73_code 12 = .ok (.getfield 22, 3) := by decide +kernel
theorem d16_15 : decode jdk_68_method_73_code 15 = .ok (.invokevirtual 399, 3) := by decide +kernel
theorem d18_0 : decode jdk_42_method_147_code 0 = .ok (.aload_n 0, 1) := by decide +kernel
theorem d18_1 : decode jdk_42_method_147_code 1 = .ok (.invokevirtual 335, 3) := by decide +kernel
theorem d18_4 : decode jdk_42_method_147_code 4 = .ok (.iload_n 3, 1) := by decide +kernel
theorem d18_5 : decode jdk_42_method_147_code 5 = .ok (.if_icmp .ne 23, 3) := by decide +kernel
theorem d18_8 : decode jdk_42_method_147_code 8 = .ok (.aload_n 0, 1) := by decide +kernel
theorem d18_9 : decode jdk_42_method_147_code 9 = .ok (.getfield 9, 3) := by decide +kernel
theorem d18_12 : decode jdk_42_method_147_code 12 = .ok (.iconst 0, 1) := by decide +kernel
theorem d18_13 : decode jdk_42_method_147_code 13 = .ok (.aload_n 1, 1) := by decide +kernel
theorem d18_14 : decode jdk_42_method_147_code 14 = .ok (.iload_n 2, 1) := by decide +kernel
theorem d18_15 : decode jdk_42_method_147_code 15 = .ok (.iload_n 3, 1) := by decide +kernel
theorem d18_16 : decode jdk_42_method_147_code 16 = .ok (.ishl, 1) := by decide +kernel
theorem d18_17 : decode jdk_42_method_147_code 17 = .ok (.aload_n 0, 1) := by decide +kernel
theorem d18_18 : decode jdk_42_method_147_code 18 = .ok (.getfield 9, 3) := by decide +kernel
theorem d18_21 : decode jdk_42_method_147_code 21 = .ok (.arraylength, 1) := by decide +kernel
theorem d18_22 : decode jdk_42_method_147_code 22 = .ok (.invokestatic 212, 3) := by decide +kernel
theorem d18_25 : decode jdk_42_method_147_code 25 = .ok (.goto 18, 3) := by decide +kernel
theorem d18_43 : decode jdk_42_method_147_code 43 = .ok (.return_, 1) := by decide +kernel
theorem d16_18 : decode jdk_68_method_73_code 18 = .ok (.return_, 1) := by decide +kernel
theorem d13_33 : decode jdk_68_method_22_code 33 = .ok (.aload_n 0, 1) := by decide +kernel
theorem d13_34 : decode jdk_68_method_22_code 34 = .ok (.dup, 1) := by decide +kernel
theorem d13_35 : decode jdk_68_method_22_code 35 = .ok (.getfield 79, 3) := by decide +kernel
theorem d13_38 : decode jdk_68_method_22_code 38 = .ok (.iload_n 2, 1) := by decide +kernel
theorem d13_39 : decode jdk_68_method_22_code 39 = .ok (.iadd, 1) := by decide +kernel
theorem d13_40 : decode jdk_68_method_22_code 40 = .ok (.putfield 79, 3) := by decide +kernel
theorem d13_43 : decode jdk_68_method_22_code 43 = .ok (.aload_n 0, 1) := by decide +kernel
theorem d13_44 : decode jdk_68_method_22_code 44 = .ok (.areturn, 1) := by decide +kernel
theorem d12_5 : decode jdk_67_method_7_code 5 = .ok (.pop, 1) := by decide +kernel
theorem d12_6 : decode jdk_67_method_7_code 6 = .ok (.aload_n 0, 1) := by decide +kernel
theorem d12_7 : decode jdk_67_method_7_code 7 = .ok (.areturn, 1) := by decide +kernel
theorem d19_0 : decode jdk_67_method_42_code 0 = .ok (.new 18, 3) := by decide +kernel
theorem d19_3 : decode jdk_67_method_42_code 3 = .ok (.dup, 1) := by decide +kernel
theorem d19_4 : decode jdk_67_method_42_code 4 = .ok (.aload_n 0, 1) := by decide +kernel
theorem d19_5 : decode jdk_67_method_42_code 5 = .ok (.invokespecial 137, 3) := by decide +kernel
theorem d20_0 : decode jdk_42_method_53_code 0 = .ok (.aload_n 0, 1) := by decide +kernel
theorem d20_1 : decode jdk_42_method_53_code 1 = .ok (.aload_n 1, 1) := by decide +kernel
theorem d20_2 : decode jdk_42_method_53_code 2 = .ok (.aconst_null, 1) := by decide +kernel
theorem d20_3 : decode jdk_42_method_53_code 3 = .ok (.invokespecial 489, 3) := by decide +kernel
theorem d21_0 : decode jdk_42_method_150_code 0 = .ok (.aload_n 0, 1) := by decide +kernel
theorem d21_1 : decode jdk_42_method_150_code 1 = .ok (.invokespecial 1, 3) := by decide +kernel
theorem d21_4 : decode jdk_42_method_150_code 4 = .ok (.aload_n 1, 1) := by decide +kernel
theorem d21_5 : decode jdk_42_method_150_code 5 = .ok (.invokevirtual 552, 3) := by decide +kernel
theorem d22_0 : decode jdk_68_method_64_code 0 = .ok (.aload_n 0, 1) := by decide +kernel
theorem d22_1 : decode jdk_68_method_64_code 1 = .ok (.getfield 15, 3) := by decide +kernel
theorem d22_4 : decode jdk_68_method_64_code 4 = .ok (.areturn, 1) := by decide +kernel
theorem d21_8 : decode jdk_42_method_150_code 8 = .ok (.astore_n 3, 1) := by decide +kernel
theorem d21_9 : decode jdk_42_method_150_code 9 = .ok (.aload_n 1, 1) := by decide +kernel
theorem d21_10 : decode jdk_42_method_150_code 10 = .ok (.invokevirtual 549, 3) := by decide +kernel
theorem d23_0 : decode jdk_67_method_93_code 0 = .ok (.aload_n 0, 1) := by decide +kernel
theorem d23_1 : decode jdk_67_method_93_code 1 = .ok (.invokespecial 343, 3) := by decide +kernel
theorem d24_0 : decode jdk_68_method_6_code 0 = .ok (.aload_n 0, 1) := by decide +kernel
theorem d24_1 : decode jdk_68_method_6_code 1 = .ok (.getfield 79, 3) := by decide +kernel
theorem d24_4 : decode jdk_68_method_6_code 4 = .ok (.ireturn, 1) := by decide +kernel
theorem d23_4 : decode jdk_67_method_93_code 4 = .ok (.ireturn, 1) := by decide +kernel
theorem d21_13 : decode jdk_42_method_150_code 13 = .ok (.istore 4, 2) := by decide +kernel
theorem d21_15 : decode jdk_42_method_150_code 15 = .ok (.aload_n 1, 1) := by decide +kernel
theorem d21_16 : decode jdk_42_method_150_code 16 = .ok (.invokevirtual 1047, 3) := by decide +kernel
theorem d21_19 : decode jdk_42_method_150_code 19 = .ok (.ifCond .eq 22, 3) := by decide +kernel
theorem d21_22 : decode jdk_42_method_150_code 22 = .ok (.aload_n 0, 1) := by decide +kernel
theorem d21_23 : decode jdk_42_method_150_code 23 = .ok (.iconst 0, 1) := by decide +kernel
theorem d21_24 : decode jdk_42_method_150_code 24 = .ok (.putfield 15, 3) := by decide +kernel
theorem d21_27 : decode jdk_42_method_150_code 27 = .ok (.aload_n 0, 1) := by decide +kernel
theorem d21_28 : decode jdk_42_method_150_code 28 = .ok (.aload_n 3, 1) := by decide +kernel
theorem d21_29 : decode jdk_42_method_150_code 29 = .ok (.iconst 0, 1) := by decide +kernel
theorem d21_30 : decode jdk_42_method_150_code 30 = .ok (.iload 4, 2) := by decide +kernel
theorem d21_32 : decode jdk_42_method_150_code 32 = .ok (.invokestatic 54, 3) := by decide +kernel
theorem d25_0 : decode jdk_65_method_132_code 0 = .ok (.iload_n 1, 1) := by decide +kernel
theorem d25_1 : decode jdk_65_method_132_code 1 = .ok (.ifCond .ne 9, 3) := by decide +kernel
theorem d25_4 : decode jdk_65_method_132_code 4 = .ok (.iload_n 2, 1) := by decide +kernel
theorem d25_5 : decode jdk_65_method_132_code 5 = .ok (.aload_n 0, 1) := by decide +kernel
theorem d25_6 : decode jdk_65_method_132_code 6 = .ok (.arraylength, 1) := by decide +kernel
theorem d25_7 : decode jdk_65_method_132_code 7 = .ok (.if_icmp .eq 10, 3) := by decide +kernel
theorem d25_10 : decode jdk_65_method_132_code 10 = .ok (.aload_n 0, 1) := by decide +kernel
theorem d25_11 : decode jdk_65_method_132_code 11 = .ok (.iload_n 1, 1) := by decide +kernel
theorem d25_12 : decode jdk_65_method_132_code 12 = .ok (.iload_n 2, 1) := by decide +kernel
theorem d25_13 : decode jdk_65_method_132_code 13 = .ok (.invokestatic 339, 3) := by decide +kernel
theorem d26_0 : decode jdk_65_method_133_code 0 = .ok (.iload_n 1, 1) := by decide +kernel
theorem d26_1 : decode jdk_65_method_133_code 1 = .ok (.iload_n 2, 1) := by decide +kernel
theorem d26_2 : decode jdk_65_method_133_code 2 = .ok (.invokestatic 343, 3) := by decide +kernel
theorem d27_0 : decode jdk_65_method_131_code 0 = .ok (.iload_n 1, 1) := by decide +kernel
theorem d27_1 : decode jdk_65_method_131_code 1 = .ok (.iload_n 0, 1) := by decide +kernel
theorem d27_2 : decode jdk_65_method_131_code 2 = .ok (.if_icmp .ge 35, 3) := by decide +kernel
theorem d27_37 : decode jdk_65_method_131_code 37 = .ok (.return_, 1) := by decide +kernel
theorem d26_5 : decode jdk_65_method_133_code 5 = .ok (.iload_n 2, 1) := by decide +kernel
theorem d26_6 : decode jdk_65_method_133_code 6 = .ok (.iload_n 1, 1) := by decide +kernel
theorem d26_7 : decode jdk_65_method_133_code 7 = .ok (.isub, 1) := by decide +kernel
theorem d26_8 : decode jdk_65_method_133_code 8 = .ok (.istore_n 3, 1) := by decide +kernel
theorem d26_9 : decode jdk_65_method_133_code 9 = .ok (.iload_n 3, 1) := by decide +kernel
theorem d26_10 : decode jdk_65_method_133_code 10 = .ok (.newarray .byte, 2) := by decide +kernel
theorem d26_12 : decode jdk_65_method_133_code 12 = .ok (.astore 4, 2) := by decide +kernel
theorem d26_14 : decode jdk_65_method_133_code 14 = .ok (.aload_n 0, 1) := by decide +kernel
theorem d26_15 : decode jdk_65_method_133_code 15 = .ok (.iload_n 1, 1) := by decide +kernel
theorem d26_16 : decode jdk_65_method_133_code 16 = .ok (.aload 4, 2) := by decide +kernel
theorem d26_18 : decode jdk_65_method_133_code 18 = .ok (.iconst 0, 1) := by decide +kernel
theorem d26_19 : decode jdk_65_method_133_code 19 = .ok (.aload_n 0, 1) := by decide +kernel
theorem d26_20 : decode jdk_65_method_133_code 20 = .ok (.arraylength, 1) := by decide +kernel
theorem d26_21 : decode jdk_65_method_133_code 21 = .ok (.iload_n 1, 1) := by decide +kernel
theorem d26_22 : decode jdk_65_method_133_code 22 = .ok (.isub, 1) := by decide +kernel
theorem d26_23 : decode jdk_65_method_133_code 23 = .ok (.iload_n 3, 1) := by decide +kernel
theorem d26_24 : decode jdk_65_method_133_code 24 = .ok (.invokestatic 304, 3) := by decide +kernel
theorem d28_9 : decode jdk_29_method_69_code 9 = .ok (.iload_n 1, 1) := by decide +kernel
theorem d26_27 : decode jdk_65_method_133_code 27 = .ok (.invokestatic 150, 3) := by decide +kernel
theorem d26_30 : decode jdk_65_method_133_code 30 = .ok (.aload 4, 2) := by decide +kernel
theorem d26_32 : decode jdk_65_method_133_code 32 = .ok (.areturn, 1) := by decide +kernel
theorem d25_16 : decode jdk_65_method_132_code 16 = .ok (.areturn, 1) := by decide +kernel
theorem d21_35 : decode jdk_42_method_150_code 35 = .ok (.putfield 9, 3) := by decide +kernel
theorem d21_38 : decode jdk_42_method_150_code 38 = .ok (.goto 59, 3) := by decide +kernel
theorem d21_97 : decode jdk_42_method_150_code 97 = .ok (.return_, 1) := by decide +kernel
theorem d20_6 : decode jdk_42_method_53_code 6 = .ok (.return_, 1) := by decide +kernel
theorem d19_8 : decode jdk_67_method_42_code 8 = .ok (.areturn, 1) := by decide +kernel
theorem d25_17 : decode jdk_65_method_132_code 17 = .ok (.aload_n 0, 1) := by decide +kernel
theorem d25_18 : decode jdk_65_method_132_code 18 = .ok (.invokevirtual 310, 3) := by decide +kernel
theorem d25_21 : decode jdk_65_method_132_code 21 = .ok (.checkcast 311, 3) := by decide +kernel
theorem d25_24 : decode jdk_65_method_132_code 24 = .ok (.areturn, 1) := by decide +kernel
theorem d3_0 : decode prog_22_method_5_code 0 = .ok (.new 19, 3) := by decide +kernel
theorem d3_3 : decode prog_22_method_5_code 3 = .ok (.dup, 1) := by decide +kernel
theorem d3_4 : decode prog_22_method_5_code 4 = .ok (.invokespecial 21, 3) := by decide +kernel
theorem d4_0 : decode jdk_67_method_1_code 0 = .ok (.aload_n 0, 1) := by decide +kernel
theorem d4_1 : decode jdk_67_method_1_code 1 = .ok (.bipush 16, 2) := by decide +kernel
theorem d4_3 : decode jdk_67_method_1_code 3 = .ok (.invokespecial 1, 3) := by decide +kernel
theorem d5_0 : decode jdk_68_method_2_code 0 = .ok (.aload_n 0, 1) := by decide +kernel
theorem d5_1 : decode jdk_68_method_2_code 1 = .ok (.invokespecial 3, 3) := by decide +kernel
theorem d5_4 : decode jdk_68_method_2_code 4 = .ok (.getstatic 18, 3) := by decide +kernel
theorem d5_7 : decode jdk_68_method_2_code 7 = .ok (.ifCond .eq 18, 3) := by decide +kernel
theorem d5_10 : decode jdk_68_method_2_code 10 = .ok (.aload_n 0, 1) := by decide +kernel
theorem d5_11 : decode jdk_68_method_2_code 11 = .ok (.iload_n 1, 1) := by decide +kernel
theorem d5_12 : decode jdk_68_method_2_code 12 = .ok (.newarray .byte, 2) := by decide +kernel
theorem d5_14 : decode jdk_68_method_2_code 14 = .ok (.putfield 15, 3) := by decide +kernel
theorem d5_17 : decode jdk_68_method_2_code 17 = .ok (.aload_n 0, 1) := by decide +kernel
theorem d5_18 : decode jdk_68_method_2_code 18 = .ok (.iconst 0, 1) := by decide +kernel
theorem d5_19 : decode jdk_68_method_2_code 19 = .ok (.putfield 22, 3) := by decide +kernel
theorem d5_22 : decode jdk_68_method_2_code 22 = .ok (.goto 16, 3) := by decide +kernel
theorem d5_38 : decode jdk_68_method_2_code 38 = .ok (.return_, 1) := by decide +kernel
theorem d4_6 : decode jdk_67_method_1_code 6 = .ok (.return_, 1) := by decide +kernel
theorem d3_7 : decode prog_22_method_5_code 7 = .ok (.aload_n 0, 1) := by decide +kernel
theorem d3_8 : decode prog_22_method_5_code 8 = .ok (.getfield 7, 3) := by decide +kernel
theorem d3_11 : decode prog_22_method_5_code 11 = .ok (.invokevirtual 22, 3) := by decide +kernel
theorem d3_14 : decode prog_22_method_5_code 14 = .ok (.ldc 26, 2) := by decide +kernel
theorem d3_16 : decode prog_22_method_5_code 16 = .ok (.invokevirtual 28, 3) := by decide +kernel
theorem d3_19 : decode prog_22_method_5_code 19 = .ok (.aload_n 0, 1) := by decide +kernel
theorem d3_20 : decode prog_22_method_5_code 20 = .ok (.getfield 13, 3) := by decide +kernel
theorem d3_23 : decode prog_22_method_5_code 23 = .ok (.invokevirtual 22, 3) := by decide +kernel
theorem d3_26 : decode prog_22_method_5_code 26 = .ok (.ldc 26, 2) := by decide +kernel
theorem d3_28 : decode prog_22_method_5_code 28 = .ok (.invokevirtual 28, 3) := by decide +kernel
theorem d3_31 : decode prog_22_method_5_code 31 = .ok (.aload_n 0, 1) := by decide +kernel
theorem d3_32 : decode prog_22_method_5_code 32 = .ok (.getfield 16, 3) := by decide +kernel
theorem d3_35 : decode prog_22_method_5_code 35 = .ok (.invokevirtual 22, 3) := by decide +kernel
theorem d3_38 : decode prog_22_method_5_code 38 = .ok (.invokevirtual 31, 3) := by decide +kernel
theorem d3_41 : decode prog_22_method_5_code 41 = .ok (.areturn, 1) := by decide +kernel
theorem d30_0 : decode jdk_42_method_56_code 0 = .ok (.aload_n 0, 1) := by decide +kernel
theorem d30_1 : decode jdk_42_method_56_code 1 = .ok (.invokevirtual 492, 3) := by decide +kernel
theorem d31_0 : decode jdk_42_method_154_code 0 = .ok (.getstatic 38, 3) := by decide +kernel
theorem d31_3 : decode jdk_42_method_154_code 3 = .ok (.ifCond .eq 14, 3) := by decide +kernel
theorem d31_6 : decode jdk_42_method_154_code 6 = .ok (.aload_n 0, 1) := by decide +kernel
theorem d31_7 : decode jdk_42_method_154_code 7 = .ok (.getfield 15, 3) := by decide +kernel
theorem d31_10 : decode jdk_42_method_154_code 10 = .ok (.ifCond .ne 7, 3) := by decide +kernel
theorem d31_13 : decode jdk_42_method_154_code 13 = .ok (.iconst 1, 1) := by decide +kernel
theorem d31_14 : decode jdk_42_method_154_code 14 = .ok (.goto 4, 3) := by decide +kernel
theorem d31_18 : decode jdk_42_method_154_code 18 = .ok (.ireturn, 1) := by decide +kernel
theorem d30_4 : decode jdk_42_method_56_code 4 = .ok (.ifCond .eq 12, 3) := by decide +kernel
theorem d30_7 : decode jdk_42_method_56_code 7 = .ok (.aload_n 0, 1) := by decide +kernel
theorem d30_8 : decode jdk_42_method_56_code 8 = .ok (.getfield 9, 3) := by decide +kernel
theorem d30_11 : decode jdk_42_method_56_code 11 = .ok (.iload_n 1, 1) := by decide +kernel
theorem d30_12 : decode jdk_42_method_56_code 12 = .ok (.invokestatic 495, 3) := by decide +kernel
theorem d32_0 : decode jdk_43_method_2_code 0 = .ok (.iload_n 1, 1) := by decide +kernel
theorem d32_1 : decode jdk_43_method_2_code 1 = .ok (.aload_n 0, 1) := by decide +kernel
theorem d32_2 : decode jdk_43_method_2_code 2 = .ok (.arraylength, 1) := by decide +kernel
theorem d32_3 : decode jdk_43_method_2_code 3 = .ok (.invokestatic 9, 3) := by decide +kernel
theorem d33_0 : decode jdk_42_method_155_code 0 = .ok (.iload_n 0, 1) := by decide +kernel
theorem d33_1 : decode jdk_42_method_155_code 1 = .ok (.iload_n 1, 1) := by decide +kernel
theorem d33_2 : decode jdk_42_method_155_code 2 = .ok (.getstatic 1053, 3) := by decide +kernel
theorem d33_5 : decode jdk_42_method_155_code 5 = .ok (.invokestatic 1059, 3) := by decide +kernel
theorem d34_0 : decode jdk_41_method_11_code 0 = .ok (.iload_n 0, 1) := by decide +kernel
theorem d34_1 : decode jdk_41_method_11_code 1 = .ok (.ifCond .lt 8, 3) := by decide +kernel
theorem d34_4 : decode jdk_41_method_11_code 4 = .ok (.iload_n 0, 1) := by decide +kernel
theorem d34_5 : decode jdk_41_method_11_code 5 = .ok (.iload_n 1, 1) := by decide +kernel
theorem d34_6 : decode jdk_41_method_11_code 6 = .ok (.if_icmp .lt 10, 3) := by decide +kernel
theorem d34_16 : decode jdk_41_method_11_code 16 = .ok (.iload_n 0, 1) := by decide +kernel
theorem d34_17 : decode jdk_41_method_11_code 17 = .ok (.ireturn, 1) := by decide +kernel
theorem d33_8 : decode jdk_42_method_155_code 8 = .ok (.pop, 1) := by decide +kernel
theorem d33_9 : decode jdk_42_method_155_code 9 = .ok (.return_, 1) := by decide +kernel
theorem d32_6 : decode jdk_43_method_2_code 6 = .ok (.aload_n 0, 1) := by decide +kernel
theorem d32_7 : decode jdk_43_method_2_code 7 = .ok (.iload_n 1, 1) := by decide +kernel
theorem d32_8 : decode jdk_43_method_2_code 8 = .ok (.baload, 1) := by decide +kernel
theorem d32_9 : decode jdk_43_method_2_code 9 = .ok (.sipush 255, 3) := by decide +kernel
theorem d32_12 : decode jdk_43_method_2_code 12 = .ok (.iand, 1) := by decide +kernel
theorem d32_13 : decode jdk_43_method_2_code 13 = .ok (.i2c, 1) := by decide +kernel
theorem d32_14 : decode jdk_43_method_2_code 14 = .ok (.ireturn, 1) := by decide +kernel
theorem d30_15 : decode jdk_42_method_56_code 15 = .ok (.ireturn, 1) := by decide +kernel
theorem d36_0 : decode method_3_code 0 = .ok (.iload 4, 2) := by decide +kernel
theorem d36_2 : decode method_3_code 2 = .ok (.iload_n 3, 1) := by decide +kernel
theorem d36_3 : decode method_3_code 3 = .ok (.if_icmp .lt 5, 3) := by decide +kernel
theorem d36_8 : decode method_3_code 8 = .ok (.bipush 10, 2) := by decide +kernel
theorem d36_10 : decode method_3_code 10 = .ok (.newarray .int, 2) := by decide +kernel
theorem d36_12 : decode method_3_code 12 = .ok (.dup, 1) := by decide +kernel
theorem d36_13 : decode method_3_code 13 = .ok (.iconst 0, 1) := by decide +kernel
theorem d36_14 : decode method_3_code 14 = .ok (.iconst 1, 1) := by decide +kernel
theorem d36_15 : decode method_3_code 15 = .ok (.iastore, 1) := by decide +kernel
theorem d36_16 : decode method_3_code 16 = .ok (.dup, 1) := by decide +kernel
theorem d36_17 : decode method_3_code 17 = .ok (.iconst 1, 1) := by decide +kernel
theorem d36_18 : decode method_3_code 18 = .ok (.bipush 10, 2) := by decide +kernel
theorem d36_20 : decode method_3_code 20 = .ok (.iastore, 1) := by decide +kernel
theorem d36_21 : decode method_3_code 21 = .ok (.dup, 1) := by decide +kernel
theorem d36_22 : decode method_3_code 22 = .ok (.iconst 2, 1) := by decide +kernel
theorem d36_23 : decode method_3_code 23 = .ok (.bipush 100, 2) := by decide +kernel
theorem d36_25 : decode method_3_code 25 = .ok (.iastore, 1) := by decide +kernel
theorem d36_26 : decode method_3_code 26 = .ok (.dup, 1) := by decide +kernel
theorem d36_27 : decode method_3_code 27 = .ok (.iconst 3, 1) := by decide +kernel
theorem d36_28 : decode method_3_code 28 = .ok (.sipush 1000, 3) := by decide +kernel
theorem d36_31 : decode method_3_code 31 = .ok (.iastore, 1) := by decide +kernel
theorem d36_32 : decode method_3_code 32 = .ok (.dup, 1) := by decide +kernel
theorem d36_33 : decode method_3_code 33 = .ok (.iconst 4, 1) := by decide +kernel
theorem d36_34 : decode method_3_code 34 = .ok (.sipush 10000, 3) := by decide +kernel
theorem d36_37 : decode method_3_code 37 = .ok (.iastore, 1) := by decide +kernel
theorem d36_38 : decode method_3_code 38 = .ok (.dup, 1) := by decide +kernel
theorem d36_39 : decode method_3_code 39 = .ok (.iconst 5, 1) := by decide +kernel
theorem d36_40 : decode method_3_code 40 = .ok (.ldc 7, 2) := by decide +kernel
theorem d36_42 : decode method_3_code 42 = .ok (.iastore, 1) := by decide +kernel
theorem d36_43 : decode method_3_code 43 = .ok (.dup, 1) := by decide +kernel
theorem d36_44 : decode method_3_code 44 = .ok (.bipush 6, 2) := by decide +kernel
theorem d36_46 : decode method_3_code 46 = .ok (.ldc 8, 2) := by decide +kernel
theorem d36_48 : decode method_3_code 48 = .ok (.iastore, 1) := by decide +kernel
theorem d36_49 : decode method_3_code 49 = .ok (.dup, 1) := by decide +kernel
theorem d36_50 : decode method_3_code 50 = .ok (.bipush 7, 2) := by decide +kernel
theorem d36_52 : decode method_3_code 52 = .ok (.ldc 9, 2) := by decide +kernel
theorem d36_54 : decode method_3_code 54 = .ok (.iastore, 1) := by decide +kernel
theorem d36_55 : decode method_3_code 55 = .ok (.dup, 1) := by decide +kernel
theorem d36_56 : decode method_3_code 56 = .ok (.bipush 8, 2) := by decide +kernel
theorem d36_58 : decode method_3_code 58 = .ok (.ldc 10, 2) := by decide +kernel
theorem d36_60 : decode method_3_code 60 = .ok (.iastore, 1) := by decide +kernel
theorem d36_61 : decode method_3_code 61 = .ok (.dup, 1) := by decide +kernel
theorem d36_62 : decode method_3_code 62 = .ok (.bipush 9, 2) := by decide +kernel
theorem d36_64 : decode method_3_code 64 = .ok (.ldc 11, 2) := by decide +kernel
theorem d36_66 : decode method_3_code 66 = .ok (.iastore, 1) := by decide +kernel
theorem d36_67 : decode method_3_code 67 = .ok (.astore 5, 2) := by decide +kernel
theorem d36_69 : decode method_3_code 69 = .ok (.iload_n 2, 1) := by decide +kernel
theorem d36_70 : decode method_3_code 70 = .ok (.aload 5, 2) := by decide +kernel
theorem d36_72 : decode method_3_code 72 = .ok (.iload_n 3, 1) := by decide +kernel
theorem d36_73 : decode method_3_code 73 = .ok (.iconst 1, 1) := by decide +kernel
theorem d36_74 : decode method_3_code 74 = .ok (.isub, 1) := by decide +kernel
theorem d36_75 : decode method_3_code 75 = .ok (.iload 4, 2) := by decide +kernel
theorem d36_77 : decode method_3_code 77 = .ok (.isub, 1) := by decide +kernel
theorem d36_78 : decode method_3_code 78 = .ok (.iaload, 1) := by decide +kernel
theorem d36_79 : decode method_3_code 79 = .ok (.idiv, 1) := by decide +kernel
theorem d36_80 : decode method_3_code 80 = .ok (.bipush 10, 2) := by decide +kernel
theorem d36_82 : decode method_3_code 82 = .ok (.irem, 1) := by decide +kernel
theorem d36_83 : decode method_3_code 83 = .ok (.istore 6, 2) := by decide +kernel
theorem d36_85 : decode method_3_code 85 = .ok (.aload_n 0, 1) := by decide +kernel
theorem d36_86 : decode method_3_code 86 = .ok (.iload_n 1, 1) := by decide +kernel
theorem d36_87 : decode method_3_code 87 = .ok (.iload 4, 2) := by decide +kernel
theorem d36_89 : decode method_3_code 89 = .ok (.iadd, 1) := by decide +kernel
theorem d36_90 : decode method_3_code 90 = .ok (.invokevirtual 12, 3) := by decide +kernel
theorem d36_93 : decode method_3_code 93 = .ok (.bipush 48, 2) := by decide +kernel
theorem d36_95 : decode method_3_code 95 = .ok (.iload 6, 2) := by decide +kernel
theorem d36_97 : decode method_3_code 97 = .ok (.iadd, 1) := by decide +kernel
theorem d36_98 : decode method_3_code 98 = .ok (.i2c, 1) := by decide +kernel
theorem d36_99 : decode method_3_code 99 = .ok (.if_icmp .ne 7, 3) := by decide +kernel
theorem d36_102 : decode method_3_code 102 = .ok (.iconst 1, 1) := by decide +kernel
theorem d36_103 : decode method_3_code 103 = .ok (.goto 4, 3) := by decide +kernel
theorem d36_107 : decode method_3_code 107 = .ok (.ireturn, 1) := by decide +kernel
theorem d36_6 : decode method_3_code 6 = .ok (.iconst 1, 1) := by decide +kernel
theorem d36_7 : decode method_3_code 7 = .ok (.ireturn, 1) := by decide +kernel
theorem d35_0 : decode method_4_code 0 = .ok (.aload_n 0, 1) := by decide +kernel
theorem d35_1 : decode method_4_code 1 = .ok (.iload_n 1, 1) := by decide +kernel
theorem d35_2 : decode method_4_code 2 = .ok (.iload_n 2, 1) := by decide +kernel
theorem d35_3 : decode method_4_code 3 = .ok (.iload_n 3, 1) := by decide +kernel
theorem d35_4 : decode method_4_code 4 = .ok (.iconst 0, 1) := by decide +kernel
theorem d35_5 : decode method_4_code 5 = .ok (.invokestatic 18, 3) := by decide +kernel
theorem d35_8 : decode method_4_code 8 = .ok (.ifCond .eq 110, 3) := by decide +kernel
theorem d35_11 : decode method_4_code 11 = .ok (.aload_n 0, 1) := by decide +kernel
theorem d35_12 : decode method_4_code 12 = .ok (.iload_n 1, 1) := by decide +kernel
theorem d35_13 : decode method_4_code 13 = .ok (.iload_n 2, 1) := by decide +kernel
theorem d35_14 : decode method_4_code 14 = .ok (.iload_n 3, 1) := by decide +kernel
theorem d35_15 : decode method_4_code 15 = .ok (.iconst 1, 1) := by decide +kernel
theorem d35_16 : decode method_4_code 16 = .ok (.invokestatic 18, 3) := by decide +kernel
theorem d35_19 : decode method_4_code 19 = .ok (.ifCond .eq 99, 3) := by decide +kernel
theorem d35_22 : decode method_4_code 22 = .ok (.aload_n 0, 1) := by decide +kernel
theorem d35_23 : decode method_4_code 23 = .ok (.iload_n 1, 1) := by decide +kernel
theorem d35_24 : decode method_4_code 24 = .ok (.iload_n 2, 1) := by decide +kernel
theorem d35_25 : decode method_4_code 25 = .ok (.iload_n 3, 1) := by decide +kernel
theorem d35_26 : decode method_4_code 26 = .ok (.iconst 2, 1) := by decide +kernel
theorem d35_27 : decode method_4_code 27 = .ok (.invokestatic 18, 3) := by decide +kernel
theorem d35_30 : decode method_4_code 30 = .ok (.ifCond .eq 88, 3) := by decide +kernel
theorem d35_33 : decode method_4_code 33 = .ok (.aload_n 0, 1) := by decide +kernel
theorem d35_34 : decode method_4_code 34 = .ok (.iload_n 1, 1) := by decide +kernel
theorem d35_35 : decode method_4_code 35 = .ok (.iload_n 2, 1) := by decide +kernel
theorem d35_36 : decode method_4_code 36 = .ok (.iload_n 3, 1) := by decide +kernel
theorem d35_37 : decode method_4_code 37 = .ok (.iconst 3, 1) := by decide +kernel
theorem d35_38 : decode method_4_code 38 = .ok (.invokestatic 18, 3) := by decide +kernel
theorem d35_41 : decode method_4_code 41 = .ok (.ifCond .eq 77, 3) := by decide +kernel
theorem d35_44 : decode method_4_code 44 = .ok (.aload_n 0, 1) := by decide +kernel
theorem d35_45 : decode method_4_code 45 = .ok (.iload_n 1, 1) := by decide +kernel
theorem d35_46 : decode method_4_code 46 = .ok (.iload_n 2, 1) := by decide +kernel
theorem d35_47 : decode method_4_code 47 = .ok (.iload_n 3, 1) := by decide +kernel
theorem d35_48 : decode method_4_code 48 = .ok (.iconst 4, 1) := by decide +kernel
theorem d35_49 : decode method_4_code 49 = .ok (.invokestatic 18, 3) := by decide +kernel
theorem d35_52 : decode method_4_code 52 = .ok (.ifCond .eq 66, 3) := by decide +kernel
theorem d35_55 : decode method_4_code 55 = .ok (.aload_n 0, 1) := by decide +kernel
theorem d35_56 : decode method_4_code 56 = .ok (.iload_n 1, 1) := by decide +kernel
theorem d35_57 : decode method_4_code 57 = .ok (.iload_n 2, 1) := by decide +kernel
theorem d35_58 : decode method_4_code 58 = .ok (.iload_n 3, 1) := by decide +kernel
theorem d35_59 : decode method_4_code 59 = .ok (.iconst 5, 1) := by decide +kernel
theorem d35_60 : decode method_4_code 60 = .ok (.invokestatic 18, 3) := by decide +kernel
theorem d35_63 : decode method_4_code 63 = .ok (.ifCond .eq 55, 3) := by decide +kernel
theorem d35_66 : decode method_4_code 66 = .ok (.aload_n 0, 1) := by decide +kernel
theorem d35_67 : decode method_4_code 67 = .ok (.iload_n 1, 1) := by decide +kernel
theorem d35_68 : decode method_4_code 68 = .ok (.iload_n 2, 1) := by decide +kernel
theorem d35_69 : decode method_4_code 69 = .ok (.iload_n 3, 1) := by decide +kernel
theorem d35_70 : decode method_4_code 70 = .ok (.bipush 6, 2) := by decide +kernel
theorem d35_72 : decode method_4_code 72 = .ok (.invokestatic 18, 3) := by decide +kernel
theorem d35_75 : decode method_4_code 75 = .ok (.ifCond .eq 43, 3) := by decide +kernel
theorem d35_78 : decode method_4_code 78 = .ok (.aload_n 0, 1) := by decide +kernel
theorem d35_79 : decode method_4_code 79 = .ok (.iload_n 1, 1) := by decide +kernel
theorem d35_80 : decode method_4_code 80 = .ok (.iload_n 2, 1) := by decide +kernel
theorem d35_81 : decode method_4_code 81 = .ok (.iload_n 3, 1) := by decide +kernel
theorem d35_82 : decode method_4_code 82 = .ok (.bipush 7, 2) := by decide +kernel
theorem d35_84 : decode method_4_code 84 = .ok (.invokestatic 18, 3) := by decide +kernel
theorem d35_87 : decode method_4_code 87 = .ok (.ifCond .eq 31, 3) := by decide +kernel
theorem d35_90 : decode method_4_code 90 = .ok (.aload_n 0, 1) := by decide +kernel
theorem d35_91 : decode method_4_code 91 = .ok (.iload_n 1, 1) := by decide +kernel
theorem d35_92 : decode method_4_code 92 = .ok (.iload_n 2, 1) := by decide +kernel
theorem d35_93 : decode method_4_code 93 = .ok (.iload_n 3, 1) := by decide +kernel
theorem d35_94 : decode method_4_code 94 = .ok (.bipush 8, 2) := by decide +kernel
theorem d35_96 : decode method_4_code 96 = .ok (.invokestatic 18, 3) := by decide +kernel
theorem d35_99 : decode method_4_code 99 = .ok (.ifCond .eq 19, 3) := by decide +kernel
theorem d35_102 : decode method_4_code 102 = .ok (.aload_n 0, 1) := by decide +kernel
theorem d35_103 : decode method_4_code 103 = .ok (.iload_n 1, 1) := by decide +kernel
theorem d35_104 : decode method_4_code 104 = .ok (.iload_n 2, 1) := by decide +kernel
theorem d35_105 : decode method_4_code 105 = .ok (.iload_n 3, 1) := by decide +kernel
theorem d35_106 : decode method_4_code 106 = .ok (.bipush 9, 2) := by decide +kernel
theorem d35_108 : decode method_4_code 108 = .ok (.invokestatic 18, 3) := by decide +kernel
theorem d35_111 : decode method_4_code 111 = .ok (.ifCond .eq 7, 3) := by decide +kernel
theorem d35_114 : decode method_4_code 114 = .ok (.iconst 1, 1) := by decide +kernel
theorem d35_115 : decode method_4_code 115 = .ok (.goto 4, 3) := by decide +kernel
theorem d35_119 : decode method_4_code 119 = .ok (.ireturn, 1) := by decide +kernel
theorem d1_0 : decode prog_22_method_1_code 0 = .ok (.aload_n 0, 1) := by decide +kernel
theorem d1_1 : decode prog_22_method_1_code 1 = .ok (.invokespecial 1, 3) := by decide +kernel
theorem d1_4 : decode prog_22_method_1_code 4 = .ok (.aload_n 0, 1) := by decide +kernel
theorem d1_5 : decode prog_22_method_1_code 5 = .ok (.iload_n 1, 1) := by decide +kernel
theorem d1_6 : decode prog_22_method_1_code 6 = .ok (.putfield 7, 3) := by decide +kernel
theorem d1_9 : decode prog_22_method_1_code 9 = .ok (.aload_n 0, 1) := by decide +kernel
theorem d1_10 : decode prog_22_method_1_code 10 = .ok (.iload_n 2, 1) := by decide +kernel
theorem d1_11 : decode prog_22_method_1_code 11 = .ok (.putfield 13, 3) := by decide +kernel
theorem d1_14 : decode prog_22_method_1_code 14 = .ok (.aload_n 0, 1) := by decide +kernel
theorem d1_15 : decode prog_22_method_1_code 15 = .ok (.iload_n 3, 1) := by decide +kernel
theorem d1_16 : decode prog_22_method_1_code 16 = .ok (.putfield 16, 3) := by decide +kernel
theorem d1_19 : decode prog_22_method_1_code 19 = .ok (.return_, 1) := by decide +kernel
theorem ef_jdk_33_method_13_I (m : MethodId) (x0 : Int32) : entryFrame m #[(.int x0)] 4 = mkF m 0 #[.val (.int x0), .unset, .unset, .unset] [] := by first | (simp [entryFrame, mkF, argsToLocals, Value.category]; done) | rfl
theorem ef_method_2_I (m : MethodId) (x0 : Int32) : entryFrame m #[(.int x0)] 1 = mkF m 0 #[.val (.int x0)] [] := by first | (simp [entryFrame, mkF, argsToLocals, Value.category]; done) | rfl
theorem ef_jdk_33_method_12_IIR (m : MethodId) (x0 : Int32) (x1 : Int32) (x2 : Addr) : entryFrame m #[(.int x0), (.int x1), (.ref x2)] 7 = mkF m 0 #[.val (.int x0), .val (.int x1), .val (.ref x2), .unset, .unset, .unset, .unset] [] := by first | (simp [entryFrame, mkF, argsToLocals, Value.category]; done) | rfl
theorem ef_jdk_68_method_9_RI (m : MethodId) (x0 : Addr) (x1 : Int32) : entryFrame m #[(.ref x0), (.int x1)] 3 = mkF m 0 #[.val (.ref x0), .val (.int x1), .unset] [] := by first | (simp [entryFrame, mkF, argsToLocals, Value.category]; done) | rfl
theorem ef_jdk_29_method_65_II (m : MethodId) (x0 : Int32) (x1 : Int32) : entryFrame m #[(.int x0), (.int x1)] 2 = mkF m 0 #[.val (.int x0), .val (.int x1)] [] := by first | (simp [entryFrame, mkF, argsToLocals, Value.category]; done) | rfl
theorem ef_jdk_48_method_27_III (m : MethodId) (x0 : Int32) (x1 : Int32) (x2 : Int32) : entryFrame m #[(.int x0), (.int x1), (.int x2)] 4 = mkF m 0 #[.val (.int x0), .val (.int x1), .val (.int x2), .unset] [] := by first | (simp [entryFrame, mkF, argsToLocals, Value.category]; done) | rfl
theorem ef_jdk_68_method_10_RI (m : MethodId) (x0 : Addr) (x1 : Int32) : entryFrame m #[(.ref x0), (.int x1)] 6 = mkF m 0 #[.val (.ref x0), .val (.int x1), .unset, .unset, .unset, .unset] [] := by first | (simp [entryFrame, mkF, argsToLocals, Value.category]; done) | rfl
theorem ef_jdk_29_method_69_II (m : MethodId) (x0 : Int32) (x1 : Int32) : entryFrame m #[(.int x0), (.int x1)] 2 = mkF m 0 #[.val (.int x0), .val (.int x1)] [] := by first | (simp [entryFrame, mkF, argsToLocals, Value.category]; done) | rfl
theorem ef_jdk_65_method_121_RI (m : MethodId) (x0 : Addr) (x1 : Int32) : entryFrame m #[(.ref x0), (.int x1)] 3 = mkF m 0 #[.val (.ref x0), .val (.int x1), .unset] [] := by first | (simp [entryFrame, mkF, argsToLocals, Value.category]; done) | rfl
theorem ef_jdk_68_method_68_R (m : MethodId) (x0 : Addr) : entryFrame m #[(.ref x0)] 1 = mkF m 0 #[.val (.ref x0)] [] := by first | (simp [entryFrame, mkF, argsToLocals, Value.category]; done) | rfl
theorem ef_jdk_68_method_32_RI (m : MethodId) (x0 : Addr) (x1 : Int32) : entryFrame m #[(.ref x0), (.int x1)] 4 = mkF m 0 #[.val (.ref x0), .val (.int x1), .unset, .unset] [] := by first | (simp [entryFrame, mkF, argsToLocals, Value.category]; done) | rfl
theorem ef_jdk_67_method_15_RI (m : MethodId) (x0 : Addr) (x1 : Int32) : entryFrame m #[(.ref x0), (.int x1)] 2 = mkF m 0 #[.val (.ref x0), .val (.int x1)] [] := by first | (simp [entryFrame, mkF, argsToLocals, Value.category]; done) | rfl
theorem ef_jdk_42_method_152_R (m : MethodId) (x0 : Addr) : entryFrame m #[(.ref x0)] 1 = mkF m 0 #[.val (.ref x0)] [] := by first | (simp [entryFrame, mkF, argsToLocals, Value.category]; done) | rfl
theorem ef_jdk_42_method_54_R (m : MethodId) (x0 : Addr) : entryFrame m #[(.ref x0)] 1 = mkF m 0 #[.val (.ref x0)] [] := by first | (simp [entryFrame, mkF, argsToLocals, Value.category]; done) | rfl
theorem ef_jdk_68_method_71_RR (m : MethodId) (x0 : Addr) (x1 : Addr) : entryFrame m #[(.ref x0), (.ref x1)] 2 = mkF m 0 #[.val (.ref x0), .val (.ref x1)] [] := by first | (simp [entryFrame, mkF, argsToLocals, Value.category]; done) | rfl
theorem ef_jdk_42_method_147_RRII (m : MethodId) (x0 : Addr) (x1 : Addr) (x2 : Int32) (x3 : Int32) : entryFrame m #[(.ref x0), (.ref x1), (.int x2), (.int x3)] 4 = mkF m 0 #[.val (.ref x0), .val (.ref x1), .val (.int x2), .val (.int x3)] [] := by first | (simp [entryFrame, mkF, argsToLocals, Value.category]; done) | rfl
theorem ef_jdk_68_method_73_RIR (m : MethodId) (x0 : Addr) (x1 : Int32) (x2 : Addr) : entryFrame m #[(.ref x0), (.int x1), (.ref x2)] 3 = mkF m 0 #[.val (.ref x0), .val (.int x1), .val (.ref x2)] [] := by first | (simp [entryFrame, mkF, argsToLocals, Value.category]; done) | rfl
theorem ef_jdk_68_method_22_RR (m : MethodId) (x0 : Addr) (x1 : Addr) : entryFrame m #[(.ref x0), (.ref x1)] 3 = mkF m 0 #[.val (.ref x0), .val (.ref x1), .unset] [] := by first | (simp [entryFrame, mkF, argsToLocals, Value.category]; done) | rfl
theorem ef_jdk_67_method_7_RR (m : MethodId) (x0 : Addr) (x1 : Addr) : entryFrame m #[(.ref x0), (.ref x1)] 2 = mkF m 0 #[.val (.ref x0), .val (.ref x1)] [] := by first | (simp [entryFrame, mkF, argsToLocals, Value.category]; done) | rfl
theorem ef_jdk_68_method_64_R (m : MethodId) (x0 : Addr) : entryFrame m #[(.ref x0)] 1 = mkF m 0 #[.val (.ref x0)] [] := by first | (simp [entryFrame, mkF, argsToLocals, Value.category]; done) | rfl
theorem ef_jdk_68_method_6_R (m : MethodId) (x0 : Addr) : entryFrame m #[(.ref x0)] 1 = mkF m 0 #[.val (.ref x0)] [] := by first | (simp [entryFrame, mkF, argsToLocals, Value.category]; done) | rfl
theorem ef_jdk_67_method_93_R (m : MethodId) (x0 : Addr) : entryFrame m #[(.ref x0)] 1 = mkF m 0 #[.val (.ref x0)] [] := by first | (simp [entryFrame, mkF, argsToLocals, Value.category]; done) | rfl
theorem ef_jdk_65_method_131_II (m : MethodId) (x0 : Int32) (x1 : Int32) : entryFrame m #[(.int x0), (.int x1)] 2 = mkF m 0 #[.val (.int x0), .val (.int x1)] [] := by first | (simp [entryFrame, mkF, argsToLocals, Value.category]; done) | rfl
theorem ef_jdk_65_method_133_RII (m : MethodId) (x0 : Addr) (x1 : Int32) (x2 : Int32) : entryFrame m #[(.ref x0), (.int x1), (.int x2)] 5 = mkF m 0 #[.val (.ref x0), .val (.int x1), .val (.int x2), .unset, .unset] [] := by first | (simp [entryFrame, mkF, argsToLocals, Value.category]; done) | rfl
theorem ef_jdk_65_method_132_RII (m : MethodId) (x0 : Addr) (x1 : Int32) (x2 : Int32) : entryFrame m #[(.ref x0), (.int x1), (.int x2)] 3 = mkF m 0 #[.val (.ref x0), .val (.int x1), .val (.int x2)] [] := by first | (simp [entryFrame, mkF, argsToLocals, Value.category]; done) | rfl
theorem ef_jdk_42_method_150_RRn (m : MethodId) (x0 : Addr) (x1 : Addr) : entryFrame m #[(.ref x0), (.ref x1), .null] 5 = mkF m 0 #[.val (.ref x0), .val (.ref x1), .val .null, .unset, .unset] [] := by first | (simp [entryFrame, mkF, argsToLocals, Value.category]; done) | rfl
theorem ef_jdk_42_method_53_RR (m : MethodId) (x0 : Addr) (x1 : Addr) : entryFrame m #[(.ref x0), (.ref x1)] 2 = mkF m 0 #[.val (.ref x0), .val (.ref x1)] [] := by first | (simp [entryFrame, mkF, argsToLocals, Value.category]; done) | rfl
theorem ef_jdk_67_method_42_R (m : MethodId) (x0 : Addr) : entryFrame m #[(.ref x0)] 1 = mkF m 0 #[.val (.ref x0)] [] := by first | (simp [entryFrame, mkF, argsToLocals, Value.category]; done) | rfl
theorem ef_jdk_68_method_2_RI (m : MethodId) (x0 : Addr) (x1 : Int32) : entryFrame m #[(.ref x0), (.int x1)] 2 = mkF m 0 #[.val (.ref x0), .val (.int x1)] [] := by first | (simp [entryFrame, mkF, argsToLocals, Value.category]; done) | rfl
theorem ef_jdk_67_method_1_R (m : MethodId) (x0 : Addr) : entryFrame m #[(.ref x0)] 1 = mkF m 0 #[.val (.ref x0)] [] := by first | (simp [entryFrame, mkF, argsToLocals, Value.category]; done) | rfl
theorem ef_prog_22_method_5_R (m : MethodId) (x0 : Addr) : entryFrame m #[(.ref x0)] 1 = mkF m 0 #[.val (.ref x0)] [] := by first | (simp [entryFrame, mkF, argsToLocals, Value.category]; done) | rfl
theorem ef_jdk_42_method_154_R (m : MethodId) (x0 : Addr) : entryFrame m #[(.ref x0)] 1 = mkF m 0 #[.val (.ref x0)] [] := by first | (simp [entryFrame, mkF, argsToLocals, Value.category]; done) | rfl
theorem ef_jdk_41_method_11_IIX (m : MethodId) (x0 : Int32) (x1 : Int32) (x2 : Value) (y2 : x2.isRef = true) : entryFrame m #[(.int x0), (.int x1), x2] 3 = mkF m 0 #[.val (.int x0), .val (.int x1), .val x2] [] := by rcases ref_cases y2 with rfl | ⟨y2', rfl⟩ <;> first | (simp [entryFrame, mkF, argsToLocals, Value.category]; done) | rfl
theorem ef_jdk_42_method_155_II (m : MethodId) (x0 : Int32) (x1 : Int32) : entryFrame m #[(.int x0), (.int x1)] 2 = mkF m 0 #[.val (.int x0), .val (.int x1)] [] := by first | (simp [entryFrame, mkF, argsToLocals, Value.category]; done) | rfl
theorem ef_jdk_43_method_2_RI (m : MethodId) (x0 : Addr) (x1 : Int32) : entryFrame m #[(.ref x0), (.int x1)] 2 = mkF m 0 #[.val (.ref x0), .val (.int x1)] [] := by first | (simp [entryFrame, mkF, argsToLocals, Value.category]; done) | rfl
theorem ef_jdk_42_method_56_RI (m : MethodId) (x0 : Addr) (x1 : Int32) : entryFrame m #[(.ref x0), (.int x1)] 2 = mkF m 0 #[.val (.ref x0), .val (.int x1)] [] := by first | (simp [entryFrame, mkF, argsToLocals, Value.category]; done) | rfl
theorem ef_method_3_RIIII (m : MethodId) (x0 : Addr) (x1 : Int32) (x2 : Int32) (x3 : Int32) (x4 : Int32) : entryFrame m #[(.ref x0), (.int x1), (.int x2), (.int x3), (.int x4)] 7 = mkF m 0 #[.val (.ref x0), .val (.int x1), .val (.int x2), .val (.int x3), .val (.int x4), .unset, .unset] [] := by first | (simp [entryFrame, mkF, argsToLocals, Value.category]; done) | rfl
theorem ef_method_4_RIII (m : MethodId) (x0 : Addr) (x1 : Int32) (x2 : Int32) (x3 : Int32) : entryFrame m #[(.ref x0), (.int x1), (.int x2), (.int x3)] 4 = mkF m 0 #[.val (.ref x0), .val (.int x1), .val (.int x2), .val (.int x3)] [] := by first | (simp [entryFrame, mkF, argsToLocals, Value.category]; done) | rfl
theorem ef_prog_22_method_1_RIII (m : MethodId) (x0 : Addr) (x1 : Int32) (x2 : Int32) (x3 : Int32) : entryFrame m #[(.ref x0), (.int x1), (.int x2), (.int x3)] 4 = mkF m 0 #[.val (.ref x0), .val (.int x1), .val (.int x2), .val (.int x3)] [] := by first | (simp [entryFrame, mkF, argsToLocals, Value.category]; done) | rfl
theorem ef_code_III (m : MethodId) (x0 : Int32) (x1 : Int32) (x2 : Int32) : entryFrame m #[(.int x0), (.int x1), (.int x2)] maxLocals = mkF m 0 #[.val (.int x0), .val (.int x1), .val (.int x2), .unset, .unset, .unset, .unset, .unset, .unset, .unset, .unset] [] := by first | (simp [entryFrame, mkF, argsToLocals, Value.category, maxLocals]; done) | rfl
def Qrm11 (Z : State) (qa : Int32) (h0 : Heap) (v : Option Value) (h : Heap) (L : List Loc) : Prop := v = some (.int (1 : Int32)) ∧ Fr Z.heap.size L ∧ h = h0
theorem rm11 (l : Launch) (Z : State) (a0 : Array Value) (hw : own_HW Z a0) (ws : List Jvm.Cond) (qa : Int32) (h0 : Heap) (Z0 : Ext Z.heap h0) (hc2 : ¬ (qa < (0 : Int32))) (hc3 : (-10 : Int32) < (-qa)) :
    own_met l y_0 jdk_33_method_13_code 4 (some .int) ws ({ frames := 0, cells := 0, slots := 0, locals := 0 } : Room) Z #[(.int qa)] h0 (Qrm11 Z qa h0) := by
  refine own_start (plainFor_of_name pn_0) (fun m => ef_jdk_33_method_13_I m qa) ?_
  intro p e s m below meth c s₁ hx hby hml hown hnm X0 hZ e0 hret hlk
  have N0 := Fr.nil Z.heap.size
  obtain ⟨fs, hr, hrun, hended, hW, hsame⟩ := X0.leave (v := some (.int (1 : Int32))) (fun h => by rw [hret] at h; cases h) hlk
  refine ⟨_, _, ?_, hrun, hended, _, _, rfl, ?_, ⟨_, rfl⟩, hW, hsame.mono (by decide) (by decide)⟩
  · show own_S p e below s₁ (mkF m 0 #[iv qa, .unset, .unset, .unset] []) _
    refine own_k X0 hx hby d8_0 ?_
    refine XS.istoreN X0.here hx rfl (hb hby d8_1) rfl (l' := #[iv qa, iv (1 : Int32), .unset, .unset]) rfl ?_
    refine own_iN X0 hx hby d8_2 ?_
    refine own_in X0 hx hby d8_3 (flt hc2).1 ?_
    refine own_k X0 hx hby d8_6 ?_
    refine XS.istoreN X0.here hx rfl (hb hby d8_7) rfl (l' := #[iv qa, iv (0 : Int32), .unset, .unset]) rfl ?_
    refine own_iN X0 hx hby d8_8 ?_
    refine XS.ineg X0.here hx rfl (hb hby d8_9) rfl ?_
    refine XS.istoreN X0.here hx rfl (hb hby d8_10) rfl (l' := #[iv (-qa), iv (0 : Int32), .unset, .unset]) rfl ?_
    refine XS.bipush X0.here hx rfl (hb hby d8_11) ?_
    refine XS.istoreN X0.here hx rfl (hb hby d8_13) rfl (l' := #[iv (-qa), iv (0 : Int32), iv (-10 : Int32), .unset]) rfl ?_
    refine own_k X0 hx hby d8_14 ?_
    refine XS.istoreN X0.here hx rfl (hb hby d8_15) rfl (l' := #[iv (-qa), iv (0 : Int32), iv (-10 : Int32), iv (1 : Int32)]) rfl ?_
    refine own_iN X0 hx hby d8_16 ?_
    refine XS.bipush X0.here hx rfl (hb hby d8_17) ?_
    refine own_cn X0 hx hby d8_19 (tlt (by decide : (1 : Int32) < (10 : Int32))).2.1 ?_
    refine own_iN X0 hx hby d8_22 ?_
    refine own_iN X0 hx hby d8_23 ?_
    refine own_cn X0 hx hby d8_24 (tlt hc3).2.2.2 ?_
    refine own_iN X0 hx hby d8_27 ?_
    refine own_iN X0 hx hby d8_28 ?_
    refine XS.iadd X0.here hx rfl (hb hby d8_29) rfl ?_
    show own_S p e below s₁ (mkF m 30 #[iv (-qa), iv (0 : Int32), iv (-10 : Int32), iv (1 : Int32)] [(.int ((1 : Int32) + (0 : Int32)))]) _
    rw [(by decide : ((1 : Int32) + (0 : Int32)) = (1 : Int32))]
    exact retI X0 hx hret (hb hby d8_30) hr
  · show Qrm11 Z qa h0 _ s₁.heap _
    rw [e0]
    exact ⟨rfl, N0, rfl⟩
def Qrm12 (Z : State) (qa : Int32) (h0 : Heap) (v : Option Value) (h : Heap) (L : List Loc) : Prop := v = some (.int (2 : Int32)) ∧ Fr Z.heap.size L ∧ h = h0
theorem rm12 (l : Launch) (Z : State) (a0 : Array Value) (hw : own_HW Z a0) (ws : List Jvm.Cond) (qa : Int32) (h0 : Heap) (Z0 : Ext Z.heap h0) (hc2 : ¬ (qa < (0 : Int32))) (hc4 : ¬ ((-10 : Int32) < (-qa))) (hc5 : (-100 : Int32) < (-qa)) :
    own_met l y_0 jdk_33_method_13_code 4 (some .int) ws ({ frames := 0, cells := 0, slots := 0, locals := 0 } : Room) Z #[(.int qa)] h0 (Qrm12 Z qa h0) := by
  refine own_start (plainFor_of_name pn_0) (fun m => ef_jdk_33_method_13_I m qa) ?_
  intro p e s m below meth c s₁ hx hby hml hown hnm X0 hZ e0 hret hlk
  have N0 := Fr.nil Z.heap.size
  obtain ⟨fs, hr, hrun, hended, hW, hsame⟩ := X0.leave (v := some (.int (2 : Int32))) (fun h => by rw [hret] at h; cases h) hlk
  refine ⟨_, _, ?_, hrun, hended, _, _, rfl, ?_, ⟨_, rfl⟩, hW, hsame.mono (by decide) (by decide)⟩
  · show own_S p e below s₁ (mkF m 0 #[iv qa, .unset, .unset, .unset] []) _
    refine own_k X0 hx hby d8_0 ?_
    refine XS.istoreN X0.here hx rfl (hb hby d8_1) rfl (l' := #[iv qa, iv (1 : Int32), .unset, .unset]) rfl ?_
    refine own_iN X0 hx hby d8_2 ?_
    refine own_in X0 hx hby d8_3 (flt hc2).1 ?_
    refine own_k X0 hx hby d8_6 ?_
    refine XS.istoreN X0.here hx rfl (hb hby d8_7) rfl (l' := #[iv qa, iv (0 : Int32), .unset, .unset]) rfl ?_
    refine own_iN X0 hx hby d8_8 ?_
    refine XS.ineg X0.here hx rfl (hb hby d8_9) rfl ?_
    refine XS.istoreN X0.here hx rfl (hb hby d8_10) rfl (l' := #[iv (-qa), iv (0 : Int32), .unset, .unset]) rfl ?_
    refine XS.bipush X0.here hx rfl (hb hby d8_11) ?_
    refine XS.istoreN X0.here hx rfl (hb hby d8_13) rfl (l' := #[iv (-qa), iv (0 : Int32), iv (-10 : Int32), .unset]) rfl ?_
    refine own_k X0 hx hby d8_14 ?_
    refine XS.istoreN X0.here hx rfl (hb hby d8_15) rfl (l' := #[iv (-qa), iv (0 : Int32), iv (-10 : Int32), iv (1 : Int32)]) rfl ?_
    refine own_iN X0 hx hby d8_16 ?_
    refine XS.bipush X0.here hx rfl (hb hby d8_17) ?_
    refine own_cn X0 hx hby d8_19 (tlt (by decide : (1 : Int32) < (10 : Int32))).2.1 ?_
    refine own_iN X0 hx hby d8_22 ?_
    refine own_iN X0 hx hby d8_23 ?_
    refine own_cy (pc := 24) X0 hx hby d8_24 (flt hc4).2.2.2 31 ?_
    refine XS.bipush X0.here hx rfl (hb hby d8_31) ?_
    refine own_iN X0 hx hby d8_33 ?_
    refine XS.imul X0.here hx rfl (hb hby d8_34) rfl ?_
    show own_S p e below s₁ (mkF m 35 #[iv (-qa), iv (0 : Int32), iv (-10 : Int32), iv (1 : Int32)] [(.int ((10 : Int32) * (-10 : Int32)))]) _
    rw [(by decide : ((10 : Int32) * (-10 : Int32)) = (-100 : Int32))]
    refine XS.istoreN X0.here hx rfl (hb hby d8_35) rfl (l' := #[iv (-qa), iv (0 : Int32), iv (-100 : Int32), iv (1 : Int32)]) rfl ?_
    refine XS.iinc X0.here hx rfl (hb hby d8_36) rfl (l' := #[iv (-qa), iv (0 : Int32), iv (-100 : Int32), iv (2 : Int32)]) rfl ?_
    refine own_go (pc := 39) X0 hx hby d8_39 16 ?_
    refine own_iN X0 hx hby d8_16 ?_
    refine XS.bipush X0.here hx rfl (hb hby d8_17) ?_
    refine own_cn X0 hx hby d8_19 (tlt (by decide : (2 : Int32) < (10 : Int32))).2.1 ?_
    refine own_iN X0 hx hby d8_22 ?_
    refine own_iN X0 hx hby d8_23 ?_
    refine own_cn X0 hx hby d8_24 (tlt hc5).2.2.2 ?_
    refine own_iN X0 hx hby d8_27 ?_
    refine own_iN X0 hx hby d8_28 ?_
    refine XS.iadd X0.here hx rfl (hb hby d8_29) rfl ?_
    show own_S p e below s₁ (mkF m 30 #[iv (-qa), iv (0 : Int32), iv (-100 : Int32), iv (2 : Int32)] [(.int ((2 : Int32) + (0 : Int32)))]) _
    rw [(by decide : ((2 : Int32) + (0 : Int32)) = (2 : Int32))]
    exact retI X0 hx hret (hb hby d8_30) hr
  · show Qrm12 Z qa h0 _ s₁.heap _
    rw [e0]
    exact ⟨rfl, N0, rfl⟩
def Qrm13 (Z : State) (qa : Int32) (h0 : Heap) (v : Option Value) (h : Heap) (L : List Loc) : Prop := v = some (.int (3 : Int32)) ∧ Fr Z.heap.size L ∧ h = h0
theorem rm13 (l : Launch) (Z : State) (a0 : Array Value) (hw : own_HW Z a0) (ws : List Jvm.Cond) (qa : Int32) (h0 : Heap) (Z0 : Ext Z.heap h0) (hc2 : ¬ (qa < (0 : Int32))) (hc4 : ¬ ((-10 : Int32) < (-qa))) (hc6 : ¬ ((-100 : Int32) < (-qa))) (hc7 : (-1000 : Int32) < (-qa)) :
    own_met l y_0 jdk_33_method_13_code 4 (some .int) ws ({ frames := 0, cells := 0, slots := 0, locals := 0 } : Room) Z #[(.int qa)] h0 (Qrm13 Z qa h0) := by
  refine own_start (plainFor_of_name pn_0) (fun m => ef_jdk_33_method_13_I m qa) ?_
  intro p e s m below meth c s₁ hx hby hml hown hnm X0 hZ e0 hret hlk
  have N0 := Fr.nil Z.heap.size
  obtain ⟨fs, hr, hrun, hended, hW, hsame⟩ := X0.leave (v := some (.int (3 : Int32))) (fun h => by rw [hret] at h; cases h) hlk
  refine ⟨_, _, ?_, hrun, hended, _, _, rfl, ?_, ⟨_, rfl⟩, hW, hsame.mono (by decide) (by decide)⟩
  · show own_S p e below s₁ (mkF m 0 #[iv qa, .unset, .unset, .unset] []) _
    refine own_k X0 hx hby d8_0 ?_
    refine XS.istoreN X0.here hx rfl (hb hby d8_1) rfl (l' := #[iv qa, iv (1 : Int32), .unset, .unset]) rfl ?_
    refine own_iN X0 hx hby d8_2 ?_
    refine own_in X0 hx hby d8_3 (flt hc2).1 ?_
    refine own_k X0 hx hby d8_6 ?_
    refine XS.istoreN X0.here hx rfl (hb hby d8_7) rfl (l' := #[iv qa, iv (0 : Int32), .unset, .unset]) rfl ?_
    refine own_iN X0 hx hby d8_8 ?_
    refine XS.ineg X0.here hx rfl (hb hby d8_9) rfl ?_
    refine XS.istoreN X0.here hx rfl (hb hby d8_10) rfl (l' := #[iv (-qa), iv (0 : Int32), .unset, .unset]) rfl ?_
    refine XS.bipush X0.here hx rfl (hb hby d8_11) ?_
    refine XS.istoreN X0.here hx rfl (hb hby d8_13) rfl (l' := #[iv (-qa), iv (0 : Int32), iv (-10 : Int32), .unset]) rfl ?_
    refine own_k X0 hx hby d8_14 ?_
    refine XS.istoreN X0.here hx rfl (hb hby d8_15) rfl (l' := #[iv (-qa), iv (0 : Int32), iv (-10 : Int32), iv (1 : Int32)]) rfl ?_
    refine own_iN X0 hx hby d8_16 ?_
    refine XS.bipush X0.here hx rfl (hb hby d8_17) ?_
    refine own_cn X0 hx hby d8_19 (tlt (by decide : (1 : Int32) < (10 : Int32))).2.1 ?_
    refine own_iN X0 hx hby d8_22 ?_
    refine own_iN X0 hx hby d8_23 ?_
    refine own_cy (pc := 24) X0 hx hby d8_24 (flt hc4).2.2.2 31 ?_
    refine XS.bipush X0.here hx rfl (hb hby d8_31) ?_
    refine own_iN X0 hx hby d8_33 ?_
    refine XS.imul X0.here hx rfl (hb hby d8_34) rfl ?_
    show own_S p e below s₁ (mkF m 35 #[iv (-qa), iv (0 : Int32), iv (-10 : Int32), iv (1 : Int32)] [(.int ((10 : Int32) * (-10 : Int32)))]) _
    rw [(by decide : ((10 : Int32) * (-10 : Int32)) = (-100 : Int32))]
    refine XS.istoreN X0.here hx rfl (hb hby d8_35) rfl (l' := #[iv (-qa), iv (0 : Int32), iv (-100 : Int32), iv (1 : Int32)]) rfl ?_
    refine XS.iinc X0.here hx rfl (hb hby d8_36) rfl (l' := #[iv (-qa), iv (0 : Int32), iv (-100 : Int32), iv (2 : Int32)]) rfl ?_
    refine own_go (pc := 39) X0 hx hby d8_39 16 ?_
    refine own_iN X0 hx hby d8_16 ?_
    refine XS.bipush X0.here hx rfl (hb hby d8_17) ?_
    refine own_cn X0 hx hby d8_19 (tlt (by decide : (2 : Int32) < (10 : Int32))).2.1 ?_
    refine own_iN X0 hx hby d8_22 ?_
    refine own_iN X0 hx hby d8_23 ?_
    refine own_cy (pc := 24) X0 hx hby d8_24 (flt hc6).2.2.2 31 ?_
    refine XS.bipush X0.here hx rfl (hb hby d8_31) ?_
    refine own_iN X0 hx hby d8_33 ?_
    refine XS.imul X0.here hx rfl (hb hby d8_34) rfl ?_
    show own_S p e below s₁ (mkF m 35 #[iv (-qa), iv (0 : Int32), iv (-100 : Int32), iv (2 : Int32)] [(.int ((10 : Int32) * (-100 : Int32)))]) _
    rw [(by decide : ((10 : Int32) * (-100 : Int32)) = (-1000 : Int32))]
    refine XS.istoreN X0.here hx rfl (hb hby d8_35) rfl (l' := #[iv (-qa), iv (0 : Int32), iv (-1000 : Int32), iv (2 : Int32)]) rfl ?_
    refine XS.iinc X0.here hx rfl (hb hby d8_36) rfl (l' := #[iv (-qa), iv (0 : Int32), iv (-1000 : Int32), iv (3 : Int32)]) rfl ?_
    refine own_go (pc := 39) X0 hx hby d8_39 16 ?_
    refine own_iN X0 hx hby d8_16 ?_
    refine XS.bipush X0.here hx rfl (hb hby d8_17) ?_
    refine own_cn X0 hx hby d8_19 (tlt (by decide : (3 : Int32) < (10 : Int32))).2.1 ?_
    refine own_iN X0 hx hby d8_22 ?_
    refine own_iN X0 hx hby d8_23 ?_
    refine own_cn X0 hx hby d8_24 (tlt hc7).2.2.2 ?_
    refine own_iN X0 hx hby d8_27 ?_
    refine own_iN X0 hx hby d8_28 ?_
    refine XS.iadd X0.here hx rfl (hb hby d8_29) rfl ?_
    show own_S p e below s₁ (mkF m 30 #[iv (-qa), iv (0 : Int32), iv (-1000 : Int32), iv (3 : Int32)] [(.int ((3 : Int32) + (0 : Int32)))]) _
    rw [(by decide : ((3 : Int32) + (0 : Int32)) = (3 : Int32))]
    exact retI X0 hx hret (hb hby d8_30) hr
  · show Qrm13 Z qa h0 _ s₁.heap _
    rw [e0]
    exact ⟨rfl, N0, rfl⟩
def Qrm14 (Z : State) (qa : Int32) (h0 : Heap) (v : Option Value) (h : Heap) (L : List Loc) : Prop := v = some (.int (4 : Int32)) ∧ Fr Z.heap.size L ∧ h = h0
theorem rm14 (l : Launch) (Z : State) (a0 : Array Value) (hw : own_HW Z a0) (ws : List Jvm.Cond) (qa : Int32) (h0 : Heap) (Z0 : Ext Z.heap h0) (hc2 : ¬ (qa < (0 : Int32))) (hc4 : ¬ ((-10 : Int32) < (-qa))) (hc6 : ¬ ((-100 : Int32) < (-qa))) (hc8 : ¬ ((-1000 : Int32) < (-qa))) (hc9 : (-10000 : Int32) < (-qa)) :
    own_met l y_0 jdk_33_method_13_code 4 (some .int) ws ({ frames := 0, cells := 0, slots := 0, locals := 0 } : Room) Z #[(.int qa)] h0 (Qrm14 Z qa h0) := by
  refine own_start (plainFor_of_name pn_0) (fun m => ef_jdk_33_method_13_I m qa) ?_
  intro p e s m below meth c s₁ hx hby hml hown hnm X0 hZ e0 hret hlk
  have N0 := Fr.nil Z.heap.size
  obtain ⟨fs, hr, hrun, hended, hW, hsame⟩ := X0.leave (v := some (.int (4 : Int32))) (fun h => by rw [hret] at h; cases h) hlk
  refine ⟨_, _, ?_, hrun, hended, _, _, rfl, ?_, ⟨_, rfl⟩, hW, hsame.mono (by decide) (by decide)⟩
  · show own_S p e below s₁ (mkF m 0 #[iv qa, .unset, .unset, .unset] []) _
    refine own_k X0 hx hby d8_0 ?_
    refine XS.istoreN X0.here hx rfl (hb hby d8_1) rfl (l' := #[iv qa, iv (1 : Int32), .unset, .unset]) rfl ?_
    refine own_iN X0 hx hby d8_2 ?_
    refine own_in X0 hx hby d8_3 (flt hc2).1 ?_
    refine own_k X0 hx hby d8_6 ?_
    refine XS.istoreN X0.here hx rfl (hb hby d8_7) rfl (l' := #[iv qa, iv (0 : Int32), .unset, .unset]) rfl ?_
    refine own_iN X0 hx hby d8_8 ?_
    refine XS.ineg X0.here hx rfl (hb hby d8_9) rfl ?_
    refine XS.istoreN X0.here hx rfl (hb hby d8_10) rfl (l' := #[iv (-qa), iv (0 : Int32), .unset, .unset]) rfl ?_
    refine XS.bipush X0.here hx rfl (hb hby d8_11) ?_
    refine XS.istoreN X0.here hx rfl (hb hby d8_13) rfl (l' := #[iv (-qa), iv (0 : Int32), iv (-10 : Int32), .unset]) rfl ?_
    refine own_k X0 hx hby d8_14 ?_
    refine XS.istoreN X0.here hx rfl (hb hby d8_15) rfl (l' := #[iv (-qa), iv (0 : Int32), iv (-10 : Int32), iv (1 : Int32)]) rfl ?_
    refine own_iN X0 hx hby d8_16 ?_
    refine XS.bipush X0.here hx rfl (hb hby d8_17) ?_
    refine own_cn X0 hx hby d8_19 (tlt (by decide : (1 : Int32) < (10 : Int32))).2.1 ?_
    refine own_iN X0 hx hby d8_22 ?_
    refine own_iN X0 hx hby d8_23 ?_
    refine own_cy (pc := 24) X0 hx hby d8_24 (flt hc4).2.2.2 31 ?_
    refine XS.bipush X0.here hx rfl (hb hby d8_31) ?_
    refine own_iN X0 hx hby d8_33 ?_
    refine XS.imul X0.here hx rfl (hb hby d8_34) rfl ?_
    show own_S p e below s₁ (mkF m 35 #[iv (-qa), iv (0 : Int32), iv (-10 : Int32), iv (1 : Int32)] [(.int ((10 : Int32) * (-10 : Int32)))]) _
    rw [(by decide : ((10 : Int32) * (-10 : Int32)) = (-100 : Int32))]
    refine XS.istoreN X0.here hx rfl (hb hby d8_35) rfl (l' := #[iv (-qa), iv (0 : Int32), iv (-100 : Int32), iv (1 : Int32)]) rfl ?_
    refine XS.iinc X0.here hx rfl (hb hby d8_36) rfl (l' := #[iv (-qa), iv (0 : Int32), iv (-100 : Int32), iv (2 : Int32)]) rfl ?_
    refine own_go (pc := 39) X0 hx hby d8_39 16 ?_
    refine own_iN X0 hx hby d8_16 ?_
    refine XS.bipush X0.here hx rfl (hb hby d8_17) ?_
    refine own_cn X0 hx hby d8_19 (tlt (by decide : (2 : Int32) < (10 : Int32))).2.1 ?_
    refine own_iN X0 hx hby d8_22 ?_
    refine own_iN X0 hx hby d8_23 ?_
    refine own_cy (pc := 24) X0 hx hby d8_24 (flt hc6).2.2.2 31 ?_
    refine XS.bipush X0.here hx rfl (hb hby d8_31) ?_
    refine own_iN X0 hx hby d8_33 ?_
    refine XS.imul X0.here hx rfl (hb hby d8_34) rfl ?_
    show own_S p e below s₁ (mkF m 35 #[iv (-qa), iv (0 : Int32), iv (-100 : Int32), iv (2 : Int32)] [(.int ((10 : Int32) * (-100 : Int32)))]) _
    rw [(by decide : ((10 : Int32) * (-100 : Int32)) = (-1000 : Int32))]
    refine XS.istoreN X0.here hx rfl (hb hby d8_35) rfl (l' := #[iv (-qa), iv (0 : Int32), iv (-1000 : Int32), iv (2 : Int32)]) rfl ?_
    refine XS.iinc X0.here hx rfl (hb hby d8_36) rfl (l' := #[iv (-qa), iv (0 : Int32), iv (-1000 : Int32), iv (3 : Int32)]) rfl ?_
    refine own_go (pc := 39) X0 hx hby d8_39 16 ?_
    refine own_iN X0 hx hby d8_16 ?_
    refine XS.bipush X0.here hx rfl (hb hby d8_17) ?_
    refine own_cn X0 hx hby d8_19 (tlt (by decide : (3 : Int32) < (10 : Int32))).2.1 ?_
    refine own_iN X0 hx hby d8_22 ?_
    refine own_iN X0 hx hby d8_23 ?_
    refine own_cy (pc := 24) X0 hx hby d8_24 (flt hc8).2.2.2 31 ?_
    refine XS.bipush X0.here hx rfl (hb hby d8_31) ?_
    refine own_iN X0 hx hby d8_33 ?_
    refine XS.imul X0.here hx rfl (hb hby d8_34) rfl ?_
    show own_S p e below s₁ (mkF m 35 #[iv (-qa), iv (0 : Int32), iv (-1000 : Int32), iv (3 : Int32)] [(.int ((10 : Int32) * (-1000 : Int32)))]) _
    rw [(by decide : ((10 : Int32) * (-1000 : Int32)) = (-10000 : Int32))]
    refine XS.istoreN X0.here hx rfl (hb hby d8_35) rfl (l' := #[iv (-qa), iv (0 : Int32), iv (-10000 : Int32), iv (3 : Int32)]) rfl ?_
    refine XS.iinc X0.here hx rfl (hb hby d8_36) rfl (l' := #[iv (-qa), iv (0 : Int32), iv (-10000 : Int32), iv (4 : Int32)]) rfl ?_
    refine own_go (pc := 39) X0 hx hby d8_39 16 ?_
    refine own_iN X0 hx hby d8_16 ?_
    refine XS.bipush X0.here hx rfl (hb hby d8_17) ?_
    refine own_cn X0 hx hby d8_19 (tlt (by decide : (4 : Int32) < (10 : Int32))).2.1 ?_
    refine own_iN X0 hx hby d8_22 ?_
    refine own_iN X0 hx hby d8_23 ?_
    refine own_cn X0 hx hby d8_24 (tlt hc9).2.2.2 ?_
    refine own_iN X0 hx hby d8_27 ?_
    refine own_iN X0 hx hby d8_28 ?_
    refine XS.iadd X0.here hx rfl (hb hby d8_29) rfl ?_
    show own_S p e below s₁ (mkF m 30 #[iv (-qa), iv (0 : Int32), iv (-10000 : Int32), iv (4 : Int32)] [(.int ((4 : Int32) + (0 : Int32)))]) _
    rw [(by decide : ((4 : Int32) + (0 : Int32)) = (4 : Int32))]
    exact retI X0 hx hret (hb hby d8_30) hr
  · show Qrm14 Z qa h0 _ s₁.heap _
    rw [e0]
    exact ⟨rfl, N0, rfl⟩
def Qrm15 (Z : State) (qa : Int32) (h0 : Heap) (v : Option Value) (h : Heap) (L : List Loc) : Prop := v = some (.int (5 : Int32)) ∧ Fr Z.heap.size L ∧ h = h0
theorem rm15 (l : Launch) (Z : State) (a0 : Array Value) (hw : own_HW Z a0) (ws : List Jvm.Cond) (qa : Int32) (h0 : Heap) (Z0 : Ext Z.heap h0) (hc2 : ¬ (qa < (0 : Int32))) (hc4 : ¬ ((-10 : Int32) < (-qa))) (hc6 : ¬ ((-100 : Int32) < (-qa))) (hc8 : ¬ ((-1000 : Int32) < (-qa))) (hc10 : ¬ ((-10000 : Int32) < (-qa))) (hc11 : (-100000 : Int32) < (-qa)) :
    own_met l y_0 jdk_33_method_13_code 4 (some .int) ws ({ frames := 0, cells := 0, slots := 0, locals := 0 } : Room) Z #[(.int qa)] h0 (Qrm15 Z qa h0) := by
  refine own_start (plainFor_of_name pn_0) (fun m => ef_jdk_33_method_13_I m qa) ?_
  intro p e s m below meth c s₁ hx hby hml hown hnm X0 hZ e0 hret hlk
  have N0 := Fr.nil Z.heap.size
  obtain ⟨fs, hr, hrun, hended, hW, hsame⟩ := X0.leave (v := some (.int (5 : Int32))) (fun h => by rw [hret] at h; cases h) hlk
  refine ⟨_, _, ?_, hrun, hended, _, _, rfl, ?_, ⟨_, rfl⟩, hW, hsame.mono (by decide) (by decide)⟩
  · show own_S p e below s₁ (mkF m 0 #[iv qa, .unset, .unset, .unset] []) _
    refine own_k X0 hx hby d8_0 ?_
    refine XS.istoreN X0.here hx rfl (hb hby d8_1) rfl (l' := #[iv qa, iv (1 : Int32), .unset, .unset]) rfl ?_
    refine own_iN X0 hx hby d8_2 ?_
    refine own_in X0 hx hby d8_3 (flt hc2).1 ?_
    refine own_k X0 hx hby d8_6 ?_
    refine XS.istoreN X0.here hx rfl (hb hby d8_7) rfl (l' := #[iv qa, iv (0 : Int32), .unset, .unset]) rfl ?_
    refine own_iN X0 hx hby d8_8 ?_
    refine XS.ineg X0.here hx rfl (hb hby d8_9) rfl ?_
    refine XS.istoreN X0.here hx rfl (hb hby d8_10) rfl (l' := #[iv (-qa), iv (0 : Int32), .unset, .unset]) rfl ?_
    refine XS.bipush X0.here hx rfl (hb hby d8_11) ?_
    refine XS.istoreN X0.here hx rfl (hb hby d8_13) rfl (l' := #[iv (-qa), iv (0 : Int32), iv (-10 : Int32), .unset]) rfl ?_
    refine own_k X0 hx hby d8_14 ?_
    refine XS.istoreN X0.here hx rfl (hb hby d8_15) rfl (l' := #[iv (-qa), iv (0 : Int32), iv (-10 : Int32), iv (1 : Int32)]) rfl ?_
    refine own_iN X0 hx hby d8_16 ?_
    refine XS.bipush X0.here hx rfl (hb hby d8_17) ?_
    refine own_cn X0 hx hby d8_19 (tlt (by decide : (1 : Int32) < (10 : Int32))).2.1 ?_
    refine own_iN X0 hx hby d8_22 ?_
    refine own_iN X0 hx hby d8_23 ?_
    refine own_cy (pc := 24) X0 hx hby d8_24 (flt hc4).2.2.2 31 ?_
    refine XS.bipush X0.here hx rfl (hb hby d8_31) ?_
    refine own_iN X0 hx hby d8_33 ?_
    refine XS.imul X0.here hx rfl (hb hby d8_34) rfl ?_
    show own_S p e below s₁ (mkF m 35 #[iv (-qa), iv (0 : Int32), iv (-10 : Int32), iv (1 : Int32)] [(.int ((10 : Int32) * (-10 : Int32)))]) _
    rw [(by decide : ((10 : Int32) * (-10 : Int32)) = (-100 : Int32))]
    refine XS.istoreN X0.here hx rfl (hb hby d8_35) rfl (l' := #[iv (-qa), iv (0 : Int32), iv (-100 : Int32), iv (1 : Int32)]) rfl ?_
    refine XS.iinc X0.here hx rfl (hb hby d8_36) rfl (l' := #[iv (-qa), iv (0 : Int32), iv (-100 : Int32), iv (2 : Int32)]) rfl ?_
    refine own_go (pc := 39) X0 hx hby d8_39 16 ?_
    refine own_iN X0 hx hby d8_16 ?_
    refine XS.bipush X0.here hx rfl (hb hby d8_17) ?_
    refine own_cn X0 hx hby d8_19 (tlt (by decide : (2 : Int32) < (10 : Int32))).2.1 ?_
    refine own_iN X0 hx hby d8_22 ?_
    refine own_iN X0 hx hby d8_23 ?_
    refine own_cy (pc := 24) X0 hx hby d8_24 (flt hc6).2.2.2 31 ?_
    refine XS.bipush X0.here hx rfl (hb hby d8_31) ?_
    refine own_iN X0 hx hby d8_33 ?_
    refine XS.imul X0.here hx rfl (hb hby d8_34) rfl ?_
    show own_S p e below s₁ (mkF m 35 #[iv (-qa), iv (0 : Int32), iv (-100 : Int32), iv (2 : Int32)] [(.int ((10 : Int32) * (-100 : Int32)))]) _
    rw [(by decide : ((10 : Int32) * (-100 : Int32)) = (-1000 : Int32))]
    refine XS.istoreN X0.here hx rfl (hb hby d8_35) rfl (l' := #[iv (-qa), iv (0 : Int32), iv (-1000 : Int32), iv (2 : Int32)]) rfl ?_
    refine XS.iinc X0.here hx rfl (hb hby d8_36) rfl (l' := #[iv (-qa), iv (0 : Int32), iv (-1000 : Int32), iv (3 : Int32)]) rfl ?_
    refine own_go (pc := 39) X0 hx hby d8_39 16 ?_
    refine own_iN X0 hx hby d8_16 ?_
    refine XS.bipush X0.here hx rfl (hb hby d8_17) ?_
    refine own_cn X0 hx hby d8_19 (tlt (by decide : (3 : Int32) < (10 : Int32))).2.1 ?_
    refine own_iN X0 hx hby d8_22 ?_
    refine own_iN X0 hx hby d8_23 ?_
    refine own_cy (pc := 24) X0 hx hby d8_24 (flt hc8).2.2.2 31 ?_
    refine XS.bipush X0.here hx rfl (hb hby d8_31) ?_
    refine own_iN X0 hx hby d8_33 ?_
    refine XS.imul X0.here hx rfl (hb hby d8_34) rfl ?_
    show own_S p e below s₁ (mkF m 35 #[iv (-qa), iv (0 : Int32), iv (-1000 : Int32), iv (3 : Int32)] [(.int ((10 : Int32) * (-1000 : Int32)))]) _
    rw [(by decide : ((10 : Int32) * (-1000 : Int32)) = (-10000 : Int32))]
    refine XS.istoreN X0.here hx rfl (hb hby d8_35) rfl (l' := #[iv (-qa), iv (0 : Int32), iv (-10000 : Int32), iv (3 : Int32)]) rfl ?_
    refine XS.iinc X0.here hx rfl (hb hby d8_36) rfl (l' := #[iv (-qa), iv (0 : Int32), iv (-10000 : Int32), iv (4 : Int32)]) rfl ?_
    refine own_go (pc := 39) X0 hx hby d8_39 16 ?_
    refine own_iN X0 hx hby d8_16 ?_
    refine XS.bipush X0.here hx rfl (hb hby d8_17) ?_
    refine own_cn X0 hx hby d8_19 (tlt (by decide : (4 : Int32) < (10 : Int32))).2.1 ?_
    refine own_iN X0 hx hby d8_22 ?_
    refine own_iN X0 hx hby d8_23 ?_
    refine own_cy (pc := 24) X0 hx hby d8_24 (flt hc10).2.2.2 31 ?_
    refine XS.bipush X0.here hx rfl (hb hby d8_31) ?_
    refine own_iN X0 hx hby d8_33 ?_
    refine XS.imul X0.here hx rfl (hb hby d8_34) rfl ?_
    show own_S p e below s₁ (mkF m 35 #[iv (-qa), iv (0 : Int32), iv (-10000 : Int32), iv (4 : Int32)] [(.int ((10 : Int32) * (-10000 : Int32)))]) _
    rw [(by decide : ((10 : Int32) * (-10000 : Int32)) = (-100000 : Int32))]
    refine XS.istoreN X0.here hx rfl (hb hby d8_35) rfl (l' := #[iv (-qa), iv (0 : Int32), iv (-100000 : Int32), iv (4 : Int32)]) rfl ?_
    refine XS.iinc X0.here hx rfl (hb hby d8_36) rfl (l' := #[iv (-qa), iv (0 : Int32), iv (-100000 : Int32), iv (5 : Int32)]) rfl ?_
    refine own_go (pc := 39) X0 hx hby d8_39 16 ?_
    refine own_iN X0 hx hby d8_16 ?_
    refine XS.bipush X0.here hx rfl (hb hby d8_17) ?_
    refine own_cn X0 hx hby d8_19 (tlt (by decide : (5 : Int32) < (10 : Int32))).2.1 ?_
    refine own_iN X0 hx hby d8_22 ?_
    refine own_iN X0 hx hby d8_23 ?_
    refine own_cn X0 hx hby d8_24 (tlt hc11).2.2.2 ?_
    refine own_iN X0 hx hby d8_27 ?_
    refine own_iN X0 hx hby d8_28 ?_
    refine XS.iadd X0.here hx rfl (hb hby d8_29) rfl ?_
    show own_S p e below s₁ (mkF m 30 #[iv (-qa), iv (0 : Int32), iv (-100000 : Int32), iv (5 : Int32)] [(.int ((5 : Int32) + (0 : Int32)))]) _
    rw [(by decide : ((5 : Int32) + (0 : Int32)) = (5 : Int32))]
    exact retI X0 hx hret (hb hby d8_30) hr
  · show Qrm15 Z qa h0 _ s₁.heap _
    rw [e0]
    exact ⟨rfl, N0, rfl⟩
def Qrm16 (Z : State) (qa : Int32) (h0 : Heap) (v : Option Value) (h : Heap) (L : List Loc) : Prop := v = some (.int (6 : Int32)) ∧ Fr Z.heap.size L ∧ h = h0
theorem rm16 (l : Launch) (Z : State) (a0 : Array Value) (hw : own_HW Z a0) (ws : List Jvm.Cond) (qa : Int32) (h0 : Heap) (Z0 : Ext Z.heap h0) (hc2 : ¬ (qa < (0 : Int32))) (hc4 : ¬ ((-10 : Int32) < (-qa))) (hc6 : ¬ ((-100 : Int32) < (-qa))) (hc8 : ¬ ((-1000 : Int32) < (-qa))) (hc10 : ¬ ((-10000 : Int32) < (-qa))) (hc12 : ¬ ((-100000 : Int32) < (-qa))) (hc13 : (-1000000 : Int32) < (-qa)) :
    own_met l y_0 jdk_33_method_13_code 4 (some .int) ws ({ frames := 0, cells := 0, slots := 0, locals := 0 } : Room) Z #[(.int qa)] h0 (Qrm16 Z qa h0) := by
  refine own_start (plainFor_of_name pn_0) (fun m => ef_jdk_33_method_13_I m qa) ?_
  intro p e s m below meth c s₁ hx hby hml hown hnm X0 hZ e0 hret hlk
  have N0 := Fr.nil Z.heap.size
  obtain ⟨fs, hr, hrun, hended, hW, hsame⟩ := X0.leave (v := some (.int (6 : Int32))) (fun h => by rw [hret] at h; cases h) hlk
  refine ⟨_, _, ?_, hrun, hended, _, _, rfl, ?_, ⟨_, rfl⟩, hW, hsame.mono (by decide) (by decide)⟩
  · show own_S p e below s₁ (mkF m 0 #[iv qa, .unset, .unset, .unset] []) _
    refine own_k X0 hx hby d8_0 ?_
    refine XS.istoreN X0.here hx rfl (hb hby d8_1) rfl (l' := #[iv qa, iv (1 : Int32), .unset, .unset]) rfl ?_
    refine own_iN X0 hx hby d8_2 ?_
    refine own_in X0 hx hby d8_3 (flt hc2).1 ?_
    refine own_k X0 hx hby d8_6 ?_
    refine XS.istoreN X0.here hx rfl (hb hby d8_7) rfl (l' := #[iv qa, iv (0 : Int32), .unset, .unset]) rfl ?_
    refine own_iN X0 hx hby d8_8 ?_
    refine XS.ineg X0.here hx rfl (hb hby d8_9) rfl ?_
    refine XS.istoreN X0.here hx rfl (hb hby d8_10) rfl (l' := #[iv (-qa), iv (0 : Int32), .unset, .unset]) rfl ?_
    refine XS.bipush X0.here hx rfl (hb hby d8_11) ?_
    refine XS.istoreN X0.here hx rfl (hb hby d8_13) rfl (l' := #[iv (-qa), iv (0 : Int32), iv (-10 : Int32), .unset]) rfl ?_
    refine own_k X0 hx hby d8_14 ?_
    refine XS.istoreN X0.here hx rfl (hb hby d8_15) rfl (l' := #[iv (-qa), iv (0 : Int32), iv (-10 : Int32), iv (1 : Int32)]) rfl ?_
    refine own_iN X0 hx hby d8_16 ?_
    refine XS.bipush X0.here hx rfl (hb hby d8_17) ?_
    refine own_cn X0 hx hby d8_19 (tlt (by decide : (1 : Int32) < (10 : Int32))).2.1 ?_
    refine own_iN X0 hx hby d8_22 ?_
    refine own_iN X0 hx hby d8_23 ?_
    refine own_cy (pc := 24) X0 hx hby d8_24 (flt hc4).2.2.2 31 ?_
    refine XS.bipush X0.here hx rfl (hb hby d8_31) ?_
    refine own_iN X0 hx hby d8_33 ?_
    refine XS.imul X0.here hx rfl (hb hby d8_34) rfl ?_
    show own_S p e below s₁ (mkF m 35 #[iv (-qa), iv (0 : Int32), iv (-10 : Int32), iv (1 : Int32)] [(.int ((10 : Int32) * (-10 : Int32)))]) _
    rw [(by decide : ((10 : Int32) * (-10 : Int32)) = (-100 : Int32))]
    refine XS.istoreN X0.here hx rfl (hb hby d8_35) rfl (l' := #[iv (-qa), iv (0 : Int32), iv (-100 : Int32), iv (1 : Int32)]) rfl ?_
    refine XS.iinc X0.here hx rfl (hb hby d8_36) rfl (l' := #[iv (-qa), iv (0 : Int32), iv (-100 : Int32), iv (2 : Int32)]) rfl ?_
    refine own_go (pc := 39) X0 hx hby d8_39 16 ?_
    refine own_iN X0 hx hby d8_16 ?_
    refine XS.bipush X0.here hx rfl (hb hby d8_17) ?_
    refine own_cn X0 hx hby d8_19 (tlt (by decide : (2 : Int32) < (10 : Int32))).2.1 ?_
    refine own_iN X0 hx hby d8_22 ?_
    refine own_iN X0 hx hby d8_23 ?_
    refine own_cy (pc := 24) X0 hx hby d8_24 (flt hc6).2.2.2 31 ?_
    refine XS.bipush X0.here hx rfl (hb hby d8_31) ?_
    refine own_iN X0 hx hby d8_33 ?_
    refine XS.imul X0.here hx rfl (hb hby d8_34) rfl ?_
    show own_S p e below s₁ (mkF m 35 #[iv (-qa), iv (0 : Int32), iv (-100 : Int32), iv (2 : Int32)] [(.int ((10 : Int32) * (-100 : Int32)))]) _
    rw [(by decide : ((10 : Int32) * (-100 : Int32)) = (-1000 : Int32))]
    refine XS.istoreN X0.here hx rfl (hb hby d8_35) rfl (l' := #[iv (-qa), iv (0 : Int32), iv (-1000 : Int32), iv (2 : Int32)]) rfl ?_
    refine XS.iinc X0.here hx rfl (hb hby d8_36) rfl (l' := #[iv (-qa), iv (0 : Int32), iv (-1000 : Int32), iv (3 : Int32)]) rfl ?_
    refine own_go (pc := 39) X0 hx hby d8_39 16 ?_
    refine own_iN X0 hx hby d8_16 ?_
    refine XS.bipush X0.here hx rfl (hb hby d8_17) ?_
    refine own_cn X0 hx hby d8_19 (tlt (by decide : (3 : Int32) < (10 : Int32))).2.1 ?_
    refine own_iN X0 hx hby d8_22 ?_
    refine own_iN X0 hx hby d8_23 ?_
    refine own_cy (pc := 24) X0 hx hby d8_24 (flt hc8).2.2.2 31 ?_
    refine XS.bipush X0.here hx rfl (hb hby d8_31) ?_
    refine own_iN X0 hx hby d8_33 ?_
    refine XS.imul X0.here hx rfl (hb hby d8_34) rfl ?_
    show own_S p e below s₁ (mkF m 35 #[iv (-qa), iv (0 : Int32), iv (-1000 : Int32), iv (3 : Int32)] [(.int ((10 : Int32) * (-1000 : Int32)))]) _
    rw [(by decide : ((10 : Int32) * (-1000 : Int32)) = (-10000 : Int32))]
    refine XS.istoreN X0.here hx rfl (hb hby d8_35) rfl (l' := #[iv (-qa), iv (0 : Int32), iv (-10000 : Int32), iv (3 : Int32)]) rfl ?_
    refine XS.iinc X0.here hx rfl (hb hby d8_36) rfl (l' := #[iv (-qa), iv (0 : Int32), iv (-10000 : Int32), iv (4 : Int32)]) rfl ?_
    refine own_go (pc := 39) X0 hx hby d8_39 16 ?_
    refine own_iN X0 hx hby d8_16 ?_
    refine XS.bipush X0.here hx rfl (hb hby d8_17) ?_
    refine own_cn X0 hx hby d8_19 (tlt (by decide : (4 : Int32) < (10 : Int32))).2.1 ?_
    refine own_iN X0 hx hby d8_22 ?_
    refine own_iN X0 hx hby d8_23 ?_
    refine own_cy (pc := 24) X0 hx hby d8_24 (flt hc10).2.2.2 31 ?_
    refine XS.bipush X0.here hx rfl (hb hby d8_31) ?_
    refine own_iN X0 hx hby d8_33 ?_
    refine XS.imul X0.here hx rfl (hb hby d8_34) rfl ?_
    show own_S p e below s₁ (mkF m 35 #[iv (-qa), iv (0 : Int32), iv (-10000 : Int32), iv (4 : Int32)] [(.int ((10 : Int32) * (-10000 : Int32)))]) _
    rw [(by decide : ((10 : Int32) * (-10000 : Int32)) = (-100000 : Int32))]
    refine XS.istoreN X0.here hx rfl (hb hby d8_35) rfl (l' := #[iv (-qa), iv (0 : Int32), iv (-100000 : Int32), iv (4 : Int32)]) rfl ?_
    refine XS.iinc X0.here hx rfl (hb hby d8_36) rfl (l' := #[iv (-qa), iv (0 : Int32), iv (-100000 : Int32), iv (5 : Int32)]) rfl ?_
    refine own_go (pc := 39) X0 hx hby d8_39 16 ?_
    refine own_iN X0 hx hby d8_16 ?_
    refine XS.bipush X0.here hx rfl (hb hby d8_17) ?_
    refine own_cn X0 hx hby d8_19 (tlt (by decide : (5 : Int32) < (10 : Int32))).2.1 ?_
    refine own_iN X0 hx hby d8_22 ?_
    refine own_iN X0 hx hby d8_23 ?_
    refine own_cy (pc := 24) X0 hx hby d8_24 (flt hc12).2.2.2 31 ?_
    refine XS.bipush X0.here hx rfl (hb hby d8_31) ?_
    refine own_iN X0 hx hby d8_33 ?_
    refine XS.imul X0.here hx rfl (hb hby d8_34) rfl ?_
    show own_S p e below s₁ (mkF m 35 #[iv (-qa), iv (0 : Int32), iv (-100000 : Int32), iv (5 : Int32)] [(.int ((10 : Int32) * (-100000 : Int32)))]) _
    rw [(by decide : ((10 : Int32) * (-100000 : Int32)) = (-1000000 : Int32))]
    refine XS.istoreN X0.here hx rfl (hb hby d8_35) rfl (l' := #[iv (-qa), iv (0 : Int32), iv (-1000000 : Int32), iv (5 : Int32)]) rfl ?_
    refine XS.iinc X0.here hx rfl (hb hby d8_36) rfl (l' := #[iv (-qa), iv (0 : Int32), iv (-1000000 : Int32), iv (6 : Int32)]) rfl ?_
    refine own_go (pc := 39) X0 hx hby d8_39 16 ?_
    refine own_iN X0 hx hby d8_16 ?_
    refine XS.bipush X0.here hx rfl (hb hby d8_17) ?_
    refine own_cn X0 hx hby d8_19 (tlt (by decide : (6 : Int32) < (10 : Int32))).2.1 ?_
    refine own_iN X0 hx hby d8_22 ?_
    refine own_iN X0 hx hby d8_23 ?_
    refine own_cn X0 hx hby d8_24 (tlt hc13).2.2.2 ?_
    refine own_iN X0 hx hby d8_27 ?_
    refine own_iN X0 hx hby d8_28 ?_
    refine XS.iadd X0.here hx rfl (hb hby d8_29) rfl ?_
    show own_S p e below s₁ (mkF m 30 #[iv (-qa), iv (0 : Int32), iv (-1000000 : Int32), iv (6 : Int32)] [(.int ((6 : Int32) + (0 : Int32)))]) _
    rw [(by decide : ((6 : Int32) + (0 : Int32)) = (6 : Int32))]
    exact retI X0 hx hret (hb hby d8_30) hr
  · show Qrm16 Z qa h0 _ s₁.heap _
    rw [e0]
    exact ⟨rfl, N0, rfl⟩
def Qrm17 (Z : State) (qa : Int32) (h0 : Heap) (v : Option Value) (h : Heap) (L : List Loc) : Prop := v = some (.int (7 : Int32)) ∧ Fr Z.heap.size L ∧ h = h0
theorem rm17 (l : Launch) (Z : State) (a0 : Array Value) (hw : own_HW Z a0) (ws : List Jvm.Cond) (qa : Int32) (h0 : Heap) (Z0 : Ext Z.heap h0) (hc2 : ¬ (qa < (0 : Int32))) (hc4 : ¬ ((-10 : Int32) < (-qa))) (hc6 : ¬ ((-100 : Int32) < (-qa))) (hc8 : ¬ ((-1000 : Int32) < (-qa))) (hc10 : ¬ ((-10000 : Int32) < (-qa))) (hc12 : ¬ ((-100000 : Int32) < (-qa))) (hc14 : ¬ ((-1000000 : Int32) < (-qa))) (hc15 : (-10000000 : Int32) < (-qa)) :
    own_met l y_0 jdk_33_method_13_code 4 (some .int) ws ({ frames := 0, cells := 0, slots := 0, locals := 0 } : Room) Z #[(.int qa)] h0 (Qrm17 Z qa h0) := by
  refine own_start (plainFor_of_name pn_0) (fun m => ef_jdk_33_method_13_I m qa) ?_
  intro p e s m below meth c s₁ hx hby hml hown hnm X0 hZ e0 hret hlk
  have N0 := Fr.nil Z.heap.size
  obtain ⟨fs, hr, hrun, hended, hW, hsame⟩ := X0.leave (v := some (.int (7 : Int32))) (fun h => by rw [hret] at h; cases h) hlk
  refine ⟨_, _, ?_, hrun, hended, _, _, rfl, ?_, ⟨_, rfl⟩, hW, hsame.mono (by decide) (by decide)⟩
  · show own_S p e below s₁ (mkF m 0 #[iv qa, .unset, .unset, .unset] []) _
    refine own_k X0 hx hby d8_0 ?_
    refine XS.istoreN X0.here hx rfl (hb hby d8_1) rfl (l' := #[iv qa, iv (1 : Int32), .unset, .unset]) rfl ?_
    refine own_iN X0 hx hby d8_2 ?_
    refine own_in X0 hx hby d8_3 (flt hc2).1 ?_
    refine own_k X0 hx hby d8_6 ?_
    refine XS.istoreN X0.here hx rfl (hb hby d8_7) rfl (l' := #[iv qa, iv (0 : Int32), .unset, .unset]) rfl ?_
    refine own_iN X0 hx hby d8_8 ?_
    refine XS.ineg X0.here hx rfl (hb hby d8_9) rfl ?_
    refine XS.istoreN X0.here hx rfl (hb hby d8_10) rfl (l' := #[iv (-qa), iv (0 : Int32), .unset, .unset]) rfl ?_
    refine XS.bipush X0.here hx rfl (hb hby d8_11) ?_
    refine XS.istoreN X0.here hx rfl (hb hby d8_13) rfl (l' := #[iv (-qa), iv (0 : Int32), iv (-10 : Int32), .unset]) rfl ?_
    refine own_k X0 hx hby d8_14 ?_
    refine XS.istoreN X0.here hx rfl (hb hby d8_15) rfl (l' := #[iv (-qa), iv (0 : Int32), iv (-10 : Int32), iv (1 : Int32)]) rfl ?_
    refine own_iN X0 hx hby d8_16 ?_
    refine XS.bipush X0.here hx rfl (hb hby d8_17) ?_
    refine own_cn X0 hx hby d8_19 (tlt (by decide : (1 : Int32) < (10 : Int32))).2.1 ?_
    refine own_iN X0 hx hby d8_22 ?_
    refine own_iN X0 hx hby d8_23 ?_
    refine own_cy (pc := 24) X0 hx hby d8_24 (flt hc4).2.2.2 31 ?_
    refine XS.bipush X0.here hx rfl (hb hby d8_31) ?_
    refine own_iN X0 hx hby d8_33 ?_
    refine XS.imul X0.here hx rfl (hb hby d8_34) rfl ?_
    show own_S p e below s₁ (mkF m 35 #[iv (-qa), iv (0 : Int32), iv (-10 : Int32), iv (1 : Int32)] [(.int ((10 : Int32) * (-10 : Int32)))]) _
    rw [(by decide : ((10 : Int32) * (-10 : Int32)) = (-100 : Int32))]
    refine XS.istoreN X0.here hx rfl (hb hby d8_35) rfl (l' := #[iv (-qa), iv (0 : Int32), iv (-100 : Int32), iv (1 : Int32)]) rfl ?_
    refine XS.iinc X0.here hx rfl (hb hby d8_36) rfl (l' := #[iv (-qa), iv (0 : Int32), iv (-100 : Int32), iv (2 : Int32)]) rfl ?_
    refine own_go (pc := 39) X0 hx hby d8_39 16 ?_
    refine own_iN X0 hx hby d8_16 ?_
    refine XS.bipush X0.here hx rfl (hb hby d8_17) ?_
    refine own_cn X0 hx hby d8_19 (tlt (by decide : (2 : Int32) < (10 : Int32))).2.1 ?_
    refine own_iN X0 hx hby d8_22 ?_
    refine own_iN X0 hx hby d8_23 ?_
    refine own_cy (pc := 24) X0 hx hby d8_24 (flt hc6).2.2.2 31 ?_
    refine XS.bipush X0.here hx rfl (hb hby d8_31) ?_
    refine own_iN X0 hx hby d8_33 ?_
    refine XS.imul X0.here hx rfl (hb hby d8_34) rfl ?_
    show own_S p e below s₁ (mkF m 35 #[iv (-qa), iv (0 : Int32), iv (-100 : Int32), iv (2 : Int32)] [(.int ((10 : Int32) * (-100 : Int32)))]) _
    rw [(by decide : ((10 : Int32) * (-100 : Int32)) = (-1000 : Int32))]
    refine XS.istoreN X0.here hx rfl (hb hby d8_35) rfl (l' := #[iv (-qa), iv (0 : Int32), iv (-1000 : Int32), iv (2 : Int32)]) rfl ?_
    refine XS.iinc X0.here hx rfl (hb hby d8_36) rfl (l' := #[iv (-qa), iv (0 : Int32), iv (-1000 : Int32), iv (3 : Int32)]) rfl ?_
    refine own_go (pc := 39) X0 hx hby d8_39 16 ?_
    refine own_iN X0 hx hby d8_16 ?_
    refine XS.bipush X0.here hx rfl (hb hby d8_17) ?_
    refine own_cn X0 hx hby d8_19 (tlt (by decide : (3 : Int32) < (10 : Int32))).2.1 ?_
    refine own_iN X0 hx hby d8_22 ?_
    refine own_iN X0 hx hby d8_23 ?_
    refine own_cy (pc := 24) X0 hx hby d8_24 (flt hc8).2.2.2 31 ?_
    refine XS.bipush X0.here hx rfl (hb hby d8_31) ?_
    refine own_iN X0 hx hby d8_33 ?_
    refine XS.imul X0.here hx rfl (hb hby d8_34) rfl ?_
    show own_S p e below s₁ (mkF m 35 #[iv (-qa), iv (0 : Int32), iv (-1000 : Int32), iv (3 : Int32)] [(.int ((10 : Int32) * (-1000 : Int32)))]) _
    rw [(by decide : ((10 : Int32) * (-1000 : Int32)) = (-10000 : Int32))]
    refine XS.istoreN X0.here hx rfl (hb hby d8_35) rfl (l' := #[iv (-qa), iv (0 : Int32), iv (-10000 : Int32), iv (3 : Int32)]) rfl ?_
    refine XS.iinc X0.here hx rfl (hb hby d8_36) rfl (l' := #[iv (-qa), iv (0 : Int32), iv (-10000 : Int32), iv (4 : Int32)]) rfl ?_
    refine own_go (pc := 39) X0 hx hby d8_39 16 ?_
    refine own_iN X0 hx hby d8_16 ?_
    refine XS.bipush X0.here hx rfl (hb hby d8_17) ?_
    refine own_cn X0 hx hby d8_19 (tlt (by decide : (4 : Int32) < (10 : Int32))).2.1 ?_
    refine own_iN X0 hx hby d8_22 ?_
    refine own_iN X0 hx hby d8_23 ?_
    refine own_cy (pc := 24) X0 hx hby d8_24 (flt hc10).2.2.2 31 ?_
    refine XS.bipush X0.here hx rfl (hb hby d8_31) ?_
    refine own_iN X0 hx hby d8_33 ?_
    refine XS.imul X0.here hx rfl (hb hby d8_34) rfl ?_
    show own_S p e below s₁ (mkF m 35 #[iv (-qa), iv (0 : Int32), iv (-10000 : Int32), iv (4 : Int32)] [(.int ((10 : Int32) * (-10000 : Int32)))]) _
    rw [(by decide : ((10 : Int32) * (-10000 : Int32)) = (-100000 : Int32))]
    refine XS.istoreN X0.here hx rfl (hb hby d8_35) rfl (l' := #[iv (-qa), iv (0 : Int32), iv (-100000 : Int32), iv (4 : Int32)]) rfl ?_
    refine XS.iinc X0.here hx rfl (hb hby d8_36) rfl (l' := #[iv (-qa), iv (0 : Int32), iv (-100000 : Int32), iv (5 : Int32)]) rfl ?_
    refine own_go (pc := 39) X0 hx hby d8_39 16 ?_
    refine own_iN X0 hx hby d8_16 ?_
    refine XS.bipush X0.here hx rfl (hb hby d8_17) ?_
    refine own_cn X0 hx hby d8_19 (tlt (by decide : (5 : Int32) < (10 : Int32))).2.1 ?_
    refine own_iN X0 hx hby d8_22 ?_
    refine own_iN X0 hx hby d8_23 ?_
    refine own_cy (pc := 24) X0 hx hby d8_24 (flt hc12).2.2.2 31 ?_
    refine XS.bipush X0.here hx rfl (hb hby d8_31) ?_
    refine own_iN X0 hx hby d8_33 ?_
    refine XS.imul X0.here hx rfl (hb hby d8_34) rfl ?_
    show own_S p e below s₁ (mkF m 35 #[iv (-qa), iv (0 : Int32), iv (-100000 : Int32), iv (5 : Int32)] [(.int ((10 : Int32) * (-100000 : Int32)))]) _
    rw [(by decide : ((10 : Int32) * (-100000 : Int32)) = (-1000000 : Int32))]
    refine XS.istoreN X0.here hx rfl (hb hby d8_35) rfl (l' := #[iv (-qa), iv (0 : Int32), iv (-1000000 : Int32), iv (5 : Int32)]) rfl ?_
    refine XS.iinc X0.here hx rfl (hb hby d8_36) rfl (l' := #[iv (-qa), iv (0 : Int32), iv (-1000000 : Int32), iv (6 : Int32)]) rfl ?_
    refine own_go (pc := 39) X0 hx hby d8_39 16 ?_
    refine own_iN X0 hx hby d8_16 ?_
    refine XS.bipush X0.here hx rfl (hb hby d8_17) ?_
    refine own_cn X0 hx hby d8_19 (tlt (by decide : (6 : Int32) < (10 : Int32))).2.1 ?_
    refine own_iN X0 hx hby d8_22 ?_
    refine own_iN X0 hx hby d8_23 ?_
    refine own_cy (pc := 24) X0 hx hby d8_24 (flt hc14).2.2.2 31 ?_
    refine XS.bipush X0.here hx rfl (hb hby d8_31) ?_
    refine own_iN X0 hx hby d8_33 ?_
    refine XS.imul X0.here hx rfl (hb hby d8_34) rfl ?_
    show own_S p e below s₁ (mkF m 35 #[iv (-qa), iv (0 : Int32), iv (-1000000 : Int32), iv (6 : Int32)] [(.int ((10 : Int32) * (-1000000 : Int32)))]) _
    rw [(by decide : ((10 : Int32) * (-1000000 : Int32)) = (-10000000 : Int32))]
    refine XS.istoreN X0.here hx rfl (hb hby d8_35) rfl (l' := #[iv (-qa), iv (0 : Int32), iv (-10000000 : Int32), iv (6 : Int32)]) rfl ?_
    refine XS.iinc X0.here hx rfl (hb hby d8_36) rfl (l' := #[iv (-qa), iv (0 : Int32), iv (-10000000 : Int32), iv (7 : Int32)]) rfl ?_
    refine own_go (pc := 39) X0 hx hby d8_39 16 ?_
    refine own_iN X0 hx hby d8_16 ?_
    refine XS.bipush X0.here hx rfl (hb hby d8_17) ?_
    refine own_cn X0 hx hby d8_19 (tlt (by decide : (7 : Int32) < (10 : Int32))).2.1 ?_
    refine own_iN X0 hx hby d8_22 ?_
    refine own_iN X0 hx hby d8_23 ?_
    refine own_cn X0 hx hby d8_24 (tlt hc15).2.2.2 ?_
    refine own_iN X0 hx hby d8_27 ?_
    refine own_iN X0 hx hby d8_28 ?_
    refine XS.iadd X0.here hx rfl (hb hby d8_29) rfl ?_
    show own_S p e below s₁ (mkF m 30 #[iv (-qa), iv (0 : Int32), iv (-10000000 : Int32), iv (7 : Int32)] [(.int ((7 : Int32) + (0 : Int32)))]) _
    rw [(by decide : ((7 : Int32) + (0 : Int32)) = (7 : Int32))]
    exact retI X0 hx hret (hb hby d8_30) hr
  · show Qrm17 Z qa h0 _ s₁.heap _
    rw [e0]
    exact ⟨rfl, N0, rfl⟩
def Qrm18 (Z : State) (qa : Int32) (h0 : Heap) (v : Option Value) (h : Heap) (L : List Loc) : Prop := v = some (.int (8 : Int32)) ∧ Fr Z.heap.size L ∧ h = h0
theorem rm18 (l : Launch) (Z : State) (a0 : Array Value) (hw : own_HW Z a0) (ws : List Jvm.Cond) (qa : Int32) (h0 : Heap) (Z0 : Ext Z.heap h0) (hc2 : ¬ (qa < (0 : Int32))) (hc4 : ¬ ((-10 : Int32) < (-qa))) (hc6 : ¬ ((-100 : Int32) < (-qa))) (hc8 : ¬ ((-1000 : Int32) < (-qa))) (hc10 : ¬ ((-10000 : Int32) < (-qa))) (hc12 : ¬ ((-100000 : Int32) < (-qa))) (hc14 : ¬ ((-1000000 : Int32) < (-qa))) (hc16 : ¬ ((-10000000 : Int32) < (-qa))) (hc17 : (-100000000 : Int32) < (-qa)) :
    own_met l y_0 jdk_33_method_13_code 4 (some .int) ws ({ frames := 0, cells := 0, slots := 0, locals := 0 } : Room) Z #[(.int qa)] h0 (Qrm18 Z qa h0) := by
  refine own_start (plainFor_of_name pn_0) (fun m => ef_jdk_33_method_13_I m qa) ?_
  intro p e s m below meth c s₁ hx hby hml hown hnm X0 hZ e0 hret hlk
  have N0 := Fr.nil Z.heap.size
  obtain ⟨fs, hr, hrun, hended, hW, hsame⟩ := X0.leave (v := some (.int (8 : Int32))) (fun h => by rw [hret] at h; cases h) hlk
  refine ⟨_, _, ?_, hrun, hended, _, _, rfl, ?_, ⟨_, rfl⟩, hW, hsame.mono (by decide) (by decide)⟩
  · show own_S p e below s₁ (mkF m 0 #[iv qa, .unset, .unset, .unset] []) _
    refine own_k X0 hx hby d8_0 ?_
    refine XS.istoreN X0.here hx rfl (hb hby d8_1) rfl (l' := #[iv qa, iv (1 : Int32), .unset, .unset]) rfl ?_
    refine own_iN X0 hx hby d8_2 ?_
    refine own_in X0 hx hby d8_3 (flt hc2).1 ?_
    refine own_k X0 hx hby d8_6 ?_
    refine XS.istoreN X0.here hx rfl (hb hby d8_7) rfl (l' := #[iv qa, iv (0 : Int32), .unset, .unset]) rfl ?_
    refine own_iN X0 hx hby d8_8 ?_
    refine XS.ineg X0.here hx rfl (hb hby d8_9) rfl ?_
    refine XS.istoreN X0.here hx rfl (hb hby d8_10) rfl (l' := #[iv (-qa), iv (0 : Int32), .unset, .unset]) rfl ?_
    refine XS.bipush X0.here hx rfl (hb hby d8_11) ?_
    refine XS.istoreN X0.here hx rfl (hb hby d8_13) rfl (l' := #[iv (-qa), iv (0 : Int32), iv (-10 : Int32), .unset]) rfl ?_
    refine own_k X0 hx hby d8_14 ?_
    refine XS.istoreN X0.here hx rfl (hb hby d8_15) rfl (l' := #[iv (-qa), iv (0 : Int32), iv (-10 : Int32), iv (1 : Int32)]) rfl ?_
    refine own_iN X0 hx hby d8_16 ?_
    refine XS.bipush X0.here hx rfl (hb hby d8_17) ?_
    refine own_cn X0 hx hby d8_19 (tlt (by decide : (1 : Int32) < (10 : Int32))).2.1 ?_
    refine own_iN X0 hx hby d8_22 ?_
    refine own_iN X0 hx hby d8_23 ?_
    refine own_cy (pc := 24) X0 hx hby d8_24 (flt hc4).2.2.2 31 ?_
    refine XS.bipush X0.here hx rfl (hb hby d8_31) ?_
    refine own_iN X0 hx hby d8_33 ?_
    refine XS.imul X0.here hx rfl (hb hby d8_34) rfl ?_
    show own_S p e below s₁ (mkF m 35 #[iv (-qa), iv (0 : Int32), iv (-10 : Int32), iv (1 : Int32)] [(.int ((10 : Int32) * (-10 : Int32)))]) _
    rw [(by decide : ((10 : Int32) * (-10 : Int32)) = (-100 : Int32))]
    refine XS.istoreN X0.here hx rfl (hb hby d8_35) rfl (l' := #[iv (-qa), iv (0 : Int32), iv (-100 : Int32), iv (1 : Int32)]) rfl ?_
    refine XS.iinc X0.here hx rfl (hb hby d8_36) rfl (l' := #[iv (-qa), iv (0 : Int32), iv (-100 : Int32), iv (2 : Int32)]) rfl ?_
    refine own_go (pc := 39) X0 hx hby d8_39 16 ?_
    refine own_iN X0 hx hby d8_16 ?_
    refine XS.bipush X0.here hx rfl (hb hby d8_17) ?_
    refine own_cn X0 hx hby d8_19 (tlt (by decide : (2 : Int32) < (10 : Int32))).2.1 ?_
    refine own_iN X0 hx hby d8_22 ?_
    refine own_iN X0 hx hby d8_23 ?_
    refine own_cy (pc := 24) X0 hx hby d8_24 (flt hc6).2.2.2 31 ?_
    refine XS.bipush X0.here hx rfl (hb hby d8_31) ?_
    refine own_iN X0 hx hby d8_33 ?_
    refine XS.imul X0.here hx rfl (hb hby d8_34) rfl ?_
    show own_S p e below s₁ (mkF m 35 #[iv (-qa), iv (0 : Int32), iv (-100 : Int32), iv (2 : Int32)] [(.int ((10 : Int32) * (-100 : Int32)))]) _
    rw [(by decide : ((10 : Int32) * (-100 : Int32)) = (-1000 : Int32))]
    refine XS.istoreN X0.here hx rfl (hb hby d8_35) rfl (l' := #[iv (-qa), iv (0 : Int32), iv (-1000 : Int32), iv (2 : Int32)]) rfl ?_
    refine XS.iinc X0.here hx rfl (hb hby d8_36) rfl (l' := #[iv (-qa), iv (0 : Int32), iv (-1000 : Int32), iv (3 : Int32)]) rfl ?_
    refine own_go (pc := 39) X0 hx hby d8_39 16 ?_
    refine own_iN X0 hx hby d8_16 ?_
    refine XS.bipush X0.here hx rfl (hb hby d8_17) ?_
    refine own_cn X0 hx hby d8_19 (tlt (by decide : (3 : Int32) < (10 : Int32))).2.1 ?_
    refine own_iN X0 hx hby d8_22 ?_
    refine own_iN X0 hx hby d8_23 ?_
    refine own_cy (pc := 24) X0 hx hby d8_24 (flt hc8).2.2.2 31 ?_
    refine XS.bipush X0.here hx rfl (hb hby d8_31) ?_
    refine own_iN X0 hx hby d8_33 ?_
    refine XS.imul X0.here hx rfl (hb hby d8_34) rfl ?_
    show own_S p e below s₁ (mkF m 35 #[iv (-qa), iv (0 : Int32), iv (-1000 : Int32), iv (3 : Int32)] [(.int ((10 : Int32) * (-1000 : Int32)))]) _
    rw [(by decide : ((10 : Int32) * (-1000 : Int32)) = (-10000 : Int32))]
    refine XS.istoreN X0.here hx rfl (hb hby d8_35) rfl (l' := #[iv (-qa), iv (0 : Int32), iv (-10000 : Int32), iv (3 : Int32)]) rfl ?_
    refine XS.iinc X0.here hx rfl (hb hby d8_36) rfl (l' := #[iv (-qa), iv (0 : Int32), iv (-10000 : Int32), iv (4 : Int32)]) rfl ?_
    refine own_go (pc := 39) X0 hx hby d8_39 16 ?_
    refine own_iN X0 hx hby d8_16 ?_
    refine XS.bipush X0.here hx rfl (hb hby d8_17) ?_
    refine own_cn X0 hx hby d8_19 (tlt (by decide : (4 : Int32) < (10 : Int32))).2.1 ?_
    refine own_iN X0 hx hby d8_22 ?_
    refine own_iN X0 hx hby d8_23 ?_
    refine own_cy (pc := 24) X0 hx hby d8_24 (flt hc10).2.2.2 31 ?_
    refine XS.bipush X0.here hx rfl (hb hby d8_31) ?_
    refine own_iN X0 hx hby d8_33 ?_
    refine XS.imul X0.here hx rfl (hb hby d8_34) rfl ?_
    show own_S p e below s₁ (mkF m 35 #[iv (-qa), iv (0 : Int32), iv (-10000 : Int32), iv (4 : Int32)] [(.int ((10 : Int32) * (-10000 : Int32)))]) _
    rw [(by decide : ((10 : Int32) * (-10000 : Int32)) = (-100000 : Int32))]
    refine XS.istoreN X0.here hx rfl (hb hby d8_35) rfl (l' := #[iv (-qa), iv (0 : Int32), iv (-100000 : Int32), iv (4 : Int32)]) rfl ?_
    refine XS.iinc X0.here hx rfl (hb hby d8_36) rfl (l' := #[iv (-qa), iv (0 : Int32), iv (-100000 : Int32), iv (5 : Int32)]) rfl ?_
    refine own_go (pc := 39) X0 hx hby d8_39 16 ?_
    refine own_iN X0 hx hby d8_16 ?_
    refine XS.bipush X0.here hx rfl (hb hby d8_17) ?_
    refine own_cn X0 hx hby d8_19 (tlt (by decide : (5 : Int32) < (10 : Int32))).2.1 ?_
    refine own_iN X0 hx hby d8_22 ?_
    refine own_iN X0 hx hby d8_23 ?_
    refine own_cy (pc := 24) X0 hx hby d8_24 (flt hc12).2.2.2 31 ?_
    refine XS.bipush X0.here hx rfl (hb hby d8_31) ?_
    refine own_iN X0 hx hby d8_33 ?_
    refine XS.imul X0.here hx rfl (hb hby d8_34) rfl ?_
    show own_S p e below s₁ (mkF m 35 #[iv (-qa), iv (0 : Int32), iv (-100000 : Int32), iv (5 : Int32)] [(.int ((10 : Int32) * (-100000 : Int32)))]) _
    rw [(by decide : ((10 : Int32) * (-100000 : Int32)) = (-1000000 : Int32))]
    refine XS.istoreN X0.here hx rfl (hb hby d8_35) rfl (l' := #[iv (-qa), iv (0 : Int32), iv (-1000000 : Int32), iv (5 : Int32)]) rfl ?_
    refine XS.iinc X0.here hx rfl (hb hby d8_36) rfl (l' := #[iv (-qa), iv (0 : Int32), iv (-1000000 : Int32), iv (6 : Int32)]) rfl ?_
    refine own_go (pc := 39) X0 hx hby d8_39 16 ?_
    refine own_iN X0 hx hby d8_16 ?_
    refine XS.bipush X0.here hx rfl (hb hby d8_17) ?_
    refine own_cn X0 hx hby d8_19 (tlt (by decide : (6 : Int32) < (10 : Int32))).2.1 ?_
    refine own_iN X0 hx hby d8_22 ?_
    refine own_iN X0 hx hby d8_23 ?_
    refine own_cy (pc := 24) X0 hx hby d8_24 (flt hc14).2.2.2 31 ?_
    refine XS.bipush X0.here hx rfl (hb hby d8_31) ?_
    refine own_iN X0 hx hby d8_33 ?_
    refine XS.imul X0.here hx rfl (hb hby d8_34) rfl ?_
    show own_S p e below s₁ (mkF m 35 #[iv (-qa), iv (0 : Int32), iv (-1000000 : Int32), iv (6 : Int32)] [(.int ((10 : Int32) * (-1000000 : Int32)))]) _
    rw [(by decide : ((10 : Int32) * (-1000000 : Int32)) = (-10000000 : Int32))]
    refine XS.istoreN X0.here hx rfl (hb hby d8_35) rfl (l' := #[iv (-qa), iv (0 : Int32), iv (-10000000 : Int32), iv (6 : Int32)]) rfl ?_
    refine XS.iinc X0.here hx rfl (hb hby d8_36) rfl (l' := #[iv (-qa), iv (0 : Int32), iv (-10000000 : Int32), iv (7 : Int32)]) rfl ?_
    refine own_go (pc := 39) X0 hx hby d8_39 16 ?_
    refine own_iN X0 hx hby d8_16 ?_
    refine XS.bipush X0.here hx rfl (hb hby d8_17) ?_
    refine own_cn X0 hx hby d8_19 (tlt (by decide : (7 : Int32) < (10 : Int32))).2.1 ?_
    refine own_iN X0 hx hby d8_22 ?_
    refine own_iN X0 hx hby d8_23 ?_
    refine own_cy (pc := 24) X0 hx hby d8_24 (flt hc16).2.2.2 31 ?_
    refine XS.bipush X0.here hx rfl (hb hby d8_31) ?_
    refine own_iN X0 hx hby d8_33 ?_
    refine XS.imul X0.here hx rfl (hb hby d8_34) rfl ?_
    show own_S p e below s₁ (mkF m 35 #[iv (-qa), iv (0 : Int32), iv (-10000000 : Int32), iv (7 : Int32)] [(.int ((10 : Int32) * (-10000000 : Int32)))]) _
    rw [(by decide : ((10 : Int32) * (-10000000 : Int32)) = (-100000000 : Int32))]
    refine XS.istoreN X0.here hx rfl (hb hby d8_35) rfl (l' := #[iv (-qa), iv (0 : Int32), iv (-100000000 : Int32), iv (7 : Int32)]) rfl ?_
    refine XS.iinc X0.here hx rfl (hb hby d8_36) rfl (l' := #[iv (-qa), iv (0 : Int32), iv (-100000000 : Int32), iv (8 : Int32)]) rfl ?_
    refine own_go (pc := 39) X0 hx hby d8_39 16 ?_
    refine own_iN X0 hx hby d8_16 ?_
    refine XS.bipush X0.here hx rfl (hb hby d8_17) ?_
    refine own_cn X0 hx hby d8_19 (tlt (by decide : (8 : Int32) < (10 : Int32))).2.1 ?_
    refine own_iN X0 hx hby d8_22 ?_
    refine own_iN X0 hx hby d8_23 ?_
    refine own_cn X0 hx hby d8_24 (tlt hc17).2.2.2 ?_
    refine own_iN X0 hx hby d8_27 ?_
    refine own_iN X0 hx hby d8_28 ?_
    refine XS.iadd X0.here hx rfl (hb hby d8_29) rfl ?_
    show own_S p e below s₁ (mkF m 30 #[iv (-qa), iv (0 : Int32), iv (-100000000 : Int32), iv (8 : Int32)] [(.int ((8 : Int32) + (0 : Int32)))]) _
    rw [(by decide : ((8 : Int32) + (0 : Int32)) = (8 : Int32))]
    exact retI X0 hx hret (hb hby d8_30) hr
  · show Qrm18 Z qa h0 _ s₁.heap _
    rw [e0]
    exact ⟨rfl, N0, rfl⟩
def Qrm19 (Z : State) (qa : Int32) (h0 : Heap) (v : Option Value) (h : Heap) (L : List Loc) : Prop := v = some (.int (9 : Int32)) ∧ Fr Z.heap.size L ∧ h = h0
theorem rm19 (l : Launch) (Z : State) (a0 : Array Value) (hw : own_HW Z a0) (ws : List Jvm.Cond) (qa : Int32) (h0 : Heap) (Z0 : Ext Z.heap h0) (hc2 : ¬ (qa < (0 : Int32))) (hc4 : ¬ ((-10 : Int32) < (-qa))) (hc6 : ¬ ((-100 : Int32) < (-qa))) (hc8 : ¬ ((-1000 : Int32) < (-qa))) (hc10 : ¬ ((-10000 : Int32) < (-qa))) (hc12 : ¬ ((-100000 : Int32) < (-qa))) (hc14 : ¬ ((-1000000 : Int32) < (-qa))) (hc16 : ¬ ((-10000000 : Int32) < (-qa))) (hc18 : ¬ ((-100000000 : Int32) < (-qa))) (hc19 : (-1000000000 : Int32) < (-qa)) :
    own_met l y_0 jdk_33_method_13_code 4 (some .int) ws ({ frames := 0, cells := 0, slots := 0, locals := 0 } : Room) Z #[(.int qa)] h0 (Qrm19 Z qa h0) := by
  refine own_start (plainFor_of_name pn_0) (fun m => ef_jdk_33_method_13_I m qa) ?_
  intro p e s m below meth c s₁ hx hby hml hown hnm X0 hZ e0 hret hlk
  have N0 := Fr.nil Z.heap.size
  obtain ⟨fs, hr, hrun, hended, hW, hsame⟩ := X0.leave (v := some (.int (9 : Int32))) (fun h => by rw [hret] at h; cases h) hlk
  refine ⟨_, _, ?_, hrun, hended, _, _, rfl, ?_, ⟨_, rfl⟩, hW, hsame.mono (by decide) (by decide)⟩
  · show own_S p e below s₁ (mkF m 0 #[iv qa, .unset, .unset, .unset] []) _
    refine own_k X0 hx hby d8_0 ?_
    refine XS.istoreN X0.here hx rfl (hb hby d8_1) rfl (l' := #[iv qa, iv (1 : Int32), .unset, .unset]) rfl ?_
    refine own_iN X0 hx hby d8_2 ?_
    refine own_in X0 hx hby d8_3 (flt hc2).1 ?_
    refine own_k X0 hx hby d8_6 ?_
    refine XS.istoreN X0.here hx rfl (hb hby d8_7) rfl (l' := #[iv qa, iv (0 : Int32), .unset, .unset]) rfl ?_
    refine own_iN X0 hx hby d8_8 ?_
    refine XS.ineg X0.here hx rfl (hb hby d8_9) rfl ?_
    refine XS.istoreN X0.here hx rfl (hb hby d8_10) rfl (l' := #[iv (-qa), iv (0 : Int32), .unset, .unset]) rfl ?_
    refine XS.bipush X0.here hx rfl (hb hby d8_11) ?_
    refine XS.istoreN X0.here hx rfl (hb hby d8_13) rfl (l' := #[iv (-qa), iv (0 : Int32), iv (-10 : Int32), .unset]) rfl ?_
    refine own_k X0 hx hby d8_14 ?_
    refine XS.istoreN X0.here hx rfl (hb hby d8_15) rfl (l' := #[iv (-qa), iv (0 : Int32), iv (-10 : Int32), iv (1 : Int32)]) rfl ?_
    refine own_iN X0 hx hby d8_16 ?_
    refine XS.bipush X0.here hx rfl (hb hby d8_17) ?_
    refine own_cn X0 hx hby d8_19 (tlt (by decide : (1 : Int32) < (10 : Int32))).2.1 ?_
    refine own_iN X0 hx hby d8_22 ?_
    refine own_iN X0 hx hby d8_23 ?_
    refine own_cy (pc := 24) X0 hx hby d8_24 (flt hc4).2.2.2 31 ?_
    refine XS.bipush X0.here hx rfl (hb hby d8_31) ?_
    refine own_iN X0 hx hby d8_33 ?_
    refine XS.imul X0.here hx rfl (hb hby d8_34) rfl ?_
    show own_S p e below s₁ (mkF m 35 #[iv (-qa), iv (0 : Int32), iv (-10 : Int32), iv (1 : Int32)] [(.int ((10 : Int32) * (-10 : Int32)))]) _
    rw [(by decide : ((10 : Int32) * (-10 : Int32)) = (-100 : Int32))]
    refine XS.istoreN X0.here hx rfl (hb hby d8_35) rfl (l' := #[iv (-qa), iv (0 : Int32), iv (-100 : Int32), iv (1 : Int32)]) rfl ?_
    refine XS.iinc X0.here hx rfl (hb hby d8_36) rfl (l' := #[iv (-qa), iv (0 : Int32), iv (-100 : Int32), iv (2 : Int32)]) rfl ?_
    refine own_go (pc := 39) X0 hx hby d8_39 16 ?_
    refine own_iN X0 hx hby d8_16 ?_
    refine XS.bipush X0.here hx rfl (hb hby d8_17) ?_
    refine own_cn X0 hx hby d8_19 (tlt (by decide : (2 : Int32) < (10 : Int32))).2.1 ?_
    refine own_iN X0 hx hby d8_22 ?_
    refine own_iN X0 hx hby d8_23 ?_
    refine own_cy (pc := 24) X0 hx hby d8_24 (flt hc6).2.2.2 31 ?_
    refine XS.bipush X0.here hx rfl (hb hby d8_31) ?_
    refine own_iN X0 hx hby d8_33 ?_
    refine XS.imul X0.here hx rfl (hb hby d8_34) rfl ?_
    show own_S p e below s₁ (mkF m 35 #[iv (-qa), iv (0 : Int32), iv (-100 : Int32), iv (2 : Int32)] [(.int ((10 : Int32) * (-100 : Int32)))]) _
    rw [(by decide : ((10 : Int32) * (-100 : Int32)) = (-1000 : Int32))]
    refine XS.istoreN X0.here hx rfl (hb hby d8_35) rfl (l' := #[iv (-qa), iv (0 : Int32), iv (-1000 : Int32), iv (2 : Int32)]) rfl ?_
    refine XS.iinc X0.here hx rfl (hb hby d8_36) rfl (l' := #[iv (-qa), iv (0 : Int32), iv (-1000 : Int32), iv (3 : Int32)]) rfl ?_
    refine own_go (pc := 39) X0 hx hby d8_39 16 ?_
    refine own_iN X0 hx hby d8_16 ?_
    refine XS.bipush X0.here hx rfl (hb hby d8_17) ?_
    refine own_cn X0 hx hby d8_19 (tlt (by decide : (3 : Int32) < (10 : Int32))).2.1 ?_
    refine own_iN X0 hx hby d8_22 ?_
    refine own_iN X0 hx hby d8_23 ?_
    refine own_cy (pc := 24) X0 hx hby d8_24 (flt hc8).2.2.2 31 ?_
    refine XS.bipush X0.here hx rfl (hb hby d8_31) ?_
    refine own_iN X0 hx hby d8_33 ?_
    refine XS.imul X0.here hx rfl (hb hby d8_34) rfl ?_
    show own_S p e below s₁ (mkF m 35 #[iv (-qa), iv (0 : Int32), iv (-1000 : Int32), iv (3 : Int32)] [(.int ((10 : Int32) * (-1000 : Int32)))]) _
    rw [(by decide : ((10 : Int32) * (-1000 : Int32)) = (-10000 : Int32))]
    refine XS.istoreN X0.here hx rfl (hb hby d8_35) rfl (l' := #[iv (-qa), iv (0 : Int32), iv (-10000 : Int32), iv (3 : Int32)]) rfl ?_
    refine XS.iinc X0.here hx rfl (hb hby d8_36) rfl (l' := #[iv (-qa), iv (0 : Int32), iv (-10000 : Int32), iv (4 : Int32)]) rfl ?_
    refine own_go (pc := 39) X0 hx hby d8_39 16 ?_
    refine own_iN X0 hx hby d8_16 ?_
    refine XS.bipush X0.here hx rfl (hb hby d8_17) ?_
    refine own_cn X0 hx hby d8_19 (tlt (by decide : (4 : Int32) < (10 : Int32))).2.1 ?_
    refine own_iN X0 hx hby d8_22 ?_
    refine own_iN X0 hx hby d8_23 ?_
    refine own_cy (pc := 24) X0 hx hby d8_24 (flt hc10).2.2.2 31 ?_
    refine XS.bipush X0.here hx rfl (hb hby d8_31) ?_
    refine own_iN X0 hx hby d8_33 ?_
    refine XS.imul X0.here hx rfl (hb hby d8_34) rfl ?_
    show own_S p e below s₁ (mkF m 35 #[iv (-qa), iv (0 : Int32), iv (-10000 : Int32), iv (4 : Int32)] [(.int ((10 : Int32) * (-10000 : Int32)))]) _
    rw [(by decide : ((10 : Int32) * (-10000 : Int32)) = (-100000 : Int32))]
    refine XS.istoreN X0.here hx rfl (hb hby d8_35) rfl (l' := #[iv (-qa), iv (0 : Int32), iv (-100000 : Int32), iv (4 : Int32)]) rfl ?_
    refine XS.iinc X0.here hx rfl (hb hby d8_36) rfl (l' := #[iv (-qa), iv (0 : Int32), iv (-100000 : Int32), iv (5 : Int32)]) rfl ?_
    refine own_go (pc := 39) X0 hx hby d8_39 16 ?_
    refine own_iN X0 hx hby d8_16 ?_
    refine XS.bipush X0.here hx rfl (hb hby d8_17) ?_
    refine own_cn X0 hx hby d8_19 (tlt (by decide : (5 : Int32) < (10 : Int32))).2.1 ?_
    refine own_iN X0 hx hby d8_22 ?_
    refine own_iN X0 hx hby d8_23 ?_
    refine own_cy (pc := 24) X0 hx hby d8_24 (flt hc12).2.2.2 31 ?_
    refine XS.bipush X0.here hx rfl (hb hby d8_31) ?_
    refine own_iN X0 hx hby d8_33 ?_
    refine XS.imul X0.here hx rfl (hb hby d8_34) rfl ?_
    show own_S p e below s₁ (mkF m 35 #[iv (-qa), iv (0 : Int32), iv (-100000 : Int32), iv (5 : Int32)] [(.int ((10 : Int32) * (-100000 : Int32)))]) _
    rw [(by decide : ((10 : Int32) * (-100000 : Int32)) = (-1000000 : Int32))]
    refine XS.istoreN X0.here hx rfl (hb hby d8_35) rfl (l' := #[iv (-qa), iv (0 : Int32), iv (-1000000 : Int32), iv (5 : Int32)]) rfl ?_
    refine XS.iinc X0.here hx rfl (hb hby d8_36) rfl (l' := #[iv (-qa), iv (0 : Int32), iv (-1000000 : Int32), iv (6 : Int32)]) rfl ?_
    refine own_go (pc := 39) X0 hx hby d8_39 16 ?_
    refine own_iN X0 hx hby d8_16 ?_
    refine XS.bipush X0.here hx rfl (hb hby d8_17) ?_
    refine own_cn X0 hx hby d8_19 (tlt (by decide : (6 : Int32) < (10 : Int32))).2.1 ?_
    refine own_iN X0 hx hby d8_22 ?_
    refine own_iN X0 hx hby d8_23 ?_
    refine own_cy (pc := 24) X0 hx hby d8_24 (flt hc14).2.2.2 31 ?_
    refine XS.bipush X0.here hx rfl (hb hby d8_31) ?_
    refine own_iN X0 hx hby d8_33 ?_
    refine XS.imul X0.here hx rfl (hb hby d8_34) rfl ?_
    show own_S p e below s₁ (mkF m 35 #[iv (-qa), iv (0 : Int32), iv (-1000000 : Int32), iv (6 : Int32)] [(.int ((10 : Int32) * (-1000000 : Int32)))]) _
    rw [(by decide : ((10 : Int32) * (-1000000 : Int32)) = (-10000000 : Int32))]
    refine XS.istoreN X0.here hx rfl (hb hby d8_35) rfl (l' := #[iv (-qa), iv (0 : Int32), iv (-10000000 : Int32), iv (6 : Int32)]) rfl ?_
    refine XS.iinc X0.here hx rfl (hb hby d8_36) rfl (l' := #[iv (-qa), iv (0 : Int32), iv (-10000000 : Int32), iv (7 : Int32)]) rfl ?_
    refine own_go (pc := 39) X0 hx hby d8_39 16 ?_
    refine own_iN X0 hx hby d8_16 ?_
    refine XS.bipush X0.here hx rfl (hb hby d8_17) ?_
    refine own_cn X0 hx hby d8_19 (tlt (by decide : (7 : Int32) < (10 : Int32))).2.1 ?_
    refine own_iN X0 hx hby d8_22 ?_
    refine own_iN X0 hx hby d8_23 ?_
    refine own_cy (pc := 24) X0 hx hby d8_24 (flt hc16).2.2.2 31 ?_
    refine XS.bipush X0.here hx rfl (hb hby d8_31) ?_
    refine own_iN X0 hx hby d8_33 ?_
    refine XS.imul X0.here hx rfl (hb hby d8_34) rfl ?_
    show own_S p e below s₁ (mkF m 35 #[iv (-qa), iv (0 : Int32), iv (-10000000 : Int32), iv (7 : Int32)] [(.int ((10 : Int32) * (-10000000 : Int32)))]) _
    rw [(by decide : ((10 : Int32) * (-10000000 : Int32)) = (-100000000 : Int32))]
    refine XS.istoreN X0.here hx rfl (hb hby d8_35) rfl (l' := #[iv (-qa), iv (0 : Int32), iv (-100000000 : Int32), iv (7 : Int32)]) rfl ?_
    refine XS.iinc X0.here hx rfl (hb hby d8_36) rfl (l' := #[iv (-qa), iv (0 : Int32), iv (-100000000 : Int32), iv (8 : Int32)]) rfl ?_
    refine own_go (pc := 39) X0 hx hby d8_39 16 ?_
    refine own_iN X0 hx hby d8_16 ?_
    refine XS.bipush X0.here hx rfl (hb hby d8_17) ?_
    refine own_cn X0 hx hby d8_19 (tlt (by decide : (8 : Int32) < (10 : Int32))).2.1 ?_
    refine own_iN X0 hx hby d8_22 ?_
    refine own_iN X0 hx hby d8_23 ?_
    refine own_cy (pc := 24) X0 hx hby d8_24 (flt hc18).2.2.2 31 ?_
    refine XS.bipush X0.here hx rfl (hb hby d8_31) ?_
    refine own_iN X0 hx hby d8_33 ?_
    refine XS.imul X0.here hx rfl (hb hby d8_34) rfl ?_
    show own_S p e below s₁ (mkF m 35 #[iv (-qa), iv (0 : Int32), iv (-100000000 : Int32), iv (8 : Int32)] [(.int ((10 : Int32) * (-100000000 : Int32)))]) _
    rw [(by decide : ((10 : Int32) * (-100000000 : Int32)) = (-1000000000 : Int32))]
    refine XS.istoreN X0.here hx rfl (hb hby d8_35) rfl (l' := #[iv (-qa), iv (0 : Int32), iv (-1000000000 : Int32), iv (8 : Int32)]) rfl ?_
    refine XS.iinc X0.here hx rfl (hb hby d8_36) rfl (l' := #[iv (-qa), iv (0 : Int32), iv (-1000000000 : Int32), iv (9 : Int32)]) rfl ?_
    refine own_go (pc := 39) X0 hx hby d8_39 16 ?_
    refine own_iN X0 hx hby d8_16 ?_
    refine XS.bipush X0.here hx rfl (hb hby d8_17) ?_
    refine own_cn X0 hx hby d8_19 (tlt (by decide : (9 : Int32) < (10 : Int32))).2.1 ?_
    refine own_iN X0 hx hby d8_22 ?_
    refine own_iN X0 hx hby d8_23 ?_
    refine own_cn X0 hx hby d8_24 (tlt hc19).2.2.2 ?_
    refine own_iN X0 hx hby d8_27 ?_
    refine own_iN X0 hx hby d8_28 ?_
    refine XS.iadd X0.here hx rfl (hb hby d8_29) rfl ?_
    show own_S p e below s₁ (mkF m 30 #[iv (-qa), iv (0 : Int32), iv (-1000000000 : Int32), iv (9 : Int32)] [(.int ((9 : Int32) + (0 : Int32)))]) _
    rw [(by decide : ((9 : Int32) + (0 : Int32)) = (9 : Int32))]
    exact retI X0 hx hret (hb hby d8_30) hr
  · show Qrm19 Z qa h0 _ s₁.heap _
    rw [e0]
    exact ⟨rfl, N0, rfl⟩
def Qrm20 (Z : State) (qa : Int32) (h0 : Heap) (v : Option Value) (h : Heap) (L : List Loc) : Prop := v = some (.int (10 : Int32)) ∧ Fr Z.heap.size L ∧ h = h0
theorem rm20 (l : Launch) (Z : State) (a0 : Array Value) (hw : own_HW Z a0) (ws : List Jvm.Cond) (qa : Int32) (h0 : Heap) (Z0 : Ext Z.heap h0) (hc2 : ¬ (qa < (0 : Int32))) (hc4 : ¬ ((-10 : Int32) < (-qa))) (hc6 : ¬ ((-100 : Int32) < (-qa))) (hc8 : ¬ ((-1000 : Int32) < (-qa))) (hc10 : ¬ ((-10000 : Int32) < (-qa))) (hc12 : ¬ ((-100000 : Int32) < (-qa))) (hc14 : ¬ ((-1000000 : Int32) < (-qa))) (hc16 : ¬ ((-10000000 : Int32) < (-qa))) (hc18 : ¬ ((-100000000 : Int32) < (-qa))) (hc20 : ¬ ((-1000000000 : Int32) < (-qa))) :
    own_met l y_0 jdk_33_method_13_code 4 (some .int) ws ({ frames := 0, cells := 0, slots := 0, locals := 0 } : Room) Z #[(.int qa)] h0 (Qrm20 Z qa h0) := by
  refine own_start (plainFor_of_name pn_0) (fun m => ef_jdk_33_method_13_I m qa) ?_
  intro p e s m below meth c s₁ hx hby hml hown hnm X0 hZ e0 hret hlk
  have N0 := Fr.nil Z.heap.size
  obtain ⟨fs, hr, hrun, hended, hW, hsame⟩ := X0.leave (v := some (.int (10 : Int32))) (fun h => by rw [hret] at h; cases h) hlk
  refine ⟨_, _, ?_, hrun, hended, _, _, rfl, ?_, ⟨_, rfl⟩, hW, hsame.mono (by decide) (by decide)⟩
  · show own_S p e below s₁ (mkF m 0 #[iv qa, .unset, .unset, .unset] []) _
    refine own_k X0 hx hby d8_0 ?_
    refine XS.istoreN X0.here hx rfl (hb hby d8_1) rfl (l' := #[iv qa, iv (1 : Int32), .unset, .unset]) rfl ?_
    refine own_iN X0 hx hby d8_2 ?_
    refine own_in X0 hx hby d8_3 (flt hc2).1 ?_
    refine own_k X0 hx hby d8_6 ?_
    refine XS.istoreN X0.here hx rfl (hb hby d8_7) rfl (l' := #[iv qa, iv (0 : Int32), .unset, .unset]) rfl ?_
    refine own_iN X0 hx hby d8_8 ?_
    refine XS.ineg X0.here hx rfl (hb hby d8_9) rfl ?_
    refine XS.istoreN X0.here hx rfl (hb hby d8_10) rfl (l' := #[iv (-qa), iv (0 : Int32), .unset, .unset]) rfl ?_
    refine XS.bipush X0.here hx rfl (hb hby d8_11) ?_
    refine XS.istoreN X0.here hx rfl (hb hby d8_13) rfl (l' := #[iv (-qa), iv (0 : Int32), iv (-10 : Int32), .unset]) rfl ?_
    refine own_k X0 hx hby d8_14 ?_
    refine XS.istoreN X0.here hx rfl (hb hby d8_15) rfl (l' := #[iv (-qa), iv (0 : Int32), iv (-10 : Int32), iv (1 : Int32)]) rfl ?_
    refine own_iN X0 hx hby d8_16 ?_
    refine XS.bipush X0.here hx rfl (hb hby d8_17) ?_
    refine own_cn X0 hx hby d8_19 (tlt (by decide : (1 : Int32) < (10 : Int32))).2.1 ?_
    refine own_iN X0 hx hby d8_22 ?_
    refine own_iN X0 hx hby d8_23 ?_
    refine own_cy (pc := 24) X0 hx hby d8_24 (flt hc4).2.2.2 31 ?_
    refine XS.bipush X0.here hx rfl (hb hby d8_31) ?_
    refine own_iN X0 hx hby d8_33 ?_
    refine XS.imul X0.here hx rfl (hb hby d8_34) rfl ?_
    show own_S p e below s₁ (mkF m 35 #[iv (-qa), iv (0 : Int32), iv (-10 : Int32), iv (1 : Int32)] [(.int ((10 : Int32) * (-10 : Int32)))]) _
    rw [(by decide : ((10 : Int32) * (-10 : Int32)) = (-100 : Int32))]
    refine XS.istoreN X0.here hx rfl (hb hby d8_35) rfl (l' := #[iv (-qa), iv (0 : Int32), iv (-100 : Int32), iv (1 : Int32)]) rfl ?_
    refine XS.iinc X0.here hx rfl (hb hby d8_36) rfl (l' := #[iv (-qa), iv (0 : Int32), iv (-100 : Int32), iv (2 : Int32)]) rfl ?_
    refine own_go (pc := 39) X0 hx hby d8_39 16 ?_
    refine own_iN X0 hx hby d8_16 ?_
    refine XS.bipush X0.here hx rfl (hb hby d8_17) ?_
    refine own_cn X0 hx hby d8_19 (tlt (by decide : (2 : Int32) < (10 : Int32))).2.1 ?_
    refine own_iN X0 hx hby d8_22 ?_
    refine own_iN X0 hx hby d8_23 ?_
    refine own_cy (pc := 24) X0 hx hby d8_24 (flt hc6).2.2.2 31 ?_
    refine XS.bipush X0.here hx rfl (hb hby d8_31) ?_
    refine own_iN X0 hx hby d8_33 ?_
    refine XS.imul X0.here hx rfl (hb hby d8_34) rfl ?_
    show own_S p e below s₁ (mkF m 35 #[iv (-qa), iv (0 : Int32), iv (-100 : Int32), iv (2 : Int32)] [(.int ((10 : Int32) * (-100 : Int32)))]) _
    rw [(by decide : ((10 : Int32) * (-100 : Int32)) = (-1000 : Int32))]
    refine XS.istoreN X0.here hx rfl (hb hby d8_35) rfl (l' := #[iv (-qa), iv (0 : Int32), iv (-1000 : Int32), iv (2 : Int32)]) rfl ?_
    refine XS.iinc X0.here hx rfl (hb hby d8_36) rfl (l' := #[iv (-qa), iv (0 : Int32), iv (-1000 : Int32), iv (3 : Int32)]) rfl ?_
    refine own_go (pc := 39) X0 hx hby d8_39 16 ?_
    refine own_iN X0 hx hby d8_16 ?_
    refine XS.bipush X0.here hx rfl (hb hby d8_17) ?_
    refine own_cn X0 hx hby d8_19 (tlt (by decide : (3 : Int32) < (10 : Int32))).2.1 ?_
    refine own_iN X0 hx hby d8_22 ?_
    refine own_iN X0 hx hby d8_23 ?_
    refine own_cy (pc := 24) X0 hx hby d8_24 (flt hc8).2.2.2 31 ?_
    refine XS.bipush X0.here hx rfl (hb hby d8_31) ?_
    refine own_iN X0 hx hby d8_33 ?_
    refine XS.imul X0.here hx rfl (hb hby d8_34) rfl ?_
    show own_S p e below s₁ (mkF m 35 #[iv (-qa), iv (0 : Int32), iv (-1000 : Int32), iv (3 : Int32)] [(.int ((10 : Int32) * (-1000 : Int32)))]) _
    rw [(by decide : ((10 : Int32) * (-1000 : Int32)) = (-10000 : Int32))]
    refine XS.istoreN X0.here hx rfl (hb hby d8_35) rfl (l' := #[iv (-qa), iv (0 : Int32), iv (-10000 : Int32), iv (3 : Int32)]) rfl ?_
    refine XS.iinc X0.here hx rfl (hb hby d8_36) rfl (l' := #[iv (-qa), iv (0 : Int32), iv (-10000 : Int32), iv (4 : Int32)]) rfl ?_
    refine own_go (pc := 39) X0 hx hby d8_39 16 ?_
    refine own_iN X0 hx hby d8_16 ?_
    refine XS.bipush X0.here hx rfl (hb hby d8_17) ?_
    refine own_cn X0 hx hby d8_19 (tlt (by decide : (4 : Int32) < (10 : Int32))).2.1 ?_
    refine own_iN X0 hx hby d8_22 ?_
    refine own_iN X0 hx hby d8_23 ?_
    refine own_cy (pc := 24) X0 hx hby d8_24 (flt hc10).2.2.2 31 ?_
    refine XS.bipush X0.here hx rfl (hb hby d8_31) ?_
    refine own_iN X0 hx hby d8_33 ?_
    refine XS.imul X0.here hx rfl (hb hby d8_34) rfl ?_
    show own_S p e below s₁ (mkF m 35 #[iv (-qa), iv (0 : Int32), iv (-10000 : Int32), iv (4 : Int32)] [(.int ((10 : Int32) * (-10000 : Int32)))]) _
    rw [(by decide : ((10 : Int32) * (-10000 : Int32)) = (-100000 : Int32))]
    refine XS.istoreN X0.here hx rfl (hb hby d8_35) rfl (l' := #[iv (-qa), iv (0 : Int32), iv (-100000 : Int32), iv (4 : Int32)]) rfl ?_
    refine XS.iinc X0.here hx rfl (hb hby d8_36) rfl (l' := #[iv (-qa), iv (0 : Int32), iv (-100000 : Int32), iv (5 : Int32)]) rfl ?_
    refine own_go (pc := 39) X0 hx hby d8_39 16 ?_
    refine own_iN X0 hx hby d8_16 ?_
    refine XS.bipush X0.here hx rfl (hb hby d8_17) ?_
    refine own_cn X0 hx hby d8_19 (tlt (by decide : (5 : Int32) < (10 : Int32))).2.1 ?_
    refine own_iN X0 hx hby d8_22 ?_
    refine own_iN X0 hx hby d8_23 ?_
    refine own_cy (pc := 24) X0 hx hby d8_24 (flt hc12).2.2.2 31 ?_
    refine XS.bipush X0.here hx rfl (hb hby d8_31) ?_
    refine own_iN X0 hx hby d8_33 ?_
    refine XS.imul X0.here hx rfl (hb hby d8_34) rfl ?_
    show own_S p e below s₁ (mkF m 35 #[iv (-qa), iv (0 : Int32), iv (-100000 : Int32), iv (5 : Int32)] [(.int ((10 : Int32) * (-100000 : Int32)))]) _
    rw [(by decide : ((10 : Int32) * (-100000 : Int32)) = (-1000000 : Int32))]
    refine XS.istoreN X0.here hx rfl (hb hby d8_35) rfl (l' := #[iv (-qa), iv (0 : Int32), iv (-1000000 : Int32), iv (5 : Int32)]) rfl ?_
    refine XS.iinc X0.here hx rfl (hb hby d8_36) rfl (l' := #[iv (-qa), iv (0 : Int32), iv (-1000000 : Int32), iv (6 : Int32)]) rfl ?_
    refine own_go (pc := 39) X0 hx hby d8_39 16 ?_
    refine own_iN X0 hx hby d8_16 ?_
    refine XS.bipush X0.here hx rfl (hb hby d8_17) ?_
    refine own_cn X0 hx hby d8_19 (tlt (by decide : (6 : Int32) < (10 : Int32))).2.1 ?_
    refine own_iN X0 hx hby d8_22 ?_
    refine own_iN X0 hx hby d8_23 ?_
    refine own_cy (pc := 24) X0 hx hby d8_24 (flt hc14).2.2.2 31 ?_
    refine XS.bipush X0.here hx rfl (hb hby d8_31) ?_
    refine own_iN X0 hx hby d8_33 ?_
    refine XS.imul X0.here hx rfl (hb hby d8_34) rfl ?_
    show own_S p e below s₁ (mkF m 35 #[iv (-qa), iv (0 : Int32), iv (-1000000 : Int32), iv (6 : Int32)] [(.int ((10 : Int32) * (-1000000 : Int32)))]) _
    rw [(by decide : ((10 : Int32) * (-1000000 : Int32)) = (-10000000 : Int32))]
    refine XS.istoreN X0.here hx rfl (hb hby d8_35) rfl (l' := #[iv (-qa), iv (0 : Int32), iv (-10000000 : Int32), iv (6 : Int32)]) rfl ?_
    refine XS.iinc X0.here hx rfl (hb hby d8_36) rfl (l' := #[iv (-qa), iv (0 : Int32), iv (-10000000 : Int32), iv (7 : Int32)]) rfl ?_
    refine own_go (pc := 39) X0 hx hby d8_39 16 ?_
    refine own_iN X0 hx hby d8_16 ?_
    refine XS.bipush X0.here hx rfl (hb hby d8_17) ?_
    refine own_cn X0 hx hby d8_19 (tlt (by decide : (7 : Int32) < (10 : Int32))).2.1 ?_
    refine own_iN X0 hx hby d8_22 ?_
    refine own_iN X0 hx hby d8_23 ?_
    refine own_cy (pc := 24) X0 hx hby d8_24 (flt hc16).2.2.2 31 ?_
    refine XS.bipush X0.here hx rfl (hb hby d8_31) ?_
    refine own_iN X0 hx hby d8_33 ?_
    refine XS.imul X0.here hx rfl (hb hby d8_34) rfl ?_
    show own_S p e below s₁ (mkF m 35 #[iv (-qa), iv (0 : Int32), iv (-10000000 : Int32), iv (7 : Int32)] [(.int ((10 : Int32) * (-10000000 : Int32)))]) _
    rw [(by decide : ((10 : Int32) * (-10000000 : Int32)) = (-100000000 : Int32))]
    refine XS.istoreN X0.here hx rfl (hb hby d8_35) rfl (l' := #[iv (-qa), iv (0 : Int32), iv (-100000000 : Int32), iv (7 : Int32)]) rfl ?_
    refine XS.iinc X0.here hx rfl (hb hby d8_36) rfl (l' := #[iv (-qa), iv (0 : Int32), iv (-100000000 : Int32), iv (8 : Int32)]) rfl ?_
    refine own_go (pc := 39) X0 hx hby d8_39 16 ?_
    refine own_iN X0 hx hby d8_16 ?_
    refine XS.bipush X0.here hx rfl (hb hby d8_17) ?_
    refine own_cn X0 hx hby d8_19 (tlt (by decide : (8 : Int32) < (10 : Int32))).2.1 ?_
    refine own_iN X0 hx hby d8_22 ?_
    refine own_iN X0 hx hby d8_23 ?_
    refine own_cy (pc := 24) X0 hx hby d8_24 (flt hc18).2.2.2 31 ?_
    refine XS.bipush X0.here hx rfl (hb hby d8_31) ?_
    refine own_iN X0 hx hby d8_33 ?_
    refine XS.imul X0.here hx rfl (hb hby d8_34) rfl ?_
    show own_S p e below s₁ (mkF m 35 #[iv (-qa), iv (0 : Int32), iv (-100000000 : Int32), iv (8 : Int32)] [(.int ((10 : Int32) * (-100000000 : Int32)))]) _
    rw [(by decide : ((10 : Int32) * (-100000000 : Int32)) = (-1000000000 : Int32))]
    refine XS.istoreN X0.here hx rfl (hb hby d8_35) rfl (l' := #[iv (-qa), iv (0 : Int32), iv (-1000000000 : Int32), iv (8 : Int32)]) rfl ?_
    refine XS.iinc X0.here hx rfl (hb hby d8_36) rfl (l' := #[iv (-qa), iv (0 : Int32), iv (-1000000000 : Int32), iv (9 : Int32)]) rfl ?_
    refine own_go (pc := 39) X0 hx hby d8_39 16 ?_
    refine own_iN X0 hx hby d8_16 ?_
    refine XS.bipush X0.here hx rfl (hb hby d8_17) ?_
    refine own_cn X0 hx hby d8_19 (tlt (by decide : (9 : Int32) < (10 : Int32))).2.1 ?_
    refine own_iN X0 hx hby d8_22 ?_
    refine own_iN X0 hx hby d8_23 ?_
    refine own_cy (pc := 24) X0 hx hby d8_24 (flt hc20).2.2.2 31 ?_
    refine XS.bipush X0.here hx rfl (hb hby d8_31) ?_
    refine own_iN X0 hx hby d8_33 ?_
    refine XS.imul X0.here hx rfl (hb hby d8_34) rfl ?_
    show own_S p e below s₁ (mkF m 35 #[iv (-qa), iv (0 : Int32), iv (-1000000000 : Int32), iv (9 : Int32)] [(.int ((10 : Int32) * (-1000000000 : Int32)))]) _
    rw [(by decide : ((10 : Int32) * (-1000000000 : Int32)) = (-1410065408 : Int32))]
    refine XS.istoreN X0.here hx rfl (hb hby d8_35) rfl (l' := #[iv (-qa), iv (0 : Int32), iv (-1410065408 : Int32), iv (9 : Int32)]) rfl ?_
    refine XS.iinc X0.here hx rfl (hb hby d8_36) rfl (l' := #[iv (-qa), iv (0 : Int32), iv (-1410065408 : Int32), iv (10 : Int32)]) rfl ?_
    refine own_go (pc := 39) X0 hx hby d8_39 16 ?_
    refine own_iN X0 hx hby d8_16 ?_
    refine XS.bipush X0.here hx rfl (hb hby d8_17) ?_
    refine own_cy (pc := 19) X0 hx hby d8_19 (flt (Int32.lt_irrefl : ¬ ((10 : Int32) < (10 : Int32)))).2.1 42 ?_
    refine XS.bipush X0.here hx rfl (hb hby d8_42) ?_
    refine own_iN X0 hx hby d8_44 ?_
    refine XS.iadd X0.here hx rfl (hb hby d8_45) rfl ?_
    show own_S p e below s₁ (mkF m 46 #[iv (-qa), iv (0 : Int32), iv (-1410065408 : Int32), iv (10 : Int32)] [(.int ((10 : Int32) + (0 : Int32)))]) _
    rw [(by decide : ((10 : Int32) + (0 : Int32)) = (10 : Int32))]
    exact retI X0 hx hret (hb hby d8_46) hr
  · show Qrm20 Z qa h0 _ s₁.heap _
    rw [e0]
    exact ⟨rfl, N0, rfl⟩
theorem own_ssJ (l : Launch) (Z : State) (a0 : Array Value) (hw : own_HW Z a0) (ws : List Jvm.Cond) (qa : Int32) (kk : Nat) (h0 : Heap) (Z0 : Ext Z.heap h0) (hc21 : own_nd qa kk) :
    own_met l y_0 jdk_33_method_13_code 4 (some .int) ws ({ frames := 0, cells := 0, slots := 0, locals := 0 } : Room) Z #[(.int qa)] h0 (own_qp Z (some (.int (Int32.ofNat kk))) h0) := by
  rcases hc21 with ⟨rfl, h1, h2⟩ | ⟨rfl, h1, h2⟩ | ⟨rfl, h1, h2⟩ | ⟨rfl, h1, h2⟩ | ⟨rfl, h1, h2⟩ | ⟨rfl, h1, h2⟩ | ⟨rfl, h1, h2⟩ | ⟨rfl, h1, h2⟩ | ⟨rfl, h1, h2⟩ | ⟨rfl, h1, h2⟩
  · exact own_mono (rm11 l Z a0 hw ws qa h0 Z0 (own_nlt rfl (by decide : (0 : Int32).toInt = 0) (by omega)) (own_lt (by decide : (-10 : Int32).toInt = -10) (own_neg (by omega)) (by omega))) fun v h L q => q
  · exact own_mono (rm12 l Z a0 hw ws qa h0 Z0 (own_nlt rfl (by decide : (0 : Int32).toInt = 0) (by omega)) (own_nlt (by decide : (-10 : Int32).toInt = -10) (own_neg (by omega)) (by omega)) (own_lt (by decide : (-100 : Int32).toInt = -100) (own_neg (by omega)) (by omega))) fun v h L q => q
  · exact own_mono (rm13 l Z a0 hw ws qa h0 Z0 (own_nlt rfl (by decide : (0 : Int32).toInt = 0) (by omega)) (own_nlt (by decide : (-10 : Int32).toInt = -10) (own_neg (by omega)) (by omega)) (own_nlt (by decide : (-100 : Int32).toInt = -100) (own_neg (by omega)) (by omega)) (own_lt (by decide : (-1000 : Int32).toInt = -1000) (own_neg (by omega)) (by omega))) fun v h L q => q
  · exact own_mono (rm14 l Z a0 hw ws qa h0 Z0 (own_nlt rfl (by decide : (0 : Int32).toInt = 0) (by omega)) (own_nlt (by decide : (-10 : Int32).toInt = -10) (own_neg (by omega)) (by omega)) (own_nlt (by decide : (-100 : Int32).toInt = -100) (own_neg (by omega)) (by omega)) (own_nlt (by decide : (-1000 : Int32).toInt = -1000) (own_neg (by omega)) (by omega)) (own_lt (by decide : (-10000 : Int32).toInt = -10000) (own_neg (by omega)) (by omega))) fun v h L q => q
  · exact own_mono (rm15 l Z a0 hw ws qa h0 Z0 (own_nlt rfl (by decide : (0 : Int32).toInt = 0) (by omega)) (own_nlt (by decide : (-10 : Int32).toInt = -10) (own_neg (by omega)) (by omega)) (own_nlt (by decide : (-100 : Int32).toInt = -100) (own_neg (by omega)) (by omega)) (own_nlt (by decide : (-1000 : Int32).toInt = -1000) (own_neg (by omega)) (by omega)) (own_nlt (by decide : (-10000 : Int32).toInt = -10000) (own_neg (by omega)) (by omega)) (own_lt (by decide : (-100000 : Int32).toInt = -100000) (own_neg (by omega)) (by omega))) fun v h L q => q
  · exact own_mono (rm16 l Z a0 hw ws qa h0 Z0 (own_nlt rfl (by decide : (0 : Int32).toInt = 0) (by omega)) (own_nlt (by decide : (-10 : Int32).toInt = -10) (own_neg (by omega)) (by omega)) (own_nlt (by decide : (-100 : Int32).toInt = -100) (own_neg (by omega)) (by omega)) (own_nlt (by decide : (-1000 : Int32).toInt = -1000) (own_neg (by omega)) (by omega)) (own_nlt (by decide : (-10000 : Int32).toInt = -10000) (own_neg (by omega)) (by omega)) (own_nlt (by decide : (-100000 : Int32).toInt = -100000) (own_neg (by omega)) (by omega)) (own_lt (by decide : (-1000000 : Int32).toInt = -1000000) (own_neg (by omega)) (by omega))) fun v h L q => q
  · exact own_mono (rm17 l Z a0 hw ws qa h0 Z0 (own_nlt rfl (by decide : (0 : Int32).toInt = 0) (by omega)) (own_nlt (by decide : (-10 : Int32).toInt = -10) (own_neg (by omega)) (by omega)) (own_nlt (by decide : (-100 : Int32).toInt = -100) (own_neg (by omega)) (by omega)) (own_nlt (by decide : (-1000 : Int32).toInt = -1000) (own_neg (by omega)) (by omega)) (own_nlt (by decide : (-10000 : Int32).toInt = -10000) (own_neg (by omega)) (by omega)) (own_nlt (by decide : (-100000 : Int32).toInt = -100000) (own_neg (by omega)) (by omega)) (own_nlt (by decide : (-1000000 : Int32).toInt = -1000000) (own_neg (by omega)) (by omega)) (own_lt (by decide : (-10000000 : Int32).toInt = -10000000) (own_neg (by omega)) (by omega))) fun v h L q => q
  · exact own_mono (rm18 l Z a0 hw ws qa h0 Z0 (own_nlt rfl (by decide : (0 : Int32).toInt = 0) (by omega)) (own_nlt (by decide : (-10 : Int32).toInt = -10) (own_neg (by omega)) (by omega)) (own_nlt (by decide : (-100 : Int32).toInt = -100) (own_neg (by omega)) (by omega)) (own_nlt (by decide : (-1000 : Int32).toInt = -1000) (own_neg (by omega)) (by omega)) (own_nlt (by decide : (-10000 : Int32).toInt = -10000) (own_neg (by omega)) (by omega)) (own_nlt (by decide : (-100000 : Int32).toInt = -100000) (own_neg (by omega)) (by omega)) (own_nlt (by decide : (-1000000 : Int32).toInt = -1000000) (own_neg (by omega)) (by omega)) (own_nlt (by decide : (-10000000 : Int32).toInt = -10000000) (own_neg (by omega)) (by omega)) (own_lt (by decide : (-100000000 : Int32).toInt = -100000000) (own_neg (by omega)) (by omega))) fun v h L q => q
  · exact own_mono (rm19 l Z a0 hw ws qa h0 Z0 (own_nlt rfl (by decide : (0 : Int32).toInt = 0) (by omega)) (own_nlt (by decide : (-10 : Int32).toInt = -10) (own_neg (by omega)) (by omega)) (own_nlt (by decide : (-100 : Int32).toInt = -100) (own_neg (by omega)) (by omega)) (own_nlt (by decide : (-1000 : Int32).toInt = -1000) (own_neg (by omega)) (by omega)) (own_nlt (by decide : (-10000 : Int32).toInt = -10000) (own_neg (by omega)) (by omega)) (own_nlt (by decide : (-100000 : Int32).toInt = -100000) (own_neg (by omega)) (by omega)) (own_nlt (by decide : (-1000000 : Int32).toInt = -1000000) (own_neg (by omega)) (by omega)) (own_nlt (by decide : (-10000000 : Int32).toInt = -10000000) (own_neg (by omega)) (by omega)) (own_nlt (by decide : (-100000000 : Int32).toInt = -100000000) (own_neg (by omega)) (by omega)) (own_lt (by decide : (-1000000000 : Int32).toInt = -1000000000) (own_neg (by omega)) (by omega))) fun v h L q => q
  · exact own_mono (rm20 l Z a0 hw ws qa h0 Z0 (own_nlt rfl (by decide : (0 : Int32).toInt = 0) (by omega)) (own_nlt (by decide : (-10 : Int32).toInt = -10) (own_neg (by omega)) (by omega)) (own_nlt (by decide : (-100 : Int32).toInt = -100) (own_neg (by omega)) (by omega)) (own_nlt (by decide : (-1000 : Int32).toInt = -1000) (own_neg (by omega)) (by omega)) (own_nlt (by decide : (-10000 : Int32).toInt = -10000) (own_neg (by omega)) (by omega)) (own_nlt (by decide : (-100000 : Int32).toInt = -100000) (own_neg (by omega)) (by omega)) (own_nlt (by decide : (-1000000 : Int32).toInt = -1000000) (own_neg (by omega)) (by omega)) (own_nlt (by decide : (-10000000 : Int32).toInt = -10000000) (own_neg (by omega)) (by omega)) (own_nlt (by decide : (-100000000 : Int32).toInt = -100000000) (own_neg (by omega)) (by omega)) (own_nlt (by decide : (-1000000000 : Int32).toInt = -1000000000) (own_neg (by omega)) (by omega))) fun v h L q => q
def Qrm31 (Z : State) (qa : Int32) (h0 : Heap) (v : Option Value) (h : Heap) (L : List Loc) : Prop := v = some (.int (1 : Int32)) ∧ Fr Z.heap.size L ∧ h = h0
theorem rm31 (l : Launch) (Z : State) (a0 : Array Value) (hw : own_HW Z a0) (ws : List Jvm.Cond) (qa : Int32) (h0 : Heap) (Z0 : Ext Z.heap h0) (hc22 : qa < (10 : Int32)) :
    own_met l y_1 method_2_code 1 (some .int) ws ({ frames := 0, cells := 0, slots := 0, locals := 0 } : Room) Z #[(.int qa)] h0 (Qrm31 Z qa h0) := by
  refine own_start (plainFor_of_name pn_1) (fun m => ef_method_2_I m qa) ?_
  intro p e s m below meth c s₁ hx hby hml hown hnm X0 hZ e0 hret hlk
  have N0 := Fr.nil Z.heap.size
  obtain ⟨fs, hr, hrun, hended, hW, hsame⟩ := X0.leave (v := some (.int (1 : Int32))) (fun h => by rw [hret] at h; cases h) hlk
  refine ⟨_, _, ?_, hrun, hended, _, _, rfl, ?_, ⟨_, rfl⟩, hW, hsame.mono (by decide) (by decide)⟩
  · show own_S p e below s₁ (mkF m 0 #[iv qa] []) _
    refine own_iN X0 hx hby d29_0 ?_
    refine XS.bipush X0.here hx rfl (hb hby d29_1) ?_
    refine own_cn X0 hx hby d29_3 (tlt hc22).2.1 ?_
    refine own_k X0 hx hby d29_6 ?_
    exact retI X0 hx hret (hb hby d29_7) hr
  · show Qrm31 Z qa h0 _ s₁.heap _
    rw [e0]
    exact ⟨rfl, N0, rfl⟩
def Qrm32 (Z : State) (qa : Int32) (h0 : Heap) (v : Option Value) (h : Heap) (L : List Loc) : Prop := v = some (.int (2 : Int32)) ∧ Fr Z.heap.size L ∧ h = h0
theorem rm32 (l : Launch) (Z : State) (a0 : Array Value) (hw : own_HW Z a0) (ws : List Jvm.Cond) (qa : Int32) (h0 : Heap) (Z0 : Ext Z.heap h0) (hc23 : ¬ (qa < (10 : Int32))) (hc24 : qa < (100 : Int32)) :
    own_met l y_1 method_2_code 1 (some .int) ws ({ frames := 0, cells := 0, slots := 0, locals := 0 } : Room) Z #[(.int qa)] h0 (Qrm32 Z qa h0) := by
  refine own_start (plainFor_of_name pn_1) (fun m => ef_method_2_I m qa) ?_
  intro p e s m below meth c s₁ hx hby hml hown hnm X0 hZ e0 hret hlk
  have N0 := Fr.nil Z.heap.size
  obtain ⟨fs, hr, hrun, hended, hW, hsame⟩ := X0.leave (v := some (.int (2 : Int32))) (fun h => by rw [hret] at h; cases h) hlk
  refine ⟨_, _, ?_, hrun, hended, _, _, rfl, ?_, ⟨_, rfl⟩, hW, hsame.mono (by decide) (by decide)⟩
  · show own_S p e below s₁ (mkF m 0 #[iv qa] []) _
    refine own_iN X0 hx hby d29_0 ?_
    refine XS.bipush X0.here hx rfl (hb hby d29_1) ?_
    refine own_cy (pc := 3) X0 hx hby d29_3 (flt hc23).2.1 8 ?_
    refine own_iN X0 hx hby d29_8 ?_
    refine XS.bipush X0.here hx rfl (hb hby d29_9) ?_
    refine own_cn X0 hx hby d29_11 (tlt hc24).2.1 ?_
    refine own_k X0 hx hby d29_14 ?_
    exact retI X0 hx hret (hb hby d29_15) hr
  · show Qrm32 Z qa h0 _ s₁.heap _
    rw [e0]
    exact ⟨rfl, N0, rfl⟩
def Qrm33 (Z : State) (qa : Int32) (h0 : Heap) (v : Option Value) (h : Heap) (L : List Loc) : Prop := v = some (.int (3 : Int32)) ∧ Fr Z.heap.size L ∧ h = h0
theorem rm33 (l : Launch) (Z : State) (a0 : Array Value) (hw : own_HW Z a0) (ws : List Jvm.Cond) (qa : Int32) (h0 : Heap) (Z0 : Ext Z.heap h0) (hc23 : ¬ (qa < (10 : Int32))) (hc25 : ¬ (qa < (100 : Int32))) (hc26 : qa < (1000 : Int32)) :
    own_met l y_1 method_2_code 1 (some .int) ws ({ frames := 0, cells := 0, slots := 0, locals := 0 } : Room) Z #[(.int qa)] h0 (Qrm33 Z qa h0) := by
  refine own_start (plainFor_of_name pn_1) (fun m => ef_method_2_I m qa) ?_
  intro p e s m below meth c s₁ hx hby hml hown hnm X0 hZ e0 hret hlk
  have N0 := Fr.nil Z.heap.size
  obtain ⟨fs, hr, hrun, hended, hW, hsame⟩ := X0.leave (v := some (.int (3 : Int32))) (fun h => by rw [hret] at h; cases h) hlk
  refine ⟨_, _, ?_, hrun, hended, _, _, rfl, ?_, ⟨_, rfl⟩, hW, hsame.mono (by decide) (by decide)⟩
  · show own_S p e below s₁ (mkF m 0 #[iv qa] []) _
    refine own_iN X0 hx hby d29_0 ?_
    refine XS.bipush X0.here hx rfl (hb hby d29_1) ?_
    refine own_cy (pc := 3) X0 hx hby d29_3 (flt hc23).2.1 8 ?_
    refine own_iN X0 hx hby d29_8 ?_
    refine XS.bipush X0.here hx rfl (hb hby d29_9) ?_
    refine own_cy (pc := 11) X0 hx hby d29_11 (flt hc25).2.1 16 ?_
    refine own_iN X0 hx hby d29_16 ?_
    refine XS.sipush X0.here hx rfl (hb hby d29_17) ?_
    refine own_cn X0 hx hby d29_20 (tlt hc26).2.1 ?_
    refine own_k X0 hx hby d29_23 ?_
    exact retI X0 hx hret (hb hby d29_24) hr
  · show Qrm33 Z qa h0 _ s₁.heap _
    rw [e0]
    exact ⟨rfl, N0, rfl⟩
def Qrm34 (Z : State) (qa : Int32) (h0 : Heap) (v : Option Value) (h : Heap) (L : List Loc) : Prop := v = some (.int (4 : Int32)) ∧ Fr Z.heap.size L ∧ h = h0
theorem rm34 (l : Launch) (Z : State) (a0 : Array Value) (hw : own_HW Z a0) (ws : List Jvm.Cond) (qa : Int32) (h0 : Heap) (Z0 : Ext Z.heap h0) (hc23 : ¬ (qa < (10 : Int32))) (hc25 : ¬ (qa < (100 : Int32))) (hc27 : ¬ (qa < (1000 : Int32))) (hc28 : qa < (10000 : Int32)) :
    own_met l y_1 method_2_code 1 (some .int) ws ({ frames := 0, cells := 0, slots := 0, locals := 0 } : Room) Z #[(.int qa)] h0 (Qrm34 Z qa h0) := by
  refine own_start (plainFor_of_name pn_1) (fun m => ef_method_2_I m qa) ?_
  intro p e s m below meth c s₁ hx hby hml hown hnm X0 hZ e0 hret hlk
  have N0 := Fr.nil Z.heap.size
  obtain ⟨fs, hr, hrun, hended, hW, hsame⟩ := X0.leave (v := some (.int (4 : Int32))) (fun h => by rw [hret] at h; cases h) hlk
  refine ⟨_, _, ?_, hrun, hended, _, _, rfl, ?_, ⟨_, rfl⟩, hW, hsame.mono (by decide) (by decide)⟩
  · show own_S p e below s₁ (mkF m 0 #[iv qa] []) _
    refine own_iN X0 hx hby d29_0 ?_
    refine XS.bipush X0.here hx rfl (hb hby d29_1) ?_
    refine own_cy (pc := 3) X0 hx hby d29_3 (flt hc23).2.1 8 ?_
    refine own_iN X0 hx hby d29_8 ?_
    refine XS.bipush X0.here hx rfl (hb hby d29_9) ?_
    refine own_cy (pc := 11) X0 hx hby d29_11 (flt hc25).2.1 16 ?_
    refine own_iN X0 hx hby d29_16 ?_
    refine XS.sipush X0.here hx rfl (hb hby d29_17) ?_
    refine own_cy (pc := 20) X0 hx hby d29_20 (flt hc27).2.1 25 ?_
    refine own_iN X0 hx hby d29_25 ?_
    refine XS.sipush X0.here hx rfl (hb hby d29_26) ?_
    refine own_cn X0 hx hby d29_29 (tlt hc28).2.1 ?_
    refine own_k X0 hx hby d29_32 ?_
    exact retI X0 hx hret (hb hby d29_33) hr
  · show Qrm34 Z qa h0 _ s₁.heap _
    rw [e0]
    exact ⟨rfl, N0, rfl⟩
def Qrm35 (Z : State) (qa : Int32) (h0 : Heap) (v : Option Value) (h : Heap) (L : List Loc) : Prop := v = some (.int (5 : Int32)) ∧ Fr Z.heap.size L ∧ h = h0
theorem rm35 (l : Launch) (Z : State) (a0 : Array Value) (hw : own_HW Z a0) (ws : List Jvm.Cond) (qa : Int32) (h0 : Heap) (Z0 : Ext Z.heap h0) (hc23 : ¬ (qa < (10 : Int32))) (hc25 : ¬ (qa < (100 : Int32))) (hc27 : ¬ (qa < (1000 : Int32))) (hc29 : ¬ (qa < (10000 : Int32))) (hc30 : qa < (100000 : Int32)) :
    own_met l y_1 method_2_code 1 (some .int) ws ({ frames := 0, cells := 0, slots := 0, locals := 0 } : Room) Z #[(.int qa)] h0 (Qrm35 Z qa h0) := by
  refine own_start (plainFor_of_name pn_1) (fun m => ef_method_2_I m qa) ?_
  intro p e s m below meth c s₁ hx hby hml hown hnm X0 hZ e0 hret hlk
  have N0 := Fr.nil Z.heap.size
  obtain ⟨fs, hr, hrun, hended, hW, hsame⟩ := X0.leave (v := some (.int (5 : Int32))) (fun h => by rw [hret] at h; cases h) hlk
  refine ⟨_, _, ?_, hrun, hended, _, _, rfl, ?_, ⟨_, rfl⟩, hW, hsame.mono (by decide) (by decide)⟩
  · show own_S p e below s₁ (mkF m 0 #[iv qa] []) _
    refine own_iN X0 hx hby d29_0 ?_
    refine XS.bipush X0.here hx rfl (hb hby d29_1) ?_
    refine own_cy (pc := 3) X0 hx hby d29_3 (flt hc23).2.1 8 ?_
    refine own_iN X0 hx hby d29_8 ?_
    refine XS.bipush X0.here hx rfl (hb hby d29_9) ?_
    refine own_cy (pc := 11) X0 hx hby d29_11 (flt hc25).2.1 16 ?_
    refine own_iN X0 hx hby d29_16 ?_
    refine XS.sipush X0.here hx rfl (hb hby d29_17) ?_
    refine own_cy (pc := 20) X0 hx hby d29_20 (flt hc27).2.1 25 ?_
    refine own_iN X0 hx hby d29_25 ?_
    refine XS.sipush X0.here hx rfl (hb hby d29_26) ?_
    refine own_cy (pc := 29) X0 hx hby d29_29 (flt hc29).2.1 34 ?_
    refine own_iN X0 hx hby d29_34 ?_
    refine X0.ldcInt hx hown (mvT hZ (own_w hw 196 rfl)) (g := (mkF m 35 #[iv qa] [(.int qa)])) rfl (hb hby d29_35) _ ?_
    refine own_cn X0 hx hby d29_37 (tlt hc30).2.1 ?_
    refine own_k X0 hx hby d29_40 ?_
    exact retI X0 hx hret (hb hby d29_41) hr
  · show Qrm35 Z qa h0 _ s₁.heap _
    rw [e0]
    exact ⟨rfl, N0, rfl⟩
def Qrm36 (Z : State) (qa : Int32) (h0 : Heap) (v : Option Value) (h : Heap) (L : List Loc) : Prop := v = some (.int (6 : Int32)) ∧ Fr Z.heap.size L ∧ h = h0
theorem rm36 (l : Launch) (Z : State) (a0 : Array Value) (hw : own_HW Z a0) (ws : List Jvm.Cond) (qa : Int32) (h0 : Heap) (Z0 : Ext Z.heap h0) (hc23 : ¬ (qa < (10 : Int32))) (hc25 : ¬ (qa < (100 : Int32))) (hc27 : ¬ (qa < (1000 : Int32))) (hc29 : ¬ (qa < (10000 : Int32))) (hc31 : ¬ (qa < (100000 : Int32))) (hc32 : qa < (1000000 : Int32)) :
    own_met l y_1 method_2_code 1 (some .int) ws ({ frames := 0, cells := 0, slots := 0, locals := 0 } : Room) Z #[(.int qa)] h0 (Qrm36 Z qa h0) := by
  refine own_start (plainFor_of_name pn_1) (fun m => ef_method_2_I m qa) ?_
  intro p e s m below meth c s₁ hx hby hml hown hnm X0 hZ e0 hret hlk
  have N0 := Fr.nil Z.heap.size
  obtain ⟨fs, hr, hrun, hended, hW, hsame⟩ := X0.leave (v := some (.int (6 : Int32))) (fun h => by rw [hret] at h; cases h) hlk
  refine ⟨_, _, ?_, hrun, hended, _, _, rfl, ?_, ⟨_, rfl⟩, hW, hsame.mono (by decide) (by decide)⟩
  · show own_S p e below s₁ (mkF m 0 #[iv qa] []) _
    refine own_iN X0 hx hby d29_0 ?_
    refine XS.bipush X0.here hx rfl (hb hby d29_1) ?_
    refine own_cy (pc := 3) X0 hx hby d29_3 (flt hc23).2.1 8 ?_
    refine own_iN X0 hx hby d29_8 ?_
    refine XS.bipush X0.here hx rfl (hb hby d29_9) ?_
    refine own_cy (pc := 11) X0 hx hby d29_11 (flt hc25).2.1 16 ?_
    refine own_iN X0 hx hby d29_16 ?_
    refine XS.sipush X0.here hx rfl (hb hby d29_17) ?_
    refine own_cy (pc := 20) X0 hx hby d29_20 (flt hc27).2.1 25 ?_
    refine own_iN X0 hx hby d29_25 ?_
    refine XS.sipush X0.here hx rfl (hb hby d29_26) ?_
    refine own_cy (pc := 29) X0 hx hby d29_29 (flt hc29).2.1 34 ?_
    refine own_iN X0 hx hby d29_34 ?_
    refine X0.ldcInt hx hown (mvT hZ (own_w hw 196 rfl)) (g := (mkF m 35 #[iv qa] [(.int qa)])) rfl (hb hby d29_35) _ ?_
    refine own_cy (pc := 37) X0 hx hby d29_37 (flt hc31).2.1 42 ?_
    refine own_iN X0 hx hby d29_42 ?_
    refine X0.ldcInt hx hown (mvT hZ (own_w hw 197 rfl)) (g := (mkF m 43 #[iv qa] [(.int qa)])) rfl (hb hby d29_43) _ ?_
    refine own_cn X0 hx hby d29_45 (tlt hc32).2.1 ?_
    refine XS.bipush X0.here hx rfl (hb hby d29_48) ?_
    exact retI X0 hx hret (hb hby d29_50) hr
  · show Qrm36 Z qa h0 _ s₁.heap _
    rw [e0]
    exact ⟨rfl, N0, rfl⟩
def Qrm37 (Z : State) (qa : Int32) (h0 : Heap) (v : Option Value) (h : Heap) (L : List Loc) : Prop := v = some (.int (7 : Int32)) ∧ Fr Z.heap.size L ∧ h = h0
theorem rm37 (l : Launch) (Z : State) (a0 : Array Value) (hw : own_HW Z a0) (ws : List Jvm.Cond) (qa : Int32) (h0 : Heap) (Z0 : Ext Z.heap h0) (hc23 : ¬ (qa < (10 : Int32))) (hc25 : ¬ (qa < (100 : Int32))) (hc27 : ¬ (qa < (1000 : Int32))) (hc29 : ¬ (qa < (10000 : Int32))) (hc31 : ¬ (qa < (100000 : Int32))) (hc33 : ¬ (qa < (1000000 : Int32))) (hc34 : qa < (10000000 : Int32)) :
    own_met l y_1 method_2_code 1 (some .int) ws ({ frames := 0, cells := 0, slots := 0, locals := 0 } : Room) Z #[(.int qa)] h0 (Qrm37 Z qa h0) := by
  refine own_start (plainFor_of_name pn_1) (fun m => ef_method_2_I m qa) ?_
  intro p e s m below meth c s₁ hx hby hml hown hnm X0 hZ e0 hret hlk
  have N0 := Fr.nil Z.heap.size
  obtain ⟨fs, hr, hrun, hended, hW, hsame⟩ := X0.leave (v := some (.int (7 : Int32))) (fun h => by rw [hret] at h; cases h) hlk
  refine ⟨_, _, ?_, hrun, hended, _, _, rfl, ?_, ⟨_, rfl⟩, hW, hsame.mono (by decide) (by decide)⟩
  · show own_S p e below s₁ (mkF m 0 #[iv qa] []) _
    refine own_iN X0 hx hby d29_0 ?_
    refine XS.bipush X0.here hx rfl (hb hby d29_1) ?_
    refine own_cy (pc := 3) X0 hx hby d29_3 (flt hc23).2.1 8 ?_
    refine own_iN X0 hx hby d29_8 ?_
    refine XS.bipush X0.here hx rfl (hb hby d29_9) ?_
    refine own_cy (pc := 11) X0 hx hby d29_11 (flt hc25).2.1 16 ?_
    refine own_iN X0 hx hby d29_16 ?_
    refine XS.sipush X0.here hx rfl (hb hby d29_17) ?_
    refine own_cy (pc := 20) X0 hx hby d29_20 (flt hc27).2.1 25 ?_
    refine own_iN X0 hx hby d29_25 ?_
    refine XS.sipush X0.here hx rfl (hb hby d29_26) ?_
    refine own_cy (pc := 29) X0 hx hby d29_29 (flt hc29).2.1 34 ?_
    refine own_iN X0 hx hby d29_34 ?_
    refine X0.ldcInt hx hown (mvT hZ (own_w hw 196 rfl)) (g := (mkF m 35 #[iv qa] [(.int qa)])) rfl (hb hby d29_35) _ ?_
    refine own_cy (pc := 37) X0 hx hby d29_37 (flt hc31).2.1 42 ?_
    refine own_iN X0 hx hby d29_42 ?_
    refine X0.ldcInt hx hown (mvT hZ (own_w hw 197 rfl)) (g := (mkF m 43 #[iv qa] [(.int qa)])) rfl (hb hby d29_43) _ ?_
    refine own_cy (pc := 45) X0 hx hby d29_45 (flt hc33).2.1 51 ?_
    refine own_iN X0 hx hby d29_51 ?_
    refine X0.ldcInt hx hown (mvT hZ (own_w hw 198 rfl)) (g := (mkF m 52 #[iv qa] [(.int qa)])) rfl (hb hby d29_52) _ ?_
    refine own_cn X0 hx hby d29_54 (tlt hc34).2.1 ?_
    refine XS.bipush X0.here hx rfl (hb hby d29_57) ?_
    exact retI X0 hx hret (hb hby d29_59) hr
  · show Qrm37 Z qa h0 _ s₁.heap _
    rw [e0]
    exact ⟨rfl, N0, rfl⟩
def Qrm38 (Z : State) (qa : Int32) (h0 : Heap) (v : Option Value) (h : Heap) (L : List Loc) : Prop := v = some (.int (8 : Int32)) ∧ Fr Z.heap.size L ∧ h = h0
theorem rm38 (l : Launch) (Z : State) (a0 : Array Value) (hw : own_HW Z a0) (ws : List Jvm.Cond) (qa : Int32) (h0 : Heap) (Z0 : Ext Z.heap h0) (hc23 : ¬ (qa < (10 : Int32))) (hc25 : ¬ (qa < (100 : Int32))) (hc27 : ¬ (qa < (1000 : Int32))) (hc29 : ¬ (qa < (10000 : Int32))) (hc31 : ¬ (qa < (100000 : Int32))) (hc33 : ¬ (qa < (1000000 : Int32))) (hc35 : ¬ (qa < (10000000 : Int32))) (hc36 : qa < (100000000 : Int32)) :
    own_met l y_1 method_2_code 1 (some .int) ws ({ frames := 0, cells := 0, slots := 0, locals := 0 } : Room) Z #[(.int qa)] h0 (Qrm38 Z qa h0) := by
  refine own_start (plainFor_of_name pn_1) (fun m => ef_method_2_I m qa) ?_
  intro p e s m below meth c s₁ hx hby hml hown hnm X0 hZ e0 hret hlk
  have N0 := Fr.nil Z.heap.size
  obtain ⟨fs, hr, hrun, hended, hW, hsame⟩ := X0.leave (v := some (.int (8 : Int32))) (fun h => by rw [hret] at h; cases h) hlk
  refine ⟨_, _, ?_, hrun, hended, _, _, rfl, ?_, ⟨_, rfl⟩, hW, hsame.mono (by decide) (by decide)⟩
  · show own_S p e below s₁ (mkF m 0 #[iv qa] []) _
    refine own_iN X0 hx hby d29_0 ?_
    refine XS.bipush X0.here hx rfl (hb hby d29_1) ?_
    refine own_cy (pc := 3) X0 hx hby d29_3 (flt hc23).2.1 8 ?_
    refine own_iN X0 hx hby d29_8 ?_
    refine XS.bipush X0.here hx rfl (hb hby d29_9) ?_
    refine own_cy (pc := 11) X0 hx hby d29_11 (flt hc25).2.1 16 ?_
    refine own_iN X0 hx hby d29_16 ?_
    refine XS.sipush X0.here hx rfl (hb hby d29_17) ?_
    refine own_cy (pc := 20) X0 hx hby d29_20 (flt hc27).2.1 25 ?_
    refine own_iN X0 hx hby d29_25 ?_
    refine XS.sipush X0.here hx rfl (hb hby d29_26) ?_
    refine own_cy (pc := 29) X0 hx hby d29_29 (flt hc29).2.1 34 ?_
    refine own_iN X0 hx hby d29_34 ?_
    refine X0.ldcInt hx hown (mvT hZ (own_w hw 196 rfl)) (g := (mkF m 35 #[iv qa] [(.int qa)])) rfl (hb hby d29_35) _ ?_
    refine own_cy (pc := 37) X0 hx hby d29_37 (flt hc31).2.1 42 ?_
    refine own_iN X0 hx hby d29_42 ?_
    refine X0.ldcInt hx hown (mvT hZ (own_w hw 197 rfl)) (g := (mkF m 43 #[iv qa] [(.int qa)])) rfl (hb hby d29_43) _ ?_
    refine own_cy (pc := 45) X0 hx hby d29_45 (flt hc33).2.1 51 ?_
    refine own_iN X0 hx hby d29_51 ?_
    refine X0.ldcInt hx hown (mvT hZ (own_w hw 198 rfl)) (g := (mkF m 52 #[iv qa] [(.int qa)])) rfl (hb hby d29_52) _ ?_
    refine own_cy (pc := 54) X0 hx hby d29_54 (flt hc35).2.1 60 ?_
    refine own_iN X0 hx hby d29_60 ?_
    refine X0.ldcInt hx hown (mvT hZ (own_w hw 199 rfl)) (g := (mkF m 61 #[iv qa] [(.int qa)])) rfl (hb hby d29_61) _ ?_
    refine own_cn X0 hx hby d29_63 (tlt hc36).2.1 ?_
    refine XS.bipush X0.here hx rfl (hb hby d29_66) ?_
    exact retI X0 hx hret (hb hby d29_68) hr
  · show Qrm38 Z qa h0 _ s₁.heap _
    rw [e0]
    exact ⟨rfl, N0, rfl⟩
def Qrm39 (Z : State) (qa : Int32) (h0 : Heap) (v : Option Value) (h : Heap) (L : List Loc) : Prop := v = some (.int (9 : Int32)) ∧ Fr Z.heap.size L ∧ h = h0
theorem rm39 (l : Launch) (Z : State) (a0 : Array Value) (hw : own_HW Z a0) (ws : List Jvm.Cond) (qa : Int32) (h0 : Heap) (Z0 : Ext Z.heap h0) (hc23 : ¬ (qa < (10 : Int32))) (hc25 : ¬ (qa < (100 : Int32))) (hc27 : ¬ (qa < (1000 : Int32))) (hc29 : ¬ (qa < (10000 : Int32))) (hc31 : ¬ (qa < (100000 : Int32))) (hc33 : ¬ (qa < (1000000 : Int32))) (hc35 : ¬ (qa < (10000000 : Int32))) (hc37 : ¬ (qa < (100000000 : Int32))) (hc38 : qa < (1000000000 : Int32)) :
    own_met l y_1 method_2_code 1 (some .int) ws ({ frames := 0, cells := 0, slots := 0, locals := 0 } : Room) Z #[(.int qa)] h0 (Qrm39 Z qa h0) := by
  refine own_start (plainFor_of_name pn_1) (fun m => ef_method_2_I m qa) ?_
  intro p e s m below meth c s₁ hx hby hml hown hnm X0 hZ e0 hret hlk
  have N0 := Fr.nil Z.heap.size
  obtain ⟨fs, hr, hrun, hended, hW, hsame⟩ := X0.leave (v := some (.int (9 : Int32))) (fun h => by rw [hret] at h; cases h) hlk
  refine ⟨_, _, ?_, hrun, hended, _, _, rfl, ?_, ⟨_, rfl⟩, hW, hsame.mono (by decide) (by decide)⟩
  · show own_S p e below s₁ (mkF m 0 #[iv qa] []) _
    refine own_iN X0 hx hby d29_0 ?_
    refine XS.bipush X0.here hx rfl (hb hby d29_1) ?_
    refine own_cy (pc := 3) X0 hx hby d29_3 (flt hc23).2.1 8 ?_
    refine own_iN X0 hx hby d29_8 ?_
    refine XS.bipush X0.here hx rfl (hb hby d29_9) ?_
    refine own_cy (pc := 11) X0 hx hby d29_11 (flt hc25).2.1 16 ?_
    refine own_iN X0 hx hby d29_16 ?_
    refine XS.sipush X0.here hx rfl (hb hby d29_17) ?_
    refine own_cy (pc := 20) X0 hx hby d29_20 (flt hc27).2.1 25 ?_
    refine own_iN X0 hx hby d29_25 ?_
    refine XS.sipush X0.here hx rfl (hb hby d29_26) ?_
    refine own_cy (pc := 29) X0 hx hby d29_29 (flt hc29).2.1 34 ?_
    refine own_iN X0 hx hby d29_34 ?_
    refine X0.ldcInt hx hown (mvT hZ (own_w hw 196 rfl)) (g := (mkF m 35 #[iv qa] [(.int qa)])) rfl (hb hby d29_35) _ ?_
    refine own_cy (pc := 37) X0 hx hby d29_37 (flt hc31).2.1 42 ?_
    refine own_iN X0 hx hby d29_42 ?_
    refine X0.ldcInt hx hown (mvT hZ (own_w hw 197 rfl)) (g := (mkF m 43 #[iv qa] [(.int qa)])) rfl (hb hby d29_43) _ ?_
    refine own_cy (pc := 45) X0 hx hby d29_45 (flt hc33).2.1 51 ?_
    refine own_iN X0 hx hby d29_51 ?_
    refine X0.ldcInt hx hown (mvT hZ (own_w hw 198 rfl)) (g := (mkF m 52 #[iv qa] [(.int qa)])) rfl (hb hby d29_52) _ ?_
    refine own_cy (pc := 54) X0 hx hby d29_54 (flt hc35).2.1 60 ?_
    refine own_iN X0 hx hby d29_60 ?_
    refine X0.ldcInt hx hown (mvT hZ (own_w hw 199 rfl)) (g := (mkF m 61 #[iv qa] [(.int qa)])) rfl (hb hby d29_61) _ ?_
    refine own_cy (pc := 63) X0 hx hby d29_63 (flt hc37).2.1 69 ?_
    refine own_iN X0 hx hby d29_69 ?_
    refine X0.ldcInt hx hown (mvT hZ (own_w hw 200 rfl)) (g := (mkF m 70 #[iv qa] [(.int qa)])) rfl (hb hby d29_70) _ ?_
    refine own_cn X0 hx hby d29_72 (tlt hc38).2.1 ?_
    refine XS.bipush X0.here hx rfl (hb hby d29_75) ?_
    exact retI X0 hx hret (hb hby d29_77) hr
  · show Qrm39 Z qa h0 _ s₁.heap _
    rw [e0]
    exact ⟨rfl, N0, rfl⟩
def Qrm40 (Z : State) (qa : Int32) (h0 : Heap) (v : Option Value) (h : Heap) (L : List Loc) : Prop := v = some (.int (10 : Int32)) ∧ Fr Z.heap.size L ∧ h = h0
theorem rm40 (l : Launch) (Z : State) (a0 : Array Value) (hw : own_HW Z a0) (ws : List Jvm.Cond) (qa : Int32) (h0 : Heap) (Z0 : Ext Z.heap h0) (hc23 : ¬ (qa < (10 : Int32))) (hc25 : ¬ (qa < (100 : Int32))) (hc27 : ¬ (qa < (1000 : Int32))) (hc29 : ¬ (qa < (10000 : Int32))) (hc31 : ¬ (qa < (100000 : Int32))) (hc33 : ¬ (qa < (1000000 : Int32))) (hc35 : ¬ (qa < (10000000 : Int32))) (hc37 : ¬ (qa < (100000000 : Int32))) (hc39 : ¬ (qa < (1000000000 : Int32))) :
    own_met l y_1 method_2_code 1 (some .int) ws ({ frames := 0, cells := 0, slots := 0, locals := 0 } : Room) Z #[(.int qa)] h0 (Qrm40 Z qa h0) := by
  refine own_start (plainFor_of_name pn_1) (fun m => ef_method_2_I m qa) ?_
  intro p e s m below meth c s₁ hx hby hml hown hnm X0 hZ e0 hret hlk
  have N0 := Fr.nil Z.heap.size
  obtain ⟨fs, hr, hrun, hended, hW, hsame⟩ := X0.leave (v := some (.int (10 : Int32))) (fun h => by rw [hret] at h; cases h) hlk
  refine ⟨_, _, ?_, hrun, hended, _, _, rfl, ?_, ⟨_, rfl⟩, hW, hsame.mono (by decide) (by decide)⟩
  · show own_S p e below s₁ (mkF m 0 #[iv qa] []) _
    refine own_iN X0 hx hby d29_0 ?_
    refine XS.bipush X0.here hx rfl (hb hby d29_1) ?_
    refine own_cy (pc := 3) X0 hx hby d29_3 (flt hc23).2.1 8 ?_
    refine own_iN X0 hx hby d29_8 ?_
    refine XS.bipush X0.here hx rfl (hb hby d29_9) ?_
    refine own_cy (pc := 11) X0 hx hby d29_11 (flt hc25).2.1 16 ?_
    refine own_iN X0 hx hby d29_16 ?_
    refine XS.sipush X0.here hx rfl (hb hby d29_17) ?_
    refine own_cy (pc := 20) X0 hx hby d29_20 (flt hc27).2.1 25 ?_
    refine own_iN X0 hx hby d29_25 ?_
    refine XS.sipush X0.here hx rfl (hb hby d29_26) ?_
    refine own_cy (pc := 29) X0 hx hby d29_29 (flt hc29).2.1 34 ?_
    refine own_iN X0 hx hby d29_34 ?_
    refine X0.ldcInt hx hown (mvT hZ (own_w hw 196 rfl)) (g := (mkF m 35 #[iv qa] [(.int qa)])) rfl (hb hby d29_35) _ ?_
    refine own_cy (pc := 37) X0 hx hby d29_37 (flt hc31).2.1 42 ?_
    refine own_iN X0 hx hby d29_42 ?_
    refine X0.ldcInt hx hown (mvT hZ (own_w hw 197 rfl)) (g := (mkF m 43 #[iv qa] [(.int qa)])) rfl (hb hby d29_43) _ ?_
    refine own_cy (pc := 45) X0 hx hby d29_45 (flt hc33).2.1 51 ?_
    refine own_iN X0 hx hby d29_51 ?_
    refine X0.ldcInt hx hown (mvT hZ (own_w hw 198 rfl)) (g := (mkF m 52 #[iv qa] [(.int qa)])) rfl (hb hby d29_52) _ ?_
    refine own_cy (pc := 54) X0 hx hby d29_54 (flt hc35).2.1 60 ?_
    refine own_iN X0 hx hby d29_60 ?_
    refine X0.ldcInt hx hown (mvT hZ (own_w hw 199 rfl)) (g := (mkF m 61 #[iv qa] [(.int qa)])) rfl (hb hby d29_61) _ ?_
    refine own_cy (pc := 63) X0 hx hby d29_63 (flt hc37).2.1 69 ?_
    refine own_iN X0 hx hby d29_69 ?_
    refine X0.ldcInt hx hown (mvT hZ (own_w hw 200 rfl)) (g := (mkF m 70 #[iv qa] [(.int qa)])) rfl (hb hby d29_70) _ ?_
    refine own_cy (pc := 72) X0 hx hby d29_72 (flt hc39).2.1 78 ?_
    refine XS.bipush X0.here hx rfl (hb hby d29_78) ?_
    exact retI X0 hx hret (hb hby d29_80) hr
  · show Qrm40 Z qa h0 _ s₁.heap _
    rw [e0]
    exact ⟨rfl, N0, rfl⟩
theorem own_lnJ (l : Launch) (Z : State) (a0 : Array Value) (hw : own_HW Z a0) (ws : List Jvm.Cond) (qa : Int32) (kk : Nat) (h0 : Heap) (Z0 : Ext Z.heap h0) (hc21 : own_nd qa kk) :
    own_met l y_1 method_2_code 1 (some .int) ws ({ frames := 0, cells := 0, slots := 0, locals := 0 } : Room) Z #[(.int qa)] h0 (own_qp Z (some (.int (Int32.ofNat kk))) h0) := by
  rcases hc21 with ⟨rfl, h1, h2⟩ | ⟨rfl, h1, h2⟩ | ⟨rfl, h1, h2⟩ | ⟨rfl, h1, h2⟩ | ⟨rfl, h1, h2⟩ | ⟨rfl, h1, h2⟩ | ⟨rfl, h1, h2⟩ | ⟨rfl, h1, h2⟩ | ⟨rfl, h1, h2⟩ | ⟨rfl, h1, h2⟩
  · exact own_mono (rm31 l Z a0 hw ws qa h0 Z0 (own_lt rfl (by decide : (10 : Int32).toInt = 10) (by omega))) fun v h L q => q
  · exact own_mono (rm32 l Z a0 hw ws qa h0 Z0 (own_nlt rfl (by decide : (10 : Int32).toInt = 10) (by omega)) (own_lt rfl (by decide : (100 : Int32).toInt = 100) (by omega))) fun v h L q => q
  · exact own_mono (rm33 l Z a0 hw ws qa h0 Z0 (own_nlt rfl (by decide : (10 : Int32).toInt = 10) (by omega)) (own_nlt rfl (by decide : (100 : Int32).toInt = 100) (by omega)) (own_lt rfl (by decide : (1000 : Int32).toInt = 1000) (by omega))) fun v h L q => q
  · exact own_mono (rm34 l Z a0 hw ws qa h0 Z0 (own_nlt rfl (by decide : (10 : Int32).toInt = 10) (by omega)) (own_nlt rfl (by decide : (100 : Int32).toInt = 100) (by omega)) (own_nlt rfl (by decide : (1000 : Int32).toInt = 1000) (by omega)) (own_lt rfl (by decide : (10000 : Int32).toInt = 10000) (by omega))) fun v h L q => q
  · exact own_mono (rm35 l Z a0 hw ws qa h0 Z0 (own_nlt rfl (by decide : (10 : Int32).toInt = 10) (by omega)) (own_nlt rfl (by decide : (100 : Int32).toInt = 100) (by omega)) (own_nlt rfl (by decide : (1000 : Int32).toInt = 1000) (by omega)) (own_nlt rfl (by decide : (10000 : Int32).toInt = 10000) (by omega)) (own_lt rfl (by decide : (100000 : Int32).toInt = 100000) (by omega))) fun v h L q => q
  · exact own_mono (rm36 l Z a0 hw ws qa h0 Z0 (own_nlt rfl (by decide : (10 : Int32).toInt = 10) (by omega)) (own_nlt rfl (by decide : (100 : Int32).toInt = 100) (by omega)) (own_nlt rfl (by decide : (1000 : Int32).toInt = 1000) (by omega)) (own_nlt rfl (by decide : (10000 : Int32).toInt = 10000) (by omega)) (own_nlt rfl (by decide : (100000 : Int32).toInt = 100000) (by omega)) (own_lt rfl (by decide : (1000000 : Int32).toInt = 1000000) (by omega))) fun v h L q => q
  · exact own_mono (rm37 l Z a0 hw ws qa h0 Z0 (own_nlt rfl (by decide : (10 : Int32).toInt = 10) (by omega)) (own_nlt rfl (by decide : (100 : Int32).toInt = 100) (by omega)) (own_nlt rfl (by decide : (1000 : Int32).toInt = 1000) (by omega)) (own_nlt rfl (by decide : (10000 : Int32).toInt = 10000) (by omega)) (own_nlt rfl (by decide : (100000 : Int32).toInt = 100000) (by omega)) (own_nlt rfl (by decide : (1000000 : Int32).toInt = 1000000) (by omega)) (own_lt rfl (by decide : (10000000 : Int32).toInt = 10000000) (by omega))) fun v h L q => q
  · exact own_mono (rm38 l Z a0 hw ws qa h0 Z0 (own_nlt rfl (by decide : (10 : Int32).toInt = 10) (by omega)) (own_nlt rfl (by decide : (100 : Int32).toInt = 100) (by omega)) (own_nlt rfl (by decide : (1000 : Int32).toInt = 1000) (by omega)) (own_nlt rfl (by decide : (10000 : Int32).toInt = 10000) (by omega)) (own_nlt rfl (by decide : (100000 : Int32).toInt = 100000) (by omega)) (own_nlt rfl (by decide : (1000000 : Int32).toInt = 1000000) (by omega)) (own_nlt rfl (by decide : (10000000 : Int32).toInt = 10000000) (by omega)) (own_lt rfl (by decide : (100000000 : Int32).toInt = 100000000) (by omega))) fun v h L q => q
  · exact own_mono (rm39 l Z a0 hw ws qa h0 Z0 (own_nlt rfl (by decide : (10 : Int32).toInt = 10) (by omega)) (own_nlt rfl (by decide : (100 : Int32).toInt = 100) (by omega)) (own_nlt rfl (by decide : (1000 : Int32).toInt = 1000) (by omega)) (own_nlt rfl (by decide : (10000 : Int32).toInt = 10000) (by omega)) (own_nlt rfl (by decide : (100000 : Int32).toInt = 100000) (by omega)) (own_nlt rfl (by decide : (1000000 : Int32).toInt = 1000000) (by omega)) (own_nlt rfl (by decide : (10000000 : Int32).toInt = 10000000) (by omega)) (own_nlt rfl (by decide : (100000000 : Int32).toInt = 100000000) (by omega)) (own_lt rfl (by decide : (1000000000 : Int32).toInt = 1000000000) (by omega))) fun v h L q => q
  · exact own_mono (rm40 l Z a0 hw ws qa h0 Z0 (own_nlt rfl (by decide : (10 : Int32).toInt = 10) (by omega)) (own_nlt rfl (by decide : (100 : Int32).toInt = 100) (by omega)) (own_nlt rfl (by decide : (1000 : Int32).toInt = 1000) (by omega)) (own_nlt rfl (by decide : (10000 : Int32).toInt = 10000) (by omega)) (own_nlt rfl (by decide : (100000 : Int32).toInt = 100000) (by omega)) (own_nlt rfl (by decide : (1000000 : Int32).toInt = 1000000) (by omega)) (own_nlt rfl (by decide : (10000000 : Int32).toInt = 10000000) (by omega)) (own_nlt rfl (by decide : (100000000 : Int32).toInt = 100000000) (by omega)) (own_nlt rfl (by decide : (1000000000 : Int32).toInt = 1000000000) (by omega))) fun v h L q => q
theorem own_sgC {p : Program} {l : Launch} {e : Env} {s : State} {m : MethodId} {args : Array Value} {below : List Frame} {meth : Method} {c : Code} {T0 : State} {locs : List Loc} (Z : State) (a0 : Array Value) (hw : own_HW Z a0) (w_DO : Addr) (k_w_DO : ClassId) (w_DT : Addr) (k_w_DT : ClassId) (bf : Addr) (kf : ClassId) (us : List Value) (nn xx xd rr da db cp ix : Int32) (jn jm : Nat) (s3 s4 : Option Int32) (h0 : Heap) (Z0 : Ext Z.heap h0) (S_w_DO : own_Sw_DO Z w_DO) (A_w_DO : Arv Z Z.heap w_DO k_w_DO .byte (100 : Int32) own_ones (.int (0 : Int32))) (S_w_DT : own_Sw_DT Z w_DT) (A_w_DT : Arv Z Z.heap w_DT k_w_DT .byte (100 : Int32) own_tens (.int (0 : Int32))) (V_bf : Arv Z h0 bf kf .byte nn us (.int (0 : Int32))) (g_bf : Z.heap.size ≤ bf) (hc40 : ¬ ((-100 : Int32) < xx)) (hc41 : (xx / (100 : Int32)) = xd) (hc42 : ((xd * (100 : Int32)) - xx) = rr) (hc43 : own_ib rr (100 : Int32)) (hc44 : own_get own_ones rr (.int (0 : Int32)) (.int da)) (hc45 : own_ib (cp + (-1 : Int32)) nn) (hc46 : (nar .byte da) = da) (hc47 : ((cp + (-1 : Int32))).toNatClampNeg = jn) (hc48 : jn < us.length) (hc49 : own_get own_tens rr (.int (0 : Int32)) (.int db)) (hc50 : own_ib ((cp + (-1 : Int32)) + (-1 : Int32)) nn) (hc51 : (nar .byte db) = db) (hc52 : (((cp + (-1 : Int32)) + (-1 : Int32))).toNatClampNeg = jm) (hc53 : jm < (us.set jn (.int da)).length) (X0 : Stand p l e ({ frames := 0, cells := 0, slots := 0, locals := 0 } : Room) s m args below meth c T0 locs 0 0) (hx : p.tables.exec = Jvm.exec) (hZ : Z.Warmed39 s.vm) (hby : c.code = jdk_33_method_12_code) (hml : c.maxLocals = 7) (hown : s.vm.findClass "java/lang/Integer" = some m.cls) (e0 : T0.heap = h0) (N0 : Fr Z.heap.size locs) :
    ∃ (T' : State) (L' : List Loc) (h' : Heap), Stand p l e ({ frames := 0, cells := 0, slots := 0, locals := 0 } : Room) s m args below meth c T' L' 0 0 ∧ T'.heap = h' ∧ Fr Z.heap.size L' ∧ Keep h0 h' [bf] ∧ Ext Z.heap h' ∧ Arv Z h' bf kf .byte nn ((us.set jn (.int da)).set jm (.int db)) (.int (0 : Int32)) ∧ ∀ target, Steps p.tables e below (T'.setTop (mkF m 22 #[iv xd, iv ix, rv bf, iv xd, iv rr, iv ((cp + (-1 : Int32)) + (-1 : Int32)), iv (0 : Int32)] [])) target → Steps p.tables e below (T0.setTop (mkF m 22 #[iv xx, iv ix, rv bf, (own_slot s3), (own_slot s4), iv cp, iv (0 : Int32)] [])) target := by
  obtain ⟨T41, X41, e41, st41⟩ := getS2 X0 hx hZ hown (host := "") (Or.inl (own_w hw 70 rfl)) Via.refl e0 (S_w_DO.ext Z0) (g := (mkF m 49 #[iv xd, iv ix, rv bf, iv xd, iv rr, iv (cp + (-1 : Int32)), iv (0 : Int32)] [(.int (cp + (-1 : Int32))), (.ref bf)])) rfl (hb hby d11_49)
  obtain ⟨cl42, Ar42, q42, S42, Nn42, H42, G42⟩ := id (A_w_DO.ext Z0)
  have hin42 : ¬ (rr < 0 ∨ cl42.slots.size ≤ (rr).toNatClampNeg) := inb_of S42 hc43
  have hat42 : cl42.slots[(rr).toNatClampNeg]? = some (.int da) := Has.at H42 hin42 hc44
  obtain ⟨cl43, Ar43, q43, S43, Nn43, H43, G43⟩ := id V_bf
  have hin43 : ¬ ((cp + (-1 : Int32)) < 0 ∨ cl43.slots.size ≤ ((cp + (-1 : Int32))).toNatClampNeg) := inb_of S43 hc45
  obtain ⟨T44, h44, X44, e44, W44, st44⟩ := stB X41 hx hZ e41 Ar43 (j := (cp + (-1 : Int32))) hin43 (g := (mkF m 55 #[iv xd, iv ix, rv bf, iv xd, iv rr, iv (cp + (-1 : Int32)), iv (0 : Int32)] [(.int da), (.int (cp + (-1 : Int32))), (.ref bf)])) rfl rfl (hb hby d11_55)
  rw [hc46] at W44
  have V44 : Arv Z h44 bf kf .byte nn (us.set jn (.int da)) (.int (0 : Int32)) := Arv.set Ar43 q43 S43 Nn43 H43 G43 (by rw [← hc46]; exact fits_nar_byte _) W44 jn hc47 hc48
  have K44 : Keep h0 h44 [bf] := (Keep.refl h0 [bf]).wr W44 (Or.inl (List.mem_of_getElem? (i := 0) rfl))
  have XX44 : Ext Z.heap h44 := own_extW Z0 W44 g_bf
  have N44 := Fr.snoc X44 N0 g_bf
  obtain ⟨T45, X45, e45, st45⟩ := getS2 X44 hx hZ hown (host := "") (Or.inl (own_w hw 201 rfl)) Via.refl e44 (S_w_DT.ext XX44) (g := (mkF m 62 #[iv xd, iv ix, rv bf, iv xd, iv rr, iv ((cp + (-1 : Int32)) + (-1 : Int32)), iv (0 : Int32)] [(.int ((cp + (-1 : Int32)) + (-1 : Int32))), (.ref bf)])) rfl (hb hby d11_62)
  obtain ⟨cl46, Ar46, q46, S46, Nn46, H46, G46⟩ := id (A_w_DT.ext XX44)
  have hin46 : ¬ (rr < 0 ∨ cl46.slots.size ≤ (rr).toNatClampNeg) := inb_of S46 hc43
  have hat46 : cl46.slots[(rr).toNatClampNeg]? = some (.int db) := Has.at H46 hin46 hc49
  obtain ⟨cl47, Ar47, q47, S47, Nn47, H47, G47⟩ := id V44
  have hin47 : ¬ (((cp + (-1 : Int32)) + (-1 : Int32)) < 0 ∨ cl47.slots.size ≤ (((cp + (-1 : Int32)) + (-1 : Int32))).toNatClampNeg) := inb_of S47 hc50
  obtain ⟨T48, h48, X48, e48, W48, st48⟩ := stB X45 hx hZ e45 Ar47 (j := ((cp + (-1 : Int32)) + (-1 : Int32))) hin47 (g := (mkF m 68 #[iv xd, iv ix, rv bf, iv xd, iv rr, iv ((cp + (-1 : Int32)) + (-1 : Int32)), iv (0 : Int32)] [(.int db), (.int ((cp + (-1 : Int32)) + (-1 : Int32))), (.ref bf)])) rfl rfl (hb hby d11_68)
  rw [hc51] at W48
  have V48 : Arv Z h48 bf kf .byte nn ((us.set jn (.int da)).set jm (.int db)) (.int (0 : Int32)) := Arv.set Ar47 q47 S47 Nn47 H47 G47 (by rw [← hc51]; exact fits_nar_byte _) W48 jm hc52 hc53
  have K48 : Keep h0 h48 [bf] := K44.wr W48 (Or.inl (List.mem_of_getElem? (i := 0) rfl))
  have XX48 : Ext Z.heap h48 := own_extW XX44 W48 g_bf
  have N48 := Fr.snoc X48 N44 g_bf
  refine ⟨_, _, _, X48, e48, N48, K48, XX48, V48, fun target kt => ?_⟩
  show own_S p e below T0 (mkF m 22 #[iv xx, iv ix, rv bf, (own_slot s3), (own_slot s4), iv cp, iv (0 : Int32)] []) _
  refine own_iN X0 hx hby d11_22 ?_
  refine XS.bipush X0.here hx rfl (hb hby d11_23) ?_
  refine own_cn X0 hx hby d11_25 (flt hc40).2.2.1 ?_
  refine own_iN X0 hx hby d11_28 ?_
  refine XS.bipush X0.here hx rfl (hb hby d11_29) ?_
  refine XS.idiv X0.here hx rfl (hb hby d11_31) rfl (by decide) ?_
  show own_S p e below T0 (mkF m 32 #[iv xx, iv ix, rv bf, (own_slot s3), (own_slot s4), iv cp, iv (0 : Int32)] [(.int (xx / (100 : Int32)))]) _
  rw [hc41]
  refine XS.istoreN X0.here hx rfl (hb hby d11_32) rfl (l' := #[iv xx, iv ix, rv bf, iv xd, (own_slot s4), iv cp, iv (0 : Int32)]) (by cases s3 <;> rfl) ?_
  refine own_iN X0 hx hby d11_33 ?_
  refine XS.bipush X0.here hx rfl (hb hby d11_34) ?_
  refine XS.imul X0.here hx rfl (hb hby d11_36) rfl ?_
  refine own_iN X0 hx hby d11_37 ?_
  refine XS.isub X0.here hx rfl (hb hby d11_38) rfl ?_
  show own_S p e below T0 (mkF m 39 #[iv xx, iv ix, rv bf, iv xd, (own_slot s4), iv cp, iv (0 : Int32)] [(.int ((xd * (100 : Int32)) - xx))]) _
  rw [hc42]
  refine XS.istore X0.here hx rfl (hb hby d11_39) rfl (l' := #[iv xx, iv ix, rv bf, iv xd, iv rr, iv cp, iv (0 : Int32)]) (by cases s4 <;> rfl) ?_
  refine own_iN X0 hx hby d11_41 ?_
  refine XS.istoreN X0.here hx rfl (hb hby d11_42) rfl (l' := #[iv xd, iv ix, rv bf, iv xd, iv rr, iv cp, iv (0 : Int32)]) rfl ?_
  refine own_aN X0 hx hby d11_43 ?_
  refine XS.iinc X0.here hx rfl (hb hby d11_44) rfl (l' := #[iv xd, iv ix, rv bf, iv xd, iv rr, iv (cp + (-1 : Int32)), iv (0 : Int32)]) rfl ?_
  refine own_i X0 hx hby d11_47 ?_
  refine st41 _ ?_
  refine own_i X41 hx hby d11_52 ?_
  refine X41.baloadBytes hx (j := rr) (v := (.int da)) (by rw [e41]; exact Ar42.1) (State.isArrayOf_alike hZ.alike Ar42.2.1) Ar42.2.2 hin42 hat42 (g := (mkF m 54 #[iv xd, iv ix, rv bf, iv xd, iv rr, iv (cp + (-1 : Int32)), iv (0 : Int32)] [(.int rr), (.ref w_DO), (.int (cp + (-1 : Int32))), (.ref bf)])) rfl rfl (hb hby d11_54) _ ?_
  refine st44 _ ?_
  refine own_aN X44 hx hby d11_56 ?_
  refine XS.iinc X44.here hx rfl (hb hby d11_57) rfl (l' := #[iv xd, iv ix, rv bf, iv xd, iv rr, iv ((cp + (-1 : Int32)) + (-1 : Int32)), iv (0 : Int32)]) rfl ?_
  refine own_i X44 hx hby d11_60 ?_
  refine st45 _ ?_
  refine own_i X45 hx hby d11_65 ?_
  refine X45.baloadBytes hx (j := rr) (v := (.int db)) (by rw [e45]; exact Ar46.1) (State.isArrayOf_alike hZ.alike Ar46.2.1) Ar46.2.2 hin46 hat46 (g := (mkF m 67 #[iv xd, iv ix, rv bf, iv xd, iv rr, iv ((cp + (-1 : Int32)) + (-1 : Int32)), iv (0 : Int32)] [(.int rr), (.ref w_DT), (.int ((cp + (-1 : Int32)) + (-1 : Int32))), (.ref bf)])) rfl rfl (hb hby d11_67) _ ?_
  refine st48 _ ?_
  refine own_go (pc := 69) X48 hx hby d11_69 22 ?_
  show own_S p e below T48 (mkF m 22 #[iv xd, iv ix, rv bf, iv xd, iv rr, iv ((cp + (-1 : Int32)) + (-1 : Int32)), iv (0 : Int32)] []) _
  exact kt
theorem own_lpC {p : Program} {l : Launch} {e : Env} {s : State} {m : MethodId} {args : Array Value} {below : List Frame} {meth : Method} {c : Code} (Z : State) (a0 : Array Value) (hw : own_HW Z a0) (bf : Addr) (kf : ClassId) (us xs : List Value) (n0 kk : Nat) (qa : Int32) (nn : Int32) (w_DO : Addr) (k_w_DO : ClassId) (w_DT : Addr) (k_w_DT : ClassId) (ff : Nat) (S_w_DO : own_Sw_DO Z w_DO) (A_w_DO : Arv Z Z.heap w_DO k_w_DO .byte (100 : Int32) own_ones (.int (0 : Int32))) (S_w_DT : own_Sw_DT Z w_DT) (A_w_DT : Arv Z Z.heap w_DT k_w_DT .byte (100 : Int32) own_tens (.int (0 : Int32))) (hD : own_nd qa kk) (hG : own_gx us xs n0 kk qa) (hnn : nn = Int32.ofNat us.length) (hf : ff ≤ (kk - 1) / 2) (g_bf : Z.heap.size ≤ bf) (hx : p.tables.exec = Jvm.exec) (hZ : Z.Warmed39 s.vm) (hby : c.code = jdk_33_method_12_code) (hml : c.maxLocals = 7) (hown : s.vm.findClass "java/lang/Integer" = some m.cls) :
    ∀ (d i : Nat), i + d = ff → ∀ (T0 : State) (locs : List Loc) (h0 : Heap) (s3 : Option Int32) (s4 : Option Int32), Ext Z.heap h0 → Arv Z h0 bf kf .byte nn (own_mix (n0 + kk - 2 * i) us xs) (.int (0 : Int32)) → Stand p l e ({ frames := 0, cells := 0, slots := 0, locals := 0 } : Room) s m args below meth c T0 locs 0 0 → T0.heap = h0 → Fr Z.heap.size locs → ∃ (T' : State) (L' : List Loc) (h' : Heap) (s3' : Option Int32) (s4' : Option Int32), Stand p l e ({ frames := 0, cells := 0, slots := 0, locals := 0 } : Room) s m args below meth c T' L' 0 0 ∧ T'.heap = h' ∧ Fr Z.heap.size L' ∧ Keep h0 h' [bf] ∧ Ext Z.heap h' ∧ Arv Z h' bf kf .byte nn (own_mix (n0 + kk - 2 * ff) us xs) (.int (0 : Int32)) ∧ ∀ target, Steps p.tables e below (T'.setTop (mkF m 22 #[iv (own_x qa ff), iv (Int32.ofNat (n0 + kk)), rv bf, (own_slot s3'), (own_slot s4'), iv (Int32.ofNat (n0 + kk - 2 * ff)), iv (0 : Int32)] [])) target → Steps p.tables e below (T0.setTop (mkF m 22 #[iv (own_x qa i), iv (Int32.ofNat (n0 + kk)), rv bf, (own_slot s3), (own_slot s4), iv (Int32.ofNat (n0 + kk - 2 * i)), iv (0 : Int32)] [])) target := by
  intro d
  induction d with
  | zero =>
    intro i hi T0 locs h0 s3 s4 Z0 V_bf X0 e0 N0
    obtain rfl : i = ff := by omega
    exact ⟨T0, locs, h0, s3, s4, X0, e0, N0, Keep.refl _ _, Z0, V_bf, fun _ k => k⟩
  | succ d ih =>
    intro i hi T0 locs h0 s3 s4 Z0 V_bf X0 e0 N0
    have hlt : i < ff := by omega
    have hxl := hG.1
    have hl := hG.2.1
    have hl2 := hG.2.2.1
    have hm := own_more (j := i) hD (by omega)
    have hp := own_nd_pow hD
    have hb1 := own_back (n := n0 + kk - 2 * i - 1) (by omega)
    have hb2 := own_back (n := n0 + kk - 2 * i - 1 - 1) (by omega)
    have hn1 : Int32.ofNat (n0 + kk - 2 * i - 1) < nn := by rw [hnn]; exact own_ofNat_lt (by omega) (by omega)
    have hn2 : Int32.ofNat (n0 + kk - 2 * i - 1 - 1) < nn := by rw [hnn]; exact own_ofNat_lt (by omega) (by omega)
    obtain ⟨T1, L1, h1, X1, e1, N1, K1, E1, q_V_bf, st1⟩ := own_sgC Z a0 hw w_DO k_w_DO w_DT k_w_DT bf kf (own_mix (n0 + kk - 2 * i) us xs) nn (own_x qa i) (own_x qa (i + 1)) (own_r qa i) (own_d qa (2 * i)) (own_d qa (2 * i + 1)) (Int32.ofNat (n0 + kk - 2 * i)) (Int32.ofNat (n0 + kk)) (n0 + kk - 2 * i - 1) (n0 + kk - 2 * i - 1 - 1) s3 s4 h0 Z0 S_w_DO A_w_DO S_w_DT A_w_DT V_bf g_bf (own_nlt (by decide : (-100 : Int32).toInt = -100) (own_xI qa i) (by omega)) (own_xd qa i) (own_xr qa i) (own_rib qa i) (own_r1 qa i) (by rw [own_dec (by omega)]; exact ⟨hb1.2, hn1⟩) (own_dnb qa _) (by rw [own_dec (by omega)]; exact hb1.1) (by rw [own_mix_len hG.1.symm]; omega) (own_r2 qa i) (by rw [own_dec (by omega), own_dec (by omega)]; exact ⟨hb2.2, hn2⟩) (own_dnb qa _) (by rw [own_dec (by omega), own_dec (by omega)]; exact hb2.1) (by rw [List.length_set, own_mix_len hG.1.symm]; omega) X0 hx hZ hby hml hown e0 N0
    rw [own_gx_set hG (by omega), (by omega : n0 + kk - 2 * i - 1 = n0 + kk - (2 * i + 1)), own_gx_set hG (by omega), (by omega : n0 + kk - (2 * i + 1) - 1 = n0 + kk - 2 * (i + 1))] at q_V_bf
    rw [own_dec (by omega), own_dec (by omega), (by omega : n0 + kk - 2 * i - 1 - 1 = n0 + kk - 2 * (i + 1))] at st1
    obtain ⟨T2, L2, h2, s3', s4', X2, e2, N2, K2, E2, r_V_bf, st2⟩ := ih (i + 1) (by omega) T1 L1 h1 (some (own_x qa (i + 1))) (some (own_r qa i)) E1 q_V_bf X1 e1 N1
    exact ⟨T2, L2, h2, s3', s4', X2, e2, N2, K1.trans K2 (allS (Or.inl (List.mem_of_getElem? (i := 0) rfl)) all0), E2, r_V_bf, fun t k => st1 t (st2 t k)⟩
def Qrm49 (Z : State) (qa : Int32) (kk : Nat) (w_DO : Addr) (k_w_DO : ClassId) (w_DT : Addr) (k_w_DT : ClassId) (bf : Addr) (kf : ClassId) (us xs : List Value) (n0 : Nat) (h0 : Heap) (v : Option Value) (h : Heap) (L : List Loc) : Prop := v = some (.int ((Int32.ofNat (n0 + kk - 2 * ((kk - 1) / 2))) + (-1 : Int32))) ∧ Fr Z.heap.size L ∧ Keep h0 h [bf] ∧ Arv Z h bf kf .byte (Int32.ofNat us.length) xs (.int (0 : Int32))
theorem rm49 (l : Launch) (Z : State) (a0 : Array Value) (hw : own_HW Z a0) (ws : List Jvm.Cond) (qa : Int32) (kk : Nat) (w_DO : Addr) (k_w_DO : ClassId) (w_DT : Addr) (k_w_DT : ClassId) (bf : Addr) (kf : ClassId) (us xs : List Value) (n0 : Nat) (h0 : Heap) (Z0 : Ext Z.heap h0) (S_w_DO : own_Sw_DO Z w_DO) (A_w_DO : Arv Z Z.heap w_DO k_w_DO .byte (100 : Int32) own_ones (.int (0 : Int32))) (S_w_DT : own_Sw_DT Z w_DT) (A_w_DT : Arv Z Z.heap w_DT k_w_DT .byte (100 : Int32) own_tens (.int (0 : Int32))) (V_bf : Arv Z h0 bf kf .byte (Int32.ofNat us.length) us (.int (0 : Int32))) (g_bf : Z.heap.size ≤ bf) (hc21 : own_nd qa kk) (hc54 : own_gx us xs n0 kk qa) (hc55 : own_par kk 1) :
    own_met l y_2 jdk_33_method_12_code 7 (some .int) ws ({ frames := 0, cells := 0, slots := 0, locals := 0 } : Room) Z #[(.int qa), (.int (Int32.ofNat (n0 + kk))), (.ref bf)] h0 (Qrm49 Z qa kk w_DO k_w_DO w_DT k_w_DT bf kf us xs n0 h0) := by
  refine own_start (plainFor_of_name pn_0) (fun m => ef_jdk_33_method_12_IIR m qa (Int32.ofNat (n0 + kk)) bf) ?_
  intro p e s m below meth c s₁ hx hby hml hown hnm X0 hZ e0 hret hlk
  have N0 := Fr.nil Z.heap.size
  have vp50 : Arv Z h0 bf kf .byte (Int32.ofNat us.length) (own_mix (n0 + kk - 2 * 0) us xs) (.int (0 : Int32)) := by rw [Nat.mul_zero, Nat.sub_zero, own_gx_start hc54]; exact V_bf
  obtain ⟨T51, L51, h51, y51_0, y51_1, X51, e51, N51, K51q, XX51, q51_V_bf, st51⟩ := own_lpC Z a0 hw bf kf us xs n0 kk qa (Int32.ofNat us.length) w_DO k_w_DO w_DT k_w_DT ((kk - 1) / 2) S_w_DO A_w_DO S_w_DT A_w_DT hc21 hc54 rfl (Nat.le_refl _) g_bf hx hZ hby hml hown _ 0 (Nat.zero_add _) _ _ _ none none Z0 vp50 X0 e0 N0
  have K51 : Keep h0 h51 [bf] := (Keep.refl h0 [bf]).trans K51q (allS (Or.inl (List.mem_of_getElem? (i := 0) rfl)) all0)
  obtain ⟨T52, X52, e52, st52⟩ := getS2 X51 hx hZ hown (host := "") (Or.inl (own_w hw 70 rfl)) Via.refl e51 (S_w_DO.ext XX51) (g := (mkF m 78 #[iv (own_x qa ((kk - 1) / 2)), iv (Int32.ofNat (n0 + kk)), rv bf, (own_slot y51_0), (own_slot y51_1), iv ((Int32.ofNat (n0 + kk - 2 * ((kk - 1) / 2))) + (-1 : Int32)), iv (0 : Int32)] [(.int ((Int32.ofNat (n0 + kk - 2 * ((kk - 1) / 2))) + (-1 : Int32))), (.ref bf)])) rfl (hb hby d11_78)
  obtain ⟨cl53, Ar53, q53, S53, Nn53, H53, G53⟩ := id (A_w_DO.ext XX51)
  have hin53 : ¬ ((own_r qa ((kk - 1) / 2)) < 0 ∨ cl53.slots.size ≤ ((own_r qa ((kk - 1) / 2))).toNatClampNeg) := inb_of S53 (own_rib qa _)
  have hat53 : cl53.slots[((own_r qa ((kk - 1) / 2))).toNatClampNeg]? = some (.int (own_d qa (2 * ((kk - 1) / 2)))) := Has.at H53 hin53 (own_r1 qa _)
  obtain ⟨cl54, Ar54, q54, S54, Nn54, H54, G54⟩ := id q51_V_bf
  have hin54 : ¬ (((Int32.ofNat (n0 + kk - 2 * ((kk - 1) / 2))) + (-1 : Int32)) < 0 ∨ cl54.slots.size ≤ (((Int32.ofNat (n0 + kk - 2 * ((kk - 1) / 2))) + (-1 : Int32))).toNatClampNeg) := inb_of S54 (own_t_ib1 hc21 hc54)
  obtain ⟨T55, h55, X55, e55, W55, st55⟩ := stB X52 hx hZ e52 Ar54 (j := ((Int32.ofNat (n0 + kk - 2 * ((kk - 1) / 2))) + (-1 : Int32))) hin54 (g := (mkF m 84 #[iv (own_x qa ((kk - 1) / 2)), iv (Int32.ofNat (n0 + kk)), rv bf, (own_slot y51_0), (own_slot y51_1), iv ((Int32.ofNat (n0 + kk - 2 * ((kk - 1) / 2))) + (-1 : Int32)), iv (0 : Int32)] [(.int (own_d qa (2 * ((kk - 1) / 2)))), (.int ((Int32.ofNat (n0 + kk - 2 * ((kk - 1) / 2))) + (-1 : Int32))), (.ref bf)])) rfl rfl (hb hby d11_84)
  rw [(own_dnb qa _)] at W55
  have V55 : Arv Z h55 bf kf .byte (Int32.ofNat us.length) ((own_mix (n0 + kk - 2 * ((kk - 1) / 2)) us xs).set (n0 + kk - 2 * ((kk - 1) / 2) - 1) (.int (own_d qa (2 * ((kk - 1) / 2))))) (.int (0 : Int32)) := Arv.set Ar54 q54 S54 Nn54 H54 G54 (by rw [← (own_dnb qa _)]; exact fits_nar_byte _) W55 (n0 + kk - 2 * ((kk - 1) / 2) - 1) (own_t_n1 hc21 hc54) (own_t_l1 hc21 hc54)
  rw [own_gx_o hc54 hc55] at V55
  have K55 : Keep h0 h55 [bf] := K51.wr W55 (Or.inl (List.mem_of_getElem? (i := 0) rfl))
  have XX55 : Ext Z.heap h55 := own_extW XX51 W55 g_bf
  have N55 := Fr.snoc X55 N51 g_bf
  obtain ⟨fs, hr, hrun, hended, hW, hsame⟩ := X55.leave (v := some (.int ((Int32.ofNat (n0 + kk - 2 * ((kk - 1) / 2))) + (-1 : Int32)))) (fun h => by rw [hret] at h; cases h) hlk
  refine ⟨_, _, ?_, hrun, hended, _, _, rfl, ?_, ⟨_, rfl⟩, hW, hsame.mono (by decide) (by decide)⟩
  · show own_S p e below s₁ (mkF m 0 #[iv qa, iv (Int32.ofNat (n0 + kk)), rv bf, .unset, .unset, .unset, .unset] []) _
    refine own_iN X0 hx hby d11_0 ?_
    refine XS.istore X0.here hx rfl (hb hby d11_1) rfl (l' := #[iv qa, iv (Int32.ofNat (n0 + kk)), rv bf, .unset, .unset, iv (Int32.ofNat (n0 + kk)), .unset]) rfl ?_
    refine own_iN X0 hx hby d11_3 ?_
    refine own_iy (pc := 4) X0 hx hby d11_4 (flt (own_nd_nn hc21)).2.1 11 ?_
    refine own_k X0 hx hby d11_11 ?_
    refine XS.istore X0.here hx rfl (hb hby d11_12) rfl (l' := #[iv qa, iv (Int32.ofNat (n0 + kk)), rv bf, .unset, .unset, iv (Int32.ofNat (n0 + kk)), iv (0 : Int32)]) rfl ?_
    refine own_i X0 hx hby d11_14 ?_
    refine own_in X0 hx hby d11_16 (teq (rfl : (0 : Int32) = (0 : Int32))).2 ?_
    refine own_iN X0 hx hby d11_19 ?_
    refine XS.ineg X0.here hx rfl (hb hby d11_20) rfl ?_
    show own_S p e below s₁ (mkF m 21 #[iv qa, iv (Int32.ofNat (n0 + kk)), rv bf, .unset, .unset, iv (Int32.ofNat (n0 + kk)), iv (0 : Int32)] [(.int (-qa))]) _
    rw [(own_x0 (own_nd_pow hc21).1)]
    refine XS.istoreN X0.here hx rfl (hb hby d11_21) rfl (l' := #[iv (own_x qa 0), iv (Int32.ofNat (n0 + kk)), rv bf, .unset, .unset, iv (Int32.ofNat (n0 + kk)), iv (0 : Int32)]) rfl ?_
    refine st51 _ ?_
    show own_S p e below T51 (mkF m 22 #[iv (own_x qa ((kk - 1) / 2)), iv (Int32.ofNat (n0 + kk)), rv bf, (own_slot y51_0), (own_slot y51_1), iv (Int32.ofNat (n0 + kk - 2 * ((kk - 1) / 2))), iv (0 : Int32)] []) _
    refine own_iN X51 hx hby d11_22 ?_
    refine XS.bipush X51.here hx rfl (hb hby d11_23) ?_
    refine own_cy (pc := 25) X51 hx hby d11_25 (tlt (own_t_100 hc21)).2.2.1 72 ?_
    refine own_aN X51 hx hby d11_72 ?_
    refine XS.iinc X51.here hx rfl (hb hby d11_73) rfl (l' := #[iv (own_x qa ((kk - 1) / 2)), iv (Int32.ofNat (n0 + kk)), rv bf, (own_slot y51_0), (own_slot y51_1), iv ((Int32.ofNat (n0 + kk - 2 * ((kk - 1) / 2))) + (-1 : Int32)), iv (0 : Int32)]) rfl ?_
    refine own_i X51 hx hby d11_76 ?_
    refine st52 _ ?_
    refine own_iN X52 hx hby d11_81 ?_
    refine XS.ineg X52.here hx rfl (hb hby d11_82) rfl ?_
    show own_S p e below T52 (mkF m 83 #[iv (own_x qa ((kk - 1) / 2)), iv (Int32.ofNat (n0 + kk)), rv bf, (own_slot y51_0), (own_slot y51_1), iv ((Int32.ofNat (n0 + kk - 2 * ((kk - 1) / 2))) + (-1 : Int32)), iv (0 : Int32)] [(.int (-(own_x qa ((kk - 1) / 2)))), (.ref w_DO), (.int ((Int32.ofNat (n0 + kk - 2 * ((kk - 1) / 2))) + (-1 : Int32))), (.ref bf)]) _
    rw [(own_xn (own_less hc21))]
    refine X52.baloadBytes hx (j := (own_r qa ((kk - 1) / 2))) (v := (.int (own_d qa (2 * ((kk - 1) / 2))))) (by rw [e52]; exact Ar53.1) (State.isArrayOf_alike hZ.alike Ar53.2.1) Ar53.2.2 hin53 hat53 (g := (mkF m 83 #[iv (own_x qa ((kk - 1) / 2)), iv (Int32.ofNat (n0 + kk)), rv bf, (own_slot y51_0), (own_slot y51_1), iv ((Int32.ofNat (n0 + kk - 2 * ((kk - 1) / 2))) + (-1 : Int32)), iv (0 : Int32)] [(.int (own_r qa ((kk - 1) / 2))), (.ref w_DO), (.int ((Int32.ofNat (n0 + kk - 2 * ((kk - 1) / 2))) + (-1 : Int32))), (.ref bf)])) rfl rfl (hb hby d11_83) _ ?_
    refine st55 _ ?_
    refine own_iN X55 hx hby d11_85 ?_
    refine XS.bipush X55.here hx rfl (hb hby d11_86) ?_
    refine own_cy (pc := 88) X55 hx hby d11_88 (flt (own_t_9o hc21 hc55)).2.1 104 ?_
    refine own_i X55 hx hby d11_104 ?_
    refine own_iy (pc := 106) X55 hx hby d11_106 (teq (rfl : (0 : Int32) = (0 : Int32))).1 118 ?_
    refine own_i X55 hx hby d11_118 ?_
    exact retI X55 hx hret (hb hby d11_120) hr
  · show Qrm49 Z qa kk w_DO k_w_DO w_DT k_w_DT bf kf us xs n0 h0 _ T55.heap _
    rw [e55]
    exact ⟨rfl, N55, K55, V55⟩
def Qrm56 (Z : State) (qa : Int32) (kk : Nat) (w_DO : Addr) (k_w_DO : ClassId) (w_DT : Addr) (k_w_DT : ClassId) (bf : Addr) (kf : ClassId) (us xs : List Value) (n0 : Nat) (h0 : Heap) (v : Option Value) (h : Heap) (L : List Loc) : Prop := v = some (.int (((Int32.ofNat (n0 + kk - 2 * ((kk - 1) / 2))) + (-1 : Int32)) + (-1 : Int32))) ∧ Fr Z.heap.size L ∧ Keep h0 h [bf] ∧ Arv Z h bf kf .byte (Int32.ofNat us.length) xs (.int (0 : Int32))
theorem rm56 (l : Launch) (Z : State) (a0 : Array Value) (hw : own_HW Z a0) (ws : List Jvm.Cond) (qa : Int32) (kk : Nat) (w_DO : Addr) (k_w_DO : ClassId) (w_DT : Addr) (k_w_DT : ClassId) (bf : Addr) (kf : ClassId) (us xs : List Value) (n0 : Nat) (h0 : Heap) (Z0 : Ext Z.heap h0) (S_w_DO : own_Sw_DO Z w_DO) (A_w_DO : Arv Z Z.heap w_DO k_w_DO .byte (100 : Int32) own_ones (.int (0 : Int32))) (S_w_DT : own_Sw_DT Z w_DT) (A_w_DT : Arv Z Z.heap w_DT k_w_DT .byte (100 : Int32) own_tens (.int (0 : Int32))) (V_bf : Arv Z h0 bf kf .byte (Int32.ofNat us.length) us (.int (0 : Int32))) (g_bf : Z.heap.size ≤ bf) (hc21 : own_nd qa kk) (hc54 : own_gx us xs n0 kk qa) (hc56 : own_par kk 2) :
    own_met l y_2 jdk_33_method_12_code 7 (some .int) ws ({ frames := 0, cells := 0, slots := 0, locals := 0 } : Room) Z #[(.int qa), (.int (Int32.ofNat (n0 + kk))), (.ref bf)] h0 (Qrm56 Z qa kk w_DO k_w_DO w_DT k_w_DT bf kf us xs n0 h0) := by
  refine own_start (plainFor_of_name pn_0) (fun m => ef_jdk_33_method_12_IIR m qa (Int32.ofNat (n0 + kk)) bf) ?_
  intro p e s m below meth c s₁ hx hby hml hown hnm X0 hZ e0 hret hlk
  have N0 := Fr.nil Z.heap.size
  have vp57 : Arv Z h0 bf kf .byte (Int32.ofNat us.length) (own_mix (n0 + kk - 2 * 0) us xs) (.int (0 : Int32)) := by rw [Nat.mul_zero, Nat.sub_zero, own_gx_start hc54]; exact V_bf
  obtain ⟨T58, L58, h58, y58_0, y58_1, X58, e58, N58, K58q, XX58, q58_V_bf, st58⟩ := own_lpC Z a0 hw bf kf us xs n0 kk qa (Int32.ofNat us.length) w_DO k_w_DO w_DT k_w_DT ((kk - 1) / 2) S_w_DO A_w_DO S_w_DT A_w_DT hc21 hc54 rfl (Nat.le_refl _) g_bf hx hZ hby hml hown _ 0 (Nat.zero_add _) _ _ _ none none Z0 vp57 X0 e0 N0
  have K58 : Keep h0 h58 [bf] := (Keep.refl h0 [bf]).trans K58q (allS (Or.inl (List.mem_of_getElem? (i := 0) rfl)) all0)
  obtain ⟨T59, X59, e59, st59⟩ := getS2 X58 hx hZ hown (host := "") (Or.inl (own_w hw 70 rfl)) Via.refl e58 (S_w_DO.ext XX58) (g := (mkF m 78 #[iv (own_x qa ((kk - 1) / 2)), iv (Int32.ofNat (n0 + kk)), rv bf, (own_slot y58_0), (own_slot y58_1), iv ((Int32.ofNat (n0 + kk - 2 * ((kk - 1) / 2))) + (-1 : Int32)), iv (0 : Int32)] [(.int ((Int32.ofNat (n0 + kk - 2 * ((kk - 1) / 2))) + (-1 : Int32))), (.ref bf)])) rfl (hb hby d11_78)
  obtain ⟨cl60, Ar60, q60, S60, Nn60, H60, G60⟩ := id (A_w_DO.ext XX58)
  have hin60 : ¬ ((own_r qa ((kk - 1) / 2)) < 0 ∨ cl60.slots.size ≤ ((own_r qa ((kk - 1) / 2))).toNatClampNeg) := inb_of S60 (own_rib qa _)
  have hat60 : cl60.slots[((own_r qa ((kk - 1) / 2))).toNatClampNeg]? = some (.int (own_d qa (2 * ((kk - 1) / 2)))) := Has.at H60 hin60 (own_r1 qa _)
  obtain ⟨cl61, Ar61, q61, S61, Nn61, H61, G61⟩ := id q58_V_bf
  have hin61 : ¬ (((Int32.ofNat (n0 + kk - 2 * ((kk - 1) / 2))) + (-1 : Int32)) < 0 ∨ cl61.slots.size ≤ (((Int32.ofNat (n0 + kk - 2 * ((kk - 1) / 2))) + (-1 : Int32))).toNatClampNeg) := inb_of S61 (own_t_ib1 hc21 hc54)
  obtain ⟨T62, h62, X62, e62, W62, st62⟩ := stB X59 hx hZ e59 Ar61 (j := ((Int32.ofNat (n0 + kk - 2 * ((kk - 1) / 2))) + (-1 : Int32))) hin61 (g := (mkF m 84 #[iv (own_x qa ((kk - 1) / 2)), iv (Int32.ofNat (n0 + kk)), rv bf, (own_slot y58_0), (own_slot y58_1), iv ((Int32.ofNat (n0 + kk - 2 * ((kk - 1) / 2))) + (-1 : Int32)), iv (0 : Int32)] [(.int (own_d qa (2 * ((kk - 1) / 2)))), (.int ((Int32.ofNat (n0 + kk - 2 * ((kk - 1) / 2))) + (-1 : Int32))), (.ref bf)])) rfl rfl (hb hby d11_84)
  rw [(own_dnb qa _)] at W62
  have V62 : Arv Z h62 bf kf .byte (Int32.ofNat us.length) ((own_mix (n0 + kk - 2 * ((kk - 1) / 2)) us xs).set (n0 + kk - 2 * ((kk - 1) / 2) - 1) (.int (own_d qa (2 * ((kk - 1) / 2))))) (.int (0 : Int32)) := Arv.set Ar61 q61 S61 Nn61 H61 G61 (by rw [← (own_dnb qa _)]; exact fits_nar_byte _) W62 (n0 + kk - 2 * ((kk - 1) / 2) - 1) (own_t_n1 hc21 hc54) (own_t_l1 hc21 hc54)
  rw [own_gx_e hc54 hc56] at V62
  have K62 : Keep h0 h62 [bf] := K58.wr W62 (Or.inl (List.mem_of_getElem? (i := 0) rfl))
  have XX62 : Ext Z.heap h62 := own_extW XX58 W62 g_bf
  have N62 := Fr.snoc X62 N58 g_bf
  obtain ⟨T63, X63, e63, st63⟩ := getS2 X62 hx hZ hown (host := "") (Or.inl (own_w hw 201 rfl)) Via.refl e62 (S_w_DT.ext XX62) (g := (mkF m 97 #[iv (own_x qa ((kk - 1) / 2)), iv (Int32.ofNat (n0 + kk)), rv bf, (own_slot y58_0), (own_slot y58_1), iv (((Int32.ofNat (n0 + kk - 2 * ((kk - 1) / 2))) + (-1 : Int32)) + (-1 : Int32)), iv (0 : Int32)] [(.int (((Int32.ofNat (n0 + kk - 2 * ((kk - 1) / 2))) + (-1 : Int32)) + (-1 : Int32))), (.ref bf)])) rfl (hb hby d11_97)
  obtain ⟨cl64, Ar64, q64, S64, Nn64, H64, G64⟩ := id (A_w_DT.ext XX62)
  have hin64 : ¬ ((own_r qa ((kk - 1) / 2)) < 0 ∨ cl64.slots.size ≤ ((own_r qa ((kk - 1) / 2))).toNatClampNeg) := inb_of S64 (own_rib qa _)
  have hat64 : cl64.slots[((own_r qa ((kk - 1) / 2))).toNatClampNeg]? = some (.int (own_d qa (2 * ((kk - 1) / 2) + 1))) := Has.at H64 hin64 (own_r2 qa _)
  obtain ⟨cl65, Ar65, q65, S65, Nn65, H65, G65⟩ := id V62
  have hin65 : ¬ ((((Int32.ofNat (n0 + kk - 2 * ((kk - 1) / 2))) + (-1 : Int32)) + (-1 : Int32)) < 0 ∨ cl65.slots.size ≤ ((((Int32.ofNat (n0 + kk - 2 * ((kk - 1) / 2))) + (-1 : Int32)) + (-1 : Int32))).toNatClampNeg) := inb_of S65 (own_t_ib2 hc21 hc54 hc56)
  obtain ⟨T66, h66, X66, e66, W66, st66⟩ := stB X63 hx hZ e63 Ar65 (j := (((Int32.ofNat (n0 + kk - 2 * ((kk - 1) / 2))) + (-1 : Int32)) + (-1 : Int32))) hin65 (g := (mkF m 103 #[iv (own_x qa ((kk - 1) / 2)), iv (Int32.ofNat (n0 + kk)), rv bf, (own_slot y58_0), (own_slot y58_1), iv (((Int32.ofNat (n0 + kk - 2 * ((kk - 1) / 2))) + (-1 : Int32)) + (-1 : Int32)), iv (0 : Int32)] [(.int (own_d qa (2 * ((kk - 1) / 2) + 1))), (.int (((Int32.ofNat (n0 + kk - 2 * ((kk - 1) / 2))) + (-1 : Int32)) + (-1 : Int32))), (.ref bf)])) rfl rfl (hb hby d11_103)
  rw [(own_dnb qa _)] at W66
  have V66 : Arv Z h66 bf kf .byte (Int32.ofNat us.length) ((own_mix (n0 + kk - 2 * ((kk - 1) / 2) - 1) us xs).set (n0 + kk - 2 * ((kk - 1) / 2) - 1 - 1) (.int (own_d qa (2 * ((kk - 1) / 2) + 1)))) (.int (0 : Int32)) := Arv.set Ar65 q65 S65 Nn65 H65 G65 (by rw [← (own_dnb qa _)]; exact fits_nar_byte _) W66 (n0 + kk - 2 * ((kk - 1) / 2) - 1 - 1) (own_t_n2 hc21 hc54 hc56) (own_t_l2 hc54 hc56)
  rw [own_gx_e2 hc54 hc56] at V66
  have K66 : Keep h0 h66 [bf] := K62.wr W66 (Or.inl (List.mem_of_getElem? (i := 0) rfl))
  have XX66 : Ext Z.heap h66 := own_extW XX62 W66 g_bf
  have N66 := Fr.snoc X66 N62 g_bf
  obtain ⟨fs, hr, hrun, hended, hW, hsame⟩ := X66.leave (v := some (.int (((Int32.ofNat (n0 + kk - 2 * ((kk - 1) / 2))) + (-1 : Int32)) + (-1 : Int32)))) (fun h => by rw [hret] at h; cases h) hlk
  refine ⟨_, _, ?_, hrun, hended, _, _, rfl, ?_, ⟨_, rfl⟩, hW, hsame.mono (by decide) (by decide)⟩
  · show own_S p e below s₁ (mkF m 0 #[iv qa, iv (Int32.ofNat (n0 + kk)), rv bf, .unset, .unset, .unset, .unset] []) _
    refine own_iN X0 hx hby d11_0 ?_
    refine XS.istore X0.here hx rfl (hb hby d11_1) rfl (l' := #[iv qa, iv (Int32.ofNat (n0 + kk)), rv bf, .unset, .unset, iv (Int32.ofNat (n0 + kk)), .unset]) rfl ?_
    refine own_iN X0 hx hby d11_3 ?_
    refine own_iy (pc := 4) X0 hx hby d11_4 (flt (own_nd_nn hc21)).2.1 11 ?_
    refine own_k X0 hx hby d11_11 ?_
    refine XS.istore X0.here hx rfl (hb hby d11_12) rfl (l' := #[iv qa, iv (Int32.ofNat (n0 + kk)), rv bf, .unset, .unset, iv (Int32.ofNat (n0 + kk)), iv (0 : Int32)]) rfl ?_
    refine own_i X0 hx hby d11_14 ?_
    refine own_in X0 hx hby d11_16 (teq (rfl : (0 : Int32) = (0 : Int32))).2 ?_
    refine own_iN X0 hx hby d11_19 ?_
    refine XS.ineg X0.here hx rfl (hb hby d11_20) rfl ?_
    show own_S p e below s₁ (mkF m 21 #[iv qa, iv (Int32.ofNat (n0 + kk)), rv bf, .unset, .unset, iv (Int32.ofNat (n0 + kk)), iv (0 : Int32)] [(.int (-qa))]) _
    rw [(own_x0 (own_nd_pow hc21).1)]
    refine XS.istoreN X0.here hx rfl (hb hby d11_21) rfl (l' := #[iv (own_x qa 0), iv (Int32.ofNat (n0 + kk)), rv bf, .unset, .unset, iv (Int32.ofNat (n0 + kk)), iv (0 : Int32)]) rfl ?_
    refine st58 _ ?_
    show own_S p e below T58 (mkF m 22 #[iv (own_x qa ((kk - 1) / 2)), iv (Int32.ofNat (n0 + kk)), rv bf, (own_slot y58_0), (own_slot y58_1), iv (Int32.ofNat (n0 + kk - 2 * ((kk - 1) / 2))), iv (0 : Int32)] []) _
    refine own_iN X58 hx hby d11_22 ?_
    refine XS.bipush X58.here hx rfl (hb hby d11_23) ?_
    refine own_cy (pc := 25) X58 hx hby d11_25 (tlt (own_t_100 hc21)).2.2.1 72 ?_
    refine own_aN X58 hx hby d11_72 ?_
    refine XS.iinc X58.here hx rfl (hb hby d11_73) rfl (l' := #[iv (own_x qa ((kk - 1) / 2)), iv (Int32.ofNat (n0 + kk)), rv bf, (own_slot y58_0), (own_slot y58_1), iv ((Int32.ofNat (n0 + kk - 2 * ((kk - 1) / 2))) + (-1 : Int32)), iv (0 : Int32)]) rfl ?_
    refine own_i X58 hx hby d11_76 ?_
    refine st59 _ ?_
    refine own_iN X59 hx hby d11_81 ?_
    refine XS.ineg X59.here hx rfl (hb hby d11_82) rfl ?_
    show own_S p e below T59 (mkF m 83 #[iv (own_x qa ((kk - 1) / 2)), iv (Int32.ofNat (n0 + kk)), rv bf, (own_slot y58_0), (own_slot y58_1), iv ((Int32.ofNat (n0 + kk - 2 * ((kk - 1) / 2))) + (-1 : Int32)), iv (0 : Int32)] [(.int (-(own_x qa ((kk - 1) / 2)))), (.ref w_DO), (.int ((Int32.ofNat (n0 + kk - 2 * ((kk - 1) / 2))) + (-1 : Int32))), (.ref bf)]) _
    rw [(own_xn (own_less hc21))]
    refine X59.baloadBytes hx (j := (own_r qa ((kk - 1) / 2))) (v := (.int (own_d qa (2 * ((kk - 1) / 2))))) (by rw [e59]; exact Ar60.1) (State.isArrayOf_alike hZ.alike Ar60.2.1) Ar60.2.2 hin60 hat60 (g := (mkF m 83 #[iv (own_x qa ((kk - 1) / 2)), iv (Int32.ofNat (n0 + kk)), rv bf, (own_slot y58_0), (own_slot y58_1), iv ((Int32.ofNat (n0 + kk - 2 * ((kk - 1) / 2))) + (-1 : Int32)), iv (0 : Int32)] [(.int (own_r qa ((kk - 1) / 2))), (.ref w_DO), (.int ((Int32.ofNat (n0 + kk - 2 * ((kk - 1) / 2))) + (-1 : Int32))), (.ref bf)])) rfl rfl (hb hby d11_83) _ ?_
    refine st62 _ ?_
    refine own_iN X62 hx hby d11_85 ?_
    refine XS.bipush X62.here hx rfl (hb hby d11_86) ?_
    refine own_cn X62 hx hby d11_88 (tlt (own_t_9e hc21 hc56)).2.1 ?_
    refine own_aN X62 hx hby d11_91 ?_
    refine XS.iinc X62.here hx rfl (hb hby d11_92) rfl (l' := #[iv (own_x qa ((kk - 1) / 2)), iv (Int32.ofNat (n0 + kk)), rv bf, (own_slot y58_0), (own_slot y58_1), iv (((Int32.ofNat (n0 + kk - 2 * ((kk - 1) / 2))) + (-1 : Int32)) + (-1 : Int32)), iv (0 : Int32)]) rfl ?_
    refine own_i X62 hx hby d11_95 ?_
    refine st63 _ ?_
    refine own_iN X63 hx hby d11_100 ?_
    refine XS.ineg X63.here hx rfl (hb hby d11_101) rfl ?_
    show own_S p e below T63 (mkF m 102 #[iv (own_x qa ((kk - 1) / 2)), iv (Int32.ofNat (n0 + kk)), rv bf, (own_slot y58_0), (own_slot y58_1), iv (((Int32.ofNat (n0 + kk - 2 * ((kk - 1) / 2))) + (-1 : Int32)) + (-1 : Int32)), iv (0 : Int32)] [(.int (-(own_x qa ((kk - 1) / 2)))), (.ref w_DT), (.int (((Int32.ofNat (n0 + kk - 2 * ((kk - 1) / 2))) + (-1 : Int32)) + (-1 : Int32))), (.ref bf)]) _
    rw [(own_xn (own_less hc21))]
    refine X63.baloadBytes hx (j := (own_r qa ((kk - 1) / 2))) (v := (.int (own_d qa (2 * ((kk - 1) / 2) + 1)))) (by rw [e63]; exact Ar64.1) (State.isArrayOf_alike hZ.alike Ar64.2.1) Ar64.2.2 hin64 hat64 (g := (mkF m 102 #[iv (own_x qa ((kk - 1) / 2)), iv (Int32.ofNat (n0 + kk)), rv bf, (own_slot y58_0), (own_slot y58_1), iv (((Int32.ofNat (n0 + kk - 2 * ((kk - 1) / 2))) + (-1 : Int32)) + (-1 : Int32)), iv (0 : Int32)] [(.int (own_r qa ((kk - 1) / 2))), (.ref w_DT), (.int (((Int32.ofNat (n0 + kk - 2 * ((kk - 1) / 2))) + (-1 : Int32)) + (-1 : Int32))), (.ref bf)])) rfl rfl (hb hby d11_102) _ ?_
    refine st66 _ ?_
    refine own_i X66 hx hby d11_104 ?_
    refine own_iy (pc := 106) X66 hx hby d11_106 (teq (rfl : (0 : Int32) = (0 : Int32))).1 118 ?_
    refine own_i X66 hx hby d11_118 ?_
    exact retI X66 hx hret (hb hby d11_120) hr
  · show Qrm56 Z qa kk w_DO k_w_DO w_DT k_w_DT bf kf us xs n0 h0 _ T66.heap _
    rw [e66]
    exact ⟨rfl, N66, K66, V66⟩
def Qown_gcG (Z : State) (bf : Addr) (kf : ClassId) (xs : List Value) (nn : Int32) (n0 : Nat) (h0 : Heap) (v : Option Value) (h : Heap) (L : List Loc) : Prop := v = some (.int (Int32.ofNat n0)) ∧ Fr Z.heap.size L ∧ Keep h0 h [bf] ∧ Arv Z h bf kf .byte nn xs (.int (0 : Int32))
theorem own_gcG (l : Launch) (Z : State) (a0 : Array Value) (hw : own_HW Z a0) (ws : List Jvm.Cond) (qa : Int32) (kk : Nat) (w_DO : Addr) (k_w_DO : ClassId) (w_DT : Addr) (k_w_DT : ClassId) (bf : Addr) (kf : ClassId) (us xs : List Value) (nn : Int32) (n0 : Nat) (h0 : Heap) (Z0 : Ext Z.heap h0) (S_w_DO : own_Sw_DO Z w_DO) (A_w_DO : Arv Z Z.heap w_DO k_w_DO .byte (100 : Int32) own_ones (.int (0 : Int32))) (S_w_DT : own_Sw_DT Z w_DT) (A_w_DT : Arv Z Z.heap w_DT k_w_DT .byte (100 : Int32) own_tens (.int (0 : Int32))) (V_bf : Arv Z h0 bf kf .byte nn us (.int (0 : Int32))) (g_bf : Z.heap.size ≤ bf) (hc21 : own_nd qa kk) (hc54 : own_gx us xs n0 kk qa) (hc57 : own_ln us nn) :
    own_met l y_2 jdk_33_method_12_code 7 (some .int) ws ({ frames := 0, cells := 0, slots := 0, locals := 0 } : Room) Z #[(.int qa), (.int (Int32.ofNat (n0 + kk))), (.ref bf)] h0 (Qown_gcG Z bf kf xs nn n0 h0) := by
  obtain rfl := hc57
  rcases own_par_cases (own_nd_pow hc21).2.1 with hP | hP
  · exact own_mono (rm49 l Z a0 hw ws qa kk w_DO k_w_DO w_DT k_w_DT bf kf us xs n0 h0 Z0 S_w_DO A_w_DO S_w_DT A_w_DT V_bf g_bf hc21 hc54 hP) fun v h L ⟨z1, z2, z3, f0⟩ => ⟨z1.trans (by rw [own_ret_o hP]), z2, z3, f0⟩
  · exact own_mono (rm56 l Z a0 hw ws qa kk w_DO k_w_DO w_DT k_w_DT bf kf us xs n0 h0 Z0 S_w_DO A_w_DO S_w_DT A_w_DT V_bf g_bf hc21 hc54 hP) fun v h L ⟨z1, z2, z3, f0⟩ => ⟨z1.trans (by rw [own_ret_e hP]), z2, z3, f0⟩
def Qrm67 (Z : State) (bb ba : Addr) (kv : ClassId) (cs : List Int32) (tt : Nat) (h0 : Heap) (v : Option Value) (h : Heap) (L : List Loc) : Prop := v = none ∧ Fr Z.heap.size L ∧ h = h0
theorem rm67 (l : Launch) (Z : State) (a0 : Array Value) (hw : own_HW Z a0) (ws : List Jvm.Cond) (bb ba : Addr) (kv : ClassId) (cs : List Int32) (tt : Nat) (h0 : Heap) (Z0 : Ext Z.heap h0) (F_bb_value : Fld Z h0 bb "java/lang/AbstractStringBuilder" "value" "[B" (.ref ba)) (F_bb_coder : Fld Z h0 bb "java/lang/AbstractStringBuilder" "coder" "B" (.int (0 : Int32))) (V_ba : Arv Z h0 ba kv .byte (16 : Int32) (own_buf 16 cs) (.int (0 : Int32))) (hc58 : tt ≤ 16) :
    own_met l y_3 jdk_68_method_9_code 3 none ws ({ frames := 0, cells := 0, slots := 0, locals := 0 } : Room) Z #[(.ref bb), (.int (Int32.ofNat tt))] h0 (Qrm67 Z bb ba kv cs tt h0) := by
  refine own_start (plainFor_of_name pn_2) (fun m => ef_jdk_68_method_9_RI m bb (Int32.ofNat tt)) ?_
  intro p e s m below meth c s₁ hx hby hml hown hnm X0 hZ e0 hret hlk
  have N0 := Fr.nil Z.heap.size
  obtain ⟨T68, X68, e68, st68⟩ := getF X0 hx hZ hown (host := "") (Or.inl (own_w hw 37 rfl)) Via.refl e0 F_bb_value (g := (mkF m 1 #[rv bb, iv (Int32.ofNat tt), .unset] [(.ref bb)])) rfl rfl (hb hby d9_1)
  obtain ⟨cl69, Ar69, q69, S69, Nn69, H69, G69⟩ := id V_ba
  obtain ⟨T70, X70, e70, st70⟩ := getF X68 hx hZ hown (host := "") (Or.inl (own_w hw 39 rfl)) Via.refl e68 F_bb_coder (g := (mkF m 6 #[rv bb, iv (Int32.ofNat tt), .unset] [(.ref bb), (.int (16 : Int32))])) rfl rfl (hb hby d9_6)
  obtain ⟨fs, hr, hrun, hended, hW, hsame⟩ := X70.leave (v := none) (fun _ => rfl) hlk
  refine ⟨_, _, ?_, hrun, hended, _, _, rfl, ?_, ⟨_, rfl⟩, hW, hsame.mono (by decide) (by decide)⟩
  · show own_S p e below s₁ (mkF m 0 #[rv bb, iv (Int32.ofNat tt), .unset] []) _
    refine own_aN X0 hx hby d9_0 ?_
    refine st68 _ ?_
    refine X68.arraylength hx (by rw [e68]; exact Ar69.1) (State.isArrayOf_alike hZ.alike Ar69.2.1) (g := (mkF m 4 #[rv bb, iv (Int32.ofNat tt), .unset] [(.ref ba)])) rfl rfl (hb hby d9_4) _ ?_
    rw [len_of S69 Nn69]
    refine own_aN X68 hx hby d9_5 ?_
    refine st70 _ ?_
    refine XS.ishr X70.here hx rfl (hb hby d9_9) rfl ?_
    show own_S p e below T70 (mkF m 10 #[rv bb, iv (Int32.ofNat tt), .unset] [(.int ((16 : Int32) >>> ((0 : Int32) &&& 31)))]) _
    rw [(by decide : ((16 : Int32) >>> ((0 : Int32) &&& 31)) = (16 : Int32))]
    refine XS.istoreN X70.here hx rfl (hb hby d9_10) rfl (l' := #[rv bb, iv (Int32.ofNat tt), iv (16 : Int32)]) rfl ?_
    refine own_iN X70 hx hby d9_11 ?_
    refine own_iN X70 hx hby d9_12 ?_
    refine XS.isub X70.here hx rfl (hb hby d9_13) rfl ?_
    refine own_iy (pc := 14) X70 hx hby d9_14 (flt (own_ng hc58)).2.2.2 38 ?_
    exact X70.returnOut hx hret (hb hby d9_38) hr
  · show Qrm67 Z bb ba kv cs tt h0 _ T70.heap _
    rw [e70]
    exact ⟨rfl, N0, rfl⟩
def Qrm71 (Z : State) (bb ba : Addr) (kv : ClassId) (cs : List Int32) (tt : Nat) (h0 : Heap) (v : Option Value) (h : Heap) (L : List Loc) : Prop := v = none ∧ Fr Z.heap.size L ∧ h = h0
theorem rm71 (l : Launch) (Z : State) (a0 : Array Value) (hw : own_HW Z a0) (ws : List Jvm.Cond) (bb ba : Addr) (kv : ClassId) (cs : List Int32) (tt : Nat) (h0 : Heap) (Z0 : Ext Z.heap h0) (F_bb_value : Fld Z h0 bb "java/lang/AbstractStringBuilder" "value" "[B" (.ref ba)) (F_bb_coder : Fld Z h0 bb "java/lang/AbstractStringBuilder" "coder" "B" (.int (0 : Int32))) (V_ba : Arv Z h0 ba kv .byte (34 : Int32) (own_buf 34 cs) (.int (0 : Int32))) (hc59 : tt ≤ 34) :
    own_met l y_3 jdk_68_method_9_code 3 none ws ({ frames := 0, cells := 0, slots := 0, locals := 0 } : Room) Z #[(.ref bb), (.int (Int32.ofNat tt))] h0 (Qrm71 Z bb ba kv cs tt h0) := by
  refine own_start (plainFor_of_name pn_2) (fun m => ef_jdk_68_method_9_RI m bb (Int32.ofNat tt)) ?_
  intro p e s m below meth c s₁ hx hby hml hown hnm X0 hZ e0 hret hlk
  have N0 := Fr.nil Z.heap.size
  obtain ⟨T72, X72, e72, st72⟩ := getF X0 hx hZ hown (host := "") (Or.inl (own_w hw 37 rfl)) Via.refl e0 F_bb_value (g := (mkF m 1 #[rv bb, iv (Int32.ofNat tt), .unset] [(.ref bb)])) rfl rfl (hb hby d9_1)
  obtain ⟨cl73, Ar73, q73, S73, Nn73, H73, G73⟩ := id V_ba
  obtain ⟨T74, X74, e74, st74⟩ := getF X72 hx hZ hown (host := "") (Or.inl (own_w hw 39 rfl)) Via.refl e72 F_bb_coder (g := (mkF m 6 #[rv bb, iv (Int32.ofNat tt), .unset] [(.ref bb), (.int (34 : Int32))])) rfl rfl (hb hby d9_6)
  obtain ⟨fs, hr, hrun, hended, hW, hsame⟩ := X74.leave (v := none) (fun _ => rfl) hlk
  refine ⟨_, _, ?_, hrun, hended, _, _, rfl, ?_, ⟨_, rfl⟩, hW, hsame.mono (by decide) (by decide)⟩
  · show own_S p e below s₁ (mkF m 0 #[rv bb, iv (Int32.ofNat tt), .unset] []) _
    refine own_aN X0 hx hby d9_0 ?_
    refine st72 _ ?_
    refine X72.arraylength hx (by rw [e72]; exact Ar73.1) (State.isArrayOf_alike hZ.alike Ar73.2.1) (g := (mkF m 4 #[rv bb, iv (Int32.ofNat tt), .unset] [(.ref ba)])) rfl rfl (hb hby d9_4) _ ?_
    rw [len_of S73 Nn73]
    refine own_aN X72 hx hby d9_5 ?_
    refine st74 _ ?_
    refine XS.ishr X74.here hx rfl (hb hby d9_9) rfl ?_
    show own_S p e below T74 (mkF m 10 #[rv bb, iv (Int32.ofNat tt), .unset] [(.int ((34 : Int32) >>> ((0 : Int32) &&& 31)))]) _
    rw [(by decide : ((34 : Int32) >>> ((0 : Int32) &&& 31)) = (34 : Int32))]
    refine XS.istoreN X74.here hx rfl (hb hby d9_10) rfl (l' := #[rv bb, iv (Int32.ofNat tt), iv (34 : Int32)]) rfl ?_
    refine own_iN X74 hx hby d9_11 ?_
    refine own_iN X74 hx hby d9_12 ?_
    refine XS.isub X74.here hx rfl (hb hby d9_13) rfl ?_
    refine own_iy (pc := 14) X74 hx hby d9_14 (flt (own_ng2 hc59)).2.2.2 38 ?_
    exact X74.returnOut hx hret (hb hby d9_38) hr
  · show Qrm71 Z bb ba kv cs tt h0 _ T74.heap _
    rw [e74]
    exact ⟨rfl, N0, rfl⟩
def Qrm86 (Z : State) (tt : Nat) (h0 : Heap) (v : Option Value) (h : Heap) (L : List Loc) : Prop := v = some (.int (18 : Int32)) ∧ Fr Z.heap.size L ∧ h = h0
theorem rm86 (l : Launch) (Z : State) (a0 : Array Value) (hw : own_HW Z a0) (ws : List Jvm.Cond) (tt : Nat) (h0 : Heap) (Z0 : Ext Z.heap h0) (hc60 : own_gw tt) :
    own_met l y_4 jdk_29_method_65_code 2 (some .int) ws ({ frames := 0, cells := 0, slots := 0, locals := 0 } : Room) Z #[(.int ((Int32.ofNat tt) - (16 : Int32))), (.int (18 : Int32))] h0 (Qrm86 Z tt h0) := by
  refine own_start pf_0 (fun m => ef_jdk_29_method_65_II m ((Int32.ofNat tt) - (16 : Int32)) (18 : Int32)) ?_
  intro p e s m below meth c s₁ hx hby hml hown hnm X0 hZ e0 hret hlk
  have N0 := Fr.nil Z.heap.size
  obtain ⟨fs, hr, hrun, hended, hW, hsame⟩ := X0.leave (v := some (.int (18 : Int32))) (fun h => by rw [hret] at h; cases h) hlk
  refine ⟨_, _, ?_, hrun, hended, _, _, rfl, ?_, ⟨_, rfl⟩, hW, hsame.mono (by decide) (by decide)⟩
  · show own_S p e below s₁ (mkF m 0 #[iv ((Int32.ofNat tt) - (16 : Int32)), iv (18 : Int32)] []) _
    refine own_iN X0 hx hby d39_0 ?_
    refine own_iN X0 hx hby d39_1 ?_
    refine own_cy (pc := 2) X0 hx hby d39_2 (tlt (own_gw2 hc60)).1 9 ?_
    refine own_iN X0 hx hby d39_9 ?_
    exact retI X0 hx hret (hb hby d39_10) hr
  · show Qrm86 Z tt h0 _ s₁.heap _
    rw [e0]
    exact ⟨rfl, N0, rfl⟩
def Qrm85 (Z : State) (tt : Nat) (h0 : Heap) (v : Option Value) (h : Heap) (L : List Loc) : Prop := v = some (.int (34 : Int32)) ∧ Fr Z.heap.size L ∧ h = h0
theorem rm85 (l : Launch) (Z : State) (a0 : Array Value) (hw : own_HW Z a0) (ws : List Jvm.Cond) (tt : Nat) (h0 : Heap) (Z0 : Ext Z.heap h0) (hc60 : own_gw tt) :
    own_met l y_5 jdk_48_method_27_code 4 (some .int) ws ({ frames := 1, cells := 0, slots := 0, locals := 14 } : Room) Z #[(.int (16 : Int32)), (.int ((Int32.ofNat tt) - (16 : Int32))), (.int (18 : Int32))] h0 (Qrm85 Z tt h0) := by
  refine own_start (plainFor_of_name pn_3) (fun m => ef_jdk_48_method_27_III m (16 : Int32) ((Int32.ofNat tt) - (16 : Int32)) (18 : Int32)) ?_
  intro p e s m below meth c s₁ hx hby hml hown hnm X0 hZ e0 hret hlk
  have N0 := Fr.nil Z.heap.size
  obtain ⟨_, T87, Lc87, X87, hQ87, st87⟩ := own_static (y := y_4) X0 hx hZ hown (own_w hw 211 rfl) (own_w hw 212 rfl) (own_w hw 159 rfl) (own_w hw 213 rfl) (rm86 l Z a0 hw [] tt h0 Z0 hc60) e0 (g := (mkF m 3 #[iv (16 : Int32), iv ((Int32.ofNat tt) - (16 : Int32)), iv (18 : Int32), .unset] [(.int (18 : Int32)), (.int ((Int32.ofNat tt) - (16 : Int32))), (.int (16 : Int32))])) (argsL := [(.int ((Int32.ofNat tt) - (16 : Int32))), (.int (18 : Int32))]) (rest := [(.int (16 : Int32))]) (W := 1) (lenOf pd_0 rfl) (hb hby d38_3) hml
  obtain ⟨rfl, N87q, e87⟩ := hQ87
  have N87 := Fr.app N0 N87q
  obtain ⟨fs, hr, hrun, hended, hW, hsame⟩ := X87.leave (v := some (.int (34 : Int32))) (fun h => by rw [hret] at h; cases h) hlk
  refine ⟨_, _, ?_, hrun, hended, _, _, rfl, ?_, ⟨_, rfl⟩, hW, hsame.mono (by decide) (by decide)⟩
  · show own_S p e below s₁ (mkF m 0 #[iv (16 : Int32), iv ((Int32.ofNat tt) - (16 : Int32)), iv (18 : Int32), .unset] []) _
    refine own_iN X0 hx hby d38_0 ?_
    refine own_iN X0 hx hby d38_1 ?_
    refine own_iN X0 hx hby d38_2 ?_
    refine st87 _ ?_
    refine XS.iadd X87.here hx rfl (hb hby d38_6) rfl ?_
    show own_S p e below T87 (mkF m 7 #[iv (16 : Int32), iv ((Int32.ofNat tt) - (16 : Int32)), iv (18 : Int32), .unset] [(.int ((16 : Int32) + (18 : Int32)))]) _
    rw [(by decide : ((16 : Int32) + (18 : Int32)) = (34 : Int32))]
    refine XS.istoreN X87.here hx rfl (hb hby d38_7) rfl (l' := #[iv (16 : Int32), iv ((Int32.ofNat tt) - (16 : Int32)), iv (18 : Int32), iv (34 : Int32)]) rfl ?_
    refine own_k X87 hx hby d38_8 ?_
    refine own_iN X87 hx hby d38_9 ?_
    refine own_cn X87 hx hby d38_10 (tlt (by decide : (0 : Int32) < (34 : Int32))).2.1 ?_
    refine own_iN X87 hx hby d38_13 ?_
    refine X87.ldcInt hx hown (mvT hZ (own_w hw 214 rfl)) (g := (mkF m 14 #[iv (16 : Int32), iv ((Int32.ofNat tt) - (16 : Int32)), iv (18 : Int32), iv (34 : Int32)] [(.int (34 : Int32))])) rfl (hb hby d38_14) _ ?_
    refine own_cn X87 hx hby d38_16 (flt (by decide : ¬ ((2147483639 : Int32) < (34 : Int32)))).2.2.1 ?_
    refine own_iN X87 hx hby d38_19 ?_
    exact retI X87 hx hret (hb hby d38_20) hr
  · show Qrm85 Z tt h0 _ T87.heap _
    rw [e87]
    exact ⟨rfl, N87, rfl⟩
def Qrm80 (Z : State) (bb ba : Addr) (kv : ClassId) (cs : List Int32) (tt : Nat) (h0 : Heap) (v : Option Value) (h : Heap) (L : List Loc) : Prop := v = some (.int (34 : Int32)) ∧ Fr Z.heap.size L ∧ h = h0
theorem rm80 (l : Launch) (Z : State) (a0 : Array Value) (hw : own_HW Z a0) (ws : List Jvm.Cond) (bb ba : Addr) (kv : ClassId) (cs : List Int32) (tt : Nat) (h0 : Heap) (Z0 : Ext Z.heap h0) (F_bb_coder : Fld Z h0 bb "java/lang/AbstractStringBuilder" "coder" "B" (.int (0 : Int32))) (F_bb_value : Fld Z h0 bb "java/lang/AbstractStringBuilder" "value" "[B" (.ref ba)) (V_ba : Arv Z h0 ba kv .byte (16 : Int32) (own_buf 16 cs) (.int (0 : Int32))) (hc60 : own_gw tt) :
    own_met l y_6 jdk_68_method_10_code 6 (some .int) ws ({ frames := 2, cells := 0, slots := 0, locals := 29 } : Room) Z #[(.ref bb), (.int (Int32.ofNat tt))] h0 (Qrm80 Z bb ba kv cs tt h0) := by
  refine own_start (plainFor_of_name pn_2) (fun m => ef_jdk_68_method_10_RI m bb (Int32.ofNat tt)) ?_
  intro p e s m below meth c s₁ hx hby hml hown hnm X0 hZ e0 hret hlk
  have N0 := Fr.nil Z.heap.size
  obtain ⟨T81, X81, e81, st81⟩ := getF X0 hx hZ hown (host := "") (Or.inl (own_w hw 37 rfl)) Via.refl e0 F_bb_value (g := (mkF m 1 #[rv bb, iv (Int32.ofNat tt), .unset, .unset, .unset, .unset] [(.ref bb)])) rfl rfl (hb hby d37_1)
  obtain ⟨cl82, Ar82, q82, S82, Nn82, H82, G82⟩ := id V_ba
  obtain ⟨T83, X83, e83, st83⟩ := getF X81 hx hZ hown (host := "") (Or.inl (own_w hw 39 rfl)) Via.refl e81 F_bb_coder (g := (mkF m 8 #[rv bb, iv (Int32.ofNat tt), iv (16 : Int32), .unset, .unset, .unset] [(.ref bb), (.int (Int32.ofNat tt))])) rfl rfl (hb hby d37_8)
  obtain ⟨T84, X84, e84, st84⟩ := getF X83 hx hZ hown (host := "") (Or.inl (own_w hw 39 rfl)) Via.refl e83 F_bb_coder (g := (mkF m 24 #[rv bb, iv (Int32.ofNat tt), iv (16 : Int32), iv (Int32.ofNat tt), iv ((Int32.ofNat tt) - (16 : Int32)), .unset] [(.ref bb), (.int (2 : Int32)), (.int (16 : Int32)), (.int ((Int32.ofNat tt) - (16 : Int32))), (.int (16 : Int32))])) rfl rfl (hb hby d37_24)
  obtain ⟨_, T88, Lc88, X88, hQ88, st88⟩ := own_static (y := y_5) X84 hx hZ hown (own_w hw 207 rfl) (own_w hw 208 rfl) (own_w hw 209 rfl) (own_w hw 210 rfl) (rm85 l Z a0 hw [] tt h0 Z0 hc60) e84 (g := (mkF m 29 #[rv bb, iv (Int32.ofNat tt), iv (16 : Int32), iv (Int32.ofNat tt), iv ((Int32.ofNat tt) - (16 : Int32)), .unset] [(.int (18 : Int32)), (.int ((Int32.ofNat tt) - (16 : Int32))), (.int (16 : Int32))])) (argsL := [(.int (16 : Int32)), (.int ((Int32.ofNat tt) - (16 : Int32))), (.int (18 : Int32))]) (rest := []) (W := 0) (lenOf pd_1 rfl) (hb hby d37_29) hml
  obtain ⟨rfl, N88q, e88⟩ := hQ88
  have N88 := Fr.app N0 N88q
  obtain ⟨T89, X89, e89, st89⟩ := getF X88 hx hZ hown (host := "") (Or.inl (own_w hw 39 rfl)) Via.refl e88 F_bb_coder (g := (mkF m 54 #[rv bb, iv (Int32.ofNat tt), iv (16 : Int32), iv (Int32.ofNat tt), iv ((Int32.ofNat tt) - (16 : Int32)), iv (34 : Int32)] [(.ref bb), (.int (34 : Int32))])) rfl rfl (hb hby d37_54)
  obtain ⟨fs, hr, hrun, hended, hW, hsame⟩ := X89.leave (v := some (.int (34 : Int32))) (fun h => by rw [hret] at h; cases h) hlk
  refine ⟨_, _, ?_, hrun, hended, _, _, rfl, ?_, ⟨_, rfl⟩, hW, hsame.mono (by decide) (by decide)⟩
  · show own_S p e below s₁ (mkF m 0 #[rv bb, iv (Int32.ofNat tt), .unset, .unset, .unset, .unset] []) _
    refine own_aN X0 hx hby d37_0 ?_
    refine st81 _ ?_
    refine X81.arraylength hx (by rw [e81]; exact Ar82.1) (State.isArrayOf_alike hZ.alike Ar82.2.1) (g := (mkF m 4 #[rv bb, iv (Int32.ofNat tt), .unset, .unset, .unset, .unset] [(.ref ba)])) rfl rfl (hb hby d37_4) _ ?_
    rw [len_of S82 Nn82]
    refine XS.istoreN X81.here hx rfl (hb hby d37_5) rfl (l' := #[rv bb, iv (Int32.ofNat tt), iv (16 : Int32), .unset, .unset, .unset]) rfl ?_
    refine own_iN X81 hx hby d37_6 ?_
    refine own_aN X81 hx hby d37_7 ?_
    refine st83 _ ?_
    refine XS.ishl X83.here hx rfl (hb hby d37_11) rfl ?_
    show own_S p e below T83 (mkF m 12 #[rv bb, iv (Int32.ofNat tt), iv (16 : Int32), .unset, .unset, .unset] [(.int ((Int32.ofNat tt) <<< ((0 : Int32) &&& 31)))]) _
    rw [(own_shl0 _)]
    refine XS.istoreN X83.here hx rfl (hb hby d37_12) rfl (l' := #[rv bb, iv (Int32.ofNat tt), iv (16 : Int32), iv (Int32.ofNat tt), .unset, .unset]) rfl ?_
    refine own_iN X83 hx hby d37_13 ?_
    refine own_iN X83 hx hby d37_14 ?_
    refine XS.isub X83.here hx rfl (hb hby d37_15) rfl ?_
    refine XS.istore X83.here hx rfl (hb hby d37_16) rfl (l' := #[rv bb, iv (Int32.ofNat tt), iv (16 : Int32), iv (Int32.ofNat tt), iv ((Int32.ofNat tt) - (16 : Int32)), .unset]) rfl ?_
    refine own_iN X83 hx hby d37_18 ?_
    refine own_i X83 hx hby d37_19 ?_
    refine own_iN X83 hx hby d37_21 ?_
    refine own_k X83 hx hby d37_22 ?_
    refine own_aN X83 hx hby d37_23 ?_
    refine st84 _ ?_
    refine XS.ishl X84.here hx rfl (hb hby d37_27) rfl ?_
    show own_S p e below T84 (mkF m 28 #[rv bb, iv (Int32.ofNat tt), iv (16 : Int32), iv (Int32.ofNat tt), iv ((Int32.ofNat tt) - (16 : Int32)), .unset] [(.int ((2 : Int32) <<< ((0 : Int32) &&& 31))), (.int (16 : Int32)), (.int ((Int32.ofNat tt) - (16 : Int32))), (.int (16 : Int32))]) _
    rw [(by decide : ((2 : Int32) <<< ((0 : Int32) &&& 31)) = (2 : Int32))]
    refine XS.iadd X84.here hx rfl (hb hby d37_28) rfl ?_
    show own_S p e below T84 (mkF m 29 #[rv bb, iv (Int32.ofNat tt), iv (16 : Int32), iv (Int32.ofNat tt), iv ((Int32.ofNat tt) - (16 : Int32)), .unset] [(.int ((16 : Int32) + (2 : Int32))), (.int ((Int32.ofNat tt) - (16 : Int32))), (.int (16 : Int32))]) _
    rw [(by decide : ((16 : Int32) + (2 : Int32)) = (18 : Int32))]
    refine st88 _ ?_
    refine XS.istore X88.here hx rfl (hb hby d37_32) rfl (l' := #[rv bb, iv (Int32.ofNat tt), iv (16 : Int32), iv (Int32.ofNat tt), iv ((Int32.ofNat tt) - (16 : Int32)), iv (34 : Int32)]) rfl ?_
    refine own_i X88 hx hby d37_34 ?_
    refine X88.ldcInt hx hown (mvT hZ (own_w hw 215 rfl)) (g := (mkF m 36 #[rv bb, iv (Int32.ofNat tt), iv (16 : Int32), iv (Int32.ofNat tt), iv ((Int32.ofNat tt) - (16 : Int32)), iv (34 : Int32)] [(.int (34 : Int32))])) rfl (hb hby d37_36) _ ?_
    refine own_cy (pc := 38) X88 hx hby d37_38 (feq (by decide : ¬ ((34 : Int32) = (2147483647 : Int32)))).2 51 ?_
    refine own_i X88 hx hby d37_51 ?_
    refine own_aN X88 hx hby d37_53 ?_
    refine st89 _ ?_
    refine XS.ishr X89.here hx rfl (hb hby d37_57) rfl ?_
    show own_S p e below T89 (mkF m 58 #[rv bb, iv (Int32.ofNat tt), iv (16 : Int32), iv (Int32.ofNat tt), iv ((Int32.ofNat tt) - (16 : Int32)), iv (34 : Int32)] [(.int ((34 : Int32) >>> ((0 : Int32) &&& 31)))]) _
    rw [(by decide : ((34 : Int32) >>> ((0 : Int32) &&& 31)) = (34 : Int32))]
    exact retI X89 hx hret (hb hby d37_58) hr
  · show Qrm80 Z bb ba kv cs tt h0 _ T89.heap _
    rw [e89]
    exact ⟨rfl, N88, rfl⟩
def Qrm96 (Z : State)  (h0 : Heap) (v : Option Value) (h : Heap) (L : List Loc) : Prop := v = some (.int (16 : Int32)) ∧ Fr Z.heap.size L ∧ h = h0
theorem rm96 (l : Launch) (Z : State) (a0 : Array Value) (hw : own_HW Z a0) (ws : List Jvm.Cond)  (h0 : Heap) (Z0 : Ext Z.heap h0) :
    own_met l y_7 jdk_29_method_69_code 2 (some .int) ws ({ frames := 0, cells := 0, slots := 0, locals := 0 } : Room) Z #[(.int (16 : Int32)), (.int (34 : Int32))] h0 (Qrm96 Z  h0) := by
  refine own_start pf_1 (fun m => ef_jdk_29_method_69_II m (16 : Int32) (34 : Int32)) ?_
  intro p e s m below meth c s₁ hx hby hml hown hnm X0 hZ e0 hret hlk
  have N0 := Fr.nil Z.heap.size
  obtain ⟨fs, hr, hrun, hended, hW, hsame⟩ := X0.leave (v := some (.int (16 : Int32))) (fun h => by rw [hret] at h; cases h) hlk
  refine ⟨_, _, ?_, hrun, hended, _, _, rfl, ?_, ⟨_, rfl⟩, hW, hsame.mono (by decide) (by decide)⟩
  · show own_S p e below s₁ (mkF m 0 #[iv (16 : Int32), iv (34 : Int32)] []) _
    refine own_iN X0 hx hby d28_0 ?_
    refine own_iN X0 hx hby d28_1 ?_
    refine own_cn X0 hx hby d28_2 (flt (by decide : ¬ ((34 : Int32) < (16 : Int32)))).2.2.1 ?_
    refine own_iN X0 hx hby d28_5 ?_
    refine own_go (pc := 6) X0 hx hby d28_6 10 ?_
    exact retI X0 hx hret (hb hby d28_10) hr
  · show Qrm96 Z  h0 _ s₁.heap _
    rw [e0]
    exact ⟨rfl, N0, rfl⟩
def Qrm92 (Z : State) (ba : Addr) (kv : ClassId) (cs : List Int32) (h0 : Heap) (v : Option Value) (h : Heap) (L : List Loc) : Prop := ∃ b94 : Addr, ∃ k94 : ClassId, v = some (.ref b94) ∧ Fr Z.heap.size L ∧ Keep h0 h [] ∧ h0.size ≤ b94 ∧ Arv Z h b94 k94 .byte (34 : Int32) (own_buf 34 cs) (.int (0 : Int32))
theorem rm92 (l : Launch) (Z : State) (a0 : Array Value) (hw : own_HW Z a0) (ws : List Jvm.Cond) (ba : Addr) (kv : ClassId) (cs : List Int32) (h0 : Heap) (Z0 : Ext Z.heap h0) (V_ba : Arv Z h0 ba kv .byte (16 : Int32) (own_buf 16 cs) (.int (0 : Int32))) (hc61 : cs.length ≤ 16) :
    own_met l y_8 jdk_65_method_121_code 3 (some (.array .byte)) ws ({ frames := 1, cells := 1, slots := 34, locals := 18 } : Room) Z #[(.ref ba), (.int (34 : Int32))] h0 (Qrm92 Z ba kv cs h0) := by
  refine own_start (plainFor_of_name pn_4) (fun m => ef_jdk_65_method_121_RI m ba (34 : Int32)) ?_
  intro p e s m below meth c s₁ hx hby hml hown hnm X0 hZ e0 hret hlk
  have N0 := Fr.nil Z.heap.size
  obtain ⟨cl93, Ar93, q93, S93, Nn93, H93, G93⟩ := id V_ba
  obtain ⟨T94, h94, k94, X94, e94, E94, A94, st94⟩ := newP X0 hx hZ (own_w hw 36 rfl) e0 (g := (mkF m 15 #[rv ba, iv (34 : Int32), .unset] [(.int (34 : Int32))])) rfl (hb hby d40_15) rfl (by decide) (cap := 34) (by decide) (by decide) (by decide) (by decide)
  obtain ⟨b94, g94⟩ : ∃ z, z = h0.size := ⟨_, rfl⟩
  rw [← g94] at A94 st94
  have g_b94 : Z.heap.size ≤ b94 := Nat.le_trans Z0.1 (Nat.le_of_eq g94.symm)
  have sz_b94 : h0.size ≤ b94 := Nat.le_trans (Keep.refl h0 []).1 (Nat.le_of_eq g94.symm)
  have V_b94 : Arv Z h94 b94 k94 .byte (34 : Int32) [(.int (0 : Int32)), (.int (0 : Int32)), (.int (0 : Int32)), (.int (0 : Int32)), (.int (0 : Int32)), (.int (0 : Int32)), (.int (0 : Int32)), (.int (0 : Int32)), (.int (0 : Int32)), (.int (0 : Int32)), (.int (0 : Int32)), (.int (0 : Int32)), (.int (0 : Int32)), (.int (0 : Int32)), (.int (0 : Int32)), (.int (0 : Int32)), (.int (0 : Int32)), (.int (0 : Int32)), (.int (0 : Int32)), (.int (0 : Int32)), (.int (0 : Int32)), (.int (0 : Int32)), (.int (0 : Int32)), (.int (0 : Int32)), (.int (0 : Int32)), (.int (0 : Int32)), (.int (0 : Int32)), (.int (0 : Int32)), (.int (0 : Int32)), (.int (0 : Int32)), (.int (0 : Int32)), (.int (0 : Int32)), (.int (0 : Int32)), (.int (0 : Int32))] (.int (0 : Int32)) := (Arv.new A94 (by decide)).pad (pad_rep [] (.int (0 : Int32)) 34)
  have K94 : Keep h0 h94 [] := (Keep.refl h0 []).ext E94
  have XX94 : Ext Z.heap h94 := own_ext2 Z0 E94
  obtain ⟨cl95, Ar95, q95, S95, Nn95, H95, G95⟩ := id (V_ba.ext E94)
  obtain ⟨_, T97, Lc97, X97, hQ97, st97⟩ := own_static (y := y_7) X94 hx hZ hown (own_w hw 157 rfl) (own_w hw 158 rfl) (own_w hw 159 rfl) (own_w hw 160 rfl) (rm96 l Z a0 hw []  h94 XX94 ) e94 (g := (mkF m 25 #[rv ba, iv (34 : Int32), rv b94] [(.int (34 : Int32)), (.int (16 : Int32)), (.int (0 : Int32)), (.ref b94), (.int (0 : Int32)), (.ref ba)])) (argsL := [(.int (16 : Int32)), (.int (34 : Int32))]) (rest := [(.int (0 : Int32)), (.ref b94), (.int (0 : Int32)), (.ref ba)]) (W := 4) (lenOf pd_0 rfl) (hb hby d40_25) hml
  obtain ⟨rfl, N97q, e97⟩ := hQ97
  have N97 := Fr.app N0 N97q
  obtain ⟨T98, h98, L98, X98, e98, N98, K98q, V98, st98⟩ := own_cp X97 hx hZ hown (own_w hw 161 rfl) (own_w hw 118 rfl) (own_w hw 116 rfl) (own_w hw 117 rfl) e97 (V_ba.ext E94) V_b94 (own_cp_grow hc61) N97 g_b94 (g := (mkF m 28 #[rv ba, iv (34 : Int32), rv b94] [(.int (16 : Int32)), (.int (0 : Int32)), (.ref b94), (.int (0 : Int32)), (.ref ba)])) (W := 0) (hb hby d40_28) hml
  have XX98 : Ext Z.heap h98 := own_extK XX94 K98q (allS g_b94 all0)
  have K98 : Keep h0 h98 [] := K94.trans K98q (allS (Or.inr sz_b94) all0)
  obtain ⟨fs, hr, hrun, hended, hW, hsame⟩ := X98.leave (v := some (.ref b94)) (fun h => by rw [hret] at h; cases h) hlk
  refine ⟨_, _, ?_, hrun, hended, _, _, rfl, ?_, ⟨_, rfl⟩, hW, hsame.mono (by decide) (by decide)⟩
  · show own_S p e below s₁ (mkF m 0 #[rv ba, iv (34 : Int32), .unset] []) _
    refine own_iN X0 hx hby d40_0 ?_
    refine own_aN X0 hx hby d40_1 ?_
    refine X0.arraylength hx (by rw [e0]; exact Ar93.1) (State.isArrayOf_alike hZ.alike Ar93.2.1) (g := (mkF m 2 #[rv ba, iv (34 : Int32), .unset] [(.ref ba), (.int (34 : Int32))])) rfl rfl (hb hby d40_2) _ ?_
    rw [len_of S93 Nn93]
    refine own_cy (pc := 3) X0 hx hby d40_3 (feq (by decide : ¬ ((34 : Int32) = (16 : Int32)))).2 14 ?_
    refine own_iN X0 hx hby d40_14 ?_
    refine st94 _ ?_
    refine XS.astoreN X94.here hx rfl (hb hby d40_17) rfl rfl (l' := #[rv ba, iv (34 : Int32), rv b94]) rfl ?_
    refine own_aN X94 hx hby d40_18 ?_
    refine own_k X94 hx hby d40_19 ?_
    refine own_aN X94 hx hby d40_20 ?_
    refine own_k X94 hx hby d40_21 ?_
    refine own_aN X94 hx hby d40_22 ?_
    refine X94.arraylength hx (by rw [e94]; exact Ar95.1) (State.isArrayOf_alike hZ.alike Ar95.2.1) (g := (mkF m 23 #[rv ba, iv (34 : Int32), rv b94] [(.ref ba), (.int (0 : Int32)), (.ref b94), (.int (0 : Int32)), (.ref ba)])) rfl rfl (hb hby d40_23) _ ?_
    rw [len_of S95 Nn95]
    refine own_iN X94 hx hby d40_24 ?_
    refine st97 _ ?_
    refine st98 _ ?_
    refine own_aN X98 hx hby d40_31 ?_
    jvm_step X98.here [X98.here.top, hx, (hb hby d40_32), X98.method', hret, Value.isRef, FieldType.isReference]
    first | (intro acts; rw [hr _ acts rfl rfl rfl]) | rw [hr _ _ rfl rfl rfl]
    exact Steps.refl _
  · show Qrm92 Z ba kv cs h0 _ T98.heap _
    rw [e98]
    exact ⟨b94, k94, rfl, N98, K98, sz_b94, V98⟩
def Qrm75 (Z : State) (bb ba : Addr) (kv : ClassId) (cs : List Int32) (tt : Nat) (h0 : Heap) (v : Option Value) (h : Heap) (L : List Loc) : Prop := ∃ b100 : Addr, ∃ k101 : ClassId, v = none ∧ Fr Z.heap.size L ∧ Keep h0 h [bb] ∧ h0.size ≤ b100 ∧ Exa Z h bb "java/lang/StringBuilder" ∧ Fld Z h bb "java/lang/AbstractStringBuilder" "value" "[B" (.ref b100) ∧ Fld Z h bb "java/lang/AbstractStringBuilder" "coder" "B" (.int (0 : Int32)) ∧ Fld Z h bb "java/lang/AbstractStringBuilder" "count" "I" (.int (Int32.ofNat cs.length)) ∧ Arv Z h b100 k101 .byte (34 : Int32) (own_buf 34 cs) (.int (0 : Int32))
theorem rm75 (l : Launch) (Z : State) (a0 : Array Value) (hw : own_HW Z a0) (ws : List Jvm.Cond) (bb ba : Addr) (kv : ClassId) (cs : List Int32) (tt : Nat) (h0 : Heap) (Z0 : Ext Z.heap h0) (E_bb : Exa Z h0 bb "java/lang/StringBuilder") (F_bb_value : Fld Z h0 bb "java/lang/AbstractStringBuilder" "value" "[B" (.ref ba)) (F_bb_coder : Fld Z h0 bb "java/lang/AbstractStringBuilder" "coder" "B" (.int (0 : Int32))) (F_bb_count : Fld Z h0 bb "java/lang/AbstractStringBuilder" "count" "I" (.int (Int32.ofNat cs.length))) (V_ba : Arv Z h0 ba kv .byte (16 : Int32) (own_buf 16 cs) (.int (0 : Int32))) (g_bb : Z.heap.size ≤ bb) (hc60 : own_gw tt) (hc61 : cs.length ≤ 16) :
    own_met l y_3 jdk_68_method_9_code 3 none ws ({ frames := 3, cells := 1, slots := 34, locals := 48 } : Room) Z #[(.ref bb), (.int (Int32.ofNat tt))] h0 (Qrm75 Z bb ba kv cs tt h0) := by
  refine own_start (plainFor_of_name pn_2) (fun m => ef_jdk_68_method_9_RI m bb (Int32.ofNat tt)) ?_
  intro p e s m below meth c s₁ hx hby hml hown hnm X0 hZ e0 hret hlk
  have N0 := Fr.nil Z.heap.size
  obtain ⟨T76, X76, e76, st76⟩ := getF X0 hx hZ hown (host := "") (Or.inl (own_w hw 37 rfl)) Via.refl e0 F_bb_value (g := (mkF m 1 #[rv bb, iv (Int32.ofNat tt), .unset] [(.ref bb)])) rfl rfl (hb hby d9_1)
  obtain ⟨cl77, Ar77, q77, S77, Nn77, H77, G77⟩ := id V_ba
  obtain ⟨T78, X78, e78, st78⟩ := getF X76 hx hZ hown (host := "") (Or.inl (own_w hw 39 rfl)) Via.refl e76 F_bb_coder (g := (mkF m 6 #[rv bb, iv (Int32.ofNat tt), .unset] [(.ref bb), (.int (16 : Int32))])) rfl rfl (hb hby d9_6)
  obtain ⟨T79, X79, e79, st79⟩ := getF X78 hx hZ hown (host := "") (Or.inl (own_w hw 37 rfl)) Via.refl e78 F_bb_value (g := (mkF m 19 #[rv bb, iv (Int32.ofNat tt), iv (16 : Int32)] [(.ref bb), (.ref bb)])) rfl rfl (hb hby d9_19)
  obtain ⟨_, T90, Lc90, X90, hQ90, st90⟩ := own_virtual (y := y_6) X79 hx hZ hown (own_w hw 202 rfl) (own_decl (own_w hw 203 rfl) (own_w hw 206 rfl)) (own_w hw 205 rfl) (own_w hw 203 rfl) (own_w hw 31 rfl) (own_w hw 206 rfl) (rm80 l Z a0 hw [] bb ba kv cs tt h0 Z0 F_bb_coder F_bb_value V_ba hc60) e79 E_bb (g := (mkF m 24 #[rv bb, iv (Int32.ofNat tt), iv (16 : Int32)] [(.int (Int32.ofNat tt)), (.ref bb), (.ref ba), (.ref bb)])) (argsL := [(.int (Int32.ofNat tt))]) (rest := [(.ref ba), (.ref bb)]) (W := 2) (lenOf pd_2 rfl) (hb hby d9_24) hml
  obtain ⟨rfl, N90q, e90⟩ := hQ90
  have N90 := Fr.app N0 N90q
  obtain ⟨T91, X91, e91, st91⟩ := getF X90 hx hZ hown (host := "") (Or.inl (own_w hw 39 rfl)) Via.refl e90 F_bb_coder (g := (mkF m 28 #[rv bb, iv (Int32.ofNat tt), iv (16 : Int32)] [(.ref bb), (.int (34 : Int32)), (.ref ba), (.ref bb)])) rfl rfl (hb hby d9_28)
  obtain ⟨_, T99, Lc99, X99, hQ99, st99⟩ := own_static (y := y_8) X91 hx hZ hown (own_w hw 216 rfl) (own_w hw 217 rfl) (own_w hw 149 rfl) (own_w hw 218 rfl) (rm92 l Z a0 hw [] ba kv cs h0 Z0 V_ba hc61) e91 (g := (mkF m 32 #[rv bb, iv (Int32.ofNat tt), iv (16 : Int32)] [(.int (34 : Int32)), (.ref ba), (.ref bb)])) (argsL := [(.ref ba), (.int (34 : Int32))]) (rest := [(.ref bb)]) (W := 1) (lenOf pd_3 rfl) (hb hby d9_32) hml
  obtain ⟨b100, k101, rfl, N99q, K99q, szn_b100, q99_V_b100⟩ := hQ99
  have g_b100 : Z.heap.size ≤ b100 := Nat.le_trans Z0.1 szn_b100
  have sz_b100 : h0.size ≤ b100 := Nat.le_trans (Keep.refl h0 [bb]).1 szn_b100
  have K99 : Keep h0 T99.heap [bb] := (Keep.refl h0 [bb]).trans K99q all0
  have XX99 : Ext Z.heap T99.heap := own_extK Z0 K99q all0
  have N99 := Fr.app N90 N99q
  obtain ⟨T102, h102, X102, e102, W102, st102⟩ := putF X99 hx hZ hown (host := "") (Or.inl (own_w hw 37 rfl)) Via.refl rfl (F_bb_value.keep K99q nin0) (E_bb.keep K99q) (Or.inl (own_w hw 38 rfl)) (own_w hw 22 rfl) (ty := (.array .byte)) (by decide) rfl rfl (g := (mkF m 35 #[rv bb, iv (Int32.ofNat tt), iv (16 : Int32)] [(.ref b100), (.ref bb)])) rfl rfl (hb hby d9_35)
  have K102 : Keep h0 h102 [bb] := K99.wr W102 (Or.inl (List.mem_of_getElem? (i := 0) rfl))
  have XX102 : Ext Z.heap h102 := own_extW XX99 W102 g_bb
  have N102 := Fr.snoc X102 N99 g_bb
  have f103_F_bb_coder : Fld Z h102 bb "java/lang/AbstractStringBuilder" "coder" "B" (.int (0 : Int32)) := ((F_bb_coder.keep K99q nin0).other W102 (Or.inr (slot_ne (Or.inl (own_w hw 40 rfl)) (Or.inl (own_w hw 38 rfl)) (by decide) (t := .byte) (t' := (.array .byte)) (by decide) (by decide))))
  have f104_F_bb_count : Fld Z h102 bb "java/lang/AbstractStringBuilder" "count" "I" (.int (Int32.ofNat cs.length)) := ((F_bb_count.keep K99q nin0).other W102 (Or.inr (slot_ne (Or.inl (own_w hw 52 rfl)) (Or.inl (own_w hw 38 rfl)) (by decide) (t := .int) (t' := (.array .byte)) (by decide) (by decide))))
  have ne_bb_b100 : bb ≠ b100 := Nat.ne_of_lt (Nat.lt_of_lt_of_le E_bb.lt szn_b100)
  obtain ⟨fs, hr, hrun, hended, hW, hsame⟩ := X102.leave (v := none) (fun _ => rfl) hlk
  refine ⟨_, _, ?_, hrun, hended, _, _, rfl, ?_, ⟨_, rfl⟩, hW, hsame.mono (by decide) (by decide)⟩
  · show own_S p e below s₁ (mkF m 0 #[rv bb, iv (Int32.ofNat tt), .unset] []) _
    refine own_aN X0 hx hby d9_0 ?_
    refine st76 _ ?_
    refine X76.arraylength hx (by rw [e76]; exact Ar77.1) (State.isArrayOf_alike hZ.alike Ar77.2.1) (g := (mkF m 4 #[rv bb, iv (Int32.ofNat tt), .unset] [(.ref ba)])) rfl rfl (hb hby d9_4) _ ?_
    rw [len_of S77 Nn77]
    refine own_aN X76 hx hby d9_5 ?_
    refine st78 _ ?_
    refine XS.ishr X78.here hx rfl (hb hby d9_9) rfl ?_
    show own_S p e below T78 (mkF m 10 #[rv bb, iv (Int32.ofNat tt), .unset] [(.int ((16 : Int32) >>> ((0 : Int32) &&& 31)))]) _
    rw [(by decide : ((16 : Int32) >>> ((0 : Int32) &&& 31)) = (16 : Int32))]
    refine XS.istoreN X78.here hx rfl (hb hby d9_10) rfl (l' := #[rv bb, iv (Int32.ofNat tt), iv (16 : Int32)]) rfl ?_
    refine own_iN X78 hx hby d9_11 ?_
    refine own_iN X78 hx hby d9_12 ?_
    refine XS.isub X78.here hx rfl (hb hby d9_13) rfl ?_
    refine own_in X78 hx hby d9_14 (tlt (own_gw1 hc60)).2.2.2 ?_
    refine own_aN X78 hx hby d9_17 ?_
    refine own_aN X78 hx hby d9_18 ?_
    refine st79 _ ?_
    refine own_aN X79 hx hby d9_22 ?_
    refine own_iN X79 hx hby d9_23 ?_
    refine st90 _ ?_
    refine own_aN X90 hx hby d9_27 ?_
    refine st91 _ ?_
    refine XS.ishl X91.here hx rfl (hb hby d9_31) rfl ?_
    show own_S p e below T91 (mkF m 32 #[rv bb, iv (Int32.ofNat tt), iv (16 : Int32)] [(.int ((34 : Int32) <<< ((0 : Int32) &&& 31))), (.ref ba), (.ref bb)]) _
    rw [(by decide : ((34 : Int32) <<< ((0 : Int32) &&& 31)) = (34 : Int32))]
    refine st99 _ ?_
    refine st102 _ ?_
    exact X102.returnOut hx hret (hb hby d9_38) hr
  · show Qrm75 Z bb ba kv cs tt h0 _ T102.heap _
    rw [e102]
    exact ⟨b100, k101, rfl, N102, K102, sz_b100, ((E_bb.keep K99q).wr W102), ((F_bb_value.keep K99q nin0).same W102), f103_F_bb_coder, f104_F_bb_count, (q99_V_b100.other W102 (Ne.symm ne_bb_b100))⟩
def Qrm110 (Z : State) (w_CS : Int32) (bb : Addr) (h0 : Heap) (v : Option Value) (h : Heap) (L : List Loc) : Prop := v = some (.int (1 : Int32)) ∧ Fr Z.heap.size L ∧ h = h0
theorem rm110 (l : Launch) (Z : State) (a0 : Array Value) (hw : own_HW Z a0) (ws : List Jvm.Cond) (w_CS : Int32) (bb : Addr) (h0 : Heap) (Z0 : Ext Z.heap h0) (S_w_CS : own_w_CS Z w_CS) (F_bb_coder : Fld Z h0 bb "java/lang/AbstractStringBuilder" "coder" "B" (.int (0 : Int32))) (hc1 : ¬ (w_CS = (0 : Int32))) :
    own_met l y_9 jdk_68_method_68_code 1 (some .boolean) ws ({ frames := 0, cells := 0, slots := 0, locals := 0 } : Room) Z #[(.ref bb)] h0 (Qrm110 Z w_CS bb h0) := by
  refine own_start (plainFor_of_name pn_2) (fun m => ef_jdk_68_method_68_R m bb) ?_
  intro p e s m below meth c s₁ hx hby hml hown hnm X0 hZ e0 hret hlk
  have N0 := Fr.nil Z.heap.size
  obtain ⟨T111, X111, e111, st111⟩ := getS2 X0 hx hZ hown (host := "") (Or.inl (own_w hw 34 rfl)) Via.refl e0 (S_w_CS.ext Z0) (g := (mkF m 0 #[rv bb] [])) rfl (hb hby d10_0)
  obtain ⟨T112, X112, e112, st112⟩ := getF X111 hx hZ hown (host := "") (Or.inl (own_w hw 39 rfl)) Via.refl e111 F_bb_coder (g := (mkF m 7 #[rv bb] [(.ref bb)])) rfl rfl (hb hby d10_7)
  obtain ⟨fs, hr, hrun, hended, hW, hsame⟩ := X112.leave (v := some (.int (1 : Int32))) (fun h => by rw [hret] at h; cases h) hlk
  refine ⟨_, _, ?_, hrun, hended, _, _, rfl, ?_, ⟨_, rfl⟩, hW, hsame.mono (by decide) (by decide)⟩
  · show own_S p e below s₁ (mkF m 0 #[rv bb] []) _
    refine st111 _ ?_
    refine own_in X111 hx hby d10_3 (feq hc1).1 ?_
    refine own_aN X111 hx hby d10_6 ?_
    refine st112 _ ?_
    refine own_in X112 hx hby d10_10 (teq (rfl : (0 : Int32) = (0 : Int32))).2 ?_
    refine own_k X112 hx hby d10_13 ?_
    refine own_go (pc := 14) X112 hx hby d10_14 18 ?_
    exact retN X112 hx (t := .boolean) hret (by simp) (hb hby d10_18) hr
  · show Qrm110 Z w_CS bb h0 _ T112.heap _
    rw [e112]
    exact ⟨rfl, N0, rfl⟩
def Qrm106 (Z : State) (w_CS qa : Int32) (kk : Nat) (w_DO : Addr) (k_w_DO : ClassId) (w_DT : Addr) (k_w_DT : ClassId) (bb ba : Addr) (kv : ClassId) (cs : List Int32) (h0 : Heap) (v : Option Value) (h : Heap) (L : List Loc) : Prop := v = some (.ref bb) ∧ Fr Z.heap.size L ∧ Keep h0 h [ba, bb] ∧ Exa Z h bb "java/lang/StringBuilder" ∧ Fld Z h bb "java/lang/AbstractStringBuilder" "coder" "B" (.int (0 : Int32)) ∧ Fld Z h bb "java/lang/AbstractStringBuilder" "count" "I" (.int (Int32.ofNat (cs.length + kk))) ∧ Fld Z h bb "java/lang/AbstractStringBuilder" "value" "[B" (.ref ba) ∧ Arv Z h ba kv .byte (16 : Int32) (own_buf 16 (cs ++ own_ds qa kk)) (.int (0 : Int32))
theorem rm106 (l : Launch) (Z : State) (a0 : Array Value) (hw : own_HW Z a0) (ws : List Jvm.Cond) (w_CS qa : Int32) (kk : Nat) (w_DO : Addr) (k_w_DO : ClassId) (w_DT : Addr) (k_w_DT : ClassId) (bb ba : Addr) (kv : ClassId) (cs : List Int32) (h0 : Heap) (Z0 : Ext Z.heap h0) (S_w_CS : own_w_CS Z w_CS) (S_w_DO : own_Sw_DO Z w_DO) (A_w_DO : Arv Z Z.heap w_DO k_w_DO .byte (100 : Int32) own_ones (.int (0 : Int32))) (S_w_DT : own_Sw_DT Z w_DT) (A_w_DT : Arv Z Z.heap w_DT k_w_DT .byte (100 : Int32) own_tens (.int (0 : Int32))) (E_bb : Exa Z h0 bb "java/lang/StringBuilder") (F_bb_coder : Fld Z h0 bb "java/lang/AbstractStringBuilder" "coder" "B" (.int (0 : Int32))) (F_bb_count : Fld Z h0 bb "java/lang/AbstractStringBuilder" "count" "I" (.int (Int32.ofNat cs.length))) (F_bb_value : Fld Z h0 bb "java/lang/AbstractStringBuilder" "value" "[B" (.ref ba)) (V_ba : Arv Z h0 ba kv .byte (16 : Int32) (own_buf 16 cs) (.int (0 : Int32))) (g_bb : Z.heap.size ≤ bb) (g_ba : Z.heap.size ≤ ba) (hc21 : own_nd qa kk) (hc62 : cs.length + kk ≤ 16) (hc1 : ¬ (w_CS = (0 : Int32))) (hc63 : bb ≠ ba) (hc64 : ba ≠ bb) :
    own_met l y_10 jdk_68_method_32_code 4 (some (.object "java/lang/AbstractStringBuilder")) ws ({ frames := 1, cells := 0, slots := 0, locals := 18 } : Room) Z #[(.ref bb), (.int qa)] h0 (Qrm106 Z w_CS qa kk w_DO k_w_DO w_DT k_w_DT bb ba kv cs h0) := by
  refine own_start (plainFor_of_name pn_2) (fun m => ef_jdk_68_method_32_RI m bb qa) ?_
  intro p e s m below meth c s₁ hx hby hml hown hnm X0 hZ e0 hret hlk
  have N0 := Fr.nil Z.heap.size
  obtain ⟨T107, X107, e107, st107⟩ := getF X0 hx hZ hown (host := "") (Or.inl (own_w hw 51 rfl)) Via.refl e0 F_bb_count (g := (mkF m 1 #[rv bb, iv qa, .unset, .unset] [(.ref bb)])) rfl rfl (hb hby d7_1)
  obtain ⟨_, T108, Lc108, X108, hQ108, st108⟩ := own_static (y := y_0) X107 hx hZ hown (own_w hw 53 rfl) (own_w hw 54 rfl) (own_w hw 55 rfl) (own_w hw 56 rfl) (own_ssJ l Z a0 hw [] qa kk h0 Z0 hc21) e107 (g := (mkF m 7 #[rv bb, iv qa, iv (Int32.ofNat cs.length), .unset] [(.int qa), (.int (Int32.ofNat cs.length))])) (argsL := [(.int qa)]) (rest := [(.int (Int32.ofNat cs.length))]) (W := 1) (lenOf pd_2 rfl) (hb hby d7_7) hml
  obtain ⟨rfl, N108q, e108⟩ := hQ108
  have N108 := Fr.app N0 N108q
  obtain ⟨_, T109, Lc109, X109, hQ109, st109⟩ := own_virtual (y := y_3) X108 hx hZ hown (own_w hw 57 rfl) (own_decl (own_w hw 58 rfl) (own_w hw 61 rfl)) (own_w hw 60 rfl) (own_w hw 58 rfl) (own_w hw 31 rfl) (own_w hw 61 rfl) (rm67 l Z a0 hw [] bb ba kv cs (cs.length + kk) h0 Z0 F_bb_value F_bb_coder V_ba hc62) e108 E_bb (g := (mkF m 14 #[rv bb, iv qa, iv (Int32.ofNat cs.length), iv (Int32.ofNat (cs.length + kk))] [(.int (Int32.ofNat (cs.length + kk))), (.ref bb)])) (argsL := [(.int (Int32.ofNat (cs.length + kk)))]) (rest := []) (W := 0) (lenOf pd_4 rfl) (hb hby d7_14) hml
  obtain ⟨rfl, N109q, e109⟩ := hQ109
  have N109 := Fr.app N108 N109q
  obtain ⟨_, T113, Lc113, X113, hQ113, st113⟩ := own_virtual (y := y_9) X109 hx hZ hown (own_w hw 62 rfl) (own_w hw 63 rfl) (own_w hw 65 rfl) (own_w hw 64 rfl) (own_w hw 31 rfl) (own_w hw 66 rfl) (rm110 l Z a0 hw [] w_CS bb h0 Z0 S_w_CS F_bb_coder hc1) e109 E_bb (g := (mkF m 18 #[rv bb, iv qa, iv (Int32.ofNat cs.length), iv (Int32.ofNat (cs.length + kk))] [(.ref bb)])) (argsL := []) (rest := []) (W := 0) (lenOf pd_5 rfl) (hb hby d7_18) hml
  obtain ⟨rfl, N113q, e113⟩ := hQ113
  have N113 := Fr.app N109 N113q
  obtain ⟨T114, X114, e114, st114⟩ := getF X113 hx hZ hown (host := "") (Or.inl (own_w hw 37 rfl)) Via.refl e113 F_bb_value (g := (mkF m 27 #[rv bb, iv qa, iv (Int32.ofNat cs.length), iv (Int32.ofNat (cs.length + kk))] [(.ref bb), (.int (Int32.ofNat (cs.length + kk))), (.int qa)])) rfl rfl (hb hby d7_27)
  obtain ⟨_, T115, Lc115, X115, hQ115, st115⟩ := own_static (y := y_2) X114 hx hZ hown (own_w hw 67 rfl) (own_w hw 68 rfl) (own_w hw 55 rfl) (own_w hw 69 rfl) (own_gcG l Z a0 hw [] qa kk w_DO k_w_DO w_DT k_w_DT ba kv (own_buf 16 cs) (own_buf 16 (cs ++ own_ds qa kk)) (16 : Int32) cs.length h0 Z0 S_w_DO A_w_DO S_w_DT A_w_DT V_ba g_ba hc21 (own_gx_buf hc62 (by decide)) (own_ln_buf rfl (own_le_of hc62))) e114 (g := (mkF m 30 #[rv bb, iv qa, iv (Int32.ofNat cs.length), iv (Int32.ofNat (cs.length + kk))] [(.ref ba), (.int (Int32.ofNat (cs.length + kk))), (.int qa)])) (argsL := [(.int qa), (.int (Int32.ofNat (cs.length + kk))), (.ref ba)]) (rest := []) (W := 0) (lenOf pd_6 rfl) (hb hby d7_30) hml
  obtain ⟨rfl, N115q, K115q, q115_V_ba⟩ := hQ115
  have K115 : Keep h0 T115.heap [ba, bb] := (Keep.refl h0 [ba, bb]).trans K115q (allS (Or.inl (List.mem_of_getElem? (i := 0) rfl)) all0)
  have XX115 : Ext Z.heap T115.heap := own_extK Z0 K115q (allS g_ba all0)
  have N115 := Fr.app N113 N115q
  obtain ⟨T116, h116, X116, e116, W116, st116⟩ := putF X115 hx hZ hown (host := "") (Or.inl (own_w hw 51 rfl)) Via.refl rfl (F_bb_count.keep K115q (ninS hc63 (nin0))) (E_bb.keep K115q) (Or.inl (own_w hw 52 rfl)) (own_w hw 22 rfl) (ty := .int) (by decide) rfl rfl (g := (mkF m 50 #[rv bb, iv qa, iv (Int32.ofNat cs.length), iv (Int32.ofNat (cs.length + kk))] [(.int (Int32.ofNat (cs.length + kk))), (.ref bb)])) rfl rfl (hb hby d7_50)
  have K116 : Keep h0 h116 [ba, bb] := K115.wr W116 (Or.inl (List.mem_of_getElem? (i := 1) rfl))
  have XX116 : Ext Z.heap h116 := own_extW XX115 W116 g_bb
  have N116 := Fr.snoc X116 N115 g_bb
  have f117_F_bb_coder : Fld Z h116 bb "java/lang/AbstractStringBuilder" "coder" "B" (.int (0 : Int32)) := ((F_bb_coder.keep K115q (ninS hc63 (nin0))).other W116 (Or.inr (slot_ne (Or.inl (own_w hw 40 rfl)) (Or.inl (own_w hw 52 rfl)) (by decide) (t := .byte) (t' := .int) (by decide) (by decide))))
  have f118_F_bb_value : Fld Z h116 bb "java/lang/AbstractStringBuilder" "value" "[B" (.ref ba) := ((F_bb_value.keep K115q (ninS hc63 (nin0))).other W116 (Or.inr (slot_ne (Or.inl (own_w hw 38 rfl)) (Or.inl (own_w hw 52 rfl)) (by decide) (t := (.array .byte)) (t' := .int) (by decide) (by decide))))
  obtain ⟨fs, hr, hrun, hended, hW, hsame⟩ := X116.leave (v := some (.ref bb)) (fun h => by rw [hret] at h; cases h) hlk
  refine ⟨_, _, ?_, hrun, hended, _, _, rfl, ?_, ⟨_, rfl⟩, hW, hsame.mono (by decide) (by decide)⟩
  · show own_S p e below s₁ (mkF m 0 #[rv bb, iv qa, .unset, .unset] []) _
    refine own_aN X0 hx hby d7_0 ?_
    refine st107 _ ?_
    refine XS.istoreN X107.here hx rfl (hb hby d7_4) rfl (l' := #[rv bb, iv qa, iv (Int32.ofNat cs.length), .unset]) rfl ?_
    refine own_iN X107 hx hby d7_5 ?_
    refine own_iN X107 hx hby d7_6 ?_
    refine st108 _ ?_
    refine XS.iadd X108.here hx rfl (hb hby d7_10) rfl ?_
    show own_S p e below T108 (mkF m 11 #[rv bb, iv qa, iv (Int32.ofNat cs.length), .unset] [(.int ((Int32.ofNat cs.length) + (Int32.ofNat kk)))]) _
    rw [(Int32.ofNat_add _ _).symm]
    refine XS.istoreN X108.here hx rfl (hb hby d7_11) rfl (l' := #[rv bb, iv qa, iv (Int32.ofNat cs.length), iv (Int32.ofNat (cs.length + kk))]) rfl ?_
    refine own_aN X108 hx hby d7_12 ?_
    refine own_iN X108 hx hby d7_13 ?_
    refine st109 _ ?_
    refine own_aN X109 hx hby d7_17 ?_
    refine st113 _ ?_
    refine own_in X113 hx hby d7_21 (feq (by decide : ¬ ((1 : Int32) = (0 : Int32)))).1 ?_
    refine own_iN X113 hx hby d7_24 ?_
    refine own_iN X113 hx hby d7_25 ?_
    refine own_aN X113 hx hby d7_26 ?_
    refine st114 _ ?_
    refine st115 _ ?_
    refine XS.pop X115.here hx rfl (hb hby d7_33) rfl rfl ?_
    refine own_go (pc := 34) X115 hx hby d7_34 48 ?_
    refine own_aN X115 hx hby d7_48 ?_
    refine own_iN X115 hx hby d7_49 ?_
    refine st116 _ ?_
    refine own_aN X116 hx hby d7_53 ?_
    jvm_step X116.here [X116.here.top, hx, (hb hby d7_54), X116.method', hret, Value.isRef, FieldType.isReference]
    first | (intro acts; rw [hr _ acts rfl rfl rfl]) | rw [hr _ _ rfl rfl rfl]
    exact Steps.refl _
  · show Qrm106 Z w_CS qa kk w_DO k_w_DO w_DT k_w_DT bb ba kv cs h0 _ T116.heap _
    rw [e116]
    exact ⟨rfl, N116, K116, ((E_bb.keep K115q).wr W116), f117_F_bb_coder, ((F_bb_count.keep K115q (ninS hc63 (nin0))).same W116), f118_F_bb_value, (q115_V_ba.other W116 hc64)⟩
def Qrm105 (Z : State) (w_CS qa : Int32) (kk : Nat) (w_DO : Addr) (k_w_DO : ClassId) (w_DT : Addr) (k_w_DT : ClassId) (bb ba : Addr) (kv : ClassId) (cs : List Int32) (h0 : Heap) (v : Option Value) (h : Heap) (L : List Loc) : Prop := v = some (.ref bb) ∧ Fr Z.heap.size L ∧ Keep h0 h [bb, ba] ∧ Exa Z h bb "java/lang/StringBuilder" ∧ Fld Z h bb "java/lang/AbstractStringBuilder" "value" "[B" (.ref ba) ∧ Fld Z h bb "java/lang/AbstractStringBuilder" "coder" "B" (.int (0 : Int32)) ∧ Fld Z h bb "java/lang/AbstractStringBuilder" "count" "I" (.int (Int32.ofNat (cs.length + kk))) ∧ Arv Z h ba kv .byte (16 : Int32) (own_buf 16 (cs ++ own_ds qa kk)) (.int (0 : Int32))
theorem rm105 (l : Launch) (Z : State) (a0 : Array Value) (hw : own_HW Z a0) (ws : List Jvm.Cond) (w_CS qa : Int32) (kk : Nat) (w_DO : Addr) (k_w_DO : ClassId) (w_DT : Addr) (k_w_DT : ClassId) (bb ba : Addr) (kv : ClassId) (cs : List Int32) (h0 : Heap) (Z0 : Ext Z.heap h0) (S_w_CS : own_w_CS Z w_CS) (S_w_DO : own_Sw_DO Z w_DO) (A_w_DO : Arv Z Z.heap w_DO k_w_DO .byte (100 : Int32) own_ones (.int (0 : Int32))) (S_w_DT : own_Sw_DT Z w_DT) (A_w_DT : Arv Z Z.heap w_DT k_w_DT .byte (100 : Int32) own_tens (.int (0 : Int32))) (E_bb : Exa Z h0 bb "java/lang/StringBuilder") (F_bb_value : Fld Z h0 bb "java/lang/AbstractStringBuilder" "value" "[B" (.ref ba)) (F_bb_coder : Fld Z h0 bb "java/lang/AbstractStringBuilder" "coder" "B" (.int (0 : Int32))) (F_bb_count : Fld Z h0 bb "java/lang/AbstractStringBuilder" "count" "I" (.int (Int32.ofNat cs.length))) (V_ba : Arv Z h0 ba kv .byte (16 : Int32) (own_buf 16 cs) (.int (0 : Int32))) (g_bb : Z.heap.size ≤ bb) (g_ba : Z.heap.size ≤ ba) (hc21 : own_nd qa kk) (hc62 : cs.length + kk ≤ 16) (hc1 : ¬ (w_CS = (0 : Int32))) (hc63 : bb ≠ ba) (hc64 : ba ≠ bb) :
    own_met l y_11 jdk_67_method_15_code 2 (some (.object "java/lang/StringBuilder")) ws ({ frames := 2, cells := 0, slots := 0, locals := 33 } : Room) Z #[(.ref bb), (.int qa)] h0 (Qrm105 Z w_CS qa kk w_DO k_w_DO w_DT k_w_DT bb ba kv cs h0) := by
  refine own_start (plainFor_of_name pn_5) (fun m => ef_jdk_67_method_15_RI m bb qa) ?_
  intro p e s m below meth c s₁ hx hby hml hown hnm X0 hZ e0 hret hlk
  have N0 := Fr.nil Z.heap.size
  obtain ⟨_, T119, Lc119, X119, hQ119, st119⟩ := own_super (y := y_10) X0 hx hZ hown (own_w hw 46 rfl) (own_same (own_w hw 47 rfl) (own_w hw 60 rfl) rfl (by decide)) (own_w hw 47 rfl) (own_w hw 48 rfl) (own_w hw 31 rfl) (own_w hw 50 rfl) (rm106 l Z a0 hw [] w_CS qa kk w_DO k_w_DO w_DT k_w_DT bb ba kv cs h0 Z0 S_w_CS S_w_DO A_w_DO S_w_DT A_w_DT E_bb F_bb_coder F_bb_count F_bb_value V_ba g_bb g_ba hc21 hc62 hc1 hc63 hc64) e0 (Ins.self E_bb) (g := (mkF m 2 #[rv bb, iv qa] [(.int qa), (.ref bb)])) (argsL := [(.int qa)]) (rest := []) (W := 0) (lenOf pd_7 rfl) (hb hby d6_2) hml
  obtain ⟨rfl, N119q, K119q, q119_E_bb, q119_F_bb_coder, q119_F_bb_count, q119_F_bb_value, q119_V_ba⟩ := hQ119
  have K119 : Keep h0 T119.heap [bb, ba] := (Keep.refl h0 [bb, ba]).trans K119q (allS (Or.inl (List.mem_of_getElem? (i := 1) rfl)) (allS (Or.inl (List.mem_of_getElem? (i := 0) rfl)) all0))
  have XX119 : Ext Z.heap T119.heap := own_extK Z0 K119q (allS g_ba (allS g_bb all0))
  have N119 := Fr.app N0 N119q
  obtain ⟨fs, hr, hrun, hended, hW, hsame⟩ := X119.leave (v := some (.ref bb)) (fun h => by rw [hret] at h; cases h) hlk
  refine ⟨_, _, ?_, hrun, hended, _, _, rfl, ?_, ⟨_, rfl⟩, hW, hsame.mono (by decide) (by decide)⟩
  · show own_S p e below s₁ (mkF m 0 #[rv bb, iv qa] []) _
    refine own_aN X0 hx hby d6_0 ?_
    refine own_iN X0 hx hby d6_1 ?_
    refine st119 _ ?_
    refine XS.pop X119.here hx rfl (hb hby d6_5) rfl rfl ?_
    refine own_aN X119 hx hby d6_6 ?_
    jvm_step X119.here [X119.here.top, hx, (hb hby d6_7), X119.method', hret, Value.isRef, FieldType.isReference]
    first | (intro acts; rw [hr _ acts rfl rfl rfl]) | rw [hr _ _ rfl rfl rfl]
    exact Steps.refl _
  · show Qrm105 Z w_CS qa kk w_DO k_w_DO w_DT k_w_DT bb ba kv cs h0 _ T119.heap _
    exact ⟨rfl, N119, K119, q119_E_bb, q119_F_bb_value, q119_F_bb_coder, q119_F_bb_count, q119_V_ba⟩
def Qown_apI_n16 (Z : State) (w_CS qa : Int32) (kk : Nat) (w_DO : Addr) (k_w_DO : ClassId) (w_DT : Addr) (k_w_DT : ClassId) (bb ba : Addr) (kv : ClassId) (cs : List Int32) (h0 : Heap) (v : Option Value) (h : Heap) (L : List Loc) : Prop := v = some (.ref bb) ∧ Fr Z.heap.size L ∧ Keep h0 h [bb, ba] ∧ Exa Z h bb "java/lang/StringBuilder" ∧ Fld Z h bb "java/lang/AbstractStringBuilder" "value" "[B" (.ref ba) ∧ Fld Z h bb "java/lang/AbstractStringBuilder" "coder" "B" (.int (0 : Int32)) ∧ Fld Z h bb "java/lang/AbstractStringBuilder" "count" "I" (.int (Int32.ofNat (cs ++ own_ds qa kk).length)) ∧ Arv Z h ba kv .byte (16 : Int32) (own_buf 16 (cs ++ own_ds qa kk)) (.int (0 : Int32))
theorem own_apI_n16 (l : Launch) (Z : State) (a0 : Array Value) (hw : own_HW Z a0) (ws : List Jvm.Cond) (w_CS qa : Int32) (kk : Nat) (w_DO : Addr) (k_w_DO : ClassId) (w_DT : Addr) (k_w_DT : ClassId) (bb ba : Addr) (kv : ClassId) (cs : List Int32) (h0 : Heap) (Z0 : Ext Z.heap h0) (S_w_CS : own_w_CS Z w_CS) (S_w_DO : own_Sw_DO Z w_DO) (A_w_DO : Arv Z Z.heap w_DO k_w_DO .byte (100 : Int32) own_ones (.int (0 : Int32))) (S_w_DT : own_Sw_DT Z w_DT) (A_w_DT : Arv Z Z.heap w_DT k_w_DT .byte (100 : Int32) own_tens (.int (0 : Int32))) (E_bb : Exa Z h0 bb "java/lang/StringBuilder") (F_bb_value : Fld Z h0 bb "java/lang/AbstractStringBuilder" "value" "[B" (.ref ba)) (F_bb_coder : Fld Z h0 bb "java/lang/AbstractStringBuilder" "coder" "B" (.int (0 : Int32))) (F_bb_count : Fld Z h0 bb "java/lang/AbstractStringBuilder" "count" "I" (.int (Int32.ofNat cs.length))) (V_ba : Arv Z h0 ba kv .byte (16 : Int32) (own_buf 16 cs) (.int (0 : Int32))) (g_bb : Z.heap.size ≤ bb) (g_ba : Z.heap.size ≤ ba) (hc21 : own_nd qa kk) (hc62 : cs.length + kk ≤ 16) (hc1 : ¬ (w_CS = (0 : Int32))) (hc63 : bb ≠ ba) (hc64 : ba ≠ bb) :
    own_met l y_11 jdk_67_method_15_code 2 (some (.object "java/lang/StringBuilder")) ws ({ frames := 2, cells := 0, slots := 0, locals := 33 } : Room) Z #[(.ref bb), (.int qa)] h0 (Qown_apI_n16 Z w_CS qa kk w_DO k_w_DO w_DT k_w_DT bb ba kv cs h0) := by
  exact own_mono (rm105 l Z a0 hw ws w_CS qa kk w_DO k_w_DO w_DT k_w_DT bb ba kv cs h0 Z0 S_w_CS S_w_DO A_w_DO S_w_DT A_w_DT E_bb F_bb_value F_bb_coder F_bb_count V_ba g_bb g_ba hc21 hc62 hc1 hc63 hc64) fun v h L ⟨z1, z2, z3, f0, f1, f2, f3, f4⟩ => ⟨z1, z2, z3, f0, f1, f2, (by rw [List.length_append, own_ds_len]; exact f3), f4⟩
def Qrm125 (Z : State) (w_CS : Int32) (bs : Addr) (h0 : Heap) (v : Option Value) (h : Heap) (L : List Loc) : Prop := v = some (.int (0 : Int32)) ∧ Fr Z.heap.size L ∧ h = h0
theorem rm125 (l : Launch) (Z : State) (a0 : Array Value) (hw : own_HW Z a0) (ws : List Jvm.Cond) (w_CS : Int32) (bs : Addr) (h0 : Heap) (Z0 : Ext Z.heap h0) (S_w_CS : own_w_CS Z w_CS) (F_bs_coder : Fld Z h0 bs "java/lang/String" "coder" "B" (.int (0 : Int32))) (hc1 : ¬ (w_CS = (0 : Int32))) :
    own_met l y_12 jdk_42_method_152_code 1 (some .byte) ws ({ frames := 0, cells := 0, slots := 0, locals := 0 } : Room) Z #[(.ref bs)] h0 (Qrm125 Z w_CS bs h0) := by
  refine own_start (plainFor_of_name pn_6) (fun m => ef_jdk_42_method_152_R m bs) ?_
  intro p e s m below meth c s₁ hx hby hml hown hnm X0 hZ e0 hret hlk
  have N0 := Fr.nil Z.heap.size
  obtain ⟨T126, X126, e126, st126⟩ := getS2 X0 hx hZ hown (host := "") (Or.inl (own_w hw 97 rfl)) Via.refl e0 (S_w_CS.ext Z0) (g := (mkF m 0 #[rv bs] [])) rfl (hb hby d15_0)
  obtain ⟨T127, X127, e127, st127⟩ := getF X126 hx hZ hown (host := "") (Or.inl (own_w hw 98 rfl)) Via.refl e126 F_bs_coder (g := (mkF m 7 #[rv bs] [(.ref bs)])) rfl rfl (hb hby d15_7)
  obtain ⟨fs, hr, hrun, hended, hW, hsame⟩ := X127.leave (v := some (.int (0 : Int32))) (fun h => by rw [hret] at h; cases h) hlk
  refine ⟨_, _, ?_, hrun, hended, _, _, rfl, ?_, ⟨_, rfl⟩, hW, hsame.mono (by decide) (by decide)⟩
  · show own_S p e below s₁ (mkF m 0 #[rv bs] []) _
    refine st126 _ ?_
    refine own_in X126 hx hby d15_3 (feq hc1).1 ?_
    refine own_aN X126 hx hby d15_6 ?_
    refine st127 _ ?_
    refine own_go (pc := 10) X127 hx hby d15_10 14 ?_
    exact retN X127 hx (t := .byte) hret (by simp) (hb hby d15_14) hr
  · show Qrm125 Z w_CS bs h0 _ T127.heap _
    rw [e127]
    exact ⟨rfl, N0, rfl⟩
def Qrm122 (Z : State) (w_CS : Int32) (bs be : Addr) (ke : ClassId) (h0 : Heap) (v : Option Value) (h : Heap) (L : List Loc) : Prop := v = some (.int (1 : Int32)) ∧ Fr Z.heap.size L ∧ h = h0
theorem rm122 (l : Launch) (Z : State) (a0 : Array Value) (hw : own_HW Z a0) (ws : List Jvm.Cond) (w_CS : Int32) (bs be : Addr) (ke : ClassId) (h0 : Heap) (Z0 : Ext Z.heap h0) (S_w_CS : own_w_CS Z w_CS) (E_bs : Exa Z h0 bs "java/lang/String") (F_bs_coder : Fld Z h0 bs "java/lang/String" "coder" "B" (.int (0 : Int32))) (F_bs_value : Fld Z h0 bs "java/lang/String" "value" "[B" (.ref be)) (V_be : Arv Z h0 be ke .byte (1 : Int32) [(.int (46 : Int32))] (.int (0 : Int32))) (hc1 : ¬ (w_CS = (0 : Int32))) :
    own_met l y_13 jdk_42_method_54_code 1 (some .int) ws ({ frames := 1, cells := 0, slots := 0, locals := 13 } : Room) Z #[(.ref bs)] h0 (Qrm122 Z w_CS bs be ke h0) := by
  refine own_start (plainFor_of_name pn_6) (fun m => ef_jdk_42_method_54_R m bs) ?_
  intro p e s m below meth c s₁ hx hby hml hown hnm X0 hZ e0 hret hlk
  have N0 := Fr.nil Z.heap.size
  obtain ⟨T123, X123, e123, st123⟩ := getF X0 hx hZ hown (host := "") (Or.inl (own_w hw 91 rfl)) Via.refl e0 F_bs_value (g := (mkF m 1 #[rv bs] [(.ref bs)])) rfl rfl (hb hby d14_1)
  obtain ⟨cl124, Ar124, q124, S124, Nn124, H124, G124⟩ := id V_be
  obtain ⟨_, T128, Lc128, X128, hQ128, st128⟩ := own_virtual (y := y_12) X123 hx hZ hown (own_w hw 92 rfl) (own_w hw 93 rfl) (own_w hw 95 rfl) (own_w hw 94 rfl) (own_w hw 35 rfl) (own_w hw 96 rfl) (rm125 l Z a0 hw [] w_CS bs h0 Z0 S_w_CS F_bs_coder hc1) e123 E_bs (g := (mkF m 6 #[rv bs] [(.ref bs), (.int (1 : Int32))])) (argsL := []) (rest := [(.int (1 : Int32))]) (W := 1) (lenOf pd_8 rfl) (hb hby d14_6) hml
  obtain ⟨rfl, N128q, e128⟩ := hQ128
  have N128 := Fr.app N0 N128q
  obtain ⟨fs, hr, hrun, hended, hW, hsame⟩ := X128.leave (v := some (.int (1 : Int32))) (fun h => by rw [hret] at h; cases h) hlk
  refine ⟨_, _, ?_, hrun, hended, _, _, rfl, ?_, ⟨_, rfl⟩, hW, hsame.mono (by decide) (by decide)⟩
  · show own_S p e below s₁ (mkF m 0 #[rv bs] []) _
    refine own_aN X0 hx hby d14_0 ?_
    refine st123 _ ?_
    refine X123.arraylength hx (by rw [e123]; exact Ar124.1) (State.isArrayOf_alike hZ.alike Ar124.2.1) (g := (mkF m 4 #[rv bs] [(.ref be)])) rfl rfl (hb hby d14_4) _ ?_
    rw [len_of S124 Nn124]
    refine own_aN X123 hx hby d14_5 ?_
    refine st128 _ ?_
    refine XS.ishr X128.here hx rfl (hb hby d14_9) rfl ?_
    show own_S p e below T128 (mkF m 10 #[rv bs] [(.int ((1 : Int32) >>> ((0 : Int32) &&& 31)))]) _
    rw [(by decide : ((1 : Int32) >>> ((0 : Int32) &&& 31)) = (1 : Int32))]
    exact retI X128 hx hret (hb hby d14_10) hr
  · show Qrm122 Z w_CS bs be ke h0 _ T128.heap _
    rw [e128]
    exact ⟨rfl, N128, rfl⟩
def Qrm134 (Z : State) (w_CS : Int32) (bb bs : Addr) (h0 : Heap) (v : Option Value) (h : Heap) (L : List Loc) : Prop := v = none ∧ Fr Z.heap.size L ∧ h = h0
theorem rm134 (l : Launch) (Z : State) (a0 : Array Value) (hw : own_HW Z a0) (ws : List Jvm.Cond) (w_CS : Int32) (bb bs : Addr) (h0 : Heap) (Z0 : Ext Z.heap h0) (S_w_CS : own_w_CS Z w_CS) (F_bb_coder : Fld Z h0 bb "java/lang/AbstractStringBuilder" "coder" "B" (.int (0 : Int32))) (E_bs : Exa Z h0 bs "java/lang/String") (F_bs_coder : Fld Z h0 bs "java/lang/String" "coder" "B" (.int (0 : Int32))) (hc1 : ¬ (w_CS = (0 : Int32))) :
    own_met l y_14 jdk_68_method_71_code 2 none ws ({ frames := 1, cells := 0, slots := 0, locals := 13 } : Room) Z #[(.ref bb), (.ref bs)] h0 (Qrm134 Z w_CS bb bs h0) := by
  refine own_start (plainFor_of_name pn_2) (fun m => ef_jdk_68_method_71_RR m bb bs) ?_
  intro p e s m below meth c s₁ hx hby hml hown hnm X0 hZ e0 hret hlk
  have N0 := Fr.nil Z.heap.size
  obtain ⟨T135, X135, e135, st135⟩ := getS2 X0 hx hZ hown (host := "") (Or.inl (own_w hw 34 rfl)) Via.refl e0 (S_w_CS.ext Z0) (g := (mkF m 0 #[rv bb, rv bs] [])) rfl (hb hby d17_0)
  obtain ⟨T136, X136, e136, st136⟩ := getF X135 hx hZ hown (host := "") (Or.inl (own_w hw 39 rfl)) Via.refl e135 F_bb_coder (g := (mkF m 7 #[rv bb, rv bs] [(.ref bb)])) rfl rfl (hb hby d17_7)
  obtain ⟨_, T137, Lc137, X137, hQ137, st137⟩ := own_virtual (y := y_12) X136 hx hZ hown (own_w hw 109 rfl) (own_w hw 93 rfl) (own_w hw 95 rfl) (own_w hw 94 rfl) (own_w hw 35 rfl) (own_w hw 96 rfl) (rm125 l Z a0 hw [] w_CS bs h0 Z0 S_w_CS F_bs_coder hc1) e136 E_bs (g := (mkF m 11 #[rv bb, rv bs] [(.ref bs), (.int (0 : Int32))])) (argsL := []) (rest := [(.int (0 : Int32))]) (W := 1) (lenOf pd_8 rfl) (hb hby d17_11) hml
  obtain ⟨rfl, N137q, e137⟩ := hQ137
  have N137 := Fr.app N0 N137q
  obtain ⟨fs, hr, hrun, hended, hW, hsame⟩ := X137.leave (v := none) (fun _ => rfl) hlk
  refine ⟨_, _, ?_, hrun, hended, _, _, rfl, ?_, ⟨_, rfl⟩, hW, hsame.mono (by decide) (by decide)⟩
  · show own_S p e below s₁ (mkF m 0 #[rv bb, rv bs] []) _
    refine st135 _ ?_
    refine own_in X135 hx hby d17_3 (feq hc1).1 ?_
    refine own_aN X135 hx hby d17_6 ?_
    refine st136 _ ?_
    refine own_aN X136 hx hby d17_10 ?_
    refine st137 _ ?_
    refine own_cy (pc := 14) X137 hx hby d17_14 (teq (rfl : (0 : Int32) = (0 : Int32))).1 21 ?_
    exact X137.returnOut hx hret (hb hby d17_21) hr
  · show Qrm134 Z w_CS bb bs h0 _ T137.heap _
    rw [e137]
    exact ⟨rfl, N137, rfl⟩
def Qrm141 (Z : State) (w_CS : Int32) (ba : Addr) (kv : ClassId) (cs : List Int32) (bs be : Addr) (ke : ClassId) (h0 : Heap) (v : Option Value) (h : Heap) (L : List Loc) : Prop := v = none ∧ Fr Z.heap.size L ∧ Keep h0 h [ba] ∧ Arv Z h ba kv .byte (16 : Int32) (own_buf 16 (cs ++ [(46 : Int32)])) (.int (0 : Int32))
theorem rm141 (l : Launch) (Z : State) (a0 : Array Value) (hw : own_HW Z a0) (ws : List Jvm.Cond) (w_CS : Int32) (ba : Addr) (kv : ClassId) (cs : List Int32) (bs be : Addr) (ke : ClassId) (h0 : Heap) (Z0 : Ext Z.heap h0) (S_w_CS : own_w_CS Z w_CS) (E_bs : Exa Z h0 bs "java/lang/String") (F_bs_coder : Fld Z h0 bs "java/lang/String" "coder" "B" (.int (0 : Int32))) (F_bs_value : Fld Z h0 bs "java/lang/String" "value" "[B" (.ref be)) (V_ba : Arv Z h0 ba kv .byte (16 : Int32) (own_buf 16 cs) (.int (0 : Int32))) (V_be : Arv Z h0 be ke .byte (1 : Int32) [(.int (46 : Int32))] (.int (0 : Int32))) (g_ba : Z.heap.size ≤ ba) (hc1 : ¬ (w_CS = (0 : Int32))) (hc65 : cs.length + 1 ≤ 16) :
    own_met l y_15 jdk_42_method_147_code 4 none ws ({ frames := 1, cells := 0, slots := 0, locals := 18 } : Room) Z #[(.ref bs), (.ref ba), (.int (Int32.ofNat cs.length)), (.int (0 : Int32))] h0 (Qrm141 Z w_CS ba kv cs bs be ke h0) := by
  refine own_start (plainFor_of_name pn_6) (fun m => ef_jdk_42_method_147_RRII m bs ba (Int32.ofNat cs.length) (0 : Int32)) ?_
  intro p e s m below meth c s₁ hx hby hml hown hnm X0 hZ e0 hret hlk
  have N0 := Fr.nil Z.heap.size
  obtain ⟨_, T142, Lc142, X142, hQ142, st142⟩ := own_virtual (y := y_12) X0 hx hZ hown (own_w hw 92 rfl) (own_w hw 93 rfl) (own_w hw 95 rfl) (own_w hw 94 rfl) (own_w hw 35 rfl) (own_w hw 96 rfl) (rm125 l Z a0 hw [] w_CS bs h0 Z0 S_w_CS F_bs_coder hc1) e0 E_bs (g := (mkF m 1 #[rv bs, rv ba, iv (Int32.ofNat cs.length), iv (0 : Int32)] [(.ref bs)])) (argsL := []) (rest := []) (W := 0) (lenOf pd_8 rfl) (hb hby d18_1) hml
  obtain ⟨rfl, N142q, e142⟩ := hQ142
  have N142 := Fr.app N0 N142q
  obtain ⟨T143, X143, e143, st143⟩ := getF X142 hx hZ hown (host := "") (Or.inl (own_w hw 91 rfl)) Via.refl e142 F_bs_value (g := (mkF m 9 #[rv bs, rv ba, iv (Int32.ofNat cs.length), iv (0 : Int32)] [(.ref bs)])) rfl rfl (hb hby d18_9)
  obtain ⟨T144, X144, e144, st144⟩ := getF X143 hx hZ hown (host := "") (Or.inl (own_w hw 91 rfl)) Via.refl e143 F_bs_value (g := (mkF m 18 #[rv bs, rv ba, iv (Int32.ofNat cs.length), iv (0 : Int32)] [(.ref bs), (.int (Int32.ofNat cs.length)), (.ref ba), (.int (0 : Int32)), (.ref be)])) rfl rfl (hb hby d18_18)
  obtain ⟨cl145, Ar145, q145, S145, Nn145, H145, G145⟩ := id V_be
  obtain ⟨T146, h146, L146, X146, e146, N146, K146q, V146, st146⟩ := own_cp X144 hx hZ hown (own_w hw 115 rfl) (own_w hw 118 rfl) (own_w hw 116 rfl) (own_w hw 117 rfl) e144 V_be V_ba (own_cp_add (ds := [(46 : Int32)]) hc65 (by decide) (by decide)) N142 g_ba (g := (mkF m 22 #[rv bs, rv ba, iv (Int32.ofNat cs.length), iv (0 : Int32)] [(.int (1 : Int32)), (.int (Int32.ofNat cs.length)), (.ref ba), (.int (0 : Int32)), (.ref be)])) (W := 0) (hb hby d18_22) hml
  have XX146 : Ext Z.heap h146 := own_extK Z0 K146q (allS g_ba all0)
  have K146 : Keep h0 h146 [ba] := (Keep.refl h0 [ba]).trans K146q (allS (Or.inl (List.mem_of_getElem? (i := 0) rfl)) all0)
  obtain ⟨fs, hr, hrun, hended, hW, hsame⟩ := X146.leave (v := none) (fun _ => rfl) hlk
  refine ⟨_, _, ?_, hrun, hended, _, _, rfl, ?_, ⟨_, rfl⟩, hW, hsame.mono (by decide) (by decide)⟩
  · show own_S p e below s₁ (mkF m 0 #[rv bs, rv ba, iv (Int32.ofNat cs.length), iv (0 : Int32)] []) _
    refine own_aN X0 hx hby d18_0 ?_
    refine st142 _ ?_
    refine own_iN X142 hx hby d18_4 ?_
    refine own_cn X142 hx hby d18_5 (teq (rfl : (0 : Int32) = (0 : Int32))).2 ?_
    refine own_aN X142 hx hby d18_8 ?_
    refine st143 _ ?_
    refine own_k X143 hx hby d18_12 ?_
    refine own_aN X143 hx hby d18_13 ?_
    refine own_iN X143 hx hby d18_14 ?_
    refine own_iN X143 hx hby d18_15 ?_
    refine XS.ishl X143.here hx rfl (hb hby d18_16) rfl ?_
    show own_S p e below T143 (mkF m 17 #[rv bs, rv ba, iv (Int32.ofNat cs.length), iv (0 : Int32)] [(.int ((Int32.ofNat cs.length) <<< ((0 : Int32) &&& 31))), (.ref ba), (.int (0 : Int32)), (.ref be)]) _
    rw [(own_shl0 _)]
    refine own_aN X143 hx hby d18_17 ?_
    refine st144 _ ?_
    refine X144.arraylength hx (by rw [e144]; exact Ar145.1) (State.isArrayOf_alike hZ.alike Ar145.2.1) (g := (mkF m 21 #[rv bs, rv ba, iv (Int32.ofNat cs.length), iv (0 : Int32)] [(.ref be), (.int (Int32.ofNat cs.length)), (.ref ba), (.int (0 : Int32)), (.ref be)])) rfl rfl (hb hby d18_21) _ ?_
    rw [len_of S145 Nn145]
    refine st146 _ ?_
    refine own_go (pc := 25) X146 hx hby d18_25 43 ?_
    exact X146.returnOut hx hret (hb hby d18_43) hr
  · show Qrm141 Z w_CS ba kv cs bs be ke h0 _ T146.heap _
    rw [e146]
    exact ⟨rfl, N146, K146, V146⟩
def Qrm133 (Z : State) (w_CS : Int32) (bb ba : Addr) (kv : ClassId) (cs : List Int32) (bs be : Addr) (ke : ClassId) (h0 : Heap) (v : Option Value) (h : Heap) (L : List Loc) : Prop := v = none ∧ Fr Z.heap.size L ∧ Keep h0 h [ba] ∧ Arv Z h ba kv .byte (16 : Int32) (own_buf 16 (cs ++ [(46 : Int32)])) (.int (0 : Int32))
theorem rm133 (l : Launch) (Z : State) (a0 : Array Value) (hw : own_HW Z a0) (ws : List Jvm.Cond) (w_CS : Int32) (bb ba : Addr) (kv : ClassId) (cs : List Int32) (bs be : Addr) (ke : ClassId) (h0 : Heap) (Z0 : Ext Z.heap h0) (S_w_CS : own_w_CS Z w_CS) (E_bb : Exa Z h0 bb "java/lang/StringBuilder") (F_bb_coder : Fld Z h0 bb "java/lang/AbstractStringBuilder" "coder" "B" (.int (0 : Int32))) (F_bb_value : Fld Z h0 bb "java/lang/AbstractStringBuilder" "value" "[B" (.ref ba)) (E_bs : Exa Z h0 bs "java/lang/String") (F_bs_coder : Fld Z h0 bs "java/lang/String" "coder" "B" (.int (0 : Int32))) (F_bs_value : Fld Z h0 bs "java/lang/String" "value" "[B" (.ref be)) (V_ba : Arv Z h0 ba kv .byte (16 : Int32) (own_buf 16 cs) (.int (0 : Int32))) (V_be : Arv Z h0 be ke .byte (1 : Int32) [(.int (46 : Int32))] (.int (0 : Int32))) (g_ba : Z.heap.size ≤ ba) (hc1 : ¬ (w_CS = (0 : Int32))) (hc65 : cs.length + 1 ≤ 16) :
    own_met l y_16 jdk_68_method_73_code 3 none ws ({ frames := 2, cells := 0, slots := 0, locals := 33 } : Room) Z #[(.ref bb), (.int (Int32.ofNat cs.length)), (.ref bs)] h0 (Qrm133 Z w_CS bb ba kv cs bs be ke h0) := by
  refine own_start (plainFor_of_name pn_2) (fun m => ef_jdk_68_method_73_RIR m bb (Int32.ofNat cs.length) bs) ?_
  intro p e s m below meth c s₁ hx hby hml hown hnm X0 hZ e0 hret hlk
  have N0 := Fr.nil Z.heap.size
  obtain ⟨_, T138, Lc138, X138, hQ138, st138⟩ := own_virtual (y := y_14) X0 hx hZ hown (own_w hw 104 rfl) (own_decl (own_w hw 105 rfl) (own_w hw 108 rfl)) (own_w hw 107 rfl) (own_w hw 105 rfl) (own_w hw 31 rfl) (own_w hw 108 rfl) (rm134 l Z a0 hw [] w_CS bb bs h0 Z0 S_w_CS F_bb_coder E_bs F_bs_coder hc1) e0 E_bb (g := (mkF m 2 #[rv bb, iv (Int32.ofNat cs.length), rv bs] [(.ref bs), (.ref bb)])) (argsL := [(.ref bs)]) (rest := []) (W := 0) (lenOf pd_10 rfl) (hb hby d16_2) hml
  obtain ⟨rfl, N138q, e138⟩ := hQ138
  have N138 := Fr.app N0 N138q
  obtain ⟨T139, X139, e139, st139⟩ := getF X138 hx hZ hown (host := "") (Or.inl (own_w hw 37 rfl)) Via.refl e138 F_bb_value (g := (mkF m 7 #[rv bb, iv (Int32.ofNat cs.length), rv bs] [(.ref bb), (.ref bs)])) rfl rfl (hb hby d16_7)
  obtain ⟨T140, X140, e140, st140⟩ := getF X139 hx hZ hown (host := "") (Or.inl (own_w hw 39 rfl)) Via.refl e139 F_bb_coder (g := (mkF m 12 #[rv bb, iv (Int32.ofNat cs.length), rv bs] [(.ref bb), (.int (Int32.ofNat cs.length)), (.ref ba), (.ref bs)])) rfl rfl (hb hby d16_12)
  obtain ⟨_, T147, Lc147, X147, hQ147, st147⟩ := own_virtual (y := y_15) X140 hx hZ hown (own_w hw 110 rfl) (own_w hw 111 rfl) (own_w hw 113 rfl) (own_w hw 112 rfl) (own_w hw 35 rfl) (own_w hw 114 rfl) (rm141 l Z a0 hw [] w_CS ba kv cs bs be ke h0 Z0 S_w_CS E_bs F_bs_coder F_bs_value V_ba V_be g_ba hc1 hc65) e140 E_bs (g := (mkF m 15 #[rv bb, iv (Int32.ofNat cs.length), rv bs] [(.int (0 : Int32)), (.int (Int32.ofNat cs.length)), (.ref ba), (.ref bs)])) (argsL := [(.ref ba), (.int (Int32.ofNat cs.length)), (.int (0 : Int32))]) (rest := []) (W := 0) (lenOf pd_11 rfl) (hb hby d16_15) hml
  obtain ⟨rfl, N147q, K147q, q147_V_ba⟩ := hQ147
  have K147 : Keep h0 T147.heap [ba] := (Keep.refl h0 [ba]).trans K147q (allS (Or.inl (List.mem_of_getElem? (i := 0) rfl)) all0)
  have XX147 : Ext Z.heap T147.heap := own_extK Z0 K147q (allS g_ba all0)
  have N147 := Fr.app N138 N147q
  obtain ⟨fs, hr, hrun, hended, hW, hsame⟩ := X147.leave (v := none) (fun _ => rfl) hlk
  refine ⟨_, _, ?_, hrun, hended, _, _, rfl, ?_, ⟨_, rfl⟩, hW, hsame.mono (by decide) (by decide)⟩
  · show own_S p e below s₁ (mkF m 0 #[rv bb, iv (Int32.ofNat cs.length), rv bs] []) _
    refine own_aN X0 hx hby d16_0 ?_
    refine own_aN X0 hx hby d16_1 ?_
    refine st138 _ ?_
    refine own_aN X138 hx hby d16_5 ?_
    refine own_aN X138 hx hby d16_6 ?_
    refine st139 _ ?_
    refine own_iN X139 hx hby d16_10 ?_
    refine own_aN X139 hx hby d16_11 ?_
    refine st140 _ ?_
    refine st147 _ ?_
    exact X147.returnOut hx hret (hb hby d16_18) hr
  · show Qrm133 Z w_CS bb ba kv cs bs be ke h0 _ T147.heap _
    exact ⟨rfl, N147, K147, q147_V_ba⟩
def Qrm121 (Z : State) (w_CS : Int32) (bb ba : Addr) (kv : ClassId) (cs : List Int32) (bs be : Addr) (ke : ClassId) (h0 : Heap) (v : Option Value) (h : Heap) (L : List Loc) : Prop := v = some (.ref bb) ∧ Fr Z.heap.size L ∧ Keep h0 h [ba, bb] ∧ Exa Z h bb "java/lang/StringBuilder" ∧ Fld Z h bb "java/lang/AbstractStringBuilder" "coder" "B" (.int (0 : Int32)) ∧ Fld Z h bb "java/lang/AbstractStringBuilder" "count" "I" (.int (Int32.ofNat (cs.length + 1))) ∧ Fld Z h bb "java/lang/AbstractStringBuilder" "value" "[B" (.ref ba) ∧ Arv Z h ba kv .byte (16 : Int32) (own_buf 16 (cs ++ [(46 : Int32)])) (.int (0 : Int32))
theorem rm121 (l : Launch) (Z : State) (a0 : Array Value) (hw : own_HW Z a0) (ws : List Jvm.Cond) (w_CS : Int32) (bb ba : Addr) (kv : ClassId) (cs : List Int32) (bs be : Addr) (ke : ClassId) (h0 : Heap) (Z0 : Ext Z.heap h0) (S_w_CS : own_w_CS Z w_CS) (E_bb : Exa Z h0 bb "java/lang/StringBuilder") (F_bb_coder : Fld Z h0 bb "java/lang/AbstractStringBuilder" "coder" "B" (.int (0 : Int32))) (F_bb_count : Fld Z h0 bb "java/lang/AbstractStringBuilder" "count" "I" (.int (Int32.ofNat cs.length))) (F_bb_value : Fld Z h0 bb "java/lang/AbstractStringBuilder" "value" "[B" (.ref ba)) (E_bs : Exa Z h0 bs "java/lang/String") (F_bs_coder : Fld Z h0 bs "java/lang/String" "coder" "B" (.int (0 : Int32))) (F_bs_value : Fld Z h0 bs "java/lang/String" "value" "[B" (.ref be)) (V_ba : Arv Z h0 ba kv .byte (16 : Int32) (own_buf 16 cs) (.int (0 : Int32))) (V_be : Arv Z h0 be ke .byte (1 : Int32) [(.int (46 : Int32))] (.int (0 : Int32))) (g_bb : Z.heap.size ≤ bb) (g_ba : Z.heap.size ≤ ba) (hc1 : ¬ (w_CS = (0 : Int32))) (hc65 : cs.length + 1 ≤ 16) (hc63 : bb ≠ ba) (hc64 : ba ≠ bb) :
    own_met l y_17 jdk_68_method_22_code 3 (some (.object "java/lang/AbstractStringBuilder")) ws ({ frames := 3, cells := 0, slots := 0, locals := 47 } : Room) Z #[(.ref bb), (.ref bs)] h0 (Qrm121 Z w_CS bb ba kv cs bs be ke h0) := by
  refine own_start (plainFor_of_name pn_2) (fun m => ef_jdk_68_method_22_RR m bb bs) ?_
  intro p e s m below meth c s₁ hx hby hml hown hnm X0 hZ e0 hret hlk
  have N0 := Fr.nil Z.heap.size
  obtain ⟨_, T129, Lc129, X129, hQ129, st129⟩ := own_virtual (y := y_13) X0 hx hZ hown (own_w hw 86 rfl) (own_w hw 87 rfl) (own_w hw 89 rfl) (own_w hw 88 rfl) (own_w hw 35 rfl) (own_w hw 90 rfl) (rm122 l Z a0 hw [] w_CS bs be ke h0 Z0 S_w_CS E_bs F_bs_coder F_bs_value V_be hc1) e0 E_bs (g := (mkF m 10 #[rv bb, rv bs, .unset] [(.ref bs)])) (argsL := []) (rest := []) (W := 0) (lenOf pd_9 rfl) (hb hby d13_10) hml
  obtain ⟨rfl, N129q, e129⟩ := hQ129
  have N129 := Fr.app N0 N129q
  obtain ⟨T130, X130, e130, st130⟩ := getF X129 hx hZ hown (host := "") (Or.inl (own_w hw 51 rfl)) Via.refl e129 F_bb_count (g := (mkF m 16 #[rv bb, rv bs, iv (1 : Int32)] [(.ref bb), (.ref bb)])) rfl rfl (hb hby d13_16)
  obtain ⟨_, T131, Lc131, X131, hQ131, st131⟩ := own_virtual (y := y_3) X130 hx hZ hown (own_w hw 57 rfl) (own_decl (own_w hw 58 rfl) (own_w hw 61 rfl)) (own_w hw 60 rfl) (own_w hw 58 rfl) (own_w hw 31 rfl) (own_w hw 61 rfl) (rm67 l Z a0 hw [] bb ba kv cs (cs.length + 1) h0 Z0 F_bb_value F_bb_coder V_ba hc65) e130 E_bb (g := (mkF m 21 #[rv bb, rv bs, iv (1 : Int32)] [(.int (Int32.ofNat (cs.length + 1))), (.ref bb)])) (argsL := [(.int (Int32.ofNat (cs.length + 1)))]) (rest := []) (W := 0) (lenOf pd_4 rfl) (hb hby d13_21) hml
  obtain ⟨rfl, N131q, e131⟩ := hQ131
  have N131 := Fr.app N129 N131q
  obtain ⟨T132, X132, e132, st132⟩ := getF X131 hx hZ hown (host := "") (Or.inl (own_w hw 51 rfl)) Via.refl e131 F_bb_count (g := (mkF m 26 #[rv bb, rv bs, iv (1 : Int32)] [(.ref bb), (.ref bb)])) rfl rfl (hb hby d13_26)
  obtain ⟨_, T148, Lc148, X148, hQ148, st148⟩ := own_virtual (y := y_16) X132 hx hZ hown (own_w hw 99 rfl) (own_decl (own_w hw 100 rfl) (own_w hw 103 rfl)) (own_w hw 102 rfl) (own_w hw 100 rfl) (own_w hw 31 rfl) (own_w hw 103 rfl) (rm133 l Z a0 hw [] w_CS bb ba kv cs bs be ke h0 Z0 S_w_CS E_bb F_bb_coder F_bb_value E_bs F_bs_coder F_bs_value V_ba V_be g_ba hc1 hc65) e132 E_bb (g := (mkF m 30 #[rv bb, rv bs, iv (1 : Int32)] [(.ref bs), (.int (Int32.ofNat cs.length)), (.ref bb)])) (argsL := [(.int (Int32.ofNat cs.length)), (.ref bs)]) (rest := []) (W := 0) (lenOf pd_12 rfl) (hb hby d13_30) hml
  obtain ⟨rfl, N148q, K148q, q148_V_ba⟩ := hQ148
  have K148 : Keep h0 T148.heap [ba, bb] := (Keep.refl h0 [ba, bb]).trans K148q (allS (Or.inl (List.mem_of_getElem? (i := 0) rfl)) all0)
  have XX148 : Ext Z.heap T148.heap := own_extK Z0 K148q (allS g_ba all0)
  have N148 := Fr.app N131 N148q
  obtain ⟨T149, X149, e149, st149⟩ := getF X148 hx hZ hown (host := "") (Or.inl (own_w hw 51 rfl)) Via.refl rfl (F_bb_count.keep K148q (ninS hc63 (nin0))) (g := (mkF m 35 #[rv bb, rv bs, iv (1 : Int32)] [(.ref bb), (.ref bb)])) rfl rfl (hb hby d13_35)
  obtain ⟨T150, h150, X150, e150, W150, st150⟩ := putF X149 hx hZ hown (host := "") (Or.inl (own_w hw 51 rfl)) Via.refl e149 (F_bb_count.keep K148q (ninS hc63 (nin0))) (E_bb.keep K148q) (Or.inl (own_w hw 52 rfl)) (own_w hw 22 rfl) (ty := .int) (by decide) rfl rfl (g := (mkF m 40 #[rv bb, rv bs, iv (1 : Int32)] [(.int (Int32.ofNat (cs.length + 1))), (.ref bb)])) rfl rfl (hb hby d13_40)
  have K150 : Keep h0 h150 [ba, bb] := K148.wr W150 (Or.inl (List.mem_of_getElem? (i := 1) rfl))
  have XX150 : Ext Z.heap h150 := own_extW XX148 W150 g_bb
  have N150 := Fr.snoc X150 N148 g_bb
  have f151_F_bb_coder : Fld Z h150 bb "java/lang/AbstractStringBuilder" "coder" "B" (.int (0 : Int32)) := ((F_bb_coder.keep K148q (ninS hc63 (nin0))).other W150 (Or.inr (slot_ne (Or.inl (own_w hw 40 rfl)) (Or.inl (own_w hw 52 rfl)) (by decide) (t := .byte) (t' := .int) (by decide) (by decide))))
  have f152_F_bb_value : Fld Z h150 bb "java/lang/AbstractStringBuilder" "value" "[B" (.ref ba) := ((F_bb_value.keep K148q (ninS hc63 (nin0))).other W150 (Or.inr (slot_ne (Or.inl (own_w hw 38 rfl)) (Or.inl (own_w hw 52 rfl)) (by decide) (t := (.array .byte)) (t' := .int) (by decide) (by decide))))
  obtain ⟨fs, hr, hrun, hended, hW, hsame⟩ := X150.leave (v := some (.ref bb)) (fun h => by rw [hret] at h; cases h) hlk
  refine ⟨_, _, ?_, hrun, hended, _, _, rfl, ?_, ⟨_, rfl⟩, hW, hsame.mono (by decide) (by decide)⟩
  · show own_S p e below s₁ (mkF m 0 #[rv bb, rv bs, .unset] []) _
    refine own_aN X0 hx hby d13_0 ?_
    refine XS.ifnonnullYes X0.here hx rfl (pc0 := 1) (pc' := 9) rfl (hb hby d13_1) rfl (by decide) (by decide) ?_
    refine own_aN X0 hx hby d13_9 ?_
    refine st129 _ ?_
    refine XS.istoreN X129.here hx rfl (hb hby d13_13) rfl (l' := #[rv bb, rv bs, iv (1 : Int32)]) rfl ?_
    refine own_aN X129 hx hby d13_14 ?_
    refine own_aN X129 hx hby d13_15 ?_
    refine st130 _ ?_
    refine own_iN X130 hx hby d13_19 ?_
    refine XS.iadd X130.here hx rfl (hb hby d13_20) rfl ?_
    show own_S p e below T130 (mkF m 21 #[rv bb, rv bs, iv (1 : Int32)] [(.int ((Int32.ofNat cs.length) + (1 : Int32))), (.ref bb)]) _
    rw [(own_succ _)]
    refine st131 _ ?_
    refine own_aN X131 hx hby d13_24 ?_
    refine own_aN X131 hx hby d13_25 ?_
    refine st132 _ ?_
    refine own_aN X132 hx hby d13_29 ?_
    refine st148 _ ?_
    refine own_aN X148 hx hby d13_33 ?_
    refine XS.dup X148.here hx rfl (hb hby d13_34) rfl rfl ?_
    refine st149 _ ?_
    refine own_iN X149 hx hby d13_38 ?_
    refine XS.iadd X149.here hx rfl (hb hby d13_39) rfl ?_
    show own_S p e below T149 (mkF m 40 #[rv bb, rv bs, iv (1 : Int32)] [(.int ((Int32.ofNat cs.length) + (1 : Int32))), (.ref bb)]) _
    rw [(own_succ _)]
    refine st150 _ ?_
    refine own_aN X150 hx hby d13_43 ?_
    jvm_step X150.here [X150.here.top, hx, (hb hby d13_44), X150.method', hret, Value.isRef, FieldType.isReference]
    first | (intro acts; rw [hr _ acts rfl rfl rfl]) | rw [hr _ _ rfl rfl rfl]
    exact Steps.refl _
  · show Qrm121 Z w_CS bb ba kv cs bs be ke h0 _ T150.heap _
    rw [e150]
    exact ⟨rfl, N150, K150, ((E_bb.keep K148q).wr W150), f151_F_bb_coder, ((F_bb_count.keep K148q (ninS hc63 (nin0))).same W150), f152_F_bb_value, (q148_V_ba.other W150 hc64)⟩
def Qrm120 (Z : State) (w_CS : Int32) (bb ba : Addr) (kv : ClassId) (cs : List Int32) (bs be : Addr) (ke : ClassId) (h0 : Heap) (v : Option Value) (h : Heap) (L : List Loc) : Prop := v = some (.ref bb) ∧ Fr Z.heap.size L ∧ Keep h0 h [bb, ba] ∧ Exa Z h bb "java/lang/StringBuilder" ∧ Fld Z h bb "java/lang/AbstractStringBuilder" "value" "[B" (.ref ba) ∧ Fld Z h bb "java/lang/AbstractStringBuilder" "coder" "B" (.int (0 : Int32)) ∧ Fld Z h bb "java/lang/AbstractStringBuilder" "count" "I" (.int (Int32.ofNat (cs.length + 1))) ∧ Arv Z h ba kv .byte (16 : Int32) (own_buf 16 (cs ++ [(46 : Int32)])) (.int (0 : Int32))
theorem rm120 (l : Launch) (Z : State) (a0 : Array Value) (hw : own_HW Z a0) (ws : List Jvm.Cond) (w_CS : Int32) (bb ba : Addr) (kv : ClassId) (cs : List Int32) (bs be : Addr) (ke : ClassId) (h0 : Heap) (Z0 : Ext Z.heap h0) (S_w_CS : own_w_CS Z w_CS) (E_bb : Exa Z h0 bb "java/lang/StringBuilder") (F_bb_value : Fld Z h0 bb "java/lang/AbstractStringBuilder" "value" "[B" (.ref ba)) (F_bb_coder : Fld Z h0 bb "java/lang/AbstractStringBuilder" "coder" "B" (.int (0 : Int32))) (F_bb_count : Fld Z h0 bb "java/lang/AbstractStringBuilder" "count" "I" (.int (Int32.ofNat cs.length))) (V_ba : Arv Z h0 ba kv .byte (16 : Int32) (own_buf 16 cs) (.int (0 : Int32))) (E_bs : Exa Z h0 bs "java/lang/String") (F_bs_coder : Fld Z h0 bs "java/lang/String" "coder" "B" (.int (0 : Int32))) (F_bs_value : Fld Z h0 bs "java/lang/String" "value" "[B" (.ref be)) (V_be : Arv Z h0 be ke .byte (1 : Int32) [(.int (46 : Int32))] (.int (0 : Int32))) (g_bb : Z.heap.size ≤ bb) (g_ba : Z.heap.size ≤ ba) (hc1 : ¬ (w_CS = (0 : Int32))) (hc65 : cs.length + 1 ≤ 16) (hc63 : bb ≠ ba) (hc64 : ba ≠ bb) :
    own_met l y_18 jdk_67_method_7_code 2 (some (.object "java/lang/StringBuilder")) ws ({ frames := 4, cells := 0, slots := 0, locals := 61 } : Room) Z #[(.ref bb), (.ref bs)] h0 (Qrm120 Z w_CS bb ba kv cs bs be ke h0) := by
  refine own_start (plainFor_of_name pn_5) (fun m => ef_jdk_67_method_7_RR m bb bs) ?_
  intro p e s m below meth c s₁ hx hby hml hown hnm X0 hZ e0 hret hlk
  have N0 := Fr.nil Z.heap.size
  obtain ⟨_, T153, Lc153, X153, hQ153, st153⟩ := own_super (y := y_17) X0 hx hZ hown (own_w hw 82 rfl) (own_same (own_w hw 83 rfl) (own_w hw 60 rfl) rfl (by decide)) (own_w hw 83 rfl) (own_w hw 48 rfl) (own_w hw 31 rfl) (own_w hw 85 rfl) (rm121 l Z a0 hw [] w_CS bb ba kv cs bs be ke h0 Z0 S_w_CS E_bb F_bb_coder F_bb_count F_bb_value E_bs F_bs_coder F_bs_value V_ba V_be g_bb g_ba hc1 hc65 hc63 hc64) e0 (Ins.self E_bb) (g := (mkF m 2 #[rv bb, rv bs] [(.ref bs), (.ref bb)])) (argsL := [(.ref bs)]) (rest := []) (W := 0) (lenOf pd_13 rfl) (hb hby d12_2) hml
  obtain ⟨rfl, N153q, K153q, q153_E_bb, q153_F_bb_coder, q153_F_bb_count, q153_F_bb_value, q153_V_ba⟩ := hQ153
  have K153 : Keep h0 T153.heap [bb, ba] := (Keep.refl h0 [bb, ba]).trans K153q (allS (Or.inl (List.mem_of_getElem? (i := 1) rfl)) (allS (Or.inl (List.mem_of_getElem? (i := 0) rfl)) all0))
  have XX153 : Ext Z.heap T153.heap := own_extK Z0 K153q (allS g_ba (allS g_bb all0))
  have N153 := Fr.app N0 N153q
  obtain ⟨fs, hr, hrun, hended, hW, hsame⟩ := X153.leave (v := some (.ref bb)) (fun h => by rw [hret] at h; cases h) hlk
  refine ⟨_, _, ?_, hrun, hended, _, _, rfl, ?_, ⟨_, rfl⟩, hW, hsame.mono (by decide) (by decide)⟩
  · show own_S p e below s₁ (mkF m 0 #[rv bb, rv bs] []) _
    refine own_aN X0 hx hby d12_0 ?_
    refine own_aN X0 hx hby d12_1 ?_
    refine st153 _ ?_
    refine XS.pop X153.here hx rfl (hb hby d12_5) rfl rfl ?_
    refine own_aN X153 hx hby d12_6 ?_
    jvm_step X153.here [X153.here.top, hx, (hb hby d12_7), X153.method', hret, Value.isRef, FieldType.isReference]
    first | (intro acts; rw [hr _ acts rfl rfl rfl]) | rw [hr _ _ rfl rfl rfl]
    exact Steps.refl _
  · show Qrm120 Z w_CS bb ba kv cs bs be ke h0 _ T153.heap _
    exact ⟨rfl, N153, K153, q153_E_bb, q153_F_bb_value, q153_F_bb_coder, q153_F_bb_count, q153_V_ba⟩
def Qown_apS_n16 (Z : State) (w_CS : Int32) (bb ba : Addr) (kv : ClassId) (cs : List Int32) (bs be : Addr) (ke : ClassId) (h0 : Heap) (v : Option Value) (h : Heap) (L : List Loc) : Prop := v = some (.ref bb) ∧ Fr Z.heap.size L ∧ Keep h0 h [bb, ba] ∧ Exa Z h bb "java/lang/StringBuilder" ∧ Fld Z h bb "java/lang/AbstractStringBuilder" "value" "[B" (.ref ba) ∧ Fld Z h bb "java/lang/AbstractStringBuilder" "coder" "B" (.int (0 : Int32)) ∧ Fld Z h bb "java/lang/AbstractStringBuilder" "count" "I" (.int (Int32.ofNat (cs ++ [(46 : Int32)]).length)) ∧ Arv Z h ba kv .byte (16 : Int32) (own_buf 16 (cs ++ [(46 : Int32)])) (.int (0 : Int32))
theorem own_apS_n16 (l : Launch) (Z : State) (a0 : Array Value) (hw : own_HW Z a0) (ws : List Jvm.Cond) (w_CS : Int32) (bb ba : Addr) (kv : ClassId) (cs : List Int32) (bs be : Addr) (ke : ClassId) (h0 : Heap) (Z0 : Ext Z.heap h0) (S_w_CS : own_w_CS Z w_CS) (E_bb : Exa Z h0 bb "java/lang/StringBuilder") (F_bb_value : Fld Z h0 bb "java/lang/AbstractStringBuilder" "value" "[B" (.ref ba)) (F_bb_coder : Fld Z h0 bb "java/lang/AbstractStringBuilder" "coder" "B" (.int (0 : Int32))) (F_bb_count : Fld Z h0 bb "java/lang/AbstractStringBuilder" "count" "I" (.int (Int32.ofNat cs.length))) (V_ba : Arv Z h0 ba kv .byte (16 : Int32) (own_buf 16 cs) (.int (0 : Int32))) (E_bs : Exa Z h0 bs "java/lang/String") (F_bs_coder : Fld Z h0 bs "java/lang/String" "coder" "B" (.int (0 : Int32))) (F_bs_value : Fld Z h0 bs "java/lang/String" "value" "[B" (.ref be)) (V_be : Arv Z h0 be ke .byte (1 : Int32) [(.int (46 : Int32))] (.int (0 : Int32))) (g_bb : Z.heap.size ≤ bb) (g_ba : Z.heap.size ≤ ba) (hc1 : ¬ (w_CS = (0 : Int32))) (hc65 : cs.length + 1 ≤ 16) (hc63 : bb ≠ ba) (hc64 : ba ≠ bb) :
    own_met l y_18 jdk_67_method_7_code 2 (some (.object "java/lang/StringBuilder")) ws ({ frames := 4, cells := 0, slots := 0, locals := 61 } : Room) Z #[(.ref bb), (.ref bs)] h0 (Qown_apS_n16 Z w_CS bb ba kv cs bs be ke h0) := by
  exact own_mono (rm120 l Z a0 hw ws w_CS bb ba kv cs bs be ke h0 Z0 S_w_CS E_bb F_bb_value F_bb_coder F_bb_count V_ba E_bs F_bs_coder F_bs_value V_be g_bb g_ba hc1 hc65 hc63 hc64) fun v h L ⟨z1, z2, z3, f0, f1, f2, f3, f4⟩ => ⟨z1, z2, z3, f0, f1, f2, (by rw [List.length_append]; exact f3), f4⟩
def Qrm155 (Z : State) (w_CS qa : Int32) (kk : Nat) (w_DO : Addr) (k_w_DO : ClassId) (w_DT : Addr) (k_w_DT : ClassId) (bb ba : Addr) (kv : ClassId) (cs : List Int32) (h0 : Heap) (v : Option Value) (h : Heap) (L : List Loc) : Prop := v = some (.ref bb) ∧ Fr Z.heap.size L ∧ Keep h0 h [ba, bb] ∧ Exa Z h bb "java/lang/StringBuilder" ∧ Fld Z h bb "java/lang/AbstractStringBuilder" "coder" "B" (.int (0 : Int32)) ∧ Fld Z h bb "java/lang/AbstractStringBuilder" "count" "I" (.int (Int32.ofNat (cs.length + kk))) ∧ Fld Z h bb "java/lang/AbstractStringBuilder" "value" "[B" (.ref ba) ∧ Arv Z h ba kv .byte (34 : Int32) (own_buf 34 (cs ++ own_ds qa kk)) (.int (0 : Int32))
theorem rm155 (l : Launch) (Z : State) (a0 : Array Value) (hw : own_HW Z a0) (ws : List Jvm.Cond) (w_CS qa : Int32) (kk : Nat) (w_DO : Addr) (k_w_DO : ClassId) (w_DT : Addr) (k_w_DT : ClassId) (bb ba : Addr) (kv : ClassId) (cs : List Int32) (h0 : Heap) (Z0 : Ext Z.heap h0) (S_w_CS : own_w_CS Z w_CS) (S_w_DO : own_Sw_DO Z w_DO) (A_w_DO : Arv Z Z.heap w_DO k_w_DO .byte (100 : Int32) own_ones (.int (0 : Int32))) (S_w_DT : own_Sw_DT Z w_DT) (A_w_DT : Arv Z Z.heap w_DT k_w_DT .byte (100 : Int32) own_tens (.int (0 : Int32))) (E_bb : Exa Z h0 bb "java/lang/StringBuilder") (F_bb_coder : Fld Z h0 bb "java/lang/AbstractStringBuilder" "coder" "B" (.int (0 : Int32))) (F_bb_count : Fld Z h0 bb "java/lang/AbstractStringBuilder" "count" "I" (.int (Int32.ofNat cs.length))) (F_bb_value : Fld Z h0 bb "java/lang/AbstractStringBuilder" "value" "[B" (.ref ba)) (V_ba : Arv Z h0 ba kv .byte (34 : Int32) (own_buf 34 cs) (.int (0 : Int32))) (g_bb : Z.heap.size ≤ bb) (g_ba : Z.heap.size ≤ ba) (hc21 : own_nd qa kk) (hc66 : cs.length + kk ≤ 34) (hc1 : ¬ (w_CS = (0 : Int32))) (hc63 : bb ≠ ba) (hc64 : ba ≠ bb) :
    own_met l y_10 jdk_68_method_32_code 4 (some (.object "java/lang/AbstractStringBuilder")) ws ({ frames := 1, cells := 0, slots := 0, locals := 18 } : Room) Z #[(.ref bb), (.int qa)] h0 (Qrm155 Z w_CS qa kk w_DO k_w_DO w_DT k_w_DT bb ba kv cs h0) := by
  refine own_start (plainFor_of_name pn_2) (fun m => ef_jdk_68_method_32_RI m bb qa) ?_
  intro p e s m below meth c s₁ hx hby hml hown hnm X0 hZ e0 hret hlk
  have N0 := Fr.nil Z.heap.size
  obtain ⟨T156, X156, e156, st156⟩ := getF X0 hx hZ hown (host := "") (Or.inl (own_w hw 51 rfl)) Via.refl e0 F_bb_count (g := (mkF m 1 #[rv bb, iv qa, .unset, .unset] [(.ref bb)])) rfl rfl (hb hby d7_1)
  obtain ⟨_, T157, Lc157, X157, hQ157, st157⟩ := own_static (y := y_0) X156 hx hZ hown (own_w hw 53 rfl) (own_w hw 54 rfl) (own_w hw 55 rfl) (own_w hw 56 rfl) (own_ssJ l Z a0 hw [] qa kk h0 Z0 hc21) e156 (g := (mkF m 7 #[rv bb, iv qa, iv (Int32.ofNat cs.length), .unset] [(.int qa), (.int (Int32.ofNat cs.length))])) (argsL := [(.int qa)]) (rest := [(.int (Int32.ofNat cs.length))]) (W := 1) (lenOf pd_2 rfl) (hb hby d7_7) hml
  obtain ⟨rfl, N157q, e157⟩ := hQ157
  have N157 := Fr.app N0 N157q
  obtain ⟨_, T158, Lc158, X158, hQ158, st158⟩ := own_virtual (y := y_3) X157 hx hZ hown (own_w hw 57 rfl) (own_decl (own_w hw 58 rfl) (own_w hw 61 rfl)) (own_w hw 60 rfl) (own_w hw 58 rfl) (own_w hw 31 rfl) (own_w hw 61 rfl) (rm71 l Z a0 hw [] bb ba kv cs (cs.length + kk) h0 Z0 F_bb_value F_bb_coder V_ba hc66) e157 E_bb (g := (mkF m 14 #[rv bb, iv qa, iv (Int32.ofNat cs.length), iv (Int32.ofNat (cs.length + kk))] [(.int (Int32.ofNat (cs.length + kk))), (.ref bb)])) (argsL := [(.int (Int32.ofNat (cs.length + kk)))]) (rest := []) (W := 0) (lenOf pd_4 rfl) (hb hby d7_14) hml
  obtain ⟨rfl, N158q, e158⟩ := hQ158
  have N158 := Fr.app N157 N158q
  obtain ⟨_, T159, Lc159, X159, hQ159, st159⟩ := own_virtual (y := y_9) X158 hx hZ hown (own_w hw 62 rfl) (own_w hw 63 rfl) (own_w hw 65 rfl) (own_w hw 64 rfl) (own_w hw 31 rfl) (own_w hw 66 rfl) (rm110 l Z a0 hw [] w_CS bb h0 Z0 S_w_CS F_bb_coder hc1) e158 E_bb (g := (mkF m 18 #[rv bb, iv qa, iv (Int32.ofNat cs.length), iv (Int32.ofNat (cs.length + kk))] [(.ref bb)])) (argsL := []) (rest := []) (W := 0) (lenOf pd_5 rfl) (hb hby d7_18) hml
  obtain ⟨rfl, N159q, e159⟩ := hQ159
  have N159 := Fr.app N158 N159q
  obtain ⟨T160, X160, e160, st160⟩ := getF X159 hx hZ hown (host := "") (Or.inl (own_w hw 37 rfl)) Via.refl e159 F_bb_value (g := (mkF m 27 #[rv bb, iv qa, iv (Int32.ofNat cs.length), iv (Int32.ofNat (cs.length + kk))] [(.ref bb), (.int (Int32.ofNat (cs.length + kk))), (.int qa)])) rfl rfl (hb hby d7_27)
  obtain ⟨_, T161, Lc161, X161, hQ161, st161⟩ := own_static (y := y_2) X160 hx hZ hown (own_w hw 67 rfl) (own_w hw 68 rfl) (own_w hw 55 rfl) (own_w hw 69 rfl) (own_gcG l Z a0 hw [] qa kk w_DO k_w_DO w_DT k_w_DT ba kv (own_buf 34 cs) (own_buf 34 (cs ++ own_ds qa kk)) (34 : Int32) cs.length h0 Z0 S_w_DO A_w_DO S_w_DT A_w_DT V_ba g_ba hc21 (own_gx_buf hc66 (by decide)) (own_ln_buf rfl (own_le_of hc66))) e160 (g := (mkF m 30 #[rv bb, iv qa, iv (Int32.ofNat cs.length), iv (Int32.ofNat (cs.length + kk))] [(.ref ba), (.int (Int32.ofNat (cs.length + kk))), (.int qa)])) (argsL := [(.int qa), (.int (Int32.ofNat (cs.length + kk))), (.ref ba)]) (rest := []) (W := 0) (lenOf pd_6 rfl) (hb hby d7_30) hml
  obtain ⟨rfl, N161q, K161q, q161_V_ba⟩ := hQ161
  have K161 : Keep h0 T161.heap [ba, bb] := (Keep.refl h0 [ba, bb]).trans K161q (allS (Or.inl (List.mem_of_getElem? (i := 0) rfl)) all0)
  have XX161 : Ext Z.heap T161.heap := own_extK Z0 K161q (allS g_ba all0)
  have N161 := Fr.app N159 N161q
  obtain ⟨T162, h162, X162, e162, W162, st162⟩ := putF X161 hx hZ hown (host := "") (Or.inl (own_w hw 51 rfl)) Via.refl rfl (F_bb_count.keep K161q (ninS hc63 (nin0))) (E_bb.keep K161q) (Or.inl (own_w hw 52 rfl)) (own_w hw 22 rfl) (ty := .int) (by decide) rfl rfl (g := (mkF m 50 #[rv bb, iv qa, iv (Int32.ofNat cs.length), iv (Int32.ofNat (cs.length + kk))] [(.int (Int32.ofNat (cs.length + kk))), (.ref bb)])) rfl rfl (hb hby d7_50)
  have K162 : Keep h0 h162 [ba, bb] := K161.wr W162 (Or.inl (List.mem_of_getElem? (i := 1) rfl))
  have XX162 : Ext Z.heap h162 := own_extW XX161 W162 g_bb
  have N162 := Fr.snoc X162 N161 g_bb
  have f163_F_bb_coder : Fld Z h162 bb "java/lang/AbstractStringBuilder" "coder" "B" (.int (0 : Int32)) := ((F_bb_coder.keep K161q (ninS hc63 (nin0))).other W162 (Or.inr (slot_ne (Or.inl (own_w hw 40 rfl)) (Or.inl (own_w hw 52 rfl)) (by decide) (t := .byte) (t' := .int) (by decide) (by decide))))
  have f164_F_bb_value : Fld Z h162 bb "java/lang/AbstractStringBuilder" "value" "[B" (.ref ba) := ((F_bb_value.keep K161q (ninS hc63 (nin0))).other W162 (Or.inr (slot_ne (Or.inl (own_w hw 38 rfl)) (Or.inl (own_w hw 52 rfl)) (by decide) (t := (.array .byte)) (t' := .int) (by decide) (by decide))))
  obtain ⟨fs, hr, hrun, hended, hW, hsame⟩ := X162.leave (v := some (.ref bb)) (fun h => by rw [hret] at h; cases h) hlk
  refine ⟨_, _, ?_, hrun, hended, _, _, rfl, ?_, ⟨_, rfl⟩, hW, hsame.mono (by decide) (by decide)⟩
  · show own_S p e below s₁ (mkF m 0 #[rv bb, iv qa, .unset, .unset] []) _
    refine own_aN X0 hx hby d7_0 ?_
    refine st156 _ ?_
    refine XS.istoreN X156.here hx rfl (hb hby d7_4) rfl (l' := #[rv bb, iv qa, iv (Int32.ofNat cs.length), .unset]) rfl ?_
    refine own_iN X156 hx hby d7_5 ?_
    refine own_iN X156 hx hby d7_6 ?_
    refine st157 _ ?_
    refine XS.iadd X157.here hx rfl (hb hby d7_10) rfl ?_
    show own_S p e below T157 (mkF m 11 #[rv bb, iv qa, iv (Int32.ofNat cs.length), .unset] [(.int ((Int32.ofNat cs.length) + (Int32.ofNat kk)))]) _
    rw [(Int32.ofNat_add _ _).symm]
    refine XS.istoreN X157.here hx rfl (hb hby d7_11) rfl (l' := #[rv bb, iv qa, iv (Int32.ofNat cs.length), iv (Int32.ofNat (cs.length + kk))]) rfl ?_
    refine own_aN X157 hx hby d7_12 ?_
    refine own_iN X157 hx hby d7_13 ?_
    refine st158 _ ?_
    refine own_aN X158 hx hby d7_17 ?_
    refine st159 _ ?_
    refine own_in X159 hx hby d7_21 (feq (by decide : ¬ ((1 : Int32) = (0 : Int32)))).1 ?_
    refine own_iN X159 hx hby d7_24 ?_
    refine own_iN X159 hx hby d7_25 ?_
    refine own_aN X159 hx hby d7_26 ?_
    refine st160 _ ?_
    refine st161 _ ?_
    refine XS.pop X161.here hx rfl (hb hby d7_33) rfl rfl ?_
    refine own_go (pc := 34) X161 hx hby d7_34 48 ?_
    refine own_aN X161 hx hby d7_48 ?_
    refine own_iN X161 hx hby d7_49 ?_
    refine st162 _ ?_
    refine own_aN X162 hx hby d7_53 ?_
    jvm_step X162.here [X162.here.top, hx, (hb hby d7_54), X162.method', hret, Value.isRef, FieldType.isReference]
    first | (intro acts; rw [hr _ acts rfl rfl rfl]) | rw [hr _ _ rfl rfl rfl]
    exact Steps.refl _
  · show Qrm155 Z w_CS qa kk w_DO k_w_DO w_DT k_w_DT bb ba kv cs h0 _ T162.heap _
    rw [e162]
    exact ⟨rfl, N162, K162, ((E_bb.keep K161q).wr W162), f163_F_bb_coder, ((F_bb_count.keep K161q (ninS hc63 (nin0))).same W162), f164_F_bb_value, (q161_V_ba.other W162 hc64)⟩
def Qrm154 (Z : State) (w_CS qa : Int32) (kk : Nat) (w_DO : Addr) (k_w_DO : ClassId) (w_DT : Addr) (k_w_DT : ClassId) (bb ba : Addr) (kv : ClassId) (cs : List Int32) (h0 : Heap) (v : Option Value) (h : Heap) (L : List Loc) : Prop := v = some (.ref bb) ∧ Fr Z.heap.size L ∧ Keep h0 h [bb, ba] ∧ Exa Z h bb "java/lang/StringBuilder" ∧ Fld Z h bb "java/lang/AbstractStringBuilder" "value" "[B" (.ref ba) ∧ Fld Z h bb "java/lang/AbstractStringBuilder" "coder" "B" (.int (0 : Int32)) ∧ Fld Z h bb "java/lang/AbstractStringBuilder" "count" "I" (.int (Int32.ofNat (cs.length + kk))) ∧ Arv Z h ba kv .byte (34 : Int32) (own_buf 34 (cs ++ own_ds qa kk)) (.int (0 : Int32))
theorem rm154 (l : Launch) (Z : State) (a0 : Array Value) (hw : own_HW Z a0) (ws : List Jvm.Cond) (w_CS qa : Int32) (kk : Nat) (w_DO : Addr) (k_w_DO : ClassId) (w_DT : Addr) (k_w_DT : ClassId) (bb ba : Addr) (kv : ClassId) (cs : List Int32) (h0 : Heap) (Z0 : Ext Z.heap h0) (S_w_CS : own_w_CS Z w_CS) (S_w_DO : own_Sw_DO Z w_DO) (A_w_DO : Arv Z Z.heap w_DO k_w_DO .byte (100 : Int32) own_ones (.int (0 : Int32))) (S_w_DT : own_Sw_DT Z w_DT) (A_w_DT : Arv Z Z.heap w_DT k_w_DT .byte (100 : Int32) own_tens (.int (0 : Int32))) (E_bb : Exa Z h0 bb "java/lang/StringBuilder") (F_bb_value : Fld Z h0 bb "java/lang/AbstractStringBuilder" "value" "[B" (.ref ba)) (F_bb_coder : Fld Z h0 bb "java/lang/AbstractStringBuilder" "coder" "B" (.int (0 : Int32))) (F_bb_count : Fld Z h0 bb "java/lang/AbstractStringBuilder" "count" "I" (.int (Int32.ofNat cs.length))) (V_ba : Arv Z h0 ba kv .byte (34 : Int32) (own_buf 34 cs) (.int (0 : Int32))) (g_bb : Z.heap.size ≤ bb) (g_ba : Z.heap.size ≤ ba) (hc21 : own_nd qa kk) (hc66 : cs.length + kk ≤ 34) (hc1 : ¬ (w_CS = (0 : Int32))) (hc63 : bb ≠ ba) (hc64 : ba ≠ bb) :
    own_met l y_11 jdk_67_method_15_code 2 (some (.object "java/lang/StringBuilder")) ws ({ frames := 2, cells := 0, slots := 0, locals := 33 } : Room) Z #[(.ref bb), (.int qa)] h0 (Qrm154 Z w_CS qa kk w_DO k_w_DO w_DT k_w_DT bb ba kv cs h0) := by
  refine own_start (plainFor_of_name pn_5) (fun m => ef_jdk_67_method_15_RI m bb qa) ?_
  intro p e s m below meth c s₁ hx hby hml hown hnm X0 hZ e0 hret hlk
  have N0 := Fr.nil Z.heap.size
  obtain ⟨_, T165, Lc165, X165, hQ165, st165⟩ := own_super (y := y_10) X0 hx hZ hown (own_w hw 46 rfl) (own_same (own_w hw 47 rfl) (own_w hw 60 rfl) rfl (by decide)) (own_w hw 47 rfl) (own_w hw 48 rfl) (own_w hw 31 rfl) (own_w hw 50 rfl) (rm155 l Z a0 hw [] w_CS qa kk w_DO k_w_DO w_DT k_w_DT bb ba kv cs h0 Z0 S_w_CS S_w_DO A_w_DO S_w_DT A_w_DT E_bb F_bb_coder F_bb_count F_bb_value V_ba g_bb g_ba hc21 hc66 hc1 hc63 hc64) e0 (Ins.self E_bb) (g := (mkF m 2 #[rv bb, iv qa] [(.int qa), (.ref bb)])) (argsL := [(.int qa)]) (rest := []) (W := 0) (lenOf pd_7 rfl) (hb hby d6_2) hml
  obtain ⟨rfl, N165q, K165q, q165_E_bb, q165_F_bb_coder, q165_F_bb_count, q165_F_bb_value, q165_V_ba⟩ := hQ165
  have K165 : Keep h0 T165.heap [bb, ba] := (Keep.refl h0 [bb, ba]).trans K165q (allS (Or.inl (List.mem_of_getElem? (i := 1) rfl)) (allS (Or.inl (List.mem_of_getElem? (i := 0) rfl)) all0))
  have XX165 : Ext Z.heap T165.heap := own_extK Z0 K165q (allS g_ba (allS g_bb all0))
  have N165 := Fr.app N0 N165q
  obtain ⟨fs, hr, hrun, hended, hW, hsame⟩ := X165.leave (v := some (.ref bb)) (fun h => by rw [hret] at h; cases h) hlk
  refine ⟨_, _, ?_, hrun, hended, _, _, rfl, ?_, ⟨_, rfl⟩, hW, hsame.mono (by decide) (by decide)⟩
  · show own_S p e below s₁ (mkF m 0 #[rv bb, iv qa] []) _
    refine own_aN X0 hx hby d6_0 ?_
    refine own_iN X0 hx hby d6_1 ?_
    refine st165 _ ?_
    refine XS.pop X165.here hx rfl (hb hby d6_5) rfl rfl ?_
    refine own_aN X165 hx hby d6_6 ?_
    jvm_step X165.here [X165.here.top, hx, (hb hby d6_7), X165.method', hret, Value.isRef, FieldType.isReference]
    first | (intro acts; rw [hr _ acts rfl rfl rfl]) | rw [hr _ _ rfl rfl rfl]
    exact Steps.refl _
  · show Qrm154 Z w_CS qa kk w_DO k_w_DO w_DT k_w_DT bb ba kv cs h0 _ T165.heap _
    exact ⟨rfl, N165, K165, q165_E_bb, q165_F_bb_value, q165_F_bb_coder, q165_F_bb_count, q165_V_ba⟩
def Qown_apI_n34 (Z : State) (w_CS qa : Int32) (kk : Nat) (w_DO : Addr) (k_w_DO : ClassId) (w_DT : Addr) (k_w_DT : ClassId) (bb ba : Addr) (kv : ClassId) (cs : List Int32) (h0 : Heap) (v : Option Value) (h : Heap) (L : List Loc) : Prop := v = some (.ref bb) ∧ Fr Z.heap.size L ∧ Keep h0 h [bb, ba] ∧ Exa Z h bb "java/lang/StringBuilder" ∧ Fld Z h bb "java/lang/AbstractStringBuilder" "value" "[B" (.ref ba) ∧ Fld Z h bb "java/lang/AbstractStringBuilder" "coder" "B" (.int (0 : Int32)) ∧ Fld Z h bb "java/lang/AbstractStringBuilder" "count" "I" (.int (Int32.ofNat (cs ++ own_ds qa kk).length)) ∧ Arv Z h ba kv .byte (34 : Int32) (own_buf 34 (cs ++ own_ds qa kk)) (.int (0 : Int32))
theorem own_apI_n34 (l : Launch) (Z : State) (a0 : Array Value) (hw : own_HW Z a0) (ws : List Jvm.Cond) (w_CS qa : Int32) (kk : Nat) (w_DO : Addr) (k_w_DO : ClassId) (w_DT : Addr) (k_w_DT : ClassId) (bb ba : Addr) (kv : ClassId) (cs : List Int32) (h0 : Heap) (Z0 : Ext Z.heap h0) (S_w_CS : own_w_CS Z w_CS) (S_w_DO : own_Sw_DO Z w_DO) (A_w_DO : Arv Z Z.heap w_DO k_w_DO .byte (100 : Int32) own_ones (.int (0 : Int32))) (S_w_DT : own_Sw_DT Z w_DT) (A_w_DT : Arv Z Z.heap w_DT k_w_DT .byte (100 : Int32) own_tens (.int (0 : Int32))) (E_bb : Exa Z h0 bb "java/lang/StringBuilder") (F_bb_value : Fld Z h0 bb "java/lang/AbstractStringBuilder" "value" "[B" (.ref ba)) (F_bb_coder : Fld Z h0 bb "java/lang/AbstractStringBuilder" "coder" "B" (.int (0 : Int32))) (F_bb_count : Fld Z h0 bb "java/lang/AbstractStringBuilder" "count" "I" (.int (Int32.ofNat cs.length))) (V_ba : Arv Z h0 ba kv .byte (34 : Int32) (own_buf 34 cs) (.int (0 : Int32))) (g_bb : Z.heap.size ≤ bb) (g_ba : Z.heap.size ≤ ba) (hc21 : own_nd qa kk) (hc66 : cs.length + kk ≤ 34) (hc1 : ¬ (w_CS = (0 : Int32))) (hc63 : bb ≠ ba) (hc64 : ba ≠ bb) :
    own_met l y_11 jdk_67_method_15_code 2 (some (.object "java/lang/StringBuilder")) ws ({ frames := 2, cells := 0, slots := 0, locals := 33 } : Room) Z #[(.ref bb), (.int qa)] h0 (Qown_apI_n34 Z w_CS qa kk w_DO k_w_DO w_DT k_w_DT bb ba kv cs h0) := by
  exact own_mono (rm154 l Z a0 hw ws w_CS qa kk w_DO k_w_DO w_DT k_w_DT bb ba kv cs h0 Z0 S_w_CS S_w_DO A_w_DO S_w_DT A_w_DT E_bb F_bb_value F_bb_coder F_bb_count V_ba g_bb g_ba hc21 hc66 hc1 hc63 hc64) fun v h L ⟨z1, z2, z3, f0, f1, f2, f3, f4⟩ => ⟨z1, z2, z3, f0, f1, f2, (by rw [List.length_append, own_ds_len]; exact f3), f4⟩
def Qrm176 (Z : State) (w_CS : Int32) (ba : Addr) (kv : ClassId) (cs : List Int32) (bs be : Addr) (ke : ClassId) (h0 : Heap) (v : Option Value) (h : Heap) (L : List Loc) : Prop := v = none ∧ Fr Z.heap.size L ∧ Keep h0 h [ba] ∧ Arv Z h ba kv .byte (34 : Int32) (own_buf 34 (cs ++ [(46 : Int32)])) (.int (0 : Int32))
theorem rm176 (l : Launch) (Z : State) (a0 : Array Value) (hw : own_HW Z a0) (ws : List Jvm.Cond) (w_CS : Int32) (ba : Addr) (kv : ClassId) (cs : List Int32) (bs be : Addr) (ke : ClassId) (h0 : Heap) (Z0 : Ext Z.heap h0) (S_w_CS : own_w_CS Z w_CS) (E_bs : Exa Z h0 bs "java/lang/String") (F_bs_coder : Fld Z h0 bs "java/lang/String" "coder" "B" (.int (0 : Int32))) (F_bs_value : Fld Z h0 bs "java/lang/String" "value" "[B" (.ref be)) (V_ba : Arv Z h0 ba kv .byte (34 : Int32) (own_buf 34 cs) (.int (0 : Int32))) (V_be : Arv Z h0 be ke .byte (1 : Int32) [(.int (46 : Int32))] (.int (0 : Int32))) (g_ba : Z.heap.size ≤ ba) (hc1 : ¬ (w_CS = (0 : Int32))) (hc67 : cs.length + 1 ≤ 34) :
    own_met l y_15 jdk_42_method_147_code 4 none ws ({ frames := 1, cells := 0, slots := 0, locals := 18 } : Room) Z #[(.ref bs), (.ref ba), (.int (Int32.ofNat cs.length)), (.int (0 : Int32))] h0 (Qrm176 Z w_CS ba kv cs bs be ke h0) := by
  refine own_start (plainFor_of_name pn_6) (fun m => ef_jdk_42_method_147_RRII m bs ba (Int32.ofNat cs.length) (0 : Int32)) ?_
  intro p e s m below meth c s₁ hx hby hml hown hnm X0 hZ e0 hret hlk
  have N0 := Fr.nil Z.heap.size
  obtain ⟨_, T177, Lc177, X177, hQ177, st177⟩ := own_virtual (y := y_12) X0 hx hZ hown (own_w hw 92 rfl) (own_w hw 93 rfl) (own_w hw 95 rfl) (own_w hw 94 rfl) (own_w hw 35 rfl) (own_w hw 96 rfl) (rm125 l Z a0 hw [] w_CS bs h0 Z0 S_w_CS F_bs_coder hc1) e0 E_bs (g := (mkF m 1 #[rv bs, rv ba, iv (Int32.ofNat cs.length), iv (0 : Int32)] [(.ref bs)])) (argsL := []) (rest := []) (W := 0) (lenOf pd_8 rfl) (hb hby d18_1) hml
  obtain ⟨rfl, N177q, e177⟩ := hQ177
  have N177 := Fr.app N0 N177q
  obtain ⟨T178, X178, e178, st178⟩ := getF X177 hx hZ hown (host := "") (Or.inl (own_w hw 91 rfl)) Via.refl e177 F_bs_value (g := (mkF m 9 #[rv bs, rv ba, iv (Int32.ofNat cs.length), iv (0 : Int32)] [(.ref bs)])) rfl rfl (hb hby d18_9)
  obtain ⟨T179, X179, e179, st179⟩ := getF X178 hx hZ hown (host := "") (Or.inl (own_w hw 91 rfl)) Via.refl e178 F_bs_value (g := (mkF m 18 #[rv bs, rv ba, iv (Int32.ofNat cs.length), iv (0 : Int32)] [(.ref bs), (.int (Int32.ofNat cs.length)), (.ref ba), (.int (0 : Int32)), (.ref be)])) rfl rfl (hb hby d18_18)
  obtain ⟨cl180, Ar180, q180, S180, Nn180, H180, G180⟩ := id V_be
  obtain ⟨T181, h181, L181, X181, e181, N181, K181q, V181, st181⟩ := own_cp X179 hx hZ hown (own_w hw 115 rfl) (own_w hw 118 rfl) (own_w hw 116 rfl) (own_w hw 117 rfl) e179 V_be V_ba (own_cp_add (ds := [(46 : Int32)]) hc67 (by decide) (by decide)) N177 g_ba (g := (mkF m 22 #[rv bs, rv ba, iv (Int32.ofNat cs.length), iv (0 : Int32)] [(.int (1 : Int32)), (.int (Int32.ofNat cs.length)), (.ref ba), (.int (0 : Int32)), (.ref be)])) (W := 0) (hb hby d18_22) hml
  have XX181 : Ext Z.heap h181 := own_extK Z0 K181q (allS g_ba all0)
  have K181 : Keep h0 h181 [ba] := (Keep.refl h0 [ba]).trans K181q (allS (Or.inl (List.mem_of_getElem? (i := 0) rfl)) all0)
  obtain ⟨fs, hr, hrun, hended, hW, hsame⟩ := X181.leave (v := none) (fun _ => rfl) hlk
  refine ⟨_, _, ?_, hrun, hended, _, _, rfl, ?_, ⟨_, rfl⟩, hW, hsame.mono (by decide) (by decide)⟩
  · show own_S p e below s₁ (mkF m 0 #[rv bs, rv ba, iv (Int32.ofNat cs.length), iv (0 : Int32)] []) _
    refine own_aN X0 hx hby d18_0 ?_
    refine st177 _ ?_
    refine own_iN X177 hx hby d18_4 ?_
    refine own_cn X177 hx hby d18_5 (teq (rfl : (0 : Int32) = (0 : Int32))).2 ?_
    refine own_aN X177 hx hby d18_8 ?_
    refine st178 _ ?_
    refine own_k X178 hx hby d18_12 ?_
    refine own_aN X178 hx hby d18_13 ?_
    refine own_iN X178 hx hby d18_14 ?_
    refine own_iN X178 hx hby d18_15 ?_
    refine XS.ishl X178.here hx rfl (hb hby d18_16) rfl ?_
    show own_S p e below T178 (mkF m 17 #[rv bs, rv ba, iv (Int32.ofNat cs.length), iv (0 : Int32)] [(.int ((Int32.ofNat cs.length) <<< ((0 : Int32) &&& 31))), (.ref ba), (.int (0 : Int32)), (.ref be)]) _
    rw [(own_shl0 _)]
    refine own_aN X178 hx hby d18_17 ?_
    refine st179 _ ?_
    refine X179.arraylength hx (by rw [e179]; exact Ar180.1) (State.isArrayOf_alike hZ.alike Ar180.2.1) (g := (mkF m 21 #[rv bs, rv ba, iv (Int32.ofNat cs.length), iv (0 : Int32)] [(.ref be), (.int (Int32.ofNat cs.length)), (.ref ba), (.int (0 : Int32)), (.ref be)])) rfl rfl (hb hby d18_21) _ ?_
    rw [len_of S180 Nn180]
    refine st181 _ ?_
    refine own_go (pc := 25) X181 hx hby d18_25 43 ?_
    exact X181.returnOut hx hret (hb hby d18_43) hr
  · show Qrm176 Z w_CS ba kv cs bs be ke h0 _ T181.heap _
    rw [e181]
    exact ⟨rfl, N181, K181, V181⟩
def Qrm172 (Z : State) (w_CS : Int32) (bb ba : Addr) (kv : ClassId) (cs : List Int32) (bs be : Addr) (ke : ClassId) (h0 : Heap) (v : Option Value) (h : Heap) (L : List Loc) : Prop := v = none ∧ Fr Z.heap.size L ∧ Keep h0 h [ba] ∧ Arv Z h ba kv .byte (34 : Int32) (own_buf 34 (cs ++ [(46 : Int32)])) (.int (0 : Int32))
theorem rm172 (l : Launch) (Z : State) (a0 : Array Value) (hw : own_HW Z a0) (ws : List Jvm.Cond) (w_CS : Int32) (bb ba : Addr) (kv : ClassId) (cs : List Int32) (bs be : Addr) (ke : ClassId) (h0 : Heap) (Z0 : Ext Z.heap h0) (S_w_CS : own_w_CS Z w_CS) (E_bb : Exa Z h0 bb "java/lang/StringBuilder") (F_bb_coder : Fld Z h0 bb "java/lang/AbstractStringBuilder" "coder" "B" (.int (0 : Int32))) (F_bb_value : Fld Z h0 bb "java/lang/AbstractStringBuilder" "value" "[B" (.ref ba)) (E_bs : Exa Z h0 bs "java/lang/String") (F_bs_coder : Fld Z h0 bs "java/lang/String" "coder" "B" (.int (0 : Int32))) (F_bs_value : Fld Z h0 bs "java/lang/String" "value" "[B" (.ref be)) (V_ba : Arv Z h0 ba kv .byte (34 : Int32) (own_buf 34 cs) (.int (0 : Int32))) (V_be : Arv Z h0 be ke .byte (1 : Int32) [(.int (46 : Int32))] (.int (0 : Int32))) (g_ba : Z.heap.size ≤ ba) (hc1 : ¬ (w_CS = (0 : Int32))) (hc67 : cs.length + 1 ≤ 34) :
    own_met l y_16 jdk_68_method_73_code 3 none ws ({ frames := 2, cells := 0, slots := 0, locals := 33 } : Room) Z #[(.ref bb), (.int (Int32.ofNat cs.length)), (.ref bs)] h0 (Qrm172 Z w_CS bb ba kv cs bs be ke h0) := by
  refine own_start (plainFor_of_name pn_2) (fun m => ef_jdk_68_method_73_RIR m bb (Int32.ofNat cs.length) bs) ?_
  intro p e s m below meth c s₁ hx hby hml hown hnm X0 hZ e0 hret hlk
  have N0 := Fr.nil Z.heap.size
  obtain ⟨_, T173, Lc173, X173, hQ173, st173⟩ := own_virtual (y := y_14) X0 hx hZ hown (own_w hw 104 rfl) (own_decl (own_w hw 105 rfl) (own_w hw 108 rfl)) (own_w hw 107 rfl) (own_w hw 105 rfl) (own_w hw 31 rfl) (own_w hw 108 rfl) (rm134 l Z a0 hw [] w_CS bb bs h0 Z0 S_w_CS F_bb_coder E_bs F_bs_coder hc1) e0 E_bb (g := (mkF m 2 #[rv bb, iv (Int32.ofNat cs.length), rv bs] [(.ref bs), (.ref bb)])) (argsL := [(.ref bs)]) (rest := []) (W := 0) (lenOf pd_10 rfl) (hb hby d16_2) hml
  obtain ⟨rfl, N173q, e173⟩ := hQ173
  have N173 := Fr.app N0 N173q
  obtain ⟨T174, X174, e174, st174⟩ := getF X173 hx hZ hown (host := "") (Or.inl (own_w hw 37 rfl)) Via.refl e173 F_bb_value (g := (mkF m 7 #[rv bb, iv (Int32.ofNat cs.length), rv bs] [(.ref bb), (.ref bs)])) rfl rfl (hb hby d16_7)
  obtain ⟨T175, X175, e175, st175⟩ := getF X174 hx hZ hown (host := "") (Or.inl (own_w hw 39 rfl)) Via.refl e174 F_bb_coder (g := (mkF m 12 #[rv bb, iv (Int32.ofNat cs.length), rv bs] [(.ref bb), (.int (Int32.ofNat cs.length)), (.ref ba), (.ref bs)])) rfl rfl (hb hby d16_12)
  obtain ⟨_, T182, Lc182, X182, hQ182, st182⟩ := own_virtual (y := y_15) X175 hx hZ hown (own_w hw 110 rfl) (own_w hw 111 rfl) (own_w hw 113 rfl) (own_w hw 112 rfl) (own_w hw 35 rfl) (own_w hw 114 rfl) (rm176 l Z a0 hw [] w_CS ba kv cs bs be ke h0 Z0 S_w_CS E_bs F_bs_coder F_bs_value V_ba V_be g_ba hc1 hc67) e175 E_bs (g := (mkF m 15 #[rv bb, iv (Int32.ofNat cs.length), rv bs] [(.int (0 : Int32)), (.int (Int32.ofNat cs.length)), (.ref ba), (.ref bs)])) (argsL := [(.ref ba), (.int (Int32.ofNat cs.length)), (.int (0 : Int32))]) (rest := []) (W := 0) (lenOf pd_11 rfl) (hb hby d16_15) hml
  obtain ⟨rfl, N182q, K182q, q182_V_ba⟩ := hQ182
  have K182 : Keep h0 T182.heap [ba] := (Keep.refl h0 [ba]).trans K182q (allS (Or.inl (List.mem_of_getElem? (i := 0) rfl)) all0)
  have XX182 : Ext Z.heap T182.heap := own_extK Z0 K182q (allS g_ba all0)
  have N182 := Fr.app N173 N182q
  obtain ⟨fs, hr, hrun, hended, hW, hsame⟩ := X182.leave (v := none) (fun _ => rfl) hlk
  refine ⟨_, _, ?_, hrun, hended, _, _, rfl, ?_, ⟨_, rfl⟩, hW, hsame.mono (by decide) (by decide)⟩
  · show own_S p e below s₁ (mkF m 0 #[rv bb, iv (Int32.ofNat cs.length), rv bs] []) _
    refine own_aN X0 hx hby d16_0 ?_
    refine own_aN X0 hx hby d16_1 ?_
    refine st173 _ ?_
    refine own_aN X173 hx hby d16_5 ?_
    refine own_aN X173 hx hby d16_6 ?_
    refine st174 _ ?_
    refine own_iN X174 hx hby d16_10 ?_
    refine own_aN X174 hx hby d16_11 ?_
    refine st175 _ ?_
    refine st182 _ ?_
    exact X182.returnOut hx hret (hb hby d16_18) hr
  · show Qrm172 Z w_CS bb ba kv cs bs be ke h0 _ T182.heap _
    exact ⟨rfl, N182, K182, q182_V_ba⟩
def Qrm167 (Z : State) (w_CS : Int32) (bb ba : Addr) (kv : ClassId) (cs : List Int32) (bs be : Addr) (ke : ClassId) (h0 : Heap) (v : Option Value) (h : Heap) (L : List Loc) : Prop := v = some (.ref bb) ∧ Fr Z.heap.size L ∧ Keep h0 h [ba, bb] ∧ Exa Z h bb "java/lang/StringBuilder" ∧ Fld Z h bb "java/lang/AbstractStringBuilder" "coder" "B" (.int (0 : Int32)) ∧ Fld Z h bb "java/lang/AbstractStringBuilder" "count" "I" (.int (Int32.ofNat (cs.length + 1))) ∧ Fld Z h bb "java/lang/AbstractStringBuilder" "value" "[B" (.ref ba) ∧ Arv Z h ba kv .byte (34 : Int32) (own_buf 34 (cs ++ [(46 : Int32)])) (.int (0 : Int32))
theorem rm167 (l : Launch) (Z : State) (a0 : Array Value) (hw : own_HW Z a0) (ws : List Jvm.Cond) (w_CS : Int32) (bb ba : Addr) (kv : ClassId) (cs : List Int32) (bs be : Addr) (ke : ClassId) (h0 : Heap) (Z0 : Ext Z.heap h0) (S_w_CS : own_w_CS Z w_CS) (E_bb : Exa Z h0 bb "java/lang/StringBuilder") (F_bb_coder : Fld Z h0 bb "java/lang/AbstractStringBuilder" "coder" "B" (.int (0 : Int32))) (F_bb_count : Fld Z h0 bb "java/lang/AbstractStringBuilder" "count" "I" (.int (Int32.ofNat cs.length))) (F_bb_value : Fld Z h0 bb "java/lang/AbstractStringBuilder" "value" "[B" (.ref ba)) (E_bs : Exa Z h0 bs "java/lang/String") (F_bs_coder : Fld Z h0 bs "java/lang/String" "coder" "B" (.int (0 : Int32))) (F_bs_value : Fld Z h0 bs "java/lang/String" "value" "[B" (.ref be)) (V_ba : Arv Z h0 ba kv .byte (34 : Int32) (own_buf 34 cs) (.int (0 : Int32))) (V_be : Arv Z h0 be ke .byte (1 : Int32) [(.int (46 : Int32))] (.int (0 : Int32))) (g_bb : Z.heap.size ≤ bb) (g_ba : Z.heap.size ≤ ba) (hc1 : ¬ (w_CS = (0 : Int32))) (hc67 : cs.length + 1 ≤ 34) (hc63 : bb ≠ ba) (hc64 : ba ≠ bb) :
    own_met l y_17 jdk_68_method_22_code 3 (some (.object "java/lang/AbstractStringBuilder")) ws ({ frames := 3, cells := 0, slots := 0, locals := 47 } : Room) Z #[(.ref bb), (.ref bs)] h0 (Qrm167 Z w_CS bb ba kv cs bs be ke h0) := by
  refine own_start (plainFor_of_name pn_2) (fun m => ef_jdk_68_method_22_RR m bb bs) ?_
  intro p e s m below meth c s₁ hx hby hml hown hnm X0 hZ e0 hret hlk
  have N0 := Fr.nil Z.heap.size
  obtain ⟨_, T168, Lc168, X168, hQ168, st168⟩ := own_virtual (y := y_13) X0 hx hZ hown (own_w hw 86 rfl) (own_w hw 87 rfl) (own_w hw 89 rfl) (own_w hw 88 rfl) (own_w hw 35 rfl) (own_w hw 90 rfl) (rm122 l Z a0 hw [] w_CS bs be ke h0 Z0 S_w_CS E_bs F_bs_coder F_bs_value V_be hc1) e0 E_bs (g := (mkF m 10 #[rv bb, rv bs, .unset] [(.ref bs)])) (argsL := []) (rest := []) (W := 0) (lenOf pd_9 rfl) (hb hby d13_10) hml
  obtain ⟨rfl, N168q, e168⟩ := hQ168
  have N168 := Fr.app N0 N168q
  obtain ⟨T169, X169, e169, st169⟩ := getF X168 hx hZ hown (host := "") (Or.inl (own_w hw 51 rfl)) Via.refl e168 F_bb_count (g := (mkF m 16 #[rv bb, rv bs, iv (1 : Int32)] [(.ref bb), (.ref bb)])) rfl rfl (hb hby d13_16)
  obtain ⟨_, T170, Lc170, X170, hQ170, st170⟩ := own_virtual (y := y_3) X169 hx hZ hown (own_w hw 57 rfl) (own_decl (own_w hw 58 rfl) (own_w hw 61 rfl)) (own_w hw 60 rfl) (own_w hw 58 rfl) (own_w hw 31 rfl) (own_w hw 61 rfl) (rm71 l Z a0 hw [] bb ba kv cs (cs.length + 1) h0 Z0 F_bb_value F_bb_coder V_ba hc67) e169 E_bb (g := (mkF m 21 #[rv bb, rv bs, iv (1 : Int32)] [(.int (Int32.ofNat (cs.length + 1))), (.ref bb)])) (argsL := [(.int (Int32.ofNat (cs.length + 1)))]) (rest := []) (W := 0) (lenOf pd_4 rfl) (hb hby d13_21) hml
  obtain ⟨rfl, N170q, e170⟩ := hQ170
  have N170 := Fr.app N168 N170q
  obtain ⟨T171, X171, e171, st171⟩ := getF X170 hx hZ hown (host := "") (Or.inl (own_w hw 51 rfl)) Via.refl e170 F_bb_count (g := (mkF m 26 #[rv bb, rv bs, iv (1 : Int32)] [(.ref bb), (.ref bb)])) rfl rfl (hb hby d13_26)
  obtain ⟨_, T183, Lc183, X183, hQ183, st183⟩ := own_virtual (y := y_16) X171 hx hZ hown (own_w hw 99 rfl) (own_decl (own_w hw 100 rfl) (own_w hw 103 rfl)) (own_w hw 102 rfl) (own_w hw 100 rfl) (own_w hw 31 rfl) (own_w hw 103 rfl) (rm172 l Z a0 hw [] w_CS bb ba kv cs bs be ke h0 Z0 S_w_CS E_bb F_bb_coder F_bb_value E_bs F_bs_coder F_bs_value V_ba V_be g_ba hc1 hc67) e171 E_bb (g := (mkF m 30 #[rv bb, rv bs, iv (1 : Int32)] [(.ref bs), (.int (Int32.ofNat cs.length)), (.ref bb)])) (argsL := [(.int (Int32.ofNat cs.length)), (.ref bs)]) (rest := []) (W := 0) (lenOf pd_12 rfl) (hb hby d13_30) hml
  obtain ⟨rfl, N183q, K183q, q183_V_ba⟩ := hQ183
  have K183 : Keep h0 T183.heap [ba, bb] := (Keep.refl h0 [ba, bb]).trans K183q (allS (Or.inl (List.mem_of_getElem? (i := 0) rfl)) all0)
  have XX183 : Ext Z.heap T183.heap := own_extK Z0 K183q (allS g_ba all0)
  have N183 := Fr.app N170 N183q
  obtain ⟨T184, X184, e184, st184⟩ := getF X183 hx hZ hown (host := "") (Or.inl (own_w hw 51 rfl)) Via.refl rfl (F_bb_count.keep K183q (ninS hc63 (nin0))) (g := (mkF m 35 #[rv bb, rv bs, iv (1 : Int32)] [(.ref bb), (.ref bb)])) rfl rfl (hb hby d13_35)
  obtain ⟨T185, h185, X185, e185, W185, st185⟩ := putF X184 hx hZ hown (host := "") (Or.inl (own_w hw 51 rfl)) Via.refl e184 (F_bb_count.keep K183q (ninS hc63 (nin0))) (E_bb.keep K183q) (Or.inl (own_w hw 52 rfl)) (own_w hw 22 rfl) (ty := .int) (by decide) rfl rfl (g := (mkF m 40 #[rv bb, rv bs, iv (1 : Int32)] [(.int (Int32.ofNat (cs.length + 1))), (.ref bb)])) rfl rfl (hb hby d13_40)
  have K185 : Keep h0 h185 [ba, bb] := K183.wr W185 (Or.inl (List.mem_of_getElem? (i := 1) rfl))
  have XX185 : Ext Z.heap h185 := own_extW XX183 W185 g_bb
  have N185 := Fr.snoc X185 N183 g_bb
  have f186_F_bb_coder : Fld Z h185 bb "java/lang/AbstractStringBuilder" "coder" "B" (.int (0 : Int32)) := ((F_bb_coder.keep K183q (ninS hc63 (nin0))).other W185 (Or.inr (slot_ne (Or.inl (own_w hw 40 rfl)) (Or.inl (own_w hw 52 rfl)) (by decide) (t := .byte) (t' := .int) (by decide) (by decide))))
  have f187_F_bb_value : Fld Z h185 bb "java/lang/AbstractStringBuilder" "value" "[B" (.ref ba) := ((F_bb_value.keep K183q (ninS hc63 (nin0))).other W185 (Or.inr (slot_ne (Or.inl (own_w hw 38 rfl)) (Or.inl (own_w hw 52 rfl)) (by decide) (t := (.array .byte)) (t' := .int) (by decide) (by decide))))
  obtain ⟨fs, hr, hrun, hended, hW, hsame⟩ := X185.leave (v := some (.ref bb)) (fun h => by rw [hret] at h; cases h) hlk
  refine ⟨_, _, ?_, hrun, hended, _, _, rfl, ?_, ⟨_, rfl⟩, hW, hsame.mono (by decide) (by decide)⟩
  · show own_S p e below s₁ (mkF m 0 #[rv bb, rv bs, .unset] []) _
    refine own_aN X0 hx hby d13_0 ?_
    refine XS.ifnonnullYes X0.here hx rfl (pc0 := 1) (pc' := 9) rfl (hb hby d13_1) rfl (by decide) (by decide) ?_
    refine own_aN X0 hx hby d13_9 ?_
    refine st168 _ ?_
    refine XS.istoreN X168.here hx rfl (hb hby d13_13) rfl (l' := #[rv bb, rv bs, iv (1 : Int32)]) rfl ?_
    refine own_aN X168 hx hby d13_14 ?_
    refine own_aN X168 hx hby d13_15 ?_
    refine st169 _ ?_
    refine own_iN X169 hx hby d13_19 ?_
    refine XS.iadd X169.here hx rfl (hb hby d13_20) rfl ?_
    show own_S p e below T169 (mkF m 21 #[rv bb, rv bs, iv (1 : Int32)] [(.int ((Int32.ofNat cs.length) + (1 : Int32))), (.ref bb)]) _
    rw [(own_succ _)]
    refine st170 _ ?_
    refine own_aN X170 hx hby d13_24 ?_
    refine own_aN X170 hx hby d13_25 ?_
    refine st171 _ ?_
    refine own_aN X171 hx hby d13_29 ?_
    refine st183 _ ?_
    refine own_aN X183 hx hby d13_33 ?_
    refine XS.dup X183.here hx rfl (hb hby d13_34) rfl rfl ?_
    refine st184 _ ?_
    refine own_iN X184 hx hby d13_38 ?_
    refine XS.iadd X184.here hx rfl (hb hby d13_39) rfl ?_
    show own_S p e below T184 (mkF m 40 #[rv bb, rv bs, iv (1 : Int32)] [(.int ((Int32.ofNat cs.length) + (1 : Int32))), (.ref bb)]) _
    rw [(own_succ _)]
    refine st185 _ ?_
    refine own_aN X185 hx hby d13_43 ?_
    jvm_step X185.here [X185.here.top, hx, (hb hby d13_44), X185.method', hret, Value.isRef, FieldType.isReference]
    first | (intro acts; rw [hr _ acts rfl rfl rfl]) | rw [hr _ _ rfl rfl rfl]
    exact Steps.refl _
  · show Qrm167 Z w_CS bb ba kv cs bs be ke h0 _ T185.heap _
    rw [e185]
    exact ⟨rfl, N185, K185, ((E_bb.keep K183q).wr W185), f186_F_bb_coder, ((F_bb_count.keep K183q (ninS hc63 (nin0))).same W185), f187_F_bb_value, (q183_V_ba.other W185 hc64)⟩
def Qrm166 (Z : State) (w_CS : Int32) (bb ba : Addr) (kv : ClassId) (cs : List Int32) (bs be : Addr) (ke : ClassId) (h0 : Heap) (v : Option Value) (h : Heap) (L : List Loc) : Prop := v = some (.ref bb) ∧ Fr Z.heap.size L ∧ Keep h0 h [bb, ba] ∧ Exa Z h bb "java/lang/StringBuilder" ∧ Fld Z h bb "java/lang/AbstractStringBuilder" "value" "[B" (.ref ba) ∧ Fld Z h bb "java/lang/AbstractStringBuilder" "coder" "B" (.int (0 : Int32)) ∧ Fld Z h bb "java/lang/AbstractStringBuilder" "count" "I" (.int (Int32.ofNat (cs.length + 1))) ∧ Arv Z h ba kv .byte (34 : Int32) (own_buf 34 (cs ++ [(46 : Int32)])) (.int (0 : Int32))
theorem rm166 (l : Launch) (Z : State) (a0 : Array Value) (hw : own_HW Z a0) (ws : List Jvm.Cond) (w_CS : Int32) (bb ba : Addr) (kv : ClassId) (cs : List Int32) (bs be : Addr) (ke : ClassId) (h0 : Heap) (Z0 : Ext Z.heap h0) (S_w_CS : own_w_CS Z w_CS) (E_bb : Exa Z h0 bb "java/lang/StringBuilder") (F_bb_value : Fld Z h0 bb "java/lang/AbstractStringBuilder" "value" "[B" (.ref ba)) (F_bb_coder : Fld Z h0 bb "java/lang/AbstractStringBuilder" "coder" "B" (.int (0 : Int32))) (F_bb_count : Fld Z h0 bb "java/lang/AbstractStringBuilder" "count" "I" (.int (Int32.ofNat cs.length))) (V_ba : Arv Z h0 ba kv .byte (34 : Int32) (own_buf 34 cs) (.int (0 : Int32))) (E_bs : Exa Z h0 bs "java/lang/String") (F_bs_coder : Fld Z h0 bs "java/lang/String" "coder" "B" (.int (0 : Int32))) (F_bs_value : Fld Z h0 bs "java/lang/String" "value" "[B" (.ref be)) (V_be : Arv Z h0 be ke .byte (1 : Int32) [(.int (46 : Int32))] (.int (0 : Int32))) (g_bb : Z.heap.size ≤ bb) (g_ba : Z.heap.size ≤ ba) (hc1 : ¬ (w_CS = (0 : Int32))) (hc67 : cs.length + 1 ≤ 34) (hc63 : bb ≠ ba) (hc64 : ba ≠ bb) :
    own_met l y_18 jdk_67_method_7_code 2 (some (.object "java/lang/StringBuilder")) ws ({ frames := 4, cells := 0, slots := 0, locals := 61 } : Room) Z #[(.ref bb), (.ref bs)] h0 (Qrm166 Z w_CS bb ba kv cs bs be ke h0) := by
  refine own_start (plainFor_of_name pn_5) (fun m => ef_jdk_67_method_7_RR m bb bs) ?_
  intro p e s m below meth c s₁ hx hby hml hown hnm X0 hZ e0 hret hlk
  have N0 := Fr.nil Z.heap.size
  obtain ⟨_, T188, Lc188, X188, hQ188, st188⟩ := own_super (y := y_17) X0 hx hZ hown (own_w hw 82 rfl) (own_same (own_w hw 83 rfl) (own_w hw 60 rfl) rfl (by decide)) (own_w hw 83 rfl) (own_w hw 48 rfl) (own_w hw 31 rfl) (own_w hw 85 rfl) (rm167 l Z a0 hw [] w_CS bb ba kv cs bs be ke h0 Z0 S_w_CS E_bb F_bb_coder F_bb_count F_bb_value E_bs F_bs_coder F_bs_value V_ba V_be g_bb g_ba hc1 hc67 hc63 hc64) e0 (Ins.self E_bb) (g := (mkF m 2 #[rv bb, rv bs] [(.ref bs), (.ref bb)])) (argsL := [(.ref bs)]) (rest := []) (W := 0) (lenOf pd_13 rfl) (hb hby d12_2) hml
  obtain ⟨rfl, N188q, K188q, q188_E_bb, q188_F_bb_coder, q188_F_bb_count, q188_F_bb_value, q188_V_ba⟩ := hQ188
  have K188 : Keep h0 T188.heap [bb, ba] := (Keep.refl h0 [bb, ba]).trans K188q (allS (Or.inl (List.mem_of_getElem? (i := 1) rfl)) (allS (Or.inl (List.mem_of_getElem? (i := 0) rfl)) all0))
  have XX188 : Ext Z.heap T188.heap := own_extK Z0 K188q (allS g_ba (allS g_bb all0))
  have N188 := Fr.app N0 N188q
  obtain ⟨fs, hr, hrun, hended, hW, hsame⟩ := X188.leave (v := some (.ref bb)) (fun h => by rw [hret] at h; cases h) hlk
  refine ⟨_, _, ?_, hrun, hended, _, _, rfl, ?_, ⟨_, rfl⟩, hW, hsame.mono (by decide) (by decide)⟩
  · show own_S p e below s₁ (mkF m 0 #[rv bb, rv bs] []) _
    refine own_aN X0 hx hby d12_0 ?_
    refine own_aN X0 hx hby d12_1 ?_
    refine st188 _ ?_
    refine XS.pop X188.here hx rfl (hb hby d12_5) rfl rfl ?_
    refine own_aN X188 hx hby d12_6 ?_
    jvm_step X188.here [X188.here.top, hx, (hb hby d12_7), X188.method', hret, Value.isRef, FieldType.isReference]
    first | (intro acts; rw [hr _ acts rfl rfl rfl]) | rw [hr _ _ rfl rfl rfl]
    exact Steps.refl _
  · show Qrm166 Z w_CS bb ba kv cs bs be ke h0 _ T188.heap _
    exact ⟨rfl, N188, K188, q188_E_bb, q188_F_bb_value, q188_F_bb_coder, q188_F_bb_count, q188_V_ba⟩
def Qown_apS_n34 (Z : State) (w_CS : Int32) (bb ba : Addr) (kv : ClassId) (cs : List Int32) (bs be : Addr) (ke : ClassId) (h0 : Heap) (v : Option Value) (h : Heap) (L : List Loc) : Prop := v = some (.ref bb) ∧ Fr Z.heap.size L ∧ Keep h0 h [bb, ba] ∧ Exa Z h bb "java/lang/StringBuilder" ∧ Fld Z h bb "java/lang/AbstractStringBuilder" "value" "[B" (.ref ba) ∧ Fld Z h bb "java/lang/AbstractStringBuilder" "coder" "B" (.int (0 : Int32)) ∧ Fld Z h bb "java/lang/AbstractStringBuilder" "count" "I" (.int (Int32.ofNat (cs ++ [(46 : Int32)]).length)) ∧ Arv Z h ba kv .byte (34 : Int32) (own_buf 34 (cs ++ [(46 : Int32)])) (.int (0 : Int32))
theorem own_apS_n34 (l : Launch) (Z : State) (a0 : Array Value) (hw : own_HW Z a0) (ws : List Jvm.Cond) (w_CS : Int32) (bb ba : Addr) (kv : ClassId) (cs : List Int32) (bs be : Addr) (ke : ClassId) (h0 : Heap) (Z0 : Ext Z.heap h0) (S_w_CS : own_w_CS Z w_CS) (E_bb : Exa Z h0 bb "java/lang/StringBuilder") (F_bb_value : Fld Z h0 bb "java/lang/AbstractStringBuilder" "value" "[B" (.ref ba)) (F_bb_coder : Fld Z h0 bb "java/lang/AbstractStringBuilder" "coder" "B" (.int (0 : Int32))) (F_bb_count : Fld Z h0 bb "java/lang/AbstractStringBuilder" "count" "I" (.int (Int32.ofNat cs.length))) (V_ba : Arv Z h0 ba kv .byte (34 : Int32) (own_buf 34 cs) (.int (0 : Int32))) (E_bs : Exa Z h0 bs "java/lang/String") (F_bs_coder : Fld Z h0 bs "java/lang/String" "coder" "B" (.int (0 : Int32))) (F_bs_value : Fld Z h0 bs "java/lang/String" "value" "[B" (.ref be)) (V_be : Arv Z h0 be ke .byte (1 : Int32) [(.int (46 : Int32))] (.int (0 : Int32))) (g_bb : Z.heap.size ≤ bb) (g_ba : Z.heap.size ≤ ba) (hc1 : ¬ (w_CS = (0 : Int32))) (hc67 : cs.length + 1 ≤ 34) (hc63 : bb ≠ ba) (hc64 : ba ≠ bb) :
    own_met l y_18 jdk_67_method_7_code 2 (some (.object "java/lang/StringBuilder")) ws ({ frames := 4, cells := 0, slots := 0, locals := 61 } : Room) Z #[(.ref bb), (.ref bs)] h0 (Qown_apS_n34 Z w_CS bb ba kv cs bs be ke h0) := by
  exact own_mono (rm166 l Z a0 hw ws w_CS bb ba kv cs bs be ke h0 Z0 S_w_CS E_bb F_bb_value F_bb_coder F_bb_count V_ba E_bs F_bs_coder F_bs_value V_be g_bb g_ba hc1 hc67 hc63 hc64) fun v h L ⟨z1, z2, z3, f0, f1, f2, f3, f4⟩ => ⟨z1, z2, z3, f0, f1, f2, (by rw [List.length_append]; exact f3), f4⟩
def Qrm190 (Z : State) (w_CS qa : Int32) (kk : Nat) (w_DO : Addr) (k_w_DO : ClassId) (w_DT : Addr) (k_w_DT : ClassId) (bb ba : Addr) (kv : ClassId) (cs : List Int32) (h0 : Heap) (v : Option Value) (h : Heap) (L : List Loc) : Prop := ∃ b194 : Addr, ∃ k195 : ClassId, v = some (.ref bb) ∧ Fr Z.heap.size L ∧ Keep h0 h [bb] ∧ h0.size ≤ b194 ∧ Exa Z h bb "java/lang/StringBuilder" ∧ Fld Z h bb "java/lang/AbstractStringBuilder" "coder" "B" (.int (0 : Int32)) ∧ Fld Z h bb "java/lang/AbstractStringBuilder" "count" "I" (.int (Int32.ofNat (cs.length + kk))) ∧ Fld Z h bb "java/lang/AbstractStringBuilder" "value" "[B" (.ref b194) ∧ Arv Z h b194 k195 .byte (34 : Int32) (own_buf 34 (cs ++ own_ds qa kk)) (.int (0 : Int32))
theorem rm190 (l : Launch) (Z : State) (a0 : Array Value) (hw : own_HW Z a0) (ws : List Jvm.Cond) (w_CS qa : Int32) (kk : Nat) (w_DO : Addr) (k_w_DO : ClassId) (w_DT : Addr) (k_w_DT : ClassId) (bb ba : Addr) (kv : ClassId) (cs : List Int32) (h0 : Heap) (Z0 : Ext Z.heap h0) (S_w_CS : own_w_CS Z w_CS) (S_w_DO : own_Sw_DO Z w_DO) (A_w_DO : Arv Z Z.heap w_DO k_w_DO .byte (100 : Int32) own_ones (.int (0 : Int32))) (S_w_DT : own_Sw_DT Z w_DT) (A_w_DT : Arv Z Z.heap w_DT k_w_DT .byte (100 : Int32) own_tens (.int (0 : Int32))) (E_bb : Exa Z h0 bb "java/lang/StringBuilder") (F_bb_coder : Fld Z h0 bb "java/lang/AbstractStringBuilder" "coder" "B" (.int (0 : Int32))) (F_bb_count : Fld Z h0 bb "java/lang/AbstractStringBuilder" "count" "I" (.int (Int32.ofNat cs.length))) (F_bb_value : Fld Z h0 bb "java/lang/AbstractStringBuilder" "value" "[B" (.ref ba)) (V_ba : Arv Z h0 ba kv .byte (16 : Int32) (own_buf 16 cs) (.int (0 : Int32))) (g_bb : Z.heap.size ≤ bb) (hc21 : own_nd qa kk) (hc68 : own_gw (cs.length + kk) ) (hc61 : cs.length ≤ 16) (hc1 : ¬ (w_CS = (0 : Int32))) :
    own_met l y_10 jdk_68_method_32_code 4 (some (.object "java/lang/AbstractStringBuilder")) ws ({ frames := 4, cells := 1, slots := 34, locals := 62 } : Room) Z #[(.ref bb), (.int qa)] h0 (Qrm190 Z w_CS qa kk w_DO k_w_DO w_DT k_w_DT bb ba kv cs h0) := by
  refine own_start (plainFor_of_name pn_2) (fun m => ef_jdk_68_method_32_RI m bb qa) ?_
  intro p e s m below meth c s₁ hx hby hml hown hnm X0 hZ e0 hret hlk
  have N0 := Fr.nil Z.heap.size
  obtain ⟨T191, X191, e191, st191⟩ := getF X0 hx hZ hown (host := "") (Or.inl (own_w hw 51 rfl)) Via.refl e0 F_bb_count (g := (mkF m 1 #[rv bb, iv qa, .unset, .unset] [(.ref bb)])) rfl rfl (hb hby d7_1)
  obtain ⟨_, T192, Lc192, X192, hQ192, st192⟩ := own_static (y := y_0) X191 hx hZ hown (own_w hw 53 rfl) (own_w hw 54 rfl) (own_w hw 55 rfl) (own_w hw 56 rfl) (own_ssJ l Z a0 hw [] qa kk h0 Z0 hc21) e191 (g := (mkF m 7 #[rv bb, iv qa, iv (Int32.ofNat cs.length), .unset] [(.int qa), (.int (Int32.ofNat cs.length))])) (argsL := [(.int qa)]) (rest := [(.int (Int32.ofNat cs.length))]) (W := 1) (lenOf pd_2 rfl) (hb hby d7_7) hml
  obtain ⟨rfl, N192q, e192⟩ := hQ192
  have N192 := Fr.app N0 N192q
  obtain ⟨_, T193, Lc193, X193, hQ193, st193⟩ := own_virtual (y := y_3) X192 hx hZ hown (own_w hw 57 rfl) (own_decl (own_w hw 58 rfl) (own_w hw 61 rfl)) (own_w hw 60 rfl) (own_w hw 58 rfl) (own_w hw 31 rfl) (own_w hw 61 rfl) (rm75 l Z a0 hw [] bb ba kv cs (cs.length + kk) h0 Z0 E_bb F_bb_value F_bb_coder F_bb_count V_ba g_bb hc68 hc61) e192 E_bb (g := (mkF m 14 #[rv bb, iv qa, iv (Int32.ofNat cs.length), iv (Int32.ofNat (cs.length + kk))] [(.int (Int32.ofNat (cs.length + kk))), (.ref bb)])) (argsL := [(.int (Int32.ofNat (cs.length + kk)))]) (rest := []) (W := 0) (lenOf pd_4 rfl) (hb hby d7_14) hml
  obtain ⟨b194, k195, rfl, N193q, K193q, szn_b194, q193_E_bb, q193_F_bb_value, q193_F_bb_coder, q193_F_bb_count, q193_V_b194⟩ := hQ193
  have g_b194 : Z.heap.size ≤ b194 := Nat.le_trans Z0.1 szn_b194
  have sz_b194 : h0.size ≤ b194 := Nat.le_trans (Keep.refl h0 [bb]).1 szn_b194
  have K193 : Keep h0 T193.heap [bb] := (Keep.refl h0 [bb]).trans K193q (allS (Or.inl (List.mem_of_getElem? (i := 0) rfl)) all0)
  have XX193 : Ext Z.heap T193.heap := own_extK Z0 K193q (allS g_bb all0)
  have N193 := Fr.app N192 N193q
  obtain ⟨_, T196, Lc196, X196, hQ196, st196⟩ := own_virtual (y := y_9) X193 hx hZ hown (own_w hw 62 rfl) (own_w hw 63 rfl) (own_w hw 65 rfl) (own_w hw 64 rfl) (own_w hw 31 rfl) (own_w hw 66 rfl) (rm110 l Z a0 hw [] w_CS bb T193.heap XX193 S_w_CS q193_F_bb_coder hc1) rfl q193_E_bb (g := (mkF m 18 #[rv bb, iv qa, iv (Int32.ofNat cs.length), iv (Int32.ofNat (cs.length + kk))] [(.ref bb)])) (argsL := []) (rest := []) (W := 0) (lenOf pd_5 rfl) (hb hby d7_18) hml
  obtain ⟨rfl, N196q, e196⟩ := hQ196
  have N196 := Fr.app N193 N196q
  obtain ⟨T197, X197, e197, st197⟩ := getF X196 hx hZ hown (host := "") (Or.inl (own_w hw 37 rfl)) Via.refl e196 q193_F_bb_value (g := (mkF m 27 #[rv bb, iv qa, iv (Int32.ofNat cs.length), iv (Int32.ofNat (cs.length + kk))] [(.ref bb), (.int (Int32.ofNat (cs.length + kk))), (.int qa)])) rfl rfl (hb hby d7_27)
  obtain ⟨_, T198, Lc198, X198, hQ198, st198⟩ := own_static (y := y_2) X197 hx hZ hown (own_w hw 67 rfl) (own_w hw 68 rfl) (own_w hw 55 rfl) (own_w hw 69 rfl) (own_gcG l Z a0 hw [] qa kk w_DO k_w_DO w_DT k_w_DT b194 k195 (own_buf 34 cs) (own_buf 34 (cs ++ own_ds qa kk)) (34 : Int32) cs.length T193.heap XX193 S_w_DO A_w_DO S_w_DT A_w_DT q193_V_b194 g_b194 hc21 (own_gx_buf (own_gw_le hc68) (by decide)) (own_ln_buf rfl (own_le_of (own_gw_le hc68)))) e197 (g := (mkF m 30 #[rv bb, iv qa, iv (Int32.ofNat cs.length), iv (Int32.ofNat (cs.length + kk))] [(.ref b194), (.int (Int32.ofNat (cs.length + kk))), (.int qa)])) (argsL := [(.int qa), (.int (Int32.ofNat (cs.length + kk))), (.ref b194)]) (rest := []) (W := 0) (lenOf pd_6 rfl) (hb hby d7_30) hml
  obtain ⟨rfl, N198q, K198q, q198_V_b194⟩ := hQ198
  have K198 : Keep h0 T198.heap [bb] := K193.trans K198q (allS (Or.inr sz_b194) all0)
  have XX198 : Ext Z.heap T198.heap := own_extK XX193 K198q (allS g_b194 all0)
  have N198 := Fr.app N196 N198q
  have ne_bb_b194 : bb ≠ b194 := Nat.ne_of_lt (Nat.lt_of_lt_of_le E_bb.lt szn_b194)
  obtain ⟨T199, h199, X199, e199, W199, st199⟩ := putF X198 hx hZ hown (host := "") (Or.inl (own_w hw 51 rfl)) Via.refl rfl (q193_F_bb_count.keep K198q (ninS ne_bb_b194 (nin0))) (q193_E_bb.keep K198q) (Or.inl (own_w hw 52 rfl)) (own_w hw 22 rfl) (ty := .int) (by decide) rfl rfl (g := (mkF m 50 #[rv bb, iv qa, iv (Int32.ofNat cs.length), iv (Int32.ofNat (cs.length + kk))] [(.int (Int32.ofNat (cs.length + kk))), (.ref bb)])) rfl rfl (hb hby d7_50)
  have K199 : Keep h0 h199 [bb] := K198.wr W199 (Or.inl (List.mem_of_getElem? (i := 0) rfl))
  have XX199 : Ext Z.heap h199 := own_extW XX198 W199 g_bb
  have N199 := Fr.snoc X199 N198 g_bb
  have f200_F_bb_coder : Fld Z h199 bb "java/lang/AbstractStringBuilder" "coder" "B" (.int (0 : Int32)) := ((q193_F_bb_coder.keep K198q (ninS ne_bb_b194 (nin0))).other W199 (Or.inr (slot_ne (Or.inl (own_w hw 40 rfl)) (Or.inl (own_w hw 52 rfl)) (by decide) (t := .byte) (t' := .int) (by decide) (by decide))))
  have f201_F_bb_count : Fld Z h199 bb "java/lang/AbstractStringBuilder" "count" "I" (.int (Int32.ofNat (cs.length + kk))) := ((q193_F_bb_count.keep K198q (ninS ne_bb_b194 (nin0))).same W199)
  have f202_F_bb_value : Fld Z h199 bb "java/lang/AbstractStringBuilder" "value" "[B" (.ref b194) := ((q193_F_bb_value.keep K198q (ninS ne_bb_b194 (nin0))).other W199 (Or.inr (slot_ne (Or.inl (own_w hw 38 rfl)) (Or.inl (own_w hw 52 rfl)) (by decide) (t := (.array .byte)) (t' := .int) (by decide) (by decide))))
  obtain ⟨fs, hr, hrun, hended, hW, hsame⟩ := X199.leave (v := some (.ref bb)) (fun h => by rw [hret] at h; cases h) hlk
  refine ⟨_, _, ?_, hrun, hended, _, _, rfl, ?_, ⟨_, rfl⟩, hW, hsame.mono (by decide) (by decide)⟩
  · show own_S p e below s₁ (mkF m 0 #[rv bb, iv qa, .unset, .unset] []) _
    refine own_aN X0 hx hby d7_0 ?_
    refine st191 _ ?_
    refine XS.istoreN X191.here hx rfl (hb hby d7_4) rfl (l' := #[rv bb, iv qa, iv (Int32.ofNat cs.length), .unset]) rfl ?_
    refine own_iN X191 hx hby d7_5 ?_
    refine own_iN X191 hx hby d7_6 ?_
    refine st192 _ ?_
    refine XS.iadd X192.here hx rfl (hb hby d7_10) rfl ?_
    show own_S p e below T192 (mkF m 11 #[rv bb, iv qa, iv (Int32.ofNat cs.length), .unset] [(.int ((Int32.ofNat cs.length) + (Int32.ofNat kk)))]) _
    rw [(Int32.ofNat_add _ _).symm]
    refine XS.istoreN X192.here hx rfl (hb hby d7_11) rfl (l' := #[rv bb, iv qa, iv (Int32.ofNat cs.length), iv (Int32.ofNat (cs.length + kk))]) rfl ?_
    refine own_aN X192 hx hby d7_12 ?_
    refine own_iN X192 hx hby d7_13 ?_
    refine st193 _ ?_
    refine own_aN X193 hx hby d7_17 ?_
    refine st196 _ ?_
    refine own_in X196 hx hby d7_21 (feq (by decide : ¬ ((1 : Int32) = (0 : Int32)))).1 ?_
    refine own_iN X196 hx hby d7_24 ?_
    refine own_iN X196 hx hby d7_25 ?_
    refine own_aN X196 hx hby d7_26 ?_
    refine st197 _ ?_
    refine st198 _ ?_
    refine XS.pop X198.here hx rfl (hb hby d7_33) rfl rfl ?_
    refine own_go (pc := 34) X198 hx hby d7_34 48 ?_
    refine own_aN X198 hx hby d7_48 ?_
    refine own_iN X198 hx hby d7_49 ?_
    refine st199 _ ?_
    refine own_aN X199 hx hby d7_53 ?_
    jvm_step X199.here [X199.here.top, hx, (hb hby d7_54), X199.method', hret, Value.isRef, FieldType.isReference]
    first | (intro acts; rw [hr _ acts rfl rfl rfl]) | rw [hr _ _ rfl rfl rfl]
    exact Steps.refl _
  · show Qrm190 Z w_CS qa kk w_DO k_w_DO w_DT k_w_DT bb ba kv cs h0 _ T199.heap _
    rw [e199]
    exact ⟨b194, k195, rfl, N199, K199, sz_b194, ((q193_E_bb.keep K198q).wr W199), f200_F_bb_coder, f201_F_bb_count, f202_F_bb_value, (q198_V_b194.other W199 (Ne.symm ne_bb_b194))⟩
def Qrm189 (Z : State) (w_CS qa : Int32) (kk : Nat) (w_DO : Addr) (k_w_DO : ClassId) (w_DT : Addr) (k_w_DT : ClassId) (bb ba : Addr) (kv : ClassId) (cs : List Int32) (h0 : Heap) (v : Option Value) (h : Heap) (L : List Loc) : Prop := ∃ b204 : Addr, ∃ k205 : ClassId, v = some (.ref bb) ∧ Fr Z.heap.size L ∧ Keep h0 h [bb] ∧ h0.size ≤ b204 ∧ Exa Z h bb "java/lang/StringBuilder" ∧ Fld Z h bb "java/lang/AbstractStringBuilder" "value" "[B" (.ref b204) ∧ Fld Z h bb "java/lang/AbstractStringBuilder" "coder" "B" (.int (0 : Int32)) ∧ Fld Z h bb "java/lang/AbstractStringBuilder" "count" "I" (.int (Int32.ofNat (cs.length + kk))) ∧ Arv Z h b204 k205 .byte (34 : Int32) (own_buf 34 (cs ++ own_ds qa kk)) (.int (0 : Int32))
theorem rm189 (l : Launch) (Z : State) (a0 : Array Value) (hw : own_HW Z a0) (ws : List Jvm.Cond) (w_CS qa : Int32) (kk : Nat) (w_DO : Addr) (k_w_DO : ClassId) (w_DT : Addr) (k_w_DT : ClassId) (bb ba : Addr) (kv : ClassId) (cs : List Int32) (h0 : Heap) (Z0 : Ext Z.heap h0) (S_w_CS : own_w_CS Z w_CS) (S_w_DO : own_Sw_DO Z w_DO) (A_w_DO : Arv Z Z.heap w_DO k_w_DO .byte (100 : Int32) own_ones (.int (0 : Int32))) (S_w_DT : own_Sw_DT Z w_DT) (A_w_DT : Arv Z Z.heap w_DT k_w_DT .byte (100 : Int32) own_tens (.int (0 : Int32))) (E_bb : Exa Z h0 bb "java/lang/StringBuilder") (F_bb_value : Fld Z h0 bb "java/lang/AbstractStringBuilder" "value" "[B" (.ref ba)) (F_bb_coder : Fld Z h0 bb "java/lang/AbstractStringBuilder" "coder" "B" (.int (0 : Int32))) (F_bb_count : Fld Z h0 bb "java/lang/AbstractStringBuilder" "count" "I" (.int (Int32.ofNat cs.length))) (V_ba : Arv Z h0 ba kv .byte (16 : Int32) (own_buf 16 cs) (.int (0 : Int32))) (g_bb : Z.heap.size ≤ bb) (hc21 : own_nd qa kk) (hc68 : own_gw (cs.length + kk) ) (hc61 : cs.length ≤ 16) (hc1 : ¬ (w_CS = (0 : Int32))) :
    own_met l y_11 jdk_67_method_15_code 2 (some (.object "java/lang/StringBuilder")) ws ({ frames := 5, cells := 1, slots := 34, locals := 77 } : Room) Z #[(.ref bb), (.int qa)] h0 (Qrm189 Z w_CS qa kk w_DO k_w_DO w_DT k_w_DT bb ba kv cs h0) := by
  refine own_start (plainFor_of_name pn_5) (fun m => ef_jdk_67_method_15_RI m bb qa) ?_
  intro p e s m below meth c s₁ hx hby hml hown hnm X0 hZ e0 hret hlk
  have N0 := Fr.nil Z.heap.size
  obtain ⟨_, T203, Lc203, X203, hQ203, st203⟩ := own_super (y := y_10) X0 hx hZ hown (own_w hw 46 rfl) (own_same (own_w hw 47 rfl) (own_w hw 60 rfl) rfl (by decide)) (own_w hw 47 rfl) (own_w hw 48 rfl) (own_w hw 31 rfl) (own_w hw 50 rfl) (rm190 l Z a0 hw [] w_CS qa kk w_DO k_w_DO w_DT k_w_DT bb ba kv cs h0 Z0 S_w_CS S_w_DO A_w_DO S_w_DT A_w_DT E_bb F_bb_coder F_bb_count F_bb_value V_ba g_bb hc21 hc68 hc61 hc1) e0 (Ins.self E_bb) (g := (mkF m 2 #[rv bb, iv qa] [(.int qa), (.ref bb)])) (argsL := [(.int qa)]) (rest := []) (W := 0) (lenOf pd_7 rfl) (hb hby d6_2) hml
  obtain ⟨b204, k205, rfl, N203q, K203q, szn_b204, q203_E_bb, q203_F_bb_coder, q203_F_bb_count, q203_F_bb_value, q203_V_b204⟩ := hQ203
  have g_b204 : Z.heap.size ≤ b204 := Nat.le_trans Z0.1 szn_b204
  have sz_b204 : h0.size ≤ b204 := Nat.le_trans (Keep.refl h0 [bb]).1 szn_b204
  have K203 : Keep h0 T203.heap [bb] := (Keep.refl h0 [bb]).trans K203q (allS (Or.inl (List.mem_of_getElem? (i := 0) rfl)) all0)
  have XX203 : Ext Z.heap T203.heap := own_extK Z0 K203q (allS g_bb all0)
  have N203 := Fr.app N0 N203q
  obtain ⟨fs, hr, hrun, hended, hW, hsame⟩ := X203.leave (v := some (.ref bb)) (fun h => by rw [hret] at h; cases h) hlk
  refine ⟨_, _, ?_, hrun, hended, _, _, rfl, ?_, ⟨_, rfl⟩, hW, hsame.mono (by decide) (by decide)⟩
  · show own_S p e below s₁ (mkF m 0 #[rv bb, iv qa] []) _
    refine own_aN X0 hx hby d6_0 ?_
    refine own_iN X0 hx hby d6_1 ?_
    refine st203 _ ?_
    refine XS.pop X203.here hx rfl (hb hby d6_5) rfl rfl ?_
    refine own_aN X203 hx hby d6_6 ?_
    jvm_step X203.here [X203.here.top, hx, (hb hby d6_7), X203.method', hret, Value.isRef, FieldType.isReference]
    first | (intro acts; rw [hr _ acts rfl rfl rfl]) | rw [hr _ _ rfl rfl rfl]
    exact Steps.refl _
  · show Qrm189 Z w_CS qa kk w_DO k_w_DO w_DT k_w_DT bb ba kv cs h0 _ T203.heap _
    exact ⟨b204, k205, rfl, N203, K203, sz_b204, q203_E_bb, q203_F_bb_value, q203_F_bb_coder, q203_F_bb_count, q203_V_b204⟩
def Qown_apI_g (Z : State) (w_CS qa : Int32) (kk : Nat) (w_DO : Addr) (k_w_DO : ClassId) (w_DT : Addr) (k_w_DT : ClassId) (bb ba : Addr) (kv : ClassId) (cs : List Int32) (h0 : Heap) (v : Option Value) (h : Heap) (L : List Loc) : Prop := ∃ b204 : Addr, ∃ k205 : ClassId, v = some (.ref bb) ∧ Fr Z.heap.size L ∧ Keep h0 h [bb] ∧ h0.size ≤ b204 ∧ Exa Z h bb "java/lang/StringBuilder" ∧ Fld Z h bb "java/lang/AbstractStringBuilder" "value" "[B" (.ref b204) ∧ Fld Z h bb "java/lang/AbstractStringBuilder" "coder" "B" (.int (0 : Int32)) ∧ Fld Z h bb "java/lang/AbstractStringBuilder" "count" "I" (.int (Int32.ofNat (cs ++ own_ds qa kk).length)) ∧ Arv Z h b204 k205 .byte (34 : Int32) (own_buf 34 (cs ++ own_ds qa kk)) (.int (0 : Int32))
theorem own_apI_g (l : Launch) (Z : State) (a0 : Array Value) (hw : own_HW Z a0) (ws : List Jvm.Cond) (w_CS qa : Int32) (kk : Nat) (w_DO : Addr) (k_w_DO : ClassId) (w_DT : Addr) (k_w_DT : ClassId) (bb ba : Addr) (kv : ClassId) (cs : List Int32) (h0 : Heap) (Z0 : Ext Z.heap h0) (S_w_CS : own_w_CS Z w_CS) (S_w_DO : own_Sw_DO Z w_DO) (A_w_DO : Arv Z Z.heap w_DO k_w_DO .byte (100 : Int32) own_ones (.int (0 : Int32))) (S_w_DT : own_Sw_DT Z w_DT) (A_w_DT : Arv Z Z.heap w_DT k_w_DT .byte (100 : Int32) own_tens (.int (0 : Int32))) (E_bb : Exa Z h0 bb "java/lang/StringBuilder") (F_bb_value : Fld Z h0 bb "java/lang/AbstractStringBuilder" "value" "[B" (.ref ba)) (F_bb_coder : Fld Z h0 bb "java/lang/AbstractStringBuilder" "coder" "B" (.int (0 : Int32))) (F_bb_count : Fld Z h0 bb "java/lang/AbstractStringBuilder" "count" "I" (.int (Int32.ofNat cs.length))) (V_ba : Arv Z h0 ba kv .byte (16 : Int32) (own_buf 16 cs) (.int (0 : Int32))) (g_bb : Z.heap.size ≤ bb) (hc21 : own_nd qa kk) (hc68 : own_gw (cs.length + kk) ) (hc61 : cs.length ≤ 16) (hc1 : ¬ (w_CS = (0 : Int32))) :
    own_met l y_11 jdk_67_method_15_code 2 (some (.object "java/lang/StringBuilder")) ws ({ frames := 5, cells := 1, slots := 34, locals := 77 } : Room) Z #[(.ref bb), (.int qa)] h0 (Qown_apI_g Z w_CS qa kk w_DO k_w_DO w_DT k_w_DT bb ba kv cs h0) := by
  exact own_mono (rm189 l Z a0 hw ws w_CS qa kk w_DO k_w_DO w_DT k_w_DT bb ba kv cs h0 Z0 S_w_CS S_w_DO A_w_DO S_w_DT A_w_DT E_bb F_bb_value F_bb_coder F_bb_count V_ba g_bb hc21 hc68 hc61 hc1) fun v h L ⟨b204, k205, z1, z2, z3, s0, f0, f1, f2, f3, f4⟩ => ⟨b204, k205, z1, z2, z3, s0, f0, f1, f2, (by rw [List.length_append, own_ds_len]; exact f3), f4⟩
def Qrm218 (Z : State) (w_CS : Int32) (cs : List Int32) (bs be : Addr) (ke : ClassId) (b211 : Addr) (k212 : ClassId) (h0 : Heap) (v : Option Value) (h : Heap) (L : List Loc) : Prop := v = none ∧ Fr Z.heap.size L ∧ Keep h0 h [b211] ∧ Arv Z h b211 k212 .byte (34 : Int32) (own_buf 34 (cs ++ [(46 : Int32)])) (.int (0 : Int32))
theorem rm218 (l : Launch) (Z : State) (a0 : Array Value) (hw : own_HW Z a0) (ws : List Jvm.Cond) (w_CS : Int32) (cs : List Int32) (bs be : Addr) (ke : ClassId) (b211 : Addr) (k212 : ClassId) (h0 : Heap) (Z0 : Ext Z.heap h0) (S_w_CS : own_w_CS Z w_CS) (E_bs : Exa Z h0 bs "java/lang/String") (F_bs_coder : Fld Z h0 bs "java/lang/String" "coder" "B" (.int (0 : Int32))) (F_bs_value : Fld Z h0 bs "java/lang/String" "value" "[B" (.ref be)) (V_b211 : Arv Z h0 b211 k212 .byte (34 : Int32) (own_buf 34 cs) (.int (0 : Int32))) (V_be : Arv Z h0 be ke .byte (1 : Int32) [(.int (46 : Int32))] (.int (0 : Int32))) (g_b211 : Z.heap.size ≤ b211) (hc1 : ¬ (w_CS = (0 : Int32))) (hc69 : own_gw (cs.length + 1) ) :
    own_met l y_15 jdk_42_method_147_code 4 none ws ({ frames := 1, cells := 0, slots := 0, locals := 18 } : Room) Z #[(.ref bs), (.ref b211), (.int (Int32.ofNat cs.length)), (.int (0 : Int32))] h0 (Qrm218 Z w_CS cs bs be ke b211 k212 h0) := by
  refine own_start (plainFor_of_name pn_6) (fun m => ef_jdk_42_method_147_RRII m bs b211 (Int32.ofNat cs.length) (0 : Int32)) ?_
  intro p e s m below meth c s₁ hx hby hml hown hnm X0 hZ e0 hret hlk
  have N0 := Fr.nil Z.heap.size
  obtain ⟨_, T219, Lc219, X219, hQ219, st219⟩ := own_virtual (y := y_12) X0 hx hZ hown (own_w hw 92 rfl) (own_w hw 93 rfl) (own_w hw 95 rfl) (own_w hw 94 rfl) (own_w hw 35 rfl) (own_w hw 96 rfl) (rm125 l Z a0 hw [] w_CS bs h0 Z0 S_w_CS F_bs_coder hc1) e0 E_bs (g := (mkF m 1 #[rv bs, rv b211, iv (Int32.ofNat cs.length), iv (0 : Int32)] [(.ref bs)])) (argsL := []) (rest := []) (W := 0) (lenOf pd_8 rfl) (hb hby d18_1) hml
  obtain ⟨rfl, N219q, e219⟩ := hQ219
  have N219 := Fr.app N0 N219q
  obtain ⟨T220, X220, e220, st220⟩ := getF X219 hx hZ hown (host := "") (Or.inl (own_w hw 91 rfl)) Via.refl e219 F_bs_value (g := (mkF m 9 #[rv bs, rv b211, iv (Int32.ofNat cs.length), iv (0 : Int32)] [(.ref bs)])) rfl rfl (hb hby d18_9)
  obtain ⟨T221, X221, e221, st221⟩ := getF X220 hx hZ hown (host := "") (Or.inl (own_w hw 91 rfl)) Via.refl e220 F_bs_value (g := (mkF m 18 #[rv bs, rv b211, iv (Int32.ofNat cs.length), iv (0 : Int32)] [(.ref bs), (.int (Int32.ofNat cs.length)), (.ref b211), (.int (0 : Int32)), (.ref be)])) rfl rfl (hb hby d18_18)
  obtain ⟨cl222, Ar222, q222, S222, Nn222, H222, G222⟩ := id V_be
  obtain ⟨T223, h223, L223, X223, e223, N223, K223q, V223, st223⟩ := own_cp X221 hx hZ hown (own_w hw 115 rfl) (own_w hw 118 rfl) (own_w hw 116 rfl) (own_w hw 117 rfl) e221 V_be V_b211 (own_cp_add (ds := [(46 : Int32)]) (own_gw_le hc69) (by decide) (by decide)) N219 g_b211 (g := (mkF m 22 #[rv bs, rv b211, iv (Int32.ofNat cs.length), iv (0 : Int32)] [(.int (1 : Int32)), (.int (Int32.ofNat cs.length)), (.ref b211), (.int (0 : Int32)), (.ref be)])) (W := 0) (hb hby d18_22) hml
  have XX223 : Ext Z.heap h223 := own_extK Z0 K223q (allS g_b211 all0)
  have K223 : Keep h0 h223 [b211] := (Keep.refl h0 [b211]).trans K223q (allS (Or.inl (List.mem_of_getElem? (i := 0) rfl)) all0)
  obtain ⟨fs, hr, hrun, hended, hW, hsame⟩ := X223.leave (v := none) (fun _ => rfl) hlk
  refine ⟨_, _, ?_, hrun, hended, _, _, rfl, ?_, ⟨_, rfl⟩, hW, hsame.mono (by decide) (by decide)⟩
  · show own_S p e below s₁ (mkF m 0 #[rv bs, rv b211, iv (Int32.ofNat cs.length), iv (0 : Int32)] []) _
    refine own_aN X0 hx hby d18_0 ?_
    refine st219 _ ?_
    refine own_iN X219 hx hby d18_4 ?_
    refine own_cn X219 hx hby d18_5 (teq (rfl : (0 : Int32) = (0 : Int32))).2 ?_
    refine own_aN X219 hx hby d18_8 ?_
    refine st220 _ ?_
    refine own_k X220 hx hby d18_12 ?_
    refine own_aN X220 hx hby d18_13 ?_
    refine own_iN X220 hx hby d18_14 ?_
    refine own_iN X220 hx hby d18_15 ?_
    refine XS.ishl X220.here hx rfl (hb hby d18_16) rfl ?_
    show own_S p e below T220 (mkF m 17 #[rv bs, rv b211, iv (Int32.ofNat cs.length), iv (0 : Int32)] [(.int ((Int32.ofNat cs.length) <<< ((0 : Int32) &&& 31))), (.ref b211), (.int (0 : Int32)), (.ref be)]) _
    rw [(own_shl0 _)]
    refine own_aN X220 hx hby d18_17 ?_
    refine st221 _ ?_
    refine X221.arraylength hx (by rw [e221]; exact Ar222.1) (State.isArrayOf_alike hZ.alike Ar222.2.1) (g := (mkF m 21 #[rv bs, rv b211, iv (Int32.ofNat cs.length), iv (0 : Int32)] [(.ref be), (.int (Int32.ofNat cs.length)), (.ref b211), (.int (0 : Int32)), (.ref be)])) rfl rfl (hb hby d18_21) _ ?_
    rw [len_of S222 Nn222]
    refine st223 _ ?_
    refine own_go (pc := 25) X223 hx hby d18_25 43 ?_
    exact X223.returnOut hx hret (hb hby d18_43) hr
  · show Qrm218 Z w_CS cs bs be ke b211 k212 h0 _ T223.heap _
    rw [e223]
    exact ⟨rfl, N223, K223, V223⟩
def Qrm214 (Z : State) (w_CS : Int32) (bb : Addr) (cs : List Int32) (bs be : Addr) (ke : ClassId) (b211 : Addr) (k212 : ClassId) (h0 : Heap) (v : Option Value) (h : Heap) (L : List Loc) : Prop := v = none ∧ Fr Z.heap.size L ∧ Keep h0 h [b211] ∧ Arv Z h b211 k212 .byte (34 : Int32) (own_buf 34 (cs ++ [(46 : Int32)])) (.int (0 : Int32))
theorem rm214 (l : Launch) (Z : State) (a0 : Array Value) (hw : own_HW Z a0) (ws : List Jvm.Cond) (w_CS : Int32) (bb : Addr) (cs : List Int32) (bs be : Addr) (ke : ClassId) (b211 : Addr) (k212 : ClassId) (h0 : Heap) (Z0 : Ext Z.heap h0) (S_w_CS : own_w_CS Z w_CS) (E_bb : Exa Z h0 bb "java/lang/StringBuilder") (F_bb_coder : Fld Z h0 bb "java/lang/AbstractStringBuilder" "coder" "B" (.int (0 : Int32))) (F_bb_value : Fld Z h0 bb "java/lang/AbstractStringBuilder" "value" "[B" (.ref b211)) (E_bs : Exa Z h0 bs "java/lang/String") (F_bs_coder : Fld Z h0 bs "java/lang/String" "coder" "B" (.int (0 : Int32))) (F_bs_value : Fld Z h0 bs "java/lang/String" "value" "[B" (.ref be)) (V_b211 : Arv Z h0 b211 k212 .byte (34 : Int32) (own_buf 34 cs) (.int (0 : Int32))) (V_be : Arv Z h0 be ke .byte (1 : Int32) [(.int (46 : Int32))] (.int (0 : Int32))) (g_b211 : Z.heap.size ≤ b211) (hc1 : ¬ (w_CS = (0 : Int32))) (hc69 : own_gw (cs.length + 1) ) :
    own_met l y_16 jdk_68_method_73_code 3 none ws ({ frames := 2, cells := 0, slots := 0, locals := 33 } : Room) Z #[(.ref bb), (.int (Int32.ofNat cs.length)), (.ref bs)] h0 (Qrm214 Z w_CS bb cs bs be ke b211 k212 h0) := by
  refine own_start (plainFor_of_name pn_2) (fun m => ef_jdk_68_method_73_RIR m bb (Int32.ofNat cs.length) bs) ?_
  intro p e s m below meth c s₁ hx hby hml hown hnm X0 hZ e0 hret hlk
  have N0 := Fr.nil Z.heap.size
  obtain ⟨_, T215, Lc215, X215, hQ215, st215⟩ := own_virtual (y := y_14) X0 hx hZ hown (own_w hw 104 rfl) (own_decl (own_w hw 105 rfl) (own_w hw 108 rfl)) (own_w hw 107 rfl) (own_w hw 105 rfl) (own_w hw 31 rfl) (own_w hw 108 rfl) (rm134 l Z a0 hw [] w_CS bb bs h0 Z0 S_w_CS F_bb_coder E_bs F_bs_coder hc1) e0 E_bb (g := (mkF m 2 #[rv bb, iv (Int32.ofNat cs.length), rv bs] [(.ref bs), (.ref bb)])) (argsL := [(.ref bs)]) (rest := []) (W := 0) (lenOf pd_10 rfl) (hb hby d16_2) hml
  obtain ⟨rfl, N215q, e215⟩ := hQ215
  have N215 := Fr.app N0 N215q
  obtain ⟨T216, X216, e216, st216⟩ := getF X215 hx hZ hown (host := "") (Or.inl (own_w hw 37 rfl)) Via.refl e215 F_bb_value (g := (mkF m 7 #[rv bb, iv (Int32.ofNat cs.length), rv bs] [(.ref bb), (.ref bs)])) rfl rfl (hb hby d16_7)
  obtain ⟨T217, X217, e217, st217⟩ := getF X216 hx hZ hown (host := "") (Or.inl (own_w hw 39 rfl)) Via.refl e216 F_bb_coder (g := (mkF m 12 #[rv bb, iv (Int32.ofNat cs.length), rv bs] [(.ref bb), (.int (Int32.ofNat cs.length)), (.ref b211), (.ref bs)])) rfl rfl (hb hby d16_12)
  obtain ⟨_, T224, Lc224, X224, hQ224, st224⟩ := own_virtual (y := y_15) X217 hx hZ hown (own_w hw 110 rfl) (own_w hw 111 rfl) (own_w hw 113 rfl) (own_w hw 112 rfl) (own_w hw 35 rfl) (own_w hw 114 rfl) (rm218 l Z a0 hw [] w_CS cs bs be ke b211 k212 h0 Z0 S_w_CS E_bs F_bs_coder F_bs_value V_b211 V_be g_b211 hc1 hc69) e217 E_bs (g := (mkF m 15 #[rv bb, iv (Int32.ofNat cs.length), rv bs] [(.int (0 : Int32)), (.int (Int32.ofNat cs.length)), (.ref b211), (.ref bs)])) (argsL := [(.ref b211), (.int (Int32.ofNat cs.length)), (.int (0 : Int32))]) (rest := []) (W := 0) (lenOf pd_11 rfl) (hb hby d16_15) hml
  obtain ⟨rfl, N224q, K224q, q224_V_b211⟩ := hQ224
  have K224 : Keep h0 T224.heap [b211] := (Keep.refl h0 [b211]).trans K224q (allS (Or.inl (List.mem_of_getElem? (i := 0) rfl)) all0)
  have XX224 : Ext Z.heap T224.heap := own_extK Z0 K224q (allS g_b211 all0)
  have N224 := Fr.app N215 N224q
  obtain ⟨fs, hr, hrun, hended, hW, hsame⟩ := X224.leave (v := none) (fun _ => rfl) hlk
  refine ⟨_, _, ?_, hrun, hended, _, _, rfl, ?_, ⟨_, rfl⟩, hW, hsame.mono (by decide) (by decide)⟩
  · show own_S p e below s₁ (mkF m 0 #[rv bb, iv (Int32.ofNat cs.length), rv bs] []) _
    refine own_aN X0 hx hby d16_0 ?_
    refine own_aN X0 hx hby d16_1 ?_
    refine st215 _ ?_
    refine own_aN X215 hx hby d16_5 ?_
    refine own_aN X215 hx hby d16_6 ?_
    refine st216 _ ?_
    refine own_iN X216 hx hby d16_10 ?_
    refine own_aN X216 hx hby d16_11 ?_
    refine st217 _ ?_
    refine st224 _ ?_
    exact X224.returnOut hx hret (hb hby d16_18) hr
  · show Qrm214 Z w_CS bb cs bs be ke b211 k212 h0 _ T224.heap _
    exact ⟨rfl, N224, K224, q224_V_b211⟩
def Qrm207 (Z : State) (w_CS : Int32) (bb ba : Addr) (kv : ClassId) (cs : List Int32) (bs be : Addr) (ke : ClassId) (h0 : Heap) (v : Option Value) (h : Heap) (L : List Loc) : Prop := ∃ b211 : Addr, ∃ k212 : ClassId, v = some (.ref bb) ∧ Fr Z.heap.size L ∧ Keep h0 h [bb] ∧ h0.size ≤ b211 ∧ Exa Z h bb "java/lang/StringBuilder" ∧ Fld Z h bb "java/lang/AbstractStringBuilder" "coder" "B" (.int (0 : Int32)) ∧ Fld Z h bb "java/lang/AbstractStringBuilder" "count" "I" (.int (Int32.ofNat (cs.length + 1))) ∧ Fld Z h bb "java/lang/AbstractStringBuilder" "value" "[B" (.ref b211) ∧ Arv Z h b211 k212 .byte (34 : Int32) (own_buf 34 (cs ++ [(46 : Int32)])) (.int (0 : Int32))
theorem rm207 (l : Launch) (Z : State) (a0 : Array Value) (hw : own_HW Z a0) (ws : List Jvm.Cond) (w_CS : Int32) (bb ba : Addr) (kv : ClassId) (cs : List Int32) (bs be : Addr) (ke : ClassId) (h0 : Heap) (Z0 : Ext Z.heap h0) (S_w_CS : own_w_CS Z w_CS) (E_bb : Exa Z h0 bb "java/lang/StringBuilder") (F_bb_coder : Fld Z h0 bb "java/lang/AbstractStringBuilder" "coder" "B" (.int (0 : Int32))) (F_bb_count : Fld Z h0 bb "java/lang/AbstractStringBuilder" "count" "I" (.int (Int32.ofNat cs.length))) (F_bb_value : Fld Z h0 bb "java/lang/AbstractStringBuilder" "value" "[B" (.ref ba)) (E_bs : Exa Z h0 bs "java/lang/String") (F_bs_coder : Fld Z h0 bs "java/lang/String" "coder" "B" (.int (0 : Int32))) (F_bs_value : Fld Z h0 bs "java/lang/String" "value" "[B" (.ref be)) (V_ba : Arv Z h0 ba kv .byte (16 : Int32) (own_buf 16 cs) (.int (0 : Int32))) (V_be : Arv Z h0 be ke .byte (1 : Int32) [(.int (46 : Int32))] (.int (0 : Int32))) (g_bb : Z.heap.size ≤ bb) (hc1 : ¬ (w_CS = (0 : Int32))) (hc69 : own_gw (cs.length + 1) ) (hc61 : cs.length ≤ 16) (hc70 : bs ≠ bb) (hc71 : be ≠ bb) :
    own_met l y_17 jdk_68_method_22_code 3 (some (.object "java/lang/AbstractStringBuilder")) ws ({ frames := 4, cells := 1, slots := 34, locals := 62 } : Room) Z #[(.ref bb), (.ref bs)] h0 (Qrm207 Z w_CS bb ba kv cs bs be ke h0) := by
  refine own_start (plainFor_of_name pn_2) (fun m => ef_jdk_68_method_22_RR m bb bs) ?_
  intro p e s m below meth c s₁ hx hby hml hown hnm X0 hZ e0 hret hlk
  have N0 := Fr.nil Z.heap.size
  obtain ⟨_, T208, Lc208, X208, hQ208, st208⟩ := own_virtual (y := y_13) X0 hx hZ hown (own_w hw 86 rfl) (own_w hw 87 rfl) (own_w hw 89 rfl) (own_w hw 88 rfl) (own_w hw 35 rfl) (own_w hw 90 rfl) (rm122 l Z a0 hw [] w_CS bs be ke h0 Z0 S_w_CS E_bs F_bs_coder F_bs_value V_be hc1) e0 E_bs (g := (mkF m 10 #[rv bb, rv bs, .unset] [(.ref bs)])) (argsL := []) (rest := []) (W := 0) (lenOf pd_9 rfl) (hb hby d13_10) hml
  obtain ⟨rfl, N208q, e208⟩ := hQ208
  have N208 := Fr.app N0 N208q
  obtain ⟨T209, X209, e209, st209⟩ := getF X208 hx hZ hown (host := "") (Or.inl (own_w hw 51 rfl)) Via.refl e208 F_bb_count (g := (mkF m 16 #[rv bb, rv bs, iv (1 : Int32)] [(.ref bb), (.ref bb)])) rfl rfl (hb hby d13_16)
  obtain ⟨_, T210, Lc210, X210, hQ210, st210⟩ := own_virtual (y := y_3) X209 hx hZ hown (own_w hw 57 rfl) (own_decl (own_w hw 58 rfl) (own_w hw 61 rfl)) (own_w hw 60 rfl) (own_w hw 58 rfl) (own_w hw 31 rfl) (own_w hw 61 rfl) (rm75 l Z a0 hw [] bb ba kv cs (cs.length + 1) h0 Z0 E_bb F_bb_value F_bb_coder F_bb_count V_ba g_bb hc69 hc61) e209 E_bb (g := (mkF m 21 #[rv bb, rv bs, iv (1 : Int32)] [(.int (Int32.ofNat (cs.length + 1))), (.ref bb)])) (argsL := [(.int (Int32.ofNat (cs.length + 1)))]) (rest := []) (W := 0) (lenOf pd_4 rfl) (hb hby d13_21) hml
  obtain ⟨b211, k212, rfl, N210q, K210q, szn_b211, q210_E_bb, q210_F_bb_value, q210_F_bb_coder, q210_F_bb_count, q210_V_b211⟩ := hQ210
  have g_b211 : Z.heap.size ≤ b211 := Nat.le_trans Z0.1 szn_b211
  have sz_b211 : h0.size ≤ b211 := Nat.le_trans (Keep.refl h0 [bb]).1 szn_b211
  have K210 : Keep h0 T210.heap [bb] := (Keep.refl h0 [bb]).trans K210q (allS (Or.inl (List.mem_of_getElem? (i := 0) rfl)) all0)
  have XX210 : Ext Z.heap T210.heap := own_extK Z0 K210q (allS g_bb all0)
  have N210 := Fr.app N208 N210q
  obtain ⟨T213, X213, e213, st213⟩ := getF X210 hx hZ hown (host := "") (Or.inl (own_w hw 51 rfl)) Via.refl rfl q210_F_bb_count (g := (mkF m 26 #[rv bb, rv bs, iv (1 : Int32)] [(.ref bb), (.ref bb)])) rfl rfl (hb hby d13_26)
  obtain ⟨_, T225, Lc225, X225, hQ225, st225⟩ := own_virtual (y := y_16) X213 hx hZ hown (own_w hw 99 rfl) (own_decl (own_w hw 100 rfl) (own_w hw 103 rfl)) (own_w hw 102 rfl) (own_w hw 100 rfl) (own_w hw 31 rfl) (own_w hw 103 rfl) (rm214 l Z a0 hw [] w_CS bb cs bs be ke b211 k212 T210.heap XX210 S_w_CS q210_E_bb q210_F_bb_coder q210_F_bb_value (E_bs.keep K210q) (F_bs_coder.keep K210q (ninS hc70 (nin0))) (F_bs_value.keep K210q (ninS hc70 (nin0))) q210_V_b211 (V_be.keep K210q (ninS hc71 (nin0))) g_b211 hc1 hc69) e213 q210_E_bb (g := (mkF m 30 #[rv bb, rv bs, iv (1 : Int32)] [(.ref bs), (.int (Int32.ofNat cs.length)), (.ref bb)])) (argsL := [(.int (Int32.ofNat cs.length)), (.ref bs)]) (rest := []) (W := 0) (lenOf pd_12 rfl) (hb hby d13_30) hml
  obtain ⟨rfl, N225q, K225q, q225_V_b211⟩ := hQ225
  have K225 : Keep h0 T225.heap [bb] := K210.trans K225q (allS (Or.inr sz_b211) all0)
  have XX225 : Ext Z.heap T225.heap := own_extK XX210 K225q (allS g_b211 all0)
  have N225 := Fr.app N210 N225q
  have ne_bb_b211 : bb ≠ b211 := Nat.ne_of_lt (Nat.lt_of_lt_of_le E_bb.lt szn_b211)
  obtain ⟨T226, X226, e226, st226⟩ := getF X225 hx hZ hown (host := "") (Or.inl (own_w hw 51 rfl)) Via.refl rfl (q210_F_bb_count.keep K225q (ninS ne_bb_b211 (nin0))) (g := (mkF m 35 #[rv bb, rv bs, iv (1 : Int32)] [(.ref bb), (.ref bb)])) rfl rfl (hb hby d13_35)
  obtain ⟨T227, h227, X227, e227, W227, st227⟩ := putF X226 hx hZ hown (host := "") (Or.inl (own_w hw 51 rfl)) Via.refl e226 (q210_F_bb_count.keep K225q (ninS ne_bb_b211 (nin0))) (q210_E_bb.keep K225q) (Or.inl (own_w hw 52 rfl)) (own_w hw 22 rfl) (ty := .int) (by decide) rfl rfl (g := (mkF m 40 #[rv bb, rv bs, iv (1 : Int32)] [(.int (Int32.ofNat (cs.length + 1))), (.ref bb)])) rfl rfl (hb hby d13_40)
  have K227 : Keep h0 h227 [bb] := K225.wr W227 (Or.inl (List.mem_of_getElem? (i := 0) rfl))
  have XX227 : Ext Z.heap h227 := own_extW XX225 W227 g_bb
  have N227 := Fr.snoc X227 N225 g_bb
  have f228_F_bb_coder : Fld Z h227 bb "java/lang/AbstractStringBuilder" "coder" "B" (.int (0 : Int32)) := ((q210_F_bb_coder.keep K225q (ninS ne_bb_b211 (nin0))).other W227 (Or.inr (slot_ne (Or.inl (own_w hw 40 rfl)) (Or.inl (own_w hw 52 rfl)) (by decide) (t := .byte) (t' := .int) (by decide) (by decide))))
  have f229_F_bb_count : Fld Z h227 bb "java/lang/AbstractStringBuilder" "count" "I" (.int (Int32.ofNat (cs.length + 1))) := ((q210_F_bb_count.keep K225q (ninS ne_bb_b211 (nin0))).same W227)
  have f230_F_bb_value : Fld Z h227 bb "java/lang/AbstractStringBuilder" "value" "[B" (.ref b211) := ((q210_F_bb_value.keep K225q (ninS ne_bb_b211 (nin0))).other W227 (Or.inr (slot_ne (Or.inl (own_w hw 38 rfl)) (Or.inl (own_w hw 52 rfl)) (by decide) (t := (.array .byte)) (t' := .int) (by decide) (by decide))))
  obtain ⟨fs, hr, hrun, hended, hW, hsame⟩ := X227.leave (v := some (.ref bb)) (fun h => by rw [hret] at h; cases h) hlk
  refine ⟨_, _, ?_, hrun, hended, _, _, rfl, ?_, ⟨_, rfl⟩, hW, hsame.mono (by decide) (by decide)⟩
  · show own_S p e below s₁ (mkF m 0 #[rv bb, rv bs, .unset] []) _
    refine own_aN X0 hx hby d13_0 ?_
    refine XS.ifnonnullYes X0.here hx rfl (pc0 := 1) (pc' := 9) rfl (hb hby d13_1) rfl (by decide) (by decide) ?_
    refine own_aN X0 hx hby d13_9 ?_
    refine st208 _ ?_
    refine XS.istoreN X208.here hx rfl (hb hby d13_13) rfl (l' := #[rv bb, rv bs, iv (1 : Int32)]) rfl ?_
    refine own_aN X208 hx hby d13_14 ?_
    refine own_aN X208 hx hby d13_15 ?_
    refine st209 _ ?_
    refine own_iN X209 hx hby d13_19 ?_
    refine XS.iadd X209.here hx rfl (hb hby d13_20) rfl ?_
    show own_S p e below T209 (mkF m 21 #[rv bb, rv bs, iv (1 : Int32)] [(.int ((Int32.ofNat cs.length) + (1 : Int32))), (.ref bb)]) _
    rw [(own_succ _)]
    refine st210 _ ?_
    refine own_aN X210 hx hby d13_24 ?_
    refine own_aN X210 hx hby d13_25 ?_
    refine st213 _ ?_
    refine own_aN X213 hx hby d13_29 ?_
    refine st225 _ ?_
    refine own_aN X225 hx hby d13_33 ?_
    refine XS.dup X225.here hx rfl (hb hby d13_34) rfl rfl ?_
    refine st226 _ ?_
    refine own_iN X226 hx hby d13_38 ?_
    refine XS.iadd X226.here hx rfl (hb hby d13_39) rfl ?_
    show own_S p e below T226 (mkF m 40 #[rv bb, rv bs, iv (1 : Int32)] [(.int ((Int32.ofNat cs.length) + (1 : Int32))), (.ref bb)]) _
    rw [(own_succ _)]
    refine st227 _ ?_
    refine own_aN X227 hx hby d13_43 ?_
    jvm_step X227.here [X227.here.top, hx, (hb hby d13_44), X227.method', hret, Value.isRef, FieldType.isReference]
    first | (intro acts; rw [hr _ acts rfl rfl rfl]) | rw [hr _ _ rfl rfl rfl]
    exact Steps.refl _
  · show Qrm207 Z w_CS bb ba kv cs bs be ke h0 _ T227.heap _
    rw [e227]
    exact ⟨b211, k212, rfl, N227, K227, sz_b211, ((q210_E_bb.keep K225q).wr W227), f228_F_bb_coder, f229_F_bb_count, f230_F_bb_value, (q225_V_b211.other W227 (Ne.symm ne_bb_b211))⟩
def Qrm206 (Z : State) (w_CS : Int32) (bb ba : Addr) (kv : ClassId) (cs : List Int32) (bs be : Addr) (ke : ClassId) (h0 : Heap) (v : Option Value) (h : Heap) (L : List Loc) : Prop := ∃ b232 : Addr, ∃ k233 : ClassId, v = some (.ref bb) ∧ Fr Z.heap.size L ∧ Keep h0 h [bb] ∧ h0.size ≤ b232 ∧ Exa Z h bb "java/lang/StringBuilder" ∧ Fld Z h bb "java/lang/AbstractStringBuilder" "value" "[B" (.ref b232) ∧ Fld Z h bb "java/lang/AbstractStringBuilder" "coder" "B" (.int (0 : Int32)) ∧ Fld Z h bb "java/lang/AbstractStringBuilder" "count" "I" (.int (Int32.ofNat (cs.length + 1))) ∧ Arv Z h b232 k233 .byte (34 : Int32) (own_buf 34 (cs ++ [(46 : Int32)])) (.int (0 : Int32))
theorem rm206 (l : Launch) (Z : State) (a0 : Array Value) (hw : own_HW Z a0) (ws : List Jvm.Cond) (w_CS : Int32) (bb ba : Addr) (kv : ClassId) (cs : List Int32) (bs be : Addr) (ke : ClassId) (h0 : Heap) (Z0 : Ext Z.heap h0) (S_w_CS : own_w_CS Z w_CS) (E_bb : Exa Z h0 bb "java/lang/StringBuilder") (F_bb_value : Fld Z h0 bb "java/lang/AbstractStringBuilder" "value" "[B" (.ref ba)) (F_bb_coder : Fld Z h0 bb "java/lang/AbstractStringBuilder" "coder" "B" (.int (0 : Int32))) (F_bb_count : Fld Z h0 bb "java/lang/AbstractStringBuilder" "count" "I" (.int (Int32.ofNat cs.length))) (V_ba : Arv Z h0 ba kv .byte (16 : Int32) (own_buf 16 cs) (.int (0 : Int32))) (E_bs : Exa Z h0 bs "java/lang/String") (F_bs_coder : Fld Z h0 bs "java/lang/String" "coder" "B" (.int (0 : Int32))) (F_bs_value : Fld Z h0 bs "java/lang/String" "value" "[B" (.ref be)) (V_be : Arv Z h0 be ke .byte (1 : Int32) [(.int (46 : Int32))] (.int (0 : Int32))) (g_bb : Z.heap.size ≤ bb) (hc1 : ¬ (w_CS = (0 : Int32))) (hc69 : own_gw (cs.length + 1) ) (hc61 : cs.length ≤ 16) (hc70 : bs ≠ bb) (hc71 : be ≠ bb) :
    own_met l y_18 jdk_67_method_7_code 2 (some (.object "java/lang/StringBuilder")) ws ({ frames := 5, cells := 1, slots := 34, locals := 76 } : Room) Z #[(.ref bb), (.ref bs)] h0 (Qrm206 Z w_CS bb ba kv cs bs be ke h0) := by
  refine own_start (plainFor_of_name pn_5) (fun m => ef_jdk_67_method_7_RR m bb bs) ?_
  intro p e s m below meth c s₁ hx hby hml hown hnm X0 hZ e0 hret hlk
  have N0 := Fr.nil Z.heap.size
  obtain ⟨_, T231, Lc231, X231, hQ231, st231⟩ := own_super (y := y_17) X0 hx hZ hown (own_w hw 82 rfl) (own_same (own_w hw 83 rfl) (own_w hw 60 rfl) rfl (by decide)) (own_w hw 83 rfl) (own_w hw 48 rfl) (own_w hw 31 rfl) (own_w hw 85 rfl) (rm207 l Z a0 hw [] w_CS bb ba kv cs bs be ke h0 Z0 S_w_CS E_bb F_bb_coder F_bb_count F_bb_value E_bs F_bs_coder F_bs_value V_ba V_be g_bb hc1 hc69 hc61 hc70 hc71) e0 (Ins.self E_bb) (g := (mkF m 2 #[rv bb, rv bs] [(.ref bs), (.ref bb)])) (argsL := [(.ref bs)]) (rest := []) (W := 0) (lenOf pd_13 rfl) (hb hby d12_2) hml
  obtain ⟨b232, k233, rfl, N231q, K231q, szn_b232, q231_E_bb, q231_F_bb_coder, q231_F_bb_count, q231_F_bb_value, q231_V_b232⟩ := hQ231
  have g_b232 : Z.heap.size ≤ b232 := Nat.le_trans Z0.1 szn_b232
  have sz_b232 : h0.size ≤ b232 := Nat.le_trans (Keep.refl h0 [bb]).1 szn_b232
  have K231 : Keep h0 T231.heap [bb] := (Keep.refl h0 [bb]).trans K231q (allS (Or.inl (List.mem_of_getElem? (i := 0) rfl)) all0)
  have XX231 : Ext Z.heap T231.heap := own_extK Z0 K231q (allS g_bb all0)
  have N231 := Fr.app N0 N231q
  obtain ⟨fs, hr, hrun, hended, hW, hsame⟩ := X231.leave (v := some (.ref bb)) (fun h => by rw [hret] at h; cases h) hlk
  refine ⟨_, _, ?_, hrun, hended, _, _, rfl, ?_, ⟨_, rfl⟩, hW, hsame.mono (by decide) (by decide)⟩
  · show own_S p e below s₁ (mkF m 0 #[rv bb, rv bs] []) _
    refine own_aN X0 hx hby d12_0 ?_
    refine own_aN X0 hx hby d12_1 ?_
    refine st231 _ ?_
    refine XS.pop X231.here hx rfl (hb hby d12_5) rfl rfl ?_
    refine own_aN X231 hx hby d12_6 ?_
    jvm_step X231.here [X231.here.top, hx, (hb hby d12_7), X231.method', hret, Value.isRef, FieldType.isReference]
    first | (intro acts; rw [hr _ acts rfl rfl rfl]) | rw [hr _ _ rfl rfl rfl]
    exact Steps.refl _
  · show Qrm206 Z w_CS bb ba kv cs bs be ke h0 _ T231.heap _
    exact ⟨b232, k233, rfl, N231, K231, sz_b232, q231_E_bb, q231_F_bb_value, q231_F_bb_coder, q231_F_bb_count, q231_V_b232⟩
def Qown_apS_g (Z : State) (w_CS : Int32) (bb ba : Addr) (kv : ClassId) (cs : List Int32) (bs be : Addr) (ke : ClassId) (h0 : Heap) (v : Option Value) (h : Heap) (L : List Loc) : Prop := ∃ b232 : Addr, ∃ k233 : ClassId, v = some (.ref bb) ∧ Fr Z.heap.size L ∧ Keep h0 h [bb] ∧ h0.size ≤ b232 ∧ Exa Z h bb "java/lang/StringBuilder" ∧ Fld Z h bb "java/lang/AbstractStringBuilder" "value" "[B" (.ref b232) ∧ Fld Z h bb "java/lang/AbstractStringBuilder" "coder" "B" (.int (0 : Int32)) ∧ Fld Z h bb "java/lang/AbstractStringBuilder" "count" "I" (.int (Int32.ofNat (cs ++ [(46 : Int32)]).length)) ∧ Arv Z h b232 k233 .byte (34 : Int32) (own_buf 34 (cs ++ [(46 : Int32)])) (.int (0 : Int32))
theorem own_apS_g (l : Launch) (Z : State) (a0 : Array Value) (hw : own_HW Z a0) (ws : List Jvm.Cond) (w_CS : Int32) (bb ba : Addr) (kv : ClassId) (cs : List Int32) (bs be : Addr) (ke : ClassId) (h0 : Heap) (Z0 : Ext Z.heap h0) (S_w_CS : own_w_CS Z w_CS) (E_bb : Exa Z h0 bb "java/lang/StringBuilder") (F_bb_value : Fld Z h0 bb "java/lang/AbstractStringBuilder" "value" "[B" (.ref ba)) (F_bb_coder : Fld Z h0 bb "java/lang/AbstractStringBuilder" "coder" "B" (.int (0 : Int32))) (F_bb_count : Fld Z h0 bb "java/lang/AbstractStringBuilder" "count" "I" (.int (Int32.ofNat cs.length))) (V_ba : Arv Z h0 ba kv .byte (16 : Int32) (own_buf 16 cs) (.int (0 : Int32))) (E_bs : Exa Z h0 bs "java/lang/String") (F_bs_coder : Fld Z h0 bs "java/lang/String" "coder" "B" (.int (0 : Int32))) (F_bs_value : Fld Z h0 bs "java/lang/String" "value" "[B" (.ref be)) (V_be : Arv Z h0 be ke .byte (1 : Int32) [(.int (46 : Int32))] (.int (0 : Int32))) (g_bb : Z.heap.size ≤ bb) (hc1 : ¬ (w_CS = (0 : Int32))) (hc69 : own_gw (cs.length + 1) ) (hc61 : cs.length ≤ 16) (hc70 : bs ≠ bb) (hc71 : be ≠ bb) :
    own_met l y_18 jdk_67_method_7_code 2 (some (.object "java/lang/StringBuilder")) ws ({ frames := 5, cells := 1, slots := 34, locals := 76 } : Room) Z #[(.ref bb), (.ref bs)] h0 (Qown_apS_g Z w_CS bb ba kv cs bs be ke h0) := by
  exact own_mono (rm206 l Z a0 hw ws w_CS bb ba kv cs bs be ke h0 Z0 S_w_CS E_bb F_bb_value F_bb_coder F_bb_count V_ba E_bs F_bs_coder F_bs_value V_be g_bb hc1 hc69 hc61 hc70 hc71) fun v h L ⟨b232, k233, z1, z2, z3, s0, f0, f1, f2, f3, f4⟩ => ⟨b232, k233, z1, z2, z3, s0, f0, f1, f2, (by rw [List.length_append]; exact f3), f4⟩
def Qrm239 (Z : State) (bb ba : Addr) (h0 : Heap) (v : Option Value) (h : Heap) (L : List Loc) : Prop := v = some (.ref ba) ∧ Fr Z.heap.size L ∧ h = h0
theorem rm239 (l : Launch) (Z : State) (a0 : Array Value) (hw : own_HW Z a0) (ws : List Jvm.Cond) (bb ba : Addr) (h0 : Heap) (Z0 : Ext Z.heap h0) (F_bb_value : Fld Z h0 bb "java/lang/AbstractStringBuilder" "value" "[B" (.ref ba)) :
    own_met l y_19 jdk_68_method_64_code 1 (some (.array .byte)) ws ({ frames := 0, cells := 0, slots := 0, locals := 0 } : Room) Z #[(.ref bb)] h0 (Qrm239 Z bb ba h0) := by
  refine own_start (plainFor_of_name pn_2) (fun m => ef_jdk_68_method_64_R m bb) ?_
  intro p e s m below meth c s₁ hx hby hml hown hnm X0 hZ e0 hret hlk
  have N0 := Fr.nil Z.heap.size
  obtain ⟨T240, X240, e240, st240⟩ := getF X0 hx hZ hown (host := "") (Or.inl (own_w hw 37 rfl)) Via.refl e0 F_bb_value (g := (mkF m 1 #[rv bb] [(.ref bb)])) rfl rfl (hb hby d22_1)
  obtain ⟨fs, hr, hrun, hended, hW, hsame⟩ := X240.leave (v := some (.ref ba)) (fun h => by rw [hret] at h; cases h) hlk
  refine ⟨_, _, ?_, hrun, hended, _, _, rfl, ?_, ⟨_, rfl⟩, hW, hsame.mono (by decide) (by decide)⟩
  · show own_S p e below s₁ (mkF m 0 #[rv bb] []) _
    refine own_aN X0 hx hby d22_0 ?_
    refine st240 _ ?_
    jvm_step X240.here [X240.here.top, hx, (hb hby d22_4), X240.method', hret, Value.isRef, FieldType.isReference]
    first | (intro acts; rw [hr _ acts rfl rfl rfl]) | rw [hr _ _ rfl rfl rfl]
    exact Steps.refl _
  · show Qrm239 Z bb ba h0 _ T240.heap _
    rw [e240]
    exact ⟨rfl, N0, rfl⟩
def Qrm243 (Z : State) (bb : Addr) (cs : List Int32) (h0 : Heap) (v : Option Value) (h : Heap) (L : List Loc) : Prop := v = some (.int (Int32.ofNat cs.length)) ∧ Fr Z.heap.size L ∧ h = h0
theorem rm243 (l : Launch) (Z : State) (a0 : Array Value) (hw : own_HW Z a0) (ws : List Jvm.Cond) (bb : Addr) (cs : List Int32) (h0 : Heap) (Z0 : Ext Z.heap h0) (F_bb_count : Fld Z h0 bb "java/lang/AbstractStringBuilder" "count" "I" (.int (Int32.ofNat cs.length))) :
    own_met l y_20 jdk_68_method_6_code 1 (some .int) ws ({ frames := 0, cells := 0, slots := 0, locals := 0 } : Room) Z #[(.ref bb)] h0 (Qrm243 Z bb cs h0) := by
  refine own_start (plainFor_of_name pn_2) (fun m => ef_jdk_68_method_6_R m bb) ?_
  intro p e s m below meth c s₁ hx hby hml hown hnm X0 hZ e0 hret hlk
  have N0 := Fr.nil Z.heap.size
  obtain ⟨T244, X244, e244, st244⟩ := getF X0 hx hZ hown (host := "") (Or.inl (own_w hw 51 rfl)) Via.refl e0 F_bb_count (g := (mkF m 1 #[rv bb] [(.ref bb)])) rfl rfl (hb hby d24_1)
  obtain ⟨fs, hr, hrun, hended, hW, hsame⟩ := X244.leave (v := some (.int (Int32.ofNat cs.length))) (fun h => by rw [hret] at h; cases h) hlk
  refine ⟨_, _, ?_, hrun, hended, _, _, rfl, ?_, ⟨_, rfl⟩, hW, hsame.mono (by decide) (by decide)⟩
  · show own_S p e below s₁ (mkF m 0 #[rv bb] []) _
    refine own_aN X0 hx hby d24_0 ?_
    refine st244 _ ?_
    exact retI X244 hx hret (hb hby d24_4) hr
  · show Qrm243 Z bb cs h0 _ T244.heap _
    rw [e244]
    exact ⟨rfl, N0, rfl⟩
def Qrm242 (Z : State) (bb : Addr) (cs : List Int32) (h0 : Heap) (v : Option Value) (h : Heap) (L : List Loc) : Prop := v = some (.int (Int32.ofNat cs.length)) ∧ Fr Z.heap.size L ∧ h = h0
theorem rm242 (l : Launch) (Z : State) (a0 : Array Value) (hw : own_HW Z a0) (ws : List Jvm.Cond) (bb : Addr) (cs : List Int32) (h0 : Heap) (Z0 : Ext Z.heap h0) (E_bb : Exa Z h0 bb "java/lang/StringBuilder") (F_bb_count : Fld Z h0 bb "java/lang/AbstractStringBuilder" "count" "I" (.int (Int32.ofNat cs.length))) :
    own_met l y_21 jdk_67_method_93_code 1 (some .int) ws ({ frames := 1, cells := 0, slots := 0, locals := 12 } : Room) Z #[(.ref bb)] h0 (Qrm242 Z bb cs h0) := by
  refine own_start (plainFor_of_name pn_5) (fun m => ef_jdk_67_method_93_R m bb) ?_
  intro p e s m below meth c s₁ hx hby hml hown hnm X0 hZ e0 hret hlk
  have N0 := Fr.nil Z.heap.size
  obtain ⟨_, T245, Lc245, X245, hQ245, st245⟩ := own_super (y := y_20) X0 hx hZ hown (own_w hw 144 rfl) (own_same (own_w hw 140 rfl) (own_w hw 60 rfl) rfl (by decide)) (own_w hw 140 rfl) (own_w hw 48 rfl) (own_w hw 31 rfl) (own_w hw 145 rfl) (rm243 l Z a0 hw [] bb cs h0 Z0 F_bb_count) e0 (Ins.self E_bb) (g := (mkF m 1 #[rv bb] [(.ref bb)])) (argsL := []) (rest := []) (W := 0) (lenOf pd_9 rfl) (hb hby d23_1) hml
  obtain ⟨rfl, N245q, e245⟩ := hQ245
  have N245 := Fr.app N0 N245q
  obtain ⟨fs, hr, hrun, hended, hW, hsame⟩ := X245.leave (v := some (.int (Int32.ofNat cs.length))) (fun h => by rw [hret] at h; cases h) hlk
  refine ⟨_, _, ?_, hrun, hended, _, _, rfl, ?_, ⟨_, rfl⟩, hW, hsame.mono (by decide) (by decide)⟩
  · show own_S p e below s₁ (mkF m 0 #[rv bb] []) _
    refine own_aN X0 hx hby d23_0 ?_
    refine st245 _ ?_
    exact retI X245 hx hret (hb hby d23_4) hr
  · show Qrm242 Z bb cs h0 _ T245.heap _
    rw [e245]
    exact ⟨rfl, N245, rfl⟩
def Qrm252 (Z : State) (cs : List Int32) (h0 : Heap) (v : Option Value) (h : Heap) (L : List Loc) : Prop := v = none ∧ Fr Z.heap.size L ∧ h = h0
theorem rm252 (l : Launch) (Z : State) (a0 : Array Value) (hw : own_HW Z a0) (ws : List Jvm.Cond) (cs : List Int32) (h0 : Heap) (Z0 : Ext Z.heap h0) (hc72 : cs.length < 16) :
    own_met l y_22 jdk_65_method_131_code 2 none ws ({ frames := 0, cells := 0, slots := 0, locals := 0 } : Room) Z #[(.int (0 : Int32)), (.int (Int32.ofNat cs.length))] h0 (Qrm252 Z cs h0) := by
  refine own_start (plainFor_of_name pn_4) (fun m => ef_jdk_65_method_131_II m (0 : Int32) (Int32.ofNat cs.length)) ?_
  intro p e s m below meth c s₁ hx hby hml hown hnm X0 hZ e0 hret hlk
  have N0 := Fr.nil Z.heap.size
  obtain ⟨fs, hr, hrun, hended, hW, hsame⟩ := X0.leave (v := none) (fun _ => rfl) hlk
  refine ⟨_, _, ?_, hrun, hended, _, _, rfl, ?_, ⟨_, rfl⟩, hW, hsame.mono (by decide) (by decide)⟩
  · show own_S p e below s₁ (mkF m 0 #[iv (0 : Int32), iv (Int32.ofNat cs.length)] []) _
    refine own_iN X0 hx hby d27_0 ?_
    refine own_iN X0 hx hby d27_1 ?_
    refine own_cy (pc := 2) X0 hx hby d27_2 (flt (own_cl_nn hc72 (by decide))).2.1 37 ?_
    exact X0.returnOut hx hret (hb hby d27_37) hr
  · show Qrm252 Z cs h0 _ s₁.heap _
    rw [e0]
    exact ⟨rfl, N0, rfl⟩
def Qrm256 (Z : State) (cs : List Int32) (h0 : Heap) (v : Option Value) (h : Heap) (L : List Loc) : Prop := v = some (.int (Int32.ofNat cs.length)) ∧ Fr Z.heap.size L ∧ h = h0
theorem rm256 (l : Launch) (Z : State) (a0 : Array Value) (hw : own_HW Z a0) (ws : List Jvm.Cond) (cs : List Int32) (h0 : Heap) (Z0 : Ext Z.heap h0) (hc72 : cs.length < 16) :
    own_met l y_7 jdk_29_method_69_code 2 (some .int) ws ({ frames := 0, cells := 0, slots := 0, locals := 0 } : Room) Z #[(.int (16 : Int32)), (.int (Int32.ofNat cs.length))] h0 (Qrm256 Z cs h0) := by
  refine own_start pf_1 (fun m => ef_jdk_29_method_69_II m (16 : Int32) (Int32.ofNat cs.length)) ?_
  intro p e s m below meth c s₁ hx hby hml hown hnm X0 hZ e0 hret hlk
  have N0 := Fr.nil Z.heap.size
  obtain ⟨fs, hr, hrun, hended, hW, hsame⟩ := X0.leave (v := some (.int (Int32.ofNat cs.length))) (fun h => by rw [hret] at h; cases h) hlk
  refine ⟨_, _, ?_, hrun, hended, _, _, rfl, ?_, ⟨_, rfl⟩, hW, hsame.mono (by decide) (by decide)⟩
  · show own_S p e below s₁ (mkF m 0 #[iv (16 : Int32), iv (Int32.ofNat cs.length)] []) _
    refine own_iN X0 hx hby d28_0 ?_
    refine own_iN X0 hx hby d28_1 ?_
    refine own_cy (pc := 2) X0 hx hby d28_2 (tlt (own_cl_lt hc72 (by decide) rfl)).2.2.1 9 ?_
    refine own_iN X0 hx hby d28_9 ?_
    exact retI X0 hx hret (hb hby d28_10) hr
  · show Qrm256 Z cs h0 _ s₁.heap _
    rw [e0]
    exact ⟨rfl, N0, rfl⟩
def Qrm251 (Z : State) (ba : Addr) (kv : ClassId) (cs : List Int32) (h0 : Heap) (v : Option Value) (h : Heap) (L : List Loc) : Prop := ∃ b254 : Addr, ∃ k254 : ClassId, v = some (.ref b254) ∧ Fr Z.heap.size L ∧ Keep h0 h [] ∧ h0.size ≤ b254 ∧ Arv Z h b254 k254 .byte (Int32.ofNat cs.length) (own_ch cs) (.int (0 : Int32))
theorem rm251 (l : Launch) (Z : State) (a0 : Array Value) (hw : own_HW Z a0) (ws : List Jvm.Cond) (ba : Addr) (kv : ClassId) (cs : List Int32) (h0 : Heap) (Z0 : Ext Z.heap h0) (V_ba : Arv Z h0 ba kv .byte (16 : Int32) (own_buf 16 cs) (.int (0 : Int32))) (hc72 : cs.length < 16) :
    own_met l y_23 jdk_65_method_133_code 5 (some (.array .byte)) ws ({ frames := 1, cells := 1, slots := 16, locals := 18 } : Room) Z #[(.ref ba), (.int (0 : Int32)), (.int (Int32.ofNat cs.length))] h0 (Qrm251 Z ba kv cs h0) := by
  refine own_start (plainFor_of_name pn_4) (fun m => ef_jdk_65_method_133_RII m ba (0 : Int32) (Int32.ofNat cs.length)) ?_
  intro p e s m below meth c s₁ hx hby hml hown hnm X0 hZ e0 hret hlk
  have N0 := Fr.nil Z.heap.size
  obtain ⟨_, T253, Lc253, X253, hQ253, st253⟩ := own_static (y := y_22) X0 hx hZ hown (own_w hw 154 rfl) (own_w hw 155 rfl) (own_w hw 149 rfl) (own_w hw 156 rfl) (rm252 l Z a0 hw [] cs h0 Z0 hc72) e0 (g := (mkF m 2 #[rv ba, iv (0 : Int32), iv (Int32.ofNat cs.length), .unset, .unset] [(.int (Int32.ofNat cs.length)), (.int (0 : Int32))])) (argsL := [(.int (0 : Int32)), (.int (Int32.ofNat cs.length))]) (rest := []) (W := 0) (lenOf pd_15 rfl) (hb hby d26_2) hml
  obtain ⟨rfl, N253q, e253⟩ := hQ253
  have N253 := Fr.app N0 N253q
  obtain ⟨T254, h254, k254, X254, e254, E254, A254, st254⟩ := newP X253 hx hZ (own_w hw 36 rfl) e253 (g := (mkF m 10 #[rv ba, iv (0 : Int32), iv (Int32.ofNat cs.length), iv (Int32.ofNat cs.length), .unset] [(.int (Int32.ofNat cs.length))])) rfl (hb hby d26_10) rfl (own_cl_nn hc72 (by decide)) (cap := 16) (own_cl_cap hc72 (by decide)) (by decide) (by decide) (by decide)
  obtain ⟨b254, g254⟩ : ∃ z, z = h0.size := ⟨_, rfl⟩
  rw [← g254] at A254 st254
  have g_b254 : Z.heap.size ≤ b254 := Nat.le_trans Z0.1 (Nat.le_of_eq g254.symm)
  have sz_b254 : h0.size ≤ b254 := Nat.le_trans (Keep.refl h0 []).1 (Nat.le_of_eq g254.symm)
  have V_b254 : Arv Z h254 b254 k254 .byte (Int32.ofNat cs.length) (List.replicate cs.length (.int (0 : Int32))) (.int (0 : Int32)) := (Arv.new A254 (own_cl_nn hc72 (by decide))).pad (pad_rep [] (.int (0 : Int32)) cs.length)
  have K254 : Keep h0 h254 [] := (Keep.refl h0 []).ext E254
  have XX254 : Ext Z.heap h254 := own_ext2 Z0 E254
  obtain ⟨cl255, Ar255, q255, S255, Nn255, H255, G255⟩ := id (V_ba.ext E254)
  obtain ⟨_, T257, Lc257, X257, hQ257, st257⟩ := own_static (y := y_7) X254 hx hZ hown (own_w hw 157 rfl) (own_w hw 158 rfl) (own_w hw 159 rfl) (own_w hw 160 rfl) (rm256 l Z a0 hw [] cs h254 XX254 hc72) e254 (g := (mkF m 24 #[rv ba, iv (0 : Int32), iv (Int32.ofNat cs.length), iv (Int32.ofNat cs.length), rv b254] [(.int (Int32.ofNat cs.length)), (.int (16 : Int32)), (.int (0 : Int32)), (.ref b254), (.int (0 : Int32)), (.ref ba)])) (argsL := [(.int (16 : Int32)), (.int (Int32.ofNat cs.length))]) (rest := [(.int (0 : Int32)), (.ref b254), (.int (0 : Int32)), (.ref ba)]) (W := 4) (lenOf pd_0 rfl) (hb hby d26_24) hml
  obtain ⟨rfl, N257q, e257⟩ := hQ257
  have N257 := Fr.app N253 N257q
  obtain ⟨T258, h258, L258, X258, e258, N258, K258q, V258, st258⟩ := own_cp X257 hx hZ hown (own_w hw 161 rfl) (own_w hw 118 rfl) (own_w hw 116 rfl) (own_w hw 117 rfl) e257 (V_ba.ext E254) V_b254 (own_cp_out (Nat.le_of_lt hc72) (by decide) (by decide)) N257 g_b254 (g := (mkF m 27 #[rv ba, iv (0 : Int32), iv (Int32.ofNat cs.length), iv (Int32.ofNat cs.length), rv b254] [(.int (Int32.ofNat cs.length)), (.int (0 : Int32)), (.ref b254), (.int (0 : Int32)), (.ref ba)])) (W := 0) (hb hby d26_27) hml
  have XX258 : Ext Z.heap h258 := own_extK XX254 K258q (allS g_b254 all0)
  have K258 : Keep h0 h258 [] := K254.trans K258q (allS (Or.inr sz_b254) all0)
  obtain ⟨fs, hr, hrun, hended, hW, hsame⟩ := X258.leave (v := some (.ref b254)) (fun h => by rw [hret] at h; cases h) hlk
  refine ⟨_, _, ?_, hrun, hended, _, _, rfl, ?_, ⟨_, rfl⟩, hW, hsame.mono (by decide) (by decide)⟩
  · show own_S p e below s₁ (mkF m 0 #[rv ba, iv (0 : Int32), iv (Int32.ofNat cs.length), .unset, .unset] []) _
    refine own_iN X0 hx hby d26_0 ?_
    refine own_iN X0 hx hby d26_1 ?_
    refine st253 _ ?_
    refine own_iN X253 hx hby d26_5 ?_
    refine own_iN X253 hx hby d26_6 ?_
    refine XS.isub X253.here hx rfl (hb hby d26_7) rfl ?_
    show own_S p e below T253 (mkF m 8 #[rv ba, iv (0 : Int32), iv (Int32.ofNat cs.length), .unset, .unset] [(.int ((Int32.ofNat cs.length) - (0 : Int32)))]) _
    rw [(own_sub0 _)]
    refine XS.istoreN X253.here hx rfl (hb hby d26_8) rfl (l' := #[rv ba, iv (0 : Int32), iv (Int32.ofNat cs.length), iv (Int32.ofNat cs.length), .unset]) rfl ?_
    refine own_iN X253 hx hby d26_9 ?_
    refine st254 _ ?_
    refine XS.astore X254.here hx rfl (hb hby d26_12) rfl rfl (l' := #[rv ba, iv (0 : Int32), iv (Int32.ofNat cs.length), iv (Int32.ofNat cs.length), rv b254]) rfl ?_
    refine own_aN X254 hx hby d26_14 ?_
    refine own_iN X254 hx hby d26_15 ?_
    refine own_a X254 hx hby d26_16 ?_
    refine own_k X254 hx hby d26_18 ?_
    refine own_aN X254 hx hby d26_19 ?_
    refine X254.arraylength hx (by rw [e254]; exact Ar255.1) (State.isArrayOf_alike hZ.alike Ar255.2.1) (g := (mkF m 20 #[rv ba, iv (0 : Int32), iv (Int32.ofNat cs.length), iv (Int32.ofNat cs.length), rv b254] [(.ref ba), (.int (0 : Int32)), (.ref b254), (.int (0 : Int32)), (.ref ba)])) rfl rfl (hb hby d26_20) _ ?_
    rw [len_of S255 Nn255]
    refine own_iN X254 hx hby d26_21 ?_
    refine XS.isub X254.here hx rfl (hb hby d26_22) rfl ?_
    show own_S p e below T254 (mkF m 23 #[rv ba, iv (0 : Int32), iv (Int32.ofNat cs.length), iv (Int32.ofNat cs.length), rv b254] [(.int ((16 : Int32) - (0 : Int32))), (.int (0 : Int32)), (.ref b254), (.int (0 : Int32)), (.ref ba)]) _
    rw [(by decide : ((16 : Int32) - (0 : Int32)) = (16 : Int32))]
    refine own_iN X254 hx hby d26_23 ?_
    refine st257 _ ?_
    refine st258 _ ?_
    refine own_a X258 hx hby d26_30 ?_
    jvm_step X258.here [X258.here.top, hx, (hb hby d26_32), X258.method', hret, Value.isRef, FieldType.isReference]
    first | (intro acts; rw [hr _ acts rfl rfl rfl]) | rw [hr _ _ rfl rfl rfl]
    exact Steps.refl _
  · show Qrm251 Z ba kv cs h0 _ T258.heap _
    rw [e258]
    exact ⟨b254, k254, rfl, N258, K258, sz_b254, V258⟩
def Qrm249 (Z : State) (ba : Addr) (kv : ClassId) (cs : List Int32) (h0 : Heap) (v : Option Value) (h : Heap) (L : List Loc) : Prop := ∃ b260 : Addr, ∃ k261 : ClassId, v = some (.ref b260) ∧ Fr Z.heap.size L ∧ Keep h0 h [] ∧ h0.size ≤ b260 ∧ Arv Z h b260 k261 .byte (Int32.ofNat cs.length) (own_ch cs) (.int (0 : Int32))
theorem rm249 (l : Launch) (Z : State) (a0 : Array Value) (hw : own_HW Z a0) (ws : List Jvm.Cond) (ba : Addr) (kv : ClassId) (cs : List Int32) (h0 : Heap) (Z0 : Ext Z.heap h0) (V_ba : Arv Z h0 ba kv .byte (16 : Int32) (own_buf 16 cs) (.int (0 : Int32))) (hc72 : cs.length < 16) :
    own_met l y_24 jdk_65_method_132_code 3 (some (.array .byte)) ws ({ frames := 2, cells := 1, slots := 16, locals := 34 } : Room) Z #[(.ref ba), (.int (0 : Int32)), (.int (Int32.ofNat cs.length))] h0 (Qrm249 Z ba kv cs h0) := by
  refine own_start (plainFor_of_name pn_4) (fun m => ef_jdk_65_method_132_RII m ba (0 : Int32) (Int32.ofNat cs.length)) ?_
  intro p e s m below meth c s₁ hx hby hml hown hnm X0 hZ e0 hret hlk
  have N0 := Fr.nil Z.heap.size
  obtain ⟨cl250, Ar250, q250, S250, Nn250, H250, G250⟩ := id V_ba
  obtain ⟨_, T259, Lc259, X259, hQ259, st259⟩ := own_static (y := y_23) X0 hx hZ hown (own_w hw 151 rfl) (own_w hw 152 rfl) (own_w hw 149 rfl) (own_w hw 153 rfl) (rm251 l Z a0 hw [] ba kv cs h0 Z0 V_ba hc72) e0 (g := (mkF m 13 #[rv ba, iv (0 : Int32), iv (Int32.ofNat cs.length)] [(.int (Int32.ofNat cs.length)), (.int (0 : Int32)), (.ref ba)])) (argsL := [(.ref ba), (.int (0 : Int32)), (.int (Int32.ofNat cs.length))]) (rest := []) (W := 0) (lenOf pd_16 rfl) (hb hby d25_13) hml
  obtain ⟨b260, k261, rfl, N259q, K259q, szn_b260, q259_V_b260⟩ := hQ259
  have g_b260 : Z.heap.size ≤ b260 := Nat.le_trans Z0.1 szn_b260
  have sz_b260 : h0.size ≤ b260 := Nat.le_trans (Keep.refl h0 []).1 szn_b260
  have K259 : Keep h0 T259.heap [] := (Keep.refl h0 []).trans K259q all0
  have XX259 : Ext Z.heap T259.heap := own_extK Z0 K259q all0
  have N259 := Fr.app N0 N259q
  obtain ⟨fs, hr, hrun, hended, hW, hsame⟩ := X259.leave (v := some (.ref b260)) (fun h => by rw [hret] at h; cases h) hlk
  refine ⟨_, _, ?_, hrun, hended, _, _, rfl, ?_, ⟨_, rfl⟩, hW, hsame.mono (by decide) (by decide)⟩
  · show own_S p e below s₁ (mkF m 0 #[rv ba, iv (0 : Int32), iv (Int32.ofNat cs.length)] []) _
    refine own_iN X0 hx hby d25_0 ?_
    refine own_in X0 hx hby d25_1 (teq (rfl : (0 : Int32) = (0 : Int32))).2 ?_
    refine own_iN X0 hx hby d25_4 ?_
    refine own_aN X0 hx hby d25_5 ?_
    refine X0.arraylength hx (by rw [e0]; exact Ar250.1) (State.isArrayOf_alike hZ.alike Ar250.2.1) (g := (mkF m 6 #[rv ba, iv (0 : Int32), iv (Int32.ofNat cs.length)] [(.ref ba), (.int (Int32.ofNat cs.length))])) rfl rfl (hb hby d25_6) _ ?_
    rw [len_of S250 Nn250]
    refine own_cn X0 hx hby d25_7 (feq (own_cl_ne hc72 (by decide) rfl)).1 ?_
    refine own_aN X0 hx hby d25_10 ?_
    refine own_iN X0 hx hby d25_11 ?_
    refine own_iN X0 hx hby d25_12 ?_
    refine st259 _ ?_
    jvm_step X259.here [X259.here.top, hx, (hb hby d25_16), X259.method', hret, Value.isRef, FieldType.isReference]
    first | (intro acts; rw [hr _ acts rfl rfl rfl]) | rw [hr _ _ rfl rfl rfl]
    exact Steps.refl _
  · show Qrm249 Z ba kv cs h0 _ T259.heap _
    exact ⟨b260, k261, rfl, N259, K259, sz_b260, q259_V_b260⟩
def Qrm237 (Z : State) (w_CS : Int32) (bb ba : Addr) (kv : ClassId) (cs : List Int32) (b235 : Addr) (h0 : Heap) (v : Option Value) (h : Heap) (L : List Loc) : Prop := ∃ b263 : Addr, ∃ k264 : ClassId, v = none ∧ Fr Z.heap.size L ∧ Keep h0 h [b235] ∧ h0.size ≤ b263 ∧ Exa Z h b235 "java/lang/String" ∧ Fld Z h b235 "java/lang/String" "coder" "B" (.int (0 : Int32)) ∧ Fld Z h b235 "java/lang/String" "value" "[B" (.ref b263) ∧ Arv Z h b263 k264 .byte (Int32.ofNat cs.length) (own_ch cs) (.int (0 : Int32))
theorem rm237 (l : Launch) (Z : State) (a0 : Array Value) (hw : own_HW Z a0) (ws : List Jvm.Cond) (w_CS : Int32) (bb ba : Addr) (kv : ClassId) (cs : List Int32) (b235 : Addr) (h0 : Heap) (Z0 : Ext Z.heap h0) (S_w_CS : own_w_CS Z w_CS) (E_b235 : Exa Z h0 b235 "java/lang/String") (F_b235_coder : Fld Z h0 b235 "java/lang/String" "coder" "B" (.int (0 : Int32))) (F_b235_value : Fld Z h0 b235 "java/lang/String" "value" "[B" .null) (E_bb : Exa Z h0 bb "java/lang/StringBuilder") (F_bb_coder : Fld Z h0 bb "java/lang/AbstractStringBuilder" "coder" "B" (.int (0 : Int32))) (F_bb_count : Fld Z h0 bb "java/lang/AbstractStringBuilder" "count" "I" (.int (Int32.ofNat cs.length))) (F_bb_value : Fld Z h0 bb "java/lang/AbstractStringBuilder" "value" "[B" (.ref ba)) (V_ba : Arv Z h0 ba kv .byte (16 : Int32) (own_buf 16 cs) (.int (0 : Int32))) (g_b235 : Z.heap.size ≤ b235) (hc1 : ¬ (w_CS = (0 : Int32))) (hc73 : ba ≠ b235) (hc72 : cs.length < 16) :
    own_met l y_25 jdk_42_method_150_code 5 none ws ({ frames := 3, cells := 1, slots := 16, locals := 49 } : Room) Z #[(.ref b235), (.ref bb), .null] h0 (Qrm237 Z w_CS bb ba kv cs b235 h0) := by
  refine own_start (plainFor_of_name pn_6) (fun m => ef_jdk_42_method_150_RRn m b235 bb) ?_
  intro p e s m below meth c s₁ hx hby hml hown hnm X0 hZ e0 hret hlk
  have N0 := Fr.nil Z.heap.size
  obtain ⟨T238, X238, e238, st238⟩ := initO X0 hx hZ hown (own_w hw 132 rfl) (own_w hw 8 rfl) (own_w hw 9 rfl) e0 (g := (mkF m 1 #[rv b235, rv bb, .val .null, .unset, .unset] [(.ref b235)])) rfl (by rw [hml]; rfl) rfl (hb hby d21_1) (by decide) (W := 0) (by show 2 * 0 + _ ≤ _; exact Nat.le_of_eq rfl) (by decide)
  obtain ⟨_, T241, Lc241, X241, hQ241, st241⟩ := own_virtual (y := y_19) X238 hx hZ hown (own_w hw 133 rfl) (own_w hw 134 rfl) (own_w hw 136 rfl) (own_w hw 135 rfl) (own_w hw 31 rfl) (own_w hw 137 rfl) (rm239 l Z a0 hw [] bb ba h0 Z0 F_bb_value) e238 E_bb (g := (mkF m 5 #[rv b235, rv bb, .val .null, .unset, .unset] [(.ref bb)])) (argsL := []) (rest := []) (W := 0) (lenOf pd_14 rfl) (hb hby d21_5) hml
  obtain ⟨rfl, N241q, e241⟩ := hQ241
  have N241 := Fr.app N0 N241q
  obtain ⟨_, T246, Lc246, X246, hQ246, st246⟩ := own_virtualO (z := y_20) (y := y_21) X241 hx hZ hown (own_w hw 138 rfl) (own_w hw 139 rfl) (own_w hw 60 rfl) rfl (own_w hw 141 rfl) (own_w hw 142 rfl) (own_w hw 23 rfl) (own_w hw 143 rfl) (rm242 l Z a0 hw [] bb cs h0 Z0 E_bb F_bb_count) e241 E_bb (g := (mkF m 10 #[rv b235, rv bb, .val .null, rv ba, .unset] [(.ref bb)])) (argsL := []) (rest := []) (W := 0) (lenOf pd_9 rfl) (hb hby d21_10) hml
  obtain ⟨rfl, N246q, e246⟩ := hQ246
  have N246 := Fr.app N241 N246q
  obtain ⟨_, T247, Lc247, X247, hQ247, st247⟩ := own_virtual (y := y_9) X246 hx hZ hown (own_w hw 146 rfl) (own_w hw 63 rfl) (own_w hw 65 rfl) (own_w hw 64 rfl) (own_w hw 31 rfl) (own_w hw 66 rfl) (rm110 l Z a0 hw [] w_CS bb h0 Z0 S_w_CS F_bb_coder hc1) e246 E_bb (g := (mkF m 16 #[rv b235, rv bb, .val .null, rv ba, iv (Int32.ofNat cs.length)] [(.ref bb)])) (argsL := []) (rest := []) (W := 0) (lenOf pd_5 rfl) (hb hby d21_16) hml
  obtain ⟨rfl, N247q, e247⟩ := hQ247
  have N247 := Fr.app N246 N247q
  obtain ⟨T248, h248, X248, e248, W248, st248⟩ := putFN X247 hx hZ hown (own_w hw 98 rfl) Via.refl e247 F_b235_coder E_b235 (Or.inr ⟨(own_w hw 74 rfl), rfl, hnm⟩) (own_w hw 72 rfl) (ty := .byte) (v' := (.int (0 : Int32))) (by decide) rfl (by decide) (g := (mkF m 24 #[rv b235, rv bb, .val .null, rv ba, iv (Int32.ofNat cs.length)] [(.int (0 : Int32)), (.ref b235)])) rfl rfl (hb hby d21_24)
  have K248 : Keep h0 h248 [b235] := (Keep.refl h0 [b235]).wr W248 (Or.inl (List.mem_of_getElem? (i := 0) rfl))
  have XX248 : Ext Z.heap h248 := own_extW Z0 W248 g_b235
  have N248 := Fr.snoc X248 N247 g_b235
  obtain ⟨_, T262, Lc262, X262, hQ262, st262⟩ := own_static (y := y_24) X248 hx hZ hown (own_w hw 147 rfl) (own_w hw 148 rfl) (own_w hw 149 rfl) (own_w hw 150 rfl) (rm249 l Z a0 hw [] ba kv cs h248 XX248 (V_ba.other W248 hc73) hc72) e248 (g := (mkF m 32 #[rv b235, rv bb, .val .null, rv ba, iv (Int32.ofNat cs.length)] [(.int (Int32.ofNat cs.length)), (.int (0 : Int32)), (.ref ba), (.ref b235)])) (argsL := [(.ref ba), (.int (0 : Int32)), (.int (Int32.ofNat cs.length))]) (rest := [(.ref b235)]) (W := 1) (lenOf pd_16 rfl) (hb hby d21_32) hml
  obtain ⟨b263, k264, rfl, N262q, K262q, szn_b263, q262_V_b263⟩ := hQ262
  have g_b263 : Z.heap.size ≤ b263 := Nat.le_trans XX248.1 szn_b263
  have sz_b263 : h0.size ≤ b263 := Nat.le_trans K248.1 szn_b263
  have K262 : Keep h0 T262.heap [b235] := K248.trans K262q all0
  have XX262 : Ext Z.heap T262.heap := own_extK XX248 K262q all0
  have N262 := Fr.app N248 N262q
  have f265_F_b235_value : Fld Z T262.heap b235 "java/lang/String" "value" "[B" .null := ((F_b235_value.other W248 (Or.inr (slot_ne (Or.inr (own_w hw 73 rfl)) (Or.inr (own_w hw 74 rfl)) (by decide) (t := (.array .byte)) (t' := .byte) (by decide) (by decide)))).keep K262q nin0)
  obtain ⟨T266, h266, X266, e266, W266, st266⟩ := putF X262 hx hZ hown (host := "") (Or.inl (own_w hw 91 rfl)) Via.refl rfl f265_F_b235_value ((E_b235.wr W248).keep K262q) (Or.inr ⟨(own_w hw 73 rfl), rfl, hnm⟩) (own_w hw 72 rfl) (ty := (.array .byte)) (by decide) rfl rfl (g := (mkF m 35 #[rv b235, rv bb, .val .null, rv ba, iv (Int32.ofNat cs.length)] [(.ref b263), (.ref b235)])) rfl rfl (hb hby d21_35)
  have K266 : Keep h0 h266 [b235] := K262.wr W266 (Or.inl (List.mem_of_getElem? (i := 0) rfl))
  have XX266 : Ext Z.heap h266 := own_extW XX262 W266 g_b235
  have N266 := Fr.snoc X266 N262 g_b235
  have f267_F_b235_coder : Fld Z h266 b235 "java/lang/String" "coder" "B" (.int (0 : Int32)) := (((F_b235_coder.same W248).keep K262q nin0).other W266 (Or.inr (slot_ne (Or.inr (own_w hw 74 rfl)) (Or.inr (own_w hw 73 rfl)) (by decide) (t := .byte) (t' := (.array .byte)) (by decide) (by decide))))
  have ne_b235_b263 : b235 ≠ b263 := Nat.ne_of_lt (Nat.lt_of_lt_of_le (E_b235.wr W248).lt szn_b263)
  obtain ⟨fs, hr, hrun, hended, hW, hsame⟩ := X266.leave (v := none) (fun _ => rfl) hlk
  refine ⟨_, _, ?_, hrun, hended, _, _, rfl, ?_, ⟨_, rfl⟩, hW, hsame.mono (by decide) (by decide)⟩
  · show own_S p e below s₁ (mkF m 0 #[rv b235, rv bb, .val .null, .unset, .unset] []) _
    refine own_aN X0 hx hby d21_0 ?_
    refine st238 _ ?_
    refine own_aN X238 hx hby d21_4 ?_
    refine st241 _ ?_
    refine XS.astoreN X241.here hx rfl (hb hby d21_8) rfl rfl (l' := #[rv b235, rv bb, .val .null, rv ba, .unset]) rfl ?_
    refine own_aN X241 hx hby d21_9 ?_
    refine st246 _ ?_
    refine XS.istore X246.here hx rfl (hb hby d21_13) rfl (l' := #[rv b235, rv bb, .val .null, rv ba, iv (Int32.ofNat cs.length)]) rfl ?_
    refine own_aN X246 hx hby d21_15 ?_
    refine st247 _ ?_
    refine own_in X247 hx hby d21_19 (feq (by decide : ¬ ((1 : Int32) = (0 : Int32)))).1 ?_
    refine own_aN X247 hx hby d21_22 ?_
    refine own_k X247 hx hby d21_23 ?_
    refine st248 _ ?_
    refine own_aN X248 hx hby d21_27 ?_
    refine own_aN X248 hx hby d21_28 ?_
    refine own_k X248 hx hby d21_29 ?_
    refine own_i X248 hx hby d21_30 ?_
    refine st262 _ ?_
    refine st266 _ ?_
    refine own_go (pc := 38) X266 hx hby d21_38 97 ?_
    exact X266.returnOut hx hret (hb hby d21_97) hr
  · show Qrm237 Z w_CS bb ba kv cs b235 h0 _ T266.heap _
    rw [e266]
    exact ⟨b263, k264, rfl, N266, K266, sz_b263, (((E_b235.wr W248).keep K262q).wr W266), f267_F_b235_coder, (f265_F_b235_value.same W266), (q262_V_b263.other W266 (Ne.symm ne_b235_b263))⟩
def Qrm236 (Z : State) (w_CS : Int32) (bb ba : Addr) (kv : ClassId) (cs : List Int32) (b235 : Addr) (h0 : Heap) (v : Option Value) (h : Heap) (L : List Loc) : Prop := ∃ b269 : Addr, ∃ k270 : ClassId, v = none ∧ Fr Z.heap.size L ∧ Keep h0 h [b235] ∧ h0.size ≤ b269 ∧ Exa Z h b235 "java/lang/String" ∧ Fld Z h b235 "java/lang/String" "coder" "B" (.int (0 : Int32)) ∧ Fld Z h b235 "java/lang/String" "value" "[B" (.ref b269) ∧ Arv Z h b269 k270 .byte (Int32.ofNat cs.length) (own_ch cs) (.int (0 : Int32))
theorem rm236 (l : Launch) (Z : State) (a0 : Array Value) (hw : own_HW Z a0) (ws : List Jvm.Cond) (w_CS : Int32) (bb ba : Addr) (kv : ClassId) (cs : List Int32) (b235 : Addr) (h0 : Heap) (Z0 : Ext Z.heap h0) (S_w_CS : own_w_CS Z w_CS) (E_b235 : Exa Z h0 b235 "java/lang/String") (F_b235_coder : Fld Z h0 b235 "java/lang/String" "coder" "B" (.int (0 : Int32))) (F_b235_value : Fld Z h0 b235 "java/lang/String" "value" "[B" .null) (E_bb : Exa Z h0 bb "java/lang/StringBuilder") (F_bb_coder : Fld Z h0 bb "java/lang/AbstractStringBuilder" "coder" "B" (.int (0 : Int32))) (F_bb_count : Fld Z h0 bb "java/lang/AbstractStringBuilder" "count" "I" (.int (Int32.ofNat cs.length))) (F_bb_value : Fld Z h0 bb "java/lang/AbstractStringBuilder" "value" "[B" (.ref ba)) (V_ba : Arv Z h0 ba kv .byte (16 : Int32) (own_buf 16 cs) (.int (0 : Int32))) (g_b235 : Z.heap.size ≤ b235) (hc1 : ¬ (w_CS = (0 : Int32))) (hc73 : ba ≠ b235) (hc72 : cs.length < 16) :
    own_met l y_26 jdk_42_method_53_code 2 none ws ({ frames := 4, cells := 1, slots := 16, locals := 65 } : Room) Z #[(.ref b235), (.ref bb)] h0 (Qrm236 Z w_CS bb ba kv cs b235 h0) := by
  refine own_start (plainFor_of_name pn_6) (fun m => ef_jdk_42_method_53_RR m b235 bb) ?_
  intro p e s m below meth c s₁ hx hby hml hown hnm X0 hZ e0 hret hlk
  have N0 := Fr.nil Z.heap.size
  obtain ⟨_, T268, Lc268, X268, hQ268, st268⟩ := own_special (y := y_25) X0 hx hZ hown rfl (own_w hw 129 rfl) (own_w hw 130 rfl) (own_w hw 35 rfl) (own_w hw 131 rfl) (rm237 l Z a0 hw [] w_CS bb ba kv cs b235 h0 Z0 S_w_CS E_b235 F_b235_coder F_b235_value E_bb F_bb_coder F_bb_count F_bb_value V_ba g_b235 hc1 hc73 hc72) e0 b235 (g := (mkF m 3 #[rv b235, rv bb] [.null, (.ref bb), (.ref b235)])) (argsL := [(.ref bb), .null]) (rest := []) (W := 0) (lenOf pd_17 rfl) (hb hby d20_3) hml
  obtain ⟨b269, k270, rfl, N268q, K268q, szn_b269, q268_E_b235, q268_F_b235_coder, q268_F_b235_value, q268_V_b269⟩ := hQ268
  have g_b269 : Z.heap.size ≤ b269 := Nat.le_trans Z0.1 szn_b269
  have sz_b269 : h0.size ≤ b269 := Nat.le_trans (Keep.refl h0 [b235]).1 szn_b269
  have K268 : Keep h0 T268.heap [b235] := (Keep.refl h0 [b235]).trans K268q (allS (Or.inl (List.mem_of_getElem? (i := 0) rfl)) all0)
  have XX268 : Ext Z.heap T268.heap := own_extK Z0 K268q (allS g_b235 all0)
  have N268 := Fr.app N0 N268q
  obtain ⟨fs, hr, hrun, hended, hW, hsame⟩ := X268.leave (v := none) (fun _ => rfl) hlk
  refine ⟨_, _, ?_, hrun, hended, _, _, rfl, ?_, ⟨_, rfl⟩, hW, hsame.mono (by decide) (by decide)⟩
  · show own_S p e below s₁ (mkF m 0 #[rv b235, rv bb] []) _
    refine own_aN X0 hx hby d20_0 ?_
    refine own_aN X0 hx hby d20_1 ?_
    refine XS.aconstNull X0.here hx rfl (hb hby d20_2) ?_
    refine st268 _ ?_
    exact X268.returnOut hx hret (hb hby d20_6) hr
  · show Qrm236 Z w_CS bb ba kv cs b235 h0 _ T268.heap _
    exact ⟨b269, k270, rfl, N268, K268, sz_b269, q268_E_b235, q268_F_b235_coder, q268_F_b235_value, q268_V_b269⟩
def Qrm234 (Z : State) (w_CS : Int32) (bb ba : Addr) (kv : ClassId) (cs : List Int32) (h0 : Heap) (v : Option Value) (h : Heap) (L : List Loc) : Prop := ∃ b235 : Addr, ∃ b272 : Addr, ∃ k273 : ClassId, v = some (.ref b235) ∧ Fr Z.heap.size L ∧ Keep h0 h [] ∧ h0.size ≤ b235 ∧ h0.size ≤ b272 ∧ Exa Z h b235 "java/lang/String" ∧ Fld Z h b235 "java/lang/String" "value" "[B" (.ref b272) ∧ Fld Z h b235 "java/lang/String" "coder" "B" (.int (0 : Int32)) ∧ Arv Z h b272 k273 .byte (Int32.ofNat cs.length) (own_ch cs) (.int (0 : Int32))
theorem rm234 (l : Launch) (Z : State) (a0 : Array Value) (hw : own_HW Z a0) (ws : List Jvm.Cond) (w_CS : Int32) (bb ba : Addr) (kv : ClassId) (cs : List Int32) (h0 : Heap) (Z0 : Ext Z.heap h0) (S_w_CS : own_w_CS Z w_CS) (E_bb : Exa Z h0 bb "java/lang/StringBuilder") (F_bb_value : Fld Z h0 bb "java/lang/AbstractStringBuilder" "value" "[B" (.ref ba)) (F_bb_coder : Fld Z h0 bb "java/lang/AbstractStringBuilder" "coder" "B" (.int (0 : Int32))) (F_bb_count : Fld Z h0 bb "java/lang/AbstractStringBuilder" "count" "I" (.int (Int32.ofNat cs.length))) (V_ba : Arv Z h0 ba kv .byte (16 : Int32) (own_buf 16 cs) (.int (0 : Int32))) (hc1 : ¬ (w_CS = (0 : Int32))) (hc72 : cs.length < 16) :
    own_met l y_27 jdk_67_method_42_code 1 (some (.object "java/lang/String")) ws ({ frames := 5, cells := 2, slots := 20, locals := 79 } : Room) Z #[(.ref bb)] h0 (Qrm234 Z w_CS bb ba kv cs h0) := by
  refine own_start (plainFor_of_name pn_5) (fun m => ef_jdk_67_method_42_R m bb) ?_
  intro p e s m below meth c s₁ hx hby hml hown hnm X0 hZ e0 hret hlk
  have N0 := Fr.nil Z.heap.size
  obtain ⟨T235, h235, X235, e235, E235, A235, D235, -, st235⟩ := newO X0 hx hZ hown (own_w hw 124 rfl) (own_w hw 72 rfl) (own_w hw 35 rfl) e0 (g := (mkF m 0 #[rv bb] [])) rfl (hb hby d19_0) (by decide) (by decide)
  obtain ⟨b235, g235⟩ : ∃ z, z = h0.size := ⟨_, rfl⟩
  rw [← g235] at A235 D235 st235
  have g_b235 : Z.heap.size ≤ b235 := Nat.le_trans Z0.1 (Nat.le_of_eq g235.symm)
  have sz_b235 : h0.size ≤ b235 := Nat.le_trans (Keep.refl h0 []).1 (Nat.le_of_eq g235.symm)
  have F_b235_value : Fld Z h235 b235 "java/lang/String" "value" "[B" .null := D235 (Or.inr (own_w hw 73 rfl)) (ty := (.array .byte)) (by decide)
  have F_b235_coder : Fld Z h235 b235 "java/lang/String" "coder" "B" (.int (0 : Int32)) := D235 (Or.inr (own_w hw 74 rfl)) (ty := .byte) (by decide)
  have K235 : Keep h0 h235 [] := (Keep.refl h0 []).ext E235
  have XX235 : Ext Z.heap h235 := own_ext2 Z0 E235
  have ne_ba_b235 : ba ≠ b235 := Nat.ne_of_lt (Nat.lt_of_lt_of_le V_ba.lt (Nat.le_of_eq g235.symm))
  obtain ⟨_, T271, Lc271, X271, hQ271, st271⟩ := own_special (y := y_26) X235 hx hZ hown rfl (own_w hw 125 rfl) (own_w hw 126 rfl) (own_w hw 35 rfl) (own_w hw 128 rfl) (rm236 l Z a0 hw [] w_CS bb ba kv cs b235 h235 XX235 S_w_CS A235 F_b235_coder F_b235_value (E_bb.ext E235) (F_bb_coder.ext E235) (F_bb_count.ext E235) (F_bb_value.ext E235) (V_ba.ext E235) g_b235 hc1 ne_ba_b235 hc72) e235 b235 (g := (mkF m 5 #[rv bb] [(.ref bb), (.ref b235), (.ref b235)])) (argsL := [(.ref bb)]) (rest := [(.ref b235)]) (W := 1) (lenOf pd_18 rfl) (hb hby d19_5) hml
  obtain ⟨b272, k273, rfl, N271q, K271q, szn_b272, q271_E_b235, q271_F_b235_coder, q271_F_b235_value, q271_V_b272⟩ := hQ271
  have g_b272 : Z.heap.size ≤ b272 := Nat.le_trans XX235.1 szn_b272
  have sz_b272 : h0.size ≤ b272 := Nat.le_trans K235.1 szn_b272
  have K271 : Keep h0 T271.heap [] := K235.trans K271q (allS (Or.inr sz_b235) all0)
  have XX271 : Ext Z.heap T271.heap := own_extK XX235 K271q (allS g_b235 all0)
  have N271 := Fr.app N0 N271q
  obtain ⟨fs, hr, hrun, hended, hW, hsame⟩ := X271.leave (v := some (.ref b235)) (fun h => by rw [hret] at h; cases h) hlk
  refine ⟨_, _, ?_, hrun, hended, _, _, rfl, ?_, ⟨_, rfl⟩, hW, hsame.mono (by decide) (by decide)⟩
  · show own_S p e below s₁ (mkF m 0 #[rv bb] []) _
    refine st235 _ ?_
    refine XS.dup X235.here hx rfl (hb hby d19_3) rfl rfl ?_
    refine own_aN X235 hx hby d19_4 ?_
    refine st271 _ ?_
    jvm_step X271.here [X271.here.top, hx, (hb hby d19_8), X271.method', hret, Value.isRef, FieldType.isReference]
    first | (intro acts; rw [hr _ acts rfl rfl rfl]) | rw [hr _ _ rfl rfl rfl]
    exact Steps.refl _
  · show Qrm234 Z w_CS bb ba kv cs h0 _ T271.heap _
    exact ⟨b235, b272, k273, rfl, N271, K271, sz_b235, sz_b272, q271_E_b235, q271_F_b235_value, q271_F_b235_coder, q271_V_b272⟩
def Qrm279 (Z : State) (bb ba : Addr) (h0 : Heap) (v : Option Value) (h : Heap) (L : List Loc) : Prop := v = some (.ref ba) ∧ Fr Z.heap.size L ∧ h = h0
theorem rm279 (l : Launch) (Z : State) (a0 : Array Value) (hw : own_HW Z a0) (ws : List Jvm.Cond) (bb ba : Addr) (h0 : Heap) (Z0 : Ext Z.heap h0) (F_bb_value : Fld Z h0 bb "java/lang/AbstractStringBuilder" "value" "[B" (.ref ba)) :
    own_met l y_19 jdk_68_method_64_code 1 (some (.array .byte)) ws ({ frames := 0, cells := 0, slots := 0, locals := 0 } : Room) Z #[(.ref bb)] h0 (Qrm279 Z bb ba h0) := by
  refine own_start (plainFor_of_name pn_2) (fun m => ef_jdk_68_method_64_R m bb) ?_
  intro p e s m below meth c s₁ hx hby hml hown hnm X0 hZ e0 hret hlk
  have N0 := Fr.nil Z.heap.size
  obtain ⟨T280, X280, e280, st280⟩ := getF X0 hx hZ hown (host := "") (Or.inl (own_w hw 37 rfl)) Via.refl e0 F_bb_value (g := (mkF m 1 #[rv bb] [(.ref bb)])) rfl rfl (hb hby d22_1)
  obtain ⟨fs, hr, hrun, hended, hW, hsame⟩ := X280.leave (v := some (.ref ba)) (fun h => by rw [hret] at h; cases h) hlk
  refine ⟨_, _, ?_, hrun, hended, _, _, rfl, ?_, ⟨_, rfl⟩, hW, hsame.mono (by decide) (by decide)⟩
  · show own_S p e below s₁ (mkF m 0 #[rv bb] []) _
    refine own_aN X0 hx hby d22_0 ?_
    refine st280 _ ?_
    jvm_step X280.here [X280.here.top, hx, (hb hby d22_4), X280.method', hret, Value.isRef, FieldType.isReference]
    first | (intro acts; rw [hr _ acts rfl rfl rfl]) | rw [hr _ _ rfl rfl rfl]
    exact Steps.refl _
  · show Qrm279 Z bb ba h0 _ T280.heap _
    rw [e280]
    exact ⟨rfl, N0, rfl⟩
def Qrm283 (Z : State) (bb : Addr) (cs : List Int32) (h0 : Heap) (v : Option Value) (h : Heap) (L : List Loc) : Prop := v = some (.int (Int32.ofNat cs.length)) ∧ Fr Z.heap.size L ∧ h = h0
theorem rm283 (l : Launch) (Z : State) (a0 : Array Value) (hw : own_HW Z a0) (ws : List Jvm.Cond) (bb : Addr) (cs : List Int32) (h0 : Heap) (Z0 : Ext Z.heap h0) (F_bb_count : Fld Z h0 bb "java/lang/AbstractStringBuilder" "count" "I" (.int (Int32.ofNat cs.length))) :
    own_met l y_20 jdk_68_method_6_code 1 (some .int) ws ({ frames := 0, cells := 0, slots := 0, locals := 0 } : Room) Z #[(.ref bb)] h0 (Qrm283 Z bb cs h0) := by
  refine own_start (plainFor_of_name pn_2) (fun m => ef_jdk_68_method_6_R m bb) ?_
  intro p e s m below meth c s₁ hx hby hml hown hnm X0 hZ e0 hret hlk
  have N0 := Fr.nil Z.heap.size
  obtain ⟨T284, X284, e284, st284⟩ := getF X0 hx hZ hown (host := "") (Or.inl (own_w hw 51 rfl)) Via.refl e0 F_bb_count (g := (mkF m 1 #[rv bb] [(.ref bb)])) rfl rfl (hb hby d24_1)
  obtain ⟨fs, hr, hrun, hended, hW, hsame⟩ := X284.leave (v := some (.int (Int32.ofNat cs.length))) (fun h => by rw [hret] at h; cases h) hlk
  refine ⟨_, _, ?_, hrun, hended, _, _, rfl, ?_, ⟨_, rfl⟩, hW, hsame.mono (by decide) (by decide)⟩
  · show own_S p e below s₁ (mkF m 0 #[rv bb] []) _
    refine own_aN X0 hx hby d24_0 ?_
    refine st284 _ ?_
    exact retI X284 hx hret (hb hby d24_4) hr
  · show Qrm283 Z bb cs h0 _ T284.heap _
    rw [e284]
    exact ⟨rfl, N0, rfl⟩
def Qrm282 (Z : State) (bb : Addr) (cs : List Int32) (h0 : Heap) (v : Option Value) (h : Heap) (L : List Loc) : Prop := v = some (.int (Int32.ofNat cs.length)) ∧ Fr Z.heap.size L ∧ h = h0
theorem rm282 (l : Launch) (Z : State) (a0 : Array Value) (hw : own_HW Z a0) (ws : List Jvm.Cond) (bb : Addr) (cs : List Int32) (h0 : Heap) (Z0 : Ext Z.heap h0) (E_bb : Exa Z h0 bb "java/lang/StringBuilder") (F_bb_count : Fld Z h0 bb "java/lang/AbstractStringBuilder" "count" "I" (.int (Int32.ofNat cs.length))) :
    own_met l y_21 jdk_67_method_93_code 1 (some .int) ws ({ frames := 1, cells := 0, slots := 0, locals := 12 } : Room) Z #[(.ref bb)] h0 (Qrm282 Z bb cs h0) := by
  refine own_start (plainFor_of_name pn_5) (fun m => ef_jdk_67_method_93_R m bb) ?_
  intro p e s m below meth c s₁ hx hby hml hown hnm X0 hZ e0 hret hlk
  have N0 := Fr.nil Z.heap.size
  obtain ⟨_, T285, Lc285, X285, hQ285, st285⟩ := own_super (y := y_20) X0 hx hZ hown (own_w hw 144 rfl) (own_same (own_w hw 140 rfl) (own_w hw 60 rfl) rfl (by decide)) (own_w hw 140 rfl) (own_w hw 48 rfl) (own_w hw 31 rfl) (own_w hw 145 rfl) (rm283 l Z a0 hw [] bb cs h0 Z0 F_bb_count) e0 (Ins.self E_bb) (g := (mkF m 1 #[rv bb] [(.ref bb)])) (argsL := []) (rest := []) (W := 0) (lenOf pd_9 rfl) (hb hby d23_1) hml
  obtain ⟨rfl, N285q, e285⟩ := hQ285
  have N285 := Fr.app N0 N285q
  obtain ⟨fs, hr, hrun, hended, hW, hsame⟩ := X285.leave (v := some (.int (Int32.ofNat cs.length))) (fun h => by rw [hret] at h; cases h) hlk
  refine ⟨_, _, ?_, hrun, hended, _, _, rfl, ?_, ⟨_, rfl⟩, hW, hsame.mono (by decide) (by decide)⟩
  · show own_S p e below s₁ (mkF m 0 #[rv bb] []) _
    refine own_aN X0 hx hby d23_0 ?_
    refine st285 _ ?_
    exact retI X285 hx hret (hb hby d23_4) hr
  · show Qrm282 Z bb cs h0 _ T285.heap _
    rw [e285]
    exact ⟨rfl, N285, rfl⟩
def Qrm292 (Z : State) (cs : List Int32) (h0 : Heap) (v : Option Value) (h : Heap) (L : List Loc) : Prop := v = none ∧ Fr Z.heap.size L ∧ h = h0
theorem rm292 (l : Launch) (Z : State) (a0 : Array Value) (hw : own_HW Z a0) (ws : List Jvm.Cond) (cs : List Int32) (h0 : Heap) (Z0 : Ext Z.heap h0) (hc74 : cs.length < 34) :
    own_met l y_22 jdk_65_method_131_code 2 none ws ({ frames := 0, cells := 0, slots := 0, locals := 0 } : Room) Z #[(.int (0 : Int32)), (.int (Int32.ofNat cs.length))] h0 (Qrm292 Z cs h0) := by
  refine own_start (plainFor_of_name pn_4) (fun m => ef_jdk_65_method_131_II m (0 : Int32) (Int32.ofNat cs.length)) ?_
  intro p e s m below meth c s₁ hx hby hml hown hnm X0 hZ e0 hret hlk
  have N0 := Fr.nil Z.heap.size
  obtain ⟨fs, hr, hrun, hended, hW, hsame⟩ := X0.leave (v := none) (fun _ => rfl) hlk
  refine ⟨_, _, ?_, hrun, hended, _, _, rfl, ?_, ⟨_, rfl⟩, hW, hsame.mono (by decide) (by decide)⟩
  · show own_S p e below s₁ (mkF m 0 #[iv (0 : Int32), iv (Int32.ofNat cs.length)] []) _
    refine own_iN X0 hx hby d27_0 ?_
    refine own_iN X0 hx hby d27_1 ?_
    refine own_cy (pc := 2) X0 hx hby d27_2 (flt (own_cl_nn hc74 (by decide))).2.1 37 ?_
    exact X0.returnOut hx hret (hb hby d27_37) hr
  · show Qrm292 Z cs h0 _ s₁.heap _
    rw [e0]
    exact ⟨rfl, N0, rfl⟩
def Qrm296 (Z : State) (cs : List Int32) (h0 : Heap) (v : Option Value) (h : Heap) (L : List Loc) : Prop := v = some (.int (Int32.ofNat cs.length)) ∧ Fr Z.heap.size L ∧ h = h0
theorem rm296 (l : Launch) (Z : State) (a0 : Array Value) (hw : own_HW Z a0) (ws : List Jvm.Cond) (cs : List Int32) (h0 : Heap) (Z0 : Ext Z.heap h0) (hc74 : cs.length < 34) :
    own_met l y_7 jdk_29_method_69_code 2 (some .int) ws ({ frames := 0, cells := 0, slots := 0, locals := 0 } : Room) Z #[(.int (34 : Int32)), (.int (Int32.ofNat cs.length))] h0 (Qrm296 Z cs h0) := by
  refine own_start pf_1 (fun m => ef_jdk_29_method_69_II m (34 : Int32) (Int32.ofNat cs.length)) ?_
  intro p e s m below meth c s₁ hx hby hml hown hnm X0 hZ e0 hret hlk
  have N0 := Fr.nil Z.heap.size
  obtain ⟨fs, hr, hrun, hended, hW, hsame⟩ := X0.leave (v := some (.int (Int32.ofNat cs.length))) (fun h => by rw [hret] at h; cases h) hlk
  refine ⟨_, _, ?_, hrun, hended, _, _, rfl, ?_, ⟨_, rfl⟩, hW, hsame.mono (by decide) (by decide)⟩
  · show own_S p e below s₁ (mkF m 0 #[iv (34 : Int32), iv (Int32.ofNat cs.length)] []) _
    refine own_iN X0 hx hby d28_0 ?_
    refine own_iN X0 hx hby d28_1 ?_
    refine own_cy (pc := 2) X0 hx hby d28_2 (tlt (own_cl_lt hc74 (by decide) rfl)).2.2.1 9 ?_
    refine own_iN X0 hx hby d28_9 ?_
    exact retI X0 hx hret (hb hby d28_10) hr
  · show Qrm296 Z cs h0 _ s₁.heap _
    rw [e0]
    exact ⟨rfl, N0, rfl⟩
def Qrm291 (Z : State) (ba : Addr) (kv : ClassId) (cs : List Int32) (h0 : Heap) (v : Option Value) (h : Heap) (L : List Loc) : Prop := ∃ b294 : Addr, ∃ k294 : ClassId, v = some (.ref b294) ∧ Fr Z.heap.size L ∧ Keep h0 h [] ∧ h0.size ≤ b294 ∧ Arv Z h b294 k294 .byte (Int32.ofNat cs.length) (own_ch cs) (.int (0 : Int32))
theorem rm291 (l : Launch) (Z : State) (a0 : Array Value) (hw : own_HW Z a0) (ws : List Jvm.Cond) (ba : Addr) (kv : ClassId) (cs : List Int32) (h0 : Heap) (Z0 : Ext Z.heap h0) (V_ba : Arv Z h0 ba kv .byte (34 : Int32) (own_buf 34 cs) (.int (0 : Int32))) (hc74 : cs.length < 34) :
    own_met l y_23 jdk_65_method_133_code 5 (some (.array .byte)) ws ({ frames := 1, cells := 1, slots := 34, locals := 18 } : Room) Z #[(.ref ba), (.int (0 : Int32)), (.int (Int32.ofNat cs.length))] h0 (Qrm291 Z ba kv cs h0) := by
  refine own_start (plainFor_of_name pn_4) (fun m => ef_jdk_65_method_133_RII m ba (0 : Int32) (Int32.ofNat cs.length)) ?_
  intro p e s m below meth c s₁ hx hby hml hown hnm X0 hZ e0 hret hlk
  have N0 := Fr.nil Z.heap.size
  obtain ⟨_, T293, Lc293, X293, hQ293, st293⟩ := own_static (y := y_22) X0 hx hZ hown (own_w hw 154 rfl) (own_w hw 155 rfl) (own_w hw 149 rfl) (own_w hw 156 rfl) (rm292 l Z a0 hw [] cs h0 Z0 hc74) e0 (g := (mkF m 2 #[rv ba, iv (0 : Int32), iv (Int32.ofNat cs.length), .unset, .unset] [(.int (Int32.ofNat cs.length)), (.int (0 : Int32))])) (argsL := [(.int (0 : Int32)), (.int (Int32.ofNat cs.length))]) (rest := []) (W := 0) (lenOf pd_15 rfl) (hb hby d26_2) hml
  obtain ⟨rfl, N293q, e293⟩ := hQ293
  have N293 := Fr.app N0 N293q
  obtain ⟨T294, h294, k294, X294, e294, E294, A294, st294⟩ := newP X293 hx hZ (own_w hw 36 rfl) e293 (g := (mkF m 10 #[rv ba, iv (0 : Int32), iv (Int32.ofNat cs.length), iv (Int32.ofNat cs.length), .unset] [(.int (Int32.ofNat cs.length))])) rfl (hb hby d26_10) rfl (own_cl_nn hc74 (by decide)) (cap := 34) (own_cl_cap hc74 (by decide)) (by decide) (by decide) (by decide)
  obtain ⟨b294, g294⟩ : ∃ z, z = h0.size := ⟨_, rfl⟩
  rw [← g294] at A294 st294
  have g_b294 : Z.heap.size ≤ b294 := Nat.le_trans Z0.1 (Nat.le_of_eq g294.symm)
  have sz_b294 : h0.size ≤ b294 := Nat.le_trans (Keep.refl h0 []).1 (Nat.le_of_eq g294.symm)
  have V_b294 : Arv Z h294 b294 k294 .byte (Int32.ofNat cs.length) (List.replicate cs.length (.int (0 : Int32))) (.int (0 : Int32)) := (Arv.new A294 (own_cl_nn hc74 (by decide))).pad (pad_rep [] (.int (0 : Int32)) cs.length)
  have K294 : Keep h0 h294 [] := (Keep.refl h0 []).ext E294
  have XX294 : Ext Z.heap h294 := own_ext2 Z0 E294
  obtain ⟨cl295, Ar295, q295, S295, Nn295, H295, G295⟩ := id (V_ba.ext E294)
  obtain ⟨_, T297, Lc297, X297, hQ297, st297⟩ := own_static (y := y_7) X294 hx hZ hown (own_w hw 157 rfl) (own_w hw 158 rfl) (own_w hw 159 rfl) (own_w hw 160 rfl) (rm296 l Z a0 hw [] cs h294 XX294 hc74) e294 (g := (mkF m 24 #[rv ba, iv (0 : Int32), iv (Int32.ofNat cs.length), iv (Int32.ofNat cs.length), rv b294] [(.int (Int32.ofNat cs.length)), (.int (34 : Int32)), (.int (0 : Int32)), (.ref b294), (.int (0 : Int32)), (.ref ba)])) (argsL := [(.int (34 : Int32)), (.int (Int32.ofNat cs.length))]) (rest := [(.int (0 : Int32)), (.ref b294), (.int (0 : Int32)), (.ref ba)]) (W := 4) (lenOf pd_0 rfl) (hb hby d26_24) hml
  obtain ⟨rfl, N297q, e297⟩ := hQ297
  have N297 := Fr.app N293 N297q
  obtain ⟨T298, h298, L298, X298, e298, N298, K298q, V298, st298⟩ := own_cp X297 hx hZ hown (own_w hw 161 rfl) (own_w hw 118 rfl) (own_w hw 116 rfl) (own_w hw 117 rfl) e297 (V_ba.ext E294) V_b294 (own_cp_out (Nat.le_of_lt hc74) (by decide) (by decide)) N297 g_b294 (g := (mkF m 27 #[rv ba, iv (0 : Int32), iv (Int32.ofNat cs.length), iv (Int32.ofNat cs.length), rv b294] [(.int (Int32.ofNat cs.length)), (.int (0 : Int32)), (.ref b294), (.int (0 : Int32)), (.ref ba)])) (W := 0) (hb hby d26_27) hml
  have XX298 : Ext Z.heap h298 := own_extK XX294 K298q (allS g_b294 all0)
  have K298 : Keep h0 h298 [] := K294.trans K298q (allS (Or.inr sz_b294) all0)
  obtain ⟨fs, hr, hrun, hended, hW, hsame⟩ := X298.leave (v := some (.ref b294)) (fun h => by rw [hret] at h; cases h) hlk
  refine ⟨_, _, ?_, hrun, hended, _, _, rfl, ?_, ⟨_, rfl⟩, hW, hsame.mono (by decide) (by decide)⟩
  · show own_S p e below s₁ (mkF m 0 #[rv ba, iv (0 : Int32), iv (Int32.ofNat cs.length), .unset, .unset] []) _
    refine own_iN X0 hx hby d26_0 ?_
    refine own_iN X0 hx hby d26_1 ?_
    refine st293 _ ?_
    refine own_iN X293 hx hby d26_5 ?_
    refine own_iN X293 hx hby d26_6 ?_
    refine XS.isub X293.here hx rfl (hb hby d26_7) rfl ?_
    show own_S p e below T293 (mkF m 8 #[rv ba, iv (0 : Int32), iv (Int32.ofNat cs.length), .unset, .unset] [(.int ((Int32.ofNat cs.length) - (0 : Int32)))]) _
    rw [(own_sub0 _)]
    refine XS.istoreN X293.here hx rfl (hb hby d26_8) rfl (l' := #[rv ba, iv (0 : Int32), iv (Int32.ofNat cs.length), iv (Int32.ofNat cs.length), .unset]) rfl ?_
    refine own_iN X293 hx hby d26_9 ?_
    refine st294 _ ?_
    refine XS.astore X294.here hx rfl (hb hby d26_12) rfl rfl (l' := #[rv ba, iv (0 : Int32), iv (Int32.ofNat cs.length), iv (Int32.ofNat cs.length), rv b294]) rfl ?_
    refine own_aN X294 hx hby d26_14 ?_
    refine own_iN X294 hx hby d26_15 ?_
    refine own_a X294 hx hby d26_16 ?_
    refine own_k X294 hx hby d26_18 ?_
    refine own_aN X294 hx hby d26_19 ?_
    refine X294.arraylength hx (by rw [e294]; exact Ar295.1) (State.isArrayOf_alike hZ.alike Ar295.2.1) (g := (mkF m 20 #[rv ba, iv (0 : Int32), iv (Int32.ofNat cs.length), iv (Int32.ofNat cs.length), rv b294] [(.ref ba), (.int (0 : Int32)), (.ref b294), (.int (0 : Int32)), (.ref ba)])) rfl rfl (hb hby d26_20) _ ?_
    rw [len_of S295 Nn295]
    refine own_iN X294 hx hby d26_21 ?_
    refine XS.isub X294.here hx rfl (hb hby d26_22) rfl ?_
    show own_S p e below T294 (mkF m 23 #[rv ba, iv (0 : Int32), iv (Int32.ofNat cs.length), iv (Int32.ofNat cs.length), rv b294] [(.int ((34 : Int32) - (0 : Int32))), (.int (0 : Int32)), (.ref b294), (.int (0 : Int32)), (.ref ba)]) _
    rw [(by decide : ((34 : Int32) - (0 : Int32)) = (34 : Int32))]
    refine own_iN X294 hx hby d26_23 ?_
    refine st297 _ ?_
    refine st298 _ ?_
    refine own_a X298 hx hby d26_30 ?_
    jvm_step X298.here [X298.here.top, hx, (hb hby d26_32), X298.method', hret, Value.isRef, FieldType.isReference]
    first | (intro acts; rw [hr _ acts rfl rfl rfl]) | rw [hr _ _ rfl rfl rfl]
    exact Steps.refl _
  · show Qrm291 Z ba kv cs h0 _ T298.heap _
    rw [e298]
    exact ⟨b294, k294, rfl, N298, K298, sz_b294, V298⟩
def Qrm289 (Z : State) (ba : Addr) (kv : ClassId) (cs : List Int32) (h0 : Heap) (v : Option Value) (h : Heap) (L : List Loc) : Prop := ∃ b300 : Addr, ∃ k301 : ClassId, v = some (.ref b300) ∧ Fr Z.heap.size L ∧ Keep h0 h [] ∧ h0.size ≤ b300 ∧ Arv Z h b300 k301 .byte (Int32.ofNat cs.length) (own_ch cs) (.int (0 : Int32))
theorem rm289 (l : Launch) (Z : State) (a0 : Array Value) (hw : own_HW Z a0) (ws : List Jvm.Cond) (ba : Addr) (kv : ClassId) (cs : List Int32) (h0 : Heap) (Z0 : Ext Z.heap h0) (V_ba : Arv Z h0 ba kv .byte (34 : Int32) (own_buf 34 cs) (.int (0 : Int32))) (hc74 : cs.length < 34) :
    own_met l y_24 jdk_65_method_132_code 3 (some (.array .byte)) ws ({ frames := 2, cells := 1, slots := 34, locals := 34 } : Room) Z #[(.ref ba), (.int (0 : Int32)), (.int (Int32.ofNat cs.length))] h0 (Qrm289 Z ba kv cs h0) := by
  refine own_start (plainFor_of_name pn_4) (fun m => ef_jdk_65_method_132_RII m ba (0 : Int32) (Int32.ofNat cs.length)) ?_
  intro p e s m below meth c s₁ hx hby hml hown hnm X0 hZ e0 hret hlk
  have N0 := Fr.nil Z.heap.size
  obtain ⟨cl290, Ar290, q290, S290, Nn290, H290, G290⟩ := id V_ba
  obtain ⟨_, T299, Lc299, X299, hQ299, st299⟩ := own_static (y := y_23) X0 hx hZ hown (own_w hw 151 rfl) (own_w hw 152 rfl) (own_w hw 149 rfl) (own_w hw 153 rfl) (rm291 l Z a0 hw [] ba kv cs h0 Z0 V_ba hc74) e0 (g := (mkF m 13 #[rv ba, iv (0 : Int32), iv (Int32.ofNat cs.length)] [(.int (Int32.ofNat cs.length)), (.int (0 : Int32)), (.ref ba)])) (argsL := [(.ref ba), (.int (0 : Int32)), (.int (Int32.ofNat cs.length))]) (rest := []) (W := 0) (lenOf pd_16 rfl) (hb hby d25_13) hml
  obtain ⟨b300, k301, rfl, N299q, K299q, szn_b300, q299_V_b300⟩ := hQ299
  have g_b300 : Z.heap.size ≤ b300 := Nat.le_trans Z0.1 szn_b300
  have sz_b300 : h0.size ≤ b300 := Nat.le_trans (Keep.refl h0 []).1 szn_b300
  have K299 : Keep h0 T299.heap [] := (Keep.refl h0 []).trans K299q all0
  have XX299 : Ext Z.heap T299.heap := own_extK Z0 K299q all0
  have N299 := Fr.app N0 N299q
  obtain ⟨fs, hr, hrun, hended, hW, hsame⟩ := X299.leave (v := some (.ref b300)) (fun h => by rw [hret] at h; cases h) hlk
  refine ⟨_, _, ?_, hrun, hended, _, _, rfl, ?_, ⟨_, rfl⟩, hW, hsame.mono (by decide) (by decide)⟩
  · show own_S p e below s₁ (mkF m 0 #[rv ba, iv (0 : Int32), iv (Int32.ofNat cs.length)] []) _
    refine own_iN X0 hx hby d25_0 ?_
    refine own_in X0 hx hby d25_1 (teq (rfl : (0 : Int32) = (0 : Int32))).2 ?_
    refine own_iN X0 hx hby d25_4 ?_
    refine own_aN X0 hx hby d25_5 ?_
    refine X0.arraylength hx (by rw [e0]; exact Ar290.1) (State.isArrayOf_alike hZ.alike Ar290.2.1) (g := (mkF m 6 #[rv ba, iv (0 : Int32), iv (Int32.ofNat cs.length)] [(.ref ba), (.int (Int32.ofNat cs.length))])) rfl rfl (hb hby d25_6) _ ?_
    rw [len_of S290 Nn290]
    refine own_cn X0 hx hby d25_7 (feq (own_cl_ne hc74 (by decide) rfl)).1 ?_
    refine own_aN X0 hx hby d25_10 ?_
    refine own_iN X0 hx hby d25_11 ?_
    refine own_iN X0 hx hby d25_12 ?_
    refine st299 _ ?_
    jvm_step X299.here [X299.here.top, hx, (hb hby d25_16), X299.method', hret, Value.isRef, FieldType.isReference]
    first | (intro acts; rw [hr _ acts rfl rfl rfl]) | rw [hr _ _ rfl rfl rfl]
    exact Steps.refl _
  · show Qrm289 Z ba kv cs h0 _ T299.heap _
    exact ⟨b300, k301, rfl, N299, K299, sz_b300, q299_V_b300⟩
def Qrm277 (Z : State) (w_CS : Int32) (bb ba : Addr) (kv : ClassId) (cs : List Int32) (b275 : Addr) (h0 : Heap) (v : Option Value) (h : Heap) (L : List Loc) : Prop := ∃ b303 : Addr, ∃ k304 : ClassId, v = none ∧ Fr Z.heap.size L ∧ Keep h0 h [b275] ∧ h0.size ≤ b303 ∧ Exa Z h b275 "java/lang/String" ∧ Fld Z h b275 "java/lang/String" "coder" "B" (.int (0 : Int32)) ∧ Fld Z h b275 "java/lang/String" "value" "[B" (.ref b303) ∧ Arv Z h b303 k304 .byte (Int32.ofNat cs.length) (own_ch cs) (.int (0 : Int32))
theorem rm277 (l : Launch) (Z : State) (a0 : Array Value) (hw : own_HW Z a0) (ws : List Jvm.Cond) (w_CS : Int32) (bb ba : Addr) (kv : ClassId) (cs : List Int32) (b275 : Addr) (h0 : Heap) (Z0 : Ext Z.heap h0) (S_w_CS : own_w_CS Z w_CS) (E_b275 : Exa Z h0 b275 "java/lang/String") (F_b275_coder : Fld Z h0 b275 "java/lang/String" "coder" "B" (.int (0 : Int32))) (F_b275_value : Fld Z h0 b275 "java/lang/String" "value" "[B" .null) (E_bb : Exa Z h0 bb "java/lang/StringBuilder") (F_bb_coder : Fld Z h0 bb "java/lang/AbstractStringBuilder" "coder" "B" (.int (0 : Int32))) (F_bb_count : Fld Z h0 bb "java/lang/AbstractStringBuilder" "count" "I" (.int (Int32.ofNat cs.length))) (F_bb_value : Fld Z h0 bb "java/lang/AbstractStringBuilder" "value" "[B" (.ref ba)) (V_ba : Arv Z h0 ba kv .byte (34 : Int32) (own_buf 34 cs) (.int (0 : Int32))) (g_b275 : Z.heap.size ≤ b275) (hc1 : ¬ (w_CS = (0 : Int32))) (hc75 : ba ≠ b275) (hc74 : cs.length < 34) :
    own_met l y_25 jdk_42_method_150_code 5 none ws ({ frames := 3, cells := 1, slots := 34, locals := 49 } : Room) Z #[(.ref b275), (.ref bb), .null] h0 (Qrm277 Z w_CS bb ba kv cs b275 h0) := by
  refine own_start (plainFor_of_name pn_6) (fun m => ef_jdk_42_method_150_RRn m b275 bb) ?_
  intro p e s m below meth c s₁ hx hby hml hown hnm X0 hZ e0 hret hlk
  have N0 := Fr.nil Z.heap.size
  obtain ⟨T278, X278, e278, st278⟩ := initO X0 hx hZ hown (own_w hw 132 rfl) (own_w hw 8 rfl) (own_w hw 9 rfl) e0 (g := (mkF m 1 #[rv b275, rv bb, .val .null, .unset, .unset] [(.ref b275)])) rfl (by rw [hml]; rfl) rfl (hb hby d21_1) (by decide) (W := 0) (by show 2 * 0 + _ ≤ _; exact Nat.le_of_eq rfl) (by decide)
  obtain ⟨_, T281, Lc281, X281, hQ281, st281⟩ := own_virtual (y := y_19) X278 hx hZ hown (own_w hw 133 rfl) (own_w hw 134 rfl) (own_w hw 136 rfl) (own_w hw 135 rfl) (own_w hw 31 rfl) (own_w hw 137 rfl) (rm279 l Z a0 hw [] bb ba h0 Z0 F_bb_value) e278 E_bb (g := (mkF m 5 #[rv b275, rv bb, .val .null, .unset, .unset] [(.ref bb)])) (argsL := []) (rest := []) (W := 0) (lenOf pd_14 rfl) (hb hby d21_5) hml
  obtain ⟨rfl, N281q, e281⟩ := hQ281
  have N281 := Fr.app N0 N281q
  obtain ⟨_, T286, Lc286, X286, hQ286, st286⟩ := own_virtualO (z := y_20) (y := y_21) X281 hx hZ hown (own_w hw 138 rfl) (own_w hw 139 rfl) (own_w hw 60 rfl) rfl (own_w hw 141 rfl) (own_w hw 142 rfl) (own_w hw 23 rfl) (own_w hw 143 rfl) (rm282 l Z a0 hw [] bb cs h0 Z0 E_bb F_bb_count) e281 E_bb (g := (mkF m 10 #[rv b275, rv bb, .val .null, rv ba, .unset] [(.ref bb)])) (argsL := []) (rest := []) (W := 0) (lenOf pd_9 rfl) (hb hby d21_10) hml
  obtain ⟨rfl, N286q, e286⟩ := hQ286
  have N286 := Fr.app N281 N286q
  obtain ⟨_, T287, Lc287, X287, hQ287, st287⟩ := own_virtual (y := y_9) X286 hx hZ hown (own_w hw 146 rfl) (own_w hw 63 rfl) (own_w hw 65 rfl) (own_w hw 64 rfl) (own_w hw 31 rfl) (own_w hw 66 rfl) (rm110 l Z a0 hw [] w_CS bb h0 Z0 S_w_CS F_bb_coder hc1) e286 E_bb (g := (mkF m 16 #[rv b275, rv bb, .val .null, rv ba, iv (Int32.ofNat cs.length)] [(.ref bb)])) (argsL := []) (rest := []) (W := 0) (lenOf pd_5 rfl) (hb hby d21_16) hml
  obtain ⟨rfl, N287q, e287⟩ := hQ287
  have N287 := Fr.app N286 N287q
  obtain ⟨T288, h288, X288, e288, W288, st288⟩ := putFN X287 hx hZ hown (own_w hw 98 rfl) Via.refl e287 F_b275_coder E_b275 (Or.inr ⟨(own_w hw 74 rfl), rfl, hnm⟩) (own_w hw 72 rfl) (ty := .byte) (v' := (.int (0 : Int32))) (by decide) rfl (by decide) (g := (mkF m 24 #[rv b275, rv bb, .val .null, rv ba, iv (Int32.ofNat cs.length)] [(.int (0 : Int32)), (.ref b275)])) rfl rfl (hb hby d21_24)
  have K288 : Keep h0 h288 [b275] := (Keep.refl h0 [b275]).wr W288 (Or.inl (List.mem_of_getElem? (i := 0) rfl))
  have XX288 : Ext Z.heap h288 := own_extW Z0 W288 g_b275
  have N288 := Fr.snoc X288 N287 g_b275
  obtain ⟨_, T302, Lc302, X302, hQ302, st302⟩ := own_static (y := y_24) X288 hx hZ hown (own_w hw 147 rfl) (own_w hw 148 rfl) (own_w hw 149 rfl) (own_w hw 150 rfl) (rm289 l Z a0 hw [] ba kv cs h288 XX288 (V_ba.other W288 hc75) hc74) e288 (g := (mkF m 32 #[rv b275, rv bb, .val .null, rv ba, iv (Int32.ofNat cs.length)] [(.int (Int32.ofNat cs.length)), (.int (0 : Int32)), (.ref ba), (.ref b275)])) (argsL := [(.ref ba), (.int (0 : Int32)), (.int (Int32.ofNat cs.length))]) (rest := [(.ref b275)]) (W := 1) (lenOf pd_16 rfl) (hb hby d21_32) hml
  obtain ⟨b303, k304, rfl, N302q, K302q, szn_b303, q302_V_b303⟩ := hQ302
  have g_b303 : Z.heap.size ≤ b303 := Nat.le_trans XX288.1 szn_b303
  have sz_b303 : h0.size ≤ b303 := Nat.le_trans K288.1 szn_b303
  have K302 : Keep h0 T302.heap [b275] := K288.trans K302q all0
  have XX302 : Ext Z.heap T302.heap := own_extK XX288 K302q all0
  have N302 := Fr.app N288 N302q
  have f305_F_b275_value : Fld Z T302.heap b275 "java/lang/String" "value" "[B" .null := ((F_b275_value.other W288 (Or.inr (slot_ne (Or.inr (own_w hw 73 rfl)) (Or.inr (own_w hw 74 rfl)) (by decide) (t := (.array .byte)) (t' := .byte) (by decide) (by decide)))).keep K302q nin0)
  obtain ⟨T306, h306, X306, e306, W306, st306⟩ := putF X302 hx hZ hown (host := "") (Or.inl (own_w hw 91 rfl)) Via.refl rfl f305_F_b275_value ((E_b275.wr W288).keep K302q) (Or.inr ⟨(own_w hw 73 rfl), rfl, hnm⟩) (own_w hw 72 rfl) (ty := (.array .byte)) (by decide) rfl rfl (g := (mkF m 35 #[rv b275, rv bb, .val .null, rv ba, iv (Int32.ofNat cs.length)] [(.ref b303), (.ref b275)])) rfl rfl (hb hby d21_35)
  have K306 : Keep h0 h306 [b275] := K302.wr W306 (Or.inl (List.mem_of_getElem? (i := 0) rfl))
  have XX306 : Ext Z.heap h306 := own_extW XX302 W306 g_b275
  have N306 := Fr.snoc X306 N302 g_b275
  have f307_F_b275_coder : Fld Z h306 b275 "java/lang/String" "coder" "B" (.int (0 : Int32)) := (((F_b275_coder.same W288).keep K302q nin0).other W306 (Or.inr (slot_ne (Or.inr (own_w hw 74 rfl)) (Or.inr (own_w hw 73 rfl)) (by decide) (t := .byte) (t' := (.array .byte)) (by decide) (by decide))))
  have ne_b275_b303 : b275 ≠ b303 := Nat.ne_of_lt (Nat.lt_of_lt_of_le (E_b275.wr W288).lt szn_b303)
  obtain ⟨fs, hr, hrun, hended, hW, hsame⟩ := X306.leave (v := none) (fun _ => rfl) hlk
  refine ⟨_, _, ?_, hrun, hended, _, _, rfl, ?_, ⟨_, rfl⟩, hW, hsame.mono (by decide) (by decide)⟩
  · show own_S p e below s₁ (mkF m 0 #[rv b275, rv bb, .val .null, .unset, .unset] []) _
    refine own_aN X0 hx hby d21_0 ?_
    refine st278 _ ?_
    refine own_aN X278 hx hby d21_4 ?_
    refine st281 _ ?_
    refine XS.astoreN X281.here hx rfl (hb hby d21_8) rfl rfl (l' := #[rv b275, rv bb, .val .null, rv ba, .unset]) rfl ?_
    refine own_aN X281 hx hby d21_9 ?_
    refine st286 _ ?_
    refine XS.istore X286.here hx rfl (hb hby d21_13) rfl (l' := #[rv b275, rv bb, .val .null, rv ba, iv (Int32.ofNat cs.length)]) rfl ?_
    refine own_aN X286 hx hby d21_15 ?_
    refine st287 _ ?_
    refine own_in X287 hx hby d21_19 (feq (by decide : ¬ ((1 : Int32) = (0 : Int32)))).1 ?_
    refine own_aN X287 hx hby d21_22 ?_
    refine own_k X287 hx hby d21_23 ?_
    refine st288 _ ?_
    refine own_aN X288 hx hby d21_27 ?_
    refine own_aN X288 hx hby d21_28 ?_
    refine own_k X288 hx hby d21_29 ?_
    refine own_i X288 hx hby d21_30 ?_
    refine st302 _ ?_
    refine st306 _ ?_
    refine own_go (pc := 38) X306 hx hby d21_38 97 ?_
    exact X306.returnOut hx hret (hb hby d21_97) hr
  · show Qrm277 Z w_CS bb ba kv cs b275 h0 _ T306.heap _
    rw [e306]
    exact ⟨b303, k304, rfl, N306, K306, sz_b303, (((E_b275.wr W288).keep K302q).wr W306), f307_F_b275_coder, (f305_F_b275_value.same W306), (q302_V_b303.other W306 (Ne.symm ne_b275_b303))⟩
def Qrm276 (Z : State) (w_CS : Int32) (bb ba : Addr) (kv : ClassId) (cs : List Int32) (b275 : Addr) (h0 : Heap) (v : Option Value) (h : Heap) (L : List Loc) : Prop := ∃ b309 : Addr, ∃ k310 : ClassId, v = none ∧ Fr Z.heap.size L ∧ Keep h0 h [b275] ∧ h0.size ≤ b309 ∧ Exa Z h b275 "java/lang/String" ∧ Fld Z h b275 "java/lang/String" "coder" "B" (.int (0 : Int32)) ∧ Fld Z h b275 "java/lang/String" "value" "[B" (.ref b309) ∧ Arv Z h b309 k310 .byte (Int32.ofNat cs.length) (own_ch cs) (.int (0 : Int32))
theorem rm276 (l : Launch) (Z : State) (a0 : Array Value) (hw : own_HW Z a0) (ws : List Jvm.Cond) (w_CS : Int32) (bb ba : Addr) (kv : ClassId) (cs : List Int32) (b275 : Addr) (h0 : Heap) (Z0 : Ext Z.heap h0) (S_w_CS : own_w_CS Z w_CS) (E_b275 : Exa Z h0 b275 "java/lang/String") (F_b275_coder : Fld Z h0 b275 "java/lang/String" "coder" "B" (.int (0 : Int32))) (F_b275_value : Fld Z h0 b275 "java/lang/String" "value" "[B" .null) (E_bb : Exa Z h0 bb "java/lang/StringBuilder") (F_bb_coder : Fld Z h0 bb "java/lang/AbstractStringBuilder" "coder" "B" (.int (0 : Int32))) (F_bb_count : Fld Z h0 bb "java/lang/AbstractStringBuilder" "count" "I" (.int (Int32.ofNat cs.length))) (F_bb_value : Fld Z h0 bb "java/lang/AbstractStringBuilder" "value" "[B" (.ref ba)) (V_ba : Arv Z h0 ba kv .byte (34 : Int32) (own_buf 34 cs) (.int (0 : Int32))) (g_b275 : Z.heap.size ≤ b275) (hc1 : ¬ (w_CS = (0 : Int32))) (hc75 : ba ≠ b275) (hc74 : cs.length < 34) :
    own_met l y_26 jdk_42_method_53_code 2 none ws ({ frames := 4, cells := 1, slots := 34, locals := 65 } : Room) Z #[(.ref b275), (.ref bb)] h0 (Qrm276 Z w_CS bb ba kv cs b275 h0) := by
  refine own_start (plainFor_of_name pn_6) (fun m => ef_jdk_42_method_53_RR m b275 bb) ?_
  intro p e s m below meth c s₁ hx hby hml hown hnm X0 hZ e0 hret hlk
  have N0 := Fr.nil Z.heap.size
  obtain ⟨_, T308, Lc308, X308, hQ308, st308⟩ := own_special (y := y_25) X0 hx hZ hown rfl (own_w hw 129 rfl) (own_w hw 130 rfl) (own_w hw 35 rfl) (own_w hw 131 rfl) (rm277 l Z a0 hw [] w_CS bb ba kv cs b275 h0 Z0 S_w_CS E_b275 F_b275_coder F_b275_value E_bb F_bb_coder F_bb_count F_bb_value V_ba g_b275 hc1 hc75 hc74) e0 b275 (g := (mkF m 3 #[rv b275, rv bb] [.null, (.ref bb), (.ref b275)])) (argsL := [(.ref bb), .null]) (rest := []) (W := 0) (lenOf pd_17 rfl) (hb hby d20_3) hml
  obtain ⟨b309, k310, rfl, N308q, K308q, szn_b309, q308_E_b275, q308_F_b275_coder, q308_F_b275_value, q308_V_b309⟩ := hQ308
  have g_b309 : Z.heap.size ≤ b309 := Nat.le_trans Z0.1 szn_b309
  have sz_b309 : h0.size ≤ b309 := Nat.le_trans (Keep.refl h0 [b275]).1 szn_b309
  have K308 : Keep h0 T308.heap [b275] := (Keep.refl h0 [b275]).trans K308q (allS (Or.inl (List.mem_of_getElem? (i := 0) rfl)) all0)
  have XX308 : Ext Z.heap T308.heap := own_extK Z0 K308q (allS g_b275 all0)
  have N308 := Fr.app N0 N308q
  obtain ⟨fs, hr, hrun, hended, hW, hsame⟩ := X308.leave (v := none) (fun _ => rfl) hlk
  refine ⟨_, _, ?_, hrun, hended, _, _, rfl, ?_, ⟨_, rfl⟩, hW, hsame.mono (by decide) (by decide)⟩
  · show own_S p e below s₁ (mkF m 0 #[rv b275, rv bb] []) _
    refine own_aN X0 hx hby d20_0 ?_
    refine own_aN X0 hx hby d20_1 ?_
    refine XS.aconstNull X0.here hx rfl (hb hby d20_2) ?_
    refine st308 _ ?_
    exact X308.returnOut hx hret (hb hby d20_6) hr
  · show Qrm276 Z w_CS bb ba kv cs b275 h0 _ T308.heap _
    exact ⟨b309, k310, rfl, N308, K308, sz_b309, q308_E_b275, q308_F_b275_coder, q308_F_b275_value, q308_V_b309⟩
def Qrm274 (Z : State) (w_CS : Int32) (bb ba : Addr) (kv : ClassId) (cs : List Int32) (h0 : Heap) (v : Option Value) (h : Heap) (L : List Loc) : Prop := ∃ b275 : Addr, ∃ b312 : Addr, ∃ k313 : ClassId, v = some (.ref b275) ∧ Fr Z.heap.size L ∧ Keep h0 h [] ∧ h0.size ≤ b275 ∧ h0.size ≤ b312 ∧ Exa Z h b275 "java/lang/String" ∧ Fld Z h b275 "java/lang/String" "value" "[B" (.ref b312) ∧ Fld Z h b275 "java/lang/String" "coder" "B" (.int (0 : Int32)) ∧ Arv Z h b312 k313 .byte (Int32.ofNat cs.length) (own_ch cs) (.int (0 : Int32))
theorem rm274 (l : Launch) (Z : State) (a0 : Array Value) (hw : own_HW Z a0) (ws : List Jvm.Cond) (w_CS : Int32) (bb ba : Addr) (kv : ClassId) (cs : List Int32) (h0 : Heap) (Z0 : Ext Z.heap h0) (S_w_CS : own_w_CS Z w_CS) (E_bb : Exa Z h0 bb "java/lang/StringBuilder") (F_bb_value : Fld Z h0 bb "java/lang/AbstractStringBuilder" "value" "[B" (.ref ba)) (F_bb_coder : Fld Z h0 bb "java/lang/AbstractStringBuilder" "coder" "B" (.int (0 : Int32))) (F_bb_count : Fld Z h0 bb "java/lang/AbstractStringBuilder" "count" "I" (.int (Int32.ofNat cs.length))) (V_ba : Arv Z h0 ba kv .byte (34 : Int32) (own_buf 34 cs) (.int (0 : Int32))) (hc1 : ¬ (w_CS = (0 : Int32))) (hc74 : cs.length < 34) :
    own_met l y_27 jdk_67_method_42_code 1 (some (.object "java/lang/String")) ws ({ frames := 5, cells := 2, slots := 38, locals := 79 } : Room) Z #[(.ref bb)] h0 (Qrm274 Z w_CS bb ba kv cs h0) := by
  refine own_start (plainFor_of_name pn_5) (fun m => ef_jdk_67_method_42_R m bb) ?_
  intro p e s m below meth c s₁ hx hby hml hown hnm X0 hZ e0 hret hlk
  have N0 := Fr.nil Z.heap.size
  obtain ⟨T275, h275, X275, e275, E275, A275, D275, -, st275⟩ := newO X0 hx hZ hown (own_w hw 124 rfl) (own_w hw 72 rfl) (own_w hw 35 rfl) e0 (g := (mkF m 0 #[rv bb] [])) rfl (hb hby d19_0) (by decide) (by decide)
  obtain ⟨b275, g275⟩ : ∃ z, z = h0.size := ⟨_, rfl⟩
  rw [← g275] at A275 D275 st275
  have g_b275 : Z.heap.size ≤ b275 := Nat.le_trans Z0.1 (Nat.le_of_eq g275.symm)
  have sz_b275 : h0.size ≤ b275 := Nat.le_trans (Keep.refl h0 []).1 (Nat.le_of_eq g275.symm)
  have F_b275_value : Fld Z h275 b275 "java/lang/String" "value" "[B" .null := D275 (Or.inr (own_w hw 73 rfl)) (ty := (.array .byte)) (by decide)
  have F_b275_coder : Fld Z h275 b275 "java/lang/String" "coder" "B" (.int (0 : Int32)) := D275 (Or.inr (own_w hw 74 rfl)) (ty := .byte) (by decide)
  have K275 : Keep h0 h275 [] := (Keep.refl h0 []).ext E275
  have XX275 : Ext Z.heap h275 := own_ext2 Z0 E275
  have ne_ba_b275 : ba ≠ b275 := Nat.ne_of_lt (Nat.lt_of_lt_of_le V_ba.lt (Nat.le_of_eq g275.symm))
  obtain ⟨_, T311, Lc311, X311, hQ311, st311⟩ := own_special (y := y_26) X275 hx hZ hown rfl (own_w hw 125 rfl) (own_w hw 126 rfl) (own_w hw 35 rfl) (own_w hw 128 rfl) (rm276 l Z a0 hw [] w_CS bb ba kv cs b275 h275 XX275 S_w_CS A275 F_b275_coder F_b275_value (E_bb.ext E275) (F_bb_coder.ext E275) (F_bb_count.ext E275) (F_bb_value.ext E275) (V_ba.ext E275) g_b275 hc1 ne_ba_b275 hc74) e275 b275 (g := (mkF m 5 #[rv bb] [(.ref bb), (.ref b275), (.ref b275)])) (argsL := [(.ref bb)]) (rest := [(.ref b275)]) (W := 1) (lenOf pd_18 rfl) (hb hby d19_5) hml
  obtain ⟨b312, k313, rfl, N311q, K311q, szn_b312, q311_E_b275, q311_F_b275_coder, q311_F_b275_value, q311_V_b312⟩ := hQ311
  have g_b312 : Z.heap.size ≤ b312 := Nat.le_trans XX275.1 szn_b312
  have sz_b312 : h0.size ≤ b312 := Nat.le_trans K275.1 szn_b312
  have K311 : Keep h0 T311.heap [] := K275.trans K311q (allS (Or.inr sz_b275) all0)
  have XX311 : Ext Z.heap T311.heap := own_extK XX275 K311q (allS g_b275 all0)
  have N311 := Fr.app N0 N311q
  obtain ⟨fs, hr, hrun, hended, hW, hsame⟩ := X311.leave (v := some (.ref b275)) (fun h => by rw [hret] at h; cases h) hlk
  refine ⟨_, _, ?_, hrun, hended, _, _, rfl, ?_, ⟨_, rfl⟩, hW, hsame.mono (by decide) (by decide)⟩
  · show own_S p e below s₁ (mkF m 0 #[rv bb] []) _
    refine st275 _ ?_
    refine XS.dup X275.here hx rfl (hb hby d19_3) rfl rfl ?_
    refine own_aN X275 hx hby d19_4 ?_
    refine st311 _ ?_
    jvm_step X311.here [X311.here.top, hx, (hb hby d19_8), X311.method', hret, Value.isRef, FieldType.isReference]
    first | (intro acts; rw [hr _ acts rfl rfl rfl]) | rw [hr _ _ rfl rfl rfl]
    exact Steps.refl _
  · show Qrm274 Z w_CS bb ba kv cs h0 _ T311.heap _
    exact ⟨b275, b312, k313, rfl, N311, K311, sz_b275, sz_b312, q311_E_b275, q311_F_b275_value, q311_F_b275_coder, q311_V_b312⟩
def Qrm319 (Z : State) (bb ba : Addr) (h0 : Heap) (v : Option Value) (h : Heap) (L : List Loc) : Prop := v = some (.ref ba) ∧ Fr Z.heap.size L ∧ h = h0
theorem rm319 (l : Launch) (Z : State) (a0 : Array Value) (hw : own_HW Z a0) (ws : List Jvm.Cond) (bb ba : Addr) (h0 : Heap) (Z0 : Ext Z.heap h0) (F_bb_value : Fld Z h0 bb "java/lang/AbstractStringBuilder" "value" "[B" (.ref ba)) :
    own_met l y_19 jdk_68_method_64_code 1 (some (.array .byte)) ws ({ frames := 0, cells := 0, slots := 0, locals := 0 } : Room) Z #[(.ref bb)] h0 (Qrm319 Z bb ba h0) := by
  refine own_start (plainFor_of_name pn_2) (fun m => ef_jdk_68_method_64_R m bb) ?_
  intro p e s m below meth c s₁ hx hby hml hown hnm X0 hZ e0 hret hlk
  have N0 := Fr.nil Z.heap.size
  obtain ⟨T320, X320, e320, st320⟩ := getF X0 hx hZ hown (host := "") (Or.inl (own_w hw 37 rfl)) Via.refl e0 F_bb_value (g := (mkF m 1 #[rv bb] [(.ref bb)])) rfl rfl (hb hby d22_1)
  obtain ⟨fs, hr, hrun, hended, hW, hsame⟩ := X320.leave (v := some (.ref ba)) (fun h => by rw [hret] at h; cases h) hlk
  refine ⟨_, _, ?_, hrun, hended, _, _, rfl, ?_, ⟨_, rfl⟩, hW, hsame.mono (by decide) (by decide)⟩
  · show own_S p e below s₁ (mkF m 0 #[rv bb] []) _
    refine own_aN X0 hx hby d22_0 ?_
    refine st320 _ ?_
    jvm_step X320.here [X320.here.top, hx, (hb hby d22_4), X320.method', hret, Value.isRef, FieldType.isReference]
    first | (intro acts; rw [hr _ acts rfl rfl rfl]) | rw [hr _ _ rfl rfl rfl]
    exact Steps.refl _
  · show Qrm319 Z bb ba h0 _ T320.heap _
    rw [e320]
    exact ⟨rfl, N0, rfl⟩
def Qrm323 (Z : State) (bb : Addr) (cs : List Int32) (h0 : Heap) (v : Option Value) (h : Heap) (L : List Loc) : Prop := v = some (.int (Int32.ofNat cs.length)) ∧ Fr Z.heap.size L ∧ h = h0
theorem rm323 (l : Launch) (Z : State) (a0 : Array Value) (hw : own_HW Z a0) (ws : List Jvm.Cond) (bb : Addr) (cs : List Int32) (h0 : Heap) (Z0 : Ext Z.heap h0) (F_bb_count : Fld Z h0 bb "java/lang/AbstractStringBuilder" "count" "I" (.int (Int32.ofNat cs.length))) :
    own_met l y_20 jdk_68_method_6_code 1 (some .int) ws ({ frames := 0, cells := 0, slots := 0, locals := 0 } : Room) Z #[(.ref bb)] h0 (Qrm323 Z bb cs h0) := by
  refine own_start (plainFor_of_name pn_2) (fun m => ef_jdk_68_method_6_R m bb) ?_
  intro p e s m below meth c s₁ hx hby hml hown hnm X0 hZ e0 hret hlk
  have N0 := Fr.nil Z.heap.size
  obtain ⟨T324, X324, e324, st324⟩ := getF X0 hx hZ hown (host := "") (Or.inl (own_w hw 51 rfl)) Via.refl e0 F_bb_count (g := (mkF m 1 #[rv bb] [(.ref bb)])) rfl rfl (hb hby d24_1)
  obtain ⟨fs, hr, hrun, hended, hW, hsame⟩ := X324.leave (v := some (.int (Int32.ofNat cs.length))) (fun h => by rw [hret] at h; cases h) hlk
  refine ⟨_, _, ?_, hrun, hended, _, _, rfl, ?_, ⟨_, rfl⟩, hW, hsame.mono (by decide) (by decide)⟩
  · show own_S p e below s₁ (mkF m 0 #[rv bb] []) _
    refine own_aN X0 hx hby d24_0 ?_
    refine st324 _ ?_
    exact retI X324 hx hret (hb hby d24_4) hr
  · show Qrm323 Z bb cs h0 _ T324.heap _
    rw [e324]
    exact ⟨rfl, N0, rfl⟩
def Qrm322 (Z : State) (bb : Addr) (cs : List Int32) (h0 : Heap) (v : Option Value) (h : Heap) (L : List Loc) : Prop := v = some (.int (Int32.ofNat cs.length)) ∧ Fr Z.heap.size L ∧ h = h0
theorem rm322 (l : Launch) (Z : State) (a0 : Array Value) (hw : own_HW Z a0) (ws : List Jvm.Cond) (bb : Addr) (cs : List Int32) (h0 : Heap) (Z0 : Ext Z.heap h0) (E_bb : Exa Z h0 bb "java/lang/StringBuilder") (F_bb_count : Fld Z h0 bb "java/lang/AbstractStringBuilder" "count" "I" (.int (Int32.ofNat cs.length))) :
    own_met l y_21 jdk_67_method_93_code 1 (some .int) ws ({ frames := 1, cells := 0, slots := 0, locals := 12 } : Room) Z #[(.ref bb)] h0 (Qrm322 Z bb cs h0) := by
  refine own_start (plainFor_of_name pn_5) (fun m => ef_jdk_67_method_93_R m bb) ?_
  intro p e s m below meth c s₁ hx hby hml hown hnm X0 hZ e0 hret hlk
  have N0 := Fr.nil Z.heap.size
  obtain ⟨_, T325, Lc325, X325, hQ325, st325⟩ := own_super (y := y_20) X0 hx hZ hown (own_w hw 144 rfl) (own_same (own_w hw 140 rfl) (own_w hw 60 rfl) rfl (by decide)) (own_w hw 140 rfl) (own_w hw 48 rfl) (own_w hw 31 rfl) (own_w hw 145 rfl) (rm323 l Z a0 hw [] bb cs h0 Z0 F_bb_count) e0 (Ins.self E_bb) (g := (mkF m 1 #[rv bb] [(.ref bb)])) (argsL := []) (rest := []) (W := 0) (lenOf pd_9 rfl) (hb hby d23_1) hml
  obtain ⟨rfl, N325q, e325⟩ := hQ325
  have N325 := Fr.app N0 N325q
  obtain ⟨fs, hr, hrun, hended, hW, hsame⟩ := X325.leave (v := some (.int (Int32.ofNat cs.length))) (fun h => by rw [hret] at h; cases h) hlk
  refine ⟨_, _, ?_, hrun, hended, _, _, rfl, ?_, ⟨_, rfl⟩, hW, hsame.mono (by decide) (by decide)⟩
  · show own_S p e below s₁ (mkF m 0 #[rv bb] []) _
    refine own_aN X0 hx hby d23_0 ?_
    refine st325 _ ?_
    exact retI X325 hx hret (hb hby d23_4) hr
  · show Qrm322 Z bb cs h0 _ T325.heap _
    rw [e325]
    exact ⟨rfl, N325, rfl⟩
def Qrm329 (Z : State) (ba : Addr) (kv : ClassId) (cs : List Int32) (h0 : Heap) (v : Option Value) (h : Heap) (L : List Loc) : Prop := ∃ b331 : Addr, v = some (.ref b331) ∧ Fr Z.heap.size L ∧ Keep h0 h [] ∧ h0.size ≤ b331 ∧ Arv Z h b331 kv .byte (Int32.ofNat cs.length) (own_ch cs) (.int (0 : Int32)) ∧ Exa Z h b331 "[B"
theorem rm329 (l : Launch) (Z : State) (a0 : Array Value) (hw : own_HW Z a0) (ws : List Jvm.Cond) (ba : Addr) (kv : ClassId) (cs : List Int32) (h0 : Heap) (Z0 : Ext Z.heap h0) (E_ba : Exa Z h0 ba "[B") (V_ba : Arv Z h0 ba kv .byte (16 : Int32) (own_buf 16 cs) (.int (0 : Int32))) (hc76 : (Int32.ofNat cs.length) = (16 : Int32)) (hc77 : cs.length = 16) :
    own_met l y_24 jdk_65_method_132_code 3 (some (.array .byte)) ws ({ frames := 1, cells := 1, slots := 16, locals := 14 } : Room) Z #[(.ref ba), (.int (0 : Int32)), (.int (Int32.ofNat cs.length))] h0 (Qrm329 Z ba kv cs h0) := by
  refine own_start (plainFor_of_name pn_4) (fun m => ef_jdk_65_method_132_RII m ba (0 : Int32) (Int32.ofNat cs.length)) ?_
  intro p e s m below meth c s₁ hx hby hml hown hnm X0 hZ e0 hret hlk
  have N0 := Fr.nil Z.heap.size
  obtain ⟨cl330, Ar330, q330, S330, Nn330, H330, G330⟩ := id V_ba
  obtain ⟨T331, h331, X331, e331, E331, V331, EX331, st331⟩ := cloneH X0 hx hZ hown (own_w hw 219 rfl) (own_w hw 220 rfl) (own_w hw 224 rfl) (own_w hw 222 rfl) (own_w hw 223 rfl) (own_w hw 225 rfl) e0 (Arv.arh V_ba) E_ba (g := (mkF m 18 #[rv ba, iv (0 : Int32), iv (Int32.ofNat cs.length)] [(.ref ba)])) rfl (by rw [hml]; rfl) rfl (hb hby d25_18) (by decide) (W := 0) (by show 2 * 0 + _ ≤ _; exact Nat.le_of_eq rfl) (by decide) (cap := 16) (by decide) (by decide) (by decide)
  obtain ⟨b331, g331⟩ : ∃ z, z = h0.size := ⟨_, rfl⟩
  rw [← g331] at V331 EX331 st331
  have g_b331 : Z.heap.size ≤ b331 := Nat.le_trans Z0.1 (Nat.le_of_eq g331.symm)
  have sz_b331 : h0.size ≤ b331 := Nat.le_trans (Keep.refl h0 []).1 (Nat.le_of_eq g331.symm)
  have V_b331 : Arv Z h331 b331 kv .byte (Int32.ofNat cs.length) (own_ch cs) (.int (0 : Int32)) := own_full hc77 V331
  have K331 : Keep h0 h331 [] := (Keep.refl h0 []).ext E331
  have XX331 : Ext Z.heap h331 := own_ext2 Z0 E331
  obtain ⟨T332, X332, e332, st332⟩ := castY X331 hx hZ hown (own_w hw 226 rfl) e331 (Ins.self EX331) (g := (mkF m 21 #[rv ba, iv (0 : Int32), iv (Int32.ofNat cs.length)] [(.ref b331)])) rfl rfl (hb hby d25_21)
  obtain ⟨fs, hr, hrun, hended, hW, hsame⟩ := X332.leave (v := some (.ref b331)) (fun h => by rw [hret] at h; cases h) hlk
  refine ⟨_, _, ?_, hrun, hended, _, _, rfl, ?_, ⟨_, rfl⟩, hW, hsame.mono (by decide) (by decide)⟩
  · show own_S p e below s₁ (mkF m 0 #[rv ba, iv (0 : Int32), iv (Int32.ofNat cs.length)] []) _
    refine own_iN X0 hx hby d25_0 ?_
    refine own_in X0 hx hby d25_1 (teq (rfl : (0 : Int32) = (0 : Int32))).2 ?_
    refine own_iN X0 hx hby d25_4 ?_
    refine own_aN X0 hx hby d25_5 ?_
    refine X0.arraylength hx (by rw [e0]; exact Ar330.1) (State.isArrayOf_alike hZ.alike Ar330.2.1) (g := (mkF m 6 #[rv ba, iv (0 : Int32), iv (Int32.ofNat cs.length)] [(.ref ba), (.int (Int32.ofNat cs.length))])) rfl rfl (hb hby d25_6) _ ?_
    rw [len_of S330 Nn330]
    refine own_cy (pc := 7) X0 hx hby d25_7 (teq hc76).1 17 ?_
    refine own_aN X0 hx hby d25_17 ?_
    refine st331 _ ?_
    refine st332 _ ?_
    jvm_step X332.here [X332.here.top, hx, (hb hby d25_24), X332.method', hret, Value.isRef, FieldType.isReference]
    first | (intro acts; rw [hr _ acts rfl rfl rfl]) | rw [hr _ _ rfl rfl rfl]
    exact Steps.refl _
  · show Qrm329 Z ba kv cs h0 _ T332.heap _
    rw [e332]
    exact ⟨b331, rfl, N0, K331, sz_b331, V_b331, EX331⟩
def Qrm317 (Z : State) (w_CS : Int32) (bb ba : Addr) (kv : ClassId) (cs : List Int32) (b315 : Addr) (h0 : Heap) (v : Option Value) (h : Heap) (L : List Loc) : Prop := ∃ b334 : Addr, v = none ∧ Fr Z.heap.size L ∧ Keep h0 h [b315] ∧ h0.size ≤ b334 ∧ Exa Z h b315 "java/lang/String" ∧ Fld Z h b315 "java/lang/String" "coder" "B" (.int (0 : Int32)) ∧ Fld Z h b315 "java/lang/String" "value" "[B" (.ref b334) ∧ Arv Z h b334 kv .byte (Int32.ofNat cs.length) (own_ch cs) (.int (0 : Int32)) ∧ Exa Z h b334 "[B"
theorem rm317 (l : Launch) (Z : State) (a0 : Array Value) (hw : own_HW Z a0) (ws : List Jvm.Cond) (w_CS : Int32) (bb ba : Addr) (kv : ClassId) (cs : List Int32) (b315 : Addr) (h0 : Heap) (Z0 : Ext Z.heap h0) (S_w_CS : own_w_CS Z w_CS) (E_b315 : Exa Z h0 b315 "java/lang/String") (F_b315_coder : Fld Z h0 b315 "java/lang/String" "coder" "B" (.int (0 : Int32))) (F_b315_value : Fld Z h0 b315 "java/lang/String" "value" "[B" .null) (E_bb : Exa Z h0 bb "java/lang/StringBuilder") (F_bb_coder : Fld Z h0 bb "java/lang/AbstractStringBuilder" "coder" "B" (.int (0 : Int32))) (F_bb_count : Fld Z h0 bb "java/lang/AbstractStringBuilder" "count" "I" (.int (Int32.ofNat cs.length))) (F_bb_value : Fld Z h0 bb "java/lang/AbstractStringBuilder" "value" "[B" (.ref ba)) (E_ba : Exa Z h0 ba "[B") (V_ba : Arv Z h0 ba kv .byte (16 : Int32) (own_buf 16 cs) (.int (0 : Int32))) (g_b315 : Z.heap.size ≤ b315) (hc1 : ¬ (w_CS = (0 : Int32))) (hc78 : ba ≠ b315) (hc76 : (Int32.ofNat cs.length) = (16 : Int32)) (hc77 : cs.length = 16) :
    own_met l y_25 jdk_42_method_150_code 5 none ws ({ frames := 2, cells := 1, slots := 16, locals := 29 } : Room) Z #[(.ref b315), (.ref bb), .null] h0 (Qrm317 Z w_CS bb ba kv cs b315 h0) := by
  refine own_start (plainFor_of_name pn_6) (fun m => ef_jdk_42_method_150_RRn m b315 bb) ?_
  intro p e s m below meth c s₁ hx hby hml hown hnm X0 hZ e0 hret hlk
  have N0 := Fr.nil Z.heap.size
  obtain ⟨T318, X318, e318, st318⟩ := initO X0 hx hZ hown (own_w hw 132 rfl) (own_w hw 8 rfl) (own_w hw 9 rfl) e0 (g := (mkF m 1 #[rv b315, rv bb, .val .null, .unset, .unset] [(.ref b315)])) rfl (by rw [hml]; rfl) rfl (hb hby d21_1) (by decide) (W := 0) (by show 2 * 0 + _ ≤ _; exact Nat.le_of_eq rfl) (by decide)
  obtain ⟨_, T321, Lc321, X321, hQ321, st321⟩ := own_virtual (y := y_19) X318 hx hZ hown (own_w hw 133 rfl) (own_w hw 134 rfl) (own_w hw 136 rfl) (own_w hw 135 rfl) (own_w hw 31 rfl) (own_w hw 137 rfl) (rm319 l Z a0 hw [] bb ba h0 Z0 F_bb_value) e318 E_bb (g := (mkF m 5 #[rv b315, rv bb, .val .null, .unset, .unset] [(.ref bb)])) (argsL := []) (rest := []) (W := 0) (lenOf pd_14 rfl) (hb hby d21_5) hml
  obtain ⟨rfl, N321q, e321⟩ := hQ321
  have N321 := Fr.app N0 N321q
  obtain ⟨_, T326, Lc326, X326, hQ326, st326⟩ := own_virtualO (z := y_20) (y := y_21) X321 hx hZ hown (own_w hw 138 rfl) (own_w hw 139 rfl) (own_w hw 60 rfl) rfl (own_w hw 141 rfl) (own_w hw 142 rfl) (own_w hw 23 rfl) (own_w hw 143 rfl) (rm322 l Z a0 hw [] bb cs h0 Z0 E_bb F_bb_count) e321 E_bb (g := (mkF m 10 #[rv b315, rv bb, .val .null, rv ba, .unset] [(.ref bb)])) (argsL := []) (rest := []) (W := 0) (lenOf pd_9 rfl) (hb hby d21_10) hml
  obtain ⟨rfl, N326q, e326⟩ := hQ326
  have N326 := Fr.app N321 N326q
  obtain ⟨_, T327, Lc327, X327, hQ327, st327⟩ := own_virtual (y := y_9) X326 hx hZ hown (own_w hw 146 rfl) (own_w hw 63 rfl) (own_w hw 65 rfl) (own_w hw 64 rfl) (own_w hw 31 rfl) (own_w hw 66 rfl) (rm110 l Z a0 hw [] w_CS bb h0 Z0 S_w_CS F_bb_coder hc1) e326 E_bb (g := (mkF m 16 #[rv b315, rv bb, .val .null, rv ba, iv (Int32.ofNat cs.length)] [(.ref bb)])) (argsL := []) (rest := []) (W := 0) (lenOf pd_5 rfl) (hb hby d21_16) hml
  obtain ⟨rfl, N327q, e327⟩ := hQ327
  have N327 := Fr.app N326 N327q
  obtain ⟨T328, h328, X328, e328, W328, st328⟩ := putFN X327 hx hZ hown (own_w hw 98 rfl) Via.refl e327 F_b315_coder E_b315 (Or.inr ⟨(own_w hw 74 rfl), rfl, hnm⟩) (own_w hw 72 rfl) (ty := .byte) (v' := (.int (0 : Int32))) (by decide) rfl (by decide) (g := (mkF m 24 #[rv b315, rv bb, .val .null, rv ba, iv (Int32.ofNat cs.length)] [(.int (0 : Int32)), (.ref b315)])) rfl rfl (hb hby d21_24)
  have K328 : Keep h0 h328 [b315] := (Keep.refl h0 [b315]).wr W328 (Or.inl (List.mem_of_getElem? (i := 0) rfl))
  have XX328 : Ext Z.heap h328 := own_extW Z0 W328 g_b315
  have N328 := Fr.snoc X328 N327 g_b315
  obtain ⟨_, T333, Lc333, X333, hQ333, st333⟩ := own_static (y := y_24) X328 hx hZ hown (own_w hw 147 rfl) (own_w hw 148 rfl) (own_w hw 149 rfl) (own_w hw 150 rfl) (rm329 l Z a0 hw [] ba kv cs h328 XX328 (E_ba.wr W328) (V_ba.other W328 hc78) hc76 hc77) e328 (g := (mkF m 32 #[rv b315, rv bb, .val .null, rv ba, iv (Int32.ofNat cs.length)] [(.int (Int32.ofNat cs.length)), (.int (0 : Int32)), (.ref ba), (.ref b315)])) (argsL := [(.ref ba), (.int (0 : Int32)), (.int (Int32.ofNat cs.length))]) (rest := [(.ref b315)]) (W := 1) (lenOf pd_16 rfl) (hb hby d21_32) hml
  obtain ⟨b334, rfl, N333q, K333q, szn_b334, q333_V_b334, q333_E_b334⟩ := hQ333
  have g_b334 : Z.heap.size ≤ b334 := Nat.le_trans XX328.1 szn_b334
  have sz_b334 : h0.size ≤ b334 := Nat.le_trans K328.1 szn_b334
  have K333 : Keep h0 T333.heap [b315] := K328.trans K333q all0
  have XX333 : Ext Z.heap T333.heap := own_extK XX328 K333q all0
  have N333 := Fr.app N328 N333q
  have f335_F_b315_value : Fld Z T333.heap b315 "java/lang/String" "value" "[B" .null := ((F_b315_value.other W328 (Or.inr (slot_ne (Or.inr (own_w hw 73 rfl)) (Or.inr (own_w hw 74 rfl)) (by decide) (t := (.array .byte)) (t' := .byte) (by decide) (by decide)))).keep K333q nin0)
  obtain ⟨T336, h336, X336, e336, W336, st336⟩ := putF X333 hx hZ hown (host := "") (Or.inl (own_w hw 91 rfl)) Via.refl rfl f335_F_b315_value ((E_b315.wr W328).keep K333q) (Or.inr ⟨(own_w hw 73 rfl), rfl, hnm⟩) (own_w hw 72 rfl) (ty := (.array .byte)) (by decide) rfl rfl (g := (mkF m 35 #[rv b315, rv bb, .val .null, rv ba, iv (Int32.ofNat cs.length)] [(.ref b334), (.ref b315)])) rfl rfl (hb hby d21_35)
  have K336 : Keep h0 h336 [b315] := K333.wr W336 (Or.inl (List.mem_of_getElem? (i := 0) rfl))
  have XX336 : Ext Z.heap h336 := own_extW XX333 W336 g_b315
  have N336 := Fr.snoc X336 N333 g_b315
  have f337_F_b315_coder : Fld Z h336 b315 "java/lang/String" "coder" "B" (.int (0 : Int32)) := (((F_b315_coder.same W328).keep K333q nin0).other W336 (Or.inr (slot_ne (Or.inr (own_w hw 74 rfl)) (Or.inr (own_w hw 73 rfl)) (by decide) (t := .byte) (t' := (.array .byte)) (by decide) (by decide))))
  have ne_b315_b334 : b315 ≠ b334 := Nat.ne_of_lt (Nat.lt_of_lt_of_le (E_b315.wr W328).lt szn_b334)
  obtain ⟨fs, hr, hrun, hended, hW, hsame⟩ := X336.leave (v := none) (fun _ => rfl) hlk
  refine ⟨_, _, ?_, hrun, hended, _, _, rfl, ?_, ⟨_, rfl⟩, hW, hsame.mono (by decide) (by decide)⟩
  · show own_S p e below s₁ (mkF m 0 #[rv b315, rv bb, .val .null, .unset, .unset] []) _
    refine own_aN X0 hx hby d21_0 ?_
    refine st318 _ ?_
    refine own_aN X318 hx hby d21_4 ?_
    refine st321 _ ?_
    refine XS.astoreN X321.here hx rfl (hb hby d21_8) rfl rfl (l' := #[rv b315, rv bb, .val .null, rv ba, .unset]) rfl ?_
    refine own_aN X321 hx hby d21_9 ?_
    refine st326 _ ?_
    refine XS.istore X326.here hx rfl (hb hby d21_13) rfl (l' := #[rv b315, rv bb, .val .null, rv ba, iv (Int32.ofNat cs.length)]) rfl ?_
    refine own_aN X326 hx hby d21_15 ?_
    refine st327 _ ?_
    refine own_in X327 hx hby d21_19 (feq (by decide : ¬ ((1 : Int32) = (0 : Int32)))).1 ?_
    refine own_aN X327 hx hby d21_22 ?_
    refine own_k X327 hx hby d21_23 ?_
    refine st328 _ ?_
    refine own_aN X328 hx hby d21_27 ?_
    refine own_aN X328 hx hby d21_28 ?_
    refine own_k X328 hx hby d21_29 ?_
    refine own_i X328 hx hby d21_30 ?_
    refine st333 _ ?_
    refine st336 _ ?_
    refine own_go (pc := 38) X336 hx hby d21_38 97 ?_
    exact X336.returnOut hx hret (hb hby d21_97) hr
  · show Qrm317 Z w_CS bb ba kv cs b315 h0 _ T336.heap _
    rw [e336]
    exact ⟨b334, rfl, N336, K336, sz_b334, (((E_b315.wr W328).keep K333q).wr W336), f337_F_b315_coder, (f335_F_b315_value.same W336), (q333_V_b334.other W336 (Ne.symm ne_b315_b334)), (q333_E_b334.wr W336)⟩
def Qrm316 (Z : State) (w_CS : Int32) (bb ba : Addr) (kv : ClassId) (cs : List Int32) (b315 : Addr) (h0 : Heap) (v : Option Value) (h : Heap) (L : List Loc) : Prop := ∃ b339 : Addr, v = none ∧ Fr Z.heap.size L ∧ Keep h0 h [b315] ∧ h0.size ≤ b339 ∧ Exa Z h b315 "java/lang/String" ∧ Fld Z h b315 "java/lang/String" "coder" "B" (.int (0 : Int32)) ∧ Fld Z h b315 "java/lang/String" "value" "[B" (.ref b339) ∧ Arv Z h b339 kv .byte (Int32.ofNat cs.length) (own_ch cs) (.int (0 : Int32)) ∧ Exa Z h b339 "[B"
theorem rm316 (l : Launch) (Z : State) (a0 : Array Value) (hw : own_HW Z a0) (ws : List Jvm.Cond) (w_CS : Int32) (bb ba : Addr) (kv : ClassId) (cs : List Int32) (b315 : Addr) (h0 : Heap) (Z0 : Ext Z.heap h0) (S_w_CS : own_w_CS Z w_CS) (E_b315 : Exa Z h0 b315 "java/lang/String") (F_b315_coder : Fld Z h0 b315 "java/lang/String" "coder" "B" (.int (0 : Int32))) (F_b315_value : Fld Z h0 b315 "java/lang/String" "value" "[B" .null) (E_bb : Exa Z h0 bb "java/lang/StringBuilder") (F_bb_coder : Fld Z h0 bb "java/lang/AbstractStringBuilder" "coder" "B" (.int (0 : Int32))) (F_bb_count : Fld Z h0 bb "java/lang/AbstractStringBuilder" "count" "I" (.int (Int32.ofNat cs.length))) (F_bb_value : Fld Z h0 bb "java/lang/AbstractStringBuilder" "value" "[B" (.ref ba)) (E_ba : Exa Z h0 ba "[B") (V_ba : Arv Z h0 ba kv .byte (16 : Int32) (own_buf 16 cs) (.int (0 : Int32))) (g_b315 : Z.heap.size ≤ b315) (hc1 : ¬ (w_CS = (0 : Int32))) (hc78 : ba ≠ b315) (hc76 : (Int32.ofNat cs.length) = (16 : Int32)) (hc77 : cs.length = 16) :
    own_met l y_26 jdk_42_method_53_code 2 none ws ({ frames := 3, cells := 1, slots := 16, locals := 45 } : Room) Z #[(.ref b315), (.ref bb)] h0 (Qrm316 Z w_CS bb ba kv cs b315 h0) := by
  refine own_start (plainFor_of_name pn_6) (fun m => ef_jdk_42_method_53_RR m b315 bb) ?_
  intro p e s m below meth c s₁ hx hby hml hown hnm X0 hZ e0 hret hlk
  have N0 := Fr.nil Z.heap.size
  obtain ⟨_, T338, Lc338, X338, hQ338, st338⟩ := own_special (y := y_25) X0 hx hZ hown rfl (own_w hw 129 rfl) (own_w hw 130 rfl) (own_w hw 35 rfl) (own_w hw 131 rfl) (rm317 l Z a0 hw [] w_CS bb ba kv cs b315 h0 Z0 S_w_CS E_b315 F_b315_coder F_b315_value E_bb F_bb_coder F_bb_count F_bb_value E_ba V_ba g_b315 hc1 hc78 hc76 hc77) e0 b315 (g := (mkF m 3 #[rv b315, rv bb] [.null, (.ref bb), (.ref b315)])) (argsL := [(.ref bb), .null]) (rest := []) (W := 0) (lenOf pd_17 rfl) (hb hby d20_3) hml
  obtain ⟨b339, rfl, N338q, K338q, szn_b339, q338_E_b315, q338_F_b315_coder, q338_F_b315_value, q338_V_b339, q338_E_b339⟩ := hQ338
  have g_b339 : Z.heap.size ≤ b339 := Nat.le_trans Z0.1 szn_b339
  have sz_b339 : h0.size ≤ b339 := Nat.le_trans (Keep.refl h0 [b315]).1 szn_b339
  have K338 : Keep h0 T338.heap [b315] := (Keep.refl h0 [b315]).trans K338q (allS (Or.inl (List.mem_of_getElem? (i := 0) rfl)) all0)
  have XX338 : Ext Z.heap T338.heap := own_extK Z0 K338q (allS g_b315 all0)
  have N338 := Fr.app N0 N338q
  obtain ⟨fs, hr, hrun, hended, hW, hsame⟩ := X338.leave (v := none) (fun _ => rfl) hlk
  refine ⟨_, _, ?_, hrun, hended, _, _, rfl, ?_, ⟨_, rfl⟩, hW, hsame.mono (by decide) (by decide)⟩
  · show own_S p e below s₁ (mkF m 0 #[rv b315, rv bb] []) _
    refine own_aN X0 hx hby d20_0 ?_
    refine own_aN X0 hx hby d20_1 ?_
    refine XS.aconstNull X0.here hx rfl (hb hby d20_2) ?_
    refine st338 _ ?_
    exact X338.returnOut hx hret (hb hby d20_6) hr
  · show Qrm316 Z w_CS bb ba kv cs b315 h0 _ T338.heap _
    exact ⟨b339, rfl, N338, K338, sz_b339, q338_E_b315, q338_F_b315_coder, q338_F_b315_value, q338_V_b339, q338_E_b339⟩
def Qrm314 (Z : State) (w_CS : Int32) (bb ba : Addr) (kv : ClassId) (cs : List Int32) (h0 : Heap) (v : Option Value) (h : Heap) (L : List Loc) : Prop := ∃ b315 : Addr, ∃ b341 : Addr, v = some (.ref b315) ∧ Fr Z.heap.size L ∧ Keep h0 h [] ∧ h0.size ≤ b315 ∧ h0.size ≤ b341 ∧ Exa Z h b315 "java/lang/String" ∧ Fld Z h b315 "java/lang/String" "value" "[B" (.ref b341) ∧ Fld Z h b315 "java/lang/String" "coder" "B" (.int (0 : Int32)) ∧ Arv Z h b341 kv .byte (Int32.ofNat cs.length) (own_ch cs) (.int (0 : Int32)) ∧ Exa Z h b341 "[B"
theorem rm314 (l : Launch) (Z : State) (a0 : Array Value) (hw : own_HW Z a0) (ws : List Jvm.Cond) (w_CS : Int32) (bb ba : Addr) (kv : ClassId) (cs : List Int32) (h0 : Heap) (Z0 : Ext Z.heap h0) (S_w_CS : own_w_CS Z w_CS) (E_bb : Exa Z h0 bb "java/lang/StringBuilder") (F_bb_value : Fld Z h0 bb "java/lang/AbstractStringBuilder" "value" "[B" (.ref ba)) (F_bb_coder : Fld Z h0 bb "java/lang/AbstractStringBuilder" "coder" "B" (.int (0 : Int32))) (F_bb_count : Fld Z h0 bb "java/lang/AbstractStringBuilder" "count" "I" (.int (Int32.ofNat cs.length))) (V_ba : Arv Z h0 ba kv .byte (16 : Int32) (own_buf 16 cs) (.int (0 : Int32))) (E_ba : Exa Z h0 ba "[B") (hc1 : ¬ (w_CS = (0 : Int32))) (hc76 : (Int32.ofNat cs.length) = (16 : Int32)) (hc77 : cs.length = 16) :
    own_met l y_27 jdk_67_method_42_code 1 (some (.object "java/lang/String")) ws ({ frames := 4, cells := 2, slots := 20, locals := 59 } : Room) Z #[(.ref bb)] h0 (Qrm314 Z w_CS bb ba kv cs h0) := by
  refine own_start (plainFor_of_name pn_5) (fun m => ef_jdk_67_method_42_R m bb) ?_
  intro p e s m below meth c s₁ hx hby hml hown hnm X0 hZ e0 hret hlk
  have N0 := Fr.nil Z.heap.size
  obtain ⟨T315, h315, X315, e315, E315, A315, D315, -, st315⟩ := newO X0 hx hZ hown (own_w hw 124 rfl) (own_w hw 72 rfl) (own_w hw 35 rfl) e0 (g := (mkF m 0 #[rv bb] [])) rfl (hb hby d19_0) (by decide) (by decide)
  obtain ⟨b315, g315⟩ : ∃ z, z = h0.size := ⟨_, rfl⟩
  rw [← g315] at A315 D315 st315
  have g_b315 : Z.heap.size ≤ b315 := Nat.le_trans Z0.1 (Nat.le_of_eq g315.symm)
  have sz_b315 : h0.size ≤ b315 := Nat.le_trans (Keep.refl h0 []).1 (Nat.le_of_eq g315.symm)
  have F_b315_value : Fld Z h315 b315 "java/lang/String" "value" "[B" .null := D315 (Or.inr (own_w hw 73 rfl)) (ty := (.array .byte)) (by decide)
  have F_b315_coder : Fld Z h315 b315 "java/lang/String" "coder" "B" (.int (0 : Int32)) := D315 (Or.inr (own_w hw 74 rfl)) (ty := .byte) (by decide)
  have K315 : Keep h0 h315 [] := (Keep.refl h0 []).ext E315
  have XX315 : Ext Z.heap h315 := own_ext2 Z0 E315
  have ne_ba_b315 : ba ≠ b315 := Nat.ne_of_lt (Nat.lt_of_lt_of_le V_ba.lt (Nat.le_of_eq g315.symm))
  obtain ⟨_, T340, Lc340, X340, hQ340, st340⟩ := own_special (y := y_26) X315 hx hZ hown rfl (own_w hw 125 rfl) (own_w hw 126 rfl) (own_w hw 35 rfl) (own_w hw 128 rfl) (rm316 l Z a0 hw [] w_CS bb ba kv cs b315 h315 XX315 S_w_CS A315 F_b315_coder F_b315_value (E_bb.ext E315) (F_bb_coder.ext E315) (F_bb_count.ext E315) (F_bb_value.ext E315) (E_ba.ext E315) (V_ba.ext E315) g_b315 hc1 ne_ba_b315 hc76 hc77) e315 b315 (g := (mkF m 5 #[rv bb] [(.ref bb), (.ref b315), (.ref b315)])) (argsL := [(.ref bb)]) (rest := [(.ref b315)]) (W := 1) (lenOf pd_18 rfl) (hb hby d19_5) hml
  obtain ⟨b341, rfl, N340q, K340q, szn_b341, q340_E_b315, q340_F_b315_coder, q340_F_b315_value, q340_V_b341, q340_E_b341⟩ := hQ340
  have g_b341 : Z.heap.size ≤ b341 := Nat.le_trans XX315.1 szn_b341
  have sz_b341 : h0.size ≤ b341 := Nat.le_trans K315.1 szn_b341
  have K340 : Keep h0 T340.heap [] := K315.trans K340q (allS (Or.inr sz_b315) all0)
  have XX340 : Ext Z.heap T340.heap := own_extK XX315 K340q (allS g_b315 all0)
  have N340 := Fr.app N0 N340q
  obtain ⟨fs, hr, hrun, hended, hW, hsame⟩ := X340.leave (v := some (.ref b315)) (fun h => by rw [hret] at h; cases h) hlk
  refine ⟨_, _, ?_, hrun, hended, _, _, rfl, ?_, ⟨_, rfl⟩, hW, hsame.mono (by decide) (by decide)⟩
  · show own_S p e below s₁ (mkF m 0 #[rv bb] []) _
    refine st315 _ ?_
    refine XS.dup X315.here hx rfl (hb hby d19_3) rfl rfl ?_
    refine own_aN X315 hx hby d19_4 ?_
    refine st340 _ ?_
    jvm_step X340.here [X340.here.top, hx, (hb hby d19_8), X340.method', hret, Value.isRef, FieldType.isReference]
    first | (intro acts; rw [hr _ acts rfl rfl rfl]) | rw [hr _ _ rfl rfl rfl]
    exact Steps.refl _
  · show Qrm314 Z w_CS bb ba kv cs h0 _ T340.heap _
    exact ⟨b315, b341, rfl, N340, K340, sz_b315, sz_b341, q340_E_b315, q340_F_b315_value, q340_F_b315_coder, q340_V_b341, q340_E_b341⟩
theorem own_hEL {Z : State} {a0 : Array Value} (hw : own_HW Z a0) : EW Z a0 consts_1 := (EW.cons (own_w hw 71 rfl) (by decide) EW.nil)
theorem own_wS {Z : State} {a0 : Array Value} (hw : own_HW Z a0) : ∀ a ∈ Bundle.stringAtoms, a.before a0 Z = true := by
  intro a ha
  simp only [Bundle.stringAtoms, List.mem_cons, List.not_mem_nil, or_false] at ha
  rcases ha with rfl | rfl | rfl | rfl | rfl | rfl | rfl
  · exact own_w hw 35 rfl
  · exact own_w hw 72 rfl
  · exact own_w hw 36 rfl
  · exact own_w hw 73 rfl
  · exact own_w hw 74 rfl
  · exact own_w hw 75 rfl
  · exact own_w hw 76 rfl
def Qrm347 (Z : State) (w_CS : Int32) (b343 : Addr) (h0 : Heap) (v : Option Value) (h : Heap) (L : List Loc) : Prop := ∃ b350 : Addr, ∃ k350 : ClassId, v = none ∧ Fr Z.heap.size L ∧ Keep h0 h [b343] ∧ h0.size ≤ b350 ∧ Exa Z h b343 "java/lang/StringBuilder" ∧ Fld Z h b343 "java/lang/AbstractStringBuilder" "coder" "B" (.int (0 : Int32)) ∧ Fld Z h b343 "java/lang/AbstractStringBuilder" "count" "I" (.int (0 : Int32)) ∧ Fld Z h b343 "java/lang/AbstractStringBuilder" "value" "[B" (.ref b350) ∧ Arv Z h b350 k350 .byte (16 : Int32) [(.int (0 : Int32)), (.int (0 : Int32)), (.int (0 : Int32)), (.int (0 : Int32)), (.int (0 : Int32)), (.int (0 : Int32)), (.int (0 : Int32)), (.int (0 : Int32)), (.int (0 : Int32)), (.int (0 : Int32)), (.int (0 : Int32)), (.int (0 : Int32)), (.int (0 : Int32)), (.int (0 : Int32)), (.int (0 : Int32)), (.int (0 : Int32))] (.int (0 : Int32)) ∧ Exa Z h b350 "[B"
theorem rm347 (l : Launch) (Z : State) (a0 : Array Value) (hw : own_HW Z a0) (ws : List Jvm.Cond) (w_CS : Int32) (b343 : Addr) (h0 : Heap) (Z0 : Ext Z.heap h0) (S_w_CS : own_w_CS Z w_CS) (E_b343 : Exa Z h0 b343 "java/lang/StringBuilder") (F_b343_coder : Fld Z h0 b343 "java/lang/AbstractStringBuilder" "coder" "B" (.int (0 : Int32))) (F_b343_count : Fld Z h0 b343 "java/lang/AbstractStringBuilder" "count" "I" (.int (0 : Int32))) (F_b343_value : Fld Z h0 b343 "java/lang/AbstractStringBuilder" "value" "[B" .null) (g_b343 : Z.heap.size ≤ b343) (hc1 : ¬ (w_CS = (0 : Int32))) :
    own_met l y_28 jdk_68_method_2_code 2 none ws ({ frames := 1, cells := 1, slots := 16, locals := 12 } : Room) Z #[(.ref b343), (.int (16 : Int32))] h0 (Qrm347 Z w_CS b343 h0) := by
  refine own_start (plainFor_of_name pn_2) (fun m => ef_jdk_68_method_2_RI m b343 (16 : Int32)) ?_
  intro p e s m below meth c s₁ hx hby hml hown hnm X0 hZ e0 hret hlk
  have N0 := Fr.nil Z.heap.size
  obtain ⟨T348, X348, e348, st348⟩ := initO X0 hx hZ hown (own_w hw 33 rfl) (own_w hw 8 rfl) (own_w hw 9 rfl) e0 (g := (mkF m 1 #[rv b343, iv (16 : Int32)] [(.ref b343)])) rfl (by rw [hml]; rfl) rfl (hb hby d5_1) (by decide) (W := 0) (by show 2 * 0 + _ ≤ _; exact Nat.le_of_eq rfl) (by decide)
  obtain ⟨T349, X349, e349, st349⟩ := getS2 X348 hx hZ hown (host := "") (Or.inl (own_w hw 34 rfl)) Via.refl e348 (S_w_CS.ext Z0) (g := (mkF m 4 #[rv b343, iv (16 : Int32)] [])) rfl (hb hby d5_4)
  obtain ⟨T350, h350, k350, X350, e350, E350, A350, EX350, st350⟩ := newPE X349 hx hZ (own_w hw 36 rfl) e349 (g := (mkF m 12 #[rv b343, iv (16 : Int32)] [(.int (16 : Int32)), (.ref b343)])) rfl (hb hby d5_12) rfl (by decide) (cap := 16) (by decide) (by decide) (by decide) (by decide) (ad := "[B") (by decide)
  obtain ⟨b350, g350⟩ : ∃ z, z = h0.size := ⟨_, rfl⟩
  rw [← g350] at A350 EX350 st350
  have g_b350 : Z.heap.size ≤ b350 := Nat.le_trans Z0.1 (Nat.le_of_eq g350.symm)
  have sz_b350 : h0.size ≤ b350 := Nat.le_trans (Keep.refl h0 [b343]).1 (Nat.le_of_eq g350.symm)
  have V_b350 : Arv Z h350 b350 k350 .byte (16 : Int32) [(.int (0 : Int32)), (.int (0 : Int32)), (.int (0 : Int32)), (.int (0 : Int32)), (.int (0 : Int32)), (.int (0 : Int32)), (.int (0 : Int32)), (.int (0 : Int32)), (.int (0 : Int32)), (.int (0 : Int32)), (.int (0 : Int32)), (.int (0 : Int32)), (.int (0 : Int32)), (.int (0 : Int32)), (.int (0 : Int32)), (.int (0 : Int32))] (.int (0 : Int32)) := (Arv.new A350 (by decide)).pad (pad_rep [] (.int (0 : Int32)) 16)
  have K350 : Keep h0 h350 [b343] := (Keep.refl h0 [b343]).ext E350
  have XX350 : Ext Z.heap h350 := own_ext2 Z0 E350
  obtain ⟨T351, h351, X351, e351, W351, st351⟩ := putF X350 hx hZ hown (host := "") (Or.inl (own_w hw 37 rfl)) Via.refl e350 (F_b343_value.ext E350) (E_b343.ext E350) (Or.inl (own_w hw 38 rfl)) (own_w hw 22 rfl) (ty := (.array .byte)) (by decide) rfl rfl (g := (mkF m 14 #[rv b343, iv (16 : Int32)] [(.ref b350), (.ref b343)])) rfl rfl (hb hby d5_14)
  have K351 : Keep h0 h351 [b343] := K350.wr W351 (Or.inl (List.mem_of_getElem? (i := 0) rfl))
  have XX351 : Ext Z.heap h351 := own_extW XX350 W351 g_b343
  have N351 := Fr.snoc X351 N0 g_b343
  have f352_F_b343_coder : Fld Z h351 b343 "java/lang/AbstractStringBuilder" "coder" "B" (.int (0 : Int32)) := ((F_b343_coder.ext E350).other W351 (Or.inr (slot_ne (Or.inl (own_w hw 40 rfl)) (Or.inl (own_w hw 38 rfl)) (by decide) (t := .byte) (t' := (.array .byte)) (by decide) (by decide))))
  obtain ⟨T353, h353, X353, e353, W353, st353⟩ := putFN X351 hx hZ hown (own_w hw 39 rfl) Via.refl e351 f352_F_b343_coder ((E_b343.ext E350).wr W351) (Or.inl (own_w hw 40 rfl)) (own_w hw 22 rfl) (ty := .byte) (v' := (.int (0 : Int32))) (by decide) rfl (by decide) (g := (mkF m 19 #[rv b343, iv (16 : Int32)] [(.int (0 : Int32)), (.ref b343)])) rfl rfl (hb hby d5_19)
  have K353 : Keep h0 h353 [b343] := K351.wr W353 (Or.inl (List.mem_of_getElem? (i := 0) rfl))
  have XX353 : Ext Z.heap h353 := own_extW XX351 W353 g_b343
  have N353 := Fr.snoc X353 N351 g_b343
  have f354_F_b343_count : Fld Z h353 b343 "java/lang/AbstractStringBuilder" "count" "I" (.int (0 : Int32)) := (((F_b343_count.ext E350).other W351 (Or.inr (slot_ne (Or.inl (own_w hw 52 rfl)) (Or.inl (own_w hw 38 rfl)) (by decide) (t := .int) (t' := (.array .byte)) (by decide) (by decide)))).other W353 (Or.inr (slot_ne (Or.inl (own_w hw 52 rfl)) (Or.inl (own_w hw 40 rfl)) (by decide) (t := .int) (t' := .byte) (by decide) (by decide))))
  have f355_F_b343_value : Fld Z h353 b343 "java/lang/AbstractStringBuilder" "value" "[B" (.ref b350) := (((F_b343_value.ext E350).same W351).other W353 (Or.inr (slot_ne (Or.inl (own_w hw 38 rfl)) (Or.inl (own_w hw 40 rfl)) (by decide) (t := (.array .byte)) (t' := .byte) (by decide) (by decide))))
  have ne_b343_b350 : b343 ≠ b350 := Nat.ne_of_lt (Nat.lt_of_lt_of_le E_b343.lt (Nat.le_of_eq g350.symm))
  have f356_V_b350 : Arv Z h353 b350 k350 .byte (16 : Int32) [(.int (0 : Int32)), (.int (0 : Int32)), (.int (0 : Int32)), (.int (0 : Int32)), (.int (0 : Int32)), (.int (0 : Int32)), (.int (0 : Int32)), (.int (0 : Int32)), (.int (0 : Int32)), (.int (0 : Int32)), (.int (0 : Int32)), (.int (0 : Int32)), (.int (0 : Int32)), (.int (0 : Int32)), (.int (0 : Int32)), (.int (0 : Int32))] (.int (0 : Int32)) := ((V_b350.other W351 (Ne.symm ne_b343_b350)).other W353 (Ne.symm ne_b343_b350))
  obtain ⟨fs, hr, hrun, hended, hW, hsame⟩ := X353.leave (v := none) (fun _ => rfl) hlk
  refine ⟨_, _, ?_, hrun, hended, _, _, rfl, ?_, ⟨_, rfl⟩, hW, hsame.mono (by decide) (by decide)⟩
  · show own_S p e below s₁ (mkF m 0 #[rv b343, iv (16 : Int32)] []) _
    refine own_aN X0 hx hby d5_0 ?_
    refine st348 _ ?_
    refine st349 _ ?_
    refine own_in X349 hx hby d5_7 (feq hc1).1 ?_
    refine own_aN X349 hx hby d5_10 ?_
    refine own_iN X349 hx hby d5_11 ?_
    refine st350 _ ?_
    refine st351 _ ?_
    refine own_aN X351 hx hby d5_17 ?_
    refine own_k X351 hx hby d5_18 ?_
    refine st353 _ ?_
    refine own_go (pc := 22) X353 hx hby d5_22 38 ?_
    exact X353.returnOut hx hret (hb hby d5_38) hr
  · show Qrm347 Z w_CS b343 h0 _ T353.heap _
    rw [e353]
    exact ⟨b350, k350, rfl, N353, K353, sz_b350, (((E_b343.ext E350).wr W351).wr W353), (f352_F_b343_coder.same W353), f354_F_b343_count, f355_F_b343_value, f356_V_b350, ((EX350.wr W351).wr W353)⟩
def Qrm346 (Z : State) (w_CS : Int32) (b343 : Addr) (h0 : Heap) (v : Option Value) (h : Heap) (L : List Loc) : Prop := ∃ b358 : Addr, ∃ k359 : ClassId, v = none ∧ Fr Z.heap.size L ∧ Keep h0 h [b343] ∧ h0.size ≤ b358 ∧ Exa Z h b343 "java/lang/StringBuilder" ∧ Fld Z h b343 "java/lang/AbstractStringBuilder" "coder" "B" (.int (0 : Int32)) ∧ Fld Z h b343 "java/lang/AbstractStringBuilder" "count" "I" (.int (0 : Int32)) ∧ Fld Z h b343 "java/lang/AbstractStringBuilder" "value" "[B" (.ref b358) ∧ Arv Z h b358 k359 .byte (16 : Int32) [(.int (0 : Int32)), (.int (0 : Int32)), (.int (0 : Int32)), (.int (0 : Int32)), (.int (0 : Int32)), (.int (0 : Int32)), (.int (0 : Int32)), (.int (0 : Int32)), (.int (0 : Int32)), (.int (0 : Int32)), (.int (0 : Int32)), (.int (0 : Int32)), (.int (0 : Int32)), (.int (0 : Int32)), (.int (0 : Int32)), (.int (0 : Int32))] (.int (0 : Int32)) ∧ Exa Z h b358 "[B"
theorem rm346 (l : Launch) (Z : State) (a0 : Array Value) (hw : own_HW Z a0) (ws : List Jvm.Cond) (w_CS : Int32) (b343 : Addr) (h0 : Heap) (Z0 : Ext Z.heap h0) (S_w_CS : own_w_CS Z w_CS) (E_b343 : Exa Z h0 b343 "java/lang/StringBuilder") (F_b343_coder : Fld Z h0 b343 "java/lang/AbstractStringBuilder" "coder" "B" (.int (0 : Int32))) (F_b343_count : Fld Z h0 b343 "java/lang/AbstractStringBuilder" "count" "I" (.int (0 : Int32))) (F_b343_value : Fld Z h0 b343 "java/lang/AbstractStringBuilder" "value" "[B" .null) (g_b343 : Z.heap.size ≤ b343) (hc1 : ¬ (w_CS = (0 : Int32))) :
    own_met l y_29 jdk_67_method_1_code 1 none ws ({ frames := 2, cells := 1, slots := 16, locals := 25 } : Room) Z #[(.ref b343)] h0 (Qrm346 Z w_CS b343 h0) := by
  refine own_start (plainFor_of_name pn_5) (fun m => ef_jdk_67_method_1_R m b343) ?_
  intro p e s m below meth c s₁ hx hby hml hown hnm X0 hZ e0 hret hlk
  have N0 := Fr.nil Z.heap.size
  obtain ⟨_, T357, Lc357, X357, hQ357, st357⟩ := own_special (y := y_28) X0 hx hZ hown rfl (own_w hw 27 rfl) (own_w hw 28 rfl) (own_w hw 31 rfl) (own_w hw 32 rfl) (rm347 l Z a0 hw [] w_CS b343 h0 Z0 S_w_CS E_b343 F_b343_coder F_b343_count F_b343_value g_b343 hc1) e0 b343 (g := (mkF m 3 #[rv b343] [(.int (16 : Int32)), (.ref b343)])) (argsL := [(.int (16 : Int32))]) (rest := []) (W := 0) (lenOf pd_4 rfl) (hb hby d4_3) hml
  obtain ⟨b358, k359, rfl, N357q, K357q, szn_b358, q357_E_b343, q357_F_b343_coder, q357_F_b343_count, q357_F_b343_value, q357_V_b358, q357_E_b358⟩ := hQ357
  have g_b358 : Z.heap.size ≤ b358 := Nat.le_trans Z0.1 szn_b358
  have sz_b358 : h0.size ≤ b358 := Nat.le_trans (Keep.refl h0 [b343]).1 szn_b358
  have K357 : Keep h0 T357.heap [b343] := (Keep.refl h0 [b343]).trans K357q (allS (Or.inl (List.mem_of_getElem? (i := 0) rfl)) all0)
  have XX357 : Ext Z.heap T357.heap := own_extK Z0 K357q (allS g_b343 all0)
  have N357 := Fr.app N0 N357q
  obtain ⟨fs, hr, hrun, hended, hW, hsame⟩ := X357.leave (v := none) (fun _ => rfl) hlk
  refine ⟨_, _, ?_, hrun, hended, _, _, rfl, ?_, ⟨_, rfl⟩, hW, hsame.mono (by decide) (by decide)⟩
  · show own_S p e below s₁ (mkF m 0 #[rv b343] []) _
    refine own_aN X0 hx hby d4_0 ?_
    refine XS.bipush X0.here hx rfl (hb hby d4_1) ?_
    refine st357 _ ?_
    exact X357.returnOut hx hret (hb hby d4_6) hr
  · show Qrm346 Z w_CS b343 h0 _ T357.heap _
    exact ⟨b358, k359, rfl, N357, K357, sz_b358, q357_E_b343, q357_F_b343_coder, q357_F_b343_count, q357_F_b343_value, q357_V_b358, q357_E_b358⟩
def Qrm342 (Z : State) (w_CS qa qb qc : Int32) (ka kb kc : Nat) (w_DO : Addr) (k_w_DO : ClassId) (w_DT : Addr) (k_w_DT : ClassId) (pv : Addr) (h0 : Heap) (v : Option Value) (h : Heap) (L : List Loc) : Prop := ∃ b377 : Addr, ∃ b378 : Addr, ∃ k379 : ClassId, v = some (.ref b377) ∧ Fr Z.heap.size L ∧ Keep h0 h [] ∧ h0.size ≤ b377 ∧ h0.size ≤ b378 ∧ Exa Z h b377 "java/lang/String" ∧ Fld Z h b377 "java/lang/String" "value" "[B" (.ref b378) ∧ Fld Z h b377 "java/lang/String" "coder" "B" (.int (0 : Int32)) ∧ Arv Z h b378 k379 .byte (Int32.ofNat (((((([] : List Int32) ++ own_ds qa ka) ++ [(46 : Int32)]) ++ own_ds qb kb) ++ [(46 : Int32)]) ++ own_ds qc kc).length) (own_ch (((((([] : List Int32) ++ own_ds qa ka) ++ [(46 : Int32)]) ++ own_ds qb kb) ++ [(46 : Int32)]) ++ own_ds qc kc)) (.int (0 : Int32))
theorem rm342 (l : Launch) (Z : State) (a0 : Array Value) (hw : own_HW Z a0) (ws : List Jvm.Cond) (w_CS qa qb qc : Int32) (ka kb kc : Nat) (w_DO : Addr) (k_w_DO : ClassId) (w_DT : Addr) (k_w_DT : ClassId) (pv : Addr) (h0 : Heap) (Z0 : Ext Z.heap h0) (S_w_CS : own_w_CS Z w_CS) (S_w_DO : own_Sw_DO Z w_DO) (A_w_DO : Arv Z Z.heap w_DO k_w_DO .byte (100 : Int32) own_ones (.int (0 : Int32))) (S_w_DT : own_Sw_DT Z w_DT) (A_w_DT : Arv Z Z.heap w_DT k_w_DT .byte (100 : Int32) own_tens (.int (0 : Int32))) (E_pv : Exa Z h0 pv "com/example/tenderd/tenderd/core/ProtocolVersion") (F_pv_major : Fld Z h0 pv "com/example/tenderd/tenderd/core/ProtocolVersion" "major" "I" (.int qa)) (F_pv_minor : Fld Z h0 pv "com/example/tenderd/tenderd/core/ProtocolVersion" "minor" "I" (.int qb)) (F_pv_revision : Fld Z h0 pv "com/example/tenderd/tenderd/core/ProtocolVersion" "revision" "I" (.int qc)) (hc1 : ¬ (w_CS = (0 : Int32))) (hc79 : own_nd qa ka) (hc80 : ([] : List Int32).length + ka ≤ 16) (hc81 : (([] : List Int32) ++ own_ds qa ka).length + 1 ≤ 16) (hc82 : own_nd qb kb) (hc83 : ((([] : List Int32) ++ own_ds qa ka) ++ [(46 : Int32)]).length + kb ≤ 16) (hc84 : (((([] : List Int32) ++ own_ds qa ka) ++ [(46 : Int32)]) ++ own_ds qb kb).length + 1 ≤ 16) (hc85 : own_nd qc kc) (hc86 : ((((([] : List Int32) ++ own_ds qa ka) ++ [(46 : Int32)]) ++ own_ds qb kb) ++ [(46 : Int32)]).length + kc ≤ 16) (hc87 : (((((([] : List Int32) ++ own_ds qa ka) ++ [(46 : Int32)]) ++ own_ds qb kb) ++ [(46 : Int32)]) ++ own_ds qc kc).length < 16) :
    own_metW l y_30 prog_22_method_5_code 1 (some (.object "java/lang/String")) ws ({ frames := 7, cells := 10, slots := 200, locals := 140 } : Room) Z #[(.ref pv)] h0 (Qrm342 Z w_CS qa qb qc ka kb kc w_DO k_w_DO w_DT k_w_DT pv h0) := by
  refine own_startW (plainFor_of_name pn_7) (fun m => ef_prog_22_method_5_R m pv) ?_
  intro p e s m below meth c s₁ hx hby hml hown hnm X0 hZ e0 hret hlk hs0 hC0
  have N0 := Fr.nil Z.heap.size
  have CR0 : CHr Z consts_1 s.vm h0 s.vm h0 := CHr.refl hC0
  have hS0 : s.Since s.vm 0 := (State.WarmedH.refl s).since 0
  have hk0 : 0 ≤ h0.size := Nat.zero_le _
  obtain ⟨T343, h343, X343, e343, E343, A343, D343, -, st343⟩ := newO X0 hx hZ hown (own_w hw 21 rfl) (own_w hw 22 rfl) (own_w hw 23 rfl) e0 (g := (mkF m 0 #[rv pv] [])) rfl (hb hby d3_0) (by decide) (by decide)
  obtain ⟨b343, g343⟩ : ∃ z, z = h0.size := ⟨_, rfl⟩
  rw [← g343] at A343 D343 st343
  have g_b343 : Z.heap.size ≤ b343 := Nat.le_trans Z0.1 (Nat.le_of_eq g343.symm)
  have sz_b343 : h0.size ≤ b343 := Nat.le_trans (Keep.refl h0 []).1 (Nat.le_of_eq g343.symm)
  have F_b343_value : Fld Z h343 b343 "java/lang/AbstractStringBuilder" "value" "[B" .null := D343 (Or.inl (own_w hw 38 rfl)) (ty := (.array .byte)) (by decide)
  have F_b343_coder : Fld Z h343 b343 "java/lang/AbstractStringBuilder" "coder" "B" (.int (0 : Int32)) := D343 (Or.inl (own_w hw 40 rfl)) (ty := .byte) (by decide)
  have F_b343_count : Fld Z h343 b343 "java/lang/AbstractStringBuilder" "count" "I" (.int (0 : Int32)) := D343 (Or.inl (own_w hw 52 rfl)) (ty := .int) (by decide)
  have K343 : Keep h0 h343 [] := (Keep.refl h0 []).ext E343
  have XX343 : Ext Z.heap h343 := own_ext2 Z0 E343
  have CQ343 : CHr Z consts_1 s.vm h0 s.vm h343 := CHr.ext E343 CR0.1
  have CR343 := CR0.trans CQ343
  have hk343 := Nat.le_trans hk0 CQ343.2.1
  have sf344_pv : Safe Z consts_1 s.vm h343 pv := Safe.exa hZ.alike (E_pv.ext E343) (by decide) (by decide)
  have sf345_b343 : Safe Z consts_1 s.vm h343 b343 := Safe.exa hZ.alike A343 (by decide) (by decide)
  obtain ⟨_, T360, Lc360, X360, hQ360, st360⟩ := own_special (y := y_29) X343 hx hZ hown rfl (own_w hw 24 rfl) (own_w hw 25 rfl) (own_w hw 23 rfl) (own_w hw 26 rfl) (rm346 l Z a0 hw [] w_CS b343 h343 XX343 S_w_CS A343 F_b343_coder F_b343_count F_b343_value g_b343 hc1) e343 b343 (g := (mkF m 4 #[rv pv] [(.ref b343), (.ref b343)])) (argsL := []) (rest := [(.ref b343)]) (W := 1) (lenOf pd_19 rfl) (hb hby d3_4) hml
  obtain ⟨b361, k362, rfl, N360q, K360q, szn_b361, q360_E_b343, q360_F_b343_coder, q360_F_b343_count, q360_F_b343_value, q360_V_b361, q360_E_b361⟩ := hQ360
  have g_b361 : Z.heap.size ≤ b361 := Nat.le_trans XX343.1 szn_b361
  have sz_b361 : h0.size ≤ b361 := Nat.le_trans K343.1 szn_b361
  have K360 : Keep h0 T360.heap [] := K343.trans K360q (allS (Or.inr sz_b343) all0)
  have XX360 : Ext Z.heap T360.heap := own_extK XX343 K360q (allS g_b343 all0)
  have N360 := Fr.app N0 N360q
  have hs360 : ∀ x ∈ [b343], Safe Z consts_1 s.vm h343 x := (allS sf345_b343 all0)
  have CQ360 : CHr Z consts_1 s.vm h343 s.vm T360.heap := CHr.keep K360q hs360 CR343.1
  have sf360_pv := Safe.keep K360q hs360 CR343.1 sf344_pv
  have sf360_b343 := Safe.keep K360q hs360 CR343.1 sf345_b343
  have sf360_b361 := Safe.keep K360q hs360 CR343.1 (Safe.new szn_b361)
  have CR360 := CR343.trans CQ360
  have hk360 := Nat.le_trans hk343 CQ360.2.1
  have ne_pv_b343 : pv ≠ b343 := Nat.ne_of_lt (Nat.lt_of_lt_of_le E_pv.lt (Nat.le_of_eq g343.symm))
  obtain ⟨T363, X363, e363, st363⟩ := getF X360 hx hZ hown (host := "") (Or.inl (own_w hw 10 rfl)) Via.refl rfl ((F_pv_major.ext E343).keep K360q (ninS ne_pv_b343 (nin0))) (g := (mkF m 8 #[rv pv] [(.ref pv), (.ref b343)])) rfl rfl (hb hby d3_8)
  have ne_b343_b361 : b343 ≠ b361 := Nat.ne_of_lt (Nat.lt_of_lt_of_le A343.lt szn_b361)
  obtain ⟨_, T364, Lc364, X364, hQ364, st364⟩ := own_virtual (y := y_11) X363 hx hZ hown (own_w hw 41 rfl) (own_w hw 42 rfl) (own_w hw 44 rfl) (own_w hw 43 rfl) (own_w hw 23 rfl) (own_w hw 45 rfl) (own_apI_n16 l Z a0 hw [] w_CS qa ka w_DO k_w_DO w_DT k_w_DT b343 b361 k362 ([] : List Int32) T360.heap XX360 S_w_CS S_w_DO A_w_DO S_w_DT A_w_DT q360_E_b343 q360_F_b343_value q360_F_b343_coder q360_F_b343_count q360_V_b361 g_b343 g_b361 hc79 hc80 hc1 ne_b343_b361 (Ne.symm ne_b343_b361)) e363 q360_E_b343 (g := (mkF m 11 #[rv pv] [(.int qa), (.ref b343)])) (argsL := [(.int qa)]) (rest := []) (W := 0) (lenOf pd_20 rfl) (hb hby d3_11) hml
  obtain ⟨rfl, N364q, K364q, q364_E_b343, q364_F_b343_value, q364_F_b343_coder, q364_F_b343_count, q364_V_b361⟩ := hQ364
  have K364 : Keep h0 T364.heap [] := K360.trans K364q (allS (Or.inr sz_b343) (allS (Or.inr sz_b361) all0))
  have XX364 : Ext Z.heap T364.heap := own_extK XX360 K364q (allS g_b343 (allS g_b361 all0))
  have N364 := Fr.app N360 N364q
  have hs364 : ∀ x ∈ [b343, b361], Safe Z consts_1 s.vm T360.heap x := (allS sf360_b343 (allS sf360_b361 all0))
  have CQ364 : CHr Z consts_1 s.vm T360.heap s.vm T364.heap := CHr.keep K364q hs364 CR360.1
  have sf364_pv := Safe.keep K364q hs364 CR360.1 sf360_pv
  have sf364_b343 := Safe.keep K364q hs364 CR360.1 sf360_b343
  have sf364_b361 := Safe.keep K364q hs364 CR360.1 sf360_b361
  have CR364 := CR360.trans CQ364
  have hk364 := Nat.le_trans hk360 CQ364.2.1
  obtain ⟨ba365, T365, h365, k1_365, bb365, kb365, X365, e365, E365, hS365, hk365, hZ365, hown365, EA365, FC365, FV365, AV365, -, -, hC365, -, hn365, st365⟩ := ldcCH (s := s) (vm0 := s.vm) X364 hx hZ hown (own_w hw 71 rfl) (own_wS hw) rfl hS0 hk364 (own_hEL hw) (List.mem_of_getElem? (i := 0) rfl) CR364.1 (vs := [(.int (46 : Int32))]) (z := (1 : Int32)) ⟨by decide, rfl⟩ (by decide) (by decide) (g := (mkF m 14 #[rv pv] [(.ref b343)])) rfl (hb hby d3_14) (n := 4) (by decide) (by decide) (by decide) (by decide)
  have sf365_pv := hC365.safe (((E_pv.ext E343).keep K360q).keep K364q).lt sf364_pv
  have sf365_b343 := hC365.safe q364_E_b343.lt sf364_b343
  have sf365_b361 := hC365.safe q364_V_b361.lt sf364_b361
  have CR365 := CR364.trans hC365
  have ne_pv_ba365 : pv ≠ ba365 := (hn365 _ sf365_pv).1
  have ne_pv_bb365 : pv ≠ bb365 := (hn365 _ sf365_pv).2
  have ne_b343_ba365 : b343 ≠ ba365 := (hn365 _ sf365_b343).1
  have ne_b343_bb365 : b343 ≠ bb365 := (hn365 _ sf365_b343).2
  have ne_b361_ba365 : b361 ≠ ba365 := (hn365 _ sf365_b361).1
  have ne_b361_bb365 : b361 ≠ bb365 := (hn365 _ sf365_b361).2
  have K365 : Keep h0 h365 [] := K364.ext E365
  have XX365 : Ext Z.heap h365 := own_ext2 XX364 E365
  obtain ⟨_, T366, Lc366, X366, hQ366, st366⟩ := own_virtual (y := y_18) X365 hx hZ365 hown365 (own_w hw 77 rfl) (own_w hw 78 rfl) (own_w hw 80 rfl) (own_w hw 79 rfl) (own_w hw 23 rfl) (own_w hw 81 rfl) (own_apS_n16 l Z a0 hw [] w_CS b343 b361 k362 (([] : List Int32) ++ own_ds qa ka) ba365 bb365 kb365 h365 XX365 S_w_CS (q364_E_b343.ext E365) (q364_F_b343_value.ext E365) (q364_F_b343_coder.ext E365) (q364_F_b343_count.ext E365) (q364_V_b361.ext E365) EA365 FC365 FV365 AV365 g_b343 g_b361 hc1 hc81 ne_b343_b361 (Ne.symm ne_b343_b361)) e365 (q364_E_b343.ext E365) (g := (mkF m 16 #[rv pv] [(.ref ba365), (.ref b343)])) (argsL := [(.ref ba365)]) (rest := []) (W := 0) (lenOf pd_21 rfl) (hb hby d3_16) hml
  obtain ⟨rfl, N366q, K366q, q366_E_b343, q366_F_b343_value, q366_F_b343_coder, q366_F_b343_count, q366_V_b361⟩ := hQ366
  have K366 : Keep h0 T366.heap [] := K365.trans K366q (allS (Or.inr sz_b343) (allS (Or.inr sz_b361) all0))
  have XX366 : Ext Z.heap T366.heap := own_extK XX365 K366q (allS g_b343 (allS g_b361 all0))
  have N366 := Fr.app N364 N366q
  have hs366 : ∀ x ∈ [b343, b361], Safe Z consts_1 T365.vm h365 x := (allS sf365_b343 (allS sf365_b361 all0))
  have CQ366 : CHr Z consts_1 T365.vm h365 T365.vm T366.heap := CHr.keep K366q hs366 CR365.1
  have sf366_pv := Safe.keep K366q hs366 CR365.1 sf365_pv
  have sf366_b343 := Safe.keep K366q hs366 CR365.1 sf365_b343
  have sf366_b361 := Safe.keep K366q hs366 CR365.1 sf365_b361
  have CR366 := CR365.trans CQ366
  have hk366 := Nat.le_trans hk365 CQ366.2.1
  have ne_pv_b361 : pv ≠ b361 := Nat.ne_of_lt (Nat.lt_of_lt_of_le (E_pv.ext E343).lt szn_b361)
  have f367_F_pv_minor : Fld Z T366.heap pv "com/example/tenderd/tenderd/core/ProtocolVersion" "minor" "I" (.int qb) := (((((F_pv_minor.ext E343).keep K360q (ninS ne_pv_b343 (nin0))).keep K364q (ninS ne_pv_b343 (ninS ne_pv_b361 (nin0)))).ext E365).keep K366q (ninS ne_pv_b343 (ninS ne_pv_b361 (nin0))))
  obtain ⟨T368, X368, e368, st368⟩ := getF X366 hx hZ365 hown365 (host := "") (Or.inl (own_w hw 12 rfl)) Via.refl rfl f367_F_pv_minor (g := (mkF m 20 #[rv pv] [(.ref pv), (.ref b343)])) rfl rfl (hb hby d3_20)
  obtain ⟨_, T369, Lc369, X369, hQ369, st369⟩ := own_virtual (y := y_11) X368 hx hZ365 hown365 (own_w hw 41 rfl) (own_w hw 42 rfl) (own_w hw 44 rfl) (own_w hw 43 rfl) (own_w hw 23 rfl) (own_w hw 45 rfl) (own_apI_n16 l Z a0 hw [] w_CS qb kb w_DO k_w_DO w_DT k_w_DT b343 b361 k362 ((([] : List Int32) ++ own_ds qa ka) ++ [(46 : Int32)]) T366.heap XX366 S_w_CS S_w_DO A_w_DO S_w_DT A_w_DT q366_E_b343 q366_F_b343_value q366_F_b343_coder q366_F_b343_count q366_V_b361 g_b343 g_b361 hc82 hc83 hc1 ne_b343_b361 (Ne.symm ne_b343_b361)) e368 q366_E_b343 (g := (mkF m 23 #[rv pv] [(.int qb), (.ref b343)])) (argsL := [(.int qb)]) (rest := []) (W := 0) (lenOf pd_20 rfl) (hb hby d3_23) hml
  obtain ⟨rfl, N369q, K369q, q369_E_b343, q369_F_b343_value, q369_F_b343_coder, q369_F_b343_count, q369_V_b361⟩ := hQ369
  have K369 : Keep h0 T369.heap [] := K366.trans K369q (allS (Or.inr sz_b343) (allS (Or.inr sz_b361) all0))
  have XX369 : Ext Z.heap T369.heap := own_extK XX366 K369q (allS g_b343 (allS g_b361 all0))
  have N369 := Fr.app N366 N369q
  have hs369 : ∀ x ∈ [b343, b361], Safe Z consts_1 T365.vm T366.heap x := (allS sf366_b343 (allS sf366_b361 all0))
  have CQ369 : CHr Z consts_1 T365.vm T366.heap T365.vm T369.heap := CHr.keep K369q hs369 CR366.1
  have sf369_pv := Safe.keep K369q hs369 CR366.1 sf366_pv
  have sf369_b343 := Safe.keep K369q hs369 CR366.1 sf366_b343
  have sf369_b361 := Safe.keep K369q hs369 CR366.1 sf366_b361
  have CR369 := CR366.trans CQ369
  have hk369 := Nat.le_trans hk366 CQ369.2.1
  have f371_E_pv : Exa Z T369.heap pv "com/example/tenderd/tenderd/core/ProtocolVersion" := ((((((E_pv.ext E343).keep K360q).keep K364q).ext E365).keep K366q).keep K369q)
  obtain ⟨ba370, T370, h370, k1_370, bb370, kb370, X370, e370, E370, hS370, hk370, hZ370, hown370, EA370, FC370, FV370, AV370, -, -, hC370, -, hn370, st370⟩ := ldcCH (s := s) (vm0 := T365.vm) X369 hx hZ365 hown365 (own_w hw 71 rfl) (own_wS hw) rfl hS365 hk369 (own_hEL hw) (List.mem_of_getElem? (i := 0) rfl) CR369.1 (vs := [(.int (46 : Int32))]) (z := (1 : Int32)) ⟨by decide, rfl⟩ (by decide) (by decide) (g := (mkF m 26 #[rv pv] [(.ref b343)])) rfl (hb hby d3_26) (n := 4) (by decide) (by decide) (by decide) (by decide)
  have sf370_pv := hC370.safe f371_E_pv.lt sf369_pv
  have sf370_b343 := hC370.safe q369_E_b343.lt sf369_b343
  have sf370_b361 := hC370.safe q369_V_b361.lt sf369_b361
  have CR370 := CR369.trans hC370
  have ne_pv_ba370 : pv ≠ ba370 := (hn370 _ sf370_pv).1
  have ne_pv_bb370 : pv ≠ bb370 := (hn370 _ sf370_pv).2
  have ne_b343_ba370 : b343 ≠ ba370 := (hn370 _ sf370_b343).1
  have ne_b343_bb370 : b343 ≠ bb370 := (hn370 _ sf370_b343).2
  have ne_b361_ba370 : b361 ≠ ba370 := (hn370 _ sf370_b361).1
  have ne_b361_bb370 : b361 ≠ bb370 := (hn370 _ sf370_b361).2
  have K370 : Keep h0 h370 [] := K369.ext E370
  have XX370 : Ext Z.heap h370 := own_ext2 XX369 E370
  obtain ⟨_, T372, Lc372, X372, hQ372, st372⟩ := own_virtual (y := y_18) X370 hx hZ370 hown370 (own_w hw 77 rfl) (own_w hw 78 rfl) (own_w hw 80 rfl) (own_w hw 79 rfl) (own_w hw 23 rfl) (own_w hw 81 rfl) (own_apS_n16 l Z a0 hw [] w_CS b343 b361 k362 (((([] : List Int32) ++ own_ds qa ka) ++ [(46 : Int32)]) ++ own_ds qb kb) ba370 bb370 kb370 h370 XX370 S_w_CS (q369_E_b343.ext E370) (q369_F_b343_value.ext E370) (q369_F_b343_coder.ext E370) (q369_F_b343_count.ext E370) (q369_V_b361.ext E370) EA370 FC370 FV370 AV370 g_b343 g_b361 hc1 hc84 ne_b343_b361 (Ne.symm ne_b343_b361)) e370 (q369_E_b343.ext E370) (g := (mkF m 28 #[rv pv] [(.ref ba370), (.ref b343)])) (argsL := [(.ref ba370)]) (rest := []) (W := 0) (lenOf pd_21 rfl) (hb hby d3_28) hml
  obtain ⟨rfl, N372q, K372q, q372_E_b343, q372_F_b343_value, q372_F_b343_coder, q372_F_b343_count, q372_V_b361⟩ := hQ372
  have K372 : Keep h0 T372.heap [] := K370.trans K372q (allS (Or.inr sz_b343) (allS (Or.inr sz_b361) all0))
  have XX372 : Ext Z.heap T372.heap := own_extK XX370 K372q (allS g_b343 (allS g_b361 all0))
  have N372 := Fr.app N369 N372q
  have hs372 : ∀ x ∈ [b343, b361], Safe Z consts_1 T370.vm h370 x := (allS sf370_b343 (allS sf370_b361 all0))
  have CQ372 : CHr Z consts_1 T370.vm h370 T370.vm T372.heap := CHr.keep K372q hs372 CR370.1
  have sf372_pv := Safe.keep K372q hs372 CR370.1 sf370_pv
  have sf372_b343 := Safe.keep K372q hs372 CR370.1 sf370_b343
  have sf372_b361 := Safe.keep K372q hs372 CR370.1 sf370_b361
  have CR372 := CR370.trans CQ372
  have hk372 := Nat.le_trans hk370 CQ372.2.1
  have f373_F_pv_revision : Fld Z T372.heap pv "com/example/tenderd/tenderd/core/ProtocolVersion" "revision" "I" (.int qc) := ((((((((F_pv_revision.ext E343).keep K360q (ninS ne_pv_b343 (nin0))).keep K364q (ninS ne_pv_b343 (ninS ne_pv_b361 (nin0)))).ext E365).keep K366q (ninS ne_pv_b343 (ninS ne_pv_b361 (nin0)))).keep K369q (ninS ne_pv_b343 (ninS ne_pv_b361 (nin0)))).ext E370).keep K372q (ninS ne_pv_b343 (ninS ne_pv_b361 (nin0))))
  obtain ⟨T374, X374, e374, st374⟩ := getF X372 hx hZ370 hown370 (host := "") (Or.inl (own_w hw 14 rfl)) Via.refl rfl f373_F_pv_revision (g := (mkF m 32 #[rv pv] [(.ref pv), (.ref b343)])) rfl rfl (hb hby d3_32)
  obtain ⟨_, T375, Lc375, X375, hQ375, st375⟩ := own_virtual (y := y_11) X374 hx hZ370 hown370 (own_w hw 41 rfl) (own_w hw 42 rfl) (own_w hw 44 rfl) (own_w hw 43 rfl) (own_w hw 23 rfl) (own_w hw 45 rfl) (own_apI_n16 l Z a0 hw [] w_CS qc kc w_DO k_w_DO w_DT k_w_DT b343 b361 k362 ((((([] : List Int32) ++ own_ds qa ka) ++ [(46 : Int32)]) ++ own_ds qb kb) ++ [(46 : Int32)]) T372.heap XX372 S_w_CS S_w_DO A_w_DO S_w_DT A_w_DT q372_E_b343 q372_F_b343_value q372_F_b343_coder q372_F_b343_count q372_V_b361 g_b343 g_b361 hc85 hc86 hc1 ne_b343_b361 (Ne.symm ne_b343_b361)) e374 q372_E_b343 (g := (mkF m 35 #[rv pv] [(.int qc), (.ref b343)])) (argsL := [(.int qc)]) (rest := []) (W := 0) (lenOf pd_20 rfl) (hb hby d3_35) hml
  obtain ⟨rfl, N375q, K375q, q375_E_b343, q375_F_b343_value, q375_F_b343_coder, q375_F_b343_count, q375_V_b361⟩ := hQ375
  have K375 : Keep h0 T375.heap [] := K372.trans K375q (allS (Or.inr sz_b343) (allS (Or.inr sz_b361) all0))
  have XX375 : Ext Z.heap T375.heap := own_extK XX372 K375q (allS g_b343 (allS g_b361 all0))
  have N375 := Fr.app N372 N375q
  have hs375 : ∀ x ∈ [b343, b361], Safe Z consts_1 T370.vm T372.heap x := (allS sf372_b343 (allS sf372_b361 all0))
  have CQ375 : CHr Z consts_1 T370.vm T372.heap T370.vm T375.heap := CHr.keep K375q hs375 CR372.1
  have sf375_pv := Safe.keep K375q hs375 CR372.1 sf372_pv
  have sf375_b343 := Safe.keep K375q hs375 CR372.1 sf372_b343
  have sf375_b361 := Safe.keep K375q hs375 CR372.1 sf372_b361
  have CR375 := CR372.trans CQ375
  have hk375 := Nat.le_trans hk372 CQ375.2.1
  obtain ⟨_, T376, Lc376, X376, hQ376, st376⟩ := own_virtual (y := y_27) X375 hx hZ370 hown370 (own_w hw 119 rfl) (own_w hw 120 rfl) (own_w hw 122 rfl) (own_w hw 121 rfl) (own_w hw 23 rfl) (own_w hw 123 rfl) (rm234 l Z a0 hw [] w_CS b343 b361 k362 (((((([] : List Int32) ++ own_ds qa ka) ++ [(46 : Int32)]) ++ own_ds qb kb) ++ [(46 : Int32)]) ++ own_ds qc kc) T375.heap XX375 S_w_CS q375_E_b343 q375_F_b343_value q375_F_b343_coder q375_F_b343_count q375_V_b361 hc1 hc87) rfl q375_E_b343 (g := (mkF m 38 #[rv pv] [(.ref b343)])) (argsL := []) (rest := []) (W := 0) (lenOf pd_22 rfl) (hb hby d3_38) hml
  obtain ⟨b377, b378, k379, rfl, N376q, K376q, szn_b377, szn_b378, q376_E_b377, q376_F_b377_value, q376_F_b377_coder, q376_V_b378⟩ := hQ376
  have g_b377 : Z.heap.size ≤ b377 := Nat.le_trans XX375.1 szn_b377
  have sz_b377 : h0.size ≤ b377 := Nat.le_trans K375.1 szn_b377
  have g_b378 : Z.heap.size ≤ b378 := Nat.le_trans XX375.1 szn_b378
  have sz_b378 : h0.size ≤ b378 := Nat.le_trans K375.1 szn_b378
  have K376 : Keep h0 T376.heap [] := K375.trans K376q all0
  have XX376 : Ext Z.heap T376.heap := own_extK XX375 K376q all0
  have N376 := Fr.app N375 N376q
  have hs376 : ∀ x ∈ ([] : List Addr), Safe Z consts_1 T370.vm T375.heap x := all0
  have CQ376 : CHr Z consts_1 T370.vm T375.heap T370.vm T376.heap := CHr.keep K376q hs376 CR375.1
  have sf376_pv := Safe.keep K376q hs376 CR375.1 sf375_pv
  have sf376_b343 := Safe.keep K376q hs376 CR375.1 sf375_b343
  have sf376_b361 := Safe.keep K376q hs376 CR375.1 sf375_b361
  have sf376_b377 := Safe.keep K376q hs376 CR375.1 (Safe.new szn_b377)
  have sf376_b378 := Safe.keep K376q hs376 CR375.1 (Safe.new szn_b378)
  have CR376 := CR375.trans CQ376
  have hk376 := Nat.le_trans hk375 CQ376.2.1
  obtain ⟨fs, hr, hrun, hended, hend⟩ := leaveW (s := s) (vm₁ := T370.vm) X376 hS370 hk376 (v := some (.ref b377)) (fun h => by rw [hret] at h; cases h) hlk
  refine ⟨_, _, ?_, hrun, hended, _, _, rfl, ?_, ?_, hend.1, hend.2.1, hend.2.2.1, hend.2.2.2.mono (by decide) (by decide)⟩
  · show own_S p e below s₁ (mkF m 0 #[rv pv] []) _
    refine st343 _ ?_
    refine XS.dup X343.here hx rfl (hb hby d3_3) rfl rfl ?_
    refine st360 _ ?_
    refine own_aN X360 hx hby d3_7 ?_
    refine st363 _ ?_
    refine st364 _ ?_
    refine st365 _ ?_
    refine st366 _ ?_
    refine own_aN X366 hx hby d3_19 ?_
    refine st368 _ ?_
    refine st369 _ ?_
    refine st370 _ ?_
    refine st372 _ ?_
    refine own_aN X372 hx hby d3_31 ?_
    refine st374 _ ?_
    refine st375 _ ?_
    refine st376 _ ?_
    jvm_step X376.here [X376.here.top, hx, (hb hby d3_41), X376.method', hret, Value.isRef, FieldType.isReference]
    first | (intro acts; rw [hr _ acts rfl rfl rfl]) | rw [hr _ _ rfl rfl rfl]
    exact Steps.refl _
  · show Qrm342 Z w_CS qa qb qc ka kb kc w_DO k_w_DO w_DT k_w_DT pv h0 _ T376.heap _
    exact ⟨b377, b378, k379, rfl, N376, K376, sz_b377, sz_b378, q376_E_b377, q376_F_b377_value, q376_F_b377_coder, q376_V_b378⟩
  · rw [hs0]
    show CHr Z consts_1 s.vm h0 T376.vm T376.heap
    skip
    exact CR376.trans (CHv.at (s := s) (vm0 := T370.vm) X376 hZ370 (own_hEL hw) CR376.1)
def Qrm380 (Z : State) (w_CS qa qb qc : Int32) (ka kb kc : Nat) (w_DO : Addr) (k_w_DO : ClassId) (w_DT : Addr) (k_w_DT : ClassId) (pv : Addr) (h0 : Heap) (v : Option Value) (h : Heap) (L : List Loc) : Prop := ∃ b401 : Addr, ∃ b402 : Addr, ∃ k386 : ClassId, v = some (.ref b401) ∧ Fr Z.heap.size L ∧ Keep h0 h [] ∧ h0.size ≤ b401 ∧ h0.size ≤ b402 ∧ Exa Z h b401 "java/lang/String" ∧ Fld Z h b401 "java/lang/String" "value" "[B" (.ref b402) ∧ Fld Z h b401 "java/lang/String" "coder" "B" (.int (0 : Int32)) ∧ Arv Z h b402 k386 .byte (Int32.ofNat (((((([] : List Int32) ++ own_ds qa ka) ++ [(46 : Int32)]) ++ own_ds qb kb) ++ [(46 : Int32)]) ++ own_ds qc kc).length) (own_ch (((((([] : List Int32) ++ own_ds qa ka) ++ [(46 : Int32)]) ++ own_ds qb kb) ++ [(46 : Int32)]) ++ own_ds qc kc)) (.int (0 : Int32)) ∧ Exa Z h b402 "[B"
theorem rm380 (l : Launch) (Z : State) (a0 : Array Value) (hw : own_HW Z a0) (ws : List Jvm.Cond) (w_CS qa qb qc : Int32) (ka kb kc : Nat) (w_DO : Addr) (k_w_DO : ClassId) (w_DT : Addr) (k_w_DT : ClassId) (pv : Addr) (h0 : Heap) (Z0 : Ext Z.heap h0) (S_w_CS : own_w_CS Z w_CS) (S_w_DO : own_Sw_DO Z w_DO) (A_w_DO : Arv Z Z.heap w_DO k_w_DO .byte (100 : Int32) own_ones (.int (0 : Int32))) (S_w_DT : own_Sw_DT Z w_DT) (A_w_DT : Arv Z Z.heap w_DT k_w_DT .byte (100 : Int32) own_tens (.int (0 : Int32))) (E_pv : Exa Z h0 pv "com/example/tenderd/tenderd/core/ProtocolVersion") (F_pv_major : Fld Z h0 pv "com/example/tenderd/tenderd/core/ProtocolVersion" "major" "I" (.int qa)) (F_pv_minor : Fld Z h0 pv "com/example/tenderd/tenderd/core/ProtocolVersion" "minor" "I" (.int qb)) (F_pv_revision : Fld Z h0 pv "com/example/tenderd/tenderd/core/ProtocolVersion" "revision" "I" (.int qc)) (hc1 : ¬ (w_CS = (0 : Int32))) (hc79 : own_nd qa ka) (hc80 : ([] : List Int32).length + ka ≤ 16) (hc81 : (([] : List Int32) ++ own_ds qa ka).length + 1 ≤ 16) (hc82 : own_nd qb kb) (hc83 : ((([] : List Int32) ++ own_ds qa ka) ++ [(46 : Int32)]).length + kb ≤ 16) (hc84 : (((([] : List Int32) ++ own_ds qa ka) ++ [(46 : Int32)]) ++ own_ds qb kb).length + 1 ≤ 16) (hc85 : own_nd qc kc) (hc86 : ((((([] : List Int32) ++ own_ds qa ka) ++ [(46 : Int32)]) ++ own_ds qb kb) ++ [(46 : Int32)]).length + kc ≤ 16) (hc88 : (Int32.ofNat (((((([] : List Int32) ++ own_ds qa ka) ++ [(46 : Int32)]) ++ own_ds qb kb) ++ [(46 : Int32)]) ++ own_ds qc kc).length) = (16 : Int32)) (hc89 : (((((([] : List Int32) ++ own_ds qa ka) ++ [(46 : Int32)]) ++ own_ds qb kb) ++ [(46 : Int32)]) ++ own_ds qc kc).length = 16) :
    own_metW l y_30 prog_22_method_5_code 1 (some (.object "java/lang/String")) ws ({ frames := 7, cells := 10, slots := 200, locals := 140 } : Room) Z #[(.ref pv)] h0 (Qrm380 Z w_CS qa qb qc ka kb kc w_DO k_w_DO w_DT k_w_DT pv h0) := by
  refine own_startW (plainFor_of_name pn_7) (fun m => ef_prog_22_method_5_R m pv) ?_
  intro p e s m below meth c s₁ hx hby hml hown hnm X0 hZ e0 hret hlk hs0 hC0
  have N0 := Fr.nil Z.heap.size
  have CR0 : CHr Z consts_1 s.vm h0 s.vm h0 := CHr.refl hC0
  have hS0 : s.Since s.vm 0 := (State.WarmedH.refl s).since 0
  have hk0 : 0 ≤ h0.size := Nat.zero_le _
  obtain ⟨T381, h381, X381, e381, E381, A381, D381, -, st381⟩ := newO X0 hx hZ hown (own_w hw 21 rfl) (own_w hw 22 rfl) (own_w hw 23 rfl) e0 (g := (mkF m 0 #[rv pv] [])) rfl (hb hby d3_0) (by decide) (by decide)
  obtain ⟨b381, g381⟩ : ∃ z, z = h0.size := ⟨_, rfl⟩
  rw [← g381] at A381 D381 st381
  have g_b381 : Z.heap.size ≤ b381 := Nat.le_trans Z0.1 (Nat.le_of_eq g381.symm)
  have sz_b381 : h0.size ≤ b381 := Nat.le_trans (Keep.refl h0 []).1 (Nat.le_of_eq g381.symm)
  have F_b381_value : Fld Z h381 b381 "java/lang/AbstractStringBuilder" "value" "[B" .null := D381 (Or.inl (own_w hw 38 rfl)) (ty := (.array .byte)) (by decide)
  have F_b381_coder : Fld Z h381 b381 "java/lang/AbstractStringBuilder" "coder" "B" (.int (0 : Int32)) := D381 (Or.inl (own_w hw 40 rfl)) (ty := .byte) (by decide)
  have F_b381_count : Fld Z h381 b381 "java/lang/AbstractStringBuilder" "count" "I" (.int (0 : Int32)) := D381 (Or.inl (own_w hw 52 rfl)) (ty := .int) (by decide)
  have K381 : Keep h0 h381 [] := (Keep.refl h0 []).ext E381
  have XX381 : Ext Z.heap h381 := own_ext2 Z0 E381
  have CQ381 : CHr Z consts_1 s.vm h0 s.vm h381 := CHr.ext E381 CR0.1
  have CR381 := CR0.trans CQ381
  have hk381 := Nat.le_trans hk0 CQ381.2.1
  have sf382_pv : Safe Z consts_1 s.vm h381 pv := Safe.exa hZ.alike (E_pv.ext E381) (by decide) (by decide)
  have sf383_b381 : Safe Z consts_1 s.vm h381 b381 := Safe.exa hZ.alike A381 (by decide) (by decide)
  obtain ⟨_, T384, Lc384, X384, hQ384, st384⟩ := own_special (y := y_29) X381 hx hZ hown rfl (own_w hw 24 rfl) (own_w hw 25 rfl) (own_w hw 23 rfl) (own_w hw 26 rfl) (rm346 l Z a0 hw [] w_CS b381 h381 XX381 S_w_CS A381 F_b381_coder F_b381_count F_b381_value g_b381 hc1) e381 b381 (g := (mkF m 4 #[rv pv] [(.ref b381), (.ref b381)])) (argsL := []) (rest := [(.ref b381)]) (W := 1) (lenOf pd_19 rfl) (hb hby d3_4) hml
  obtain ⟨b385, k386, rfl, N384q, K384q, szn_b385, q384_E_b381, q384_F_b381_coder, q384_F_b381_count, q384_F_b381_value, q384_V_b385, q384_E_b385⟩ := hQ384
  have g_b385 : Z.heap.size ≤ b385 := Nat.le_trans XX381.1 szn_b385
  have sz_b385 : h0.size ≤ b385 := Nat.le_trans K381.1 szn_b385
  have K384 : Keep h0 T384.heap [] := K381.trans K384q (allS (Or.inr sz_b381) all0)
  have XX384 : Ext Z.heap T384.heap := own_extK XX381 K384q (allS g_b381 all0)
  have N384 := Fr.app N0 N384q
  have hs384 : ∀ x ∈ [b381], Safe Z consts_1 s.vm h381 x := (allS sf383_b381 all0)
  have CQ384 : CHr Z consts_1 s.vm h381 s.vm T384.heap := CHr.keep K384q hs384 CR381.1
  have sf384_pv := Safe.keep K384q hs384 CR381.1 sf382_pv
  have sf384_b381 := Safe.keep K384q hs384 CR381.1 sf383_b381
  have sf384_b385 := Safe.keep K384q hs384 CR381.1 (Safe.new szn_b385)
  have CR384 := CR381.trans CQ384
  have hk384 := Nat.le_trans hk381 CQ384.2.1
  have ne_pv_b381 : pv ≠ b381 := Nat.ne_of_lt (Nat.lt_of_lt_of_le E_pv.lt (Nat.le_of_eq g381.symm))
  obtain ⟨T387, X387, e387, st387⟩ := getF X384 hx hZ hown (host := "") (Or.inl (own_w hw 10 rfl)) Via.refl rfl ((F_pv_major.ext E381).keep K384q (ninS ne_pv_b381 (nin0))) (g := (mkF m 8 #[rv pv] [(.ref pv), (.ref b381)])) rfl rfl (hb hby d3_8)
  have ne_b381_b385 : b381 ≠ b385 := Nat.ne_of_lt (Nat.lt_of_lt_of_le A381.lt szn_b385)
  obtain ⟨_, T388, Lc388, X388, hQ388, st388⟩ := own_virtual (y := y_11) X387 hx hZ hown (own_w hw 41 rfl) (own_w hw 42 rfl) (own_w hw 44 rfl) (own_w hw 43 rfl) (own_w hw 23 rfl) (own_w hw 45 rfl) (own_apI_n16 l Z a0 hw [] w_CS qa ka w_DO k_w_DO w_DT k_w_DT b381 b385 k386 ([] : List Int32) T384.heap XX384 S_w_CS S_w_DO A_w_DO S_w_DT A_w_DT q384_E_b381 q384_F_b381_value q384_F_b381_coder q384_F_b381_count q384_V_b385 g_b381 g_b385 hc79 hc80 hc1 ne_b381_b385 (Ne.symm ne_b381_b385)) e387 q384_E_b381 (g := (mkF m 11 #[rv pv] [(.int qa), (.ref b381)])) (argsL := [(.int qa)]) (rest := []) (W := 0) (lenOf pd_20 rfl) (hb hby d3_11) hml
  obtain ⟨rfl, N388q, K388q, q388_E_b381, q388_F_b381_value, q388_F_b381_coder, q388_F_b381_count, q388_V_b385⟩ := hQ388
  have K388 : Keep h0 T388.heap [] := K384.trans K388q (allS (Or.inr sz_b381) (allS (Or.inr sz_b385) all0))
  have XX388 : Ext Z.heap T388.heap := own_extK XX384 K388q (allS g_b381 (allS g_b385 all0))
  have N388 := Fr.app N384 N388q
  have hs388 : ∀ x ∈ [b381, b385], Safe Z consts_1 s.vm T384.heap x := (allS sf384_b381 (allS sf384_b385 all0))
  have CQ388 : CHr Z consts_1 s.vm T384.heap s.vm T388.heap := CHr.keep K388q hs388 CR384.1
  have sf388_pv := Safe.keep K388q hs388 CR384.1 sf384_pv
  have sf388_b381 := Safe.keep K388q hs388 CR384.1 sf384_b381
  have sf388_b385 := Safe.keep K388q hs388 CR384.1 sf384_b385
  have CR388 := CR384.trans CQ388
  have hk388 := Nat.le_trans hk384 CQ388.2.1
  obtain ⟨ba389, T389, h389, k1_389, bb389, kb389, X389, e389, E389, hS389, hk389, hZ389, hown389, EA389, FC389, FV389, AV389, -, -, hC389, -, hn389, st389⟩ := ldcCH (s := s) (vm0 := s.vm) X388 hx hZ hown (own_w hw 71 rfl) (own_wS hw) rfl hS0 hk388 (own_hEL hw) (List.mem_of_getElem? (i := 0) rfl) CR388.1 (vs := [(.int (46 : Int32))]) (z := (1 : Int32)) ⟨by decide, rfl⟩ (by decide) (by decide) (g := (mkF m 14 #[rv pv] [(.ref b381)])) rfl (hb hby d3_14) (n := 4) (by decide) (by decide) (by decide) (by decide)
  have sf389_pv := hC389.safe (((E_pv.ext E381).keep K384q).keep K388q).lt sf388_pv
  have sf389_b381 := hC389.safe q388_E_b381.lt sf388_b381
  have sf389_b385 := hC389.safe q388_V_b385.lt sf388_b385
  have CR389 := CR388.trans hC389
  have ne_pv_ba389 : pv ≠ ba389 := (hn389 _ sf389_pv).1
  have ne_pv_bb389 : pv ≠ bb389 := (hn389 _ sf389_pv).2
  have ne_b381_ba389 : b381 ≠ ba389 := (hn389 _ sf389_b381).1
  have ne_b381_bb389 : b381 ≠ bb389 := (hn389 _ sf389_b381).2
  have ne_b385_ba389 : b385 ≠ ba389 := (hn389 _ sf389_b385).1
  have ne_b385_bb389 : b385 ≠ bb389 := (hn389 _ sf389_b385).2
  have K389 : Keep h0 h389 [] := K388.ext E389
  have XX389 : Ext Z.heap h389 := own_ext2 XX388 E389
  obtain ⟨_, T390, Lc390, X390, hQ390, st390⟩ := own_virtual (y := y_18) X389 hx hZ389 hown389 (own_w hw 77 rfl) (own_w hw 78 rfl) (own_w hw 80 rfl) (own_w hw 79 rfl) (own_w hw 23 rfl) (own_w hw 81 rfl) (own_apS_n16 l Z a0 hw [] w_CS b381 b385 k386 (([] : List Int32) ++ own_ds qa ka) ba389 bb389 kb389 h389 XX389 S_w_CS (q388_E_b381.ext E389) (q388_F_b381_value.ext E389) (q388_F_b381_coder.ext E389) (q388_F_b381_count.ext E389) (q388_V_b385.ext E389) EA389 FC389 FV389 AV389 g_b381 g_b385 hc1 hc81 ne_b381_b385 (Ne.symm ne_b381_b385)) e389 (q388_E_b381.ext E389) (g := (mkF m 16 #[rv pv] [(.ref ba389), (.ref b381)])) (argsL := [(.ref ba389)]) (rest := []) (W := 0) (lenOf pd_21 rfl) (hb hby d3_16) hml
  obtain ⟨rfl, N390q, K390q, q390_E_b381, q390_F_b381_value, q390_F_b381_coder, q390_F_b381_count, q390_V_b385⟩ := hQ390
  have K390 : Keep h0 T390.heap [] := K389.trans K390q (allS (Or.inr sz_b381) (allS (Or.inr sz_b385) all0))
  have XX390 : Ext Z.heap T390.heap := own_extK XX389 K390q (allS g_b381 (allS g_b385 all0))
  have N390 := Fr.app N388 N390q
  have hs390 : ∀ x ∈ [b381, b385], Safe Z consts_1 T389.vm h389 x := (allS sf389_b381 (allS sf389_b385 all0))
  have CQ390 : CHr Z consts_1 T389.vm h389 T389.vm T390.heap := CHr.keep K390q hs390 CR389.1
  have sf390_pv := Safe.keep K390q hs390 CR389.1 sf389_pv
  have sf390_b381 := Safe.keep K390q hs390 CR389.1 sf389_b381
  have sf390_b385 := Safe.keep K390q hs390 CR389.1 sf389_b385
  have CR390 := CR389.trans CQ390
  have hk390 := Nat.le_trans hk389 CQ390.2.1
  have ne_pv_b385 : pv ≠ b385 := Nat.ne_of_lt (Nat.lt_of_lt_of_le (E_pv.ext E381).lt szn_b385)
  have f391_F_pv_minor : Fld Z T390.heap pv "com/example/tenderd/tenderd/core/ProtocolVersion" "minor" "I" (.int qb) := (((((F_pv_minor.ext E381).keep K384q (ninS ne_pv_b381 (nin0))).keep K388q (ninS ne_pv_b381 (ninS ne_pv_b385 (nin0)))).ext E389).keep K390q (ninS ne_pv_b381 (ninS ne_pv_b385 (nin0))))
  obtain ⟨T392, X392, e392, st392⟩ := getF X390 hx hZ389 hown389 (host := "") (Or.inl (own_w hw 12 rfl)) Via.refl rfl f391_F_pv_minor (g := (mkF m 20 #[rv pv] [(.ref pv), (.ref b381)])) rfl rfl (hb hby d3_20)
  obtain ⟨_, T393, Lc393, X393, hQ393, st393⟩ := own_virtual (y := y_11) X392 hx hZ389 hown389 (own_w hw 41 rfl) (own_w hw 42 rfl) (own_w hw 44 rfl) (own_w hw 43 rfl) (own_w hw 23 rfl) (own_w hw 45 rfl) (own_apI_n16 l Z a0 hw [] w_CS qb kb w_DO k_w_DO w_DT k_w_DT b381 b385 k386 ((([] : List Int32) ++ own_ds qa ka) ++ [(46 : Int32)]) T390.heap XX390 S_w_CS S_w_DO A_w_DO S_w_DT A_w_DT q390_E_b381 q390_F_b381_value q390_F_b381_coder q390_F_b381_count q390_V_b385 g_b381 g_b385 hc82 hc83 hc1 ne_b381_b385 (Ne.symm ne_b381_b385)) e392 q390_E_b381 (g := (mkF m 23 #[rv pv] [(.int qb), (.ref b381)])) (argsL := [(.int qb)]) (rest := []) (W := 0) (lenOf pd_20 rfl) (hb hby d3_23) hml
  obtain ⟨rfl, N393q, K393q, q393_E_b381, q393_F_b381_value, q393_F_b381_coder, q393_F_b381_count, q393_V_b385⟩ := hQ393
  have K393 : Keep h0 T393.heap [] := K390.trans K393q (allS (Or.inr sz_b381) (allS (Or.inr sz_b385) all0))
  have XX393 : Ext Z.heap T393.heap := own_extK XX390 K393q (allS g_b381 (allS g_b385 all0))
  have N393 := Fr.app N390 N393q
  have hs393 : ∀ x ∈ [b381, b385], Safe Z consts_1 T389.vm T390.heap x := (allS sf390_b381 (allS sf390_b385 all0))
  have CQ393 : CHr Z consts_1 T389.vm T390.heap T389.vm T393.heap := CHr.keep K393q hs393 CR390.1
  have sf393_pv := Safe.keep K393q hs393 CR390.1 sf390_pv
  have sf393_b381 := Safe.keep K393q hs393 CR390.1 sf390_b381
  have sf393_b385 := Safe.keep K393q hs393 CR390.1 sf390_b385
  have CR393 := CR390.trans CQ393
  have hk393 := Nat.le_trans hk390 CQ393.2.1
  have f395_E_pv : Exa Z T393.heap pv "com/example/tenderd/tenderd/core/ProtocolVersion" := ((((((E_pv.ext E381).keep K384q).keep K388q).ext E389).keep K390q).keep K393q)
  obtain ⟨ba394, T394, h394, k1_394, bb394, kb394, X394, e394, E394, hS394, hk394, hZ394, hown394, EA394, FC394, FV394, AV394, -, -, hC394, -, hn394, st394⟩ := ldcCH (s := s) (vm0 := T389.vm) X393 hx hZ389 hown389 (own_w hw 71 rfl) (own_wS hw) rfl hS389 hk393 (own_hEL hw) (List.mem_of_getElem? (i := 0) rfl) CR393.1 (vs := [(.int (46 : Int32))]) (z := (1 : Int32)) ⟨by decide, rfl⟩ (by decide) (by decide) (g := (mkF m 26 #[rv pv] [(.ref b381)])) rfl (hb hby d3_26) (n := 4) (by decide) (by decide) (by decide) (by decide)
  have sf394_pv := hC394.safe f395_E_pv.lt sf393_pv
  have sf394_b381 := hC394.safe q393_E_b381.lt sf393_b381
  have sf394_b385 := hC394.safe q393_V_b385.lt sf393_b385
  have CR394 := CR393.trans hC394
  have ne_pv_ba394 : pv ≠ ba394 := (hn394 _ sf394_pv).1
  have ne_pv_bb394 : pv ≠ bb394 := (hn394 _ sf394_pv).2
  have ne_b381_ba394 : b381 ≠ ba394 := (hn394 _ sf394_b381).1
  have ne_b381_bb394 : b381 ≠ bb394 := (hn394 _ sf394_b381).2
  have ne_b385_ba394 : b385 ≠ ba394 := (hn394 _ sf394_b385).1
  have ne_b385_bb394 : b385 ≠ bb394 := (hn394 _ sf394_b385).2
  have K394 : Keep h0 h394 [] := K393.ext E394
  have XX394 : Ext Z.heap h394 := own_ext2 XX393 E394
  obtain ⟨_, T396, Lc396, X396, hQ396, st396⟩ := own_virtual (y := y_18) X394 hx hZ394 hown394 (own_w hw 77 rfl) (own_w hw 78 rfl) (own_w hw 80 rfl) (own_w hw 79 rfl) (own_w hw 23 rfl) (own_w hw 81 rfl) (own_apS_n16 l Z a0 hw [] w_CS b381 b385 k386 (((([] : List Int32) ++ own_ds qa ka) ++ [(46 : Int32)]) ++ own_ds qb kb) ba394 bb394 kb394 h394 XX394 S_w_CS (q393_E_b381.ext E394) (q393_F_b381_value.ext E394) (q393_F_b381_coder.ext E394) (q393_F_b381_count.ext E394) (q393_V_b385.ext E394) EA394 FC394 FV394 AV394 g_b381 g_b385 hc1 hc84 ne_b381_b385 (Ne.symm ne_b381_b385)) e394 (q393_E_b381.ext E394) (g := (mkF m 28 #[rv pv] [(.ref ba394), (.ref b381)])) (argsL := [(.ref ba394)]) (rest := []) (W := 0) (lenOf pd_21 rfl) (hb hby d3_28) hml
  obtain ⟨rfl, N396q, K396q, q396_E_b381, q396_F_b381_value, q396_F_b381_coder, q396_F_b381_count, q396_V_b385⟩ := hQ396
  have K396 : Keep h0 T396.heap [] := K394.trans K396q (allS (Or.inr sz_b381) (allS (Or.inr sz_b385) all0))
  have XX396 : Ext Z.heap T396.heap := own_extK XX394 K396q (allS g_b381 (allS g_b385 all0))
  have N396 := Fr.app N393 N396q
  have hs396 : ∀ x ∈ [b381, b385], Safe Z consts_1 T394.vm h394 x := (allS sf394_b381 (allS sf394_b385 all0))
  have CQ396 : CHr Z consts_1 T394.vm h394 T394.vm T396.heap := CHr.keep K396q hs396 CR394.1
  have sf396_pv := Safe.keep K396q hs396 CR394.1 sf394_pv
  have sf396_b381 := Safe.keep K396q hs396 CR394.1 sf394_b381
  have sf396_b385 := Safe.keep K396q hs396 CR394.1 sf394_b385
  have CR396 := CR394.trans CQ396
  have hk396 := Nat.le_trans hk394 CQ396.2.1
  have f397_F_pv_revision : Fld Z T396.heap pv "com/example/tenderd/tenderd/core/ProtocolVersion" "revision" "I" (.int qc) := ((((((((F_pv_revision.ext E381).keep K384q (ninS ne_pv_b381 (nin0))).keep K388q (ninS ne_pv_b381 (ninS ne_pv_b385 (nin0)))).ext E389).keep K390q (ninS ne_pv_b381 (ninS ne_pv_b385 (nin0)))).keep K393q (ninS ne_pv_b381 (ninS ne_pv_b385 (nin0)))).ext E394).keep K396q (ninS ne_pv_b381 (ninS ne_pv_b385 (nin0))))
  obtain ⟨T398, X398, e398, st398⟩ := getF X396 hx hZ394 hown394 (host := "") (Or.inl (own_w hw 14 rfl)) Via.refl rfl f397_F_pv_revision (g := (mkF m 32 #[rv pv] [(.ref pv), (.ref b381)])) rfl rfl (hb hby d3_32)
  obtain ⟨_, T399, Lc399, X399, hQ399, st399⟩ := own_virtual (y := y_11) X398 hx hZ394 hown394 (own_w hw 41 rfl) (own_w hw 42 rfl) (own_w hw 44 rfl) (own_w hw 43 rfl) (own_w hw 23 rfl) (own_w hw 45 rfl) (own_apI_n16 l Z a0 hw [] w_CS qc kc w_DO k_w_DO w_DT k_w_DT b381 b385 k386 ((((([] : List Int32) ++ own_ds qa ka) ++ [(46 : Int32)]) ++ own_ds qb kb) ++ [(46 : Int32)]) T396.heap XX396 S_w_CS S_w_DO A_w_DO S_w_DT A_w_DT q396_E_b381 q396_F_b381_value q396_F_b381_coder q396_F_b381_count q396_V_b385 g_b381 g_b385 hc85 hc86 hc1 ne_b381_b385 (Ne.symm ne_b381_b385)) e398 q396_E_b381 (g := (mkF m 35 #[rv pv] [(.int qc), (.ref b381)])) (argsL := [(.int qc)]) (rest := []) (W := 0) (lenOf pd_20 rfl) (hb hby d3_35) hml
  obtain ⟨rfl, N399q, K399q, q399_E_b381, q399_F_b381_value, q399_F_b381_coder, q399_F_b381_count, q399_V_b385⟩ := hQ399
  have K399 : Keep h0 T399.heap [] := K396.trans K399q (allS (Or.inr sz_b381) (allS (Or.inr sz_b385) all0))
  have XX399 : Ext Z.heap T399.heap := own_extK XX396 K399q (allS g_b381 (allS g_b385 all0))
  have N399 := Fr.app N396 N399q
  have hs399 : ∀ x ∈ [b381, b385], Safe Z consts_1 T394.vm T396.heap x := (allS sf396_b381 (allS sf396_b385 all0))
  have CQ399 : CHr Z consts_1 T394.vm T396.heap T394.vm T399.heap := CHr.keep K399q hs399 CR396.1
  have sf399_pv := Safe.keep K399q hs399 CR396.1 sf396_pv
  have sf399_b381 := Safe.keep K399q hs399 CR396.1 sf396_b381
  have sf399_b385 := Safe.keep K399q hs399 CR396.1 sf396_b385
  have CR399 := CR396.trans CQ399
  have hk399 := Nat.le_trans hk396 CQ399.2.1
  have f403_E_b385 : Exa Z T399.heap b385 "[B" := (((((((q384_E_b385.keep K388q).ext E389).keep K390q).keep K393q).ext E394).keep K396q).keep K399q)
  obtain ⟨_, T400, Lc400, X400, hQ400, st400⟩ := own_virtual (y := y_27) X399 hx hZ394 hown394 (own_w hw 119 rfl) (own_w hw 120 rfl) (own_w hw 122 rfl) (own_w hw 121 rfl) (own_w hw 23 rfl) (own_w hw 123 rfl) (rm314 l Z a0 hw [] w_CS b381 b385 k386 (((((([] : List Int32) ++ own_ds qa ka) ++ [(46 : Int32)]) ++ own_ds qb kb) ++ [(46 : Int32)]) ++ own_ds qc kc) T399.heap XX399 S_w_CS q399_E_b381 q399_F_b381_value q399_F_b381_coder q399_F_b381_count q399_V_b385 f403_E_b385 hc1 hc88 hc89) rfl q399_E_b381 (g := (mkF m 38 #[rv pv] [(.ref b381)])) (argsL := []) (rest := []) (W := 0) (lenOf pd_22 rfl) (hb hby d3_38) hml
  obtain ⟨b401, b402, rfl, N400q, K400q, szn_b401, szn_b402, q400_E_b401, q400_F_b401_value, q400_F_b401_coder, q400_V_b402, q400_E_b402⟩ := hQ400
  have g_b401 : Z.heap.size ≤ b401 := Nat.le_trans XX399.1 szn_b401
  have sz_b401 : h0.size ≤ b401 := Nat.le_trans K399.1 szn_b401
  have g_b402 : Z.heap.size ≤ b402 := Nat.le_trans XX399.1 szn_b402
  have sz_b402 : h0.size ≤ b402 := Nat.le_trans K399.1 szn_b402
  have K400 : Keep h0 T400.heap [] := K399.trans K400q all0
  have XX400 : Ext Z.heap T400.heap := own_extK XX399 K400q all0
  have N400 := Fr.app N399 N400q
  have hs400 : ∀ x ∈ ([] : List Addr), Safe Z consts_1 T394.vm T399.heap x := all0
  have CQ400 : CHr Z consts_1 T394.vm T399.heap T394.vm T400.heap := CHr.keep K400q hs400 CR399.1
  have sf400_pv := Safe.keep K400q hs400 CR399.1 sf399_pv
  have sf400_b381 := Safe.keep K400q hs400 CR399.1 sf399_b381
  have sf400_b385 := Safe.keep K400q hs400 CR399.1 sf399_b385
  have sf400_b401 := Safe.keep K400q hs400 CR399.1 (Safe.new szn_b401)
  have sf400_b402 := Safe.keep K400q hs400 CR399.1 (Safe.new szn_b402)
  have CR400 := CR399.trans CQ400
  have hk400 := Nat.le_trans hk399 CQ400.2.1
  obtain ⟨fs, hr, hrun, hended, hend⟩ := leaveW (s := s) (vm₁ := T394.vm) X400 hS394 hk400 (v := some (.ref b401)) (fun h => by rw [hret] at h; cases h) hlk
  refine ⟨_, _, ?_, hrun, hended, _, _, rfl, ?_, ?_, hend.1, hend.2.1, hend.2.2.1, hend.2.2.2.mono (by decide) (by decide)⟩
  · show own_S p e below s₁ (mkF m 0 #[rv pv] []) _
    refine st381 _ ?_
    refine XS.dup X381.here hx rfl (hb hby d3_3) rfl rfl ?_
    refine st384 _ ?_
    refine own_aN X384 hx hby d3_7 ?_
    refine st387 _ ?_
    refine st388 _ ?_
    refine st389 _ ?_
    refine st390 _ ?_
    refine own_aN X390 hx hby d3_19 ?_
    refine st392 _ ?_
    refine st393 _ ?_
    refine st394 _ ?_
    refine st396 _ ?_
    refine own_aN X396 hx hby d3_31 ?_
    refine st398 _ ?_
    refine st399 _ ?_
    refine st400 _ ?_
    jvm_step X400.here [X400.here.top, hx, (hb hby d3_41), X400.method', hret, Value.isRef, FieldType.isReference]
    first | (intro acts; rw [hr _ acts rfl rfl rfl]) | rw [hr _ _ rfl rfl rfl]
    exact Steps.refl _
  · show Qrm380 Z w_CS qa qb qc ka kb kc w_DO k_w_DO w_DT k_w_DT pv h0 _ T400.heap _
    exact ⟨b401, b402, k386, rfl, N400, K400, sz_b401, sz_b402, q400_E_b401, q400_F_b401_value, q400_F_b401_coder, q400_V_b402, q400_E_b402⟩
  · rw [hs0]
    show CHr Z consts_1 s.vm h0 T400.vm T400.heap
    skip
    exact CR400.trans (CHv.at (s := s) (vm0 := T394.vm) X400 hZ394 (own_hEL hw) CR400.1)
def Qrm404 (Z : State) (w_CS qa qb qc : Int32) (ka kb kc : Nat) (w_DO : Addr) (k_w_DO : ClassId) (w_DT : Addr) (k_w_DT : ClassId) (pv : Addr) (h0 : Heap) (v : Option Value) (h : Heap) (L : List Loc) : Prop := ∃ b428 : Addr, ∃ b429 : Addr, ∃ k430 : ClassId, v = some (.ref b428) ∧ Fr Z.heap.size L ∧ Keep h0 h [] ∧ h0.size ≤ b428 ∧ h0.size ≤ b429 ∧ Exa Z h b428 "java/lang/String" ∧ Fld Z h b428 "java/lang/String" "value" "[B" (.ref b429) ∧ Fld Z h b428 "java/lang/String" "coder" "B" (.int (0 : Int32)) ∧ Arv Z h b429 k430 .byte (Int32.ofNat (((((([] : List Int32) ++ own_ds qa ka) ++ [(46 : Int32)]) ++ own_ds qb kb) ++ [(46 : Int32)]) ++ own_ds qc kc).length) (own_ch (((((([] : List Int32) ++ own_ds qa ka) ++ [(46 : Int32)]) ++ own_ds qb kb) ++ [(46 : Int32)]) ++ own_ds qc kc)) (.int (0 : Int32))
theorem rm404 (l : Launch) (Z : State) (a0 : Array Value) (hw : own_HW Z a0) (ws : List Jvm.Cond) (w_CS qa qb qc : Int32) (ka kb kc : Nat) (w_DO : Addr) (k_w_DO : ClassId) (w_DT : Addr) (k_w_DT : ClassId) (pv : Addr) (h0 : Heap) (Z0 : Ext Z.heap h0) (S_w_CS : own_w_CS Z w_CS) (S_w_DO : own_Sw_DO Z w_DO) (A_w_DO : Arv Z Z.heap w_DO k_w_DO .byte (100 : Int32) own_ones (.int (0 : Int32))) (S_w_DT : own_Sw_DT Z w_DT) (A_w_DT : Arv Z Z.heap w_DT k_w_DT .byte (100 : Int32) own_tens (.int (0 : Int32))) (E_pv : Exa Z h0 pv "com/example/tenderd/tenderd/core/ProtocolVersion") (F_pv_major : Fld Z h0 pv "com/example/tenderd/tenderd/core/ProtocolVersion" "major" "I" (.int qa)) (F_pv_minor : Fld Z h0 pv "com/example/tenderd/tenderd/core/ProtocolVersion" "minor" "I" (.int qb)) (F_pv_revision : Fld Z h0 pv "com/example/tenderd/tenderd/core/ProtocolVersion" "revision" "I" (.int qc)) (hc1 : ¬ (w_CS = (0 : Int32))) (hc79 : own_nd qa ka) (hc80 : ([] : List Int32).length + ka ≤ 16) (hc81 : (([] : List Int32) ++ own_ds qa ka).length + 1 ≤ 16) (hc82 : own_nd qb kb) (hc90 : own_gw (((([] : List Int32) ++ own_ds qa ka) ++ [(46 : Int32)]).length + kb) ) (hc91 : ((([] : List Int32) ++ own_ds qa ka) ++ [(46 : Int32)]).length ≤ 16) (hc92 : (((([] : List Int32) ++ own_ds qa ka) ++ [(46 : Int32)]) ++ own_ds qb kb).length + 1 ≤ 34) (hc85 : own_nd qc kc) (hc93 : ((((([] : List Int32) ++ own_ds qa ka) ++ [(46 : Int32)]) ++ own_ds qb kb) ++ [(46 : Int32)]).length + kc ≤ 34) (hc94 : (((((([] : List Int32) ++ own_ds qa ka) ++ [(46 : Int32)]) ++ own_ds qb kb) ++ [(46 : Int32)]) ++ own_ds qc kc).length < 34) :
    own_metW l y_30 prog_22_method_5_code 1 (some (.object "java/lang/String")) ws ({ frames := 7, cells := 10, slots := 200, locals := 140 } : Room) Z #[(.ref pv)] h0 (Qrm404 Z w_CS qa qb qc ka kb kc w_DO k_w_DO w_DT k_w_DT pv h0) := by
  refine own_startW (plainFor_of_name pn_7) (fun m => ef_prog_22_method_5_R m pv) ?_
  intro p e s m below meth c s₁ hx hby hml hown hnm X0 hZ e0 hret hlk hs0 hC0
  have N0 := Fr.nil Z.heap.size
  have CR0 : CHr Z consts_1 s.vm h0 s.vm h0 := CHr.refl hC0
  have hS0 : s.Since s.vm 0 := (State.WarmedH.refl s).since 0
  have hk0 : 0 ≤ h0.size := Nat.zero_le _
  obtain ⟨T405, h405, X405, e405, E405, A405, D405, -, st405⟩ := newO X0 hx hZ hown (own_w hw 21 rfl) (own_w hw 22 rfl) (own_w hw 23 rfl) e0 (g := (mkF m 0 #[rv pv] [])) rfl (hb hby d3_0) (by decide) (by decide)
  obtain ⟨b405, g405⟩ : ∃ z, z = h0.size := ⟨_, rfl⟩
  rw [← g405] at A405 D405 st405
  have g_b405 : Z.heap.size ≤ b405 := Nat.le_trans Z0.1 (Nat.le_of_eq g405.symm)
  have sz_b405 : h0.size ≤ b405 := Nat.le_trans (Keep.refl h0 []).1 (Nat.le_of_eq g405.symm)
  have F_b405_value : Fld Z h405 b405 "java/lang/AbstractStringBuilder" "value" "[B" .null := D405 (Or.inl (own_w hw 38 rfl)) (ty := (.array .byte)) (by decide)
  have F_b405_coder : Fld Z h405 b405 "java/lang/AbstractStringBuilder" "coder" "B" (.int (0 : Int32)) := D405 (Or.inl (own_w hw 40 rfl)) (ty := .byte) (by decide)
  have F_b405_count : Fld Z h405 b405 "java/lang/AbstractStringBuilder" "count" "I" (.int (0 : Int32)) := D405 (Or.inl (own_w hw 52 rfl)) (ty := .int) (by decide)
  have K405 : Keep h0 h405 [] := (Keep.refl h0 []).ext E405
  have XX405 : Ext Z.heap h405 := own_ext2 Z0 E405
  have CQ405 : CHr Z consts_1 s.vm h0 s.vm h405 := CHr.ext E405 CR0.1
  have CR405 := CR0.trans CQ405
  have hk405 := Nat.le_trans hk0 CQ405.2.1
  have sf406_pv : Safe Z consts_1 s.vm h405 pv := Safe.exa hZ.alike (E_pv.ext E405) (by decide) (by decide)
  have sf407_b405 : Safe Z consts_1 s.vm h405 b405 := Safe.exa hZ.alike A405 (by decide) (by decide)
  obtain ⟨_, T408, Lc408, X408, hQ408, st408⟩ := own_special (y := y_29) X405 hx hZ hown rfl (own_w hw 24 rfl) (own_w hw 25 rfl) (own_w hw 23 rfl) (own_w hw 26 rfl) (rm346 l Z a0 hw [] w_CS b405 h405 XX405 S_w_CS A405 F_b405_coder F_b405_count F_b405_value g_b405 hc1) e405 b405 (g := (mkF m 4 #[rv pv] [(.ref b405), (.ref b405)])) (argsL := []) (rest := [(.ref b405)]) (W := 1) (lenOf pd_19 rfl) (hb hby d3_4) hml
  obtain ⟨b409, k410, rfl, N408q, K408q, szn_b409, q408_E_b405, q408_F_b405_coder, q408_F_b405_count, q408_F_b405_value, q408_V_b409, q408_E_b409⟩ := hQ408
  have g_b409 : Z.heap.size ≤ b409 := Nat.le_trans XX405.1 szn_b409
  have sz_b409 : h0.size ≤ b409 := Nat.le_trans K405.1 szn_b409
  have K408 : Keep h0 T408.heap [] := K405.trans K408q (allS (Or.inr sz_b405) all0)
  have XX408 : Ext Z.heap T408.heap := own_extK XX405 K408q (allS g_b405 all0)
  have N408 := Fr.app N0 N408q
  have hs408 : ∀ x ∈ [b405], Safe Z consts_1 s.vm h405 x := (allS sf407_b405 all0)
  have CQ408 : CHr Z consts_1 s.vm h405 s.vm T408.heap := CHr.keep K408q hs408 CR405.1
  have sf408_pv := Safe.keep K408q hs408 CR405.1 sf406_pv
  have sf408_b405 := Safe.keep K408q hs408 CR405.1 sf407_b405
  have sf408_b409 := Safe.keep K408q hs408 CR405.1 (Safe.new szn_b409)
  have CR408 := CR405.trans CQ408
  have hk408 := Nat.le_trans hk405 CQ408.2.1
  have ne_pv_b405 : pv ≠ b405 := Nat.ne_of_lt (Nat.lt_of_lt_of_le E_pv.lt (Nat.le_of_eq g405.symm))
  obtain ⟨T411, X411, e411, st411⟩ := getF X408 hx hZ hown (host := "") (Or.inl (own_w hw 10 rfl)) Via.refl rfl ((F_pv_major.ext E405).keep K408q (ninS ne_pv_b405 (nin0))) (g := (mkF m 8 #[rv pv] [(.ref pv), (.ref b405)])) rfl rfl (hb hby d3_8)
  have ne_b405_b409 : b405 ≠ b409 := Nat.ne_of_lt (Nat.lt_of_lt_of_le A405.lt szn_b409)
  obtain ⟨_, T412, Lc412, X412, hQ412, st412⟩ := own_virtual (y := y_11) X411 hx hZ hown (own_w hw 41 rfl) (own_w hw 42 rfl) (own_w hw 44 rfl) (own_w hw 43 rfl) (own_w hw 23 rfl) (own_w hw 45 rfl) (own_apI_n16 l Z a0 hw [] w_CS qa ka w_DO k_w_DO w_DT k_w_DT b405 b409 k410 ([] : List Int32) T408.heap XX408 S_w_CS S_w_DO A_w_DO S_w_DT A_w_DT q408_E_b405 q408_F_b405_value q408_F_b405_coder q408_F_b405_count q408_V_b409 g_b405 g_b409 hc79 hc80 hc1 ne_b405_b409 (Ne.symm ne_b405_b409)) e411 q408_E_b405 (g := (mkF m 11 #[rv pv] [(.int qa), (.ref b405)])) (argsL := [(.int qa)]) (rest := []) (W := 0) (lenOf pd_20 rfl) (hb hby d3_11) hml
  obtain ⟨rfl, N412q, K412q, q412_E_b405, q412_F_b405_value, q412_F_b405_coder, q412_F_b405_count, q412_V_b409⟩ := hQ412
  have K412 : Keep h0 T412.heap [] := K408.trans K412q (allS (Or.inr sz_b405) (allS (Or.inr sz_b409) all0))
  have XX412 : Ext Z.heap T412.heap := own_extK XX408 K412q (allS g_b405 (allS g_b409 all0))
  have N412 := Fr.app N408 N412q
  have hs412 : ∀ x ∈ [b405, b409], Safe Z consts_1 s.vm T408.heap x := (allS sf408_b405 (allS sf408_b409 all0))
  have CQ412 : CHr Z consts_1 s.vm T408.heap s.vm T412.heap := CHr.keep K412q hs412 CR408.1
  have sf412_pv := Safe.keep K412q hs412 CR408.1 sf408_pv
  have sf412_b405 := Safe.keep K412q hs412 CR408.1 sf408_b405
  have sf412_b409 := Safe.keep K412q hs412 CR408.1 sf408_b409
  have CR412 := CR408.trans CQ412
  have hk412 := Nat.le_trans hk408 CQ412.2.1
  obtain ⟨ba413, T413, h413, k1_413, bb413, kb413, X413, e413, E413, hS413, hk413, hZ413, hown413, EA413, FC413, FV413, AV413, -, -, hC413, -, hn413, st413⟩ := ldcCH (s := s) (vm0 := s.vm) X412 hx hZ hown (own_w hw 71 rfl) (own_wS hw) rfl hS0 hk412 (own_hEL hw) (List.mem_of_getElem? (i := 0) rfl) CR412.1 (vs := [(.int (46 : Int32))]) (z := (1 : Int32)) ⟨by decide, rfl⟩ (by decide) (by decide) (g := (mkF m 14 #[rv pv] [(.ref b405)])) rfl (hb hby d3_14) (n := 4) (by decide) (by decide) (by decide) (by decide)
  have sf413_pv := hC413.safe (((E_pv.ext E405).keep K408q).keep K412q).lt sf412_pv
  have sf413_b405 := hC413.safe q412_E_b405.lt sf412_b405
  have sf413_b409 := hC413.safe q412_V_b409.lt sf412_b409
  have CR413 := CR412.trans hC413
  have ne_pv_ba413 : pv ≠ ba413 := (hn413 _ sf413_pv).1
  have ne_pv_bb413 : pv ≠ bb413 := (hn413 _ sf413_pv).2
  have ne_b405_ba413 : b405 ≠ ba413 := (hn413 _ sf413_b405).1
  have ne_b405_bb413 : b405 ≠ bb413 := (hn413 _ sf413_b405).2
  have ne_b409_ba413 : b409 ≠ ba413 := (hn413 _ sf413_b409).1
  have ne_b409_bb413 : b409 ≠ bb413 := (hn413 _ sf413_b409).2
  have K413 : Keep h0 h413 [] := K412.ext E413
  have XX413 : Ext Z.heap h413 := own_ext2 XX412 E413
  obtain ⟨_, T414, Lc414, X414, hQ414, st414⟩ := own_virtual (y := y_18) X413 hx hZ413 hown413 (own_w hw 77 rfl) (own_w hw 78 rfl) (own_w hw 80 rfl) (own_w hw 79 rfl) (own_w hw 23 rfl) (own_w hw 81 rfl) (own_apS_n16 l Z a0 hw [] w_CS b405 b409 k410 (([] : List Int32) ++ own_ds qa ka) ba413 bb413 kb413 h413 XX413 S_w_CS (q412_E_b405.ext E413) (q412_F_b405_value.ext E413) (q412_F_b405_coder.ext E413) (q412_F_b405_count.ext E413) (q412_V_b409.ext E413) EA413 FC413 FV413 AV413 g_b405 g_b409 hc1 hc81 ne_b405_b409 (Ne.symm ne_b405_b409)) e413 (q412_E_b405.ext E413) (g := (mkF m 16 #[rv pv] [(.ref ba413), (.ref b405)])) (argsL := [(.ref ba413)]) (rest := []) (W := 0) (lenOf pd_21 rfl) (hb hby d3_16) hml
  obtain ⟨rfl, N414q, K414q, q414_E_b405, q414_F_b405_value, q414_F_b405_coder, q414_F_b405_count, q414_V_b409⟩ := hQ414
  have K414 : Keep h0 T414.heap [] := K413.trans K414q (allS (Or.inr sz_b405) (allS (Or.inr sz_b409) all0))
  have XX414 : Ext Z.heap T414.heap := own_extK XX413 K414q (allS g_b405 (allS g_b409 all0))
  have N414 := Fr.app N412 N414q
  have hs414 : ∀ x ∈ [b405, b409], Safe Z consts_1 T413.vm h413 x := (allS sf413_b405 (allS sf413_b409 all0))
  have CQ414 : CHr Z consts_1 T413.vm h413 T413.vm T414.heap := CHr.keep K414q hs414 CR413.1
  have sf414_pv := Safe.keep K414q hs414 CR413.1 sf413_pv
  have sf414_b405 := Safe.keep K414q hs414 CR413.1 sf413_b405
  have sf414_b409 := Safe.keep K414q hs414 CR413.1 sf413_b409
  have CR414 := CR413.trans CQ414
  have hk414 := Nat.le_trans hk413 CQ414.2.1
  have ne_pv_b409 : pv ≠ b409 := Nat.ne_of_lt (Nat.lt_of_lt_of_le (E_pv.ext E405).lt szn_b409)
  have f415_F_pv_minor : Fld Z T414.heap pv "com/example/tenderd/tenderd/core/ProtocolVersion" "minor" "I" (.int qb) := (((((F_pv_minor.ext E405).keep K408q (ninS ne_pv_b405 (nin0))).keep K412q (ninS ne_pv_b405 (ninS ne_pv_b409 (nin0)))).ext E413).keep K414q (ninS ne_pv_b405 (ninS ne_pv_b409 (nin0))))
  obtain ⟨T416, X416, e416, st416⟩ := getF X414 hx hZ413 hown413 (host := "") (Or.inl (own_w hw 12 rfl)) Via.refl rfl f415_F_pv_minor (g := (mkF m 20 #[rv pv] [(.ref pv), (.ref b405)])) rfl rfl (hb hby d3_20)
  obtain ⟨_, T417, Lc417, X417, hQ417, st417⟩ := own_virtual (y := y_11) X416 hx hZ413 hown413 (own_w hw 41 rfl) (own_w hw 42 rfl) (own_w hw 44 rfl) (own_w hw 43 rfl) (own_w hw 23 rfl) (own_w hw 45 rfl) (own_apI_g l Z a0 hw [] w_CS qb kb w_DO k_w_DO w_DT k_w_DT b405 b409 k410 ((([] : List Int32) ++ own_ds qa ka) ++ [(46 : Int32)]) T414.heap XX414 S_w_CS S_w_DO A_w_DO S_w_DT A_w_DT q414_E_b405 q414_F_b405_value q414_F_b405_coder q414_F_b405_count q414_V_b409 g_b405 hc82 hc90 hc91 hc1) e416 q414_E_b405 (g := (mkF m 23 #[rv pv] [(.int qb), (.ref b405)])) (argsL := [(.int qb)]) (rest := []) (W := 0) (lenOf pd_20 rfl) (hb hby d3_23) hml
  obtain ⟨b418, k419, rfl, N417q, K417q, szn_b418, q417_E_b405, q417_F_b405_value, q417_F_b405_coder, q417_F_b405_count, q417_V_b418⟩ := hQ417
  have g_b418 : Z.heap.size ≤ b418 := Nat.le_trans XX414.1 szn_b418
  have sz_b418 : h0.size ≤ b418 := Nat.le_trans K414.1 szn_b418
  have K417 : Keep h0 T417.heap [] := K414.trans K417q (allS (Or.inr sz_b405) all0)
  have XX417 : Ext Z.heap T417.heap := own_extK XX414 K417q (allS g_b405 all0)
  have N417 := Fr.app N414 N417q
  have hs417 : ∀ x ∈ [b405], Safe Z consts_1 T413.vm T414.heap x := (allS sf414_b405 all0)
  have CQ417 : CHr Z consts_1 T413.vm T414.heap T413.vm T417.heap := CHr.keep K417q hs417 CR414.1
  have sf417_pv := Safe.keep K417q hs417 CR414.1 sf414_pv
  have sf417_b405 := Safe.keep K417q hs417 CR414.1 sf414_b405
  have sf417_b409 := Safe.keep K417q hs417 CR414.1 sf414_b409
  have sf417_b418 := Safe.keep K417q hs417 CR414.1 (Safe.new szn_b418)
  have CR417 := CR414.trans CQ417
  have hk417 := Nat.le_trans hk414 CQ417.2.1
  have f421_E_pv : Exa Z T417.heap pv "com/example/tenderd/tenderd/core/ProtocolVersion" := ((((((E_pv.ext E405).keep K408q).keep K412q).ext E413).keep K414q).keep K417q)
  have f422_V_b409 : Arv Z T417.heap b409 k410 .byte (16 : Int32) (own_buf 16 ((([] : List Int32) ++ own_ds qa ka) ++ [(46 : Int32)])) (.int (0 : Int32)) := (q414_V_b409.keep K417q (ninS (Ne.symm ne_b405_b409) (nin0)))
  obtain ⟨ba420, T420, h420, k1_420, bb420, kb420, X420, e420, E420, hS420, hk420, hZ420, hown420, EA420, FC420, FV420, AV420, -, -, hC420, -, hn420, st420⟩ := ldcCH (s := s) (vm0 := T413.vm) X417 hx hZ413 hown413 (own_w hw 71 rfl) (own_wS hw) rfl hS413 hk417 (own_hEL hw) (List.mem_of_getElem? (i := 0) rfl) CR417.1 (vs := [(.int (46 : Int32))]) (z := (1 : Int32)) ⟨by decide, rfl⟩ (by decide) (by decide) (g := (mkF m 26 #[rv pv] [(.ref b405)])) rfl (hb hby d3_26) (n := 4) (by decide) (by decide) (by decide) (by decide)
  have sf420_pv := hC420.safe f421_E_pv.lt sf417_pv
  have sf420_b405 := hC420.safe q417_E_b405.lt sf417_b405
  have sf420_b409 := hC420.safe f422_V_b409.lt sf417_b409
  have sf420_b418 := hC420.safe q417_V_b418.lt sf417_b418
  have CR420 := CR417.trans hC420
  have ne_pv_ba420 : pv ≠ ba420 := (hn420 _ sf420_pv).1
  have ne_pv_bb420 : pv ≠ bb420 := (hn420 _ sf420_pv).2
  have ne_b405_ba420 : b405 ≠ ba420 := (hn420 _ sf420_b405).1
  have ne_b405_bb420 : b405 ≠ bb420 := (hn420 _ sf420_b405).2
  have ne_b409_ba420 : b409 ≠ ba420 := (hn420 _ sf420_b409).1
  have ne_b409_bb420 : b409 ≠ bb420 := (hn420 _ sf420_b409).2
  have ne_b418_ba420 : b418 ≠ ba420 := (hn420 _ sf420_b418).1
  have ne_b418_bb420 : b418 ≠ bb420 := (hn420 _ sf420_b418).2
  have K420 : Keep h0 h420 [] := K417.ext E420
  have XX420 : Ext Z.heap h420 := own_ext2 XX417 E420
  have ne_b405_b418 : b405 ≠ b418 := Nat.ne_of_lt (Nat.lt_of_lt_of_le q414_E_b405.lt szn_b418)
  obtain ⟨_, T423, Lc423, X423, hQ423, st423⟩ := own_virtual (y := y_18) X420 hx hZ420 hown420 (own_w hw 77 rfl) (own_w hw 78 rfl) (own_w hw 80 rfl) (own_w hw 79 rfl) (own_w hw 23 rfl) (own_w hw 81 rfl) (own_apS_n34 l Z a0 hw [] w_CS b405 b418 k419 (((([] : List Int32) ++ own_ds qa ka) ++ [(46 : Int32)]) ++ own_ds qb kb) ba420 bb420 kb420 h420 XX420 S_w_CS (q417_E_b405.ext E420) (q417_F_b405_value.ext E420) (q417_F_b405_coder.ext E420) (q417_F_b405_count.ext E420) (q417_V_b418.ext E420) EA420 FC420 FV420 AV420 g_b405 g_b418 hc1 hc92 ne_b405_b418 (Ne.symm ne_b405_b418)) e420 (q417_E_b405.ext E420) (g := (mkF m 28 #[rv pv] [(.ref ba420), (.ref b405)])) (argsL := [(.ref ba420)]) (rest := []) (W := 0) (lenOf pd_21 rfl) (hb hby d3_28) hml
  obtain ⟨rfl, N423q, K423q, q423_E_b405, q423_F_b405_value, q423_F_b405_coder, q423_F_b405_count, q423_V_b418⟩ := hQ423
  have K423 : Keep h0 T423.heap [] := K420.trans K423q (allS (Or.inr sz_b405) (allS (Or.inr sz_b418) all0))
  have XX423 : Ext Z.heap T423.heap := own_extK XX420 K423q (allS g_b405 (allS g_b418 all0))
  have N423 := Fr.app N417 N423q
  have hs423 : ∀ x ∈ [b405, b418], Safe Z consts_1 T420.vm h420 x := (allS sf420_b405 (allS sf420_b418 all0))
  have CQ423 : CHr Z consts_1 T420.vm h420 T420.vm T423.heap := CHr.keep K423q hs423 CR420.1
  have sf423_pv := Safe.keep K423q hs423 CR420.1 sf420_pv
  have sf423_b405 := Safe.keep K423q hs423 CR420.1 sf420_b405
  have sf423_b409 := Safe.keep K423q hs423 CR420.1 sf420_b409
  have sf423_b418 := Safe.keep K423q hs423 CR420.1 sf420_b418
  have CR423 := CR420.trans CQ423
  have hk423 := Nat.le_trans hk420 CQ423.2.1
  have ne_pv_b418 : pv ≠ b418 := Nat.ne_of_lt (Nat.lt_of_lt_of_le (((((E_pv.ext E405).keep K408q).keep K412q).ext E413).keep K414q).lt szn_b418)
  have f424_F_pv_revision : Fld Z T423.heap pv "com/example/tenderd/tenderd/core/ProtocolVersion" "revision" "I" (.int qc) := ((((((((F_pv_revision.ext E405).keep K408q (ninS ne_pv_b405 (nin0))).keep K412q (ninS ne_pv_b405 (ninS ne_pv_b409 (nin0)))).ext E413).keep K414q (ninS ne_pv_b405 (ninS ne_pv_b409 (nin0)))).keep K417q (ninS ne_pv_b405 (nin0))).ext E420).keep K423q (ninS ne_pv_b405 (ninS ne_pv_b418 (nin0))))
  obtain ⟨T425, X425, e425, st425⟩ := getF X423 hx hZ420 hown420 (host := "") (Or.inl (own_w hw 14 rfl)) Via.refl rfl f424_F_pv_revision (g := (mkF m 32 #[rv pv] [(.ref pv), (.ref b405)])) rfl rfl (hb hby d3_32)
  obtain ⟨_, T426, Lc426, X426, hQ426, st426⟩ := own_virtual (y := y_11) X425 hx hZ420 hown420 (own_w hw 41 rfl) (own_w hw 42 rfl) (own_w hw 44 rfl) (own_w hw 43 rfl) (own_w hw 23 rfl) (own_w hw 45 rfl) (own_apI_n34 l Z a0 hw [] w_CS qc kc w_DO k_w_DO w_DT k_w_DT b405 b418 k419 ((((([] : List Int32) ++ own_ds qa ka) ++ [(46 : Int32)]) ++ own_ds qb kb) ++ [(46 : Int32)]) T423.heap XX423 S_w_CS S_w_DO A_w_DO S_w_DT A_w_DT q423_E_b405 q423_F_b405_value q423_F_b405_coder q423_F_b405_count q423_V_b418 g_b405 g_b418 hc85 hc93 hc1 ne_b405_b418 (Ne.symm ne_b405_b418)) e425 q423_E_b405 (g := (mkF m 35 #[rv pv] [(.int qc), (.ref b405)])) (argsL := [(.int qc)]) (rest := []) (W := 0) (lenOf pd_20 rfl) (hb hby d3_35) hml
  obtain ⟨rfl, N426q, K426q, q426_E_b405, q426_F_b405_value, q426_F_b405_coder, q426_F_b405_count, q426_V_b418⟩ := hQ426
  have K426 : Keep h0 T426.heap [] := K423.trans K426q (allS (Or.inr sz_b405) (allS (Or.inr sz_b418) all0))
  have XX426 : Ext Z.heap T426.heap := own_extK XX423 K426q (allS g_b405 (allS g_b418 all0))
  have N426 := Fr.app N423 N426q
  have hs426 : ∀ x ∈ [b405, b418], Safe Z consts_1 T420.vm T423.heap x := (allS sf423_b405 (allS sf423_b418 all0))
  have CQ426 : CHr Z consts_1 T420.vm T423.heap T420.vm T426.heap := CHr.keep K426q hs426 CR423.1
  have sf426_pv := Safe.keep K426q hs426 CR423.1 sf423_pv
  have sf426_b405 := Safe.keep K426q hs426 CR423.1 sf423_b405
  have sf426_b409 := Safe.keep K426q hs426 CR423.1 sf423_b409
  have sf426_b418 := Safe.keep K426q hs426 CR423.1 sf423_b418
  have CR426 := CR423.trans CQ426
  have hk426 := Nat.le_trans hk423 CQ426.2.1
  obtain ⟨_, T427, Lc427, X427, hQ427, st427⟩ := own_virtual (y := y_27) X426 hx hZ420 hown420 (own_w hw 119 rfl) (own_w hw 120 rfl) (own_w hw 122 rfl) (own_w hw 121 rfl) (own_w hw 23 rfl) (own_w hw 123 rfl) (rm274 l Z a0 hw [] w_CS b405 b418 k419 (((((([] : List Int32) ++ own_ds qa ka) ++ [(46 : Int32)]) ++ own_ds qb kb) ++ [(46 : Int32)]) ++ own_ds qc kc) T426.heap XX426 S_w_CS q426_E_b405 q426_F_b405_value q426_F_b405_coder q426_F_b405_count q426_V_b418 hc1 hc94) rfl q426_E_b405 (g := (mkF m 38 #[rv pv] [(.ref b405)])) (argsL := []) (rest := []) (W := 0) (lenOf pd_22 rfl) (hb hby d3_38) hml
  obtain ⟨b428, b429, k430, rfl, N427q, K427q, szn_b428, szn_b429, q427_E_b428, q427_F_b428_value, q427_F_b428_coder, q427_V_b429⟩ := hQ427
  have g_b428 : Z.heap.size ≤ b428 := Nat.le_trans XX426.1 szn_b428
  have sz_b428 : h0.size ≤ b428 := Nat.le_trans K426.1 szn_b428
  have g_b429 : Z.heap.size ≤ b429 := Nat.le_trans XX426.1 szn_b429
  have sz_b429 : h0.size ≤ b429 := Nat.le_trans K426.1 szn_b429
  have K427 : Keep h0 T427.heap [] := K426.trans K427q all0
  have XX427 : Ext Z.heap T427.heap := own_extK XX426 K427q all0
  have N427 := Fr.app N426 N427q
  have hs427 : ∀ x ∈ ([] : List Addr), Safe Z consts_1 T420.vm T426.heap x := all0
  have CQ427 : CHr Z consts_1 T420.vm T426.heap T420.vm T427.heap := CHr.keep K427q hs427 CR426.1
  have sf427_pv := Safe.keep K427q hs427 CR426.1 sf426_pv
  have sf427_b405 := Safe.keep K427q hs427 CR426.1 sf426_b405
  have sf427_b409 := Safe.keep K427q hs427 CR426.1 sf426_b409
  have sf427_b418 := Safe.keep K427q hs427 CR426.1 sf426_b418
  have sf427_b428 := Safe.keep K427q hs427 CR426.1 (Safe.new szn_b428)
  have sf427_b429 := Safe.keep K427q hs427 CR426.1 (Safe.new szn_b429)
  have CR427 := CR426.trans CQ427
  have hk427 := Nat.le_trans hk426 CQ427.2.1
  obtain ⟨fs, hr, hrun, hended, hend⟩ := leaveW (s := s) (vm₁ := T420.vm) X427 hS420 hk427 (v := some (.ref b428)) (fun h => by rw [hret] at h; cases h) hlk
  refine ⟨_, _, ?_, hrun, hended, _, _, rfl, ?_, ?_, hend.1, hend.2.1, hend.2.2.1, hend.2.2.2.mono (by decide) (by decide)⟩
  · show own_S p e below s₁ (mkF m 0 #[rv pv] []) _
    refine st405 _ ?_
    refine XS.dup X405.here hx rfl (hb hby d3_3) rfl rfl ?_
    refine st408 _ ?_
    refine own_aN X408 hx hby d3_7 ?_
    refine st411 _ ?_
    refine st412 _ ?_
    refine st413 _ ?_
    refine st414 _ ?_
    refine own_aN X414 hx hby d3_19 ?_
    refine st416 _ ?_
    refine st417 _ ?_
    refine st420 _ ?_
    refine st423 _ ?_
    refine own_aN X423 hx hby d3_31 ?_
    refine st425 _ ?_
    refine st426 _ ?_
    refine st427 _ ?_
    jvm_step X427.here [X427.here.top, hx, (hb hby d3_41), X427.method', hret, Value.isRef, FieldType.isReference]
    first | (intro acts; rw [hr _ acts rfl rfl rfl]) | rw [hr _ _ rfl rfl rfl]
    exact Steps.refl _
  · show Qrm404 Z w_CS qa qb qc ka kb kc w_DO k_w_DO w_DT k_w_DT pv h0 _ T427.heap _
    exact ⟨b428, b429, k430, rfl, N427, K427, sz_b428, sz_b429, q427_E_b428, q427_F_b428_value, q427_F_b428_coder, q427_V_b429⟩
  · rw [hs0]
    show CHr Z consts_1 s.vm h0 T427.vm T427.heap
    skip
    exact CR427.trans (CHv.at (s := s) (vm0 := T420.vm) X427 hZ420 (own_hEL hw) CR427.1)
def Qrm431 (Z : State) (w_CS qa qb qc : Int32) (ka kb kc : Nat) (w_DO : Addr) (k_w_DO : ClassId) (w_DT : Addr) (k_w_DT : ClassId) (pv : Addr) (h0 : Heap) (v : Option Value) (h : Heap) (L : List Loc) : Prop := ∃ b454 : Addr, ∃ b455 : Addr, ∃ k456 : ClassId, v = some (.ref b454) ∧ Fr Z.heap.size L ∧ Keep h0 h [] ∧ h0.size ≤ b454 ∧ h0.size ≤ b455 ∧ Exa Z h b454 "java/lang/String" ∧ Fld Z h b454 "java/lang/String" "value" "[B" (.ref b455) ∧ Fld Z h b454 "java/lang/String" "coder" "B" (.int (0 : Int32)) ∧ Arv Z h b455 k456 .byte (Int32.ofNat (((((([] : List Int32) ++ own_ds qa ka) ++ [(46 : Int32)]) ++ own_ds qb kb) ++ [(46 : Int32)]) ++ own_ds qc kc).length) (own_ch (((((([] : List Int32) ++ own_ds qa ka) ++ [(46 : Int32)]) ++ own_ds qb kb) ++ [(46 : Int32)]) ++ own_ds qc kc)) (.int (0 : Int32))
theorem rm431 (l : Launch) (Z : State) (a0 : Array Value) (hw : own_HW Z a0) (ws : List Jvm.Cond) (w_CS qa qb qc : Int32) (ka kb kc : Nat) (w_DO : Addr) (k_w_DO : ClassId) (w_DT : Addr) (k_w_DT : ClassId) (pv : Addr) (h0 : Heap) (Z0 : Ext Z.heap h0) (S_w_CS : own_w_CS Z w_CS) (S_w_DO : own_Sw_DO Z w_DO) (A_w_DO : Arv Z Z.heap w_DO k_w_DO .byte (100 : Int32) own_ones (.int (0 : Int32))) (S_w_DT : own_Sw_DT Z w_DT) (A_w_DT : Arv Z Z.heap w_DT k_w_DT .byte (100 : Int32) own_tens (.int (0 : Int32))) (E_pv : Exa Z h0 pv "com/example/tenderd/tenderd/core/ProtocolVersion") (F_pv_major : Fld Z h0 pv "com/example/tenderd/tenderd/core/ProtocolVersion" "major" "I" (.int qa)) (F_pv_minor : Fld Z h0 pv "com/example/tenderd/tenderd/core/ProtocolVersion" "minor" "I" (.int qb)) (F_pv_revision : Fld Z h0 pv "com/example/tenderd/tenderd/core/ProtocolVersion" "revision" "I" (.int qc)) (hc1 : ¬ (w_CS = (0 : Int32))) (hc79 : own_nd qa ka) (hc80 : ([] : List Int32).length + ka ≤ 16) (hc81 : (([] : List Int32) ++ own_ds qa ka).length + 1 ≤ 16) (hc82 : own_nd qb kb) (hc83 : ((([] : List Int32) ++ own_ds qa ka) ++ [(46 : Int32)]).length + kb ≤ 16) (hc95 : own_gw ((((([] : List Int32) ++ own_ds qa ka) ++ [(46 : Int32)]) ++ own_ds qb kb).length + 1) ) (hc96 : (((([] : List Int32) ++ own_ds qa ka) ++ [(46 : Int32)]) ++ own_ds qb kb).length ≤ 16) (hc85 : own_nd qc kc) (hc93 : ((((([] : List Int32) ++ own_ds qa ka) ++ [(46 : Int32)]) ++ own_ds qb kb) ++ [(46 : Int32)]).length + kc ≤ 34) (hc94 : (((((([] : List Int32) ++ own_ds qa ka) ++ [(46 : Int32)]) ++ own_ds qb kb) ++ [(46 : Int32)]) ++ own_ds qc kc).length < 34) :
    own_metW l y_30 prog_22_method_5_code 1 (some (.object "java/lang/String")) ws ({ frames := 7, cells := 10, slots := 200, locals := 140 } : Room) Z #[(.ref pv)] h0 (Qrm431 Z w_CS qa qb qc ka kb kc w_DO k_w_DO w_DT k_w_DT pv h0) := by
  refine own_startW (plainFor_of_name pn_7) (fun m => ef_prog_22_method_5_R m pv) ?_
  intro p e s m below meth c s₁ hx hby hml hown hnm X0 hZ e0 hret hlk hs0 hC0
  have N0 := Fr.nil Z.heap.size
  have CR0 : CHr Z consts_1 s.vm h0 s.vm h0 := CHr.refl hC0
  have hS0 : s.Since s.vm 0 := (State.WarmedH.refl s).since 0
  have hk0 : 0 ≤ h0.size := Nat.zero_le _
  obtain ⟨T432, h432, X432, e432, E432, A432, D432, -, st432⟩ := newO X0 hx hZ hown (own_w hw 21 rfl) (own_w hw 22 rfl) (own_w hw 23 rfl) e0 (g := (mkF m 0 #[rv pv] [])) rfl (hb hby d3_0) (by decide) (by decide)
  obtain ⟨b432, g432⟩ : ∃ z, z = h0.size := ⟨_, rfl⟩
  rw [← g432] at A432 D432 st432
  have g_b432 : Z.heap.size ≤ b432 := Nat.le_trans Z0.1 (Nat.le_of_eq g432.symm)
  have sz_b432 : h0.size ≤ b432 := Nat.le_trans (Keep.refl h0 []).1 (Nat.le_of_eq g432.symm)
  have F_b432_value : Fld Z h432 b432 "java/lang/AbstractStringBuilder" "value" "[B" .null := D432 (Or.inl (own_w hw 38 rfl)) (ty := (.array .byte)) (by decide)
  have F_b432_coder : Fld Z h432 b432 "java/lang/AbstractStringBuilder" "coder" "B" (.int (0 : Int32)) := D432 (Or.inl (own_w hw 40 rfl)) (ty := .byte) (by decide)
  have F_b432_count : Fld Z h432 b432 "java/lang/AbstractStringBuilder" "count" "I" (.int (0 : Int32)) := D432 (Or.inl (own_w hw 52 rfl)) (ty := .int) (by decide)
  have K432 : Keep h0 h432 [] := (Keep.refl h0 []).ext E432
  have XX432 : Ext Z.heap h432 := own_ext2 Z0 E432
  have CQ432 : CHr Z consts_1 s.vm h0 s.vm h432 := CHr.ext E432 CR0.1
  have CR432 := CR0.trans CQ432
  have hk432 := Nat.le_trans hk0 CQ432.2.1
  have sf433_pv : Safe Z consts_1 s.vm h432 pv := Safe.exa hZ.alike (E_pv.ext E432) (by decide) (by decide)
  have sf434_b432 : Safe Z consts_1 s.vm h432 b432 := Safe.exa hZ.alike A432 (by decide) (by decide)
  obtain ⟨_, T435, Lc435, X435, hQ435, st435⟩ := own_special (y := y_29) X432 hx hZ hown rfl (own_w hw 24 rfl) (own_w hw 25 rfl) (own_w hw 23 rfl) (own_w hw 26 rfl) (rm346 l Z a0 hw [] w_CS b432 h432 XX432 S_w_CS A432 F_b432_coder F_b432_count F_b432_value g_b432 hc1) e432 b432 (g := (mkF m 4 #[rv pv] [(.ref b432), (.ref b432)])) (argsL := []) (rest := [(.ref b432)]) (W := 1) (lenOf pd_19 rfl) (hb hby d3_4) hml
  obtain ⟨b436, k437, rfl, N435q, K435q, szn_b436, q435_E_b432, q435_F_b432_coder, q435_F_b432_count, q435_F_b432_value, q435_V_b436, q435_E_b436⟩ := hQ435
  have g_b436 : Z.heap.size ≤ b436 := Nat.le_trans XX432.1 szn_b436
  have sz_b436 : h0.size ≤ b436 := Nat.le_trans K432.1 szn_b436
  have K435 : Keep h0 T435.heap [] := K432.trans K435q (allS (Or.inr sz_b432) all0)
  have XX435 : Ext Z.heap T435.heap := own_extK XX432 K435q (allS g_b432 all0)
  have N435 := Fr.app N0 N435q
  have hs435 : ∀ x ∈ [b432], Safe Z consts_1 s.vm h432 x := (allS sf434_b432 all0)
  have CQ435 : CHr Z consts_1 s.vm h432 s.vm T435.heap := CHr.keep K435q hs435 CR432.1
  have sf435_pv := Safe.keep K435q hs435 CR432.1 sf433_pv
  have sf435_b432 := Safe.keep K435q hs435 CR432.1 sf434_b432
  have sf435_b436 := Safe.keep K435q hs435 CR432.1 (Safe.new szn_b436)
  have CR435 := CR432.trans CQ435
  have hk435 := Nat.le_trans hk432 CQ435.2.1
  have ne_pv_b432 : pv ≠ b432 := Nat.ne_of_lt (Nat.lt_of_lt_of_le E_pv.lt (Nat.le_of_eq g432.symm))
  obtain ⟨T438, X438, e438, st438⟩ := getF X435 hx hZ hown (host := "") (Or.inl (own_w hw 10 rfl)) Via.refl rfl ((F_pv_major.ext E432).keep K435q (ninS ne_pv_b432 (nin0))) (g := (mkF m 8 #[rv pv] [(.ref pv), (.ref b432)])) rfl rfl (hb hby d3_8)
  have ne_b432_b436 : b432 ≠ b436 := Nat.ne_of_lt (Nat.lt_of_lt_of_le A432.lt szn_b436)
  obtain ⟨_, T439, Lc439, X439, hQ439, st439⟩ := own_virtual (y := y_11) X438 hx hZ hown (own_w hw 41 rfl) (own_w hw 42 rfl) (own_w hw 44 rfl) (own_w hw 43 rfl) (own_w hw 23 rfl) (own_w hw 45 rfl) (own_apI_n16 l Z a0 hw [] w_CS qa ka w_DO k_w_DO w_DT k_w_DT b432 b436 k437 ([] : List Int32) T435.heap XX435 S_w_CS S_w_DO A_w_DO S_w_DT A_w_DT q435_E_b432 q435_F_b432_value q435_F_b432_coder q435_F_b432_count q435_V_b436 g_b432 g_b436 hc79 hc80 hc1 ne_b432_b436 (Ne.symm ne_b432_b436)) e438 q435_E_b432 (g := (mkF m 11 #[rv pv] [(.int qa), (.ref b432)])) (argsL := [(.int qa)]) (rest := []) (W := 0) (lenOf pd_20 rfl) (hb hby d3_11) hml
  obtain ⟨rfl, N439q, K439q, q439_E_b432, q439_F_b432_value, q439_F_b432_coder, q439_F_b432_count, q439_V_b436⟩ := hQ439
  have K439 : Keep h0 T439.heap [] := K435.trans K439q (allS (Or.inr sz_b432) (allS (Or.inr sz_b436) all0))
  have XX439 : Ext Z.heap T439.heap := own_extK XX435 K439q (allS g_b432 (allS g_b436 all0))
  have N439 := Fr.app N435 N439q
  have hs439 : ∀ x ∈ [b432, b436], Safe Z consts_1 s.vm T435.heap x := (allS sf435_b432 (allS sf435_b436 all0))
  have CQ439 : CHr Z consts_1 s.vm T435.heap s.vm T439.heap := CHr.keep K439q hs439 CR435.1
  have sf439_pv := Safe.keep K439q hs439 CR435.1 sf435_pv
  have sf439_b432 := Safe.keep K439q hs439 CR435.1 sf435_b432
  have sf439_b436 := Safe.keep K439q hs439 CR435.1 sf435_b436
  have CR439 := CR435.trans CQ439
  have hk439 := Nat.le_trans hk435 CQ439.2.1
  obtain ⟨ba440, T440, h440, k1_440, bb440, kb440, X440, e440, E440, hS440, hk440, hZ440, hown440, EA440, FC440, FV440, AV440, -, -, hC440, -, hn440, st440⟩ := ldcCH (s := s) (vm0 := s.vm) X439 hx hZ hown (own_w hw 71 rfl) (own_wS hw) rfl hS0 hk439 (own_hEL hw) (List.mem_of_getElem? (i := 0) rfl) CR439.1 (vs := [(.int (46 : Int32))]) (z := (1 : Int32)) ⟨by decide, rfl⟩ (by decide) (by decide) (g := (mkF m 14 #[rv pv] [(.ref b432)])) rfl (hb hby d3_14) (n := 4) (by decide) (by decide) (by decide) (by decide)
  have sf440_pv := hC440.safe (((E_pv.ext E432).keep K435q).keep K439q).lt sf439_pv
  have sf440_b432 := hC440.safe q439_E_b432.lt sf439_b432
  have sf440_b436 := hC440.safe q439_V_b436.lt sf439_b436
  have CR440 := CR439.trans hC440
  have ne_pv_ba440 : pv ≠ ba440 := (hn440 _ sf440_pv).1
  have ne_pv_bb440 : pv ≠ bb440 := (hn440 _ sf440_pv).2
  have ne_b432_ba440 : b432 ≠ ba440 := (hn440 _ sf440_b432).1
  have ne_b432_bb440 : b432 ≠ bb440 := (hn440 _ sf440_b432).2
  have ne_b436_ba440 : b436 ≠ ba440 := (hn440 _ sf440_b436).1
  have ne_b436_bb440 : b436 ≠ bb440 := (hn440 _ sf440_b436).2
  have K440 : Keep h0 h440 [] := K439.ext E440
  have XX440 : Ext Z.heap h440 := own_ext2 XX439 E440
  obtain ⟨_, T441, Lc441, X441, hQ441, st441⟩ := own_virtual (y := y_18) X440 hx hZ440 hown440 (own_w hw 77 rfl) (own_w hw 78 rfl) (own_w hw 80 rfl) (own_w hw 79 rfl) (own_w hw 23 rfl) (own_w hw 81 rfl) (own_apS_n16 l Z a0 hw [] w_CS b432 b436 k437 (([] : List Int32) ++ own_ds qa ka) ba440 bb440 kb440 h440 XX440 S_w_CS (q439_E_b432.ext E440) (q439_F_b432_value.ext E440) (q439_F_b432_coder.ext E440) (q439_F_b432_count.ext E440) (q439_V_b436.ext E440) EA440 FC440 FV440 AV440 g_b432 g_b436 hc1 hc81 ne_b432_b436 (Ne.symm ne_b432_b436)) e440 (q439_E_b432.ext E440) (g := (mkF m 16 #[rv pv] [(.ref ba440), (.ref b432)])) (argsL := [(.ref ba440)]) (rest := []) (W := 0) (lenOf pd_21 rfl) (hb hby d3_16) hml
  obtain ⟨rfl, N441q, K441q, q441_E_b432, q441_F_b432_value, q441_F_b432_coder, q441_F_b432_count, q441_V_b436⟩ := hQ441
  have K441 : Keep h0 T441.heap [] := K440.trans K441q (allS (Or.inr sz_b432) (allS (Or.inr sz_b436) all0))
  have XX441 : Ext Z.heap T441.heap := own_extK XX440 K441q (allS g_b432 (allS g_b436 all0))
  have N441 := Fr.app N439 N441q
  have hs441 : ∀ x ∈ [b432, b436], Safe Z consts_1 T440.vm h440 x := (allS sf440_b432 (allS sf440_b436 all0))
  have CQ441 : CHr Z consts_1 T440.vm h440 T440.vm T441.heap := CHr.keep K441q hs441 CR440.1
  have sf441_pv := Safe.keep K441q hs441 CR440.1 sf440_pv
  have sf441_b432 := Safe.keep K441q hs441 CR440.1 sf440_b432
  have sf441_b436 := Safe.keep K441q hs441 CR440.1 sf440_b436
  have CR441 := CR440.trans CQ441
  have hk441 := Nat.le_trans hk440 CQ441.2.1
  have ne_pv_b436 : pv ≠ b436 := Nat.ne_of_lt (Nat.lt_of_lt_of_le (E_pv.ext E432).lt szn_b436)
  have f442_F_pv_minor : Fld Z T441.heap pv "com/example/tenderd/tenderd/core/ProtocolVersion" "minor" "I" (.int qb) := (((((F_pv_minor.ext E432).keep K435q (ninS ne_pv_b432 (nin0))).keep K439q (ninS ne_pv_b432 (ninS ne_pv_b436 (nin0)))).ext E440).keep K441q (ninS ne_pv_b432 (ninS ne_pv_b436 (nin0))))
  obtain ⟨T443, X443, e443, st443⟩ := getF X441 hx hZ440 hown440 (host := "") (Or.inl (own_w hw 12 rfl)) Via.refl rfl f442_F_pv_minor (g := (mkF m 20 #[rv pv] [(.ref pv), (.ref b432)])) rfl rfl (hb hby d3_20)
  obtain ⟨_, T444, Lc444, X444, hQ444, st444⟩ := own_virtual (y := y_11) X443 hx hZ440 hown440 (own_w hw 41 rfl) (own_w hw 42 rfl) (own_w hw 44 rfl) (own_w hw 43 rfl) (own_w hw 23 rfl) (own_w hw 45 rfl) (own_apI_n16 l Z a0 hw [] w_CS qb kb w_DO k_w_DO w_DT k_w_DT b432 b436 k437 ((([] : List Int32) ++ own_ds qa ka) ++ [(46 : Int32)]) T441.heap XX441 S_w_CS S_w_DO A_w_DO S_w_DT A_w_DT q441_E_b432 q441_F_b432_value q441_F_b432_coder q441_F_b432_count q441_V_b436 g_b432 g_b436 hc82 hc83 hc1 ne_b432_b436 (Ne.symm ne_b432_b436)) e443 q441_E_b432 (g := (mkF m 23 #[rv pv] [(.int qb), (.ref b432)])) (argsL := [(.int qb)]) (rest := []) (W := 0) (lenOf pd_20 rfl) (hb hby d3_23) hml
  obtain ⟨rfl, N444q, K444q, q444_E_b432, q444_F_b432_value, q444_F_b432_coder, q444_F_b432_count, q444_V_b436⟩ := hQ444
  have K444 : Keep h0 T444.heap [] := K441.trans K444q (allS (Or.inr sz_b432) (allS (Or.inr sz_b436) all0))
  have XX444 : Ext Z.heap T444.heap := own_extK XX441 K444q (allS g_b432 (allS g_b436 all0))
  have N444 := Fr.app N441 N444q
  have hs444 : ∀ x ∈ [b432, b436], Safe Z consts_1 T440.vm T441.heap x := (allS sf441_b432 (allS sf441_b436 all0))
  have CQ444 : CHr Z consts_1 T440.vm T441.heap T440.vm T444.heap := CHr.keep K444q hs444 CR441.1
  have sf444_pv := Safe.keep K444q hs444 CR441.1 sf441_pv
  have sf444_b432 := Safe.keep K444q hs444 CR441.1 sf441_b432
  have sf444_b436 := Safe.keep K444q hs444 CR441.1 sf441_b436
  have CR444 := CR441.trans CQ444
  have hk444 := Nat.le_trans hk441 CQ444.2.1
  have f446_E_pv : Exa Z T444.heap pv "com/example/tenderd/tenderd/core/ProtocolVersion" := ((((((E_pv.ext E432).keep K435q).keep K439q).ext E440).keep K441q).keep K444q)
  obtain ⟨ba445, T445, h445, k1_445, bb445, kb445, X445, e445, E445, hS445, hk445, hZ445, hown445, EA445, FC445, FV445, AV445, -, -, hC445, -, hn445, st445⟩ := ldcCH (s := s) (vm0 := T440.vm) X444 hx hZ440 hown440 (own_w hw 71 rfl) (own_wS hw) rfl hS440 hk444 (own_hEL hw) (List.mem_of_getElem? (i := 0) rfl) CR444.1 (vs := [(.int (46 : Int32))]) (z := (1 : Int32)) ⟨by decide, rfl⟩ (by decide) (by decide) (g := (mkF m 26 #[rv pv] [(.ref b432)])) rfl (hb hby d3_26) (n := 4) (by decide) (by decide) (by decide) (by decide)
  have sf445_pv := hC445.safe f446_E_pv.lt sf444_pv
  have sf445_b432 := hC445.safe q444_E_b432.lt sf444_b432
  have sf445_b436 := hC445.safe q444_V_b436.lt sf444_b436
  have CR445 := CR444.trans hC445
  have ne_pv_ba445 : pv ≠ ba445 := (hn445 _ sf445_pv).1
  have ne_pv_bb445 : pv ≠ bb445 := (hn445 _ sf445_pv).2
  have ne_b432_ba445 : b432 ≠ ba445 := (hn445 _ sf445_b432).1
  have ne_b432_bb445 : b432 ≠ bb445 := (hn445 _ sf445_b432).2
  have ne_b436_ba445 : b436 ≠ ba445 := (hn445 _ sf445_b436).1
  have ne_b436_bb445 : b436 ≠ bb445 := (hn445 _ sf445_b436).2
  have K445 : Keep h0 h445 [] := K444.ext E445
  have XX445 : Ext Z.heap h445 := own_ext2 XX444 E445
  obtain ⟨_, T447, Lc447, X447, hQ447, st447⟩ := own_virtual (y := y_18) X445 hx hZ445 hown445 (own_w hw 77 rfl) (own_w hw 78 rfl) (own_w hw 80 rfl) (own_w hw 79 rfl) (own_w hw 23 rfl) (own_w hw 81 rfl) (own_apS_g l Z a0 hw [] w_CS b432 b436 k437 (((([] : List Int32) ++ own_ds qa ka) ++ [(46 : Int32)]) ++ own_ds qb kb) ba445 bb445 kb445 h445 XX445 S_w_CS (q444_E_b432.ext E445) (q444_F_b432_value.ext E445) (q444_F_b432_coder.ext E445) (q444_F_b432_count.ext E445) (q444_V_b436.ext E445) EA445 FC445 FV445 AV445 g_b432 hc1 hc95 hc96 (Ne.symm ne_b432_ba445) (Ne.symm ne_b432_bb445)) e445 (q444_E_b432.ext E445) (g := (mkF m 28 #[rv pv] [(.ref ba445), (.ref b432)])) (argsL := [(.ref ba445)]) (rest := []) (W := 0) (lenOf pd_21 rfl) (hb hby d3_28) hml
  obtain ⟨b448, k449, rfl, N447q, K447q, szn_b448, q447_E_b432, q447_F_b432_value, q447_F_b432_coder, q447_F_b432_count, q447_V_b448⟩ := hQ447
  have g_b448 : Z.heap.size ≤ b448 := Nat.le_trans XX445.1 szn_b448
  have sz_b448 : h0.size ≤ b448 := Nat.le_trans K445.1 szn_b448
  have K447 : Keep h0 T447.heap [] := K445.trans K447q (allS (Or.inr sz_b432) all0)
  have XX447 : Ext Z.heap T447.heap := own_extK XX445 K447q (allS g_b432 all0)
  have N447 := Fr.app N444 N447q
  have hs447 : ∀ x ∈ [b432], Safe Z consts_1 T445.vm h445 x := (allS sf445_b432 all0)
  have CQ447 : CHr Z consts_1 T445.vm h445 T445.vm T447.heap := CHr.keep K447q hs447 CR445.1
  have sf447_pv := Safe.keep K447q hs447 CR445.1 sf445_pv
  have sf447_b432 := Safe.keep K447q hs447 CR445.1 sf445_b432
  have sf447_b436 := Safe.keep K447q hs447 CR445.1 sf445_b436
  have sf447_b448 := Safe.keep K447q hs447 CR445.1 (Safe.new szn_b448)
  have CR447 := CR445.trans CQ447
  have hk447 := Nat.le_trans hk445 CQ447.2.1
  have f450_F_pv_revision : Fld Z T447.heap pv "com/example/tenderd/tenderd/core/ProtocolVersion" "revision" "I" (.int qc) := ((((((((F_pv_revision.ext E432).keep K435q (ninS ne_pv_b432 (nin0))).keep K439q (ninS ne_pv_b432 (ninS ne_pv_b436 (nin0)))).ext E440).keep K441q (ninS ne_pv_b432 (ninS ne_pv_b436 (nin0)))).keep K444q (ninS ne_pv_b432 (ninS ne_pv_b436 (nin0)))).ext E445).keep K447q (ninS ne_pv_b432 (nin0)))
  obtain ⟨T451, X451, e451, st451⟩ := getF X447 hx hZ445 hown445 (host := "") (Or.inl (own_w hw 14 rfl)) Via.refl rfl f450_F_pv_revision (g := (mkF m 32 #[rv pv] [(.ref pv), (.ref b432)])) rfl rfl (hb hby d3_32)
  have ne_b432_b448 : b432 ≠ b448 := Nat.ne_of_lt (Nat.lt_of_lt_of_le (q444_E_b432.ext E445).lt szn_b448)
  obtain ⟨_, T452, Lc452, X452, hQ452, st452⟩ := own_virtual (y := y_11) X451 hx hZ445 hown445 (own_w hw 41 rfl) (own_w hw 42 rfl) (own_w hw 44 rfl) (own_w hw 43 rfl) (own_w hw 23 rfl) (own_w hw 45 rfl) (own_apI_n34 l Z a0 hw [] w_CS qc kc w_DO k_w_DO w_DT k_w_DT b432 b448 k449 ((((([] : List Int32) ++ own_ds qa ka) ++ [(46 : Int32)]) ++ own_ds qb kb) ++ [(46 : Int32)]) T447.heap XX447 S_w_CS S_w_DO A_w_DO S_w_DT A_w_DT q447_E_b432 q447_F_b432_value q447_F_b432_coder q447_F_b432_count q447_V_b448 g_b432 g_b448 hc85 hc93 hc1 ne_b432_b448 (Ne.symm ne_b432_b448)) e451 q447_E_b432 (g := (mkF m 35 #[rv pv] [(.int qc), (.ref b432)])) (argsL := [(.int qc)]) (rest := []) (W := 0) (lenOf pd_20 rfl) (hb hby d3_35) hml
  obtain ⟨rfl, N452q, K452q, q452_E_b432, q452_F_b432_value, q452_F_b432_coder, q452_F_b432_count, q452_V_b448⟩ := hQ452
  have K452 : Keep h0 T452.heap [] := K447.trans K452q (allS (Or.inr sz_b432) (allS (Or.inr sz_b448) all0))
  have XX452 : Ext Z.heap T452.heap := own_extK XX447 K452q (allS g_b432 (allS g_b448 all0))
  have N452 := Fr.app N447 N452q
  have hs452 : ∀ x ∈ [b432, b448], Safe Z consts_1 T445.vm T447.heap x := (allS sf447_b432 (allS sf447_b448 all0))
  have CQ452 : CHr Z consts_1 T445.vm T447.heap T445.vm T452.heap := CHr.keep K452q hs452 CR447.1
  have sf452_pv := Safe.keep K452q hs452 CR447.1 sf447_pv
  have sf452_b432 := Safe.keep K452q hs452 CR447.1 sf447_b432
  have sf452_b436 := Safe.keep K452q hs452 CR447.1 sf447_b436
  have sf452_b448 := Safe.keep K452q hs452 CR447.1 sf447_b448
  have CR452 := CR447.trans CQ452
  have hk452 := Nat.le_trans hk447 CQ452.2.1
  obtain ⟨_, T453, Lc453, X453, hQ453, st453⟩ := own_virtual (y := y_27) X452 hx hZ445 hown445 (own_w hw 119 rfl) (own_w hw 120 rfl) (own_w hw 122 rfl) (own_w hw 121 rfl) (own_w hw 23 rfl) (own_w hw 123 rfl) (rm274 l Z a0 hw [] w_CS b432 b448 k449 (((((([] : List Int32) ++ own_ds qa ka) ++ [(46 : Int32)]) ++ own_ds qb kb) ++ [(46 : Int32)]) ++ own_ds qc kc) T452.heap XX452 S_w_CS q452_E_b432 q452_F_b432_value q452_F_b432_coder q452_F_b432_count q452_V_b448 hc1 hc94) rfl q452_E_b432 (g := (mkF m 38 #[rv pv] [(.ref b432)])) (argsL := []) (rest := []) (W := 0) (lenOf pd_22 rfl) (hb hby d3_38) hml
  obtain ⟨b454, b455, k456, rfl, N453q, K453q, szn_b454, szn_b455, q453_E_b454, q453_F_b454_value, q453_F_b454_coder, q453_V_b455⟩ := hQ453
  have g_b454 : Z.heap.size ≤ b454 := Nat.le_trans XX452.1 szn_b454
  have sz_b454 : h0.size ≤ b454 := Nat.le_trans K452.1 szn_b454
  have g_b455 : Z.heap.size ≤ b455 := Nat.le_trans XX452.1 szn_b455
  have sz_b455 : h0.size ≤ b455 := Nat.le_trans K452.1 szn_b455
  have K453 : Keep h0 T453.heap [] := K452.trans K453q all0
  have XX453 : Ext Z.heap T453.heap := own_extK XX452 K453q all0
  have N453 := Fr.app N452 N453q
  have hs453 : ∀ x ∈ ([] : List Addr), Safe Z consts_1 T445.vm T452.heap x := all0
  have CQ453 : CHr Z consts_1 T445.vm T452.heap T445.vm T453.heap := CHr.keep K453q hs453 CR452.1
  have sf453_pv := Safe.keep K453q hs453 CR452.1 sf452_pv
  have sf453_b432 := Safe.keep K453q hs453 CR452.1 sf452_b432
  have sf453_b436 := Safe.keep K453q hs453 CR452.1 sf452_b436
  have sf453_b448 := Safe.keep K453q hs453 CR452.1 sf452_b448
  have sf453_b454 := Safe.keep K453q hs453 CR452.1 (Safe.new szn_b454)
  have sf453_b455 := Safe.keep K453q hs453 CR452.1 (Safe.new szn_b455)
  have CR453 := CR452.trans CQ453
  have hk453 := Nat.le_trans hk452 CQ453.2.1
  obtain ⟨fs, hr, hrun, hended, hend⟩ := leaveW (s := s) (vm₁ := T445.vm) X453 hS445 hk453 (v := some (.ref b454)) (fun h => by rw [hret] at h; cases h) hlk
  refine ⟨_, _, ?_, hrun, hended, _, _, rfl, ?_, ?_, hend.1, hend.2.1, hend.2.2.1, hend.2.2.2.mono (by decide) (by decide)⟩
  · show own_S p e below s₁ (mkF m 0 #[rv pv] []) _
    refine st432 _ ?_
    refine XS.dup X432.here hx rfl (hb hby d3_3) rfl rfl ?_
    refine st435 _ ?_
    refine own_aN X435 hx hby d3_7 ?_
    refine st438 _ ?_
    refine st439 _ ?_
    refine st440 _ ?_
    refine st441 _ ?_
    refine own_aN X441 hx hby d3_19 ?_
    refine st443 _ ?_
    refine st444 _ ?_
    refine st445 _ ?_
    refine st447 _ ?_
    refine own_aN X447 hx hby d3_31 ?_
    refine st451 _ ?_
    refine st452 _ ?_
    refine st453 _ ?_
    jvm_step X453.here [X453.here.top, hx, (hb hby d3_41), X453.method', hret, Value.isRef, FieldType.isReference]
    first | (intro acts; rw [hr _ acts rfl rfl rfl]) | rw [hr _ _ rfl rfl rfl]
    exact Steps.refl _
  · show Qrm431 Z w_CS qa qb qc ka kb kc w_DO k_w_DO w_DT k_w_DT pv h0 _ T453.heap _
    exact ⟨b454, b455, k456, rfl, N453, K453, sz_b454, sz_b455, q453_E_b454, q453_F_b454_value, q453_F_b454_coder, q453_V_b455⟩
  · rw [hs0]
    show CHr Z consts_1 s.vm h0 T453.vm T453.heap
    skip
    exact CR453.trans (CHv.at (s := s) (vm0 := T445.vm) X453 hZ445 (own_hEL hw) CR453.1)
def Qrm457 (Z : State) (w_CS qa qb qc : Int32) (ka kb kc : Nat) (w_DO : Addr) (k_w_DO : ClassId) (w_DT : Addr) (k_w_DT : ClassId) (pv : Addr) (h0 : Heap) (v : Option Value) (h : Heap) (L : List Loc) : Prop := ∃ b480 : Addr, ∃ b481 : Addr, ∃ k482 : ClassId, v = some (.ref b480) ∧ Fr Z.heap.size L ∧ Keep h0 h [] ∧ h0.size ≤ b480 ∧ h0.size ≤ b481 ∧ Exa Z h b480 "java/lang/String" ∧ Fld Z h b480 "java/lang/String" "value" "[B" (.ref b481) ∧ Fld Z h b480 "java/lang/String" "coder" "B" (.int (0 : Int32)) ∧ Arv Z h b481 k482 .byte (Int32.ofNat (((((([] : List Int32) ++ own_ds qa ka) ++ [(46 : Int32)]) ++ own_ds qb kb) ++ [(46 : Int32)]) ++ own_ds qc kc).length) (own_ch (((((([] : List Int32) ++ own_ds qa ka) ++ [(46 : Int32)]) ++ own_ds qb kb) ++ [(46 : Int32)]) ++ own_ds qc kc)) (.int (0 : Int32))
theorem rm457 (l : Launch) (Z : State) (a0 : Array Value) (hw : own_HW Z a0) (ws : List Jvm.Cond) (w_CS qa qb qc : Int32) (ka kb kc : Nat) (w_DO : Addr) (k_w_DO : ClassId) (w_DT : Addr) (k_w_DT : ClassId) (pv : Addr) (h0 : Heap) (Z0 : Ext Z.heap h0) (S_w_CS : own_w_CS Z w_CS) (S_w_DO : own_Sw_DO Z w_DO) (A_w_DO : Arv Z Z.heap w_DO k_w_DO .byte (100 : Int32) own_ones (.int (0 : Int32))) (S_w_DT : own_Sw_DT Z w_DT) (A_w_DT : Arv Z Z.heap w_DT k_w_DT .byte (100 : Int32) own_tens (.int (0 : Int32))) (E_pv : Exa Z h0 pv "com/example/tenderd/tenderd/core/ProtocolVersion") (F_pv_major : Fld Z h0 pv "com/example/tenderd/tenderd/core/ProtocolVersion" "major" "I" (.int qa)) (F_pv_minor : Fld Z h0 pv "com/example/tenderd/tenderd/core/ProtocolVersion" "minor" "I" (.int qb)) (F_pv_revision : Fld Z h0 pv "com/example/tenderd/tenderd/core/ProtocolVersion" "revision" "I" (.int qc)) (hc1 : ¬ (w_CS = (0 : Int32))) (hc79 : own_nd qa ka) (hc80 : ([] : List Int32).length + ka ≤ 16) (hc81 : (([] : List Int32) ++ own_ds qa ka).length + 1 ≤ 16) (hc82 : own_nd qb kb) (hc83 : ((([] : List Int32) ++ own_ds qa ka) ++ [(46 : Int32)]).length + kb ≤ 16) (hc84 : (((([] : List Int32) ++ own_ds qa ka) ++ [(46 : Int32)]) ++ own_ds qb kb).length + 1 ≤ 16) (hc85 : own_nd qc kc) (hc97 : own_gw (((((([] : List Int32) ++ own_ds qa ka) ++ [(46 : Int32)]) ++ own_ds qb kb) ++ [(46 : Int32)]).length + kc) ) (hc98 : ((((([] : List Int32) ++ own_ds qa ka) ++ [(46 : Int32)]) ++ own_ds qb kb) ++ [(46 : Int32)]).length ≤ 16) (hc94 : (((((([] : List Int32) ++ own_ds qa ka) ++ [(46 : Int32)]) ++ own_ds qb kb) ++ [(46 : Int32)]) ++ own_ds qc kc).length < 34) :
    own_metW l y_30 prog_22_method_5_code 1 (some (.object "java/lang/String")) ws ({ frames := 7, cells := 10, slots := 200, locals := 140 } : Room) Z #[(.ref pv)] h0 (Qrm457 Z w_CS qa qb qc ka kb kc w_DO k_w_DO w_DT k_w_DT pv h0) := by
  refine own_startW (plainFor_of_name pn_7) (fun m => ef_prog_22_method_5_R m pv) ?_
  intro p e s m below meth c s₁ hx hby hml hown hnm X0 hZ e0 hret hlk hs0 hC0
  have N0 := Fr.nil Z.heap.size
  have CR0 : CHr Z consts_1 s.vm h0 s.vm h0 := CHr.refl hC0
  have hS0 : s.Since s.vm 0 := (State.WarmedH.refl s).since 0
  have hk0 : 0 ≤ h0.size := Nat.zero_le _
  obtain ⟨T458, h458, X458, e458, E458, A458, D458, -, st458⟩ := newO X0 hx hZ hown (own_w hw 21 rfl) (own_w hw 22 rfl) (own_w hw 23 rfl) e0 (g := (mkF m 0 #[rv pv] [])) rfl (hb hby d3_0) (by decide) (by decide)
  obtain ⟨b458, g458⟩ : ∃ z, z = h0.size := ⟨_, rfl⟩
  rw [← g458] at A458 D458 st458
  have g_b458 : Z.heap.size ≤ b458 := Nat.le_trans Z0.1 (Nat.le_of_eq g458.symm)
  have sz_b458 : h0.size ≤ b458 := Nat.le_trans (Keep.refl h0 []).1 (Nat.le_of_eq g458.symm)
  have F_b458_value : Fld Z h458 b458 "java/lang/AbstractStringBuilder" "value" "[B" .null := D458 (Or.inl (own_w hw 38 rfl)) (ty := (.array .byte)) (by decide)
  have F_b458_coder : Fld Z h458 b458 "java/lang/AbstractStringBuilder" "coder" "B" (.int (0 : Int32)) := D458 (Or.inl (own_w hw 40 rfl)) (ty := .byte) (by decide)
  have F_b458_count : Fld Z h458 b458 "java/lang/AbstractStringBuilder" "count" "I" (.int (0 : Int32)) := D458 (Or.inl (own_w hw 52 rfl)) (ty := .int) (by decide)
  have K458 : Keep h0 h458 [] := (Keep.refl h0 []).ext E458
  have XX458 : Ext Z.heap h458 := own_ext2 Z0 E458
  have CQ458 : CHr Z consts_1 s.vm h0 s.vm h458 := CHr.ext E458 CR0.1
  have CR458 := CR0.trans CQ458
  have hk458 := Nat.le_trans hk0 CQ458.2.1
  have sf459_pv : Safe Z consts_1 s.vm h458 pv := Safe.exa hZ.alike (E_pv.ext E458) (by decide) (by decide)
  have sf460_b458 : Safe Z consts_1 s.vm h458 b458 := Safe.exa hZ.alike A458 (by decide) (by decide)
  obtain ⟨_, T461, Lc461, X461, hQ461, st461⟩ := own_special (y := y_29) X458 hx hZ hown rfl (own_w hw 24 rfl) (own_w hw 25 rfl) (own_w hw 23 rfl) (own_w hw 26 rfl) (rm346 l Z a0 hw [] w_CS b458 h458 XX458 S_w_CS A458 F_b458_coder F_b458_count F_b458_value g_b458 hc1) e458 b458 (g := (mkF m 4 #[rv pv] [(.ref b458), (.ref b458)])) (argsL := []) (rest := [(.ref b458)]) (W := 1) (lenOf pd_19 rfl) (hb hby d3_4) hml
  obtain ⟨b462, k463, rfl, N461q, K461q, szn_b462, q461_E_b458, q461_F_b458_coder, q461_F_b458_count, q461_F_b458_value, q461_V_b462, q461_E_b462⟩ := hQ461
  have g_b462 : Z.heap.size ≤ b462 := Nat.le_trans XX458.1 szn_b462
  have sz_b462 : h0.size ≤ b462 := Nat.le_trans K458.1 szn_b462
  have K461 : Keep h0 T461.heap [] := K458.trans K461q (allS (Or.inr sz_b458) all0)
  have XX461 : Ext Z.heap T461.heap := own_extK XX458 K461q (allS g_b458 all0)
  have N461 := Fr.app N0 N461q
  have hs461 : ∀ x ∈ [b458], Safe Z consts_1 s.vm h458 x := (allS sf460_b458 all0)
  have CQ461 : CHr Z consts_1 s.vm h458 s.vm T461.heap := CHr.keep K461q hs461 CR458.1
  have sf461_pv := Safe.keep K461q hs461 CR458.1 sf459_pv
  have sf461_b458 := Safe.keep K461q hs461 CR458.1 sf460_b458
  have sf461_b462 := Safe.keep K461q hs461 CR458.1 (Safe.new szn_b462)
  have CR461 := CR458.trans CQ461
  have hk461 := Nat.le_trans hk458 CQ461.2.1
  have ne_pv_b458 : pv ≠ b458 := Nat.ne_of_lt (Nat.lt_of_lt_of_le E_pv.lt (Nat.le_of_eq g458.symm))
  obtain ⟨T464, X464, e464, st464⟩ := getF X461 hx hZ hown (host := "") (Or.inl (own_w hw 10 rfl)) Via.refl rfl ((F_pv_major.ext E458).keep K461q (ninS ne_pv_b458 (nin0))) (g := (mkF m 8 #[rv pv] [(.ref pv), (.ref b458)])) rfl rfl (hb hby d3_8)
  have ne_b458_b462 : b458 ≠ b462 := Nat.ne_of_lt (Nat.lt_of_lt_of_le A458.lt szn_b462)
  obtain ⟨_, T465, Lc465, X465, hQ465, st465⟩ := own_virtual (y := y_11) X464 hx hZ hown (own_w hw 41 rfl) (own_w hw 42 rfl) (own_w hw 44 rfl) (own_w hw 43 rfl) (own_w hw 23 rfl) (own_w hw 45 rfl) (own_apI_n16 l Z a0 hw [] w_CS qa ka w_DO k_w_DO w_DT k_w_DT b458 b462 k463 ([] : List Int32) T461.heap XX461 S_w_CS S_w_DO A_w_DO S_w_DT A_w_DT q461_E_b458 q461_F_b458_value q461_F_b458_coder q461_F_b458_count q461_V_b462 g_b458 g_b462 hc79 hc80 hc1 ne_b458_b462 (Ne.symm ne_b458_b462)) e464 q461_E_b458 (g := (mkF m 11 #[rv pv] [(.int qa), (.ref b458)])) (argsL := [(.int qa)]) (rest := []) (W := 0) (lenOf pd_20 rfl) (hb hby d3_11) hml
  obtain ⟨rfl, N465q, K465q, q465_E_b458, q465_F_b458_value, q465_F_b458_coder, q465_F_b458_count, q465_V_b462⟩ := hQ465
  have K465 : Keep h0 T465.heap [] := K461.trans K465q (allS (Or.inr sz_b458) (allS (Or.inr sz_b462) all0))
  have XX465 : Ext Z.heap T465.heap := own_extK XX461 K465q (allS g_b458 (allS g_b462 all0))
  have N465 := Fr.app N461 N465q
  have hs465 : ∀ x ∈ [b458, b462], Safe Z consts_1 s.vm T461.heap x := (allS sf461_b458 (allS sf461_b462 all0))
  have CQ465 : CHr Z consts_1 s.vm T461.heap s.vm T465.heap := CHr.keep K465q hs465 CR461.1
  have sf465_pv := Safe.keep K465q hs465 CR461.1 sf461_pv
  have sf465_b458 := Safe.keep K465q hs465 CR461.1 sf461_b458
  have sf465_b462 := Safe.keep K465q hs465 CR461.1 sf461_b462
  have CR465 := CR461.trans CQ465
  have hk465 := Nat.le_trans hk461 CQ465.2.1
  obtain ⟨ba466, T466, h466, k1_466, bb466, kb466, X466, e466, E466, hS466, hk466, hZ466, hown466, EA466, FC466, FV466, AV466, -, -, hC466, -, hn466, st466⟩ := ldcCH (s := s) (vm0 := s.vm) X465 hx hZ hown (own_w hw 71 rfl) (own_wS hw) rfl hS0 hk465 (own_hEL hw) (List.mem_of_getElem? (i := 0) rfl) CR465.1 (vs := [(.int (46 : Int32))]) (z := (1 : Int32)) ⟨by decide, rfl⟩ (by decide) (by decide) (g := (mkF m 14 #[rv pv] [(.ref b458)])) rfl (hb hby d3_14) (n := 4) (by decide) (by decide) (by decide) (by decide)
  have sf466_pv := hC466.safe (((E_pv.ext E458).keep K461q).keep K465q).lt sf465_pv
  have sf466_b458 := hC466.safe q465_E_b458.lt sf465_b458
  have sf466_b462 := hC466.safe q465_V_b462.lt sf465_b462
  have CR466 := CR465.trans hC466
  have ne_pv_ba466 : pv ≠ ba466 := (hn466 _ sf466_pv).1
  have ne_pv_bb466 : pv ≠ bb466 := (hn466 _ sf466_pv).2
  have ne_b458_ba466 : b458 ≠ ba466 := (hn466 _ sf466_b458).1
  have ne_b458_bb466 : b458 ≠ bb466 := (hn466 _ sf466_b458).2
  have ne_b462_ba466 : b462 ≠ ba466 := (hn466 _ sf466_b462).1
  have ne_b462_bb466 : b462 ≠ bb466 := (hn466 _ sf466_b462).2
  have K466 : Keep h0 h466 [] := K465.ext E466
  have XX466 : Ext Z.heap h466 := own_ext2 XX465 E466
  obtain ⟨_, T467, Lc467, X467, hQ467, st467⟩ := own_virtual (y := y_18) X466 hx hZ466 hown466 (own_w hw 77 rfl) (own_w hw 78 rfl) (own_w hw 80 rfl) (own_w hw 79 rfl) (own_w hw 23 rfl) (own_w hw 81 rfl) (own_apS_n16 l Z a0 hw [] w_CS b458 b462 k463 (([] : List Int32) ++ own_ds qa ka) ba466 bb466 kb466 h466 XX466 S_w_CS (q465_E_b458.ext E466) (q465_F_b458_value.ext E466) (q465_F_b458_coder.ext E466) (q465_F_b458_count.ext E466) (q465_V_b462.ext E466) EA466 FC466 FV466 AV466 g_b458 g_b462 hc1 hc81 ne_b458_b462 (Ne.symm ne_b458_b462)) e466 (q465_E_b458.ext E466) (g := (mkF m 16 #[rv pv] [(.ref ba466), (.ref b458)])) (argsL := [(.ref ba466)]) (rest := []) (W := 0) (lenOf pd_21 rfl) (hb hby d3_16) hml
  obtain ⟨rfl, N467q, K467q, q467_E_b458, q467_F_b458_value, q467_F_b458_coder, q467_F_b458_count, q467_V_b462⟩ := hQ467
  have K467 : Keep h0 T467.heap [] := K466.trans K467q (allS (Or.inr sz_b458) (allS (Or.inr sz_b462) all0))
  have XX467 : Ext Z.heap T467.heap := own_extK XX466 K467q (allS g_b458 (allS g_b462 all0))
  have N467 := Fr.app N465 N467q
  have hs467 : ∀ x ∈ [b458, b462], Safe Z consts_1 T466.vm h466 x := (allS sf466_b458 (allS sf466_b462 all0))
  have CQ467 : CHr Z consts_1 T466.vm h466 T466.vm T467.heap := CHr.keep K467q hs467 CR466.1
  have sf467_pv := Safe.keep K467q hs467 CR466.1 sf466_pv
  have sf467_b458 := Safe.keep K467q hs467 CR466.1 sf466_b458
  have sf467_b462 := Safe.keep K467q hs467 CR466.1 sf466_b462
  have CR467 := CR466.trans CQ467
  have hk467 := Nat.le_trans hk466 CQ467.2.1
  have ne_pv_b462 : pv ≠ b462 := Nat.ne_of_lt (Nat.lt_of_lt_of_le (E_pv.ext E458).lt szn_b462)
  have f468_F_pv_minor : Fld Z T467.heap pv "com/example/tenderd/tenderd/core/ProtocolVersion" "minor" "I" (.int qb) := (((((F_pv_minor.ext E458).keep K461q (ninS ne_pv_b458 (nin0))).keep K465q (ninS ne_pv_b458 (ninS ne_pv_b462 (nin0)))).ext E466).keep K467q (ninS ne_pv_b458 (ninS ne_pv_b462 (nin0))))
  obtain ⟨T469, X469, e469, st469⟩ := getF X467 hx hZ466 hown466 (host := "") (Or.inl (own_w hw 12 rfl)) Via.refl rfl f468_F_pv_minor (g := (mkF m 20 #[rv pv] [(.ref pv), (.ref b458)])) rfl rfl (hb hby d3_20)
  obtain ⟨_, T470, Lc470, X470, hQ470, st470⟩ := own_virtual (y := y_11) X469 hx hZ466 hown466 (own_w hw 41 rfl) (own_w hw 42 rfl) (own_w hw 44 rfl) (own_w hw 43 rfl) (own_w hw 23 rfl) (own_w hw 45 rfl) (own_apI_n16 l Z a0 hw [] w_CS qb kb w_DO k_w_DO w_DT k_w_DT b458 b462 k463 ((([] : List Int32) ++ own_ds qa ka) ++ [(46 : Int32)]) T467.heap XX467 S_w_CS S_w_DO A_w_DO S_w_DT A_w_DT q467_E_b458 q467_F_b458_value q467_F_b458_coder q467_F_b458_count q467_V_b462 g_b458 g_b462 hc82 hc83 hc1 ne_b458_b462 (Ne.symm ne_b458_b462)) e469 q467_E_b458 (g := (mkF m 23 #[rv pv] [(.int qb), (.ref b458)])) (argsL := [(.int qb)]) (rest := []) (W := 0) (lenOf pd_20 rfl) (hb hby d3_23) hml
  obtain ⟨rfl, N470q, K470q, q470_E_b458, q470_F_b458_value, q470_F_b458_coder, q470_F_b458_count, q470_V_b462⟩ := hQ470
  have K470 : Keep h0 T470.heap [] := K467.trans K470q (allS (Or.inr sz_b458) (allS (Or.inr sz_b462) all0))
  have XX470 : Ext Z.heap T470.heap := own_extK XX467 K470q (allS g_b458 (allS g_b462 all0))
  have N470 := Fr.app N467 N470q
  have hs470 : ∀ x ∈ [b458, b462], Safe Z consts_1 T466.vm T467.heap x := (allS sf467_b458 (allS sf467_b462 all0))
  have CQ470 : CHr Z consts_1 T466.vm T467.heap T466.vm T470.heap := CHr.keep K470q hs470 CR467.1
  have sf470_pv := Safe.keep K470q hs470 CR467.1 sf467_pv
  have sf470_b458 := Safe.keep K470q hs470 CR467.1 sf467_b458
  have sf470_b462 := Safe.keep K470q hs470 CR467.1 sf467_b462
  have CR470 := CR467.trans CQ470
  have hk470 := Nat.le_trans hk467 CQ470.2.1
  have f472_E_pv : Exa Z T470.heap pv "com/example/tenderd/tenderd/core/ProtocolVersion" := ((((((E_pv.ext E458).keep K461q).keep K465q).ext E466).keep K467q).keep K470q)
  obtain ⟨ba471, T471, h471, k1_471, bb471, kb471, X471, e471, E471, hS471, hk471, hZ471, hown471, EA471, FC471, FV471, AV471, -, -, hC471, -, hn471, st471⟩ := ldcCH (s := s) (vm0 := T466.vm) X470 hx hZ466 hown466 (own_w hw 71 rfl) (own_wS hw) rfl hS466 hk470 (own_hEL hw) (List.mem_of_getElem? (i := 0) rfl) CR470.1 (vs := [(.int (46 : Int32))]) (z := (1 : Int32)) ⟨by decide, rfl⟩ (by decide) (by decide) (g := (mkF m 26 #[rv pv] [(.ref b458)])) rfl (hb hby d3_26) (n := 4) (by decide) (by decide) (by decide) (by decide)
  have sf471_pv := hC471.safe f472_E_pv.lt sf470_pv
  have sf471_b458 := hC471.safe q470_E_b458.lt sf470_b458
  have sf471_b462 := hC471.safe q470_V_b462.lt sf470_b462
  have CR471 := CR470.trans hC471
  have ne_pv_ba471 : pv ≠ ba471 := (hn471 _ sf471_pv).1
  have ne_pv_bb471 : pv ≠ bb471 := (hn471 _ sf471_pv).2
  have ne_b458_ba471 : b458 ≠ ba471 := (hn471 _ sf471_b458).1
  have ne_b458_bb471 : b458 ≠ bb471 := (hn471 _ sf471_b458).2
  have ne_b462_ba471 : b462 ≠ ba471 := (hn471 _ sf471_b462).1
  have ne_b462_bb471 : b462 ≠ bb471 := (hn471 _ sf471_b462).2
  have K471 : Keep h0 h471 [] := K470.ext E471
  have XX471 : Ext Z.heap h471 := own_ext2 XX470 E471
  obtain ⟨_, T473, Lc473, X473, hQ473, st473⟩ := own_virtual (y := y_18) X471 hx hZ471 hown471 (own_w hw 77 rfl) (own_w hw 78 rfl) (own_w hw 80 rfl) (own_w hw 79 rfl) (own_w hw 23 rfl) (own_w hw 81 rfl) (own_apS_n16 l Z a0 hw [] w_CS b458 b462 k463 (((([] : List Int32) ++ own_ds qa ka) ++ [(46 : Int32)]) ++ own_ds qb kb) ba471 bb471 kb471 h471 XX471 S_w_CS (q470_E_b458.ext E471) (q470_F_b458_value.ext E471) (q470_F_b458_coder.ext E471) (q470_F_b458_count.ext E471) (q470_V_b462.ext E471) EA471 FC471 FV471 AV471 g_b458 g_b462 hc1 hc84 ne_b458_b462 (Ne.symm ne_b458_b462)) e471 (q470_E_b458.ext E471) (g := (mkF m 28 #[rv pv] [(.ref ba471), (.ref b458)])) (argsL := [(.ref ba471)]) (rest := []) (W := 0) (lenOf pd_21 rfl) (hb hby d3_28) hml
  obtain ⟨rfl, N473q, K473q, q473_E_b458, q473_F_b458_value, q473_F_b458_coder, q473_F_b458_count, q473_V_b462⟩ := hQ473
  have K473 : Keep h0 T473.heap [] := K471.trans K473q (allS (Or.inr sz_b458) (allS (Or.inr sz_b462) all0))
  have XX473 : Ext Z.heap T473.heap := own_extK XX471 K473q (allS g_b458 (allS g_b462 all0))
  have N473 := Fr.app N470 N473q
  have hs473 : ∀ x ∈ [b458, b462], Safe Z consts_1 T471.vm h471 x := (allS sf471_b458 (allS sf471_b462 all0))
  have CQ473 : CHr Z consts_1 T471.vm h471 T471.vm T473.heap := CHr.keep K473q hs473 CR471.1
  have sf473_pv := Safe.keep K473q hs473 CR471.1 sf471_pv
  have sf473_b458 := Safe.keep K473q hs473 CR471.1 sf471_b458
  have sf473_b462 := Safe.keep K473q hs473 CR471.1 sf471_b462
  have CR473 := CR471.trans CQ473
  have hk473 := Nat.le_trans hk471 CQ473.2.1
  have f474_F_pv_revision : Fld Z T473.heap pv "com/example/tenderd/tenderd/core/ProtocolVersion" "revision" "I" (.int qc) := ((((((((F_pv_revision.ext E458).keep K461q (ninS ne_pv_b458 (nin0))).keep K465q (ninS ne_pv_b458 (ninS ne_pv_b462 (nin0)))).ext E466).keep K467q (ninS ne_pv_b458 (ninS ne_pv_b462 (nin0)))).keep K470q (ninS ne_pv_b458 (ninS ne_pv_b462 (nin0)))).ext E471).keep K473q (ninS ne_pv_b458 (ninS ne_pv_b462 (nin0))))
  obtain ⟨T475, X475, e475, st475⟩ := getF X473 hx hZ471 hown471 (host := "") (Or.inl (own_w hw 14 rfl)) Via.refl rfl f474_F_pv_revision (g := (mkF m 32 #[rv pv] [(.ref pv), (.ref b458)])) rfl rfl (hb hby d3_32)
  obtain ⟨_, T476, Lc476, X476, hQ476, st476⟩ := own_virtual (y := y_11) X475 hx hZ471 hown471 (own_w hw 41 rfl) (own_w hw 42 rfl) (own_w hw 44 rfl) (own_w hw 43 rfl) (own_w hw 23 rfl) (own_w hw 45 rfl) (own_apI_g l Z a0 hw [] w_CS qc kc w_DO k_w_DO w_DT k_w_DT b458 b462 k463 ((((([] : List Int32) ++ own_ds qa ka) ++ [(46 : Int32)]) ++ own_ds qb kb) ++ [(46 : Int32)]) T473.heap XX473 S_w_CS S_w_DO A_w_DO S_w_DT A_w_DT q473_E_b458 q473_F_b458_value q473_F_b458_coder q473_F_b458_count q473_V_b462 g_b458 hc85 hc97 hc98 hc1) e475 q473_E_b458 (g := (mkF m 35 #[rv pv] [(.int qc), (.ref b458)])) (argsL := [(.int qc)]) (rest := []) (W := 0) (lenOf pd_20 rfl) (hb hby d3_35) hml
  obtain ⟨b477, k478, rfl, N476q, K476q, szn_b477, q476_E_b458, q476_F_b458_value, q476_F_b458_coder, q476_F_b458_count, q476_V_b477⟩ := hQ476
  have g_b477 : Z.heap.size ≤ b477 := Nat.le_trans XX473.1 szn_b477
  have sz_b477 : h0.size ≤ b477 := Nat.le_trans K473.1 szn_b477
  have K476 : Keep h0 T476.heap [] := K473.trans K476q (allS (Or.inr sz_b458) all0)
  have XX476 : Ext Z.heap T476.heap := own_extK XX473 K476q (allS g_b458 all0)
  have N476 := Fr.app N473 N476q
  have hs476 : ∀ x ∈ [b458], Safe Z consts_1 T471.vm T473.heap x := (allS sf473_b458 all0)
  have CQ476 : CHr Z consts_1 T471.vm T473.heap T471.vm T476.heap := CHr.keep K476q hs476 CR473.1
  have sf476_pv := Safe.keep K476q hs476 CR473.1 sf473_pv
  have sf476_b458 := Safe.keep K476q hs476 CR473.1 sf473_b458
  have sf476_b462 := Safe.keep K476q hs476 CR473.1 sf473_b462
  have sf476_b477 := Safe.keep K476q hs476 CR473.1 (Safe.new szn_b477)
  have CR476 := CR473.trans CQ476
  have hk476 := Nat.le_trans hk473 CQ476.2.1
  obtain ⟨_, T479, Lc479, X479, hQ479, st479⟩ := own_virtual (y := y_27) X476 hx hZ471 hown471 (own_w hw 119 rfl) (own_w hw 120 rfl) (own_w hw 122 rfl) (own_w hw 121 rfl) (own_w hw 23 rfl) (own_w hw 123 rfl) (rm274 l Z a0 hw [] w_CS b458 b477 k478 (((((([] : List Int32) ++ own_ds qa ka) ++ [(46 : Int32)]) ++ own_ds qb kb) ++ [(46 : Int32)]) ++ own_ds qc kc) T476.heap XX476 S_w_CS q476_E_b458 q476_F_b458_value q476_F_b458_coder q476_F_b458_count q476_V_b477 hc1 hc94) rfl q476_E_b458 (g := (mkF m 38 #[rv pv] [(.ref b458)])) (argsL := []) (rest := []) (W := 0) (lenOf pd_22 rfl) (hb hby d3_38) hml
  obtain ⟨b480, b481, k482, rfl, N479q, K479q, szn_b480, szn_b481, q479_E_b480, q479_F_b480_value, q479_F_b480_coder, q479_V_b481⟩ := hQ479
  have g_b480 : Z.heap.size ≤ b480 := Nat.le_trans XX476.1 szn_b480
  have sz_b480 : h0.size ≤ b480 := Nat.le_trans K476.1 szn_b480
  have g_b481 : Z.heap.size ≤ b481 := Nat.le_trans XX476.1 szn_b481
  have sz_b481 : h0.size ≤ b481 := Nat.le_trans K476.1 szn_b481
  have K479 : Keep h0 T479.heap [] := K476.trans K479q all0
  have XX479 : Ext Z.heap T479.heap := own_extK XX476 K479q all0
  have N479 := Fr.app N476 N479q
  have hs479 : ∀ x ∈ ([] : List Addr), Safe Z consts_1 T471.vm T476.heap x := all0
  have CQ479 : CHr Z consts_1 T471.vm T476.heap T471.vm T479.heap := CHr.keep K479q hs479 CR476.1
  have sf479_pv := Safe.keep K479q hs479 CR476.1 sf476_pv
  have sf479_b458 := Safe.keep K479q hs479 CR476.1 sf476_b458
  have sf479_b462 := Safe.keep K479q hs479 CR476.1 sf476_b462
  have sf479_b477 := Safe.keep K479q hs479 CR476.1 sf476_b477
  have sf479_b480 := Safe.keep K479q hs479 CR476.1 (Safe.new szn_b480)
  have sf479_b481 := Safe.keep K479q hs479 CR476.1 (Safe.new szn_b481)
  have CR479 := CR476.trans CQ479
  have hk479 := Nat.le_trans hk476 CQ479.2.1
  obtain ⟨fs, hr, hrun, hended, hend⟩ := leaveW (s := s) (vm₁ := T471.vm) X479 hS471 hk479 (v := some (.ref b480)) (fun h => by rw [hret] at h; cases h) hlk
  refine ⟨_, _, ?_, hrun, hended, _, _, rfl, ?_, ?_, hend.1, hend.2.1, hend.2.2.1, hend.2.2.2.mono (by decide) (by decide)⟩
  · show own_S p e below s₁ (mkF m 0 #[rv pv] []) _
    refine st458 _ ?_
    refine XS.dup X458.here hx rfl (hb hby d3_3) rfl rfl ?_
    refine st461 _ ?_
    refine own_aN X461 hx hby d3_7 ?_
    refine st464 _ ?_
    refine st465 _ ?_
    refine st466 _ ?_
    refine st467 _ ?_
    refine own_aN X467 hx hby d3_19 ?_
    refine st469 _ ?_
    refine st470 _ ?_
    refine st471 _ ?_
    refine st473 _ ?_
    refine own_aN X473 hx hby d3_31 ?_
    refine st475 _ ?_
    refine st476 _ ?_
    refine st479 _ ?_
    jvm_step X479.here [X479.here.top, hx, (hb hby d3_41), X479.method', hret, Value.isRef, FieldType.isReference]
    first | (intro acts; rw [hr _ acts rfl rfl rfl]) | rw [hr _ _ rfl rfl rfl]
    exact Steps.refl _
  · show Qrm457 Z w_CS qa qb qc ka kb kc w_DO k_w_DO w_DT k_w_DT pv h0 _ T479.heap _
    exact ⟨b480, b481, k482, rfl, N479, K479, sz_b480, sz_b481, q479_E_b480, q479_F_b480_value, q479_F_b480_coder, q479_V_b481⟩
  · rw [hs0]
    show CHr Z consts_1 s.vm h0 T479.vm T479.heap
    skip
    exact CR479.trans (CHv.at (s := s) (vm0 := T471.vm) X479 hZ471 (own_hEL hw) CR479.1)
def Qown_pvJ (Z : State) (qa qb qc : Int32) (ka kb kc : Nat) (h0 : Heap) (v : Option Value) (h : Heap) (L : List Loc) : Prop := ∃ b : Addr, v = some (.ref b) ∧ Fr Z.heap.size L ∧ Keep h0 h [] ∧ h0.size ≤ b ∧ Exa Z h b "java/lang/String" ∧ own_rep Z h b (own_vs qa qb qc ka kb kc)
theorem own_pvJ (l : Launch) (Z : State) (a0 : Array Value) (hw : own_HW Z a0) (ws : List Jvm.Cond) (w_CS qa qb qc : Int32) (ka kb kc : Nat) (w_DO : Addr) (k_w_DO : ClassId) (w_DT : Addr) (k_w_DT : ClassId) (pv : Addr) (h0 : Heap) (Z0 : Ext Z.heap h0) (S_w_CS : own_w_CS Z w_CS) (S_w_DO : own_Sw_DO Z w_DO) (A_w_DO : Arv Z Z.heap w_DO k_w_DO .byte (100 : Int32) own_ones (.int (0 : Int32))) (S_w_DT : own_Sw_DT Z w_DT) (A_w_DT : Arv Z Z.heap w_DT k_w_DT .byte (100 : Int32) own_tens (.int (0 : Int32))) (E_pv : Exa Z h0 pv "com/example/tenderd/tenderd/core/ProtocolVersion") (F_pv_major : Fld Z h0 pv "com/example/tenderd/tenderd/core/ProtocolVersion" "major" "I" (.int qa)) (F_pv_minor : Fld Z h0 pv "com/example/tenderd/tenderd/core/ProtocolVersion" "minor" "I" (.int qb)) (F_pv_revision : Fld Z h0 pv "com/example/tenderd/tenderd/core/ProtocolVersion" "revision" "I" (.int qc)) (hc1 : ¬ (w_CS = (0 : Int32))) (hc79 : own_nd qa ka) (hc82 : own_nd qb kb) (hc85 : own_nd qc kc) :
    own_metW l y_30 prog_22_method_5_code 1 (some (.object "java/lang/String")) ws ({ frames := 7, cells := 10, slots := 200, locals := 140 } : Room) Z #[(.ref pv)] h0 (Qown_pvJ Z qa qb qc ka kb kc h0) := by
  have ha := own_nd_pow hc79
  have hb := own_nd_pow hc82
  have hc := own_nd_pow hc85
  have la := ha.2.2.1
  have lb := hb.2.2.1
  have lc := hc.2.2.1
  by_cases c1 : 16 < ka + 1 + kb
  · exact own_monoW (rm404 l Z a0 hw ws w_CS qa qb qc ka kb kc w_DO k_w_DO w_DT k_w_DT pv h0 Z0 S_w_CS S_w_DO A_w_DO S_w_DT A_w_DT E_pv F_pv_major F_pv_minor F_pv_revision hc1 hc79 (by simp only [own_gw, List.length_append, own_ds_len, List.length_cons, List.length_nil]; omega) (by simp only [own_gw, List.length_append, own_ds_len, List.length_cons, List.length_nil]; omega) hc82 (by simp only [own_gw, List.length_append, own_ds_len, List.length_cons, List.length_nil]; omega) (by simp only [own_gw, List.length_append, own_ds_len, List.length_cons, List.length_nil]; omega) (by simp only [own_gw, List.length_append, own_ds_len, List.length_cons, List.length_nil]; omega) hc85 (by simp only [own_gw, List.length_append, own_ds_len, List.length_cons, List.length_nil]; omega) (by simp only [own_gw, List.length_append, own_ds_len, List.length_cons, List.length_nil]; omega)) fun v h L ⟨b428, b429, k430, z1, z2, z3, s0, s1, f0, f1, f2, f3⟩ => ⟨b428, z1, z2, z3, s0, f0, b429, k430, f1, f2, f3⟩
  · by_cases c2 : 16 < ka + 1 + kb + 1
    · exact own_monoW (rm431 l Z a0 hw ws w_CS qa qb qc ka kb kc w_DO k_w_DO w_DT k_w_DT pv h0 Z0 S_w_CS S_w_DO A_w_DO S_w_DT A_w_DT E_pv F_pv_major F_pv_minor F_pv_revision hc1 hc79 (by simp only [own_gw, List.length_append, own_ds_len, List.length_cons, List.length_nil]; omega) (by simp only [own_gw, List.length_append, own_ds_len, List.length_cons, List.length_nil]; omega) hc82 (by simp only [own_gw, List.length_append, own_ds_len, List.length_cons, List.length_nil]; omega) (by simp only [own_gw, List.length_append, own_ds_len, List.length_cons, List.length_nil]; omega) (by simp only [own_gw, List.length_append, own_ds_len, List.length_cons, List.length_nil]; omega) hc85 (by simp only [own_gw, List.length_append, own_ds_len, List.length_cons, List.length_nil]; omega) (by simp only [own_gw, List.length_append, own_ds_len, List.length_cons, List.length_nil]; omega)) fun v h L ⟨b454, b455, k456, z1, z2, z3, s0, s1, f0, f1, f2, f3⟩ => ⟨b454, z1, z2, z3, s0, f0, b455, k456, f1, f2, f3⟩
    · by_cases c3 : 16 < ka + 1 + kb + 1 + kc
      · exact own_monoW (rm457 l Z a0 hw ws w_CS qa qb qc ka kb kc w_DO k_w_DO w_DT k_w_DT pv h0 Z0 S_w_CS S_w_DO A_w_DO S_w_DT A_w_DT E_pv F_pv_major F_pv_minor F_pv_revision hc1 hc79 (by simp only [own_gw, List.length_append, own_ds_len, List.length_cons, List.length_nil]; omega) (by simp only [own_gw, List.length_append, own_ds_len, List.length_cons, List.length_nil]; omega) hc82 (by simp only [own_gw, List.length_append, own_ds_len, List.length_cons, List.length_nil]; omega) (by simp only [own_gw, List.length_append, own_ds_len, List.length_cons, List.length_nil]; omega) hc85 (by simp only [own_gw, List.length_append, own_ds_len, List.length_cons, List.length_nil]; omega) (by simp only [own_gw, List.length_append, own_ds_len, List.length_cons, List.length_nil]; omega) (by simp only [own_gw, List.length_append, own_ds_len, List.length_cons, List.length_nil]; omega)) fun v h L ⟨b480, b481, k482, z1, z2, z3, s0, s1, f0, f1, f2, f3⟩ => ⟨b480, z1, z2, z3, s0, f0, b481, k482, f1, f2, f3⟩
      · by_cases c4 : ka + 1 + kb + 1 + kc = 16
        · exact own_monoW (rm380 l Z a0 hw ws w_CS qa qb qc ka kb kc w_DO k_w_DO w_DT k_w_DT pv h0 Z0 S_w_CS S_w_DO A_w_DO S_w_DT A_w_DT E_pv F_pv_major F_pv_minor F_pv_revision hc1 hc79 (by simp only [own_gw, List.length_append, own_ds_len, List.length_cons, List.length_nil]; omega) (by simp only [own_gw, List.length_append, own_ds_len, List.length_cons, List.length_nil]; omega) hc82 (by simp only [own_gw, List.length_append, own_ds_len, List.length_cons, List.length_nil]; omega) (by simp only [own_gw, List.length_append, own_ds_len, List.length_cons, List.length_nil]; omega) hc85 (by simp only [own_gw, List.length_append, own_ds_len, List.length_cons, List.length_nil]; omega) (congrArg Int32.ofNat (show _ = 16 from (by simp only [own_gw, List.length_append, own_ds_len, List.length_cons, List.length_nil]; omega))) (by simp only [own_gw, List.length_append, own_ds_len, List.length_cons, List.length_nil]; omega)) fun v h L ⟨b401, b402, k386, z1, z2, z3, s0, s1, f0, f1, f2, f3, f4⟩ => ⟨b401, z1, z2, z3, s0, f0, b402, k386, f1, f2, f3⟩
        · exact own_monoW (rm342 l Z a0 hw ws w_CS qa qb qc ka kb kc w_DO k_w_DO w_DT k_w_DT pv h0 Z0 S_w_CS S_w_DO A_w_DO S_w_DT A_w_DT E_pv F_pv_major F_pv_minor F_pv_revision hc1 hc79 (by simp only [own_gw, List.length_append, own_ds_len, List.length_cons, List.length_nil]; omega) (by simp only [own_gw, List.length_append, own_ds_len, List.length_cons, List.length_nil]; omega) hc82 (by simp only [own_gw, List.length_append, own_ds_len, List.length_cons, List.length_nil]; omega) (by simp only [own_gw, List.length_append, own_ds_len, List.length_cons, List.length_nil]; omega) hc85 (by simp only [own_gw, List.length_append, own_ds_len, List.length_cons, List.length_nil]; omega) (by simp only [own_gw, List.length_append, own_ds_len, List.length_cons, List.length_nil]; omega)) fun v h L ⟨b377, b378, k379, z1, z2, z3, s0, s1, f0, f1, f2, f3⟩ => ⟨b377, z1, z2, z3, s0, f0, b378, k379, f1, f2, f3⟩
def Qrm484 (Z : State) (w_CS : Int32) (cs : List Int32) (bs be : Addr) (ke : ClassId) (h0 : Heap) (v : Option Value) (h : Heap) (L : List Loc) : Prop := v = some (.int (Int32.ofNat cs.length)) ∧ Fr Z.heap.size L ∧ h = h0
theorem rm484 (l : Launch) (Z : State) (a0 : Array Value) (hw : own_HW Z a0) (ws : List Jvm.Cond) (w_CS : Int32) (cs : List Int32) (bs be : Addr) (ke : ClassId) (h0 : Heap) (Z0 : Ext Z.heap h0) (S_w_CS : own_w_CS Z w_CS) (E_bs : Exa Z h0 bs "java/lang/String") (F_bs_coder : Fld Z h0 bs "java/lang/String" "coder" "B" (.int (0 : Int32))) (F_bs_value : Fld Z h0 bs "java/lang/String" "value" "[B" (.ref be)) (V_be : Arv Z h0 be ke .byte (Int32.ofNat cs.length) (own_ch cs) (.int (0 : Int32))) (hc1 : ¬ (w_CS = (0 : Int32))) :
    own_met l y_13 jdk_42_method_54_code 1 (some .int) ws ({ frames := 1, cells := 0, slots := 0, locals := 13 } : Room) Z #[(.ref bs)] h0 (Qrm484 Z w_CS cs bs be ke h0) := by
  refine own_start (plainFor_of_name pn_6) (fun m => ef_jdk_42_method_54_R m bs) ?_
  intro p e s m below meth c s₁ hx hby hml hown hnm X0 hZ e0 hret hlk
  have N0 := Fr.nil Z.heap.size
  obtain ⟨T485, X485, e485, st485⟩ := getF X0 hx hZ hown (host := "") (Or.inl (own_w hw 91 rfl)) Via.refl e0 F_bs_value (g := (mkF m 1 #[rv bs] [(.ref bs)])) rfl rfl (hb hby d14_1)
  obtain ⟨cl486, Ar486, q486, S486, Nn486, H486, G486⟩ := id V_be
  obtain ⟨_, T487, Lc487, X487, hQ487, st487⟩ := own_virtual (y := y_12) X485 hx hZ hown (own_w hw 92 rfl) (own_w hw 93 rfl) (own_w hw 95 rfl) (own_w hw 94 rfl) (own_w hw 35 rfl) (own_w hw 96 rfl) (rm125 l Z a0 hw [] w_CS bs h0 Z0 S_w_CS F_bs_coder hc1) e485 E_bs (g := (mkF m 6 #[rv bs] [(.ref bs), (.int (Int32.ofNat cs.length))])) (argsL := []) (rest := [(.int (Int32.ofNat cs.length))]) (W := 1) (lenOf pd_8 rfl) (hb hby d14_6) hml
  obtain ⟨rfl, N487q, e487⟩ := hQ487
  have N487 := Fr.app N0 N487q
  obtain ⟨fs, hr, hrun, hended, hW, hsame⟩ := X487.leave (v := some (.int (Int32.ofNat cs.length))) (fun h => by rw [hret] at h; cases h) hlk
  refine ⟨_, _, ?_, hrun, hended, _, _, rfl, ?_, ⟨_, rfl⟩, hW, hsame.mono (by decide) (by decide)⟩
  · show own_S p e below s₁ (mkF m 0 #[rv bs] []) _
    refine own_aN X0 hx hby d14_0 ?_
    refine st485 _ ?_
    refine X485.arraylength hx (by rw [e485]; exact Ar486.1) (State.isArrayOf_alike hZ.alike Ar486.2.1) (g := (mkF m 4 #[rv bs] [(.ref be)])) rfl rfl (hb hby d14_4) _ ?_
    rw [len_of S486 Nn486]
    refine own_aN X485 hx hby d14_5 ?_
    refine st487 _ ?_
    refine XS.ishr X487.here hx rfl (hb hby d14_9) rfl ?_
    show own_S p e below T487 (mkF m 10 #[rv bs] [(.int ((Int32.ofNat cs.length) >>> ((0 : Int32) &&& 31)))]) _
    rw [(own_shr0 _)]
    exact retI X487 hx hret (hb hby d14_10) hr
  · show Qrm484 Z w_CS cs bs be ke h0 _ T487.heap _
    rw [e487]
    exact ⟨rfl, N487, rfl⟩
theorem own_slG (l : Launch) (Z : State) (a0 : Array Value) (hw : own_HW Z a0) (ws : List Jvm.Cond) (w_CS : Int32) (cs : List Int32) (bs : Addr) (h0 : Heap) (Z0 : Ext Z.heap h0) (S_w_CS : own_w_CS Z w_CS) (E_bs : Exa Z h0 bs "java/lang/String") (T_bs : own_rep Z h0 bs cs) (hc1 : ¬ (w_CS = (0 : Int32))) :
    own_met l y_13 jdk_42_method_54_code 1 (some .int) ws ({ frames := 1, cells := 0, slots := 0, locals := 13 } : Room) Z #[(.ref bs)] h0 (own_qp Z (some (.int (Int32.ofNat cs.length))) h0) := by
  obtain ⟨be, ke, hV, hC, hA⟩ := T_bs
  exact rm484 l Z a0 hw ws w_CS cs bs be ke h0 Z0 S_w_CS E_bs hC hV hA hc1
def Qrm489 (Z : State) (w_CS : Int32) (bs : Addr) (h0 : Heap) (v : Option Value) (h : Heap) (L : List Loc) : Prop := v = some (.int (1 : Int32)) ∧ Fr Z.heap.size L ∧ h = h0
theorem rm489 (l : Launch) (Z : State) (a0 : Array Value) (hw : own_HW Z a0) (ws : List Jvm.Cond) (w_CS : Int32) (bs : Addr) (h0 : Heap) (Z0 : Ext Z.heap h0) (S_w_CS : own_w_CS Z w_CS) (F_bs_coder : Fld Z h0 bs "java/lang/String" "coder" "B" (.int (0 : Int32))) (hc1 : ¬ (w_CS = (0 : Int32))) :
    own_met l y_31 jdk_42_method_154_code 1 (some .boolean) ws ({ frames := 0, cells := 0, slots := 0, locals := 0 } : Room) Z #[(.ref bs)] h0 (Qrm489 Z w_CS bs h0) := by
  refine own_start (plainFor_of_name pn_6) (fun m => ef_jdk_42_method_154_R m bs) ?_
  intro p e s m below meth c s₁ hx hby hml hown hnm X0 hZ e0 hret hlk
  have N0 := Fr.nil Z.heap.size
  obtain ⟨T490, X490, e490, st490⟩ := getS2 X0 hx hZ hown (host := "") (Or.inl (own_w hw 97 rfl)) Via.refl e0 (S_w_CS.ext Z0) (g := (mkF m 0 #[rv bs] [])) rfl (hb hby d31_0)
  obtain ⟨T491, X491, e491, st491⟩ := getF X490 hx hZ hown (host := "") (Or.inl (own_w hw 98 rfl)) Via.refl e490 F_bs_coder (g := (mkF m 7 #[rv bs] [(.ref bs)])) rfl rfl (hb hby d31_7)
  obtain ⟨fs, hr, hrun, hended, hW, hsame⟩ := X491.leave (v := some (.int (1 : Int32))) (fun h => by rw [hret] at h; cases h) hlk
  refine ⟨_, _, ?_, hrun, hended, _, _, rfl, ?_, ⟨_, rfl⟩, hW, hsame.mono (by decide) (by decide)⟩
  · show own_S p e below s₁ (mkF m 0 #[rv bs] []) _
    refine st490 _ ?_
    refine own_in X490 hx hby d31_3 (feq hc1).1 ?_
    refine own_aN X490 hx hby d31_6 ?_
    refine st491 _ ?_
    refine own_in X491 hx hby d31_10 (teq (rfl : (0 : Int32) = (0 : Int32))).2 ?_
    refine own_k X491 hx hby d31_13 ?_
    refine own_go (pc := 14) X491 hx hby d31_14 18 ?_
    exact retN X491 hx (t := .boolean) hret (by simp) (hb hby d31_18) hr
  · show Qrm489 Z w_CS bs h0 _ T491.heap _
    rw [e491]
    exact ⟨rfl, N0, rfl⟩
def Qrm498 (Z : State) (w_SF : Value) (cs : List Int32) (ii cc : Int32) (h0 : Heap) (v : Option Value) (h : Heap) (L : List Loc) : Prop := v = some (.int ii) ∧ Fr Z.heap.size L ∧ h = h0
theorem rm498 (l : Launch) (Z : State) (a0 : Array Value) (hw : own_HW Z a0) (ws : List Jvm.Cond) (w_SF : Value) (cs : List Int32) (ii cc : Int32) (h0 : Heap) (Z0 : Ext Z.heap h0) (R_w_SF : w_SF.isRef = true) (hc99 : own_at cs ii cc) :
    own_met l y_32 jdk_41_method_11_code 3 (some .int) ws ({ frames := 0, cells := 0, slots := 0, locals := 0 } : Room) Z #[(.int ii), (.int (Int32.ofNat cs.length)), w_SF] h0 (Qrm498 Z w_SF cs ii cc h0) := by
  refine own_start (plainFor_of_name pn_8) (fun m => ef_jdk_41_method_11_IIX m ii (Int32.ofNat cs.length) w_SF R_w_SF) ?_
  intro p e s m below meth c s₁ hx hby hml hown hnm X0 hZ e0 hret hlk
  have N0 := Fr.nil Z.heap.size
  obtain ⟨fs, hr, hrun, hended, hW, hsame⟩ := X0.leave (v := some (.int ii)) (fun h => by rw [hret] at h; cases h) hlk
  refine ⟨_, _, ?_, hrun, hended, _, _, rfl, ?_, ⟨_, rfl⟩, hW, hsame.mono (by decide) (by decide)⟩
  · show own_S p e below s₁ (mkF m 0 #[iv ii, iv (Int32.ofNat cs.length), .val w_SF] []) _
    refine own_iN X0 hx hby d34_0 ?_
    refine own_in X0 hx hby d34_1 (flt hc99.1).1 ?_
    refine own_iN X0 hx hby d34_4 ?_
    refine own_iN X0 hx hby d34_5 ?_
    refine own_cy (pc := 6) X0 hx hby d34_6 (tlt hc99.2.1).1 16 ?_
    refine own_iN X0 hx hby d34_16 ?_
    exact retI X0 hx hret (hb hby d34_17) hr
  · show Qrm498 Z w_SF cs ii cc h0 _ s₁.heap _
    rw [e0]
    exact ⟨rfl, N0, rfl⟩
def Qrm496 (Z : State) (w_SF : Value) (cs : List Int32) (ii cc : Int32) (h0 : Heap) (v : Option Value) (h : Heap) (L : List Loc) : Prop := v = none ∧ Fr Z.heap.size L ∧ h = h0
theorem rm496 (l : Launch) (Z : State) (a0 : Array Value) (hw : own_HW Z a0) (ws : List Jvm.Cond) (w_SF : Value) (cs : List Int32) (ii cc : Int32) (h0 : Heap) (Z0 : Ext Z.heap h0) (S_w_SF : own_w_SF Z w_SF) (R_w_SF : w_SF.isRef = true) (hc99 : own_at cs ii cc) :
    own_met l y_33 jdk_42_method_155_code 2 none ws ({ frames := 1, cells := 0, slots := 0, locals := 14 } : Room) Z #[(.int ii), (.int (Int32.ofNat cs.length))] h0 (Qrm496 Z w_SF cs ii cc h0) := by
  refine own_start (plainFor_of_name pn_6) (fun m => ef_jdk_42_method_155_II m ii (Int32.ofNat cs.length)) ?_
  intro p e s m below meth c s₁ hx hby hml hown hnm X0 hZ e0 hret hlk
  have N0 := Fr.nil Z.heap.size
  obtain ⟨T497, X497, e497, st497⟩ := getS2 X0 hx hZ hown (host := "") (Or.inl (own_w hw 184 rfl)) Via.refl e0 (S_w_SF.ext Z0) (g := (mkF m 2 #[iv ii, iv (Int32.ofNat cs.length)] [(.int (Int32.ofNat cs.length)), (.int ii)])) rfl (hb hby d33_2)
  obtain ⟨_, T499, Lc499, X499, hQ499, st499⟩ := own_static (y := y_32) X497 hx hZ hown (own_w hw 186 rfl) (own_w hw 187 rfl) (own_w hw 185 rfl) (own_w hw 188 rfl) (rm498 l Z a0 hw [] w_SF cs ii cc h0 Z0 R_w_SF hc99) e497 (g := (mkF m 5 #[iv ii, iv (Int32.ofNat cs.length)] [w_SF, (.int (Int32.ofNat cs.length)), (.int ii)])) (argsL := [(.int ii), (.int (Int32.ofNat cs.length)), w_SF]) (rest := []) (W := 0) (lenOf pd_23 rfl) (hb hby d33_5) hml
  obtain ⟨rfl, N499q, e499⟩ := hQ499
  have N499 := Fr.app N0 N499q
  obtain ⟨fs, hr, hrun, hended, hW, hsame⟩ := X499.leave (v := none) (fun _ => rfl) hlk
  refine ⟨_, _, ?_, hrun, hended, _, _, rfl, ?_, ⟨_, rfl⟩, hW, hsame.mono (by decide) (by decide)⟩
  · show own_S p e below s₁ (mkF m 0 #[iv ii, iv (Int32.ofNat cs.length)] []) _
    refine own_iN X0 hx hby d33_0 ?_
    refine own_iN X0 hx hby d33_1 ?_
    refine st497 _ ?_
    refine st499 _ ?_
    refine XS.pop X499.here hx rfl (hb hby d33_8) rfl rfl ?_
    exact X499.returnOut hx hret (hb hby d33_9) hr
  · show Qrm496 Z w_SF cs ii cc h0 _ T499.heap _
    rw [e499]
    exact ⟨rfl, N499, rfl⟩
def Qrm494 (Z : State) (w_SF : Value) (cs : List Int32) (be : Addr) (ke : ClassId) (ii cc : Int32) (h0 : Heap) (v : Option Value) (h : Heap) (L : List Loc) : Prop := v = some (.int cc) ∧ Fr Z.heap.size L ∧ h = h0
theorem rm494 (l : Launch) (Z : State) (a0 : Array Value) (hw : own_HW Z a0) (ws : List Jvm.Cond) (w_SF : Value) (cs : List Int32) (be : Addr) (ke : ClassId) (ii cc : Int32) (h0 : Heap) (Z0 : Ext Z.heap h0) (S_w_SF : own_w_SF Z w_SF) (R_w_SF : w_SF.isRef = true) (V_be : Arv Z h0 be ke .byte (Int32.ofNat cs.length) (own_ch cs) (.int (0 : Int32))) (hc99 : own_at cs ii cc) :
    own_met l y_34 jdk_43_method_2_code 2 (some .char) ws ({ frames := 2, cells := 0, slots := 0, locals := 27 } : Room) Z #[(.ref be), (.int ii)] h0 (Qrm494 Z w_SF cs be ke ii cc h0) := by
  refine own_start (plainFor_of_name pn_9) (fun m => ef_jdk_43_method_2_RI m be ii) ?_
  intro p e s m below meth c s₁ hx hby hml hown hnm X0 hZ e0 hret hlk
  have N0 := Fr.nil Z.heap.size
  obtain ⟨cl495, Ar495, q495, S495, Nn495, H495, G495⟩ := id V_be
  obtain ⟨_, T500, Lc500, X500, hQ500, st500⟩ := own_static (y := y_33) X0 hx hZ hown (own_w hw 181 rfl) (own_w hw 182 rfl) (own_w hw 35 rfl) (own_w hw 183 rfl) (rm496 l Z a0 hw [] w_SF cs ii cc h0 Z0 S_w_SF R_w_SF hc99) e0 (g := (mkF m 3 #[rv be, iv ii] [(.int (Int32.ofNat cs.length)), (.int ii)])) (argsL := [(.int ii), (.int (Int32.ofNat cs.length))]) (rest := []) (W := 0) (lenOf pd_15 rfl) (hb hby d32_3) hml
  obtain ⟨rfl, N500q, e500⟩ := hQ500
  have N500 := Fr.app N0 N500q
  obtain ⟨cl501, Ar501, q501, S501, Nn501, H501, G501⟩ := id V_be
  have hin501 : ¬ (ii < 0 ∨ cl501.slots.size ≤ (ii).toNatClampNeg) := inb_of S501 (own_g_ib hc99)
  have hat501 : cl501.slots[(ii).toNatClampNeg]? = some (.int cc) := Has.at H501 hin501 (own_g_get hc99)
  obtain ⟨fs, hr, hrun, hended, hW, hsame⟩ := X500.leave (v := some (.int cc)) (fun h => by rw [hret] at h; cases h) hlk
  refine ⟨_, _, ?_, hrun, hended, _, _, rfl, ?_, ⟨_, rfl⟩, hW, hsame.mono (by decide) (by decide)⟩
  · show own_S p e below s₁ (mkF m 0 #[rv be, iv ii] []) _
    refine own_iN X0 hx hby d32_0 ?_
    refine own_aN X0 hx hby d32_1 ?_
    refine X0.arraylength hx (by rw [e0]; exact Ar495.1) (State.isArrayOf_alike hZ.alike Ar495.2.1) (g := (mkF m 2 #[rv be, iv ii] [(.ref be), (.int ii)])) rfl rfl (hb hby d32_2) _ ?_
    rw [len_of S495 Nn495]
    refine st500 _ ?_
    refine own_aN X500 hx hby d32_6 ?_
    refine own_iN X500 hx hby d32_7 ?_
    refine X500.baloadBytes hx (j := ii) (v := (.int cc)) (by rw [e500]; exact Ar501.1) (State.isArrayOf_alike hZ.alike Ar501.2.1) Ar501.2.2 hin501 hat501 (g := (mkF m 8 #[rv be, iv ii] [(.int ii), (.ref be)])) rfl rfl (hb hby d32_8) _ ?_
    refine XS.sipush X500.here hx rfl (hb hby d32_9) ?_
    refine XS.iand X500.here hx rfl (hb hby d32_12) rfl ?_
    show own_S p e below T500 (mkF m 13 #[rv be, iv ii] [(.int (cc &&& (255 : Int32)))]) _
    rw [(own_g_255 hc99)]
    refine XS.i2c X500.here hx rfl (hb hby d32_13) rfl ?_
    show own_S p e below T500 (mkF m 14 #[rv be, iv ii] [(.int (cc.toUInt32.toUInt16.toUInt32.toInt32))]) _
    rw [(own_g_i2c hc99)]
    rw [← (own_g_nar hc99)] at hr
    exact retN X500 hx (t := .char) hret (by simp) (hb hby d32_14) hr
  · show Qrm494 Z w_SF cs be ke ii cc h0 _ T500.heap _
    rw [e500]
    exact ⟨rfl, N500, rfl⟩
def Qrm488 (Z : State) (w_CS : Int32) (w_SF : Value) (cs : List Int32) (bs be : Addr) (ke : ClassId) (ii cc : Int32) (h0 : Heap) (v : Option Value) (h : Heap) (L : List Loc) : Prop := v = some (.int cc) ∧ Fr Z.heap.size L ∧ h = h0
theorem rm488 (l : Launch) (Z : State) (a0 : Array Value) (hw : own_HW Z a0) (ws : List Jvm.Cond) (w_CS : Int32) (w_SF : Value) (cs : List Int32) (bs be : Addr) (ke : ClassId) (ii cc : Int32) (h0 : Heap) (Z0 : Ext Z.heap h0) (S_w_CS : own_w_CS Z w_CS) (S_w_SF : own_w_SF Z w_SF) (R_w_SF : w_SF.isRef = true) (E_bs : Exa Z h0 bs "java/lang/String") (F_bs_coder : Fld Z h0 bs "java/lang/String" "coder" "B" (.int (0 : Int32))) (F_bs_value : Fld Z h0 bs "java/lang/String" "value" "[B" (.ref be)) (V_be : Arv Z h0 be ke .byte (Int32.ofNat cs.length) (own_ch cs) (.int (0 : Int32))) (hc1 : ¬ (w_CS = (0 : Int32))) (hc99 : own_at cs ii cc) :
    own_met l y_35 jdk_42_method_56_code 2 (some .char) ws ({ frames := 3, cells := 0, slots := 0, locals := 40 } : Room) Z #[(.ref bs), (.int ii)] h0 (Qrm488 Z w_CS w_SF cs bs be ke ii cc h0) := by
  refine own_start (plainFor_of_name pn_6) (fun m => ef_jdk_42_method_56_RI m bs ii) ?_
  intro p e s m below meth c s₁ hx hby hml hown hnm X0 hZ e0 hret hlk
  have N0 := Fr.nil Z.heap.size
  obtain ⟨_, T492, Lc492, X492, hQ492, st492⟩ := own_virtual (y := y_31) X0 hx hZ hown (own_w hw 172 rfl) (own_w hw 173 rfl) (own_w hw 175 rfl) (own_w hw 174 rfl) (own_w hw 35 rfl) (own_w hw 176 rfl) (rm489 l Z a0 hw [] w_CS bs h0 Z0 S_w_CS F_bs_coder hc1) e0 E_bs (g := (mkF m 1 #[rv bs, iv ii] [(.ref bs)])) (argsL := []) (rest := []) (W := 0) (lenOf pd_5 rfl) (hb hby d30_1) hml
  obtain ⟨rfl, N492q, e492⟩ := hQ492
  have N492 := Fr.app N0 N492q
  obtain ⟨T493, X493, e493, st493⟩ := getF X492 hx hZ hown (host := "") (Or.inl (own_w hw 91 rfl)) Via.refl e492 F_bs_value (g := (mkF m 8 #[rv bs, iv ii] [(.ref bs)])) rfl rfl (hb hby d30_8)
  obtain ⟨_, T502, Lc502, X502, hQ502, st502⟩ := own_static (y := y_34) X493 hx hZ hown (own_w hw 177 rfl) (own_w hw 178 rfl) (own_w hw 179 rfl) (own_w hw 180 rfl) (rm494 l Z a0 hw [] w_SF cs be ke ii cc h0 Z0 S_w_SF R_w_SF V_be hc99) e493 (g := (mkF m 12 #[rv bs, iv ii] [(.int ii), (.ref be)])) (argsL := [(.ref be), (.int ii)]) (rest := []) (W := 0) (lenOf pd_24 rfl) (hb hby d30_12) hml
  obtain ⟨rfl, N502q, e502⟩ := hQ502
  have N502 := Fr.app N492 N502q
  obtain ⟨fs, hr, hrun, hended, hW, hsame⟩ := X502.leave (v := some (.int cc)) (fun h => by rw [hret] at h; cases h) hlk
  refine ⟨_, _, ?_, hrun, hended, _, _, rfl, ?_, ⟨_, rfl⟩, hW, hsame.mono (by decide) (by decide)⟩
  · show own_S p e below s₁ (mkF m 0 #[rv bs, iv ii] []) _
    refine own_aN X0 hx hby d30_0 ?_
    refine st492 _ ?_
    refine own_in X492 hx hby d30_4 (feq (by decide : ¬ ((1 : Int32) = (0 : Int32)))).1 ?_
    refine own_aN X492 hx hby d30_7 ?_
    refine st493 _ ?_
    refine own_iN X493 hx hby d30_11 ?_
    refine st502 _ ?_
    rw [← (own_g_nar hc99)] at hr
    exact retN X502 hx (t := .char) hret (by simp) (hb hby d30_15) hr
  · show Qrm488 Z w_CS w_SF cs bs be ke ii cc h0 _ T502.heap _
    rw [e502]
    exact ⟨rfl, N502, rfl⟩
theorem own_scG (l : Launch) (Z : State) (a0 : Array Value) (hw : own_HW Z a0) (ws : List Jvm.Cond) (w_CS : Int32) (w_SF : Value) (cs : List Int32) (bs : Addr) (ii cc : Int32) (h0 : Heap) (Z0 : Ext Z.heap h0) (S_w_CS : own_w_CS Z w_CS) (S_w_SF : own_w_SF Z w_SF) (R_w_SF : w_SF.isRef = true) (E_bs : Exa Z h0 bs "java/lang/String") (T_bs : own_rep Z h0 bs cs) (hc1 : ¬ (w_CS = (0 : Int32))) (hc99 : own_at cs ii cc) :
    own_met l y_35 jdk_42_method_56_code 2 (some .char) ws ({ frames := 3, cells := 0, slots := 0, locals := 40 } : Room) Z #[(.ref bs), (.int ii)] h0 (own_qp Z (some (.int cc)) h0) := by
  obtain ⟨be, ke, hV, hC, hA⟩ := T_bs
  exact rm488 l Z a0 hw ws w_CS w_SF cs bs be ke ii cc h0 Z0 S_w_CS S_w_SF R_w_SF E_bs hC hV hA hc1 hc99
def Qrm503 (Z : State) (w_CS : Int32) (w_SF : Value) (qa : Int32) (kk : Nat) (cs : List Int32) (bs : Addr) (cc : Int32) (od dj : Nat) (pw dg : Int32) (h0 : Heap) (v : Option Value) (h : Heap) (L : List Loc) : Prop := v = some (.int (1 : Int32)) ∧ Fr Z.heap.size L ∧ Keep h0 h []
theorem rm503 (l : Launch) (Z : State) (a0 : Array Value) (hw : own_HW Z a0) (ws : List Jvm.Cond) (w_CS : Int32) (w_SF : Value) (qa : Int32) (kk : Nat) (cs : List Int32) (bs : Addr) (cc : Int32) (od dj : Nat) (pw dg : Int32) (h0 : Heap) (Z0 : Ext Z.heap h0) (S_w_CS : own_w_CS Z w_CS) (S_w_SF : own_w_SF Z w_SF) (R_w_SF : w_SF.isRef = true) (E_bs : Exa Z h0 bs "java/lang/String") (T_bs : own_rep Z h0 bs cs) (hc100 : (Int32.ofNat dj) < (Int32.ofNat kk)) (hc101 : ((Int32.ofNat kk) - (1 : Int32)) = (Int32.ofNat (kk - 1))) (hc102 : ((Int32.ofNat (kk - 1)) - (Int32.ofNat dj)) = (Int32.ofNat (kk - 1 - dj))) (hc103 : own_ib (Int32.ofNat (kk - 1 - dj)) (10 : Int32)) (hc104 : own_get [(.int (1 : Int32)), (.int (10 : Int32)), (.int (100 : Int32)), (.int (1000 : Int32)), (.int (10000 : Int32)), (.int (100000 : Int32)), (.int (1000000 : Int32)), (.int (10000000 : Int32)), (.int (100000000 : Int32)), (.int (1000000000 : Int32))] (Int32.ofNat (kk - 1 - dj)) (.int (0 : Int32)) (.int pw)) (hc105 : ¬ (pw = (0 : Int32))) (hc106 : ((qa / pw) % (10 : Int32)) = dg) (hc107 : ((Int32.ofNat od) + (Int32.ofNat dj)) = (Int32.ofNat (od + dj))) (hc1 : ¬ (w_CS = (0 : Int32))) (hc108 : own_at cs (Int32.ofNat (od + dj)) cc) (hc109 : (((48 : Int32) + dg).toUInt32.toUInt16.toUInt32.toInt32) = cc) :
    own_met l y_36 method_3_code 7 (some .boolean) ws ({ frames := 4, cells := 1, slots := 10, locals := 60 } : Room) Z #[(.ref bs), (.int (Int32.ofNat od)), (.int qa), (.int (Int32.ofNat kk)), (.int (Int32.ofNat dj))] h0 (Qrm503 Z w_CS w_SF qa kk cs bs cc od dj pw dg h0) := by
  refine own_start (plainFor_of_name pn_1) (fun m => ef_method_3_RIIII m bs (Int32.ofNat od) qa (Int32.ofNat kk) (Int32.ofNat dj)) ?_
  intro p e s m below meth c s₁ hx hby hml hown hnm X0 hZ e0 hret hlk
  have N0 := Fr.nil Z.heap.size
  obtain ⟨T504, h504, k504, X504, e504, E504, A504, st504⟩ := newP X0 hx hZ (own_w hw 195 rfl) e0 (g := (mkF m 10 #[rv bs, iv (Int32.ofNat od), iv qa, iv (Int32.ofNat kk), iv (Int32.ofNat dj), .unset, .unset] [(.int (10 : Int32))])) rfl (hb hby d36_10) rfl (by decide) (cap := 10) (by decide) (by decide) (by decide) (by decide)
  obtain ⟨b504, g504⟩ : ∃ z, z = h0.size := ⟨_, rfl⟩
  rw [← g504] at A504 st504
  have g_b504 : Z.heap.size ≤ b504 := Nat.le_trans Z0.1 (Nat.le_of_eq g504.symm)
  have sz_b504 : h0.size ≤ b504 := Nat.le_trans (Keep.refl h0 []).1 (Nat.le_of_eq g504.symm)
  have V_b504 : Arv Z h504 b504 k504 .int (10 : Int32) [(.int (0 : Int32)), (.int (0 : Int32)), (.int (0 : Int32)), (.int (0 : Int32)), (.int (0 : Int32)), (.int (0 : Int32)), (.int (0 : Int32)), (.int (0 : Int32)), (.int (0 : Int32)), (.int (0 : Int32))] (.int (0 : Int32)) := (Arv.new A504 (by decide)).pad (pad_rep [] (.int (0 : Int32)) 10)
  have K504 : Keep h0 h504 [] := (Keep.refl h0 []).ext E504
  have XX504 : Ext Z.heap h504 := own_ext2 Z0 E504
  obtain ⟨cl505, Ar505, q505, S505, Nn505, H505, G505⟩ := id V_b504
  have hin505 : ¬ ((0 : Int32) < 0 ∨ cl505.slots.size ≤ ((0 : Int32)).toNatClampNeg) := inb_of S505 ⟨by decide, by decide⟩
  obtain ⟨T506, h506, X506, e506, W506, st506⟩ := stI X504 hx hZ e504 Ar505 (j := (0 : Int32)) hin505 (g := (mkF m 15 #[rv bs, iv (Int32.ofNat od), iv qa, iv (Int32.ofNat kk), iv (Int32.ofNat dj), .unset, .unset] [(.int (1 : Int32)), (.int (0 : Int32)), (.ref b504), (.ref b504)])) rfl rfl (hb hby d36_15)
  have V506 : Arv Z h506 b504 k504 .int (10 : Int32) [(.int (1 : Int32)), (.int (0 : Int32)), (.int (0 : Int32)), (.int (0 : Int32)), (.int (0 : Int32)), (.int (0 : Int32)), (.int (0 : Int32)), (.int (0 : Int32)), (.int (0 : Int32)), (.int (0 : Int32))] (.int (0 : Int32)) := Arv.set Ar505 q505 S505 Nn505 H505 G505 rfl W506 0 rfl (Nat.le_of_ble_eq_true rfl)
  have K506 : Keep h0 h506 [] := K504.wr W506 (Or.inr sz_b504)
  have XX506 : Ext Z.heap h506 := own_extW XX504 W506 g_b504
  have N506 := Fr.snoc X506 N0 g_b504
  obtain ⟨cl507, Ar507, q507, S507, Nn507, H507, G507⟩ := id V506
  have hin507 : ¬ ((1 : Int32) < 0 ∨ cl507.slots.size ≤ ((1 : Int32)).toNatClampNeg) := inb_of S507 ⟨by decide, by decide⟩
  obtain ⟨T508, h508, X508, e508, W508, st508⟩ := stI X506 hx hZ e506 Ar507 (j := (1 : Int32)) hin507 (g := (mkF m 20 #[rv bs, iv (Int32.ofNat od), iv qa, iv (Int32.ofNat kk), iv (Int32.ofNat dj), .unset, .unset] [(.int (10 : Int32)), (.int (1 : Int32)), (.ref b504), (.ref b504)])) rfl rfl (hb hby d36_20)
  have V508 : Arv Z h508 b504 k504 .int (10 : Int32) [(.int (1 : Int32)), (.int (10 : Int32)), (.int (0 : Int32)), (.int (0 : Int32)), (.int (0 : Int32)), (.int (0 : Int32)), (.int (0 : Int32)), (.int (0 : Int32)), (.int (0 : Int32)), (.int (0 : Int32))] (.int (0 : Int32)) := Arv.set Ar507 q507 S507 Nn507 H507 G507 rfl W508 1 rfl (Nat.le_of_ble_eq_true rfl)
  have K508 : Keep h0 h508 [] := K506.wr W508 (Or.inr sz_b504)
  have XX508 : Ext Z.heap h508 := own_extW XX506 W508 g_b504
  have N508 := Fr.snoc X508 N506 g_b504
  obtain ⟨cl509, Ar509, q509, S509, Nn509, H509, G509⟩ := id V508
  have hin509 : ¬ ((2 : Int32) < 0 ∨ cl509.slots.size ≤ ((2 : Int32)).toNatClampNeg) := inb_of S509 ⟨by decide, by decide⟩
  obtain ⟨T510, h510, X510, e510, W510, st510⟩ := stI X508 hx hZ e508 Ar509 (j := (2 : Int32)) hin509 (g := (mkF m 25 #[rv bs, iv (Int32.ofNat od), iv qa, iv (Int32.ofNat kk), iv (Int32.ofNat dj), .unset, .unset] [(.int (100 : Int32)), (.int (2 : Int32)), (.ref b504), (.ref b504)])) rfl rfl (hb hby d36_25)
  have V510 : Arv Z h510 b504 k504 .int (10 : Int32) [(.int (1 : Int32)), (.int (10 : Int32)), (.int (100 : Int32)), (.int (0 : Int32)), (.int (0 : Int32)), (.int (0 : Int32)), (.int (0 : Int32)), (.int (0 : Int32)), (.int (0 : Int32)), (.int (0 : Int32))] (.int (0 : Int32)) := Arv.set Ar509 q509 S509 Nn509 H509 G509 rfl W510 2 rfl (Nat.le_of_ble_eq_true rfl)
  have K510 : Keep h0 h510 [] := K508.wr W510 (Or.inr sz_b504)
  have XX510 : Ext Z.heap h510 := own_extW XX508 W510 g_b504
  have N510 := Fr.snoc X510 N508 g_b504
  obtain ⟨cl511, Ar511, q511, S511, Nn511, H511, G511⟩ := id V510
  have hin511 : ¬ ((3 : Int32) < 0 ∨ cl511.slots.size ≤ ((3 : Int32)).toNatClampNeg) := inb_of S511 ⟨by decide, by decide⟩
  obtain ⟨T512, h512, X512, e512, W512, st512⟩ := stI X510 hx hZ e510 Ar511 (j := (3 : Int32)) hin511 (g := (mkF m 31 #[rv bs, iv (Int32.ofNat od), iv qa, iv (Int32.ofNat kk), iv (Int32.ofNat dj), .unset, .unset] [(.int (1000 : Int32)), (.int (3 : Int32)), (.ref b504), (.ref b504)])) rfl rfl (hb hby d36_31)
  have V512 : Arv Z h512 b504 k504 .int (10 : Int32) [(.int (1 : Int32)), (.int (10 : Int32)), (.int (100 : Int32)), (.int (1000 : Int32)), (.int (0 : Int32)), (.int (0 : Int32)), (.int (0 : Int32)), (.int (0 : Int32)), (.int (0 : Int32)), (.int (0 : Int32))] (.int (0 : Int32)) := Arv.set Ar511 q511 S511 Nn511 H511 G511 rfl W512 3 rfl (Nat.le_of_ble_eq_true rfl)
  have K512 : Keep h0 h512 [] := K510.wr W512 (Or.inr sz_b504)
  have XX512 : Ext Z.heap h512 := own_extW XX510 W512 g_b504
  have N512 := Fr.snoc X512 N510 g_b504
  obtain ⟨cl513, Ar513, q513, S513, Nn513, H513, G513⟩ := id V512
  have hin513 : ¬ ((4 : Int32) < 0 ∨ cl513.slots.size ≤ ((4 : Int32)).toNatClampNeg) := inb_of S513 ⟨by decide, by decide⟩
  obtain ⟨T514, h514, X514, e514, W514, st514⟩ := stI X512 hx hZ e512 Ar513 (j := (4 : Int32)) hin513 (g := (mkF m 37 #[rv bs, iv (Int32.ofNat od), iv qa, iv (Int32.ofNat kk), iv (Int32.ofNat dj), .unset, .unset] [(.int (10000 : Int32)), (.int (4 : Int32)), (.ref b504), (.ref b504)])) rfl rfl (hb hby d36_37)
  have V514 : Arv Z h514 b504 k504 .int (10 : Int32) [(.int (1 : Int32)), (.int (10 : Int32)), (.int (100 : Int32)), (.int (1000 : Int32)), (.int (10000 : Int32)), (.int (0 : Int32)), (.int (0 : Int32)), (.int (0 : Int32)), (.int (0 : Int32)), (.int (0 : Int32))] (.int (0 : Int32)) := Arv.set Ar513 q513 S513 Nn513 H513 G513 rfl W514 4 rfl (Nat.le_of_ble_eq_true rfl)
  have K514 : Keep h0 h514 [] := K512.wr W514 (Or.inr sz_b504)
  have XX514 : Ext Z.heap h514 := own_extW XX512 W514 g_b504
  have N514 := Fr.snoc X514 N512 g_b504
  obtain ⟨cl515, Ar515, q515, S515, Nn515, H515, G515⟩ := id V514
  have hin515 : ¬ ((5 : Int32) < 0 ∨ cl515.slots.size ≤ ((5 : Int32)).toNatClampNeg) := inb_of S515 ⟨by decide, by decide⟩
  obtain ⟨T516, h516, X516, e516, W516, st516⟩ := stI X514 hx hZ e514 Ar515 (j := (5 : Int32)) hin515 (g := (mkF m 42 #[rv bs, iv (Int32.ofNat od), iv qa, iv (Int32.ofNat kk), iv (Int32.ofNat dj), .unset, .unset] [(.int (100000 : Int32)), (.int (5 : Int32)), (.ref b504), (.ref b504)])) rfl rfl (hb hby d36_42)
  have V516 : Arv Z h516 b504 k504 .int (10 : Int32) [(.int (1 : Int32)), (.int (10 : Int32)), (.int (100 : Int32)), (.int (1000 : Int32)), (.int (10000 : Int32)), (.int (100000 : Int32)), (.int (0 : Int32)), (.int (0 : Int32)), (.int (0 : Int32)), (.int (0 : Int32))] (.int (0 : Int32)) := Arv.set Ar515 q515 S515 Nn515 H515 G515 rfl W516 5 rfl (Nat.le_of_ble_eq_true rfl)
  have K516 : Keep h0 h516 [] := K514.wr W516 (Or.inr sz_b504)
  have XX516 : Ext Z.heap h516 := own_extW XX514 W516 g_b504
  have N516 := Fr.snoc X516 N514 g_b504
  obtain ⟨cl517, Ar517, q517, S517, Nn517, H517, G517⟩ := id V516
  have hin517 : ¬ ((6 : Int32) < 0 ∨ cl517.slots.size ≤ ((6 : Int32)).toNatClampNeg) := inb_of S517 ⟨by decide, by decide⟩
  obtain ⟨T518, h518, X518, e518, W518, st518⟩ := stI X516 hx hZ e516 Ar517 (j := (6 : Int32)) hin517 (g := (mkF m 48 #[rv bs, iv (Int32.ofNat od), iv qa, iv (Int32.ofNat kk), iv (Int32.ofNat dj), .unset, .unset] [(.int (1000000 : Int32)), (.int (6 : Int32)), (.ref b504), (.ref b504)])) rfl rfl (hb hby d36_48)
  have V518 : Arv Z h518 b504 k504 .int (10 : Int32) [(.int (1 : Int32)), (.int (10 : Int32)), (.int (100 : Int32)), (.int (1000 : Int32)), (.int (10000 : Int32)), (.int (100000 : Int32)), (.int (1000000 : Int32)), (.int (0 : Int32)), (.int (0 : Int32)), (.int (0 : Int32))] (.int (0 : Int32)) := Arv.set Ar517 q517 S517 Nn517 H517 G517 rfl W518 6 rfl (Nat.le_of_ble_eq_true rfl)
  have K518 : Keep h0 h518 [] := K516.wr W518 (Or.inr sz_b504)
  have XX518 : Ext Z.heap h518 := own_extW XX516 W518 g_b504
  have N518 := Fr.snoc X518 N516 g_b504
  obtain ⟨cl519, Ar519, q519, S519, Nn519, H519, G519⟩ := id V518
  have hin519 : ¬ ((7 : Int32) < 0 ∨ cl519.slots.size ≤ ((7 : Int32)).toNatClampNeg) := inb_of S519 ⟨by decide, by decide⟩
  obtain ⟨T520, h520, X520, e520, W520, st520⟩ := stI X518 hx hZ e518 Ar519 (j := (7 : Int32)) hin519 (g := (mkF m 54 #[rv bs, iv (Int32.ofNat od), iv qa, iv (Int32.ofNat kk), iv (Int32.ofNat dj), .unset, .unset] [(.int (10000000 : Int32)), (.int (7 : Int32)), (.ref b504), (.ref b504)])) rfl rfl (hb hby d36_54)
  have V520 : Arv Z h520 b504 k504 .int (10 : Int32) [(.int (1 : Int32)), (.int (10 : Int32)), (.int (100 : Int32)), (.int (1000 : Int32)), (.int (10000 : Int32)), (.int (100000 : Int32)), (.int (1000000 : Int32)), (.int (10000000 : Int32)), (.int (0 : Int32)), (.int (0 : Int32))] (.int (0 : Int32)) := Arv.set Ar519 q519 S519 Nn519 H519 G519 rfl W520 7 rfl (Nat.le_of_ble_eq_true rfl)
  have K520 : Keep h0 h520 [] := K518.wr W520 (Or.inr sz_b504)
  have XX520 : Ext Z.heap h520 := own_extW XX518 W520 g_b504
  have N520 := Fr.snoc X520 N518 g_b504
  obtain ⟨cl521, Ar521, q521, S521, Nn521, H521, G521⟩ := id V520
  have hin521 : ¬ ((8 : Int32) < 0 ∨ cl521.slots.size ≤ ((8 : Int32)).toNatClampNeg) := inb_of S521 ⟨by decide, by decide⟩
  obtain ⟨T522, h522, X522, e522, W522, st522⟩ := stI X520 hx hZ e520 Ar521 (j := (8 : Int32)) hin521 (g := (mkF m 60 #[rv bs, iv (Int32.ofNat od), iv qa, iv (Int32.ofNat kk), iv (Int32.ofNat dj), .unset, .unset] [(.int (100000000 : Int32)), (.int (8 : Int32)), (.ref b504), (.ref b504)])) rfl rfl (hb hby d36_60)
  have V522 : Arv Z h522 b504 k504 .int (10 : Int32) [(.int (1 : Int32)), (.int (10 : Int32)), (.int (100 : Int32)), (.int (1000 : Int32)), (.int (10000 : Int32)), (.int (100000 : Int32)), (.int (1000000 : Int32)), (.int (10000000 : Int32)), (.int (100000000 : Int32)), (.int (0 : Int32))] (.int (0 : Int32)) := Arv.set Ar521 q521 S521 Nn521 H521 G521 rfl W522 8 rfl (Nat.le_of_ble_eq_true rfl)
  have K522 : Keep h0 h522 [] := K520.wr W522 (Or.inr sz_b504)
  have XX522 : Ext Z.heap h522 := own_extW XX520 W522 g_b504
  have N522 := Fr.snoc X522 N520 g_b504
  obtain ⟨cl523, Ar523, q523, S523, Nn523, H523, G523⟩ := id V522
  have hin523 : ¬ ((9 : Int32) < 0 ∨ cl523.slots.size ≤ ((9 : Int32)).toNatClampNeg) := inb_of S523 ⟨by decide, by decide⟩
  obtain ⟨T524, h524, X524, e524, W524, st524⟩ := stI X522 hx hZ e522 Ar523 (j := (9 : Int32)) hin523 (g := (mkF m 66 #[rv bs, iv (Int32.ofNat od), iv qa, iv (Int32.ofNat kk), iv (Int32.ofNat dj), .unset, .unset] [(.int (1000000000 : Int32)), (.int (9 : Int32)), (.ref b504), (.ref b504)])) rfl rfl (hb hby d36_66)
  have V524 : Arv Z h524 b504 k504 .int (10 : Int32) [(.int (1 : Int32)), (.int (10 : Int32)), (.int (100 : Int32)), (.int (1000 : Int32)), (.int (10000 : Int32)), (.int (100000 : Int32)), (.int (1000000 : Int32)), (.int (10000000 : Int32)), (.int (100000000 : Int32)), (.int (1000000000 : Int32))] (.int (0 : Int32)) := Arv.set Ar523 q523 S523 Nn523 H523 G523 rfl W524 9 rfl (Nat.le_of_ble_eq_true rfl)
  have K524 : Keep h0 h524 [] := K522.wr W524 (Or.inr sz_b504)
  have XX524 : Ext Z.heap h524 := own_extW XX522 W524 g_b504
  have N524 := Fr.snoc X524 N522 g_b504
  obtain ⟨cl525, Ar525, q525, S525, Nn525, H525, G525⟩ := id V524
  have hin525 : ¬ ((Int32.ofNat (kk - 1 - dj)) < 0 ∨ cl525.slots.size ≤ ((Int32.ofNat (kk - 1 - dj))).toNatClampNeg) := inb_of S525 hc103
  have hat525 : cl525.slots[((Int32.ofNat (kk - 1 - dj))).toNatClampNeg]? = some (.int pw) := Has.at H525 hin525 hc104
  have f526_E_bs : Exa Z h524 bs "java/lang/String" := (((((((((((E_bs.ext E504).wr W506).wr W508).wr W510).wr W512).wr W514).wr W516).wr W518).wr W520).wr W522).wr W524)
  obtain ⟨_, T527, Lc527, X527, hQ527, st527⟩ := own_virtual (y := y_35) X524 hx hZ hown (own_w hw 167 rfl) (own_w hw 168 rfl) (own_w hw 170 rfl) (own_w hw 169 rfl) (own_w hw 35 rfl) (own_w hw 171 rfl) (own_scG l Z a0 hw [] w_CS w_SF cs bs (Int32.ofNat (od + dj)) cc h524 XX524 S_w_CS S_w_SF R_w_SF f526_E_bs (T_bs.keep0 K524) hc1 hc108) e524 f526_E_bs (g := (mkF m 90 #[rv bs, iv (Int32.ofNat od), iv qa, iv (Int32.ofNat kk), iv (Int32.ofNat dj), rv b504, iv dg] [(.int (Int32.ofNat (od + dj))), (.ref bs)])) (argsL := [(.int (Int32.ofNat (od + dj)))]) (rest := []) (W := 0) (lenOf pd_25 rfl) (hb hby d36_90) hml
  obtain ⟨rfl, N527q, e527⟩ := hQ527
  have N527 := Fr.app N524 N527q
  obtain ⟨fs, hr, hrun, hended, hW, hsame⟩ := X527.leave (v := some (.int (1 : Int32))) (fun h => by rw [hret] at h; cases h) hlk
  refine ⟨_, _, ?_, hrun, hended, _, _, rfl, ?_, ⟨_, rfl⟩, hW, hsame.mono (by decide) (by decide)⟩
  · show own_S p e below s₁ (mkF m 0 #[rv bs, iv (Int32.ofNat od), iv qa, iv (Int32.ofNat kk), iv (Int32.ofNat dj), .unset, .unset] []) _
    refine own_i X0 hx hby d36_0 ?_
    refine own_iN X0 hx hby d36_2 ?_
    refine own_cy (pc := 3) X0 hx hby d36_3 (tlt hc100).1 8 ?_
    refine XS.bipush X0.here hx rfl (hb hby d36_8) ?_
    refine st504 _ ?_
    refine XS.dup X504.here hx rfl (hb hby d36_12) rfl rfl ?_
    refine own_k X504 hx hby d36_13 ?_
    refine own_k X504 hx hby d36_14 ?_
    refine st506 _ ?_
    refine XS.dup X506.here hx rfl (hb hby d36_16) rfl rfl ?_
    refine own_k X506 hx hby d36_17 ?_
    refine XS.bipush X506.here hx rfl (hb hby d36_18) ?_
    refine st508 _ ?_
    refine XS.dup X508.here hx rfl (hb hby d36_21) rfl rfl ?_
    refine own_k X508 hx hby d36_22 ?_
    refine XS.bipush X508.here hx rfl (hb hby d36_23) ?_
    refine st510 _ ?_
    refine XS.dup X510.here hx rfl (hb hby d36_26) rfl rfl ?_
    refine own_k X510 hx hby d36_27 ?_
    refine XS.sipush X510.here hx rfl (hb hby d36_28) ?_
    refine st512 _ ?_
    refine XS.dup X512.here hx rfl (hb hby d36_32) rfl rfl ?_
    refine own_k X512 hx hby d36_33 ?_
    refine XS.sipush X512.here hx rfl (hb hby d36_34) ?_
    refine st514 _ ?_
    refine XS.dup X514.here hx rfl (hb hby d36_38) rfl rfl ?_
    refine own_k X514 hx hby d36_39 ?_
    refine X514.ldcInt hx hown (mvT hZ (own_w hw 196 rfl)) (g := (mkF m 40 #[rv bs, iv (Int32.ofNat od), iv qa, iv (Int32.ofNat kk), iv (Int32.ofNat dj), .unset, .unset] [(.int (5 : Int32)), (.ref b504), (.ref b504)])) rfl (hb hby d36_40) _ ?_
    refine st516 _ ?_
    refine XS.dup X516.here hx rfl (hb hby d36_43) rfl rfl ?_
    refine XS.bipush X516.here hx rfl (hb hby d36_44) ?_
    refine X516.ldcInt hx hown (mvT hZ (own_w hw 197 rfl)) (g := (mkF m 46 #[rv bs, iv (Int32.ofNat od), iv qa, iv (Int32.ofNat kk), iv (Int32.ofNat dj), .unset, .unset] [(.int (6 : Int32)), (.ref b504), (.ref b504)])) rfl (hb hby d36_46) _ ?_
    refine st518 _ ?_
    refine XS.dup X518.here hx rfl (hb hby d36_49) rfl rfl ?_
    refine XS.bipush X518.here hx rfl (hb hby d36_50) ?_
    refine X518.ldcInt hx hown (mvT hZ (own_w hw 198 rfl)) (g := (mkF m 52 #[rv bs, iv (Int32.ofNat od), iv qa, iv (Int32.ofNat kk), iv (Int32.ofNat dj), .unset, .unset] [(.int (7 : Int32)), (.ref b504), (.ref b504)])) rfl (hb hby d36_52) _ ?_
    refine st520 _ ?_
    refine XS.dup X520.here hx rfl (hb hby d36_55) rfl rfl ?_
    refine XS.bipush X520.here hx rfl (hb hby d36_56) ?_
    refine X520.ldcInt hx hown (mvT hZ (own_w hw 199 rfl)) (g := (mkF m 58 #[rv bs, iv (Int32.ofNat od), iv qa, iv (Int32.ofNat kk), iv (Int32.ofNat dj), .unset, .unset] [(.int (8 : Int32)), (.ref b504), (.ref b504)])) rfl (hb hby d36_58) _ ?_
    refine st522 _ ?_
    refine XS.dup X522.here hx rfl (hb hby d36_61) rfl rfl ?_
    refine XS.bipush X522.here hx rfl (hb hby d36_62) ?_
    refine X522.ldcInt hx hown (mvT hZ (own_w hw 200 rfl)) (g := (mkF m 64 #[rv bs, iv (Int32.ofNat od), iv qa, iv (Int32.ofNat kk), iv (Int32.ofNat dj), .unset, .unset] [(.int (9 : Int32)), (.ref b504), (.ref b504)])) rfl (hb hby d36_64) _ ?_
    refine st524 _ ?_
    refine XS.astore X524.here hx rfl (hb hby d36_67) rfl rfl (l' := #[rv bs, iv (Int32.ofNat od), iv qa, iv (Int32.ofNat kk), iv (Int32.ofNat dj), rv b504, .unset]) rfl ?_
    refine own_iN X524 hx hby d36_69 ?_
    refine own_a X524 hx hby d36_70 ?_
    refine own_iN X524 hx hby d36_72 ?_
    refine own_k X524 hx hby d36_73 ?_
    refine XS.isub X524.here hx rfl (hb hby d36_74) rfl ?_
    show own_S p e below T524 (mkF m 75 #[rv bs, iv (Int32.ofNat od), iv qa, iv (Int32.ofNat kk), iv (Int32.ofNat dj), rv b504, .unset] [(.int ((Int32.ofNat kk) - (1 : Int32))), (.ref b504), (.int qa)]) _
    rw [hc101]
    refine own_i X524 hx hby d36_75 ?_
    refine XS.isub X524.here hx rfl (hb hby d36_77) rfl ?_
    show own_S p e below T524 (mkF m 78 #[rv bs, iv (Int32.ofNat od), iv qa, iv (Int32.ofNat kk), iv (Int32.ofNat dj), rv b504, .unset] [(.int ((Int32.ofNat (kk - 1)) - (Int32.ofNat dj))), (.ref b504), (.int qa)]) _
    rw [hc102]
    refine X524.iaload hx (j := (Int32.ofNat (kk - 1 - dj))) (v := (.int pw)) (by rw [e524]; exact Ar525.1) (State.isArrayOf_alike hZ.alike Ar525.2.1) Ar525.2.2 hin525 hat525 (g := (mkF m 78 #[rv bs, iv (Int32.ofNat od), iv qa, iv (Int32.ofNat kk), iv (Int32.ofNat dj), rv b504, .unset] [(.int (Int32.ofNat (kk - 1 - dj))), (.ref b504), (.int qa)])) rfl rfl (hb hby d36_78) _ ?_
    refine XS.idiv X524.here hx rfl (hb hby d36_79) rfl hc105 ?_
    refine XS.bipush X524.here hx rfl (hb hby d36_80) ?_
    refine iremM X524 hx rfl (hb hby d36_82) rfl (by decide) ?_
    show own_S p e below T524 (mkF m 83 #[rv bs, iv (Int32.ofNat od), iv qa, iv (Int32.ofNat kk), iv (Int32.ofNat dj), rv b504, .unset] [(.int ((qa / pw) % (10 : Int32)))]) _
    rw [hc106]
    refine XS.istore X524.here hx rfl (hb hby d36_83) rfl (l' := #[rv bs, iv (Int32.ofNat od), iv qa, iv (Int32.ofNat kk), iv (Int32.ofNat dj), rv b504, iv dg]) rfl ?_
    refine own_aN X524 hx hby d36_85 ?_
    refine own_iN X524 hx hby d36_86 ?_
    refine own_i X524 hx hby d36_87 ?_
    refine XS.iadd X524.here hx rfl (hb hby d36_89) rfl ?_
    show own_S p e below T524 (mkF m 90 #[rv bs, iv (Int32.ofNat od), iv qa, iv (Int32.ofNat kk), iv (Int32.ofNat dj), rv b504, iv dg] [(.int ((Int32.ofNat od) + (Int32.ofNat dj))), (.ref bs)]) _
    rw [hc107]
    refine st527 _ ?_
    refine XS.bipush X527.here hx rfl (hb hby d36_93) ?_
    refine own_i X527 hx hby d36_95 ?_
    refine XS.iadd X527.here hx rfl (hb hby d36_97) rfl ?_
    refine XS.i2c X527.here hx rfl (hb hby d36_98) rfl ?_
    show own_S p e below T527 (mkF m 99 #[rv bs, iv (Int32.ofNat od), iv qa, iv (Int32.ofNat kk), iv (Int32.ofNat dj), rv b504, iv dg] [(.int (((48 : Int32) + dg).toUInt32.toUInt16.toUInt32.toInt32)), (.int cc)]) _
    rw [hc109]
    refine own_cn X527 hx hby d36_99 (teq (rfl : cc = cc)).2 ?_
    refine own_k X527 hx hby d36_102 ?_
    refine own_go (pc := 103) X527 hx hby d36_103 107 ?_
    exact retN X527 hx (t := .boolean) hret (by simp) (hb hby d36_107) hr
  · show Qrm503 Z w_CS w_SF qa kk cs bs cc od dj pw dg h0 _ T527.heap _
    rw [e527]
    exact ⟨rfl, N527, K524⟩
def Qrm528 (Z : State) (qa : Int32) (kk : Nat) (bs : Addr) (od dj : Nat) (h0 : Heap) (v : Option Value) (h : Heap) (L : List Loc) : Prop := v = some (.int (1 : Int32)) ∧ Fr Z.heap.size L ∧ h = h0
theorem rm528 (l : Launch) (Z : State) (a0 : Array Value) (hw : own_HW Z a0) (ws : List Jvm.Cond) (qa : Int32) (kk : Nat) (bs : Addr) (od dj : Nat) (h0 : Heap) (Z0 : Ext Z.heap h0) (hc110 : ¬ ((Int32.ofNat dj) < (Int32.ofNat kk))) :
    own_met l y_36 method_3_code 7 (some .boolean) ws ({ frames := 4, cells := 1, slots := 10, locals := 60 } : Room) Z #[(.ref bs), (.int (Int32.ofNat od)), (.int qa), (.int (Int32.ofNat kk)), (.int (Int32.ofNat dj))] h0 (Qrm528 Z qa kk bs od dj h0) := by
  refine own_start (plainFor_of_name pn_1) (fun m => ef_method_3_RIIII m bs (Int32.ofNat od) qa (Int32.ofNat kk) (Int32.ofNat dj)) ?_
  intro p e s m below meth c s₁ hx hby hml hown hnm X0 hZ e0 hret hlk
  have N0 := Fr.nil Z.heap.size
  obtain ⟨fs, hr, hrun, hended, hW, hsame⟩ := X0.leave (v := some (.int (1 : Int32))) (fun h => by rw [hret] at h; cases h) hlk
  refine ⟨_, _, ?_, hrun, hended, _, _, rfl, ?_, ⟨_, rfl⟩, hW, hsame.mono (by decide) (by decide)⟩
  · show own_S p e below s₁ (mkF m 0 #[rv bs, iv (Int32.ofNat od), iv qa, iv (Int32.ofNat kk), iv (Int32.ofNat dj), .unset, .unset] []) _
    refine own_i X0 hx hby d36_0 ?_
    refine own_iN X0 hx hby d36_2 ?_
    refine own_cn X0 hx hby d36_3 (flt hc110).1 ?_
    refine own_k X0 hx hby d36_6 ?_
    exact retN X0 hx (t := .boolean) hret (by simp) (hb hby d36_7) hr
  · show Qrm528 Z qa kk bs od dj h0 _ s₁.heap _
    rw [e0]
    exact ⟨rfl, N0, rfl⟩
def Qown_dkJ (Z : State) (h0 : Heap) (v : Option Value) (h : Heap) (L : List Loc) : Prop := v = some (.int (1 : Int32)) ∧ Fr Z.heap.size L ∧ Keep h0 h []
theorem own_dkJ (l : Launch) (Z : State) (a0 : Array Value) (hw : own_HW Z a0) (ws : List Jvm.Cond) (w_CS : Int32) (w_SF : Value) (qa : Int32) (kk : Nat) (cs : List Int32) (bs : Addr) (od dj : Nat) (h0 : Heap) (Z0 : Ext Z.heap h0) (S_w_CS : own_w_CS Z w_CS) (R_w_SF : w_SF.isRef = true) (S_w_SF : own_w_SF Z w_SF) (E_bs : Exa Z h0 bs "java/lang/String") (T_bs : own_rep Z h0 bs cs) (hc1 : ¬ (w_CS = (0 : Int32))) (hc111 : own_sub cs od kk qa) (hc112 : dj < 10) :
    own_met l y_36 method_3_code 7 (some .boolean) ws ({ frames := 4, cells := 1, slots := 10, locals := 60 } : Room) Z #[(.ref bs), (.int (Int32.ofNat od)), (.int qa), (.int (Int32.ofNat kk)), (.int (Int32.ofNat dj))] h0 (Qown_dkJ Z h0) := by
  have hn := own_nd_pow hc111.1
  have h1 := hn.2.1
  have h2 := hn.2.2.1
  by_cases hj : dj < kk
  · exact own_mono (rm503 l Z a0 hw ws w_CS w_SF qa kk cs bs (own_d qa (kk - 1 - dj)) od dj (own_pw (kk - 1 - dj)) (own_dg qa (kk - 1 - dj)) h0 Z0 S_w_CS S_w_SF R_w_SF E_bs T_bs (own_ofNat_lt hj (by omega)) (own_ofNat_sub (b := 1) (by omega) (by omega)) (own_ofNat_sub (by omega) (by omega)) ⟨(own_back (by omega)).2, own_ofNat_lt (b := 10) (by omega) (by omega)⟩ (own_pws (by omega)) (own_pw0 (by omega)) (own_dgd (by omega) hn.1) (Int32.ofNat_add _ _).symm hc1 (own_sub_at hc111 hj) (own_dgc qa _)) fun v h L q => ⟨q.1, q.2.1, q.2.2⟩
  · exact own_mono (rm528 l Z a0 hw ws qa kk bs od dj h0 Z0 (own_nlt (own_toI (by omega)) (own_toI (by omega)) (by omega))) fun v h L q => ⟨q.1, q.2.1, q.2.2 ▸ Keep.refl h0 []⟩
def Qrm529 (Z : State) (w_CS : Int32) (w_SF : Value) (qa : Int32) (kk : Nat) (cs : List Int32) (bs : Addr) (od : Nat) (h0 : Heap) (v : Option Value) (h : Heap) (L : List Loc) : Prop := v = some (.int (1 : Int32)) ∧ Fr Z.heap.size L ∧ Keep h0 h []
theorem rm529 (l : Launch) (Z : State) (a0 : Array Value) (hw : own_HW Z a0) (ws : List Jvm.Cond) (w_CS : Int32) (w_SF : Value) (qa : Int32) (kk : Nat) (cs : List Int32) (bs : Addr) (od : Nat) (h0 : Heap) (Z0 : Ext Z.heap h0) (S_w_CS : own_w_CS Z w_CS) (R_w_SF : w_SF.isRef = true) (S_w_SF : own_w_SF Z w_SF) (E_bs : Exa Z h0 bs "java/lang/String") (T_bs : own_rep Z h0 bs cs) (hc1 : ¬ (w_CS = (0 : Int32))) (hc111 : own_sub cs od kk qa) :
    own_met l y_37 method_4_code 4 (some .boolean) ws ({ frames := 5, cells := 10, slots := 100, locals := 78 } : Room) Z #[(.ref bs), (.int (Int32.ofNat od)), (.int qa), (.int (Int32.ofNat kk))] h0 (Qrm529 Z w_CS w_SF qa kk cs bs od h0) := by
  refine own_start (plainFor_of_name pn_1) (fun m => ef_method_4_RIII m bs (Int32.ofNat od) qa (Int32.ofNat kk)) ?_
  intro p e s m below meth c s₁ hx hby hml hown hnm X0 hZ e0 hret hlk
  have N0 := Fr.nil Z.heap.size
  obtain ⟨_, T530, Lc530, X530, hQ530, st530⟩ := own_static (y := y_36) X0 hx hZ hown (own_w hw 192 rfl) (own_w hw 193 rfl) (own_w hw 164 rfl) (own_w hw 194 rfl) (own_dkJ l Z a0 hw [] w_CS w_SF qa kk cs bs od 0 h0 Z0 S_w_CS R_w_SF S_w_SF E_bs T_bs hc1 hc111 (by decide)) e0 (g := (mkF m 5 #[rv bs, iv (Int32.ofNat od), iv qa, iv (Int32.ofNat kk)] [(.int (0 : Int32)), (.int (Int32.ofNat kk)), (.int qa), (.int (Int32.ofNat od)), (.ref bs)])) (argsL := [(.ref bs), (.int (Int32.ofNat od)), (.int qa), (.int (Int32.ofNat kk)), (.int (0 : Int32))]) (rest := []) (W := 0) (lenOf pd_26 rfl) (hb hby d35_5) hml
  obtain ⟨rfl, N530q, K530q⟩ := hQ530
  have K530 : Keep h0 T530.heap [] := (Keep.refl h0 []).trans K530q all0
  have XX530 : Ext Z.heap T530.heap := own_extK Z0 K530q all0
  have N530 := Fr.app N0 N530q
  obtain ⟨_, T531, Lc531, X531, hQ531, st531⟩ := own_static (y := y_36) X530 hx hZ hown (own_w hw 192 rfl) (own_w hw 193 rfl) (own_w hw 164 rfl) (own_w hw 194 rfl) (own_dkJ l Z a0 hw [] w_CS w_SF qa kk cs bs od 1 T530.heap XX530 S_w_CS R_w_SF S_w_SF (E_bs.keep K530q) (T_bs.keep0 K530) hc1 hc111 (by decide)) rfl (g := (mkF m 16 #[rv bs, iv (Int32.ofNat od), iv qa, iv (Int32.ofNat kk)] [(.int (1 : Int32)), (.int (Int32.ofNat kk)), (.int qa), (.int (Int32.ofNat od)), (.ref bs)])) (argsL := [(.ref bs), (.int (Int32.ofNat od)), (.int qa), (.int (Int32.ofNat kk)), (.int (1 : Int32))]) (rest := []) (W := 0) (lenOf pd_26 rfl) (hb hby d35_16) hml
  obtain ⟨rfl, N531q, K531q⟩ := hQ531
  have K531 : Keep h0 T531.heap [] := K530.trans K531q all0
  have XX531 : Ext Z.heap T531.heap := own_extK XX530 K531q all0
  have N531 := Fr.app N530 N531q
  obtain ⟨_, T532, Lc532, X532, hQ532, st532⟩ := own_static (y := y_36) X531 hx hZ hown (own_w hw 192 rfl) (own_w hw 193 rfl) (own_w hw 164 rfl) (own_w hw 194 rfl) (own_dkJ l Z a0 hw [] w_CS w_SF qa kk cs bs od 2 T531.heap XX531 S_w_CS R_w_SF S_w_SF ((E_bs.keep K530q).keep K531q) (T_bs.keep0 K531) hc1 hc111 (by decide)) rfl (g := (mkF m 27 #[rv bs, iv (Int32.ofNat od), iv qa, iv (Int32.ofNat kk)] [(.int (2 : Int32)), (.int (Int32.ofNat kk)), (.int qa), (.int (Int32.ofNat od)), (.ref bs)])) (argsL := [(.ref bs), (.int (Int32.ofNat od)), (.int qa), (.int (Int32.ofNat kk)), (.int (2 : Int32))]) (rest := []) (W := 0) (lenOf pd_26 rfl) (hb hby d35_27) hml
  obtain ⟨rfl, N532q, K532q⟩ := hQ532
  have K532 : Keep h0 T532.heap [] := K531.trans K532q all0
  have XX532 : Ext Z.heap T532.heap := own_extK XX531 K532q all0
  have N532 := Fr.app N531 N532q
  obtain ⟨_, T533, Lc533, X533, hQ533, st533⟩ := own_static (y := y_36) X532 hx hZ hown (own_w hw 192 rfl) (own_w hw 193 rfl) (own_w hw 164 rfl) (own_w hw 194 rfl) (own_dkJ l Z a0 hw [] w_CS w_SF qa kk cs bs od 3 T532.heap XX532 S_w_CS R_w_SF S_w_SF (((E_bs.keep K530q).keep K531q).keep K532q) (T_bs.keep0 K532) hc1 hc111 (by decide)) rfl (g := (mkF m 38 #[rv bs, iv (Int32.ofNat od), iv qa, iv (Int32.ofNat kk)] [(.int (3 : Int32)), (.int (Int32.ofNat kk)), (.int qa), (.int (Int32.ofNat od)), (.ref bs)])) (argsL := [(.ref bs), (.int (Int32.ofNat od)), (.int qa), (.int (Int32.ofNat kk)), (.int (3 : Int32))]) (rest := []) (W := 0) (lenOf pd_26 rfl) (hb hby d35_38) hml
  obtain ⟨rfl, N533q, K533q⟩ := hQ533
  have K533 : Keep h0 T533.heap [] := K532.trans K533q all0
  have XX533 : Ext Z.heap T533.heap := own_extK XX532 K533q all0
  have N533 := Fr.app N532 N533q
  obtain ⟨_, T534, Lc534, X534, hQ534, st534⟩ := own_static (y := y_36) X533 hx hZ hown (own_w hw 192 rfl) (own_w hw 193 rfl) (own_w hw 164 rfl) (own_w hw 194 rfl) (own_dkJ l Z a0 hw [] w_CS w_SF qa kk cs bs od 4 T533.heap XX533 S_w_CS R_w_SF S_w_SF ((((E_bs.keep K530q).keep K531q).keep K532q).keep K533q) (T_bs.keep0 K533) hc1 hc111 (by decide)) rfl (g := (mkF m 49 #[rv bs, iv (Int32.ofNat od), iv qa, iv (Int32.ofNat kk)] [(.int (4 : Int32)), (.int (Int32.ofNat kk)), (.int qa), (.int (Int32.ofNat od)), (.ref bs)])) (argsL := [(.ref bs), (.int (Int32.ofNat od)), (.int qa), (.int (Int32.ofNat kk)), (.int (4 : Int32))]) (rest := []) (W := 0) (lenOf pd_26 rfl) (hb hby d35_49) hml
  obtain ⟨rfl, N534q, K534q⟩ := hQ534
  have K534 : Keep h0 T534.heap [] := K533.trans K534q all0
  have XX534 : Ext Z.heap T534.heap := own_extK XX533 K534q all0
  have N534 := Fr.app N533 N534q
  have f536_E_bs : Exa Z T534.heap bs "java/lang/String" := (((((E_bs.keep K530q).keep K531q).keep K532q).keep K533q).keep K534q)
  obtain ⟨_, T535, Lc535, X535, hQ535, st535⟩ := own_static (y := y_36) X534 hx hZ hown (own_w hw 192 rfl) (own_w hw 193 rfl) (own_w hw 164 rfl) (own_w hw 194 rfl) (own_dkJ l Z a0 hw [] w_CS w_SF qa kk cs bs od 5 T534.heap XX534 S_w_CS R_w_SF S_w_SF f536_E_bs (T_bs.keep0 K534) hc1 hc111 (by decide)) rfl (g := (mkF m 60 #[rv bs, iv (Int32.ofNat od), iv qa, iv (Int32.ofNat kk)] [(.int (5 : Int32)), (.int (Int32.ofNat kk)), (.int qa), (.int (Int32.ofNat od)), (.ref bs)])) (argsL := [(.ref bs), (.int (Int32.ofNat od)), (.int qa), (.int (Int32.ofNat kk)), (.int (5 : Int32))]) (rest := []) (W := 0) (lenOf pd_26 rfl) (hb hby d35_60) hml
  obtain ⟨rfl, N535q, K535q⟩ := hQ535
  have K535 : Keep h0 T535.heap [] := K534.trans K535q all0
  have XX535 : Ext Z.heap T535.heap := own_extK XX534 K535q all0
  have N535 := Fr.app N534 N535q
  obtain ⟨_, T537, Lc537, X537, hQ537, st537⟩ := own_static (y := y_36) X535 hx hZ hown (own_w hw 192 rfl) (own_w hw 193 rfl) (own_w hw 164 rfl) (own_w hw 194 rfl) (own_dkJ l Z a0 hw [] w_CS w_SF qa kk cs bs od 6 T535.heap XX535 S_w_CS R_w_SF S_w_SF (f536_E_bs.keep K535q) (T_bs.keep0 K535) hc1 hc111 (by decide)) rfl (g := (mkF m 72 #[rv bs, iv (Int32.ofNat od), iv qa, iv (Int32.ofNat kk)] [(.int (6 : Int32)), (.int (Int32.ofNat kk)), (.int qa), (.int (Int32.ofNat od)), (.ref bs)])) (argsL := [(.ref bs), (.int (Int32.ofNat od)), (.int qa), (.int (Int32.ofNat kk)), (.int (6 : Int32))]) (rest := []) (W := 0) (lenOf pd_26 rfl) (hb hby d35_72) hml
  obtain ⟨rfl, N537q, K537q⟩ := hQ537
  have K537 : Keep h0 T537.heap [] := K535.trans K537q all0
  have XX537 : Ext Z.heap T537.heap := own_extK XX535 K537q all0
  have N537 := Fr.app N535 N537q
  obtain ⟨_, T538, Lc538, X538, hQ538, st538⟩ := own_static (y := y_36) X537 hx hZ hown (own_w hw 192 rfl) (own_w hw 193 rfl) (own_w hw 164 rfl) (own_w hw 194 rfl) (own_dkJ l Z a0 hw [] w_CS w_SF qa kk cs bs od 7 T537.heap XX537 S_w_CS R_w_SF S_w_SF ((f536_E_bs.keep K535q).keep K537q) (T_bs.keep0 K537) hc1 hc111 (by decide)) rfl (g := (mkF m 84 #[rv bs, iv (Int32.ofNat od), iv qa, iv (Int32.ofNat kk)] [(.int (7 : Int32)), (.int (Int32.ofNat kk)), (.int qa), (.int (Int32.ofNat od)), (.ref bs)])) (argsL := [(.ref bs), (.int (Int32.ofNat od)), (.int qa), (.int (Int32.ofNat kk)), (.int (7 : Int32))]) (rest := []) (W := 0) (lenOf pd_26 rfl) (hb hby d35_84) hml
  obtain ⟨rfl, N538q, K538q⟩ := hQ538
  have K538 : Keep h0 T538.heap [] := K537.trans K538q all0
  have XX538 : Ext Z.heap T538.heap := own_extK XX537 K538q all0
  have N538 := Fr.app N537 N538q
  obtain ⟨_, T539, Lc539, X539, hQ539, st539⟩ := own_static (y := y_36) X538 hx hZ hown (own_w hw 192 rfl) (own_w hw 193 rfl) (own_w hw 164 rfl) (own_w hw 194 rfl) (own_dkJ l Z a0 hw [] w_CS w_SF qa kk cs bs od 8 T538.heap XX538 S_w_CS R_w_SF S_w_SF (((f536_E_bs.keep K535q).keep K537q).keep K538q) (T_bs.keep0 K538) hc1 hc111 (by decide)) rfl (g := (mkF m 96 #[rv bs, iv (Int32.ofNat od), iv qa, iv (Int32.ofNat kk)] [(.int (8 : Int32)), (.int (Int32.ofNat kk)), (.int qa), (.int (Int32.ofNat od)), (.ref bs)])) (argsL := [(.ref bs), (.int (Int32.ofNat od)), (.int qa), (.int (Int32.ofNat kk)), (.int (8 : Int32))]) (rest := []) (W := 0) (lenOf pd_26 rfl) (hb hby d35_96) hml
  obtain ⟨rfl, N539q, K539q⟩ := hQ539
  have K539 : Keep h0 T539.heap [] := K538.trans K539q all0
  have XX539 : Ext Z.heap T539.heap := own_extK XX538 K539q all0
  have N539 := Fr.app N538 N539q
  have f541_E_bs : Exa Z T539.heap bs "java/lang/String" := ((((f536_E_bs.keep K535q).keep K537q).keep K538q).keep K539q)
  obtain ⟨_, T540, Lc540, X540, hQ540, st540⟩ := own_static (y := y_36) X539 hx hZ hown (own_w hw 192 rfl) (own_w hw 193 rfl) (own_w hw 164 rfl) (own_w hw 194 rfl) (own_dkJ l Z a0 hw [] w_CS w_SF qa kk cs bs od 9 T539.heap XX539 S_w_CS R_w_SF S_w_SF f541_E_bs (T_bs.keep0 K539) hc1 hc111 (by decide)) rfl (g := (mkF m 108 #[rv bs, iv (Int32.ofNat od), iv qa, iv (Int32.ofNat kk)] [(.int (9 : Int32)), (.int (Int32.ofNat kk)), (.int qa), (.int (Int32.ofNat od)), (.ref bs)])) (argsL := [(.ref bs), (.int (Int32.ofNat od)), (.int qa), (.int (Int32.ofNat kk)), (.int (9 : Int32))]) (rest := []) (W := 0) (lenOf pd_26 rfl) (hb hby d35_108) hml
  obtain ⟨rfl, N540q, K540q⟩ := hQ540
  have K540 : Keep h0 T540.heap [] := K539.trans K540q all0
  have XX540 : Ext Z.heap T540.heap := own_extK XX539 K540q all0
  have N540 := Fr.app N539 N540q
  obtain ⟨fs, hr, hrun, hended, hW, hsame⟩ := X540.leave (v := some (.int (1 : Int32))) (fun h => by rw [hret] at h; cases h) hlk
  refine ⟨_, _, ?_, hrun, hended, _, _, rfl, ?_, ⟨_, rfl⟩, hW, hsame.mono (by decide) (by decide)⟩
  · show own_S p e below s₁ (mkF m 0 #[rv bs, iv (Int32.ofNat od), iv qa, iv (Int32.ofNat kk)] []) _
    refine own_aN X0 hx hby d35_0 ?_
    refine own_iN X0 hx hby d35_1 ?_
    refine own_iN X0 hx hby d35_2 ?_
    refine own_iN X0 hx hby d35_3 ?_
    refine own_k X0 hx hby d35_4 ?_
    refine st530 _ ?_
    refine own_in X530 hx hby d35_8 (feq (by decide : ¬ ((1 : Int32) = (0 : Int32)))).1 ?_
    refine own_aN X530 hx hby d35_11 ?_
    refine own_iN X530 hx hby d35_12 ?_
    refine own_iN X530 hx hby d35_13 ?_
    refine own_iN X530 hx hby d35_14 ?_
    refine own_k X530 hx hby d35_15 ?_
    refine st531 _ ?_
    refine own_in X531 hx hby d35_19 (feq (by decide : ¬ ((1 : Int32) = (0 : Int32)))).1 ?_
    refine own_aN X531 hx hby d35_22 ?_
    refine own_iN X531 hx hby d35_23 ?_
    refine own_iN X531 hx hby d35_24 ?_
    refine own_iN X531 hx hby d35_25 ?_
    refine own_k X531 hx hby d35_26 ?_
    refine st532 _ ?_
    refine own_in X532 hx hby d35_30 (feq (by decide : ¬ ((1 : Int32) = (0 : Int32)))).1 ?_
    refine own_aN X532 hx hby d35_33 ?_
    refine own_iN X532 hx hby d35_34 ?_
    refine own_iN X532 hx hby d35_35 ?_
    refine own_iN X532 hx hby d35_36 ?_
    refine own_k X532 hx hby d35_37 ?_
    refine st533 _ ?_
    refine own_in X533 hx hby d35_41 (feq (by decide : ¬ ((1 : Int32) = (0 : Int32)))).1 ?_
    refine own_aN X533 hx hby d35_44 ?_
    refine own_iN X533 hx hby d35_45 ?_
    refine own_iN X533 hx hby d35_46 ?_
    refine own_iN X533 hx hby d35_47 ?_
    refine own_k X533 hx hby d35_48 ?_
    refine st534 _ ?_
    refine own_in X534 hx hby d35_52 (feq (by decide : ¬ ((1 : Int32) = (0 : Int32)))).1 ?_
    refine own_aN X534 hx hby d35_55 ?_
    refine own_iN X534 hx hby d35_56 ?_
    refine own_iN X534 hx hby d35_57 ?_
    refine own_iN X534 hx hby d35_58 ?_
    refine own_k X534 hx hby d35_59 ?_
    refine st535 _ ?_
    refine own_in X535 hx hby d35_63 (feq (by decide : ¬ ((1 : Int32) = (0 : Int32)))).1 ?_
    refine own_aN X535 hx hby d35_66 ?_
    refine own_iN X535 hx hby d35_67 ?_
    refine own_iN X535 hx hby d35_68 ?_
    refine own_iN X535 hx hby d35_69 ?_
    refine XS.bipush X535.here hx rfl (hb hby d35_70) ?_
    refine st537 _ ?_
    refine own_in X537 hx hby d35_75 (feq (by decide : ¬ ((1 : Int32) = (0 : Int32)))).1 ?_
    refine own_aN X537 hx hby d35_78 ?_
    refine own_iN X537 hx hby d35_79 ?_
    refine own_iN X537 hx hby d35_80 ?_
    refine own_iN X537 hx hby d35_81 ?_
    refine XS.bipush X537.here hx rfl (hb hby d35_82) ?_
    refine st538 _ ?_
    refine own_in X538 hx hby d35_87 (feq (by decide : ¬ ((1 : Int32) = (0 : Int32)))).1 ?_
    refine own_aN X538 hx hby d35_90 ?_
    refine own_iN X538 hx hby d35_91 ?_
    refine own_iN X538 hx hby d35_92 ?_
    refine own_iN X538 hx hby d35_93 ?_
    refine XS.bipush X538.here hx rfl (hb hby d35_94) ?_
    refine st539 _ ?_
    refine own_in X539 hx hby d35_99 (feq (by decide : ¬ ((1 : Int32) = (0 : Int32)))).1 ?_
    refine own_aN X539 hx hby d35_102 ?_
    refine own_iN X539 hx hby d35_103 ?_
    refine own_iN X539 hx hby d35_104 ?_
    refine own_iN X539 hx hby d35_105 ?_
    refine XS.bipush X539.here hx rfl (hb hby d35_106) ?_
    refine st540 _ ?_
    refine own_in X540 hx hby d35_111 (feq (by decide : ¬ ((1 : Int32) = (0 : Int32)))).1 ?_
    refine own_k X540 hx hby d35_114 ?_
    refine own_go (pc := 115) X540 hx hby d35_115 119 ?_
    exact retN X540 hx (t := .boolean) hret (by simp) (hb hby d35_119) hr
  · show Qrm529 Z w_CS w_SF qa kk cs bs od h0 _ T540.heap _
    exact ⟨rfl, N540, K540⟩
def Qrm544 (Z : State) (qa qb qc : Int32) (b542 : Addr) (h0 : Heap) (v : Option Value) (h : Heap) (L : List Loc) : Prop := v = none ∧ Fr Z.heap.size L ∧ Keep h0 h [b542] ∧ Exa Z h b542 "com/example/tenderd/tenderd/core/ProtocolVersion" ∧ Fld Z h b542 "com/example/tenderd/tenderd/core/ProtocolVersion" "major" "I" (.int qa) ∧ Fld Z h b542 "com/example/tenderd/tenderd/core/ProtocolVersion" "minor" "I" (.int qb) ∧ Fld Z h b542 "com/example/tenderd/tenderd/core/ProtocolVersion" "revision" "I" (.int qc)
theorem rm544 (l : Launch) (Z : State) (a0 : Array Value) (hw : own_HW Z a0) (ws : List Jvm.Cond) (qa qb qc : Int32) (b542 : Addr) (h0 : Heap) (Z0 : Ext Z.heap h0) (E_b542 : Exa Z h0 b542 "com/example/tenderd/tenderd/core/ProtocolVersion") (F_b542_major : Fld Z h0 b542 "com/example/tenderd/tenderd/core/ProtocolVersion" "major" "I" (.int (0 : Int32))) (F_b542_minor : Fld Z h0 b542 "com/example/tenderd/tenderd/core/ProtocolVersion" "minor" "I" (.int (0 : Int32))) (F_b542_revision : Fld Z h0 b542 "com/example/tenderd/tenderd/core/ProtocolVersion" "revision" "I" (.int (0 : Int32))) (g_b542 : Z.heap.size ≤ b542) :
    own_met l y_38 prog_22_method_1_code 4 none ws ({ frames := 1, cells := 0, slots := 0, locals := 12 } : Room) Z #[(.ref b542), (.int qa), (.int qb), (.int qc)] h0 (Qrm544 Z qa qb qc b542 h0) := by
  refine own_start (plainFor_of_name pn_7) (fun m => ef_prog_22_method_1_RIII m b542 qa qb qc) ?_
  intro p e s m below meth c s₁ hx hby hml hown hnm X0 hZ e0 hret hlk
  have N0 := Fr.nil Z.heap.size
  obtain ⟨T545, X545, e545, st545⟩ := initO X0 hx hZ hown (own_w hw 7 rfl) (own_w hw 8 rfl) (own_w hw 9 rfl) e0 (g := (mkF m 1 #[rv b542, iv qa, iv qb, iv qc] [(.ref b542)])) rfl (by rw [hml]; rfl) rfl (hb hby d1_1) (by decide) (W := 0) (by show 2 * 0 + _ ≤ _; exact Nat.le_of_eq rfl) (by decide)
  obtain ⟨T546, h546, X546, e546, W546, st546⟩ := putF X545 hx hZ hown (host := "") (Or.inl (own_w hw 10 rfl)) Via.refl e545 F_b542_major E_b542 (Or.inr ⟨(own_w hw 11 rfl), rfl, hnm⟩) (own_w hw 2 rfl) (ty := .int) (by decide) rfl rfl (g := (mkF m 6 #[rv b542, iv qa, iv qb, iv qc] [(.int qa), (.ref b542)])) rfl rfl (hb hby d1_6)
  have K546 : Keep h0 h546 [b542] := (Keep.refl h0 [b542]).wr W546 (Or.inl (List.mem_of_getElem? (i := 0) rfl))
  have XX546 : Ext Z.heap h546 := own_extW Z0 W546 g_b542
  have N546 := Fr.snoc X546 N0 g_b542
  have f547_F_b542_minor : Fld Z h546 b542 "com/example/tenderd/tenderd/core/ProtocolVersion" "minor" "I" (.int (0 : Int32)) := (F_b542_minor.other W546 (Or.inr (slot_ne (Or.inr (own_w hw 13 rfl)) (Or.inr (own_w hw 11 rfl)) (by decide) (t := .int) (t' := .int) (by decide) (by decide))))
  obtain ⟨T548, h548, X548, e548, W548, st548⟩ := putF X546 hx hZ hown (host := "") (Or.inl (own_w hw 12 rfl)) Via.refl e546 f547_F_b542_minor (E_b542.wr W546) (Or.inr ⟨(own_w hw 13 rfl), rfl, hnm⟩) (own_w hw 2 rfl) (ty := .int) (by decide) rfl rfl (g := (mkF m 11 #[rv b542, iv qa, iv qb, iv qc] [(.int qb), (.ref b542)])) rfl rfl (hb hby d1_11)
  have K548 : Keep h0 h548 [b542] := K546.wr W548 (Or.inl (List.mem_of_getElem? (i := 0) rfl))
  have XX548 : Ext Z.heap h548 := own_extW XX546 W548 g_b542
  have N548 := Fr.snoc X548 N546 g_b542
  have f549_F_b542_revision : Fld Z h548 b542 "com/example/tenderd/tenderd/core/ProtocolVersion" "revision" "I" (.int (0 : Int32)) := ((F_b542_revision.other W546 (Or.inr (slot_ne (Or.inr (own_w hw 15 rfl)) (Or.inr (own_w hw 11 rfl)) (by decide) (t := .int) (t' := .int) (by decide) (by decide)))).other W548 (Or.inr (slot_ne (Or.inr (own_w hw 15 rfl)) (Or.inr (own_w hw 13 rfl)) (by decide) (t := .int) (t' := .int) (by decide) (by decide))))
  obtain ⟨T550, h550, X550, e550, W550, st550⟩ := putF X548 hx hZ hown (host := "") (Or.inl (own_w hw 14 rfl)) Via.refl e548 f549_F_b542_revision ((E_b542.wr W546).wr W548) (Or.inr ⟨(own_w hw 15 rfl), rfl, hnm⟩) (own_w hw 2 rfl) (ty := .int) (by decide) rfl rfl (g := (mkF m 16 #[rv b542, iv qa, iv qb, iv qc] [(.int qc), (.ref b542)])) rfl rfl (hb hby d1_16)
  have K550 : Keep h0 h550 [b542] := K548.wr W550 (Or.inl (List.mem_of_getElem? (i := 0) rfl))
  have XX550 : Ext Z.heap h550 := own_extW XX548 W550 g_b542
  have N550 := Fr.snoc X550 N548 g_b542
  have f551_F_b542_major : Fld Z h550 b542 "com/example/tenderd/tenderd/core/ProtocolVersion" "major" "I" (.int qa) := (((F_b542_major.same W546).other W548 (Or.inr (slot_ne (Or.inr (own_w hw 11 rfl)) (Or.inr (own_w hw 13 rfl)) (by decide) (t := .int) (t' := .int) (by decide) (by decide)))).other W550 (Or.inr (slot_ne (Or.inr (own_w hw 11 rfl)) (Or.inr (own_w hw 15 rfl)) (by decide) (t := .int) (t' := .int) (by decide) (by decide))))
  have f552_F_b542_minor : Fld Z h550 b542 "com/example/tenderd/tenderd/core/ProtocolVersion" "minor" "I" (.int qb) := ((f547_F_b542_minor.same W548).other W550 (Or.inr (slot_ne (Or.inr (own_w hw 13 rfl)) (Or.inr (own_w hw 15 rfl)) (by decide) (t := .int) (t' := .int) (by decide) (by decide))))
  obtain ⟨fs, hr, hrun, hended, hW, hsame⟩ := X550.leave (v := none) (fun _ => rfl) hlk
  refine ⟨_, _, ?_, hrun, hended, _, _, rfl, ?_, ⟨_, rfl⟩, hW, hsame.mono (by decide) (by decide)⟩
  · show own_S p e below s₁ (mkF m 0 #[rv b542, iv qa, iv qb, iv qc] []) _
    refine own_aN X0 hx hby d1_0 ?_
    refine st545 _ ?_
    refine own_aN X545 hx hby d1_4 ?_
    refine own_iN X545 hx hby d1_5 ?_
    refine st546 _ ?_
    refine own_aN X546 hx hby d1_9 ?_
    refine own_iN X546 hx hby d1_10 ?_
    refine st548 _ ?_
    refine own_aN X548 hx hby d1_14 ?_
    refine own_iN X548 hx hby d1_15 ?_
    refine st550 _ ?_
    exact X550.returnOut hx hret (hb hby d1_19) hr
  · show Qrm544 Z qa qb qc b542 h0 _ T550.heap _
    rw [e550]
    exact ⟨rfl, N550, K550, (((E_b542.wr W546).wr W548).wr W550), f551_F_b542_major, f552_F_b542_minor, (f549_F_b542_revision.same W550)⟩
def Qrm0 (Z : State) (w_CS : Int32) (w_SF : Value) (p1 p2 p3 qa qb qc : Int32) (ka kb kc : Nat) (w_DO : Addr) (k_w_DO : ClassId) (w_DT : Addr) (k_w_DT : ClassId) (h0 : Heap) (v : Option Value) (h : Heap) (L : List Loc) : Prop := v = some (.int 1) ∧ Fr Z.heap.size L
theorem rm0 (l : Launch) (Z : State) (a0 : Array Value) (hw : own_HW Z a0) (ws : List Jvm.Cond) (w_CS : Int32) (w_SF : Value) (p1 p2 p3 qa qb qc : Int32) (ka kb kc : Nat) (w_DO : Addr) (k_w_DO : ClassId) (w_DT : Addr) (k_w_DT : ClassId) (h0 : Heap) (Z0 : Ext Z.heap h0) (S_w_CS : own_w_CS Z w_CS) (S_w_DO : own_Sw_DO Z w_DO) (A_w_DO : Arv Z Z.heap w_DO k_w_DO .byte (100 : Int32) own_ones (.int (0 : Int32))) (S_w_DT : own_Sw_DT Z w_DT) (A_w_DT : Arv Z Z.heap w_DT k_w_DT .byte (100 : Int32) own_tens (.int (0 : Int32))) (S_w_SF : own_w_SF Z w_SF) (R_w_SF : w_SF.isRef = true) (hc113 : (p1 &&& (2147483647 : Int32)) = qa) (hc114 : (p2 &&& (2147483647 : Int32)) = qb) (hc115 : (p3 &&& (2147483647 : Int32)) = qc) (hc1 : ¬ (w_CS = (0 : Int32))) (hc79 : own_nd qa ka) (hc82 : own_nd qb kb) (hc85 : own_nd qc kc) (hc116 : ((((Int32.ofNat ka) + (Int32.ofNat kb)) + (Int32.ofNat kc)) + (2 : Int32)) = (Int32.ofNat (own_vs qa qb qc ka kb kc).length)) (hc117 : own_at (own_vs qa qb qc ka kb kc) (Int32.ofNat ka) (46 : Int32)) (hc118 : ((Int32.ofNat ka) + (1 : Int32)) = (Int32.ofNat (ka + 1))) (hc119 : ((Int32.ofNat (ka + 1)) + (Int32.ofNat kb)) = (Int32.ofNat (ka + 1 + kb))) (hc120 : own_at (own_vs qa qb qc ka kb kc) (Int32.ofNat (ka + 1 + kb)) (46 : Int32)) (hc121 : own_sub (own_vs qa qb qc ka kb kc) 0 ka qa) (hc122 : own_sub (own_vs qa qb qc ka kb kc) (ka + 1) kb qb) (hc123 : (((Int32.ofNat ka) + (Int32.ofNat kb)) + (2 : Int32)) = (Int32.ofNat (ka + kb + 2))) (hc124 : own_sub (own_vs qa qb qc ka kb kc) (ka + kb + 2) kc qc) :
    own_metW l x code maxLocals ret ws room_1 Z #[(.int p1), (.int p2), (.int p3)] h0 (Qrm0 Z w_CS w_SF p1 p2 p3 qa qb qc ka kb kc w_DO k_w_DO w_DT k_w_DT h0) := by
  refine own_startW (plainFor_of_name pn_1) (fun m => ef_code_III m p1 p2 p3) ?_
  intro p e s m below meth c s₁ hx hby hml hown hnm X0 hZ e0 hret hlk hs0 hC0
  have N0 := Fr.nil Z.heap.size
  have CR0 : CHr Z consts_1 s.vm h0 s.vm h0 := CHr.refl hC0
  have hS0 : s.Since s.vm 0 := (State.WarmedH.refl s).since 0
  have hk0 : 0 ≤ h0.size := Nat.zero_le _
  obtain ⟨T542, h542, X542, e542, E542, A542, D542, -, st542⟩ := newO X0 hx hZ hown (own_w hw 1 rfl) (own_w hw 2 rfl) (own_w hw 3 rfl) e0 (g := (mkF m 17 #[iv p1, iv p2, iv p3, iv qa, iv qb, iv qc, .unset, .unset, .unset, .unset, .unset] [])) rfl (hb hby at_17) (by decide) (by decide)
  obtain ⟨b542, g542⟩ : ∃ z, z = h0.size := ⟨_, rfl⟩
  rw [← g542] at A542 D542 st542
  have g_b542 : Z.heap.size ≤ b542 := Nat.le_trans Z0.1 (Nat.le_of_eq g542.symm)
  have sz_b542 : h0.size ≤ b542 := Nat.le_trans (Keep.refl h0 []).1 (Nat.le_of_eq g542.symm)
  have F_b542_major : Fld Z h542 b542 "com/example/tenderd/tenderd/core/ProtocolVersion" "major" "I" (.int (0 : Int32)) := D542 (Or.inr (own_w hw 11 rfl)) (ty := .int) (by decide)
  have F_b542_minor : Fld Z h542 b542 "com/example/tenderd/tenderd/core/ProtocolVersion" "minor" "I" (.int (0 : Int32)) := D542 (Or.inr (own_w hw 13 rfl)) (ty := .int) (by decide)
  have F_b542_revision : Fld Z h542 b542 "com/example/tenderd/tenderd/core/ProtocolVersion" "revision" "I" (.int (0 : Int32)) := D542 (Or.inr (own_w hw 15 rfl)) (ty := .int) (by decide)
  have K542 : Keep h0 h542 [] := (Keep.refl h0 []).ext E542
  have XX542 : Ext Z.heap h542 := own_ext2 Z0 E542
  have CQ542 : CHr Z consts_1 s.vm h0 s.vm h542 := CHr.ext E542 CR0.1
  have CR542 := CR0.trans CQ542
  have hk542 := Nat.le_trans hk0 CQ542.2.1
  have sf543_b542 : Safe Z consts_1 s.vm h542 b542 := Safe.exa hZ.alike A542 (by decide) (by decide)
  obtain ⟨_, T553, Lc553, X553, hQ553, st553⟩ := own_special (y := y_38) X542 hx hZ hown rfl (own_w hw 4 rfl) (own_w hw 5 rfl) (own_w hw 3 rfl) (own_w hw 6 rfl) (rm544 l Z a0 hw [] qa qb qc b542 h542 XX542 A542 F_b542_major F_b542_minor F_b542_revision g_b542) e542 b542 (g := (mkF m 26 #[iv p1, iv p2, iv p3, iv qa, iv qb, iv qc, .unset, .unset, .unset, .unset, .unset] [(.int qc), (.int qb), (.int qa), (.ref b542), (.ref b542)])) (argsL := [(.int qa), (.int qb), (.int qc)]) (rest := [(.ref b542)]) (W := 1) (lenOf pd_27 rfl) (hb hby at_26) hml
  obtain ⟨rfl, N553q, K553q, q553_E_b542, q553_F_b542_major, q553_F_b542_minor, q553_F_b542_revision⟩ := hQ553
  have K553 : Keep h0 T553.heap [] := K542.trans K553q (allS (Or.inr sz_b542) all0)
  have XX553 : Ext Z.heap T553.heap := own_extK XX542 K553q (allS g_b542 all0)
  have N553 := Fr.app N0 N553q
  have hs553 : ∀ x ∈ [b542], Safe Z consts_1 s.vm h542 x := (allS sf543_b542 all0)
  have CQ553 : CHr Z consts_1 s.vm h542 s.vm T553.heap := CHr.keep K553q hs553 CR542.1
  have sf553_b542 := Safe.keep K553q hs553 CR542.1 sf543_b542
  have CR553 := CR542.trans CQ553
  have hk553 := Nat.le_trans hk542 CQ553.2.1
  obtain ⟨_, T554, Lc554, X554, hQ554, hS554, hZ554, hown554, hC554, st554⟩ := own_virtualW (y := y_30) (s := s) (vm0 := s.vm) X553 hx hZ hown (own_w hw 16 rfl) (own_w hw 17 rfl) (own_w hw 19 rfl) (own_w hw 18 rfl) (own_w hw 3 rfl) (own_w hw 20 rfl) (own_pvJ l Z a0 hw [] w_CS qa qb qc ka kb kc w_DO k_w_DO w_DT k_w_DT b542 T553.heap XX553 S_w_CS S_w_DO A_w_DO S_w_DT A_w_DT q553_E_b542 q553_F_b542_major q553_F_b542_minor q553_F_b542_revision hc1 hc79 hc82 hc85) rfl (own_hEL hw) CR553.1 hS0 hk553 q553_E_b542 (g := (mkF m 33 #[iv p1, iv p2, iv p3, iv qa, iv qb, iv qc, rv b542, .unset, .unset, .unset, .unset] [(.ref b542)])) (argsL := []) (rest := []) (W := 0) (lenOf pd_22 rfl) (hb hby at_33) hml
  obtain ⟨b555, rfl, N554q, K554q, szn_b555, q554_E_b555, q554_T_b555⟩ := hQ554
  have XX554 : Ext Z.heap T554.heap := own_extK XX553 K554q all0
  have g_b555 : Z.heap.size ≤ b555 := Nat.le_trans XX553.1 szn_b555
  have sz_b555 : h0.size ≤ b555 := Nat.le_trans K553.1 szn_b555
  have N554 := Fr.app N553 N554q
  have sf554_b542 := hC554.safe q553_E_b542.lt sf553_b542
  have CR554 := CR553.trans hC554
  have hk554 : T554.heap.size ≤ T554.heap.size := Nat.le_refl _
  obtain ⟨h554, e554⟩ : ∃ z, T554.heap = z := ⟨_, rfl⟩
  rw [e554] at K554q XX554 CR554 hS554 hk554 sf554_b542 q554_E_b555 q554_T_b555
  have K554 : Keep h0 h554 [] := K553.trans K554q all0
  obtain ⟨_, T557, Lc557, X557, hQ557, st557⟩ := own_static (y := y_1) X554 hx hZ554 hown554 (own_w hw 162 rfl) (own_w hw 163 rfl) (own_w hw 164 rfl) (own_w hw 165 rfl) (own_lnJ l Z a0 hw [] qa ka h554 XX554 hc79) e554 (g := (mkF m 46 #[iv p1, iv p2, iv p3, iv qa, iv qb, iv qc, rv b542, rv b555, .unset, .unset, .unset] [(.int qa)])) (argsL := [(.int qa)]) (rest := []) (W := 0) (lenOf pd_2 rfl) (hb hby at_46) hml
  obtain ⟨rfl, N557q, e557⟩ := hQ557
  have N557 := Fr.app N554 N557q
  obtain ⟨_, T559, Lc559, X559, hQ559, st559⟩ := own_static (y := y_1) X557 hx hZ554 hown554 (own_w hw 162 rfl) (own_w hw 163 rfl) (own_w hw 164 rfl) (own_w hw 165 rfl) (own_lnJ l Z a0 hw [] qb kb h554 XX554 hc82) e557 (g := (mkF m 53 #[iv p1, iv p2, iv p3, iv qa, iv qb, iv qc, rv b542, rv b555, iv (Int32.ofNat ka), .unset, .unset] [(.int qb)])) (argsL := [(.int qb)]) (rest := []) (W := 0) (lenOf pd_2 rfl) (hb hby at_53) hml
  obtain ⟨rfl, N559q, e559⟩ := hQ559
  have N559 := Fr.app N557 N559q
  obtain ⟨_, T561, Lc561, X561, hQ561, st561⟩ := own_static (y := y_1) X559 hx hZ554 hown554 (own_w hw 162 rfl) (own_w hw 163 rfl) (own_w hw 164 rfl) (own_w hw 165 rfl) (own_lnJ l Z a0 hw [] qc kc h554 XX554 hc85) e559 (g := (mkF m 60 #[iv p1, iv p2, iv p3, iv qa, iv qb, iv qc, rv b542, rv b555, iv (Int32.ofNat ka), iv (Int32.ofNat kb), .unset] [(.int qc)])) (argsL := [(.int qc)]) (rest := []) (W := 0) (lenOf pd_2 rfl) (hb hby at_60) hml
  obtain ⟨rfl, N561q, e561⟩ := hQ561
  have N561 := Fr.app N559 N561q
  obtain ⟨_, T563, Lc563, X563, hQ563, st563⟩ := own_virtual (y := y_13) X561 hx hZ554 hown554 (own_w hw 166 rfl) (own_w hw 87 rfl) (own_w hw 89 rfl) (own_w hw 88 rfl) (own_w hw 35 rfl) (own_w hw 90 rfl) (own_slG l Z a0 hw [] w_CS (own_vs qa qb qc ka kb kc) b555 h554 XX554 S_w_CS q554_E_b555 q554_T_b555 hc1) e561 q554_E_b555 (g := (mkF m 67 #[iv p1, iv p2, iv p3, iv qa, iv qb, iv qc, rv b542, rv b555, iv (Int32.ofNat ka), iv (Int32.ofNat kb), iv (Int32.ofNat kc)] [(.ref b555)])) (argsL := []) (rest := []) (W := 0) (lenOf pd_9 rfl) (hb hby at_67) hml
  obtain ⟨rfl, N563q, e563⟩ := hQ563
  have N563 := Fr.app N561 N563q
  obtain ⟨_, T565, Lc565, X565, hQ565, st565⟩ := own_virtual (y := y_35) X563 hx hZ554 hown554 (own_w hw 167 rfl) (own_w hw 168 rfl) (own_w hw 170 rfl) (own_w hw 169 rfl) (own_w hw 35 rfl) (own_w hw 171 rfl) (own_scG l Z a0 hw [] w_CS w_SF (own_vs qa qb qc ka kb kc) b555 (Int32.ofNat ka) (46 : Int32) h554 XX554 S_w_CS S_w_SF R_w_SF q554_E_b555 q554_T_b555 hc1 hc117) e563 q554_E_b555 (g := (mkF m 89 #[iv p1, iv p2, iv p3, iv qa, iv qb, iv qc, rv b542, rv b555, iv (Int32.ofNat ka), iv (Int32.ofNat kb), iv (Int32.ofNat kc)] [(.int (Int32.ofNat ka)), (.ref b555)])) (argsL := [(.int (Int32.ofNat ka))]) (rest := []) (W := 0) (lenOf pd_25 rfl) (hb hby at_89) hml
  obtain ⟨rfl, N565q, e565⟩ := hQ565
  have N565 := Fr.app N563 N565q
  obtain ⟨_, T567, Lc567, X567, hQ567, st567⟩ := own_virtual (y := y_35) X565 hx hZ554 hown554 (own_w hw 167 rfl) (own_w hw 168 rfl) (own_w hw 170 rfl) (own_w hw 169 rfl) (own_w hw 35 rfl) (own_w hw 171 rfl) (own_scG l Z a0 hw [] w_CS w_SF (own_vs qa qb qc ka kb kc) b555 (Int32.ofNat (ka + 1 + kb)) (46 : Int32) h554 XX554 S_w_CS S_w_SF R_w_SF q554_E_b555 q554_T_b555 hc1 hc120) e565 q554_E_b555 (g := (mkF m 108 #[iv p1, iv p2, iv p3, iv qa, iv qb, iv qc, rv b542, rv b555, iv (Int32.ofNat ka), iv (Int32.ofNat kb), iv (Int32.ofNat kc)] [(.int (Int32.ofNat (ka + 1 + kb))), (.ref b555)])) (argsL := [(.int (Int32.ofNat (ka + 1 + kb)))]) (rest := []) (W := 0) (lenOf pd_25 rfl) (hb hby at_108) hml
  obtain ⟨rfl, N567q, e567⟩ := hQ567
  have N567 := Fr.app N565 N567q
  obtain ⟨_, T569, Lc569, X569, hQ569, st569⟩ := own_static (y := y_37) X567 hx hZ554 hown554 (own_w hw 189 rfl) (own_w hw 190 rfl) (own_w hw 164 rfl) (own_w hw 191 rfl) (rm529 l Z a0 hw [] w_CS w_SF qa ka (own_vs qa qb qc ka kb kc) b555 0 h554 XX554 S_w_CS R_w_SF S_w_SF q554_E_b555 q554_T_b555 hc1 hc121) e567 (g := (mkF m 124 #[iv p1, iv p2, iv p3, iv qa, iv qb, iv qc, rv b542, rv b555, iv (Int32.ofNat ka), iv (Int32.ofNat kb), iv (Int32.ofNat kc)] [(.int (Int32.ofNat ka)), (.int qa), (.int (0 : Int32)), (.ref b555)])) (argsL := [(.ref b555), (.int (0 : Int32)), (.int qa), (.int (Int32.ofNat ka))]) (rest := []) (W := 0) (lenOf pd_28 rfl) (hb hby at_124) hml
  obtain ⟨rfl, N569q, K569q⟩ := hQ569
  have K569 : Keep h0 T569.heap [] := K554.trans K569q all0
  have XX569 : Ext Z.heap T569.heap := own_extK XX554 K569q all0
  have N569 := Fr.app N567 N569q
  have hs569 : ∀ x ∈ ([] : List Addr), Safe Z consts_1 T554.vm h554 x := all0
  have CQ569 : CHr Z consts_1 T554.vm h554 T554.vm T569.heap := CHr.keep K569q hs569 CR554.1
  have sf569_b542 := Safe.keep K569q hs569 CR554.1 sf554_b542
  have CR569 := CR554.trans CQ569
  have hk569 := Nat.le_trans hk554 CQ569.2.1
  obtain ⟨_, T571, Lc571, X571, hQ571, st571⟩ := own_static (y := y_37) X569 hx hZ554 hown554 (own_w hw 189 rfl) (own_w hw 190 rfl) (own_w hw 164 rfl) (own_w hw 191 rfl) (rm529 l Z a0 hw [] w_CS w_SF qb kb (own_vs qa qb qc ka kb kc) b555 (ka + 1) T569.heap XX569 S_w_CS R_w_SF S_w_SF (q554_E_b555.keep K569q) (q554_T_b555.keep0 K569q) hc1 hc122) rfl (g := (mkF m 140 #[iv p1, iv p2, iv p3, iv qa, iv qb, iv qc, rv b542, rv b555, iv (Int32.ofNat ka), iv (Int32.ofNat kb), iv (Int32.ofNat kc)] [(.int (Int32.ofNat kb)), (.int qb), (.int (Int32.ofNat (ka + 1))), (.ref b555)])) (argsL := [(.ref b555), (.int (Int32.ofNat (ka + 1))), (.int qb), (.int (Int32.ofNat kb))]) (rest := []) (W := 0) (lenOf pd_28 rfl) (hb hby at_140) hml
  obtain ⟨rfl, N571q, K571q⟩ := hQ571
  have K571 : Keep h0 T571.heap [] := K569.trans K571q all0
  have XX571 : Ext Z.heap T571.heap := own_extK XX569 K571q all0
  have N571 := Fr.app N569 N571q
  have hs571 : ∀ x ∈ ([] : List Addr), Safe Z consts_1 T554.vm T569.heap x := all0
  have CQ571 : CHr Z consts_1 T554.vm T569.heap T554.vm T571.heap := CHr.keep K571q hs571 CR569.1
  have sf571_b542 := Safe.keep K571q hs571 CR569.1 sf569_b542
  have CR571 := CR569.trans CQ571
  have hk571 := Nat.le_trans hk569 CQ571.2.1
  obtain ⟨_, T573, Lc573, X573, hQ573, st573⟩ := own_static (y := y_37) X571 hx hZ554 hown554 (own_w hw 189 rfl) (own_w hw 190 rfl) (own_w hw 164 rfl) (own_w hw 191 rfl) (rm529 l Z a0 hw [] w_CS w_SF qc kc (own_vs qa qb qc ka kb kc) b555 (ka + kb + 2) T571.heap XX571 S_w_CS R_w_SF S_w_SF ((q554_E_b555.keep K569q).keep K571q) ((q554_T_b555.keep0 K569q).keep0 K571q) hc1 hc124) rfl (g := (mkF m 159 #[iv p1, iv p2, iv p3, iv qa, iv qb, iv qc, rv b542, rv b555, iv (Int32.ofNat ka), iv (Int32.ofNat kb), iv (Int32.ofNat kc)] [(.int (Int32.ofNat kc)), (.int qc), (.int (Int32.ofNat (ka + kb + 2))), (.ref b555)])) (argsL := [(.ref b555), (.int (Int32.ofNat (ka + kb + 2))), (.int qc), (.int (Int32.ofNat kc))]) (rest := []) (W := 0) (lenOf pd_28 rfl) (hb hby at_159) hml
  obtain ⟨rfl, N573q, K573q⟩ := hQ573
  have K573 : Keep h0 T573.heap [] := K571.trans K573q all0
  have XX573 : Ext Z.heap T573.heap := own_extK XX571 K573q all0
  have N573 := Fr.app N571 N573q
  have hs573 : ∀ x ∈ ([] : List Addr), Safe Z consts_1 T554.vm T571.heap x := all0
  have CQ573 : CHr Z consts_1 T554.vm T571.heap T554.vm T573.heap := CHr.keep K573q hs573 CR571.1
  have sf573_b542 := Safe.keep K573q hs573 CR571.1 sf571_b542
  have CR573 := CR571.trans CQ573
  have hk573 := Nat.le_trans hk571 CQ573.2.1
  obtain ⟨fs, hr, hrun, hended, hend⟩ := leaveW (s := s) (vm₁ := T554.vm) X573 hS554 hk573 (v := some (.int (1 : Int32))) (fun h => by rw [hret] at h; cases h) hlk
  refine ⟨_, _, ?_, hrun, hended, _, _, rfl, ?_, ?_, hend.1, hend.2.1, hend.2.2.1, hend.2.2.2.mono (by decide) (by decide)⟩
  · show own_S p e below s₁ (mkF m 0 #[iv p1, iv p2, iv p3, .unset, .unset, .unset, .unset, .unset, .unset, .unset, .unset] []) _
    refine own_iN X0 hx hby at_0 ?_
    refine X0.ldcInt hx hown (mvT hZ (own_w hw 0 rfl)) (g := (mkF m 1 #[iv p1, iv p2, iv p3, .unset, .unset, .unset, .unset, .unset, .unset, .unset, .unset] [(.int p1)])) rfl (hb hby at_1) _ ?_
    refine XS.iand X0.here hx rfl (hb hby at_3) rfl ?_
    show own_S p e below s₁ (mkF m 4 #[iv p1, iv p2, iv p3, .unset, .unset, .unset, .unset, .unset, .unset, .unset, .unset] [(.int (p1 &&& (2147483647 : Int32)))]) _
    rw [hc113]
    refine XS.istoreN X0.here hx rfl (hb hby at_4) rfl (l' := #[iv p1, iv p2, iv p3, iv qa, .unset, .unset, .unset, .unset, .unset, .unset, .unset]) rfl ?_
    refine own_iN X0 hx hby at_5 ?_
    refine X0.ldcInt hx hown (mvT hZ (own_w hw 0 rfl)) (g := (mkF m 6 #[iv p1, iv p2, iv p3, iv qa, .unset, .unset, .unset, .unset, .unset, .unset, .unset] [(.int p2)])) rfl (hb hby at_6) _ ?_
    refine XS.iand X0.here hx rfl (hb hby at_8) rfl ?_
    show own_S p e below s₁ (mkF m 9 #[iv p1, iv p2, iv p3, iv qa, .unset, .unset, .unset, .unset, .unset, .unset, .unset] [(.int (p2 &&& (2147483647 : Int32)))]) _
    rw [hc114]
    refine XS.istore X0.here hx rfl (hb hby at_9) rfl (l' := #[iv p1, iv p2, iv p3, iv qa, iv qb, .unset, .unset, .unset, .unset, .unset, .unset]) rfl ?_
    refine own_iN X0 hx hby at_11 ?_
    refine X0.ldcInt hx hown (mvT hZ (own_w hw 0 rfl)) (g := (mkF m 12 #[iv p1, iv p2, iv p3, iv qa, iv qb, .unset, .unset, .unset, .unset, .unset, .unset] [(.int p3)])) rfl (hb hby at_12) _ ?_
    refine XS.iand X0.here hx rfl (hb hby at_14) rfl ?_
    show own_S p e below s₁ (mkF m 15 #[iv p1, iv p2, iv p3, iv qa, iv qb, .unset, .unset, .unset, .unset, .unset, .unset] [(.int (p3 &&& (2147483647 : Int32)))]) _
    rw [hc115]
    refine XS.istore X0.here hx rfl (hb hby at_15) rfl (l' := #[iv p1, iv p2, iv p3, iv qa, iv qb, iv qc, .unset, .unset, .unset, .unset, .unset]) rfl ?_
    refine st542 _ ?_
    refine XS.dup X542.here hx rfl (hb hby at_20) rfl rfl ?_
    refine own_iN X542 hx hby at_21 ?_
    refine own_i X542 hx hby at_22 ?_
    refine own_i X542 hx hby at_24 ?_
    refine st553 _ ?_
    refine XS.astore X553.here hx rfl (hb hby at_29) rfl rfl (l' := #[iv p1, iv p2, iv p3, iv qa, iv qb, iv qc, rv b542, .unset, .unset, .unset, .unset]) rfl ?_
    refine own_a X553 hx hby at_31 ?_
    refine st554 _ ?_
    refine XS.astore X554.here hx rfl (hb hby at_36) rfl rfl (l' := #[iv p1, iv p2, iv p3, iv qa, iv qb, iv qc, rv b542, rv b555, .unset, .unset, .unset]) rfl ?_
    refine own_a X554 hx hby at_38 ?_
    refine XS.ifnonnullYes X554.here hx rfl (pc0 := 40) (pc' := 45) rfl (hb hby at_40) rfl (by decide) (by decide) ?_
    refine own_iN X554 hx hby at_45 ?_
    refine st557 _ ?_
    refine XS.istore X557.here hx rfl (hb hby at_49) rfl (l' := #[iv p1, iv p2, iv p3, iv qa, iv qb, iv qc, rv b542, rv b555, iv (Int32.ofNat ka), .unset, .unset]) rfl ?_
    refine own_i X557 hx hby at_51 ?_
    refine st559 _ ?_
    refine XS.istore X559.here hx rfl (hb hby at_56) rfl (l' := #[iv p1, iv p2, iv p3, iv qa, iv qb, iv qc, rv b542, rv b555, iv (Int32.ofNat ka), iv (Int32.ofNat kb), .unset]) rfl ?_
    refine own_i X559 hx hby at_58 ?_
    refine st561 _ ?_
    refine XS.istore X561.here hx rfl (hb hby at_63) rfl (l' := #[iv p1, iv p2, iv p3, iv qa, iv qb, iv qc, rv b542, rv b555, iv (Int32.ofNat ka), iv (Int32.ofNat kb), iv (Int32.ofNat kc)]) rfl ?_
    refine own_a X561 hx hby at_65 ?_
    refine st563 _ ?_
    refine own_i X563 hx hby at_70 ?_
    refine own_i X563 hx hby at_72 ?_
    refine XS.iadd X563.here hx rfl (hb hby at_74) rfl ?_
    refine own_i X563 hx hby at_75 ?_
    refine XS.iadd X563.here hx rfl (hb hby at_77) rfl ?_
    refine own_k X563 hx hby at_78 ?_
    refine XS.iadd X563.here hx rfl (hb hby at_79) rfl ?_
    show own_S p e below T563 (mkF m 80 #[iv p1, iv p2, iv p3, iv qa, iv qb, iv qc, rv b542, rv b555, iv (Int32.ofNat ka), iv (Int32.ofNat kb), iv (Int32.ofNat kc)] [(.int ((((Int32.ofNat ka) + (Int32.ofNat kb)) + (Int32.ofNat kc)) + (2 : Int32))), (.int (Int32.ofNat (own_vs qa qb qc ka kb kc).length))]) _
    rw [hc116]
    refine own_cy (pc := 80) X563 hx hby at_80 (teq (rfl : (Int32.ofNat (own_vs qa qb qc ka kb kc).length) = (Int32.ofNat (own_vs qa qb qc ka kb kc).length))).1 85 ?_
    refine own_a X563 hx hby at_85 ?_
    refine own_i X563 hx hby at_87 ?_
    refine st565 _ ?_
    refine XS.bipush X565.here hx rfl (hb hby at_92) ?_
    refine own_cy (pc := 94) X565 hx hby at_94 (teq (rfl : (46 : Int32) = (46 : Int32))).1 99 ?_
    refine own_a X565 hx hby at_99 ?_
    refine own_i X565 hx hby at_101 ?_
    refine own_k X565 hx hby at_103 ?_
    refine XS.iadd X565.here hx rfl (hb hby at_104) rfl ?_
    show own_S p e below T565 (mkF m 105 #[iv p1, iv p2, iv p3, iv qa, iv qb, iv qc, rv b542, rv b555, iv (Int32.ofNat ka), iv (Int32.ofNat kb), iv (Int32.ofNat kc)] [(.int ((Int32.ofNat ka) + (1 : Int32))), (.ref b555)]) _
    rw [hc118]
    refine own_i X565 hx hby at_105 ?_
    refine XS.iadd X565.here hx rfl (hb hby at_107) rfl ?_
    show own_S p e below T565 (mkF m 108 #[iv p1, iv p2, iv p3, iv qa, iv qb, iv qc, rv b542, rv b555, iv (Int32.ofNat ka), iv (Int32.ofNat kb), iv (Int32.ofNat kc)] [(.int ((Int32.ofNat (ka + 1)) + (Int32.ofNat kb))), (.ref b555)]) _
    rw [hc119]
    refine st567 _ ?_
    refine XS.bipush X567.here hx rfl (hb hby at_111) ?_
    refine own_cy (pc := 113) X567 hx hby at_113 (teq (rfl : (46 : Int32) = (46 : Int32))).1 118 ?_
    refine own_a X567 hx hby at_118 ?_
    refine own_k X567 hx hby at_120 ?_
    refine own_iN X567 hx hby at_121 ?_
    refine own_i X567 hx hby at_122 ?_
    refine st569 _ ?_
    refine own_in X569 hx hby at_127 (feq (by decide : ¬ ((1 : Int32) = (0 : Int32)))).1 ?_
    refine own_a X569 hx hby at_130 ?_
    refine own_i X569 hx hby at_132 ?_
    refine own_k X569 hx hby at_134 ?_
    refine XS.iadd X569.here hx rfl (hb hby at_135) rfl ?_
    show own_S p e below T569 (mkF m 136 #[iv p1, iv p2, iv p3, iv qa, iv qb, iv qc, rv b542, rv b555, iv (Int32.ofNat ka), iv (Int32.ofNat kb), iv (Int32.ofNat kc)] [(.int ((Int32.ofNat ka) + (1 : Int32))), (.ref b555)]) _
    rw [hc118]
    refine own_i X569 hx hby at_136 ?_
    refine own_i X569 hx hby at_138 ?_
    refine st571 _ ?_
    refine own_in X571 hx hby at_143 (feq (by decide : ¬ ((1 : Int32) = (0 : Int32)))).1 ?_
    refine own_a X571 hx hby at_146 ?_
    refine own_i X571 hx hby at_148 ?_
    refine own_i X571 hx hby at_150 ?_
    refine XS.iadd X571.here hx rfl (hb hby at_152) rfl ?_
    refine own_k X571 hx hby at_153 ?_
    refine XS.iadd X571.here hx rfl (hb hby at_154) rfl ?_
    show own_S p e below T571 (mkF m 155 #[iv p1, iv p2, iv p3, iv qa, iv qb, iv qc, rv b542, rv b555, iv (Int32.ofNat ka), iv (Int32.ofNat kb), iv (Int32.ofNat kc)] [(.int (((Int32.ofNat ka) + (Int32.ofNat kb)) + (2 : Int32))), (.ref b555)]) _
    rw [hc123]
    refine own_i X571 hx hby at_155 ?_
    refine own_i X571 hx hby at_157 ?_
    refine st573 _ ?_
    refine own_in X573 hx hby at_162 (feq (by decide : ¬ ((1 : Int32) = (0 : Int32)))).1 ?_
    refine own_k X573 hx hby at_165 ?_
    refine own_go (pc := 166) X573 hx hby at_166 170 ?_
    exact retN X573 hx (t := .boolean) hret (by simp) (hb hby at_170) hr
  · show Qrm0 Z w_CS w_SF p1 p2 p3 qa qb qc ka kb kc w_DO k_w_DO w_DT k_w_DT h0 _ T573.heap _
    exact ⟨rfl, N573⟩
  · rw [hs0]
    show CHr Z consts_1 s.vm h0 T573.vm T573.heap
    skip
    exact CR573.trans (CHv.at (s := s) (vm0 := T554.vm) X573 hZ554 (own_hEL hw) CR573.1)
set_option maxRecDepth 65536 in
set_option maxHeartbeats 40000000 in
theorem comes_1 {Post : Tables → Env → Array Value → State → Outcome → State → Prop} (hpost : ∀ tb e args s v u, (limb_1_1.after args s (.returned v) u = true ∧ limb_1_2.after args s (.returned v) u = true ∧ True) → ReturnedEndW s (.returned v) u (Jvm.fieldLocs frame_1_writes args s ++ Jvm.arrayLocs frame_1_arrays args s ++ Jvm.staticLocs frame_1_statics s) 88 1920 → Post tb e args s (.returned v) u) :
    ArmFor flags0 classFile x code maxLocals ret World_1 tables_1 room_1 Calls_1 rest_1 Pre_1 Post := by
  intro l hfl _ _ p e ha hc hk s m args below hf hA hF happ hP
  obtain ⟨hcalls, hrest, hpre⟩ := hP
  obtain ⟨-, -, -, hnamed, -, -, -, hat⟩ := (Spec.applies_iff hf).mp happ
  obtain ⟨hg, hn⟩ := and_e (Cond.before_iff.mp (show (Jvm.Cond.and given_1 narrow_1).before args s = true from hpre))
  obtain ⟨hcount, hG0⟩ := and_e hg
  obtain ⟨hA0, hG1⟩ := and_e hG0
  obtain ⟨hA1, hG2⟩ := and_e hG1
  have hA2 := hG2
  obtain ⟨v0, v1, v2, rfl⟩ : ∃ v0 v1 v2 : Value, args = #[v0, v1, v2] := by
    have hs : args.size = 3 := by simpa [Cond.value, given_1] using hcount
    obtain ⟨L⟩ := args
    match L, hs with
    | [v0, v1, v2], _ => exact ⟨v0, v1, v2, rfl⟩
  have hw := fun d (hd : d ∈ tables_1) => atoms_spec (ws := Jvm.Cond.code x code maxLocals ret :: tables_1) hat d (List.mem_cons_of_mem _ hd)
  obtain ⟨p1, ei0⟩ := is_v hA0
  obtain rfl : v0 = (.int p1) := Option.some.inj ei0
  obtain ⟨p2, ei1⟩ := is_v hA1
  obtain rfl : v1 = (.int p2) := Option.some.inj ei1
  obtain ⟨p3, ei2⟩ := is_v hA2
  obtain rfl : v2 = (.int p3) := Option.some.inj ei2
  obtain ⟨hsets, hown0⟩ := atoms_of _ (rest_1_c_eq ▸ (show rest_1_c.before _ s = true from hrest))
  obtain ⟨w_CS, ev_w_CS⟩ := is_v (Cond.before_iff.mp (hsets _ (List.mem_of_getElem? (i := 1) rfl)))
  have S_w_CS : Sta s s.heap "java/lang/String" "COMPACT_STRINGS" "Z" (.int w_CS) := Sta.start ev_w_CS (Or.inl (hsets _ (List.mem_of_getElem? (i := 0) rfl)))
  have hc1 : ¬ (w_CS = (0 : Int32)) := own_neI (not_v (Cond.before_iff.mp (hsets _ (List.mem_of_getElem? (i := 2) rfl)))) ev_w_CS
  obtain ⟨w_SF, ev_w_SF, R_w_SF⟩ := isR_v (Cond.before_iff.mp (hsets _ (List.mem_of_getElem? (i := 8) rfl)))
  have S_w_SF : Sta s s.heap "jdk/internal/util/Preconditions" "SIOOBE_FORMATTER" "Ljava/util/function/BiFunction;" w_SF := Sta.start ev_w_SF (Or.inl (hsets _ (List.mem_of_getElem? (i := 7) rfl)))
  obtain ⟨w_DO, k_w_DO, S_w_DO, A_w_DO⟩ := own_digits (xs := own_ones) (Cond.before_iff.mp (hsets _ (List.mem_of_getElem? (i := 12) rfl))) (hsets _ (List.mem_of_getElem? (i := 11) rfl)) (Cond.before_iff.mp (hsets _ (List.mem_of_getElem? (i := 13) rfl))) (Cond.before_iff.mp (hsets _ (List.mem_of_getElem? (i := 14) rfl))) (own_w hw 36 rfl) (own_on _ _)
  obtain ⟨w_DT, k_w_DT, S_w_DT, A_w_DT⟩ := own_digits (xs := own_tens) (Cond.before_iff.mp (hsets _ (List.mem_of_getElem? (i := 17) rfl))) (hsets _ (List.mem_of_getElem? (i := 16) rfl)) (Cond.before_iff.mp (hsets _ (List.mem_of_getElem? (i := 18) rfl))) (Cond.before_iff.mp (hsets _ (List.mem_of_getElem? (i := 19) rfl))) (own_w hw 36 rfl) (own_tn _ _)
  have hCH : CHv s consts_1 s.vm s.heap := CHv.start (own_hEL hw) (fun p hp => hcalls.1 p hp) (hsets _ (List.mem_of_getElem? (i := 2) rfl)) (own_w hw 36 rfl) (own_w hw 72 rfl)
  have hX0 : Ext s.heap s.heap := ⟨Nat.le_refl _, fun _ _ q => q⟩
  have key : MetFree l x (head1 (Jvm.Cond.code x code maxLocals ret :: tables_1) room_1) (fun a U => a = #[(.int p1), (.int p2), (.int p3)] ∧ s.Warmed39 U.vm ∧ U.heap = s.heap ∧ CHv s consts_1 U.vm s.heap) (fun _ _ _ _ _ => True) (fun _ U o U' => ∃ v L, o = .returned v ∧ (v = some (.int 1) ∧ Fr s.heap.size L) ∧ ReturnedEndW U o U' L room_1.cells room_1.slots) := by
    obtain ⟨qa, hc113⟩ : ∃ z, (p1 &&& (2147483647 : Int32)) = z := ⟨_, rfl⟩
    obtain ⟨ka, hc79⟩ := own_nd_ex (q := qa) (by rw [← hc113]; exact own_msk p1)
    obtain ⟨qb, hc114⟩ : ∃ z, (p2 &&& (2147483647 : Int32)) = z := ⟨_, rfl⟩
    obtain ⟨kb, hc82⟩ := own_nd_ex (q := qb) (by rw [← hc114]; exact own_msk p2)
    obtain ⟨qc, hc115⟩ : ∃ z, (p3 &&& (2147483647 : Int32)) = z := ⟨_, rfl⟩
    obtain ⟨kc, hc85⟩ := own_nd_ex (q := qc) (by rw [← hc115]; exact own_msk p3)
    exact own_metW_drop (rm0 l s _ hw tables_1 w_CS w_SF p1 p2 p3 qa qb qc ka kb kc w_DO k_w_DO w_DT k_w_DT s.heap hX0 S_w_CS S_w_DO A_w_DO S_w_DT A_w_DT S_w_SF R_w_SF hc113 hc114 hc115 hc1 hc79 hc82 hc85 (own_law_len qa qb qc ka kb kc) (own_law_at1 hc79 hc82 hc85) (own_succ _) (Int32.ofNat_add _ _).symm (own_law_at2 hc79 hc82 hc85) (own_law_sa hc79 hc82 hc85) (own_law_sb hc79 hc82 hc85) (by rw [← Int32.ofNat_add]; exact (Int32.ofNat_add (ka + kb) 2).symm) (own_law_sc hc79 hc82 hc85))
  obtain ⟨n, o, h1, h2, h3, _, L, rfl, ⟨rfl, N⟩, hq⟩ := key p e ha hc hk s m _ below hf ((Spec.applies_iff_loose hf).mp happ).1 ⟨rfl, State.Warmed39.refl s, rfl, hCH⟩ trivial
  refine ⟨n, _, h1, h2, h3, hpost _ _ _ _ _ _ ⟨Cond.after_iff.mpr rfl, Cond.after_iff.mpr (eq_i res_at (Term.int_eval (1)) rfl), trivial⟩ ⟨hq.1, hq.2.1, hq.2.2.1, (hq.2.2.2.sift fun y hy => Or.inr (N y hy)).mono (by decide) (by decide)⟩⟩
theorem main_1_1 : Claimed_1_1 := comes_1 fun _ _ _ _ _ _ h hF => ⟨h.1, hF⟩
theorem main_1_2 : Claimed_1_2 := comes_1 fun _ _ _ _ _ _ h hF => ⟨h.2.1, hF⟩
end Jvm.Pilot.@@N@@
namespace Jvm.Pilot.@@N@@
open Jvm Jvm.ClassFile Sem Op Lib Jvm.Free Jvm.Stand Jvm.Pilot.@@N@@.Jvm.D
/-! MADE BY PROGRAM (witnessworld.py) out of the Statement's table words and the real class files: 25 classes; the members and pool entries that the words name. The judged class is class 1, her method 4. -/
namespace start1
open Jvm.ClassFile
def u (s : String) : CpInfo := .utf8 (stringToUtf16 s)
/-- a pool by its gaps: so many unusable entries, then the entry; so many at the end -/
def gap : Nat → List CpInfo → List CpInfo
  | 0, r => r
  | n + 1, r => .unusable :: gap n r
def poolList (es : List (Nat × CpInfo)) (last : Nat) : List CpInfo := es.foldr (fun e r => gap e.1 (e.2 :: r)) (gap last [])
def pool (es : List (Nat × CpInfo)) (last : Nat) : Array CpInfo := ⟨poolList es last⟩
def fileOf (pool : Array CpInfo) (this : Nat) (attrs : Array Attribute := #[]) (ms : Array MethodInfo := #[]) (fl : Nat := 33) (sup : Nat := 0) (ifs : Array Nat := #[]) (fds : Array FieldInfo := #[]) : ClassFile where
  minorVersion := 0
  majorVersion := 65
  constantPool := pool
  accessFlags := fl
  thisClass := this
  superClass := sup
  interfaces := ifs
  fields := fds
  methods := ms
  attributes := attrs
def plain (name : String) (sup : Option ClassId) : Class where
  name := name
  kind := .ordinary
  loader := none
  accessFlags := 33
  super := sup
  interfaces := #[]
  cf := none
  fields := #[]
  methods := #[]
  instanceTypes := #[]
  staticTypes := #[]
  resolved := #[]
  callSites := []
  init := .initialized
  statics := none
  mirror := none

def pool0 : Array CpInfo := pool [(5, u "<init>"), (0, u "()V"), (1, .class_ 10), (1, u "java/lang/Object"), (85, u "clone"), (0, u "()Ljava/lang/Object;")] 26

def k0c0 : Code := { maxStack := 0, maxLocals := 1, code := object_method_1_code, exceptionTable := #[], attributes := #[] }
def k0m0 : Method := { name := "<init>", desc := "()V", sig := { parameters := [], returnType := none }, accessFlags := 1, code := some k0c0 }
def k0m1 : Method := { name := "clone", desc := "()Ljava/lang/Object;", sig := { parameters := [], returnType := some (.object "java/lang/Object") }, accessFlags := 260, code := none }
/-- java/lang/Object -/
def k0 : Class := { plain "java/lang/Object" none with
  accessFlags := 33
  interfaces := #[]
  cf := some (fileOf pool0 8 #[] #[{ accessFlags := 1, nameIndex := 5, descriptorIndex := 6, attributes := #[] }, { accessFlags := 260, nameIndex := 96, descriptorIndex := 97, attributes := #[] }] 33 0 #[] #[])
  fields := #[]
  methods := #[k0m0, k0m1]
  instanceTypes := #[]
  staticTypes := #[]
  resolved := Array.replicate 124 none
  statics := none }

def pool1 : Array CpInfo := pool [(2, .class_ 4), (1, u "java/lang/Object"), (0, u "<init>"), (0, u "()V"), (0, .integer 100000), (0, .integer 1000000), (0, .integer 10000000), (0, .integer 100000000), (0, .integer 1000000000), (0, .methodref 13 14), (0, .class_ 15), (0, .nameAndType 16 17), (0, u "java/lang/String"), (0, u "charAt"), (0, u "(I)C"), (0, .methodref 19 20), (0, .class_ 21), (0, .nameAndType 22 23), (0, u "com/example/tenderd/tenderd/core/ProtocolVersionToStringPinLaw"), (0, u "digitOk"), (0, u "(Ljava/lang/String;IIII)Z"), (0, .integer 2147483647), (0, .class_ 26), (0, u "com/example/tenderd/tenderd/core/ProtocolVersion"), (0, .methodref 25 28), (0, .nameAndType 5 29), (0, u "(III)V"), (0, .methodref 25 31), (0, .nameAndType 32 33), (0, u "toString"), (0, u "()Ljava/lang/String;"), (0, .methodref 19 35), (0, .nameAndType 36 37), (0, u "len"), (0, u "(I)I"), (0, .methodref 13 39), (0, .nameAndType 40 41), (0, u "length"), (0, u "()I"), (0, .methodref 19 43), (0, .nameAndType 44 45), (0, u "num"), (0, u "(Ljava/lang/String;III)Z"), (5, u "law"), (0, u "(III)Z")] 2

def k1m0 : Method := { name := "<init>", desc := "()V", sig := { parameters := [], returnType := none }, accessFlags := 1, code := none }
def k1c1 : Code := { maxStack := 2, maxLocals := 1, code := method_2_code, exceptionTable := #[], attributes := #[] }
def k1m1 : Method := { name := "len", desc := "(I)I", sig := { parameters := [.int], returnType := some .int }, accessFlags := 10, code := some k1c1 }
def k1c2 : Code := { maxStack := 4, maxLocals := 7, code := method_3_code, exceptionTable := #[], attributes := #[] }
def k1m2 : Method := { name := "digitOk", desc := "(Ljava/lang/String;IIII)Z", sig := { parameters := [(.object "java/lang/String"), .int, .int, .int, .int], returnType := some .boolean }, accessFlags := 10, code := some k1c2 }
def k1c3 : Code := { maxStack := 5, maxLocals := 4, code := method_4_code, exceptionTable := #[], attributes := #[] }
def k1m3 : Method := { name := "num", desc := "(Ljava/lang/String;III)Z", sig := { parameters := [(.object "java/lang/String"), .int, .int, .int], returnType := some .boolean }, accessFlags := 10, code := some k1c3 }
def k1c4 : Code := { maxStack := 5, maxLocals := 11, code := code, exceptionTable := #[], attributes := #[] }
def k1m4 : Method := { name := "law", desc := "(III)Z", sig := { parameters := [.int, .int, .int], returnType := some .boolean }, accessFlags := 9, code := some k1c4 }
/-- com/example/tenderd/tenderd/core/ProtocolVersionToStringPinLaw -/
def k1 : Class := { plain "com/example/tenderd/tenderd/core/ProtocolVersionToStringPinLaw" (some 0) with
  accessFlags := 49
  interfaces := #[]
  cf := some (fileOf pool1 19 #[] #[{ accessFlags := 1, nameIndex := 5, descriptorIndex := 6, attributes := #[] }, { accessFlags := 10, nameIndex := 36, descriptorIndex := 37, attributes := #[] }, { accessFlags := 10, nameIndex := 22, descriptorIndex := 23, attributes := #[] }, { accessFlags := 10, nameIndex := 44, descriptorIndex := 45, attributes := #[] }, { accessFlags := 9, nameIndex := 51, descriptorIndex := 52, attributes := #[] }] 49 2 #[] #[])
  fields := #[]
  methods := #[k1m0, k1m1, k1m2, k1m3, k1m4]
  instanceTypes := #[]
  staticTypes := #[]
  resolved := Array.replicate 55 none
  statics := none }

def pool2 : Array CpInfo := pool [(1, .methodref 2 3), (0, .class_ 4), (0, .nameAndType 5 6), (0, u "java/lang/Object"), (0, u "<init>"), (0, u "()V"), (0, .fieldref 8 9), (0, .class_ 10), (0, .nameAndType 11 12), (0, u "com/example/tenderd/tenderd/core/ProtocolVersion"), (0, u "major"), (0, u "I"), (0, .fieldref 8 14), (0, .nameAndType 15 12), (0, u "minor"), (0, .fieldref 8 17), (0, .nameAndType 18 12), (0, u "revision"), (0, .class_ 20), (0, u "java/lang/StringBuilder"), (0, .methodref 19 3), (0, .methodref 19 23), (0, .nameAndType 24 25), (0, u "append"), (0, u "(I)Ljava/lang/StringBuilder;"), (0, .string 27), (0, u "."), (0, .methodref 19 29), (0, .nameAndType 24 30), (0, u "(Ljava/lang/String;)Ljava/lang/StringBuilder;"), (0, .methodref 19 32), (0, .nameAndType 33 34), (0, u "toString"), (0, u "()Ljava/lang/String;"), (0, u "(III)V")] 5

def k2c0 : Code := { maxStack := 2, maxLocals := 4, code := prog_22_method_1_code, exceptionTable := #[], attributes := #[] }
def k2m0 : Method := { name := "<init>", desc := "(III)V", sig := { parameters := [.int, .int, .int], returnType := none }, accessFlags := 0, code := some k2c0 }
def k2c1 : Code := { maxStack := 2, maxLocals := 1, code := prog_22_method_5_code, exceptionTable := #[], attributes := #[] }
def k2m1 : Method := { name := "toString", desc := "()Ljava/lang/String;", sig := { parameters := [], returnType := some (.object "java/lang/String") }, accessFlags := 1, code := some k2c1 }
/-- com/example/tenderd/tenderd/core/ProtocolVersion -/
def k2 : Class := { plain "com/example/tenderd/tenderd/core/ProtocolVersion" (some 0) with
  accessFlags := 33
  interfaces := #[]
  cf := some (fileOf pool2 8 #[] #[{ accessFlags := 0, nameIndex := 5, descriptorIndex := 35, attributes := #[] }, { accessFlags := 1, nameIndex := 33, descriptorIndex := 34, attributes := #[] }] 33 2 #[] #[{ accessFlags := 18, nameIndex := 11, descriptorIndex := 12, attributes := #[] }, { accessFlags := 18, nameIndex := 15, descriptorIndex := 12, attributes := #[] }, { accessFlags := 18, nameIndex := 18, descriptorIndex := 12, attributes := #[] }])
  fields := #[{ name := "major", type := .int, accessFlags := 18, slot := 0, constantValue := 0 }, { name := "minor", type := .int, accessFlags := 18, slot := 1, constantValue := 0 }, { name := "revision", type := .int, accessFlags := 18, slot := 2, constantValue := 0 }]
  methods := #[k2m0, k2m1]
  instanceTypes := #[.int, .int, .int]
  staticTypes := #[]
  resolved := Array.replicate 41 none
  statics := none }

def pool3 : Array CpInfo := pool [(1, .class_ 2), (0, u "java/lang/Appendable"), (0, .class_ 4), (0, u "java/lang/Object")] 9

/-- java/lang/Appendable -/
def k3 : Class := { plain "java/lang/Appendable" (some 0) with
  accessFlags := 1537
  interfaces := #[]
  cf := some (fileOf pool3 1 #[] #[] 1537 3 #[] #[])
  fields := #[]
  methods := #[]
  instanceTypes := #[]
  staticTypes := #[]
  resolved := Array.replicate 14 none
  statics := none }

def pool4 : Array CpInfo := pool [(2, .class_ 4), (1, u "java/lang/CharSequence"), (42, .class_ 48), (0, u "java/lang/CharSequence$1CodePointIterator"), (10, .class_ 60), (0, u "java/lang/CharSequence$1CharIterator"), (5, .class_ 67), (0, u "java/lang/Object")] 63

/-- java/lang/CharSequence -/
def k4 : Class := { plain "java/lang/CharSequence" (some 0) with
  accessFlags := 1537
  interfaces := #[]
  cf := some (fileOf pool4 2 #[.nestMembers #[47, 59]] #[] 1537 66 #[] #[])
  fields := #[]
  methods := #[]
  instanceTypes := #[]
  staticTypes := #[]
  resolved := Array.replicate 131 none
  statics := none }

def pool5 : Array CpInfo := pool [(1, .class_ 2), (0, u "java/lang/String"), (0, .methodref 4 5), (0, .class_ 6), (0, .nameAndType 7 8), (0, u "java/lang/Object"), (0, u "<init>"), (0, u "()V"), (1, .class_ 12), (1, u "java/lang/AbstractStringBuilder"), (0, u "EMPTYVALUE"), (0, u "[B"), (0, .fieldref 10 16), (0, .nameAndType 17 14), (0, u "value"), (0, .fieldref 1 19), (0, .nameAndType 20 21), (0, u "COMPACT_STRINGS"), (0, u "Z"), (0, .fieldref 10 23), (0, .nameAndType 24 25), (0, u "coder"), (0, u "B"), (6, .methodref 1 33), (0, .nameAndType 34 35), (0, u "length"), (0, u "()I"), (0, .class_ 37), (0, u "java/lang/Integer"), (1, .integer 2147483647), (0, .methodref 1 41), (0, .nameAndType 24 42), (0, u "()B"), (2, u "append"), (0, u "(Ljava/lang/String;)Ljava/lang/AbstractStringBuilder;"), (1, .class_ 49), (0, u "java/lang/CharSequence"), (19, u "(Ljava/lang/String;)V"), (5, u "maybeLatin1"), (3, .fieldref 10 80), (0, .nameAndType 81 82), (0, u "count"), (0, u "I"), (0, .methodref 10 84), (0, .nameAndType 85 86), (0, u "isLatin1"), (0, u "()Z"), (13, .methodref 10 101), (0, .nameAndType 102 103), (0, u "ensureCapacityInternal"), (0, u "(I)V"), (0, .methodref 10 105), (0, .nameAndType 106 107), (0, u "newCapacity"), (0, u "(I)I"), (0, .methodref 109 110), (0, .class_ 111), (0, .nameAndType 112 113), (0, u "java/util/Arrays"), (0, u "copyOf"), (0, u "([BI)[B"), (0, .methodref 115 116), (0, .class_ 117), (0, .nameAndType 118 119), (0, u "jdk/internal/util/ArraysSupport"), (0, u "newLength"), (0, u "(III)I"), (68, u "getChars"), (19, .methodref 10 209), (0, .nameAndType 210 211), (0, u "putStringAt"), (0, u "(ILjava/lang/String;)V"), (5, u "inflateIfNeededFor"), (2, .nameAndType 221 222), (0, u "getBytes"), (0, u "([BIB)V"), (22, .methodref 36 246), (0, .nameAndType 247 107), (0, u "stringSize"), (0, .methodref 36 249), (0, .nameAndType 188 250), (0, u "(II[B)I"), (146, .methodref 10 398), (0, .nameAndType 217 69), (0, .methodref 1 220), (3, u "()[B"), (40, .class_ 445), (0, u "java/lang/Appendable"), (65, u "(I)Ljava/lang/AbstractStringBuilder;"), (40, u "getValue")] 56

def k5m0 : Method := { name := "<init>", desc := "()V", sig := { parameters := [], returnType := none }, accessFlags := 0, code := none }
def k5c1 : Code := { maxStack := 2, maxLocals := 2, code := jdk_68_method_2_code, exceptionTable := #[], attributes := #[] }
def k5m1 : Method := { name := "<init>", desc := "(I)V", sig := { parameters := [.int], returnType := none }, accessFlags := 0, code := some k5c1 }
def k5c2 : Code := { maxStack := 1, maxLocals := 1, code := jdk_68_method_6_code, exceptionTable := #[], attributes := #[] }
def k5m2 : Method := { name := "length", desc := "()I", sig := { parameters := [], returnType := some .int }, accessFlags := 1, code := some k5c2 }
def k5c3 : Code := { maxStack := 4, maxLocals := 3, code := jdk_68_method_9_code, exceptionTable := #[], attributes := #[] }
def k5m3 : Method := { name := "ensureCapacityInternal", desc := "(I)V", sig := { parameters := [.int], returnType := none }, accessFlags := 2, code := some k5c3 }
def k5c4 : Code := { maxStack := 5, maxLocals := 6, code := jdk_68_method_10_code, exceptionTable := #[], attributes := #[] }
def k5m4 : Method := { name := "newCapacity", desc := "(I)I", sig := { parameters := [.int], returnType := some .int }, accessFlags := 2, code := some k5c4 }
def k5c5 : Code := { maxStack := 3, maxLocals := 3, code := jdk_68_method_22_code, exceptionTable := #[], attributes := #[] }
def k5m5 : Method := { name := "append", desc := "(Ljava/lang/String;)Ljava/lang/AbstractStringBuilder;", sig := { parameters := [(.object "java/lang/String")], returnType := some (.object "java/lang/AbstractStringBuilder") }, accessFlags := 1, code := some k5c5 }
def k5c6 : Code := { maxStack := 4, maxLocals := 4, code := jdk_68_method_32_code, exceptionTable := #[], attributes := #[] }
def k5m6 : Method := { name := "append", desc := "(I)Ljava/lang/AbstractStringBuilder;", sig := { parameters := [.int], returnType := some (.object "java/lang/AbstractStringBuilder") }, accessFlags := 1, code := some k5c6 }
def k5c7 : Code := { maxStack := 1, maxLocals := 1, code := jdk_68_method_64_code, exceptionTable := #[], attributes := #[] }
def k5m7 : Method := { name := "getValue", desc := "()[B", sig := { parameters := [], returnType := some (.array .byte) }, accessFlags := 16, code := some k5c7 }
def k5c8 : Code := { maxStack := 1, maxLocals := 1, code := jdk_68_method_68_code, exceptionTable := #[], attributes := #[] }
def k5m8 : Method := { name := "isLatin1", desc := "()Z", sig := { parameters := [], returnType := some .boolean }, accessFlags := 16, code := some k5c8 }
def k5c9 : Code := { maxStack := 2, maxLocals := 2, code := jdk_68_method_71_code, exceptionTable := #[], attributes := #[] }
def k5m9 : Method := { name := "inflateIfNeededFor", desc := "(Ljava/lang/String;)V", sig := { parameters := [(.object "java/lang/String")], returnType := none }, accessFlags := 2, code := some k5c9 }
def k5c10 : Code := { maxStack := 4, maxLocals := 3, code := jdk_68_method_73_code, exceptionTable := #[], attributes := #[] }
def k5m10 : Method := { name := "putStringAt", desc := "(ILjava/lang/String;)V", sig := { parameters := [.int, (.object "java/lang/String")], returnType := none }, accessFlags := 2, code := some k5c10 }
/-- java/lang/AbstractStringBuilder -/
def k5 : Class := { plain "java/lang/AbstractStringBuilder" (some 0) with
  accessFlags := 1056
  interfaces := #[3, 4]
  cf := some (fileOf pool5 10 #[] #[{ accessFlags := 0, nameIndex := 7, descriptorIndex := 8, attributes := #[] }, { accessFlags := 0, nameIndex := 7, descriptorIndex := 103, attributes := #[] }, { accessFlags := 1, nameIndex := 34, descriptorIndex := 35, attributes := #[] }, { accessFlags := 2, nameIndex := 102, descriptorIndex := 103, attributes := #[] }, { accessFlags := 2, nameIndex := 106, descriptorIndex := 107, attributes := #[] }, { accessFlags := 1, nameIndex := 45, descriptorIndex := 46, attributes := #[] }, { accessFlags := 1, nameIndex := 45, descriptorIndex := 511, attributes := #[] }, { accessFlags := 16, nameIndex := 552, descriptorIndex := 403, attributes := #[] }, { accessFlags := 16, nameIndex := 85, descriptorIndex := 86, attributes := #[] }, { accessFlags := 2, nameIndex := 217, descriptorIndex := 69, attributes := #[] }, { accessFlags := 2, nameIndex := 210, descriptorIndex := 211, attributes := #[] }] 1056 4 #[444, 48] #[{ accessFlags := 0, nameIndex := 17, descriptorIndex := 14, attributes := #[] }, { accessFlags := 0, nameIndex := 24, descriptorIndex := 25, attributes := #[] }, { accessFlags := 0, nameIndex := 75, descriptorIndex := 21, attributes := #[] }, { accessFlags := 0, nameIndex := 81, descriptorIndex := 82, attributes := #[] }, { accessFlags := 26, nameIndex := 13, descriptorIndex := 14, attributes := #[] }])
  fields := #[{ name := "value", type := (.array .byte), accessFlags := 0, slot := 0, constantValue := 0 }, { name := "coder", type := .byte, accessFlags := 0, slot := 1, constantValue := 0 }, { name := "maybeLatin1", type := .boolean, accessFlags := 0, slot := 2, constantValue := 0 }, { name := "count", type := .int, accessFlags := 0, slot := 3, constantValue := 0 }, { name := "EMPTYVALUE", type := (.array .byte), accessFlags := 26, slot := 0, constantValue := 0 }]
  methods := #[k5m0, k5m1, k5m2, k5m3, k5m4, k5m5, k5m6, k5m7, k5m8, k5m9, k5m10]
  instanceTypes := #[(.array .byte), .byte, .boolean, .int]
  staticTypes := #[(.array .byte)]
  resolved := Array.replicate 609 none
  statics := none }

def pool6 : Array CpInfo := pool [(1, .class_ 2), (0, u "java/io/Serializable"), (0, .class_ 4), (0, u "java/lang/Object")] 2

/-- java/io/Serializable -/
def k6 : Class := { plain "java/io/Serializable" (some 0) with
  accessFlags := 1537
  interfaces := #[]
  cf := some (fileOf pool6 1 #[] #[] 1537 3 #[] #[])
  fields := #[]
  methods := #[]
  instanceTypes := #[]
  staticTypes := #[]
  resolved := Array.replicate 7 none
  statics := none }

def pool7 : Array CpInfo := pool [(1, .class_ 2), (0, u "java/lang/Comparable"), (0, .class_ 4), (0, u "java/lang/Object")] 7

/-- java/lang/Comparable -/
def k7 : Class := { plain "java/lang/Comparable" (some 0) with
  accessFlags := 1537
  interfaces := #[]
  cf := some (fileOf pool7 1 #[] #[] 1537 3 #[] #[])
  fields := #[]
  methods := #[]
  instanceTypes := #[]
  staticTypes := #[]
  resolved := Array.replicate 12 none
  statics := none }

def pool8 : Array CpInfo := pool [(1, .methodref 2 3), (0, .class_ 4), (0, .nameAndType 5 6), (0, u "java/lang/AbstractStringBuilder"), (0, u "<init>"), (0, u "(I)V"), (11, .class_ 20), (1, u "java/lang/String"), (3, .class_ 26), (1, u "java/lang/StringBuilder"), (0, u "append"), (0, u "(Ljava/lang/String;)Ljava/lang/StringBuilder;"), (0, .methodref 2 30), (0, .nameAndType 27 31), (0, u "(Ljava/lang/String;)Ljava/lang/AbstractStringBuilder;"), (21, .methodref 2 54), (0, .nameAndType 27 55), (0, u "(I)Ljava/lang/AbstractStringBuilder;"), (81, .methodref 18 138), (0, .nameAndType 5 139), (0, u "(Ljava/lang/StringBuilder;)V"), (5, u "()V"), (10, u "()I"), (111, u "(I)Ljava/lang/StringBuilder;"), (74, .methodref 2 344), (0, .nameAndType 345 156), (0, u "length"), (3, .class_ 350), (0, u "java/lang/Appendable"), (0, .class_ 352), (0, u "java/io/Serializable"), (0, .class_ 354), (0, u "java/lang/Comparable"), (0, .class_ 356), (0, u "java/lang/CharSequence"), (0, u "serialVersionUID"), (0, u "J"), (40, u "toString"), (0, u "()Ljava/lang/String;")] 21

def k8c0 : Code := { maxStack := 2, maxLocals := 1, code := jdk_67_method_1_code, exceptionTable := #[], attributes := #[] }
def k8m0 : Method := { name := "<init>", desc := "()V", sig := { parameters := [], returnType := none }, accessFlags := 1, code := some k8c0 }
def k8c1 : Code := { maxStack := 2, maxLocals := 2, code := jdk_67_method_7_code, exceptionTable := #[], attributes := #[] }
def k8m1 : Method := { name := "append", desc := "(Ljava/lang/String;)Ljava/lang/StringBuilder;", sig := { parameters := [(.object "java/lang/String")], returnType := some (.object "java/lang/StringBuilder") }, accessFlags := 1, code := some k8c1 }
def k8c2 : Code := { maxStack := 2, maxLocals := 2, code := jdk_67_method_15_code, exceptionTable := #[], attributes := #[] }
def k8m2 : Method := { name := "append", desc := "(I)Ljava/lang/StringBuilder;", sig := { parameters := [.int], returnType := some (.object "java/lang/StringBuilder") }, accessFlags := 1, code := some k8c2 }
def k8c3 : Code := { maxStack := 3, maxLocals := 1, code := jdk_67_method_42_code, exceptionTable := #[], attributes := #[] }
def k8m3 : Method := { name := "toString", desc := "()Ljava/lang/String;", sig := { parameters := [], returnType := some (.object "java/lang/String") }, accessFlags := 1, code := some k8c3 }
def k8c4 : Code := { maxStack := 1, maxLocals := 1, code := jdk_67_method_93_code, exceptionTable := #[], attributes := #[] }
def k8m4 : Method := { name := "length", desc := "()I", sig := { parameters := [], returnType := some .int }, accessFlags := 4161, code := some k8c4 }
/-- java/lang/StringBuilder -/
def k8 : Class := { plain "java/lang/StringBuilder" (some 5) with
  accessFlags := 49
  interfaces := #[3, 6, 7, 4]
  cf := some (fileOf pool8 24 #[] #[{ accessFlags := 1, nameIndex := 5, descriptorIndex := 145, attributes := #[] }, { accessFlags := 1, nameIndex := 27, descriptorIndex := 28, attributes := #[] }, { accessFlags := 1, nameIndex := 27, descriptorIndex := 268, attributes := #[] }, { accessFlags := 1, nameIndex := 399, descriptorIndex := 400, attributes := #[] }, { accessFlags := 4161, nameIndex := 345, descriptorIndex := 156, attributes := #[] }] 49 2 #[349, 351, 353, 355] #[{ accessFlags := 24, nameIndex := 357, descriptorIndex := 358, attributes := #[] }])
  fields := #[{ name := "serialVersionUID", type := .long, accessFlags := 24, slot := 0, constantValue := 0 }]
  methods := #[k8m0, k8m1, k8m2, k8m3, k8m4]
  instanceTypes := #[(.array .byte), .byte, .boolean, .int]
  staticTypes := #[.long]
  resolved := Array.replicate 422 none
  statics := none }

def pool9 : Array CpInfo := pool [(1, .class_ 2), (0, u "java/lang/constant/Constable"), (0, .class_ 4), (0, u "java/lang/Object")] 6

/-- java/lang/constant/Constable -/
def k9 : Class := { plain "java/lang/constant/Constable" (some 0) with
  accessFlags := 1537
  interfaces := #[]
  cf := some (fileOf pool9 1 #[] #[] 1537 3 #[] #[])
  fields := #[]
  methods := #[]
  instanceTypes := #[]
  staticTypes := #[]
  resolved := Array.replicate 11 none
  statics := none }

def pool10 : Array CpInfo := pool [(1, .class_ 2), (0, u "java/lang/constant/ConstantDesc"), (0, .class_ 4), (0, u "java/lang/Object")] 32

/-- java/lang/constant/ConstantDesc -/
def k10 : Class := { plain "java/lang/constant/ConstantDesc" (some 0) with
  accessFlags := 1537
  interfaces := #[]
  cf := some (fileOf pool10 1 #[] #[] 1537 3 #[] #[])
  fields := #[]
  methods := #[]
  instanceTypes := #[]
  staticTypes := #[]
  resolved := Array.replicate 37 none
  statics := none }

def pool11 : Array CpInfo := pool [(1, .methodref 2 3), (0, .class_ 4), (0, .nameAndType 5 6), (0, u "java/lang/Object"), (0, u "<init>"), (0, u "()V"), (2, .fieldref 10 11), (0, .class_ 12), (0, .nameAndType 13 14), (0, u "java/lang/String"), (0, u "value"), (0, u "[B"), (0, .fieldref 10 16), (0, .nameAndType 17 18), (0, u "coder"), (0, u "B"), (2, u "hash"), (0, u "I"), (2, u "hashIsZero"), (0, u "Z"), (11, .fieldref 10 39), (0, .nameAndType 40 26), (0, u "COMPACT_STRINGS"), (13, .methodref 55 56), (0, .class_ 57), (0, .nameAndType 58 59), (0, u "java/util/Arrays"), (0, u "copyOfRange"), (0, u "([BII)[B"), (47, .class_ 109), (1, u "java/lang/StringLatin1"), (32, u "()Z"), (50, .class_ 195), (1, u "java/lang/System"), (16, .methodref 193 213), (0, .nameAndType 214 215), (0, u "arraycopy"), (0, u "(Ljava/lang/Object;ILjava/lang/Object;II)V"), (118, u "()I"), (0, .methodref 10 336), (0, .nameAndType 17 337), (0, u "()B"), (2, u "()[B"), (22, u "([BI)C"), (27, u "(II)V"), (35, u "(I)C"), (61, .methodref 10 490), (0, .nameAndType 5 491), (0, u "(Ljava/lang/AbstractStringBuilder;Ljava/lang/Void;)V"), (0, .methodref 10 493), (0, .nameAndType 494 142), (0, u "isLatin1"), (0, .methodref 107 496), (0, .nameAndType 497 363), (0, u "charAt"), (3, u "checkIndex"), (4, .nameAndType 507 334), (0, u "length"), (24, u "getBytes"), (16, .methodref 550 506), (0, .class_ 551), (0, u "java/lang/AbstractStringBuilder"), (0, .methodref 550 553), (0, .nameAndType 554 340), (0, u "getValue"), (20, .class_ 576), (0, u "java/lang/CharSequence"), (22, u "CASE_INSENSITIVE_ORDER"), (0, u "Ljava/util/Comparator;"), (220, u "([BIB)V"), (225, .methodref 550 493), (5, .fieldref 1054 1055), (0, .class_ 1056), (0, .nameAndType 1057 1058), (0, u "jdk/internal/util/Preconditions"), (0, u "SIOOBE_FORMATTER"), (0, u "Ljava/util/function/BiFunction;"), (0, .methodref 1054 1060), (0, .nameAndType 501 1061), (0, u "(IILjava/util/function/BiFunction;)I"), (39, u "serialPersistentFields"), (0, u "[Ljava/io/ObjectStreamField;"), (0, .class_ 1104), (0, u "java/lang/String$CaseInsensitiveComparator"), (1, .class_ 1107), (0, u "java/io/Serializable"), (0, .class_ 1109), (0, u "java/lang/Comparable"), (0, .class_ 1111), (0, u "java/lang/constant/Constable"), (0, .class_ 1113), (0, u "java/lang/constant/ConstantDesc"), (2, u "serialVersionUID"), (0, u "J"), (3, u "REPL"), (0, u "C"), (2, u "LATIN1"), (1, u "UTF16"), (105, u "(Ljava/lang/StringBuilder;)V")] 217

def k11m0 : Method := { name := "<init>", desc := "()V", sig := { parameters := [], returnType := none }, accessFlags := 1, code := none }
def k11c1 : Code := { maxStack := 3, maxLocals := 2, code := jdk_42_method_53_code, exceptionTable := #[], attributes := #[] }
def k11m1 : Method := { name := "<init>", desc := "(Ljava/lang/StringBuilder;)V", sig := { parameters := [(.object "java/lang/StringBuilder")], returnType := none }, accessFlags := 1, code := some k11c1 }
def k11c2 : Code := { maxStack := 2, maxLocals := 1, code := jdk_42_method_54_code, exceptionTable := #[], attributes := #[] }
def k11m2 : Method := { name := "length", desc := "()I", sig := { parameters := [], returnType := some .int }, accessFlags := 1, code := some k11c2 }
def k11c3 : Code := { maxStack := 2, maxLocals := 2, code := jdk_42_method_56_code, exceptionTable := #[], attributes := #[] }
def k11m3 : Method := { name := "charAt", desc := "(I)C", sig := { parameters := [.int], returnType := some .char }, accessFlags := 1, code := some k11c3 }
def k11c4 : Code := { maxStack := 5, maxLocals := 4, code := jdk_42_method_147_code, exceptionTable := #[], attributes := #[] }
def k11m4 : Method := { name := "getBytes", desc := "([BIB)V", sig := { parameters := [(.array .byte), .int, .byte], returnType := none }, accessFlags := 0, code := some k11c4 }
def k11c5 : Code := { maxStack := 5, maxLocals := 5, code := jdk_42_method_150_code, exceptionTable := #[], attributes := #[] }
def k11m5 : Method := { name := "<init>", desc := "(Ljava/lang/AbstractStringBuilder;Ljava/lang/Void;)V", sig := { parameters := [(.object "java/lang/AbstractStringBuilder"), (.object "java/lang/Void")], returnType := none }, accessFlags := 0, code := some k11c5 }
def k11c6 : Code := { maxStack := 1, maxLocals := 1, code := jdk_42_method_152_code, exceptionTable := #[], attributes := #[] }
def k11m6 : Method := { name := "coder", desc := "()B", sig := { parameters := [], returnType := some .byte }, accessFlags := 0, code := some k11c6 }
def k11c7 : Code := { maxStack := 1, maxLocals := 1, code := jdk_42_method_154_code, exceptionTable := #[], attributes := #[] }
def k11m7 : Method := { name := "isLatin1", desc := "()Z", sig := { parameters := [], returnType := some .boolean }, accessFlags := 0, code := some k11c7 }
def k11c8 : Code := { maxStack := 3, maxLocals := 2, code := jdk_42_method_155_code, exceptionTable := #[], attributes := #[] }
def k11m8 : Method := { name := "checkIndex", desc := "(II)V", sig := { parameters := [.int, .int], returnType := none }, accessFlags := 8, code := some k11c8 }
/-- java/lang/String -/
def k11 : Class := { plain "java/lang/String" (some 0) with
  accessFlags := 49
  interfaces := #[6, 7, 4, 9, 10]
  cf := some (fileOf pool11 10 #[.nestMembers #[1103]] #[{ accessFlags := 1, nameIndex := 5, descriptorIndex := 6, attributes := #[] }, { accessFlags := 1, nameIndex := 5, descriptorIndex := 1233, attributes := #[] }, { accessFlags := 1, nameIndex := 507, descriptorIndex := 334, attributes := #[] }, { accessFlags := 1, nameIndex := 497, descriptorIndex := 427, attributes := #[] }, { accessFlags := 0, nameIndex := 532, descriptorIndex := 821, attributes := #[] }, { accessFlags := 0, nameIndex := 5, descriptorIndex := 491, attributes := #[] }, { accessFlags := 0, nameIndex := 17, descriptorIndex := 337, attributes := #[] }, { accessFlags := 0, nameIndex := 494, descriptorIndex := 142, attributes := #[] }, { accessFlags := 8, nameIndex := 501, descriptorIndex := 391, attributes := #[] }] 49 2 #[1106, 1108, 575, 1110, 1112] #[{ accessFlags := 18, nameIndex := 13, descriptorIndex := 14, attributes := #[] }, { accessFlags := 18, nameIndex := 17, descriptorIndex := 18, attributes := #[] }, { accessFlags := 2, nameIndex := 21, descriptorIndex := 22, attributes := #[] }, { accessFlags := 2, nameIndex := 25, descriptorIndex := 26, attributes := #[] }, { accessFlags := 26, nameIndex := 1116, descriptorIndex := 1117, attributes := #[] }, { accessFlags := 24, nameIndex := 40, descriptorIndex := 26, attributes := #[] }, { accessFlags := 26, nameIndex := 1101, descriptorIndex := 1102, attributes := #[] }, { accessFlags := 26, nameIndex := 1121, descriptorIndex := 1122, attributes := #[] }, { accessFlags := 25, nameIndex := 599, descriptorIndex := 600, attributes := #[] }, { accessFlags := 24, nameIndex := 1125, descriptorIndex := 18, attributes := #[] }, { accessFlags := 24, nameIndex := 1127, descriptorIndex := 18, attributes := #[] }])
  fields := #[{ name := "value", type := (.array .byte), accessFlags := 18, slot := 0, constantValue := 0 }, { name := "coder", type := .byte, accessFlags := 18, slot := 1, constantValue := 0 }, { name := "hash", type := .int, accessFlags := 2, slot := 2, constantValue := 0 }, { name := "hashIsZero", type := .boolean, accessFlags := 2, slot := 3, constantValue := 0 }, { name := "serialVersionUID", type := .long, accessFlags := 26, slot := 0, constantValue := 0 }, { name := "COMPACT_STRINGS", type := .boolean, accessFlags := 24, slot := 1, constantValue := 0 }, { name := "serialPersistentFields", type := (.array (.object "java/io/ObjectStreamField")), accessFlags := 26, slot := 2, constantValue := 0 }, { name := "REPL", type := .char, accessFlags := 26, slot := 3, constantValue := 0 }, { name := "CASE_INSENSITIVE_ORDER", type := (.object "java/util/Comparator"), accessFlags := 25, slot := 4, constantValue := 0 }, { name := "LATIN1", type := .byte, accessFlags := 24, slot := 5, constantValue := 0 }, { name := "UTF16", type := .byte, accessFlags := 24, slot := 6, constantValue := 0 }]
  methods := #[k11m0, k11m1, k11m2, k11m3, k11m4, k11m5, k11m6, k11m7, k11m8]
  instanceTypes := #[(.array .byte), .byte, .int, .boolean]
  staticTypes := #[.long, .boolean, (.array (.object "java/io/ObjectStreamField")), .char, (.object "java/util/Comparator"), .byte, .byte]
  resolved := Array.replicate 1451 none
  statics := some 0 }

def pool12 : Array CpInfo := pool [(2, .class_ 4), (1, u "java/lang/Object"), (0, u "<init>"), (0, u "()V"), (1, .class_ 10), (1, u "java/lang/Number"), (2, .class_ 14), (0, u "java/io/Serializable"), (0, u "serialVersionUID"), (0, u "J")] 20

def k12m0 : Method := { name := "<init>", desc := "()V", sig := { parameters := [], returnType := none }, accessFlags := 1, code := none }
/-- java/lang/Number -/
def k12 : Class := { plain "java/lang/Number" (some 0) with
  accessFlags := 1057
  interfaces := #[6]
  cf := some (fileOf pool12 8 #[] #[{ accessFlags := 1, nameIndex := 5, descriptorIndex := 6, attributes := #[] }] 1057 2 #[13] #[{ accessFlags := 26, nameIndex := 15, descriptorIndex := 16, attributes := #[] }])
  fields := #[{ name := "serialVersionUID", type := .long, accessFlags := 26, slot := 0, constantValue := 0 }]
  methods := #[k12m0]
  instanceTypes := #[]
  staticTypes := #[.long]
  resolved := Array.replicate 37 none
  statics := none }

def pool13 : Array CpInfo := pool [(1, .class_ 2), (0, u "java/lang/Integer"), (16, u "digits"), (0, u "[C"), (33, u "(I)I"), (19, u "stringSize"), (2, u "getChars"), (0, u "(II[B)I"), (4, .fieldref 1 84), (0, .nameAndType 85 86), (0, u "DigitOnes"), (0, u "[B"), (0, .fieldref 1 88), (0, .nameAndType 89 86), (0, u "DigitTens"), (99, .class_ 190), (0, u "java/lang/Integer$IntegerCache"), (3, u "I"), (8, .class_ 204), (0, u "java/lang/Number"), (2, u "value"), (94, u "TYPE"), (0, u "Ljava/lang/Class;"), (0, .class_ 305), (0, u "java/lang/Comparable"), (0, .class_ 307), (0, u "java/lang/constant/Constable"), (0, .class_ 309), (0, u "java/lang/constant/ConstantDesc"), (0, u "MIN_VALUE"), (1, u "MAX_VALUE"), (3, u "SIZE"), (1, u "BYTES"), (1, u "serialVersionUID"), (0, u "J")] 131

def k13c0 : Code := { maxStack := 4, maxLocals := 7, code := jdk_33_method_12_code, exceptionTable := #[], attributes := #[] }
def k13m0 : Method := { name := "getChars", desc := "(II[B)I", sig := { parameters := [.int, .int, (.array .byte)], returnType := some .int }, accessFlags := 8, code := some k13c0 }
def k13c1 : Code := { maxStack := 2, maxLocals := 4, code := jdk_33_method_13_code, exceptionTable := #[], attributes := #[] }
def k13m1 : Method := { name := "stringSize", desc := "(I)I", sig := { parameters := [.int], returnType := some .int }, accessFlags := 8, code := some k13c1 }
/-- java/lang/Integer -/
def k13 : Class := { plain "java/lang/Integer" (some 12) with
  accessFlags := 49
  interfaces := #[7, 9, 10]
  cf := some (fileOf pool13 1 #[.nestMembers #[189]] #[{ accessFlags := 8, nameIndex := 77, descriptorIndex := 78, attributes := #[] }, { accessFlags := 8, nameIndex := 74, descriptorIndex := 54, attributes := #[] }] 49 203 #[304, 306, 308] #[{ accessFlags := 25, nameIndex := 310, descriptorIndex := 194, attributes := #[] }, { accessFlags := 25, nameIndex := 312, descriptorIndex := 194, attributes := #[] }, { accessFlags := 25, nameIndex := 302, descriptorIndex := 303, attributes := #[] }, { accessFlags := 24, nameIndex := 19, descriptorIndex := 20, attributes := #[] }, { accessFlags := 24, nameIndex := 89, descriptorIndex := 86, attributes := #[] }, { accessFlags := 24, nameIndex := 85, descriptorIndex := 86, attributes := #[] }, { accessFlags := 18, nameIndex := 207, descriptorIndex := 194, attributes := #[] }, { accessFlags := 25, nameIndex := 316, descriptorIndex := 194, attributes := #[] }, { accessFlags := 25, nameIndex := 318, descriptorIndex := 194, attributes := #[] }, { accessFlags := 26, nameIndex := 320, descriptorIndex := 321, attributes := #[] }])
  fields := #[{ name := "MIN_VALUE", type := .int, accessFlags := 25, slot := 0, constantValue := 0 }, { name := "MAX_VALUE", type := .int, accessFlags := 25, slot := 1, constantValue := 0 }, { name := "TYPE", type := (.object "java/lang/Class"), accessFlags := 25, slot := 2, constantValue := 0 }, { name := "digits", type := (.array .char), accessFlags := 24, slot := 3, constantValue := 0 }, { name := "DigitTens", type := (.array .byte), accessFlags := 24, slot := 4, constantValue := 0 }, { name := "DigitOnes", type := (.array .byte), accessFlags := 24, slot := 5, constantValue := 0 }, { name := "value", type := .int, accessFlags := 18, slot := 0, constantValue := 0 }, { name := "SIZE", type := .int, accessFlags := 25, slot := 6, constantValue := 0 }, { name := "BYTES", type := .int, accessFlags := 25, slot := 7, constantValue := 0 }, { name := "serialVersionUID", type := .long, accessFlags := 26, slot := 8, constantValue := 0 }]
  methods := #[k13m0, k13m1]
  instanceTypes := #[.int]
  staticTypes := #[.int, .int, (.object "java/lang/Class"), (.array .char), (.array .byte), (.array .byte), .int, .int, .long]
  resolved := Array.replicate 453 none
  statics := some 1 }

def pool14 : Array CpInfo := pool [(2, .class_ 4), (1, u "java/lang/Object"), (0, u "<init>"), (0, u "()V"), (1, .class_ 10), (1, u "java/lang/System"), (0, u "allowSecurityManager"), (0, u "I"), (16, u "cons"), (0, u "Ljava/io/Console;"), (77, .class_ 110), (1, u "java/lang/System$CallersHolder"), (43, u "initialErrStream"), (0, u "Ljava/io/PrintStream;"), (19, u "security"), (0, u "Ljava/lang/SecurityManager;"), (31, .class_ 209), (0, u "java/lang/System$1"), (7, u "props"), (0, u "Ljava/util/Properties;"), (2, u "lineSeparator"), (0, u "Ljava/lang/String;"), (96, .class_ 321), (1, u "java/lang/System$LoggerFinder"), (5, .class_ 328), (0, u "java/lang/System$Logger"), (67, u "err"), (2, u "out"), (91, u "notSupportedJnuEncoding"), (15, u "in"), (17, u "initialIn"), (0, u "Ljava/io/InputStream;"), (35, u "bootLayer"), (0, u "Ljava/lang/ModuleLayer;"), (99, .class_ 664), (0, u "java/lang/System$2"), (9, u "NEVER"), (2, u "MAYBE"), (49, u "arraycopy"), (0, u "(Ljava/lang/Object;ILjava/lang/Object;II)V"), (72, .class_ 802), (0, u "java/lang/System$Logger$Level")] 31

def k14m0 : Method := { name := "<init>", desc := "()V", sig := { parameters := [], returnType := none }, accessFlags := 2, code := none }
def k14m1 : Method := { name := "arraycopy", desc := "(Ljava/lang/Object;ILjava/lang/Object;II)V", sig := { parameters := [(.object "java/lang/Object"), .int, (.object "java/lang/Object"), .int, .int], returnType := none }, accessFlags := 265, code := none }
/-- java/lang/System -/
def k14 : Class := { plain "java/lang/System" (some 0) with
  accessFlags := 49
  interfaces := #[]
  cf := some (fileOf pool14 8 #[.nestMembers #[319, 327, 801, 108, 663, 208]] #[{ accessFlags := 2, nameIndex := 5, descriptorIndex := 6, attributes := #[] }, { accessFlags := 265, nameIndex := 727, descriptorIndex := 728, attributes := #[] }] 49 2 #[] #[{ accessFlags := 25, nameIndex := 507, descriptorIndex := 526, attributes := #[] }, { accessFlags := 25, nameIndex := 399, descriptorIndex := 155, attributes := #[] }, { accessFlags := 25, nameIndex := 396, descriptorIndex := 155, attributes := #[] }, { accessFlags := 10, nameIndex := 525, descriptorIndex := 526, attributes := #[] }, { accessFlags := 26, nameIndex := 674, descriptorIndex := 12, attributes := #[] }, { accessFlags := 26, nameIndex := 677, descriptorIndex := 12, attributes := #[] }, { accessFlags := 10, nameIndex := 11, descriptorIndex := 12, attributes := #[] }, { accessFlags := 74, nameIndex := 175, descriptorIndex := 176, attributes := #[] }, { accessFlags := 10, nameIndex := 491, descriptorIndex := 222, attributes := #[] }, { accessFlags := 74, nameIndex := 29, descriptorIndex := 30, attributes := #[] }, { accessFlags := 74, nameIndex := 154, descriptorIndex := 155, attributes := #[] }, { accessFlags := 10, nameIndex := 217, descriptorIndex := 218, attributes := #[] }, { accessFlags := 10, nameIndex := 221, descriptorIndex := 222, attributes := #[] }, { accessFlags := 8, nameIndex := 562, descriptorIndex := 563, attributes := #[] }])
  fields := #[{ name := "in", type := (.object "java/io/InputStream"), accessFlags := 25, slot := 0, constantValue := 0 }, { name := "out", type := (.object "java/io/PrintStream"), accessFlags := 25, slot := 1, constantValue := 0 }, { name := "err", type := (.object "java/io/PrintStream"), accessFlags := 25, slot := 2, constantValue := 0 }, { name := "initialIn", type := (.object "java/io/InputStream"), accessFlags := 10, slot := 3, constantValue := 0 }, { name := "NEVER", type := .int, accessFlags := 26, slot := 4, constantValue := 0 }, { name := "MAYBE", type := .int, accessFlags := 26, slot := 5, constantValue := 0 }, { name := "allowSecurityManager", type := .int, accessFlags := 10, slot := 6, constantValue := 0 }, { name := "security", type := (.object "java/lang/SecurityManager"), accessFlags := 74, slot := 7, constantValue := 0 }, { name := "notSupportedJnuEncoding", type := (.object "java/lang/String"), accessFlags := 10, slot := 8, constantValue := 0 }, { name := "cons", type := (.object "java/io/Console"), accessFlags := 74, slot := 9, constantValue := 0 }, { name := "initialErrStream", type := (.object "java/io/PrintStream"), accessFlags := 74, slot := 10, constantValue := 0 }, { name := "props", type := (.object "java/util/Properties"), accessFlags := 10, slot := 11, constantValue := 0 }, { name := "lineSeparator", type := (.object "java/lang/String"), accessFlags := 10, slot := 12, constantValue := 0 }, { name := "bootLayer", type := (.object "java/lang/ModuleLayer"), accessFlags := 8, slot := 13, constantValue := 0 }]
  methods := #[k14m0, k14m1]
  instanceTypes := #[]
  staticTypes := #[(.object "java/io/InputStream"), (.object "java/io/PrintStream"), (.object "java/io/PrintStream"), (.object "java/io/InputStream"), .int, .int, .int, (.object "java/lang/SecurityManager"), (.object "java/lang/String"), (.object "java/io/Console"), (.object "java/io/PrintStream"), (.object "java/util/Properties"), (.object "java/lang/String"), (.object "java/lang/ModuleLayer")]
  resolved := Array.replicate 834 none
  statics := none }

def pool15 : Array CpInfo := pool [(2, .class_ 4), (1, u "java/lang/Object"), (0, u "<init>"), (0, u "()V"), (7, .class_ 16), (1, u "java/util/Arrays"), (57, .class_ 76), (1, u "java/util/Arrays$NaturalOrder"), (32, u "()Ljava/lang/Object;"), (3, .class_ 115), (1, u "java/util/Arrays$LegacyMergeSort"), (1, u "Z"), (10, .nameAndType 129 109), (0, u "clone"), (9, u "copyOfRange"), (10, .methodref 151 152), (0, .class_ 153), (0, .nameAndType 154 155), (0, u "java/lang/System"), (0, u "arraycopy"), (0, u "(Ljava/lang/Object;ILjava/lang/Object;II)V"), (146, u "copyOf"), (1, .methodref 305 306), (0, .class_ 307), (0, .nameAndType 308 309), (0, u "java/lang/Math"), (0, u "min"), (0, u "(II)I"), (0, .methodref 311 128), (0, .class_ 312), (0, u "[B"), (26, .methodref 14 340), (0, .nameAndType 341 342), (0, u "copyOfRangeByte"), (0, u "([BII)[B"), (0, .methodref 14 344), (0, .nameAndType 345 346), (0, u "checkLength"), (0, u "(II)V"), (28, .class_ 376), (0, u "java/util/Arrays$ArrayList"), (68, u "$assertionsDisabled"), (269, u "MIN_ARRAY_SORT_GRAN"), (0, u "I"), (2, u "INSERTIONSORT_THRESHOLD"), (149, u "([BI)[B"), (105, .class_ 976), (0, u "java/util/Arrays$ArrayItr")] 52

def k15m0 : Method := { name := "<init>", desc := "()V", sig := { parameters := [], returnType := none }, accessFlags := 2, code := none }
def k15c1 : Code := { maxStack := 6, maxLocals := 3, code := jdk_65_method_121_code, exceptionTable := #[], attributes := #[] }
def k15m1 : Method := { name := "copyOf", desc := "([BI)[B", sig := { parameters := [(.array .byte), .int], returnType := some (.array .byte) }, accessFlags := 9, code := some k15c1 }
def k15c2 : Code := { maxStack := 4, maxLocals := 2, code := jdk_65_method_131_code, exceptionTable := #[], attributes := #[] }
def k15m2 : Method := { name := "checkLength", desc := "(II)V", sig := { parameters := [.int, .int], returnType := none }, accessFlags := 10, code := some k15c2 }
def k15c3 : Code := { maxStack := 3, maxLocals := 3, code := jdk_65_method_132_code, exceptionTable := #[], attributes := #[] }
def k15m3 : Method := { name := "copyOfRange", desc := "([BII)[B", sig := { parameters := [(.array .byte), .int, .int], returnType := some (.array .byte) }, accessFlags := 9, code := some k15c3 }
def k15c4 : Code := { maxStack := 6, maxLocals := 5, code := jdk_65_method_133_code, exceptionTable := #[], attributes := #[] }
def k15m4 : Method := { name := "copyOfRangeByte", desc := "([BII)[B", sig := { parameters := [(.array .byte), .int, .int], returnType := some (.array .byte) }, accessFlags := 10, code := some k15c4 }
/-- java/util/Arrays -/
def k15 : Class := { plain "java/util/Arrays" (some 0) with
  accessFlags := 49
  interfaces := #[]
  cf := some (fileOf pool15 14 #[.nestMembers #[975, 375, 113, 74]] #[{ accessFlags := 2, nameIndex := 5, descriptorIndex := 6, attributes := #[] }, { accessFlags := 9, nameIndex := 302, descriptorIndex := 869, attributes := #[] }, { accessFlags := 10, nameIndex := 345, descriptorIndex := 346, attributes := #[] }, { accessFlags := 9, nameIndex := 139, descriptorIndex := 342, attributes := #[] }, { accessFlags := 10, nameIndex := 341, descriptorIndex := 342, attributes := #[] }] 49 2 #[] #[{ accessFlags := 26, nameIndex := 715, descriptorIndex := 716, attributes := #[] }, { accessFlags := 26, nameIndex := 719, descriptorIndex := 716, attributes := #[] }, { accessFlags := 4120, nameIndex := 445, descriptorIndex := 117, attributes := #[] }])
  fields := #[{ name := "MIN_ARRAY_SORT_GRAN", type := .int, accessFlags := 26, slot := 0, constantValue := 0 }, { name := "INSERTIONSORT_THRESHOLD", type := .int, accessFlags := 26, slot := 1, constantValue := 0 }, { name := "$assertionsDisabled", type := .boolean, accessFlags := 4120, slot := 2, constantValue := 0 }]
  methods := #[k15m0, k15m1, k15m2, k15m3, k15m4]
  instanceTypes := #[]
  staticTypes := #[.int, .int, .boolean]
  resolved := Array.replicate 1029 none
  statics := none }

def pool16 : Array CpInfo := pool [(1, .class_ 2), (0, u "java/lang/Math"), (1, .class_ 6), (1, u "java/lang/Object"), (0, u "<init>"), (0, u "()V"), (89, .class_ 100), (1, u "java/lang/Math$RandomNumberGeneratorHolder"), (71, u "negativeZeroFloatBits"), (0, u "J"), (2, u "negativeZeroDoubleBits"), (21, u "max"), (2, u "min"), (43, u "$assertionsDisabled"), (0, u "Z"), (88, u "(II)I"), (2, u "twoToTheDoubleScaleDown"), (0, u "D"), (4, u "twoToTheDoubleScaleUp"), (9, u "E"), (3, u "PI"), (2, u "TAU"), (2, u "DEGREES_TO_RADIANS"), (0, u "RADIANS_TO_DEGREES")] 94

def k16m0 : Method := { name := "<init>", desc := "()V", sig := { parameters := [], returnType := none }, accessFlags := 2, code := none }
def k16c1 : Code := { maxStack := 2, maxLocals := 2, code := jdk_29_method_65_code, exceptionTable := #[], attributes := #[] }
def k16m1 : Method := { name := "max", desc := "(II)I", sig := { parameters := [.int, .int], returnType := some .int }, accessFlags := 9, code := some k16c1 }
def k16c2 : Code := { maxStack := 2, maxLocals := 2, code := jdk_29_method_69_code, exceptionTable := #[], attributes := #[] }
def k16m2 : Method := { name := "min", desc := "(II)I", sig := { parameters := [.int, .int], returnType := some .int }, accessFlags := 9, code := some k16c2 }
/-- java/lang/Math -/
def k16 : Class := { plain "java/lang/Math" (some 0) with
  accessFlags := 49
  interfaces := #[]
  cf := some (fileOf pool16 1 #[.nestMembers #[98]] #[{ accessFlags := 2, nameIndex := 7, descriptorIndex := 8, attributes := #[] }, { accessFlags := 9, nameIndex := 198, descriptorIndex := 335, attributes := #[] }, { accessFlags := 9, nameIndex := 201, descriptorIndex := 335, attributes := #[] }] 49 4 #[] #[{ accessFlags := 25, nameIndex := 354, descriptorIndex := 339, attributes := #[] }, { accessFlags := 25, nameIndex := 358, descriptorIndex := 339, attributes := #[] }, { accessFlags := 25, nameIndex := 361, descriptorIndex := 339, attributes := #[] }, { accessFlags := 26, nameIndex := 364, descriptorIndex := 339, attributes := #[] }, { accessFlags := 26, nameIndex := 365, descriptorIndex := 339, attributes := #[] }, { accessFlags := 26, nameIndex := 172, descriptorIndex := 173, attributes := #[] }, { accessFlags := 26, nameIndex := 176, descriptorIndex := 173, attributes := #[] }, { accessFlags := 8, nameIndex := 344, descriptorIndex := 339, attributes := #[] }, { accessFlags := 8, nameIndex := 338, descriptorIndex := 339, attributes := #[] }, { accessFlags := 4120, nameIndex := 245, descriptorIndex := 246, attributes := #[] }])
  fields := #[{ name := "E", type := .double, accessFlags := 25, slot := 0, constantValue := 0 }, { name := "PI", type := .double, accessFlags := 25, slot := 1, constantValue := 0 }, { name := "TAU", type := .double, accessFlags := 25, slot := 2, constantValue := 0 }, { name := "DEGREES_TO_RADIANS", type := .double, accessFlags := 26, slot := 3, constantValue := 0 }, { name := "RADIANS_TO_DEGREES", type := .double, accessFlags := 26, slot := 4, constantValue := 0 }, { name := "negativeZeroFloatBits", type := .long, accessFlags := 26, slot := 5, constantValue := 0 }, { name := "negativeZeroDoubleBits", type := .long, accessFlags := 26, slot := 6, constantValue := 0 }, { name := "twoToTheDoubleScaleUp", type := .double, accessFlags := 8, slot := 7, constantValue := 0 }, { name := "twoToTheDoubleScaleDown", type := .double, accessFlags := 8, slot := 8, constantValue := 0 }, { name := "$assertionsDisabled", type := .boolean, accessFlags := 4120, slot := 9, constantValue := 0 }]
  methods := #[k16m0, k16m1, k16m2]
  instanceTypes := #[]
  staticTypes := #[.double, .double, .double, .double, .double, .long, .long, .double, .double, .boolean]
  resolved := Array.replicate 460 none
  statics := none }

def pool17 : Array CpInfo := pool [(1, .class_ 2), (0, u "java/lang/String"), (1, .class_ 6), (1, u "java/lang/Object"), (0, u "<init>"), (0, u "()V"), (0, .methodref 1 10), (0, .nameAndType 11 12), (0, u "checkIndex"), (0, u "(II)V"), (1, .class_ 16), (1, u "java/lang/StringLatin1"), (36, u "([BI)C"), (67, u "$assertionsDisabled"), (0, u "Z"), (98, .class_ 223), (1, u "java/lang/StringLatin1$LinesSpliterator"), (28, u "charAt"), (137, .class_ 391), (0, u "java/lang/StringLatin1$CharsSpliterator")] 3

def k17m0 : Method := { name := "<init>", desc := "()V", sig := { parameters := [], returnType := none }, accessFlags := 0, code := none }
def k17c1 : Code := { maxStack := 2, maxLocals := 2, code := jdk_43_method_2_code, exceptionTable := #[], attributes := #[] }
def k17m1 : Method := { name := "charAt", desc := "([BI)C", sig := { parameters := [(.array .byte), .int], returnType := some .char }, accessFlags := 9, code := some k17c1 }
/-- java/lang/StringLatin1 -/
def k17 : Class := { plain "java/lang/StringLatin1" (some 0) with
  accessFlags := 48
  interfaces := #[]
  cf := some (fileOf pool17 14 #[.nestMembers #[390, 221]] #[{ accessFlags := 0, nameIndex := 7, descriptorIndex := 8, attributes := #[] }, { accessFlags := 9, nameIndex := 252, descriptorIndex := 53, attributes := #[] }] 48 4 #[] #[{ accessFlags := 4120, nameIndex := 121, descriptorIndex := 122, attributes := #[] }])
  fields := #[{ name := "$assertionsDisabled", type := .boolean, accessFlags := 4120, slot := 0, constantValue := 0 }]
  methods := #[k17m0, k17m1]
  instanceTypes := #[]
  staticTypes := #[.boolean]
  resolved := Array.replicate 395 none
  statics := none }

def pool18 : Array CpInfo := pool [(2, .class_ 4), (1, u "java/lang/Object"), (0, u "<init>"), (0, u "()V"), (17, .class_ 26), (1, u "jdk/internal/util/Preconditions"), (6, u "checkIndex"), (21, .class_ 56), (0, u "jdk/internal/util/Preconditions$4"), (57, .class_ 115), (0, u "jdk/internal/util/Preconditions$1"), (7, u "SIOOBE_FORMATTER"), (0, u "Ljava/util/function/BiFunction;"), (0, .class_ 126), (0, u "jdk/internal/util/Preconditions$2"), (3, u "AIOOBE_FORMATTER"), (0, .class_ 132), (0, u "jdk/internal/util/Preconditions$3"), (3, u "IOOBE_FORMATTER"), (41, u "(IILjava/util/function/BiFunction;)I")] 15

def k18m0 : Method := { name := "<init>", desc := "()V", sig := { parameters := [], returnType := none }, accessFlags := 1, code := none }
def k18c1 : Code := { maxStack := 3, maxLocals := 3, code := jdk_41_method_11_code, exceptionTable := #[], attributes := #[] }
def k18m1 : Method := { name := "checkIndex", desc := "(IILjava/util/function/BiFunction;)I", sig := { parameters := [.int, .int, (.object "java/util/function/BiFunction")], returnType := some .int }, accessFlags := 9, code := some k18c1 }
/-- jdk/internal/util/Preconditions -/
def k18 : Class := { plain "jdk/internal/util/Preconditions" (some 0) with
  accessFlags := 33
  interfaces := #[]
  cf := some (fileOf pool18 24 #[.nestMembers #[55, 131, 125, 114]] #[{ accessFlags := 1, nameIndex := 5, descriptorIndex := 6, attributes := #[] }, { accessFlags := 9, nameIndex := 33, descriptorIndex := 178, attributes := #[] }] 33 2 #[] #[{ accessFlags := 25, nameIndex := 123, descriptorIndex := 124, attributes := #[] }, { accessFlags := 25, nameIndex := 130, descriptorIndex := 124, attributes := #[] }, { accessFlags := 25, nameIndex := 136, descriptorIndex := 124, attributes := #[] }])
  fields := #[{ name := "SIOOBE_FORMATTER", type := (.object "java/util/function/BiFunction"), accessFlags := 25, slot := 0, constantValue := 0 }, { name := "AIOOBE_FORMATTER", type := (.object "java/util/function/BiFunction"), accessFlags := 25, slot := 1, constantValue := 0 }, { name := "IOOBE_FORMATTER", type := (.object "java/util/function/BiFunction"), accessFlags := 25, slot := 2, constantValue := 0 }]
  methods := #[k18m0, k18m1]
  instanceTypes := #[]
  staticTypes := #[(.object "java/util/function/BiFunction"), (.object "java/util/function/BiFunction"), (.object "java/util/function/BiFunction")]
  resolved := Array.replicate 194 none
  statics := some 2 }

def pool19 : Array CpInfo := pool [(9, u "<init>"), (6, .class_ 18), (1, u "java/lang/Object"), (0, u "()V"), (1, .class_ 23), (1, u "jdk/internal/util/ArraysSupport"), (0, u "LOG2_ARRAY_LONG_INDEX_SCALE"), (0, u "I"), (2, u "U"), (0, u "Ljdk/internal/misc/Unsafe;"), (8, u "BIG_ENDIAN"), (0, u "Z"), (8, u "LOG2_BYTE_BIT_SIZE"), (4, u "LOG2_ARRAY_INT_INDEX_SCALE"), (54, u "JLA"), (0, u "Ljdk/internal/access/JavaLangAccess;"), (11, u "LOG2_ARRAY_BOOLEAN_INDEX_SCALE"), (9, u "LOG2_ARRAY_BYTE_INDEX_SCALE"), (5, u "LOG2_ARRAY_CHAR_INDEX_SCALE"), (5, u "LOG2_ARRAY_SHORT_INDEX_SCALE"), (18, u "LOG2_ARRAY_FLOAT_INDEX_SCALE"), (24, u "LOG2_ARRAY_DOUBLE_INDEX_SCALE"), (6, .methodref 195 196), (0, .class_ 197), (0, .nameAndType 198 199), (0, u "java/lang/Math"), (0, u "max"), (0, u "(II)I"), (0, .integer 2147483639), (76, u "T_BOOLEAN"), (2, u "T_CHAR"), (1, u "T_FLOAT"), (1, u "T_DOUBLE"), (1, u "T_BYTE"), (1, u "T_SHORT"), (1, u "T_INT"), (1, u "T_LONG"), (1, u "SOFT_MAX_ARRAY_LENGTH"), (56, u "newLength"), (0, u "(III)I")] 25

def k19m0 : Method := { name := "<init>", desc := "()V", sig := { parameters := [], returnType := none }, accessFlags := 2, code := none }
def k19c1 : Code := { maxStack := 3, maxLocals := 4, code := jdk_48_method_27_code, exceptionTable := #[], attributes := #[] }
def k19m1 : Method := { name := "newLength", desc := "(III)I", sig := { parameters := [.int, .int, .int], returnType := some .int }, accessFlags := 9, code := some k19c1 }
/-- jdk/internal/util/ArraysSupport -/
def k19 : Class := { plain "jdk/internal/util/ArraysSupport" (some 0) with
  accessFlags := 33
  interfaces := #[]
  cf := some (fileOf pool19 21 #[] #[{ accessFlags := 2, nameIndex := 9, descriptorIndex := 19, attributes := #[] }, { accessFlags := 9, nameIndex := 351, descriptorIndex := 352, attributes := #[] }] 33 16 #[] #[{ accessFlags := 24, nameIndex := 28, descriptorIndex := 29, attributes := #[] }, { accessFlags := 26, nameIndex := 38, descriptorIndex := 39, attributes := #[] }, { accessFlags := 25, nameIndex := 121, descriptorIndex := 25, attributes := #[] }, { accessFlags := 25, nameIndex := 131, descriptorIndex := 25, attributes := #[] }, { accessFlags := 25, nameIndex := 137, descriptorIndex := 25, attributes := #[] }, { accessFlags := 25, nameIndex := 143, descriptorIndex := 25, attributes := #[] }, { accessFlags := 25, nameIndex := 53, descriptorIndex := 25, attributes := #[] }, { accessFlags := 25, nameIndex := 24, descriptorIndex := 25, attributes := #[] }, { accessFlags := 25, nameIndex := 162, descriptorIndex := 25, attributes := #[] }, { accessFlags := 25, nameIndex := 187, descriptorIndex := 25, attributes := #[] }, { accessFlags := 26, nameIndex := 48, descriptorIndex := 25, attributes := #[] }, { accessFlags := 25, nameIndex := 277, descriptorIndex := 25, attributes := #[] }, { accessFlags := 25, nameIndex := 280, descriptorIndex := 25, attributes := #[] }, { accessFlags := 25, nameIndex := 282, descriptorIndex := 25, attributes := #[] }, { accessFlags := 25, nameIndex := 284, descriptorIndex := 25, attributes := #[] }, { accessFlags := 25, nameIndex := 286, descriptorIndex := 25, attributes := #[] }, { accessFlags := 25, nameIndex := 288, descriptorIndex := 25, attributes := #[] }, { accessFlags := 25, nameIndex := 290, descriptorIndex := 25, attributes := #[] }, { accessFlags := 25, nameIndex := 292, descriptorIndex := 25, attributes := #[] }, { accessFlags := 26, nameIndex := 108, descriptorIndex := 109, attributes := #[] }, { accessFlags := 25, nameIndex := 294, descriptorIndex := 25, attributes := #[] }])
  fields := #[{ name := "U", type := (.object "jdk/internal/misc/Unsafe"), accessFlags := 24, slot := 0, constantValue := 0 }, { name := "BIG_ENDIAN", type := .boolean, accessFlags := 26, slot := 1, constantValue := 0 }, { name := "LOG2_ARRAY_BOOLEAN_INDEX_SCALE", type := .int, accessFlags := 25, slot := 2, constantValue := 0 }, { name := "LOG2_ARRAY_BYTE_INDEX_SCALE", type := .int, accessFlags := 25, slot := 3, constantValue := 0 }, { name := "LOG2_ARRAY_CHAR_INDEX_SCALE", type := .int, accessFlags := 25, slot := 4, constantValue := 0 }, { name := "LOG2_ARRAY_SHORT_INDEX_SCALE", type := .int, accessFlags := 25, slot := 5, constantValue := 0 }, { name := "LOG2_ARRAY_INT_INDEX_SCALE", type := .int, accessFlags := 25, slot := 6, constantValue := 0 }, { name := "LOG2_ARRAY_LONG_INDEX_SCALE", type := .int, accessFlags := 25, slot := 7, constantValue := 0 }, { name := "LOG2_ARRAY_FLOAT_INDEX_SCALE", type := .int, accessFlags := 25, slot := 8, constantValue := 0 }, { name := "LOG2_ARRAY_DOUBLE_INDEX_SCALE", type := .int, accessFlags := 25, slot := 9, constantValue := 0 }, { name := "LOG2_BYTE_BIT_SIZE", type := .int, accessFlags := 26, slot := 10, constantValue := 0 }, { name := "T_BOOLEAN", type := .int, accessFlags := 25, slot := 11, constantValue := 0 }, { name := "T_CHAR", type := .int, accessFlags := 25, slot := 12, constantValue := 0 }, { name := "T_FLOAT", type := .int, accessFlags := 25, slot := 13, constantValue := 0 }, { name := "T_DOUBLE", type := .int, accessFlags := 25, slot := 14, constantValue := 0 }, { name := "T_BYTE", type := .int, accessFlags := 25, slot := 15, constantValue := 0 }, { name := "T_SHORT", type := .int, accessFlags := 25, slot := 16, constantValue := 0 }, { name := "T_INT", type := .int, accessFlags := 25, slot := 17, constantValue := 0 }, { name := "T_LONG", type := .int, accessFlags := 25, slot := 18, constantValue := 0 }, { name := "JLA", type := (.object "jdk/internal/access/JavaLangAccess"), accessFlags := 26, slot := 19, constantValue := 0 }, { name := "SOFT_MAX_ARRAY_LENGTH", type := .int, accessFlags := 25, slot := 20, constantValue := 0 }]
  methods := #[k19m0, k19m1]
  instanceTypes := #[]
  staticTypes := #[(.object "jdk/internal/misc/Unsafe"), .boolean, .int, .int, .int, .int, .int, .int, .int, .int, .int, .int, .int, .int, .int, .int, .int, .int, .int, (.object "jdk/internal/access/JavaLangAccess"), .int]
  resolved := Array.replicate 378 none
  statics := none }

def pool20 : Array CpInfo := pool [(1, .class_ 2), (0, u "java/lang/Cloneable"), (0, .class_ 4), (0, u "java/lang/Object")] 2

/-- java/lang/Cloneable -/
def k20 : Class := { plain "java/lang/Cloneable" (some 0) with
  accessFlags := 1537
  interfaces := #[]
  cf := some (fileOf pool20 1 #[] #[] 1537 3 #[] #[])
  fields := #[]
  methods := #[]
  instanceTypes := #[]
  staticTypes := #[]
  resolved := Array.replicate 7 none
  statics := none }

/-- the primitive byte -/
def k21 : Class := { plain "byte" none with kind := .primitive 'B', accessFlags := 0x411 }
/-- [B -/
def k22 : Class := { plain "[B" (some 0) with kind := .array 21 .byte, interfaces := #[20, 6], accessFlags := 1041 }

/-- the primitive int -/
def k23 : Class := { plain "int" none with kind := .primitive 'I', accessFlags := 0x411 }
/-- [I -/
def k24 : Class := { plain "[I" (some 0) with kind := .array 23 .int, interfaces := #[20, 6], accessFlags := 1041 }

def heap : Heap := #[{ cls := 11, slots := #[.long 0, .int 1, .null, .int 0, .null, .int 0, .int 0], vm := .statics 11 },
  { cls := 13, slots := #[.int 0, .int 0, .null, .null, .ref 4, .ref 3, .int 0, .int 0, .long 0], vm := .statics 13 },
  { cls := 18, slots := #[.null, .null, .null], vm := .statics 18 },
  { cls := 22, slots := #[.int 48, .int 49, .int 50, .int 51, .int 52, .int 53, .int 54, .int 55, .int 56, .int 57, .int 48, .int 49, .int 50, .int 51, .int 52, .int 53, .int 54, .int 55, .int 56, .int 57, .int 48, .int 49, .int 50, .int 51, .int 52, .int 53, .int 54, .int 55, .int 56, .int 57, .int 48, .int 49, .int 50, .int 51, .int 52, .int 53, .int 54, .int 55, .int 56, .int 57, .int 48, .int 49, .int 50, .int 51, .int 52, .int 53, .int 54, .int 55, .int 56, .int 57, .int 48, .int 49, .int 50, .int 51, .int 52, .int 53, .int 54, .int 55, .int 56, .int 57, .int 48, .int 49, .int 50, .int 51, .int 52, .int 53, .int 54, .int 55, .int 56, .int 57, .int 48, .int 49, .int 50, .int 51, .int 52, .int 53, .int 54, .int 55, .int 56, .int 57, .int 48, .int 49, .int 50, .int 51, .int 52, .int 53, .int 54, .int 55, .int 56, .int 57, .int 48, .int 49, .int 50, .int 51, .int 52, .int 53, .int 54, .int 55, .int 56, .int 57], vm := .none },
  { cls := 22, slots := #[.int 48, .int 48, .int 48, .int 48, .int 48, .int 48, .int 48, .int 48, .int 48, .int 48, .int 49, .int 49, .int 49, .int 49, .int 49, .int 49, .int 49, .int 49, .int 49, .int 49, .int 50, .int 50, .int 50, .int 50, .int 50, .int 50, .int 50, .int 50, .int 50, .int 50, .int 51, .int 51, .int 51, .int 51, .int 51, .int 51, .int 51, .int 51, .int 51, .int 51, .int 52, .int 52, .int 52, .int 52, .int 52, .int 52, .int 52, .int 52, .int 52, .int 52, .int 53, .int 53, .int 53, .int 53, .int 53, .int 53, .int 53, .int 53, .int 53, .int 53, .int 54, .int 54, .int 54, .int 54, .int 54, .int 54, .int 54, .int 54, .int 54, .int 54, .int 55, .int 55, .int 55, .int 55, .int 55, .int 55, .int 55, .int 55, .int 55, .int 55, .int 56, .int 56, .int 56, .int 56, .int 56, .int 56, .int 56, .int 56, .int 56, .int 56, .int 57, .int 57, .int 57, .int 57, .int 57, .int 57, .int 57, .int 57, .int 57, .int 57], vm := .none }]
def classes : Array Class := #[k0, k1, k2, k3, k4, k5, k6, k7, k8, k9, k10, k11, k12, k13, k14, k15, k16, k17, k18, k19, k20, k21, k22, k23, k24]
def interned : List (Array UInt16 × Addr) := []
def slotsUsed : Nat := 219
def theMethod : MethodId := ⟨1, 4⟩
def args0 : Array Value := #[.int 12, .int 345, .int 6]
def aboutOver (below : List Frame) : State where
  vm := { classes := classes, interned := interned.toArray }
  heap := heap
  slotsUsed := slotsUsed
  threads := #[{ frames := .invoking theMethod args0 :: below }]
def below0 : List Frame := [.native { method := ⟨0, 0⟩, args := #[] }]
def about1 : State := aboutOver below0
def p0 : Program := .bare "" "" ""
def e0 : Env := launch0.env 0 0 0
theorem w_frames : about1.frames = Frame.invoking theMethod args0 :: below0 := rfl
set_option maxRecDepth 65536 in
theorem w_args : argsFit about1.vm theMethod args0 = true := by decide +kernel
set_option maxRecDepth 65536 in
theorem w_heap : heapFits about1 = true := by decide +kernel
set_option maxRecDepth 65536 in
theorem w_runnable : about1.curStatus? = some .runnable := by decide +kernel
set_option maxRecDepth 65536 in
theorem w_alone : about1.alone = true := by decide +kernel
set_option maxRecDepth 65536 in
theorem w_named : about1.methodNamed? x = some theMethod := by decide +kernel
set_option maxRecDepth 65536 in
theorem w_hears : about1.hears theMethod below0 = true := by decide +kernel
set_option maxRecDepth 65536 in
theorem w_ripe : about1.ripe theMethod args0 below0 = true := by decide +kernel
theorem w_running : about1.status = .running := rfl
set_option maxRecDepth 65536 in
theorem w_room : about1.hasRoom e0.platform room_1 = true :=
  launch0.hasRoom_least _ room_1 (by decide +kernel) (by decide +kernel) (by decide +kernel) (by decide +kernel) (by decide +kernel) (by decide +kernel)
theorem allAtoms_all (ts : List Jvm.Cond) (a : Array Jvm.Value) (st : Jvm.State) : (allAtoms ts).before a st = ts.all (fun c => c.before a st) := by
  induction ts with
  | nil => rfl
  | cons c t ih =>
    show (Jvm.Cond.and c (allAtoms t)).before a st = _
    rw [Jvm.Cond.before_and, ih, List.all_cons]
def words1 : List Jvm.Cond := Jvm.Cond.code x code maxLocals ret :: tables_1
/-- a 'code' word, met by the world's own term for the bytes: nothing is compared byte by byte -/
theorem code_word {y : MethodName} {bytes : ByteArray} {mx : Nat} {rt : Option FieldType} {a : Array Value} {s : State} {m : MethodId} {meth : Method} {c : Code} (h1 : s.methodNamed? y = some m) (h2 : s.vm.method? m = some meth) (h3 : meth.code = some c) (h4 : c.code = bytes)
    (h5 : (c.maxLocals == mx && c.exceptionTable.isEmpty && decide (c.maxStack ≤ mostOperands) && decide (meth.sig.returnType = rt) && !meth.locks && decide (parseMethodDescriptor y.desc = some meth.sig)) = true) : (Jvm.Cond.code y bytes mx rt).before a s = true := by
  simp only [Bool.and_eq_true, beq_iff_eq, Bool.not_eq_true', decide_eq_true_eq] at h5
  obtain ⟨⟨⟨⟨⟨g1, g2⟩, g3⟩, g4⟩, g5⟩, g6⟩ := h5
  simp [Cond.before, Cond.holds, Cond.value, h1, h2, h3, h4, g1, g2, g3, g4, g5, g6]
def isCode : Jvm.Cond → Bool
  | .code _ _ _ _ => true
  | _ => false
theorem all_split {L : List Jvm.Cond} {P : Jvm.Cond → Bool} (h1 : L.all (fun c => isCode c || P c) = true) (h2 : ∀ c ∈ L.filter isCode, P c = true) : L.all P = true := by
  refine List.all_eq_true.mpr fun c hc => ?_
  have h := List.all_eq_true.mp h1 c hc
  rcases Bool.eq_false_or_eq_true (isCode c) with hi | hi
  · exact h2 c (List.mem_filter.mpr ⟨hc, hi⟩)
  · simpa [hi] using h
set_option maxRecDepth 65536 in
theorem w_c0 : (Jvm.Cond.code x code maxLocals ret).before args0 about1 = true := code_word (m := ⟨1, 4⟩) (meth := k1m4) (c := k1c4) (by decide +kernel) rfl rfl rfl (by decide +kernel)
set_option maxRecDepth 65536 in
theorem w_c1 : (Jvm.Cond.code ({ cls := "com/example/tenderd/tenderd/core/ProtocolVersion", name := "<init>", desc := "(III)V" } : Jvm.MethodName) prog_22_method_1_code (4 : Nat) (Option.none : Option Jvm.ClassFile.FieldType)).before args0 about1 = true := code_word (m := ⟨2, 0⟩) (meth := k2m0) (c := k2c0) (by decide +kernel) rfl rfl rfl (by decide +kernel)
set_option maxRecDepth 65536 in
theorem w_c2 : (Jvm.Cond.code ({ cls := "java/lang/Object", name := "<init>", desc := "()V" } : Jvm.MethodName) object_method_1_code (1 : Nat) (Option.none : Option Jvm.ClassFile.FieldType)).before args0 about1 = true := code_word (m := ⟨0, 0⟩) (meth := k0m0) (c := k0c0) (by decide +kernel) rfl rfl rfl (by decide +kernel)
set_option maxRecDepth 65536 in
theorem w_c3 : (Jvm.Cond.code ({ cls := "com/example/tenderd/tenderd/core/ProtocolVersion", name := "toString", desc := "()Ljava/lang/String;" } : Jvm.MethodName) prog_22_method_5_code (1 : Nat) (Option.some (Jvm.ClassFile.FieldType.object "java/lang/String"))).before args0 about1 = true := code_word (m := ⟨2, 1⟩) (meth := k2m1) (c := k2c1) (by decide +kernel) rfl rfl rfl (by decide +kernel)
set_option maxRecDepth 65536 in
theorem w_c4 : (Jvm.Cond.code ({ cls := "java/lang/StringBuilder", name := "<init>", desc := "()V" } : Jvm.MethodName) jdk_67_method_1_code (1 : Nat) (Option.none : Option Jvm.ClassFile.FieldType)).before args0 about1 = true := code_word (m := ⟨8, 0⟩) (meth := k8m0) (c := k8c0) (by decide +kernel) rfl rfl rfl (by decide +kernel)
set_option maxRecDepth 65536 in
theorem w_c5 : (Jvm.Cond.code ({ cls := "java/lang/AbstractStringBuilder", name := "<init>", desc := "(I)V" } : Jvm.MethodName) jdk_68_method_2_code (2 : Nat) (Option.none : Option Jvm.ClassFile.FieldType)).before args0 about1 = true := code_word (m := ⟨5, 1⟩) (meth := k5m1) (c := k5c1) (by decide +kernel) rfl rfl rfl (by decide +kernel)
set_option maxRecDepth 65536 in
theorem w_c6 : (Jvm.Cond.code ({ cls := "java/lang/StringBuilder", name := "append", desc := "(I)Ljava/lang/StringBuilder;" } : Jvm.MethodName) jdk_67_method_15_code (2 : Nat) (Option.some (Jvm.ClassFile.FieldType.object "java/lang/StringBuilder"))).before args0 about1 = true := code_word (m := ⟨8, 2⟩) (meth := k8m2) (c := k8c2) (by decide +kernel) rfl rfl rfl (by decide +kernel)
set_option maxRecDepth 65536 in
theorem w_c7 : (Jvm.Cond.code ({ cls := "java/lang/AbstractStringBuilder", name := "append", desc := "(I)Ljava/lang/AbstractStringBuilder;" } : Jvm.MethodName) jdk_68_method_32_code (4 : Nat) (Option.some (Jvm.ClassFile.FieldType.object "java/lang/AbstractStringBuilder"))).before args0 about1 = true := code_word (m := ⟨5, 6⟩) (meth := k5m6) (c := k5c6) (by decide +kernel) rfl rfl rfl (by decide +kernel)
set_option maxRecDepth 65536 in
theorem w_c8 : (Jvm.Cond.code ({ cls := "java/lang/Integer", name := "stringSize", desc := "(I)I" } : Jvm.MethodName) jdk_33_method_13_code (4 : Nat) (Option.some Jvm.ClassFile.FieldType.int)).before args0 about1 = true := code_word (m := ⟨13, 1⟩) (meth := k13m1) (c := k13c1) (by decide +kernel) rfl rfl rfl (by decide +kernel)
set_option maxRecDepth 65536 in
theorem w_c9 : (Jvm.Cond.code ({ cls := "java/lang/AbstractStringBuilder", name := "ensureCapacityInternal", desc := "(I)V" } : Jvm.MethodName) jdk_68_method_9_code (3 : Nat) (Option.none : Option Jvm.ClassFile.FieldType)).before args0 about1 = true := code_word (m := ⟨5, 3⟩) (meth := k5m3) (c := k5c3) (by decide +kernel) rfl rfl rfl (by decide +kernel)
set_option maxRecDepth 65536 in
theorem w_c10 : (Jvm.Cond.code ({ cls := "java/lang/AbstractStringBuilder", name := "isLatin1", desc := "()Z" } : Jvm.MethodName) jdk_68_method_68_code (1 : Nat) (Option.some Jvm.ClassFile.FieldType.boolean)).before args0 about1 = true := code_word (m := ⟨5, 8⟩) (meth := k5m8) (c := k5c8) (by decide +kernel) rfl rfl rfl (by decide +kernel)
set_option maxRecDepth 65536 in
theorem w_c11 : (Jvm.Cond.code ({ cls := "java/lang/Integer", name := "getChars", desc := "(II[B)I" } : Jvm.MethodName) jdk_33_method_12_code (7 : Nat) (Option.some Jvm.ClassFile.FieldType.int)).before args0 about1 = true := code_word (m := ⟨13, 0⟩) (meth := k13m0) (c := k13c0) (by decide +kernel) rfl rfl rfl (by decide +kernel)
set_option maxRecDepth 65536 in
theorem w_c12 : (Jvm.Cond.code ({ cls := "java/lang/StringBuilder", name := "append", desc := "(Ljava/lang/String;)Ljava/lang/StringBuilder;" } : Jvm.MethodName) jdk_67_method_7_code (2 : Nat) (Option.some (Jvm.ClassFile.FieldType.object "java/lang/StringBuilder"))).before args0 about1 = true := code_word (m := ⟨8, 1⟩) (meth := k8m1) (c := k8c1) (by decide +kernel) rfl rfl rfl (by decide +kernel)
set_option maxRecDepth 65536 in
theorem w_c13 : (Jvm.Cond.code ({ cls := "java/lang/AbstractStringBuilder", name := "append", desc := "(Ljava/lang/String;)Ljava/lang/AbstractStringBuilder;" } : Jvm.MethodName) jdk_68_method_22_code (3 : Nat) (Option.some (Jvm.ClassFile.FieldType.object "java/lang/AbstractStringBuilder"))).before args0 about1 = true := code_word (m := ⟨5, 5⟩) (meth := k5m5) (c := k5c5) (by decide +kernel) rfl rfl rfl (by decide +kernel)
set_option maxRecDepth 65536 in
theorem w_c14 : (Jvm.Cond.code ({ cls := "java/lang/String", name := "length", desc := "()I" } : Jvm.MethodName) jdk_42_method_54_code (1 : Nat) (Option.some Jvm.ClassFile.FieldType.int)).before args0 about1 = true := code_word (m := ⟨11, 2⟩) (meth := k11m2) (c := k11c2) (by decide +kernel) rfl rfl rfl (by decide +kernel)
set_option maxRecDepth 65536 in
theorem w_c15 : (Jvm.Cond.code ({ cls := "java/lang/String", name := "coder", desc := "()B" } : Jvm.MethodName) jdk_42_method_152_code (1 : Nat) (Option.some Jvm.ClassFile.FieldType.byte)).before args0 about1 = true := code_word (m := ⟨11, 6⟩) (meth := k11m6) (c := k11c6) (by decide +kernel) rfl rfl rfl (by decide +kernel)
set_option maxRecDepth 65536 in
theorem w_c16 : (Jvm.Cond.code ({ cls := "java/lang/AbstractStringBuilder", name := "putStringAt", desc := "(ILjava/lang/String;)V" } : Jvm.MethodName) jdk_68_method_73_code (3 : Nat) (Option.none : Option Jvm.ClassFile.FieldType)).before args0 about1 = true := code_word (m := ⟨5, 10⟩) (meth := k5m10) (c := k5c10) (by decide +kernel) rfl rfl rfl (by decide +kernel)
set_option maxRecDepth 65536 in
theorem w_c17 : (Jvm.Cond.code ({ cls := "java/lang/AbstractStringBuilder", name := "inflateIfNeededFor", desc := "(Ljava/lang/String;)V" } : Jvm.MethodName) jdk_68_method_71_code (2 : Nat) (Option.none : Option Jvm.ClassFile.FieldType)).before args0 about1 = true := code_word (m := ⟨5, 9⟩) (meth := k5m9) (c := k5c9) (by decide +kernel) rfl rfl rfl (by decide +kernel)
set_option maxRecDepth 65536 in
theorem w_c18 : (Jvm.Cond.code ({ cls := "java/lang/String", name := "getBytes", desc := "([BIB)V" } : Jvm.MethodName) jdk_42_method_147_code (4 : Nat) (Option.none : Option Jvm.ClassFile.FieldType)).before args0 about1 = true := code_word (m := ⟨11, 4⟩) (meth := k11m4) (c := k11c4) (by decide +kernel) rfl rfl rfl (by decide +kernel)
set_option maxRecDepth 65536 in
theorem w_c19 : (Jvm.Cond.code ({ cls := "java/lang/StringBuilder", name := "toString", desc := "()Ljava/lang/String;" } : Jvm.MethodName) jdk_67_method_42_code (1 : Nat) (Option.some (Jvm.ClassFile.FieldType.object "java/lang/String"))).before args0 about1 = true := code_word (m := ⟨8, 3⟩) (meth := k8m3) (c := k8c3) (by decide +kernel) rfl rfl rfl (by decide +kernel)
set_option maxRecDepth 65536 in
theorem w_c20 : (Jvm.Cond.code ({ cls := "java/lang/String", name := "<init>", desc := "(Ljava/lang/StringBuilder;)V" } : Jvm.MethodName) jdk_42_method_53_code (2 : Nat) (Option.none : Option Jvm.ClassFile.FieldType)).before args0 about1 = true := code_word (m := ⟨11, 1⟩) (meth := k11m1) (c := k11c1) (by decide +kernel) rfl rfl rfl (by decide +kernel)
set_option maxRecDepth 65536 in
theorem w_c21 : (Jvm.Cond.code ({ cls := "java/lang/String", name := "<init>", desc := "(Ljava/lang/AbstractStringBuilder;Ljava/lang/Void;)V" } : Jvm.MethodName) jdk_42_method_150_code (5 : Nat) (Option.none : Option Jvm.ClassFile.FieldType)).before args0 about1 = true := code_word (m := ⟨11, 5⟩) (meth := k11m5) (c := k11c5) (by decide +kernel) rfl rfl rfl (by decide +kernel)
set_option maxRecDepth 65536 in
theorem w_c22 : (Jvm.Cond.code ({ cls := "java/lang/AbstractStringBuilder", name := "getValue", desc := "()[B" } : Jvm.MethodName) jdk_68_method_64_code (1 : Nat) (Option.some (Jvm.ClassFile.FieldType.array Jvm.ClassFile.FieldType.byte))).before args0 about1 = true := code_word (m := ⟨5, 7⟩) (meth := k5m7) (c := k5c7) (by decide +kernel) rfl rfl rfl (by decide +kernel)
set_option maxRecDepth 65536 in
theorem w_c23 : (Jvm.Cond.code ({ cls := "java/lang/StringBuilder", name := "length", desc := "()I" } : Jvm.MethodName) jdk_67_method_93_code (1 : Nat) (Option.some Jvm.ClassFile.FieldType.int)).before args0 about1 = true := code_word (m := ⟨8, 4⟩) (meth := k8m4) (c := k8c4) (by decide +kernel) rfl rfl rfl (by decide +kernel)
set_option maxRecDepth 65536 in
theorem w_c24 : (Jvm.Cond.code ({ cls := "java/lang/AbstractStringBuilder", name := "length", desc := "()I" } : Jvm.MethodName) jdk_68_method_6_code (1 : Nat) (Option.some Jvm.ClassFile.FieldType.int)).before args0 about1 = true := code_word (m := ⟨5, 2⟩) (meth := k5m2) (c := k5c2) (by decide +kernel) rfl rfl rfl (by decide +kernel)
set_option maxRecDepth 65536 in
theorem w_c25 : (Jvm.Cond.code ({ cls := "java/util/Arrays", name := "copyOfRange", desc := "([BII)[B" } : Jvm.MethodName) jdk_65_method_132_code (3 : Nat) (Option.some (Jvm.ClassFile.FieldType.array Jvm.ClassFile.FieldType.byte))).before args0 about1 = true := code_word (m := ⟨15, 3⟩) (meth := k15m3) (c := k15c3) (by decide +kernel) rfl rfl rfl (by decide +kernel)
set_option maxRecDepth 65536 in
theorem w_c26 : (Jvm.Cond.code ({ cls := "java/util/Arrays", name := "copyOfRangeByte", desc := "([BII)[B" } : Jvm.MethodName) jdk_65_method_133_code (5 : Nat) (Option.some (Jvm.ClassFile.FieldType.array Jvm.ClassFile.FieldType.byte))).before args0 about1 = true := code_word (m := ⟨15, 4⟩) (meth := k15m4) (c := k15c4) (by decide +kernel) rfl rfl rfl (by decide +kernel)
set_option maxRecDepth 65536 in
theorem w_c27 : (Jvm.Cond.code ({ cls := "java/util/Arrays", name := "checkLength", desc := "(II)V" } : Jvm.MethodName) jdk_65_method_131_code (2 : Nat) (Option.none : Option Jvm.ClassFile.FieldType)).before args0 about1 = true := code_word (m := ⟨15, 2⟩) (meth := k15m2) (c := k15c2) (by decide +kernel) rfl rfl rfl (by decide +kernel)
set_option maxRecDepth 65536 in
theorem w_c28 : (Jvm.Cond.code ({ cls := "java/lang/Math", name := "min", desc := "(II)I" } : Jvm.MethodName) jdk_29_method_69_code (2 : Nat) (Option.some Jvm.ClassFile.FieldType.int)).before args0 about1 = true := code_word (m := ⟨16, 2⟩) (meth := k16m2) (c := k16c2) (by decide +kernel) rfl rfl rfl (by decide +kernel)
set_option maxRecDepth 65536 in
theorem w_c29 : (Jvm.Cond.code ({ cls := "com/example/tenderd/tenderd/core/ProtocolVersionToStringPinLaw", name := "len", desc := "(I)I" } : Jvm.MethodName) method_2_code (1 : Nat) (Option.some Jvm.ClassFile.FieldType.int)).before args0 about1 = true := code_word (m := ⟨1, 1⟩) (meth := k1m1) (c := k1c1) (by decide +kernel) rfl rfl rfl (by decide +kernel)
set_option maxRecDepth 65536 in
theorem w_c30 : (Jvm.Cond.code ({ cls := "java/lang/String", name := "charAt", desc := "(I)C" } : Jvm.MethodName) jdk_42_method_56_code (2 : Nat) (Option.some Jvm.ClassFile.FieldType.char)).before args0 about1 = true := code_word (m := ⟨11, 3⟩) (meth := k11m3) (c := k11c3) (by decide +kernel) rfl rfl rfl (by decide +kernel)
set_option maxRecDepth 65536 in
theorem w_c31 : (Jvm.Cond.code ({ cls := "java/lang/String", name := "isLatin1", desc := "()Z" } : Jvm.MethodName) jdk_42_method_154_code (1 : Nat) (Option.some Jvm.ClassFile.FieldType.boolean)).before args0 about1 = true := code_word (m := ⟨11, 7⟩) (meth := k11m7) (c := k11c7) (by decide +kernel) rfl rfl rfl (by decide +kernel)
set_option maxRecDepth 65536 in
theorem w_c32 : (Jvm.Cond.code ({ cls := "java/lang/StringLatin1", name := "charAt", desc := "([BI)C" } : Jvm.MethodName) jdk_43_method_2_code (2 : Nat) (Option.some Jvm.ClassFile.FieldType.char)).before args0 about1 = true := code_word (m := ⟨17, 1⟩) (meth := k17m1) (c := k17c1) (by decide +kernel) rfl rfl rfl (by decide +kernel)
set_option maxRecDepth 65536 in
theorem w_c33 : (Jvm.Cond.code ({ cls := "java/lang/String", name := "checkIndex", desc := "(II)V" } : Jvm.MethodName) jdk_42_method_155_code (2 : Nat) (Option.none : Option Jvm.ClassFile.FieldType)).before args0 about1 = true := code_word (m := ⟨11, 8⟩) (meth := k11m8) (c := k11c8) (by decide +kernel) rfl rfl rfl (by decide +kernel)
set_option maxRecDepth 65536 in
theorem w_c34 : (Jvm.Cond.code ({ cls := "jdk/internal/util/Preconditions", name := "checkIndex", desc := "(IILjava/util/function/BiFunction;)I" } : Jvm.MethodName) jdk_41_method_11_code (3 : Nat) (Option.some Jvm.ClassFile.FieldType.int)).before args0 about1 = true := code_word (m := ⟨18, 1⟩) (meth := k18m1) (c := k18c1) (by decide +kernel) rfl rfl rfl (by decide +kernel)
set_option maxRecDepth 65536 in
theorem w_c35 : (Jvm.Cond.code ({ cls := "com/example/tenderd/tenderd/core/ProtocolVersionToStringPinLaw", name := "num", desc := "(Ljava/lang/String;III)Z" } : Jvm.MethodName) method_4_code (4 : Nat) (Option.some Jvm.ClassFile.FieldType.boolean)).before args0 about1 = true := code_word (m := ⟨1, 3⟩) (meth := k1m3) (c := k1c3) (by decide +kernel) rfl rfl rfl (by decide +kernel)
set_option maxRecDepth 65536 in
theorem w_c36 : (Jvm.Cond.code ({ cls := "com/example/tenderd/tenderd/core/ProtocolVersionToStringPinLaw", name := "digitOk", desc := "(Ljava/lang/String;IIII)Z" } : Jvm.MethodName) method_3_code (7 : Nat) (Option.some Jvm.ClassFile.FieldType.boolean)).before args0 about1 = true := code_word (m := ⟨1, 2⟩) (meth := k1m2) (c := k1c2) (by decide +kernel) rfl rfl rfl (by decide +kernel)
set_option maxRecDepth 65536 in
theorem w_c37 : (Jvm.Cond.code ({ cls := "java/lang/AbstractStringBuilder", name := "newCapacity", desc := "(I)I" } : Jvm.MethodName) jdk_68_method_10_code (6 : Nat) (Option.some Jvm.ClassFile.FieldType.int)).before args0 about1 = true := code_word (m := ⟨5, 4⟩) (meth := k5m4) (c := k5c4) (by decide +kernel) rfl rfl rfl (by decide +kernel)
set_option maxRecDepth 65536 in
theorem w_c38 : (Jvm.Cond.code ({ cls := "jdk/internal/util/ArraysSupport", name := "newLength", desc := "(III)I" } : Jvm.MethodName) jdk_48_method_27_code (4 : Nat) (Option.some Jvm.ClassFile.FieldType.int)).before args0 about1 = true := code_word (m := ⟨19, 1⟩) (meth := k19m1) (c := k19c1) (by decide +kernel) rfl rfl rfl (by decide +kernel)
set_option maxRecDepth 65536 in
theorem w_c39 : (Jvm.Cond.code ({ cls := "java/lang/Math", name := "max", desc := "(II)I" } : Jvm.MethodName) jdk_29_method_65_code (2 : Nat) (Option.some Jvm.ClassFile.FieldType.int)).before args0 about1 = true := code_word (m := ⟨16, 1⟩) (meth := k16m1) (c := k16c1) (by decide +kernel) rfl rfl rfl (by decide +kernel)
set_option maxRecDepth 65536 in
theorem w_c40 : (Jvm.Cond.code ({ cls := "java/util/Arrays", name := "copyOf", desc := "([BI)[B" } : Jvm.MethodName) jdk_65_method_121_code (3 : Nat) (Option.some (Jvm.ClassFile.FieldType.array Jvm.ClassFile.FieldType.byte))).before args0 about1 = true := code_word (m := ⟨15, 1⟩) (meth := k15m1) (c := k15c1) (by decide +kernel) rfl rfl rfl (by decide +kernel)
def codes1 : List Jvm.Cond := [Jvm.Cond.code x code maxLocals ret, Jvm.Cond.code ({ cls := "com/example/tenderd/tenderd/core/ProtocolVersion", name := "<init>", desc := "(III)V" } : Jvm.MethodName) prog_22_method_1_code (4 : Nat) (Option.none : Option Jvm.ClassFile.FieldType), Jvm.Cond.code ({ cls := "java/lang/Object", name := "<init>", desc := "()V" } : Jvm.MethodName) object_method_1_code (1 : Nat) (Option.none : Option Jvm.ClassFile.FieldType), Jvm.Cond.code ({ cls := "com/example/tenderd/tenderd/core/ProtocolVersion", name := "toString", desc := "()Ljava/lang/String;" } : Jvm.MethodName) prog_22_method_5_code (1 : Nat) (Option.some (Jvm.ClassFile.FieldType.object "java/lang/String")), Jvm.Cond.code ({ cls := "java/lang/StringBuilder", name := "<init>", desc := "()V" } : Jvm.MethodName) jdk_67_method_1_code (1 : Nat) (Option.none : Option Jvm.ClassFile.FieldType), Jvm.Cond.code ({ cls := "java/lang/AbstractStringBuilder", name := "<init>", desc := "(I)V" } : Jvm.MethodName) jdk_68_method_2_code (2 : Nat) (Option.none : Option Jvm.ClassFile.FieldType), Jvm.Cond.code ({ cls := "java/lang/StringBuilder", name := "append", desc := "(I)Ljava/lang/StringBuilder;" } : Jvm.MethodName) jdk_67_method_15_code (2 : Nat) (Option.some (Jvm.ClassFile.FieldType.object "java/lang/StringBuilder")), Jvm.Cond.code ({ cls := "java/lang/AbstractStringBuilder", name := "append", desc := "(I)Ljava/lang/AbstractStringBuilder;" } : Jvm.MethodName) jdk_68_method_32_code (4 : Nat) (Option.some (Jvm.ClassFile.FieldType.object "java/lang/AbstractStringBuilder")), Jvm.Cond.code ({ cls := "java/lang/Integer", name := "stringSize", desc := "(I)I" } : Jvm.MethodName) jdk_33_method_13_code (4 : Nat) (Option.some Jvm.ClassFile.FieldType.int), Jvm.Cond.code ({ cls := "java/lang/AbstractStringBuilder", name := "ensureCapacityInternal", desc := "(I)V" } : Jvm.MethodName) jdk_68_method_9_code (3 : Nat) (Option.none : Option Jvm.ClassFile.FieldType), Jvm.Cond.code ({ cls := "java/lang/AbstractStringBuilder", name := "isLatin1", desc := "()Z" } : Jvm.MethodName) jdk_68_method_68_code (1 : Nat) (Option.some Jvm.ClassFile.FieldType.boolean), Jvm.Cond.code ({ cls := "java/lang/Integer", name := "getChars", desc := "(II[B)I" } : Jvm.MethodName) jdk_33_method_12_code (7 : Nat) (Option.some Jvm.ClassFile.FieldType.int), Jvm.Cond.code ({ cls := "java/lang/StringBuilder", name := "append", desc := "(Ljava/lang/String;)Ljava/lang/StringBuilder;" } : Jvm.MethodName) jdk_67_method_7_code (2 : Nat) (Option.some (Jvm.ClassFile.FieldType.object "java/lang/StringBuilder")), Jvm.Cond.code ({ cls := "java/lang/AbstractStringBuilder", name := "append", desc := "(Ljava/lang/String;)Ljava/lang/AbstractStringBuilder;" } : Jvm.MethodName) jdk_68_method_22_code (3 : Nat) (Option.some (Jvm.ClassFile.FieldType.object "java/lang/AbstractStringBuilder")), Jvm.Cond.code ({ cls := "java/lang/String", name := "length", desc := "()I" } : Jvm.MethodName) jdk_42_method_54_code (1 : Nat) (Option.some Jvm.ClassFile.FieldType.int), Jvm.Cond.code ({ cls := "java/lang/String", name := "coder", desc := "()B" } : Jvm.MethodName) jdk_42_method_152_code (1 : Nat) (Option.some Jvm.ClassFile.FieldType.byte), Jvm.Cond.code ({ cls := "java/lang/AbstractStringBuilder", name := "putStringAt", desc := "(ILjava/lang/String;)V" } : Jvm.MethodName) jdk_68_method_73_code (3 : Nat) (Option.none : Option Jvm.ClassFile.FieldType), Jvm.Cond.code ({ cls := "java/lang/AbstractStringBuilder", name := "inflateIfNeededFor", desc := "(Ljava/lang/String;)V" } : Jvm.MethodName) jdk_68_method_71_code (2 : Nat) (Option.none : Option Jvm.ClassFile.FieldType), Jvm.Cond.code ({ cls := "java/lang/String", name := "getBytes", desc := "([BIB)V" } : Jvm.MethodName) jdk_42_method_147_code (4 : Nat) (Option.none : Option Jvm.ClassFile.FieldType), Jvm.Cond.code ({ cls := "java/lang/StringBuilder", name := "toString", desc := "()Ljava/lang/String;" } : Jvm.MethodName) jdk_67_method_42_code (1 : Nat) (Option.some (Jvm.ClassFile.FieldType.object "java/lang/String")), Jvm.Cond.code ({ cls := "java/lang/String", name := "<init>", desc := "(Ljava/lang/StringBuilder;)V" } : Jvm.MethodName) jdk_42_method_53_code (2 : Nat) (Option.none : Option Jvm.ClassFile.FieldType), Jvm.Cond.code ({ cls := "java/lang/String", name := "<init>", desc := "(Ljava/lang/AbstractStringBuilder;Ljava/lang/Void;)V" } : Jvm.MethodName) jdk_42_method_150_code (5 : Nat) (Option.none : Option Jvm.ClassFile.FieldType), Jvm.Cond.code ({ cls := "java/lang/AbstractStringBuilder", name := "getValue", desc := "()[B" } : Jvm.MethodName) jdk_68_method_64_code (1 : Nat) (Option.some (Jvm.ClassFile.FieldType.array Jvm.ClassFile.FieldType.byte)), Jvm.Cond.code ({ cls := "java/lang/StringBuilder", name := "length", desc := "()I" } : Jvm.MethodName) jdk_67_method_93_code (1 : Nat) (Option.some Jvm.ClassFile.FieldType.int), Jvm.Cond.code ({ cls := "java/lang/AbstractStringBuilder", name := "length", desc := "()I" } : Jvm.MethodName) jdk_68_method_6_code (1 : Nat) (Option.some Jvm.ClassFile.FieldType.int), Jvm.Cond.code ({ cls := "java/util/Arrays", name := "copyOfRange", desc := "([BII)[B" } : Jvm.MethodName) jdk_65_method_132_code (3 : Nat) (Option.some (Jvm.ClassFile.FieldType.array Jvm.ClassFile.FieldType.byte)), Jvm.Cond.code ({ cls := "java/util/Arrays", name := "copyOfRangeByte", desc := "([BII)[B" } : Jvm.MethodName) jdk_65_method_133_code (5 : Nat) (Option.some (Jvm.ClassFile.FieldType.array Jvm.ClassFile.FieldType.byte)), Jvm.Cond.code ({ cls := "java/util/Arrays", name := "checkLength", desc := "(II)V" } : Jvm.MethodName) jdk_65_method_131_code (2 : Nat) (Option.none : Option Jvm.ClassFile.FieldType), Jvm.Cond.code ({ cls := "java/lang/Math", name := "min", desc := "(II)I" } : Jvm.MethodName) jdk_29_method_69_code (2 : Nat) (Option.some Jvm.ClassFile.FieldType.int), Jvm.Cond.code ({ cls := "com/example/tenderd/tenderd/core/ProtocolVersionToStringPinLaw", name := "len", desc := "(I)I" } : Jvm.MethodName) method_2_code (1 : Nat) (Option.some Jvm.ClassFile.FieldType.int), Jvm.Cond.code ({ cls := "java/lang/String", name := "charAt", desc := "(I)C" } : Jvm.MethodName) jdk_42_method_56_code (2 : Nat) (Option.some Jvm.ClassFile.FieldType.char), Jvm.Cond.code ({ cls := "java/lang/String", name := "isLatin1", desc := "()Z" } : Jvm.MethodName) jdk_42_method_154_code (1 : Nat) (Option.some Jvm.ClassFile.FieldType.boolean), Jvm.Cond.code ({ cls := "java/lang/StringLatin1", name := "charAt", desc := "([BI)C" } : Jvm.MethodName) jdk_43_method_2_code (2 : Nat) (Option.some Jvm.ClassFile.FieldType.char), Jvm.Cond.code ({ cls := "java/lang/String", name := "checkIndex", desc := "(II)V" } : Jvm.MethodName) jdk_42_method_155_code (2 : Nat) (Option.none : Option Jvm.ClassFile.FieldType), Jvm.Cond.code ({ cls := "jdk/internal/util/Preconditions", name := "checkIndex", desc := "(IILjava/util/function/BiFunction;)I" } : Jvm.MethodName) jdk_41_method_11_code (3 : Nat) (Option.some Jvm.ClassFile.FieldType.int), Jvm.Cond.code ({ cls := "com/example/tenderd/tenderd/core/ProtocolVersionToStringPinLaw", name := "num", desc := "(Ljava/lang/String;III)Z" } : Jvm.MethodName) method_4_code (4 : Nat) (Option.some Jvm.ClassFile.FieldType.boolean), Jvm.Cond.code ({ cls := "com/example/tenderd/tenderd/core/ProtocolVersionToStringPinLaw", name := "digitOk", desc := "(Ljava/lang/String;IIII)Z" } : Jvm.MethodName) method_3_code (7 : Nat) (Option.some Jvm.ClassFile.FieldType.boolean), Jvm.Cond.code ({ cls := "java/lang/AbstractStringBuilder", name := "newCapacity", desc := "(I)I" } : Jvm.MethodName) jdk_68_method_10_code (6 : Nat) (Option.some Jvm.ClassFile.FieldType.int), Jvm.Cond.code ({ cls := "jdk/internal/util/ArraysSupport", name := "newLength", desc := "(III)I" } : Jvm.MethodName) jdk_48_method_27_code (4 : Nat) (Option.some Jvm.ClassFile.FieldType.int), Jvm.Cond.code ({ cls := "java/lang/Math", name := "max", desc := "(II)I" } : Jvm.MethodName) jdk_29_method_65_code (2 : Nat) (Option.some Jvm.ClassFile.FieldType.int), Jvm.Cond.code ({ cls := "java/util/Arrays", name := "copyOf", desc := "([BI)[B" } : Jvm.MethodName) jdk_65_method_121_code (3 : Nat) (Option.some (Jvm.ClassFile.FieldType.array Jvm.ClassFile.FieldType.byte))]
set_option maxRecDepth 65536 in
theorem codes_eq : words1.filter isCode = codes1 := rfl
theorem w_codes : ∀ c ∈ words1.filter isCode, c.before args0 about1 = true := by
  rw [codes_eq]
  intro c hc
  simp only [codes1, List.mem_cons, List.not_mem_nil, or_false] at hc
  rcases hc with rfl | rfl | rfl | rfl | rfl | rfl | rfl | rfl | rfl | rfl | rfl | rfl | rfl | rfl | rfl | rfl | rfl | rfl | rfl | rfl | rfl | rfl | rfl | rfl | rfl | rfl | rfl | rfl | rfl | rfl | rfl | rfl | rfl | rfl | rfl | rfl | rfl | rfl | rfl | rfl | rfl
  · exact w_c0
  · exact w_c1
  · exact w_c2
  · exact w_c3
  · exact w_c4
  · exact w_c5
  · exact w_c6
  · exact w_c7
  · exact w_c8
  · exact w_c9
  · exact w_c10
  · exact w_c11
  · exact w_c12
  · exact w_c13
  · exact w_c14
  · exact w_c15
  · exact w_c16
  · exact w_c17
  · exact w_c18
  · exact w_c19
  · exact w_c20
  · exact w_c21
  · exact w_c22
  · exact w_c23
  · exact w_c24
  · exact w_c25
  · exact w_c26
  · exact w_c27
  · exact w_c28
  · exact w_c29
  · exact w_c30
  · exact w_c31
  · exact w_c32
  · exact w_c33
  · exact w_c34
  · exact w_c35
  · exact w_c36
  · exact w_c37
  · exact w_c38
  · exact w_c39
  · exact w_c40
set_option maxRecDepth 65536 in
theorem w_t1 : (words1.take 24).all (fun c => isCode c || c.before args0 about1) = true := by decide +kernel
set_option maxRecDepth 65536 in
theorem w_t2 : ((words1.drop 24).take 24).all (fun c => isCode c || c.before args0 about1) = true := by decide +kernel
set_option maxRecDepth 65536 in
theorem w_t3 : (((words1.drop 24).drop 24).take 24).all (fun c => isCode c || c.before args0 about1) = true := by decide +kernel
set_option maxRecDepth 65536 in
theorem w_t4 : ((((words1.drop 24).drop 24).drop 24).take 24).all (fun c => isCode c || c.before args0 about1) = true := by decide +kernel
set_option maxRecDepth 65536 in
theorem w_t5 : (((((words1.drop 24).drop 24).drop 24).drop 24).take 24).all (fun c => isCode c || c.before args0 about1) = true := by decide +kernel
set_option maxRecDepth 65536 in
theorem w_t6 : ((((((words1.drop 24).drop 24).drop 24).drop 24).drop 24).take 24).all (fun c => isCode c || c.before args0 about1) = true := by decide +kernel
set_option maxRecDepth 65536 in
theorem w_t7 : (((((((words1.drop 24).drop 24).drop 24).drop 24).drop 24).drop 24).take 24).all (fun c => isCode c || c.before args0 about1) = true := by decide +kernel
set_option maxRecDepth 65536 in
theorem w_t8 : ((((((((words1.drop 24).drop 24).drop 24).drop 24).drop 24).drop 24).drop 24).take 24).all (fun c => isCode c || c.before args0 about1) = true := by decide +kernel
set_option maxRecDepth 65536 in
theorem w_t9 : (((((((((words1.drop 24).drop 24).drop 24).drop 24).drop 24).drop 24).drop 24).drop 24).take 24).all (fun c => isCode c || c.before args0 about1) = true := by decide +kernel
set_option maxRecDepth 65536 in
theorem w_t10 : (((((((((words1.drop 24).drop 24).drop 24).drop 24).drop 24).drop 24).drop 24).drop 24).drop 24).all (fun c => isCode c || c.before args0 about1) = true := by decide +kernel
theorem w_tables : (allAtoms (Jvm.Cond.code x code maxLocals ret :: tables_1)).before args0 about1 = true := by
  rw [allAtoms_all]
  show words1.all (fun c => c.before args0 about1) = true
  refine all_split ?_ w_codes
  rw [← List.take_append_drop 24 words1, List.all_append, w_t1, ← List.take_append_drop 24 (words1.drop 24), List.all_append, w_t2, ← List.take_append_drop 24 ((words1.drop 24).drop 24), List.all_append, w_t3, ← List.take_append_drop 24 (((words1.drop 24).drop 24).drop 24), List.all_append, w_t4, ← List.take_append_drop 24 ((((words1.drop 24).drop 24).drop 24).drop 24), List.all_append, w_t5, ← List.take_append_drop 24 (((((words1.drop 24).drop 24).drop 24).drop 24).drop 24), List.all_append, w_t6, ← List.take_append_drop 24 ((((((words1.drop 24).drop 24).drop 24).drop 24).drop 24).drop 24), List.all_append, w_t7, ← List.take_append_drop 24 (((((((words1.drop 24).drop 24).drop 24).drop 24).drop 24).drop 24).drop 24), List.all_append, w_t8, ← List.take_append_drop 24 ((((((((words1.drop 24).drop 24).drop 24).drop 24).drop 24).drop 24).drop 24).drop 24), List.all_append, w_t9, w_t10]
  rfl
set_option maxRecDepth 65536 in
theorem w_rest : rest_1_c.before args0 about1 = true := by decide +kernel
set_option maxRecDepth 65536 in
theorem w_case : (Jvm.Cond.and given_1 narrow_1).before args0 about1 = true := by decide +kernel
set_option maxRecDepth 65536 in
theorem w_consts : constsHeld consts_1 about1 := Jvm.Lit.constsHeldB_iff.mp (by decide +kernel)
theorem w_applies : (headSpec (Jvm.Cond.code x code maxLocals ret :: tables_1) room_1).applies x e0.platform about1 = true :=
  (Spec.applies_iff w_frames).mpr ⟨w_running, w_runnable, w_alone, w_named, w_hears, w_ripe, w_room, w_tables⟩
theorem atStart : AtStart classFile x code maxLocals ret World_1 tables_1 room_1 Calls_1 rest_1 Pre_1 launch0 p0 e0 about1 theMethod args0 below0 :=
  ⟨lists_1, trivial, launch0.admits_env _ _ _, launch0.least_env, fairChoices_fair.cas, fairChoices_fair.clock, w_frames, w_args, w_heap, w_applies, ⟨w_consts, trivial⟩, w_rest, w_case⟩
end start1
theorem witness_1 : WitnessClaimed_1 := ⟨start1.p0, start1.e0, start1.about1, start1.theMethod, start1.args0, start1.below0, start1.atStart⟩
end Jvm.Pilot.@@N@@
