import JvmDerived
import JvmDerived.Pilot.@@N@@Statement
import JvmDerived.Pilot.@@N@@Code
set_option linter.unusedVariables false
set_option linter.unusedSimpArgs false
namespace Jvm.RoadKit
open Sem ClassFile Op Lib Jvm.Stand Jvm.Free Jvm.LawKit
section New
variable {p : Program} {l : Launch} {e : Env} {R : Room} {s : State} {m : MethodId} {args : Array Value} {below : List Frame} {meth : Method} {c : Code} {T : State} {locs : List Loc} {cells slots : Nat}
theorem retI (X : Stand p l e R s m args below meth c T locs cells slots) (hx : p.tables.exec = Jvm.exec) {pc : Nat} {Ls : Array Slot} {z : Int32} {rest : List Value} (hret : meth.sig.returnType = some .int) (hd : decode c.code pc = .ok (.ireturn, 1)) {fs : List Frame}
    (hl : ∀ (f : JFrame) (acts : List Action), f.method = m → f.locked = none → f.entered = [] → (doReturn e (T.setTop f) acts (some (.int z))).1 = T.setFrames fs) : Steps p.tables e below (T.setTop (mkF m pc Ls (.int z :: rest))) (T.setFrames fs) := by
  have hm' : T.vm.method? m = some meth := X.method'
  have hn : narrow .int (.int z) = .int z := rfl
  show Steps p.tables e below (T.setTop { method := m, pc := pc, locals := Ls, stack := _ :: rest, locked := none }) _
  jvm_step X.here [X.here.top, hx, hd, hm', hret, hn]
  first | (intro acts; rw [hl _ acts rfl rfl rfl]) | rw [hl _ _ rfl rfl rfl]
  exact Steps.refl _
end New
end Jvm.RoadKit
namespace Jvm.Pilot.@@N@@
open Jvm Jvm.ClassFile Sem Op Lib Jvm.Free Jvm.Stand Jvm.LawKit Jvm.RoadKit Bundle Jvm.Pilot.@@N@@.Jvm.D
theorem own_eqI {t : Term} {n : Int32} {args : Array Value} {s : State} (h : (Jvm.Cond.eq t (.int n)).value args s none s [] = some true) : t.eval args s none [] s = some (.int n) := by
  simp only [Cond.value, Term.eval] at h
  cases ht : t.eval args s none [] s with
  | none => simp [ht] at h
  | some x => cases x <;> simp [ht] at h ⊢; exact h
theorem own_eqJ {t : Term} {n : Int64} {args : Array Value} {s : State} (h : (Jvm.Cond.eq t (.long n)).value args s none s [] = some true) : t.eval args s none [] s = some (.long n) := by
  simp only [Cond.value, Term.eval] at h
  cases ht : t.eval args s none [] s with
  | none => simp [ht] at h
  | some x => cases x <;> simp [ht] at h ⊢; exact h
theorem own_eqR {t u : Term} {a : Addr} {args : Array Value} {s : State} (h : (Jvm.Cond.eq t u).value args s none s [] = some true) (hu : u.eval args s none [] s = some (.ref a)) : t.eval args s none [] s = some (.ref a) := by
  simp only [Cond.value, hu] at h
  cases ht : t.eval args s none [] s with
  | none => simp [ht] at h
  | some x => cases x <;> simp [ht] at h ⊢; exact h
theorem own_len {t : Term} {w : Addr} {c : Cell} {ty : FieldType} {n : Int32} {args : Array Value} {s : State} (ev : t.eval args s none [] s = some (.ref w)) (A : Arr s s.heap w c ty) (h : (Term.length t).eval args s none [] s = some (.int n)) (hn : ¬ n < 0) : c.slots.size = n.toNatClampNeg := by
  simp only [Term.eval, ev, A.fin (Vm.Alike.refl _), Option.bind_eq_bind, Option.bind_some] at h
  split at h
  · rename_i hl
    have q : c.slots.size.toInt32 = n := by simpa using h
    rw [← q]
    have q2 : c.slots.size.toInt32.toInt = (c.slots.size : Int) := len_toInt hl
    have q3 := nat_of (j := c.slots.size.toInt32) (by rw [q]; exact hn)
    omega
  · simp at h
theorem own_extW {Z : State} {h h' : Heap} {a : Addr} {sl : Nat} {v : Value} (X : Ext Z.heap h) (W : Wr h h' a sl v) (q : Z.heap.size ≤ a) : Ext Z.heap h' := (Old.wr (Z := Z) ⟨rfl, X⟩ W q).2
theorem own_ext2 {h h' h'' : Heap} (X : Ext h h') (E : Ext h' h'') : Ext h h'' := ⟨Nat.le_trans X.1 E.1, fun x c q => E.2 x c (X.2 x c q)⟩
theorem own_extK {Z : State} {h h' : Heap} {ws : List Addr} (X : Ext Z.heap h) (K : Keep h h' ws) (q : ∀ x ∈ ws, Z.heap.size ≤ x) : Ext Z.heap h' := (Old.keep (Z := Z) ⟨rfl, X⟩ K q).2
theorem own_neI {t : Term} {n x : Int32} {args : Array Value} {s : State} (h : (Jvm.Cond.eq t (.int n)).value args s none s [] = some (!true)) (ev : t.eval args s none [] s = some (.int x)) : ¬ (x = n) := by
  intro q
  subst q
  simp [Cond.value, Term.eval, ev] at h
theorem own_nsRoot {Z : State} {a0 : Array Value} {O K : String} {n : Nat} (w : (Jvm.Cond.noSuperclass O).before a0 Z = true) (wk : (Jvm.Cond.instantiable K n).before a0 Z = true) (hn : O ≠ K) : NS Z O K := by
  obtain ⟨c, k, h1, h2, h3, -, -⟩ := Cond.noSuperclass_spec w
  obtain ⟨t, k', g1, -⟩ := Cond.instantiable_spec wk
  have ne := ids_ne h1 g1 hn
  refine ⟨c, t, h1, g1, fun fuel => ?_⟩
  cases fuel with
  | zero => rfl
  | succ f => simp [Vm.isSubclassAux, ne, h2, h3]
theorem own_nsNo {Z : State} {a0 : Array Value} {C S K : String} {n : Nat} (w : (Jvm.Cond.superclass C S).before a0 Z = true) (wk : (Jvm.Cond.instantiable K n).before a0 Z = true) (N : NS Z C K) (hn : C ≠ K) : ∃ c t, Z.vm.findClass C = some c ∧ Z.vm.findClass K = some t ∧ Z.vm.assignable c t = false := by
  obtain ⟨c, t, h0, g0, n3⟩ := N
  obtain ⟨p, k, kp, h1, h2, h3, h4, h5, -, h7⟩ := Cond.superclass_spec h0 w
  obtain ⟨q, k', g1, g2, g5, g7, -, -⟩ := Cond.instantiable_spec wk
  cases g0.symm.trans g1
  have ne := ids_ne h0 g0 hn
  have gi : k'.isInterface = false := by cases hi : k'.isInterface <;> simp [hi] at g7 ⊢
  refine ⟨c, t, h0, g0, ?_⟩
  show Z.vm.assignableAux (255 + 1) c t = false
  simp [Vm.assignableAux, ne, h2, g2, h5, g5, gi, Vm.isSubclass, n3]
theorem own_nb (x : Int32) : nar .byte (x.toInt8.toInt32) = x.toInt8.toInt32 := by simp [nar]
set_option maxRecDepth 65536
set_option maxHeartbeats 40000000
abbrev own_HW (Z : State) (a0 : Array Value) : Prop := ∀ d ∈ tables_1, d.before a0 Z = true
abbrev own_S (p : Program) (e : Env) (below : List Frame) (T : State) (g : JFrame) (t : State) : Prop := Steps p.tables e below (T.setTop g) t
theorem own_w {Z : State} {a0 : Array Value} (hw : ∀ d ∈ tables_1, d.before a0 Z = true) {d : Jvm.Cond} (i : Nat) (h : tables_1[i]? = some d) : d.before a0 Z = true := hw _ (List.mem_of_getElem? h)
/-- a body's contract: what it returns and leaves -/
abbrev own_met (l : Launch) (y : MethodName) (b : ByteArray) (ml : Nat) (rt : Option FieldType) (ws : List Jvm.Cond) (R : Room) (Z : State) (A : Array Value) (h0 : Heap) (Q : Option Value → Heap → List Loc → Prop) : Prop :=
  MetFree l y (head1 (Jvm.Cond.code y b ml rt :: ws) R) (fun a U => a = A ∧ Z.Warmed39 U.vm ∧ U.heap = h0) (fun _ _ _ _ _ => True) (fun _ U o U' => ∃ v L, o = .returned v ∧ Q v U'.heap L ∧ FrameEnd U o U' L R.cells R.slots)
theorem own_start {l : Launch} {y : MethodName} {b : ByteArray} {ml : Nat} {rt : Option FieldType} {ws : List Jvm.Cond} {R : Room} {Z : State} {A : Array Value} {h0 : Heap} {Q : Option Value → Heap → List Loc → Prop} {Ls : Array Slot}
    (hpl : plainFor y = true) (hef : ∀ m, entryFrame m A ml = mkF m 0 Ls [])
    (body : ∀ p e s m below meth c s₁, p.tables.exec = Jvm.exec → c.code = b → c.maxLocals = ml → s.vm.findClass y.cls = some m.cls → meth.name = y.name → Stand p l e R s m A below meth c s₁ [] 0 0 → Z.Warmed39 s.vm → s₁.heap = h0 → meth.sig.returnType = rt → meth.locks = false →
      ∃ s₂ o, Steps p.tables e below (s₁.setTop (mkF m 0 Ls [])) s₂ ∧ s₂.status = .running ∧ Ended s₂ below o ∧ ∃ v L, o = .returned v ∧ Q v s₂.heap L ∧ FrameEnd s o s₂ L R.cells R.slots) : own_met l y b ml rt ws R Z A h0 Q := by
  refine MetFree.of_bodySF hpl hisR ?_
  intro p e s m args below meth c s₁ Bd hml0 hP hK
  obtain ⟨rfl, hZ, hh⟩ := hP
  obtain ⟨s₂, o, k, r⟩ := body p e s m below meth c s₁ Bd.exec Bd.bytes hml0 (findClass_of_methodNamed Bd.named) (name_of_methodNamed Bd.named Bd.method).1 (Stand.of_body Bd) hZ (by rw [← hh, Bd.state]; rfl) Bd.returns Bd.notSynchronized
  exact ⟨s₂, o, castTop (hef m) k, r⟩
section OwnCalls
variable {p : Program} {l : Launch} {e : Env} {R : Room} {s : State} {m : MethodId} {args : Array Value} {below : List Frame} {meth : Method} {c : Code} {T : State} {locs : List Loc} {cells slots : Nat} {Z : State} {a0 : Array Value} {h : Heap} {own : String} {index : Nat} {y z : MethodName} {b : ByteArray} {ml : Nat} {rt : Option FieldType} {rm : Room} {as' : Array Value} {Q : Option Value → Heap → List Loc → Prop} {W : Nat} {g : JFrame} {argsL rest : List Value}
theorem own_static (X : Stand p l e R s m args below meth c T locs cells slots) (hx : p.tables.exec = Jvm.exec) (hZ : Z.Warmed39 s.vm) (hown : s.vm.findClass own = some m.cls) (w1 : (Jvm.Cond.methodLink own index y).before a0 Z = true) (w2 : (Jvm.Cond.static y).before a0 Z = true) (w3 : (Jvm.Cond.initialized y.cls).before a0 Z = true) (w4 : (Jvm.Cond.code y b ml rt).before a0 Z = true)
    (hM : own_met l y b ml rt [] rm Z as' h Q) (eT : T.heap = h) (hlen : ∀ sig, parseMethodDescriptor y.desc = some sig → argsL.length = sig.parameters.length)     (hd : decode c.code g.pc = .ok (.invokestatic index, 3)) {ML : Nat} (hml : c.maxLocals = ML) (hy : y.cls ≠ "java/lang/invoke/MethodHandle" ∧ y.cls ≠ "java/lang/invoke/VarHandle" := by decide) (hf : rm.frames + 1 ≤ R.frames := by decide) (hl : W + (ml + 11) + rm.locals ≤ R.locals := by decide) (hg : g.method = m := by rfl) (hsz : g.locals.size = ML := by rfl) (ha : argsL.toArray = as' := by rfl) (hs : g.stack = argsL.reverse ++ rest := by rfl) (hW : 2 * g.monitorRoom + (rest.map fun v => v.category).sum ≤ W := by (show 2 * 0 + _ ≤ _; exact Nat.le_of_eq rfl)) (hc : cells + rm.cells ≤ R.cells := by decide) (hsl : slots + rm.slots ≤ R.slots := by decide) :
    ∃ v T' L, Stand p l e R s m args below meth c T' (locs ++ L) (cells + rm.cells) (slots + rm.slots) ∧ Q v T'.heap L ∧ ∀ target, Steps p.tables e below (T'.setTop { g with pc := g.pc + 3, stack := v.toList ++ rest }) target → Steps p.tables e below (T.setTop g) target := by
  obtain ⟨v, _, ⟨T', L', k', n'⟩, -, X', ⟨Lc, hQ, l1, y1, z1⟩, st⟩ := Jvm.LawKit.callS X hx (y := y) hown (mvT hZ w1) (mvT hZ w2) (mvT hZ w3) (mvT hZ w4) hy (backOf (W := W) hM hZ w4 w3 hf hl) (g := g) hg (hsz.trans hml.symm) (argsL := argsL) (rest := rest) hlen hs hW hd (fun _ _ => ⟨ha, eT, hc, hsl⟩)
  dsimp only [Pt.U, Pt.locs, Pt.cells, Pt.slots] at X' l1 y1 z1 st hQ
  subst l1 y1 z1
  exact ⟨v, T', Lc, X', hQ, st⟩
theorem own_special (X : Stand p l e R s m args below meth c T locs cells slots) (hx : p.tables.exec = Jvm.exec) (hZ : Z.Warmed39 s.vm) (hown : s.vm.findClass own = some m.cls) (hn : y.name = "<init>") (w1 : (Jvm.Cond.methodLink own index y).before a0 Z = true) (w2 : (Jvm.Cond.instanceMethod y).before a0 Z = true) (w3 : (Jvm.Cond.initialized y.cls).before a0 Z = true) (w4 : (Jvm.Cond.code y b ml none).before a0 Z = true)
    (hM : own_met l y b ml none [] rm Z as' h Q) (eT : T.heap = h) (a : Addr) (hlen : ∀ sig, parseMethodDescriptor y.desc = some sig → argsL.length = sig.parameters.length)     (hd : decode c.code g.pc = .ok (.invokespecial index, 3)) {ML : Nat} (hml : c.maxLocals = ML) (hy : y.cls ≠ "java/lang/invoke/MethodHandle" ∧ y.cls ≠ "java/lang/invoke/VarHandle" := by decide) (hf : rm.frames + 1 ≤ R.frames := by decide) (hl : W + (ml + 11) + rm.locals ≤ R.locals := by decide) (hg : g.method = m := by rfl) (hsz : g.locals.size = ML := by rfl) (ha : (Value.ref a :: argsL).toArray = as' := by rfl) (hs : g.stack = argsL.reverse ++ .ref a :: rest := by rfl) (hW : 2 * g.monitorRoom + (rest.map fun v => v.category).sum ≤ W := by (show 2 * 0 + _ ≤ _; exact Nat.le_of_eq rfl)) (hc : cells + rm.cells ≤ R.cells := by decide) (hsl : slots + rm.slots ≤ R.slots := by decide) :
    ∃ v T' L, Stand p l e R s m args below meth c T' (locs ++ L) (cells + rm.cells) (slots + rm.slots) ∧ Q v T'.heap L ∧ ∀ target, Steps p.tables e below (T'.setTop { g with pc := g.pc + 3, stack := v.toList ++ rest }) target → Steps p.tables e below (T.setTop g) target := by
  obtain ⟨v, _, ⟨T', L', k', n'⟩, -, X', ⟨Lc, hQ, l1, y1, z1⟩, st⟩ := X.specialBack hx (y := y) hn hown (mvT hZ w1) (mvT hZ w2) (mvT hZ w4) hy (backOf (W := W) hM hZ w4 w3 hf hl) (g := g) hg (hsz.trans hml.symm) (Steps.refl _) (a := a) (argsL := argsL) (rest := rest) hlen hs hW hd (fun _ _ => ⟨ha, eT, hc, hsl⟩)
  dsimp only [Pt.U, Pt.locs, Pt.cells, Pt.slots] at X' l1 y1 z1 st hQ
  subst l1 y1 z1
  exact ⟨v, T', Lc, X', hQ, fun _ k => st.trans k⟩
theorem own_virtual (X : Stand p l e R s m args below meth c T locs cells slots) (hx : p.tables.exec = Jvm.exec) (hZ : Z.Warmed39 s.vm) (hown : s.vm.findClass own = some m.cls) {C : String} (w1 : (Jvm.Cond.methodLink own index y).before a0 Z = true) (w5 : (Jvm.Cond.declares y).before a0 Z = true) (w6 : (Jvm.Cond.selects C y y).before a0 Z = true) (w2 : (Jvm.Cond.instanceMethod y).before a0 Z = true) (w3 : (Jvm.Cond.initialized y.cls).before a0 Z = true) (w4 : (Jvm.Cond.code y b ml rt).before a0 Z = true)
    (hM : own_met l y b ml rt [] rm Z as' h Q) (eT : T.heap = h) {a : Addr} (E : Exa Z h a C) (hlen : ∀ sig, parseMethodDescriptor y.desc = some sig → argsL.length = sig.parameters.length)     (hd : decode c.code g.pc = .ok (.invokevirtual index, 3)) {ML : Nat} (hml : c.maxLocals = ML) (hy : y.cls ≠ "java/lang/invoke/MethodHandle" ∧ y.cls ≠ "java/lang/invoke/VarHandle" := by decide) (hf : rm.frames + 1 ≤ R.frames := by decide) (hl : W + (ml + 11) + rm.locals ≤ R.locals := by decide) (hg : g.method = m := by rfl) (hsz : g.locals.size = ML := by rfl) (ha : (Value.ref a :: argsL).toArray = as' := by rfl) (hs : g.stack = argsL.reverse ++ .ref a :: rest := by rfl) (hW : 2 * g.monitorRoom + (rest.map fun v => v.category).sum ≤ W := by (show 2 * 0 + _ ≤ _; exact Nat.le_of_eq rfl)) (hc : cells + rm.cells ≤ R.cells := by decide) (hsl : slots + rm.slots ≤ R.slots := by decide) :
    ∃ v T' L, Stand p l e R s m args below meth c T' (locs ++ L) (cells + rm.cells) (slots + rm.slots) ∧ Q v T'.heap L ∧ ∀ target, Steps p.tables e below (T'.setTop { g with pc := g.pc + 3, stack := v.toList ++ rest }) target → Steps p.tables e below (T.setTop g) target := by
  obtain ⟨cq, kq, qa, qb, qc⟩ := isOf hZ eT E
  obtain ⟨v, _, ⟨T', L', k', n'⟩, -, X', ⟨Lc, hQ, l1, y1, z1⟩, st⟩ := X.virtualBack hx (y := y) (z := y) hown (mvT hZ w1) (mvT hZ w5) (notFace_of_selects (args := #[]) (mvT hZ w6)) (mvT hZ w6) (mvT hZ w2) hy (backOf (W := W) hM hZ w4 w3 hf hl) qa qc (g := g) hg (hsz.trans hml.symm) (Steps.refl _) (argsL := argsL) (rest := rest) hlen hs hW hd (fun _ _ => ⟨ha, eT, hc, hsl⟩)
  dsimp only [Pt.U, Pt.locs, Pt.cells, Pt.slots] at X' l1 y1 z1 st hQ
  subst l1 y1 z1
  exact ⟨v, T', Lc, X', hQ, fun _ k => st.trans k⟩
theorem own_virtualUp (X : Stand p l e R s m args below meth c T locs cells slots) (hx : p.tables.exec = Jvm.exec) (hZ : Z.Warmed39 s.vm) (hown : s.vm.findClass own = some m.cls) {C owner : String} (w1 : (Jvm.Cond.methodLink own index z).before a0 Z = true) (w7 : (Jvm.Cond.sameMethod z.cls owner z.name z.desc).before a0 Z = true) (w5 : (Jvm.Cond.declares ⟨owner, z.name, z.desc⟩).before a0 Z = true) (w6 : (Jvm.Cond.selects C z y).before a0 Z = true) (w2 : (Jvm.Cond.instanceMethod y).before a0 Z = true) (w3 : (Jvm.Cond.initialized y.cls).before a0 Z = true) (w4 : (Jvm.Cond.code y b ml rt).before a0 Z = true)
    (hM : own_met l y b ml rt [] rm Z as' h Q) (eT : T.heap = h) {a : Addr} (E : Exa Z h a C) (hlen : ∀ sig, parseMethodDescriptor z.desc = some sig → argsL.length = sig.parameters.length)     (hd : decode c.code g.pc = .ok (.invokevirtual index, 3)) {ML : Nat} (hml : c.maxLocals = ML) (hy : owner ≠ "java/lang/invoke/MethodHandle" ∧ owner ≠ "java/lang/invoke/VarHandle" := by decide) (hf : rm.frames + 1 ≤ R.frames := by decide) (hl : W + (ml + 11) + rm.locals ≤ R.locals := by decide) (hg : g.method = m := by rfl) (hsz : g.locals.size = ML := by rfl) (ha : (Value.ref a :: argsL).toArray = as' := by rfl) (hs : g.stack = argsL.reverse ++ .ref a :: rest := by rfl) (hW : 2 * g.monitorRoom + (rest.map fun v => v.category).sum ≤ W := by (show 2 * 0 + _ ≤ _; exact Nat.le_of_eq rfl)) (hc : cells + rm.cells ≤ R.cells := by decide) (hsl : slots + rm.slots ≤ R.slots := by decide) :
    ∃ v T' L, Stand p l e R s m args below meth c T' (locs ++ L) (cells + rm.cells) (slots + rm.slots) ∧ Q v T'.heap L ∧ ∀ target, Steps p.tables e below (T'.setTop { g with pc := g.pc + 3, stack := v.toList ++ rest }) target → Steps p.tables e below (T.setTop g) target := by
  obtain ⟨cq, kq, qa, qb, qc⟩ := isOf hZ eT E
  obtain ⟨v, _, ⟨T', L', k', n'⟩, -, X', ⟨Lc, hQ, l1, y1, z1⟩, st⟩ := X.virtualBackUp hx (x := z) (y := y) (owner := owner) hown (mvT hZ w1) (mvT hZ w7) (mvT hZ w5) hy (mvT hZ w6) (mvT hZ w2) (backOf (W := W) hM hZ w4 w3 hf hl) qa qc (g := g) hg (hsz.trans hml.symm) (Steps.refl _) (argsL := argsL) (rest := rest) hlen hs hW hd (fun _ _ => ⟨ha, eT, hc, hsl⟩)
  dsimp only [Pt.U, Pt.locs, Pt.cells, Pt.slots] at X' l1 y1 z1 st hQ
  subst l1 y1 z1
  exact ⟨v, T', Lc, X', hQ, fun _ k => st.trans k⟩
end OwnCalls
section OwnSteps
variable {p : Program} {l : Launch} {e : Env} {R : Room} {s : State} {m : MethodId} {args : Array Value} {below : List Frame} {meth : Method} {c : Code} {T target : State} {locs : List Loc} {cells slots : Nat} {b : ByteArray} {pc : Nat} {Ls : Array Slot} {St : List Value}
theorem own_aN (X : Stand p l e R s m args below meth c T locs cells slots) (hx : p.tables.exec = Jvm.exec) (hby : c.code = b) {k : Fin 4} {v : Value} (hd : decode b pc = .ok (.aload_n k, 1)) (hr : own_S p e below T (mkF m (pc + 1) Ls (v :: St)) target) (hl : Ls[k.val]? = some (.val v) := by rfl) (hv : v.isRef = true := by rfl) : own_S p e below T (mkF m pc Ls St) target := XS.aloadN X.here hx rfl (hb hby hd) hl hv hr
theorem own_a (X : Stand p l e R s m args below meth c T locs cells slots) (hx : p.tables.exec = Jvm.exec) (hby : c.code = b) {k : Nat} {v : Value} (hd : decode b pc = .ok (.aload k, 2)) (hr : own_S p e below T (mkF m (pc + 2) Ls (v :: St)) target) (hl : Ls[k]? = some (.val v) := by rfl) (hv : v.isRef = true := by rfl) : own_S p e below T (mkF m pc Ls St) target := XS.aload X.here hx rfl (hb hby hd) hl hv hr
theorem own_iN (X : Stand p l e R s m args below meth c T locs cells slots) (hx : p.tables.exec = Jvm.exec) (hby : c.code = b) {k : Fin 4} {v : Int32} (hd : decode b pc = .ok (.iload_n k, 1)) (hr : own_S p e below T (mkF m (pc + 1) Ls (.int v :: St)) target) (hl : Ls[k.val]? = some (.val (.int v)) := by rfl) : own_S p e below T (mkF m pc Ls St) target := XS.iloadN X.here hx rfl (hb hby hd) hl hr
theorem own_i (X : Stand p l e R s m args below meth c T locs cells slots) (hx : p.tables.exec = Jvm.exec) (hby : c.code = b) {k : Nat} {v : Int32} (hd : decode b pc = .ok (.iload k, 2)) (hr : own_S p e below T (mkF m (pc + 2) Ls (.int v :: St)) target) (hl : Ls[k]? = some (.val (.int v)) := by rfl) : own_S p e below T (mkF m pc Ls St) target := XS.iload X.here hx rfl (hb hby hd) hl hr
theorem own_k (X : Stand p l e R s m args below meth c T locs cells slots) (hx : p.tables.exec = Jvm.exec) (hby : c.code = b) {k : Int} (hd : decode b pc = .ok (.iconst k, 1)) (hr : own_S p e below T (mkF m (pc + 1) Ls (.int (Int32.ofInt k) :: St)) target) : own_S p e below T (mkF m pc Ls St) target := XS.iconst X.here hx rfl (hb hby hd) hr
theorem own_go (X : Stand p l e R s m args below meth c T locs cells slots) (hx : p.tables.exec = Jvm.exec) (hby : c.code = b) {o : Int} (hd : decode b pc = .ok (.goto o, 3)) (pc' : Nat) (hr : own_S p e below T (mkF m pc' Ls St) target) (h1 : 0 ≤ (pc : Int) + o := by decide) (h2 : ((pc : Int) + o).toNat = pc' := by decide) : own_S p e below T (mkF m pc Ls St) target := XS.goto X.here hx rfl (pc0 := pc) (pc' := pc') rfl (hb hby hd) h1 h2 hr
theorem own_in (X : Stand p l e R s m args below meth c T locs cells slots) (hx : p.tables.exec = Jvm.exec) (hby : c.code = b) {cd : ClassFile.Cond} {o : Int} {v : Int32} (hd : decode b pc = .ok (.ifCond cd o, 3)) (hq : if_icmp.holds cd v 0 = false) (hr : own_S p e below T (mkF m (pc + 3) Ls St) target) : own_S p e below T (mkF m pc Ls (.int v :: St)) target := XS.ifNo X.here hx rfl (hb hby hd) rfl ((if0 _ _).trans hq) hr
theorem own_iy (X : Stand p l e R s m args below meth c T locs cells slots) (hx : p.tables.exec = Jvm.exec) (hby : c.code = b) {cd : ClassFile.Cond} {o : Int} {v : Int32} (hd : decode b pc = .ok (.ifCond cd o, 3)) (hq : if_icmp.holds cd v 0 = true) (pc' : Nat) (hr : own_S p e below T (mkF m pc' Ls St) target) (h1 : 0 ≤ (pc : Int) + o := by decide) (h2 : ((pc : Int) + o).toNat = pc' := by decide) : own_S p e below T (mkF m pc Ls (.int v :: St)) target := XS.ifYes X.here hx rfl (pc0 := pc) (pc' := pc') rfl (hb hby hd) rfl ((if0 _ _).trans hq) h1 h2 hr
theorem own_cn (X : Stand p l e R s m args below meth c T locs cells slots) (hx : p.tables.exec = Jvm.exec) (hby : c.code = b) {cd : ClassFile.Cond} {o : Int} {v w : Int32} (hd : decode b pc = .ok (.if_icmp cd o, 3)) (hq : if_icmp.holds cd v w = false) (hr : own_S p e below T (mkF m (pc + 3) Ls St) target) : own_S p e below T (mkF m pc Ls (.int w :: .int v :: St)) target := XS.icmpNo X.here hx rfl (hb hby hd) rfl hq hr
theorem own_cy (X : Stand p l e R s m args below meth c T locs cells slots) (hx : p.tables.exec = Jvm.exec) (hby : c.code = b) {cd : ClassFile.Cond} {o : Int} {v w : Int32} (hd : decode b pc = .ok (.if_icmp cd o, 3)) (hq : if_icmp.holds cd v w = true) (pc' : Nat) (hr : own_S p e below T (mkF m pc' Ls St) target) (h1 : 0 ≤ (pc : Int) + o := by decide) (h2 : ((pc : Int) + o).toNat = pc' := by decide) : own_S p e below T (mkF m pc Ls (.int w :: .int v :: St)) target := XS.icmpYes X.here hx rfl (pc0 := pc) (pc' := pc') rfl (hb hby hd) rfl hq h1 h2 hr
end OwnSteps

def own_len3 (x : Int32) : Prop := x = 1 ∨ x = 2 ∨ x = 3
def own_low (c : Int32) : Prop := 97 ≤ c.toInt ∧ c.toInt ≤ 122
def own_aln (c : Int32) : Prop := (97 ≤ c.toInt ∧ c.toInt ≤ 122) ∨ (65 ≤ c.toInt ∧ c.toInt ≤ 90) ∨ (48 ≤ c.toInt ∧ c.toInt ≤ 57)
def own_ch (c : Int32) : Prop := 0 ≤ c.toInt ∧ c.toInt ≤ 127
theorem own_low_ch {c : Int32} (h : own_low c) : own_ch c := ⟨by have := h.1; omega, by have := h.2; omega⟩
theorem own_aln_ch {c : Int32} (h : own_aln c) : own_ch c := by
  rcases h with ⟨a, b⟩ | ⟨a, b⟩ | ⟨a, b⟩ <;> exact ⟨by omega, by omega⟩
theorem own_lt {a b : Int32} {x y : Int} (ha : a.toInt = x) (hb : b.toInt = y) (h : x < y) : a < b := by rw [Int32.lt_iff_toInt_lt, ha, hb]; exact h
theorem own_nlt {a b : Int32} {x y : Int} (ha : a.toInt = x) (hb : b.toInt = y) (h : ¬ x < y) : ¬ a < b := by rw [Int32.lt_iff_toInt_lt, ha, hb]; exact h
theorem own_b8 {c : Int32} (h : own_ch c) : c.toInt8.toInt32 = c := by
  obtain ⟨h1, h2⟩ := h
  obtain ⟨a, b, d⟩ := c_i2b c
  exact Int32.toInt_inj.mp (by omega)
theorem own_b255 {c : Int32} (h : own_ch c) : (c.toInt8.toInt32 &&& (255 : Int32)) = c := by
  rw [own_b8 h]
  obtain ⟨h1, h2⟩ := h
  have q := c_mask c (255 : Int32) 8 (by decide) (by decide)
  have hk : ((2 ^ 8 : Nat) : Int) = 256 := by decide
  rw [hk] at q
  exact Int32.toInt_inj.mp (by omega)
theorem own_i2cw {c : Int32} (h1 : 0 ≤ c.toInt) (h2 : c.toInt ≤ 65535) : c.toUInt32.toUInt16.toUInt32.toInt32 = c := by
  obtain ⟨a, b, d⟩ := c_i2c c
  exact Int32.toInt_inj.mp (by omega)
theorem own_i2c {c : Int32} (h : own_ch c) : c.toUInt32.toUInt16.toUInt32.toInt32 = c := own_i2cw h.1 (by have := h.2; omega)
theorem own_nc {c : Int32} (h : own_ch c) : nar .char c = c := own_i2c h
theorem own_n255 {c : Int32} (h : own_ch c) : ¬ ((255 : Int32) < c) := own_nlt (by decide : (255 : Int32).toInt = 255) rfl (by have := h.2; omega)
theorem own_low1 {c : Int32} (h : own_low c) : ¬ (c < (97 : Int32)) := own_nlt rfl (by decide : (97 : Int32).toInt = 97) (by have := h.1; omega)
theorem own_low2 {c : Int32} (h : own_low c) : ¬ ((122 : Int32) < c) := own_nlt (by decide : (122 : Int32).toInt = 122) rfl (by have := h.2; omega)
theorem own_bne {c d : Int32} (h : own_ch c) (k : own_ch d) (n : ¬ c = d) : ¬ (c.toInt8.toInt32 = d.toInt8.toInt32) := by rw [own_b8 h, own_b8 k]; exact n
theorem own_nn2 {e : Int32} (h1 : 0 ≤ e.toInt) (h2 : e.toInt ≤ 65535) : nar .char (e.toUInt32.toUInt16.toUInt32.toInt32) = e := by
  rw [own_i2cw h1 h2]; exact own_i2cw h1 h2
theorem own_lenq (q : Int64) : own_len3 ((1 : Int32) + ((((q.toUInt64 >>> ((48 : Int32) &&& 0x3f).toInt64.toUInt64).toInt64) - (((q.toUInt64 >>> ((48 : Int32) &&& 0x3f).toInt64.toUInt64).toInt64) / (3 : Int64)) * (3 : Int64)).toInt32)) := by
  have h1 := c_lushr q (48 : Int32) 48 (by decide) (by decide)
  generalize ((q.toUInt64 >>> ((48 : Int32) &&& 0x3f).toInt64.toUInt64).toInt64) = A at *
  have hk : ((2 ^ 48 : Nat) : Int) = 281474976710656 := by decide
  rw [hk] at h1
  have h2 := (c_lrem A (3 : Int64) 3 (by decide)).1 (by omega)
  generalize (A - (A / (3 : Int64)) * (3 : Int64)) = B at *
  have h3 := c_l2i B
  have h4 := rng32 B.toInt32
  have h5 := c_iadd (1 : Int32) B.toInt32
  have h6 := rng32 ((1 : Int32) + B.toInt32)
  have h7 : (1 : Int32).toInt = 1 := by decide
  rw [h7] at h5
  have q : ((1 : Int32) + B.toInt32).toInt = 1 ∨ ((1 : Int32) + B.toInt32).toInt = 2 ∨ ((1 : Int32) + B.toInt32).toInt = 3 := by omega
  rcases q with q | q | q
  · exact Or.inl (Int32.toInt_inj.mp (q.trans (by decide)))
  · exact Or.inr (Or.inl (Int32.toInt_inj.mp (q.trans (by decide))))
  · exact Or.inr (Or.inr (Int32.toInt_inj.mp (q.trans (by decide))))
theorem own_mod (v : Int32) (n : Int32) (k : Int) (hn : n.toInt = k) (h0 : 0 < k) : 0 ≤ ((v &&& (2147483647 : Int32)) % n).toInt ∧ ((v &&& (2147483647 : Int32)) % n).toInt < k := by
  have h := c_mask v (2147483647 : Int32) 31 (by decide) (by decide)
  have hk : ((2 ^ 31 : Nat) : Int) = 2147483648 := by decide
  rw [hk] at h
  have h2 := (c_irem (v &&& (2147483647 : Int32)) n k hn).1 (by omega)
  rw [h2]
  exact ⟨Int.emod_nonneg _ (by omega), Int.emod_lt_of_pos _ h0⟩
theorem own_first (v : Int32) : own_low (nar .char (((97 : Int32) + ((v &&& (2147483647 : Int32)) % (26 : Int32))).toUInt32.toUInt16.toUInt32.toInt32)) := by
  obtain ⟨h1, h2⟩ := own_mod v (26 : Int32) 26 (by decide) (by decide)
  generalize ((v &&& (2147483647 : Int32)) % (26 : Int32)) = k at *
  have h5 := c_iadd (97 : Int32) k
  have h6 := rng32 ((97 : Int32) + k)
  have h7 : (97 : Int32).toInt = 97 := by decide
  rw [h7] at h5
  rw [own_nn2 (by omega) (by omega)]
  exact ⟨by omega, by omega⟩
theorem own_k3 (r : Int32) : (((r &&& (2147483647 : Int32)) % (62 : Int32)) < (26 : Int32) ∧ 0 ≤ ((r &&& (2147483647 : Int32)) % (62 : Int32)).toInt) ∨ (¬ (((r &&& (2147483647 : Int32)) % (62 : Int32)) < (26 : Int32)) ∧ ((r &&& (2147483647 : Int32)) % (62 : Int32)) < (52 : Int32) ∧ True) ∨ (¬ (((r &&& (2147483647 : Int32)) % (62 : Int32)) < (26 : Int32)) ∧ ¬ (((r &&& (2147483647 : Int32)) % (62 : Int32)) < (52 : Int32)) ∧ ((r &&& (2147483647 : Int32)) % (62 : Int32)).toInt < 62) := by
  obtain ⟨h1, h2⟩ := own_mod r (62 : Int32) 62 (by decide) (by decide)
  generalize ((r &&& (2147483647 : Int32)) % (62 : Int32)) = k at *
  by_cases a : k < (26 : Int32)
  · exact Or.inl ⟨a, h1⟩
  · by_cases b : k < (52 : Int32)
    · exact Or.inr (Or.inl ⟨a, b, trivial⟩)
    · exact Or.inr (Or.inr ⟨a, b, h2⟩)
theorem own_l26 {k : Int32} : k < (26 : Int32) ↔ k.toInt < 26 := by rw [Int32.lt_iff_toInt_lt, show (26 : Int32).toInt = 26 from by decide]
theorem own_l52 {k : Int32} : k < (52 : Int32) ↔ k.toInt < 52 := by rw [Int32.lt_iff_toInt_lt, show (52 : Int32).toInt = 52 from by decide]
theorem own_r0 (k : Int32) (h1 : k < (26 : Int32)) (h2 : 0 ≤ k.toInt) : own_aln (nar .char (((97 : Int32) + k).toUInt32.toUInt16.toUInt32.toInt32)) := by
  rw [own_l26] at h1
  have h5 := c_iadd (97 : Int32) k
  have h6 := rng32 ((97 : Int32) + k)
  have h7 : (97 : Int32).toInt = 97 := by decide
  rw [h7] at h5
  rw [own_nn2 (by omega) (by omega)]
  exact Or.inl ⟨by omega, by omega⟩
theorem own_r1 (k : Int32) (h1 : ¬ k < (26 : Int32)) (h2 : k < (52 : Int32)) (_ : True) : own_aln (nar .char (((65 : Int32) + (k - (26 : Int32))).toUInt32.toUInt16.toUInt32.toInt32)) := by
  rw [own_l26] at h1
  rw [own_l52] at h2
  have h3 := c_isub k (26 : Int32)
  have h4 := rng32 (k - (26 : Int32))
  have h5 := c_iadd (65 : Int32) (k - (26 : Int32))
  have h6 := rng32 ((65 : Int32) + (k - (26 : Int32)))
  have h7 : (65 : Int32).toInt = 65 := by decide
  have h8 : (26 : Int32).toInt = 26 := by decide
  rw [h7] at h5
  rw [h8] at h3
  rw [own_nn2 (by omega) (by omega)]
  exact Or.inr (Or.inl ⟨by omega, by omega⟩)
theorem own_r2 (k : Int32) (h1 : ¬ k < (26 : Int32)) (h2 : ¬ k < (52 : Int32)) (h9 : k.toInt < 62) : own_aln (nar .char (((48 : Int32) + (k - (52 : Int32))).toUInt32.toUInt16.toUInt32.toInt32)) := by
  rw [own_l52] at h2
  have h3 := c_isub k (52 : Int32)
  have h4 := rng32 (k - (52 : Int32))
  have h5 := c_iadd (48 : Int32) (k - (52 : Int32))
  have h6 := rng32 ((48 : Int32) + (k - (52 : Int32)))
  have h7 : (48 : Int32).toInt = 48 := by decide
  have h8 : (52 : Int32).toInt = 52 := by decide
  rw [h7] at h5
  rw [h8] at h3
  rw [own_nn2 (by omega) (by omega)]
  exact Or.inr (Or.inr ⟨by omega, by omega⟩)
abbrev own_T (q1 q2 : Int64) (p3 la ca cb cc lb da db dc : Int32) (v13 v14 v15 v16 v17 v18 : Slot) : Array Slot := #[.val (.long q1), .second, .val (.long q2), .second, iv p3, iv la, iv ca, iv cb, iv cc, iv lb, iv da, iv db, iv dc, v13, v14, v15, v16, v17, v18]

abbrev own_w_CS (Z : State) (w_CS : Int32) : Prop := Sta Z Z.heap "java/lang/String" "COMPACT_STRINGS" "Z" (.int w_CS)
abbrev own_w_SF (Z : State) (w_SF : Value) : Prop := Sta Z Z.heap "jdk/internal/util/Preconditions" "SIOOBE_FORMATTER" "Ljava/util/function/BiFunction;" w_SF
theorem pn_0 : plainName "com/example/faretally/faretally/ReasonEqualsPinLaw" = true := by first | (simp [plainName, overriddenIn]; done) | decide +kernel
theorem pn_1 : plainName "java/lang/StringUTF16" = true := by first | (simp [plainName, overriddenIn]; done) | decide +kernel
theorem pn_2 : plainName "java/lang/String" = true := by first | (simp [plainName, overriddenIn]; done) | decide +kernel
theorem pn_3 : plainName "java/lang/Record" = true := by first | (simp [plainName, overriddenIn]; done) | decide +kernel
theorem pn_4 : plainName "jdk/internal/util/Preconditions" = true := by first | (simp [plainName, overriddenIn]; done) | decide +kernel
theorem pn_5 : plainName "java/lang/StringLatin1" = true := by first | (simp [plainName, overriddenIn]; done) | decide +kernel
theorem pn_6 : plainName "com/example/faretally/faretally/RefundRequest$Involuntary$Reason" = true := by first | (simp [plainName, overriddenIn]; done) | decide +kernel
theorem pd_0 : parseMethodDescriptor "(I)C" = some ⟨[.int], some .char⟩ := by decide +kernel
theorem pd_1 : parseMethodDescriptor "([CI[BII)I" = some ⟨[(.array .char), .int, (.array .byte), .int, .int], some .int⟩ := by decide +kernel
theorem pd_2 : parseMethodDescriptor "([CII)[B" = some ⟨[(.array .char), .int, .int], some (.array .byte)⟩ := by decide +kernel
theorem pd_3 : parseMethodDescriptor "([BI)B" = some ⟨[(.array .byte), .int], some .byte⟩ := by decide +kernel
theorem pd_4 : parseMethodDescriptor "([CIILjava/lang/Void;)V" = some ⟨[(.array .char), .int, .int, (.object "java/lang/Void")], none⟩ := by decide +kernel
theorem pd_5 : parseMethodDescriptor "([C)V" = some ⟨[(.array .char)], none⟩ := by decide +kernel
theorem pd_6 : parseMethodDescriptor "(ICCC)Ljava/lang/String;" = some ⟨[.int, .char, .char, .char], some (.object "java/lang/String")⟩ := by decide +kernel
theorem pd_7 : parseMethodDescriptor "()V" = some ⟨[], none⟩ := by decide +kernel
theorem pd_8 : parseMethodDescriptor "()Z" = some ⟨[], some .boolean⟩ := by decide +kernel
theorem pd_9 : parseMethodDescriptor "(IILjava/util/function/BiFunction;)I" = some ⟨[.int, .int, (.object "java/util/function/BiFunction")], some .int⟩ := by decide +kernel
theorem pd_10 : parseMethodDescriptor "(II)V" = some ⟨[.int, .int], none⟩ := by decide +kernel
theorem pd_11 : parseMethodDescriptor "([BI)C" = some ⟨[(.array .byte), .int], some .char⟩ := by decide +kernel
theorem pd_12 : parseMethodDescriptor "()B" = some ⟨[], some .byte⟩ := by decide +kernel
theorem pd_13 : parseMethodDescriptor "()I" = some ⟨[], some .int⟩ := by decide +kernel
theorem pd_14 : parseMethodDescriptor "(Ljava/lang/String;)Z" = some ⟨[(.object "java/lang/String")], some .boolean⟩ := by decide +kernel
theorem pd_15 : parseMethodDescriptor "(Ljava/lang/String;)V" = some ⟨[(.object "java/lang/String")], none⟩ := by decide +kernel
theorem pd_16 : parseMethodDescriptor "([B[B)Z" = some ⟨[(.array .byte), (.array .byte)], some .boolean⟩ := by decide +kernel
theorem pd_17 : parseMethodDescriptor "(Ljava/lang/Object;)Z" = some ⟨[(.object "java/lang/Object")], some .boolean⟩ := by decide +kernel
abbrev y_0 : MethodName := ⟨"com/example/faretally/faretally/ReasonEqualsPinLaw", "first", "(I)C"⟩
abbrev y_1 : MethodName := ⟨"com/example/faretally/faretally/ReasonEqualsPinLaw", "rest", "(I)C"⟩
abbrev y_2 : MethodName := ⟨"java/lang/StringUTF16", "compress", "([CI[BII)I"⟩
abbrev y_3 : MethodName := ⟨"java/lang/StringUTF16", "compress", "([CII)[B"⟩
abbrev y_4 : MethodName := ⟨"java/lang/StringUTF16", "coderFromArrayLen", "([BI)B"⟩
abbrev y_5 : MethodName := ⟨"java/lang/String", "<init>", "([CIILjava/lang/Void;)V"⟩
abbrev y_6 : MethodName := ⟨"java/lang/String", "<init>", "([C)V"⟩
abbrev y_7 : MethodName := ⟨"com/example/faretally/faretally/ReasonEqualsPinLaw", "str", "(ICCC)Ljava/lang/String;"⟩
abbrev y_8 : MethodName := ⟨"java/lang/Record", "<init>", "()V"⟩
abbrev y_9 : MethodName := ⟨"java/lang/String", "isEmpty", "()Z"⟩
abbrev y_10 : MethodName := ⟨"java/lang/String", "isLatin1", "()Z"⟩
abbrev y_11 : MethodName := ⟨"jdk/internal/util/Preconditions", "checkIndex", "(IILjava/util/function/BiFunction;)I"⟩
abbrev y_12 : MethodName := ⟨"java/lang/String", "checkIndex", "(II)V"⟩
abbrev y_13 : MethodName := ⟨"java/lang/StringLatin1", "charAt", "([BI)C"⟩
abbrev y_14 : MethodName := ⟨"java/lang/String", "charAt", "(I)C"⟩
abbrev y_15 : MethodName := ⟨"java/lang/String", "coder", "()B"⟩
abbrev y_16 : MethodName := ⟨"java/lang/String", "length", "()I"⟩
abbrev y_17 : MethodName := ⟨"com/example/faretally/faretally/RefundRequest$Involuntary$Reason", "isName", "(Ljava/lang/String;)Z"⟩
abbrev y_18 : MethodName := ⟨"com/example/faretally/faretally/RefundRequest$Involuntary$Reason", "<init>", "(Ljava/lang/String;)V"⟩
abbrev y_19 : MethodName := ⟨"java/lang/StringLatin1", "equals", "([B[B)Z"⟩
abbrev y_20 : MethodName := ⟨"java/lang/String", "equals", "(Ljava/lang/Object;)Z"⟩
abbrev y_21 : MethodName := ⟨"com/example/faretally/faretally/RefundRequest$Involuntary$Reason", "equals", "(Ljava/lang/Object;)Z"⟩
theorem d12_53 : decode prog_97_method_2_code 53 = .ok (.iload_n 3, 1) := by decide +kernel
theorem d12_54 : decode prog_97_method_2_code 54 = .ok (.bipush 97, 2) := by decide +kernel
theorem d12_56 : decode prog_97_method_2_code 56 = .ok (.if_icmp .lt 9, 3) := by decide +kernel
theorem d12_59 : decode prog_97_method_2_code 59 = .ok (.iload_n 3, 1) := by decide +kernel
theorem d12_60 : decode prog_97_method_2_code 60 = .ok (.bipush 122, 2) := by decide +kernel
theorem d12_62 : decode prog_97_method_2_code 62 = .ok (.if_icmp .le 27, 3) := by decide +kernel
theorem d12_89 : decode prog_97_method_2_code 89 = .ok (.iconst 1, 1) := by decide +kernel
theorem d12_90 : decode prog_97_method_2_code 90 = .ok (.goto 4, 3) := by decide +kernel
theorem d12_65 : decode prog_97_method_2_code 65 = .ok (.iload_n 3, 1) := by decide +kernel
theorem d12_66 : decode prog_97_method_2_code 66 = .ok (.bipush 65, 2) := by decide +kernel
theorem d12_68 : decode prog_97_method_2_code 68 = .ok (.if_icmp .lt 9, 3) := by decide +kernel
theorem d12_71 : decode prog_97_method_2_code 71 = .ok (.iload_n 3, 1) := by decide +kernel
theorem d12_72 : decode prog_97_method_2_code 72 = .ok (.bipush 90, 2) := by decide +kernel
theorem d12_74 : decode prog_97_method_2_code 74 = .ok (.if_icmp .le 15, 3) := by decide +kernel
theorem d12_77 : decode prog_97_method_2_code 77 = .ok (.iload_n 3, 1) := by decide +kernel
theorem d12_78 : decode prog_97_method_2_code 78 = .ok (.bipush 48, 2) := by decide +kernel
theorem d12_80 : decode prog_97_method_2_code 80 = .ok (.if_icmp .lt 13, 3) := by decide +kernel
theorem d12_83 : decode prog_97_method_2_code 83 = .ok (.iload_n 3, 1) := by decide +kernel
theorem d12_84 : decode prog_97_method_2_code 84 = .ok (.bipush 57, 2) := by decide +kernel
theorem d12_86 : decode prog_97_method_2_code 86 = .ok (.if_icmp .gt 7, 3) := by decide +kernel
theorem d1_0 : decode method_2_code 0 = .ok (.bipush 97, 2) := by decide +kernel
theorem d1_2 : decode method_2_code 2 = .ok (.iload_n 0, 1) := by decide +kernel
theorem d1_3 : decode method_2_code 3 = .ok (.ldc 7, 2) := by decide +kernel
theorem d1_5 : decode method_2_code 5 = .ok (.iand, 1) := by decide +kernel
theorem d1_6 : decode method_2_code 6 = .ok (.bipush 26, 2) := by decide +kernel
theorem d1_8 : decode method_2_code 8 = .ok (.irem, 1) := by decide +kernel
theorem d1_9 : decode method_2_code 9 = .ok (.iadd, 1) := by decide +kernel
theorem d1_10 : decode method_2_code 10 = .ok (.i2c, 1) := by decide +kernel
theorem d1_11 : decode method_2_code 11 = .ok (.ireturn, 1) := by decide +kernel
theorem d2_0 : decode method_3_code 0 = .ok (.iload_n 0, 1) := by decide +kernel
theorem d2_1 : decode method_3_code 1 = .ok (.ldc 7, 2) := by decide +kernel
theorem d2_3 : decode method_3_code 3 = .ok (.iand, 1) := by decide +kernel
theorem d2_4 : decode method_3_code 4 = .ok (.bipush 62, 2) := by decide +kernel
theorem d2_6 : decode method_3_code 6 = .ok (.irem, 1) := by decide +kernel
theorem d2_7 : decode method_3_code 7 = .ok (.istore_n 1, 1) := by decide +kernel
theorem d2_8 : decode method_3_code 8 = .ok (.iload_n 1, 1) := by decide +kernel
theorem d2_9 : decode method_3_code 9 = .ok (.bipush 26, 2) := by decide +kernel
theorem d2_11 : decode method_3_code 11 = .ok (.if_icmp .ge 9, 3) := by decide +kernel
theorem d2_14 : decode method_3_code 14 = .ok (.bipush 97, 2) := by decide +kernel
theorem d2_16 : decode method_3_code 16 = .ok (.iload_n 1, 1) := by decide +kernel
theorem d2_17 : decode method_3_code 17 = .ok (.iadd, 1) := by decide +kernel
theorem d2_18 : decode method_3_code 18 = .ok (.i2c, 1) := by decide +kernel
theorem d2_19 : decode method_3_code 19 = .ok (.ireturn, 1) := by decide +kernel
theorem d2_20 : decode method_3_code 20 = .ok (.iload_n 1, 1) := by decide +kernel
theorem d2_21 : decode method_3_code 21 = .ok (.bipush 52, 2) := by decide +kernel
theorem d2_23 : decode method_3_code 23 = .ok (.if_icmp .ge 12, 3) := by decide +kernel
theorem d2_26 : decode method_3_code 26 = .ok (.bipush 65, 2) := by decide +kernel
theorem d2_28 : decode method_3_code 28 = .ok (.iload_n 1, 1) := by decide +kernel
theorem d2_29 : decode method_3_code 29 = .ok (.bipush 26, 2) := by decide +kernel
theorem d2_31 : decode method_3_code 31 = .ok (.isub, 1) := by decide +kernel
theorem d2_32 : decode method_3_code 32 = .ok (.iadd, 1) := by decide +kernel
theorem d2_33 : decode method_3_code 33 = .ok (.i2c, 1) := by decide +kernel
theorem d2_34 : decode method_3_code 34 = .ok (.ireturn, 1) := by decide +kernel
theorem d2_35 : decode method_3_code 35 = .ok (.bipush 48, 2) := by decide +kernel
theorem d2_37 : decode method_3_code 37 = .ok (.iload_n 1, 1) := by decide +kernel
theorem d2_38 : decode method_3_code 38 = .ok (.bipush 52, 2) := by decide +kernel
theorem d2_40 : decode method_3_code 40 = .ok (.isub, 1) := by decide +kernel
theorem d2_41 : decode method_3_code 41 = .ok (.iadd, 1) := by decide +kernel
theorem d2_42 : decode method_3_code 42 = .ok (.i2c, 1) := by decide +kernel
theorem d2_43 : decode method_3_code 43 = .ok (.ireturn, 1) := by decide +kernel
theorem d3_0 : decode method_4_code 0 = .ok (.iload_n 0, 1) := by decide +kernel
theorem d3_1 : decode method_4_code 1 = .ok (.iconst 1, 1) := by decide +kernel
theorem d3_2 : decode method_4_code 2 = .ok (.if_icmp .ne 18, 3) := by decide +kernel
theorem d3_5 : decode method_4_code 5 = .ok (.new 8, 3) := by decide +kernel
theorem d3_8 : decode method_4_code 8 = .ok (.dup, 1) := by decide +kernel
theorem d3_9 : decode method_4_code 9 = .ok (.iconst 1, 1) := by decide +kernel
theorem d3_10 : decode method_4_code 10 = .ok (.newarray .char, 2) := by decide +kernel
theorem d3_12 : decode method_4_code 12 = .ok (.dup, 1) := by decide +kernel
theorem d3_13 : decode method_4_code 13 = .ok (.iconst 0, 1) := by decide +kernel
theorem d3_14 : decode method_4_code 14 = .ok (.iload_n 1, 1) := by decide +kernel
theorem d3_15 : decode method_4_code 15 = .ok (.castore, 1) := by decide +kernel
theorem d3_16 : decode method_4_code 16 = .ok (.invokespecial 10, 3) := by decide +kernel
theorem d4_0 : decode jdk_42_method_3_code 0 = .ok (.aload_n 0, 1) := by decide +kernel
theorem d4_1 : decode jdk_42_method_3_code 1 = .ok (.aload_n 1, 1) := by decide +kernel
theorem d4_2 : decode jdk_42_method_3_code 2 = .ok (.iconst 0, 1) := by decide +kernel
theorem d4_3 : decode jdk_42_method_3_code 3 = .ok (.aload_n 1, 1) := by decide +kernel
theorem d4_4 : decode jdk_42_method_3_code 4 = .ok (.arraylength, 1) := by decide +kernel
theorem d4_5 : decode jdk_42_method_3_code 5 = .ok (.aconst_null, 1) := by decide +kernel
theorem d4_6 : decode jdk_42_method_3_code 6 = .ok (.invokespecial 27, 3) := by decide +kernel
theorem d5_0 : decode jdk_42_method_149_code 0 = .ok (.aload_n 0, 1) := by decide +kernel
theorem d5_1 : decode jdk_42_method_149_code 1 = .ok (.invokespecial 1, 3) := by decide +kernel
theorem d5_4 : decode jdk_42_method_149_code 4 = .ok (.iload_n 3, 1) := by decide +kernel
theorem d5_5 : decode jdk_42_method_149_code 5 = .ok (.ifCond .ne 22, 3) := by decide +kernel
theorem d5_27 : decode jdk_42_method_149_code 27 = .ok (.getstatic 38, 3) := by decide +kernel
theorem d5_30 : decode jdk_42_method_149_code 30 = .ok (.ifCond .eq 28, 3) := by decide +kernel
theorem d5_33 : decode jdk_42_method_149_code 33 = .ok (.aload_n 1, 1) := by decide +kernel
theorem d5_34 : decode jdk_42_method_149_code 34 = .ok (.iload_n 2, 1) := by decide +kernel
theorem d5_35 : decode jdk_42_method_149_code 35 = .ok (.iload_n 3, 1) := by decide +kernel
theorem d5_36 : decode jdk_42_method_149_code 36 = .ok (.invokestatic 177, 3) := by decide +kernel
theorem d7_0 : decode jdk_52_method_16_code 0 = .ok (.iload_n 2, 1) := by decide +kernel
theorem d7_1 : decode jdk_52_method_16_code 1 = .ok (.newarray .byte, 2) := by decide +kernel
theorem d7_3 : decode jdk_52_method_16_code 3 = .ok (.astore_n 3, 1) := by decide +kernel
theorem d7_4 : decode jdk_52_method_16_code 4 = .ok (.aload_n 0, 1) := by decide +kernel
theorem d7_5 : decode jdk_52_method_16_code 5 = .ok (.iload_n 1, 1) := by decide +kernel
theorem d7_6 : decode jdk_52_method_16_code 6 = .ok (.aload_n 3, 1) := by decide +kernel
theorem d7_7 : decode jdk_52_method_16_code 7 = .ok (.iconst 0, 1) := by decide +kernel
theorem d7_8 : decode jdk_52_method_16_code 8 = .ok (.iload_n 2, 1) := by decide +kernel
theorem d7_9 : decode jdk_52_method_16_code 9 = .ok (.invokestatic 115, 3) := by decide +kernel
theorem d8_0 : decode jdk_52_method_21_code 0 = .ok (.iconst 0, 1) := by decide +kernel
theorem d8_1 : decode jdk_52_method_21_code 1 = .ok (.istore 5, 2) := by decide +kernel
theorem d8_3 : decode jdk_52_method_21_code 3 = .ok (.iload 5, 2) := by decide +kernel
theorem d8_5 : decode jdk_52_method_21_code 5 = .ok (.iload 4, 2) := by decide +kernel
theorem d8_7 : decode jdk_52_method_21_code 7 = .ok (.if_icmp .ge 37, 3) := by decide +kernel
theorem d8_10 : decode jdk_52_method_21_code 10 = .ok (.aload_n 0, 1) := by decide +kernel
theorem d8_11 : decode jdk_52_method_21_code 11 = .ok (.iload_n 1, 1) := by decide +kernel
theorem d8_12 : decode jdk_52_method_21_code 12 = .ok (.caload, 1) := by decide +kernel
theorem d8_13 : decode jdk_52_method_21_code 13 = .ok (.istore 6, 2) := by decide +kernel
theorem d8_15 : decode jdk_52_method_21_code 15 = .ok (.iload 6, 2) := by decide +kernel
theorem d8_17 : decode jdk_52_method_21_code 17 = .ok (.sipush 255, 3) := by decide +kernel
theorem d8_20 : decode jdk_52_method_21_code 20 = .ok (.if_icmp .le 6, 3) := by decide +kernel
theorem d8_26 : decode jdk_52_method_21_code 26 = .ok (.aload_n 2, 1) := by decide +kernel
theorem d8_27 : decode jdk_52_method_21_code 27 = .ok (.iload_n 3, 1) := by decide +kernel
theorem d8_28 : decode jdk_52_method_21_code 28 = .ok (.iload 6, 2) := by decide +kernel
theorem d8_30 : decode jdk_52_method_21_code 30 = .ok (.i2b, 1) := by decide +kernel
theorem d8_31 : decode jdk_52_method_21_code 31 = .ok (.bastore, 1) := by decide +kernel
theorem d8_32 : decode jdk_52_method_21_code 32 = .ok (.iinc 1 1, 3) := by decide +kernel
theorem d8_35 : decode jdk_52_method_21_code 35 = .ok (.iinc 3 1, 3) := by decide +kernel
theorem d8_38 : decode jdk_52_method_21_code 38 = .ok (.iinc 5 1, 3) := by decide +kernel
theorem d8_41 : decode jdk_52_method_21_code 41 = .ok (.goto (-38), 3) := by decide +kernel
theorem d8_44 : decode jdk_52_method_21_code 44 = .ok (.iload 4, 2) := by decide +kernel
theorem d8_46 : decode jdk_52_method_21_code 46 = .ok (.ireturn, 1) := by decide +kernel
theorem d7_12 : decode jdk_52_method_16_code 12 = .ok (.istore 4, 2) := by decide +kernel
theorem d7_14 : decode jdk_52_method_16_code 14 = .ok (.iload 4, 2) := by decide +kernel
theorem d7_16 : decode jdk_52_method_16_code 16 = .ok (.iload_n 2, 1) := by decide +kernel
theorem d7_17 : decode jdk_52_method_16_code 17 = .ok (.if_icmp .eq 40, 3) := by decide +kernel
theorem d7_57 : decode jdk_52_method_16_code 57 = .ok (.aload_n 3, 1) := by decide +kernel
theorem d7_58 : decode jdk_52_method_16_code 58 = .ok (.areturn, 1) := by decide +kernel
theorem d5_39 : decode jdk_42_method_149_code 39 = .ok (.astore 5, 2) := by decide +kernel
theorem d5_41 : decode jdk_42_method_149_code 41 = .ok (.aload_n 0, 1) := by decide +kernel
theorem d5_42 : decode jdk_42_method_149_code 42 = .ok (.aload 5, 2) := by decide +kernel
theorem d5_44 : decode jdk_42_method_149_code 44 = .ok (.iload_n 3, 1) := by decide +kernel
theorem d5_45 : decode jdk_42_method_149_code 45 = .ok (.invokestatic 47, 3) := by decide +kernel
theorem d9_0 : decode jdk_52_method_15_code 0 = .ok (.iload_n 1, 1) := by decide +kernel
theorem d9_1 : decode jdk_52_method_15_code 1 = .ok (.aload_n 0, 1) := by decide +kernel
theorem d9_2 : decode jdk_52_method_15_code 2 = .ok (.arraylength, 1) := by decide +kernel
theorem d9_3 : decode jdk_52_method_15_code 3 = .ok (.isub, 1) := by decide +kernel
theorem d9_4 : decode jdk_52_method_15_code 4 = .ok (.bipush 31, 2) := by decide +kernel
theorem d9_6 : decode jdk_52_method_15_code 6 = .ok (.iushr, 1) := by decide +kernel
theorem d9_7 : decode jdk_52_method_15_code 7 = .ok (.i2b, 1) := by decide +kernel
theorem d9_8 : decode jdk_52_method_15_code 8 = .ok (.ireturn, 1) := by decide +kernel
theorem d5_48 : decode jdk_42_method_149_code 48 = .ok (.putfield 15, 3) := by decide +kernel
theorem d5_51 : decode jdk_42_method_149_code 51 = .ok (.aload_n 0, 1) := by decide +kernel
theorem d5_52 : decode jdk_42_method_149_code 52 = .ok (.aload 5, 2) := by decide +kernel
theorem d5_54 : decode jdk_42_method_149_code 54 = .ok (.putfield 9, 3) := by decide +kernel
theorem d5_57 : decode jdk_42_method_149_code 57 = .ok (.return_, 1) := by decide +kernel
theorem d4_9 : decode jdk_42_method_3_code 9 = .ok (.return_, 1) := by decide +kernel
theorem d3_19 : decode method_4_code 19 = .ok (.areturn, 1) := by decide +kernel
theorem d10_0 : decode prog_97_method_1_code 0 = .ok (.aload_n 0, 1) := by decide +kernel
theorem d10_1 : decode prog_97_method_1_code 1 = .ok (.invokespecial 1, 3) := by decide +kernel
theorem d11_0 : decode jdk_30_method_1_code 0 = .ok (.aload_n 0, 1) := by decide +kernel
theorem d11_1 : decode jdk_30_method_1_code 1 = .ok (.invokespecial 1, 3) := by decide +kernel
theorem d11_4 : decode jdk_30_method_1_code 4 = .ok (.return_, 1) := by decide +kernel
theorem d10_4 : decode prog_97_method_1_code 4 = .ok (.aload_n 1, 1) := by decide +kernel
theorem d10_5 : decode prog_97_method_1_code 5 = .ok (.invokestatic 7, 3) := by decide +kernel
theorem d12_0 : decode prog_97_method_2_code 0 = .ok (.aload_n 0, 1) := by decide +kernel
theorem d12_1 : decode prog_97_method_2_code 1 = .ok (.invokevirtual 31, 3) := by decide +kernel
theorem d13_0 : decode jdk_42_method_55_code 0 = .ok (.aload_n 0, 1) := by decide +kernel
theorem d13_1 : decode jdk_42_method_55_code 1 = .ok (.getfield 9, 3) := by decide +kernel
theorem d13_4 : decode jdk_42_method_55_code 4 = .ok (.arraylength, 1) := by decide +kernel
theorem d13_5 : decode jdk_42_method_55_code 5 = .ok (.ifCond .ne 7, 3) := by decide +kernel
theorem d13_12 : decode jdk_42_method_55_code 12 = .ok (.iconst 0, 1) := by decide +kernel
theorem d13_13 : decode jdk_42_method_55_code 13 = .ok (.ireturn, 1) := by decide +kernel
theorem d12_4 : decode prog_97_method_2_code 4 = .ok (.ifCond .ne 27, 3) := by decide +kernel
theorem d12_7 : decode prog_97_method_2_code 7 = .ok (.aload_n 0, 1) := by decide +kernel
theorem d12_8 : decode prog_97_method_2_code 8 = .ok (.iconst 0, 1) := by decide +kernel
theorem d12_9 : decode prog_97_method_2_code 9 = .ok (.invokevirtual 37, 3) := by decide +kernel
theorem d14_0 : decode jdk_42_method_56_code 0 = .ok (.aload_n 0, 1) := by decide +kernel
theorem d14_1 : decode jdk_42_method_56_code 1 = .ok (.invokevirtual 492, 3) := by decide +kernel
theorem d15_0 : decode jdk_42_method_154_code 0 = .ok (.getstatic 38, 3) := by decide +kernel
theorem d15_3 : decode jdk_42_method_154_code 3 = .ok (.ifCond .eq 14, 3) := by decide +kernel
theorem d15_6 : decode jdk_42_method_154_code 6 = .ok (.aload_n 0, 1) := by decide +kernel
theorem d15_7 : decode jdk_42_method_154_code 7 = .ok (.getfield 15, 3) := by decide +kernel
theorem d15_10 : decode jdk_42_method_154_code 10 = .ok (.ifCond .ne 7, 3) := by decide +kernel
theorem d15_13 : decode jdk_42_method_154_code 13 = .ok (.iconst 1, 1) := by decide +kernel
theorem d15_14 : decode jdk_42_method_154_code 14 = .ok (.goto 4, 3) := by decide +kernel
theorem d15_18 : decode jdk_42_method_154_code 18 = .ok (.ireturn, 1) := by decide +kernel
theorem d14_4 : decode jdk_42_method_56_code 4 = .ok (.ifCond .eq 12, 3) := by decide +kernel
theorem d14_7 : decode jdk_42_method_56_code 7 = .ok (.aload_n 0, 1) := by decide +kernel
theorem d14_8 : decode jdk_42_method_56_code 8 = .ok (.getfield 9, 3) := by decide +kernel
theorem d14_11 : decode jdk_42_method_56_code 11 = .ok (.iload_n 1, 1) := by decide +kernel
theorem d14_12 : decode jdk_42_method_56_code 12 = .ok (.invokestatic 495, 3) := by decide +kernel
theorem d16_0 : decode jdk_43_method_2_code 0 = .ok (.iload_n 1, 1) := by decide +kernel
theorem d16_1 : decode jdk_43_method_2_code 1 = .ok (.aload_n 0, 1) := by decide +kernel
theorem d16_2 : decode jdk_43_method_2_code 2 = .ok (.arraylength, 1) := by decide +kernel
theorem d16_3 : decode jdk_43_method_2_code 3 = .ok (.invokestatic 9, 3) := by decide +kernel
theorem d17_0 : decode jdk_42_method_155_code 0 = .ok (.iload_n 0, 1) := by decide +kernel
theorem d17_1 : decode jdk_42_method_155_code 1 = .ok (.iload_n 1, 1) := by decide +kernel
theorem d17_2 : decode jdk_42_method_155_code 2 = .ok (.getstatic 1053, 3) := by decide +kernel
theorem d17_5 : decode jdk_42_method_155_code 5 = .ok (.invokestatic 1059, 3) := by decide +kernel
theorem d18_0 : decode jdk_41_method_11_code 0 = .ok (.iload_n 0, 1) := by decide +kernel
theorem d18_1 : decode jdk_41_method_11_code 1 = .ok (.ifCond .lt 8, 3) := by decide +kernel
theorem d18_4 : decode jdk_41_method_11_code 4 = .ok (.iload_n 0, 1) := by decide +kernel
theorem d18_5 : decode jdk_41_method_11_code 5 = .ok (.iload_n 1, 1) := by decide +kernel
theorem d18_6 : decode jdk_41_method_11_code 6 = .ok (.if_icmp .lt 10, 3) := by decide +kernel
theorem d18_16 : decode jdk_41_method_11_code 16 = .ok (.iload_n 0, 1) := by decide +kernel
theorem d18_17 : decode jdk_41_method_11_code 17 = .ok (.ireturn, 1) := by decide +kernel
theorem d17_8 : decode jdk_42_method_155_code 8 = .ok (.pop, 1) := by decide +kernel
theorem d17_9 : decode jdk_42_method_155_code 9 = .ok (.return_, 1) := by decide +kernel
theorem d16_6 : decode jdk_43_method_2_code 6 = .ok (.aload_n 0, 1) := by decide +kernel
theorem d16_7 : decode jdk_43_method_2_code 7 = .ok (.iload_n 1, 1) := by decide +kernel
theorem d16_8 : decode jdk_43_method_2_code 8 = .ok (.baload, 1) := by decide +kernel
theorem d16_9 : decode jdk_43_method_2_code 9 = .ok (.sipush 255, 3) := by decide +kernel
theorem d16_12 : decode jdk_43_method_2_code 12 = .ok (.iand, 1) := by decide +kernel
theorem d16_13 : decode jdk_43_method_2_code 13 = .ok (.i2c, 1) := by decide +kernel
theorem d16_14 : decode jdk_43_method_2_code 14 = .ok (.ireturn, 1) := by decide +kernel
theorem d14_15 : decode jdk_42_method_56_code 15 = .ok (.ireturn, 1) := by decide +kernel
theorem d12_12 : decode prog_97_method_2_code 12 = .ok (.bipush 97, 2) := by decide +kernel
theorem d12_14 : decode prog_97_method_2_code 14 = .ok (.if_icmp .lt 17, 3) := by decide +kernel
theorem d12_17 : decode prog_97_method_2_code 17 = .ok (.aload_n 0, 1) := by decide +kernel
theorem d12_18 : decode prog_97_method_2_code 18 = .ok (.iconst 0, 1) := by decide +kernel
theorem d12_19 : decode prog_97_method_2_code 19 = .ok (.invokevirtual 37, 3) := by decide +kernel
theorem d12_22 : decode prog_97_method_2_code 22 = .ok (.bipush 122, 2) := by decide +kernel
theorem d12_24 : decode prog_97_method_2_code 24 = .ok (.if_icmp .gt 7, 3) := by decide +kernel
theorem d12_27 : decode prog_97_method_2_code 27 = .ok (.iconst 1, 1) := by decide +kernel
theorem d12_28 : decode prog_97_method_2_code 28 = .ok (.goto 4, 3) := by decide +kernel
theorem d12_32 : decode prog_97_method_2_code 32 = .ok (.istore_n 1, 1) := by decide +kernel
theorem d12_33 : decode prog_97_method_2_code 33 = .ok (.iconst 1, 1) := by decide +kernel
theorem d12_34 : decode prog_97_method_2_code 34 = .ok (.istore_n 2, 1) := by decide +kernel
theorem d12_35 : decode prog_97_method_2_code 35 = .ok (.iload_n 1, 1) := by decide +kernel
theorem d12_36 : decode prog_97_method_2_code 36 = .ok (.ifCond .eq 65, 3) := by decide +kernel
theorem d12_39 : decode prog_97_method_2_code 39 = .ok (.iload_n 2, 1) := by decide +kernel
theorem d12_40 : decode prog_97_method_2_code 40 = .ok (.aload_n 0, 1) := by decide +kernel
theorem d12_41 : decode prog_97_method_2_code 41 = .ok (.invokevirtual 41, 3) := by decide +kernel
theorem d19_0 : decode jdk_42_method_54_code 0 = .ok (.aload_n 0, 1) := by decide +kernel
theorem d19_1 : decode jdk_42_method_54_code 1 = .ok (.getfield 9, 3) := by decide +kernel
theorem d19_4 : decode jdk_42_method_54_code 4 = .ok (.arraylength, 1) := by decide +kernel
theorem d19_5 : decode jdk_42_method_54_code 5 = .ok (.aload_n 0, 1) := by decide +kernel
theorem d19_6 : decode jdk_42_method_54_code 6 = .ok (.invokevirtual 335, 3) := by decide +kernel
theorem d20_0 : decode jdk_42_method_152_code 0 = .ok (.getstatic 38, 3) := by decide +kernel
theorem d20_3 : decode jdk_42_method_152_code 3 = .ok (.ifCond .eq 10, 3) := by decide +kernel
theorem d20_6 : decode jdk_42_method_152_code 6 = .ok (.aload_n 0, 1) := by decide +kernel
theorem d20_7 : decode jdk_42_method_152_code 7 = .ok (.getfield 15, 3) := by decide +kernel
theorem d20_10 : decode jdk_42_method_152_code 10 = .ok (.goto 4, 3) := by decide +kernel
theorem d20_14 : decode jdk_42_method_152_code 14 = .ok (.ireturn, 1) := by decide +kernel
theorem d19_9 : decode jdk_42_method_54_code 9 = .ok (.ishr, 1) := by decide +kernel
theorem d19_10 : decode jdk_42_method_54_code 10 = .ok (.ireturn, 1) := by decide +kernel
theorem d12_44 : decode prog_97_method_2_code 44 = .ok (.if_icmp .ge 57, 3) := by decide +kernel
theorem d12_101 : decode prog_97_method_2_code 101 = .ok (.iload_n 1, 1) := by decide +kernel
theorem d12_102 : decode prog_97_method_2_code 102 = .ok (.ireturn, 1) := by decide +kernel
theorem d10_8 : decode prog_97_method_1_code 8 = .ok (.ifCond .ne 20, 3) := by decide +kernel
theorem d10_28 : decode prog_97_method_1_code 28 = .ok (.aload_n 0, 1) := by decide +kernel
theorem d10_29 : decode prog_97_method_1_code 29 = .ok (.aload_n 1, 1) := by decide +kernel
theorem d10_30 : decode prog_97_method_1_code 30 = .ok (.putfield 27, 3) := by decide +kernel
theorem d10_33 : decode prog_97_method_1_code 33 = .ok (.return_, 1) := by decide +kernel
theorem d21_0 : decode prog_97_method_3_code 0 = .ok (.aload_n 1, 1) := by decide +kernel
theorem d21_1 : decode prog_97_method_3_code 1 = .ok (.instanceof 8, 3) := by decide +kernel
theorem d21_4 : decode prog_97_method_3_code 4 = .ok (.ifCond .eq 26, 3) := by decide +kernel
theorem d21_7 : decode prog_97_method_3_code 7 = .ok (.aload_n 1, 1) := by decide +kernel
theorem d21_8 : decode prog_97_method_3_code 8 = .ok (.checkcast 8, 3) := by decide +kernel
theorem d21_11 : decode prog_97_method_3_code 11 = .ok (.astore_n 2, 1) := by decide +kernel
theorem d21_12 : decode prog_97_method_3_code 12 = .ok (.aload_n 0, 1) := by decide +kernel
theorem d21_13 : decode prog_97_method_3_code 13 = .ok (.getfield 27, 3) := by decide +kernel
theorem d21_16 : decode prog_97_method_3_code 16 = .ok (.aload_n 2, 1) := by decide +kernel
theorem d21_17 : decode prog_97_method_3_code 17 = .ok (.getfield 27, 3) := by decide +kernel
theorem d21_20 : decode prog_97_method_3_code 20 = .ok (.invokevirtual 45, 3) := by decide +kernel
theorem d22_0 : decode jdk_42_method_66_code 0 = .ok (.aload_n 0, 1) := by decide +kernel
theorem d22_1 : decode jdk_42_method_66_code 1 = .ok (.aload_n 1, 1) := by decide +kernel
theorem d22_2 : decode jdk_42_method_66_code 2 = .ok (.if_acmp .ne 5, 3) := by decide +kernel
theorem d22_7 : decode jdk_42_method_66_code 7 = .ok (.aload_n 1, 1) := by decide +kernel
theorem d22_8 : decode jdk_42_method_66_code 8 = .ok (.instanceof 10, 3) := by decide +kernel
theorem d22_11 : decode jdk_42_method_66_code 11 = .ok (.ifCond .eq 43, 3) := by decide +kernel
theorem d22_14 : decode jdk_42_method_66_code 14 = .ok (.aload_n 1, 1) := by decide +kernel
theorem d22_15 : decode jdk_42_method_66_code 15 = .ok (.checkcast 10, 3) := by decide +kernel
theorem d22_18 : decode jdk_42_method_66_code 18 = .ok (.astore_n 2, 1) := by decide +kernel
theorem d22_19 : decode jdk_42_method_66_code 19 = .ok (.getstatic 38, 3) := by decide +kernel
theorem d22_22 : decode jdk_42_method_66_code 22 = .ok (.ifCond .eq 14, 3) := by decide +kernel
theorem d22_25 : decode jdk_42_method_66_code 25 = .ok (.aload_n 0, 1) := by decide +kernel
theorem d22_26 : decode jdk_42_method_66_code 26 = .ok (.getfield 15, 3) := by decide +kernel
theorem d22_29 : decode jdk_42_method_66_code 29 = .ok (.aload_n 2, 1) := by decide +kernel
theorem d22_30 : decode jdk_42_method_66_code 30 = .ok (.getfield 15, 3) := by decide +kernel
theorem d22_33 : decode jdk_42_method_66_code 33 = .ok (.if_icmp .ne 21, 3) := by decide +kernel
theorem d22_36 : decode jdk_42_method_66_code 36 = .ok (.aload_n 0, 1) := by decide +kernel
theorem d22_37 : decode jdk_42_method_66_code 37 = .ok (.getfield 9, 3) := by decide +kernel
theorem d22_40 : decode jdk_42_method_66_code 40 = .ok (.aload_n 2, 1) := by decide +kernel
theorem d22_41 : decode jdk_42_method_66_code 41 = .ok (.getfield 9, 3) := by decide +kernel
theorem d22_44 : decode jdk_42_method_66_code 44 = .ok (.invokestatic 541, 3) := by decide +kernel
theorem d23_0 : decode jdk_43_method_13_code 0 = .ok (.aload_n 0, 1) := by decide +kernel
theorem d23_1 : decode jdk_43_method_13_code 1 = .ok (.arraylength, 1) := by decide +kernel
theorem d23_2 : decode jdk_43_method_13_code 2 = .ok (.aload_n 1, 1) := by decide +kernel
theorem d23_3 : decode jdk_43_method_13_code 3 = .ok (.arraylength, 1) := by decide +kernel
theorem d23_4 : decode jdk_43_method_13_code 4 = .ok (.if_icmp .ne 30, 3) := by decide +kernel
theorem d23_7 : decode jdk_43_method_13_code 7 = .ok (.iconst 0, 1) := by decide +kernel
theorem d23_8 : decode jdk_43_method_13_code 8 = .ok (.istore_n 2, 1) := by decide +kernel
theorem d23_9 : decode jdk_43_method_13_code 9 = .ok (.iload_n 2, 1) := by decide +kernel
theorem d23_10 : decode jdk_43_method_13_code 10 = .ok (.aload_n 0, 1) := by decide +kernel
theorem d23_11 : decode jdk_43_method_13_code 11 = .ok (.arraylength, 1) := by decide +kernel
theorem d23_12 : decode jdk_43_method_13_code 12 = .ok (.if_icmp .ge 20, 3) := by decide +kernel
theorem d23_15 : decode jdk_43_method_13_code 15 = .ok (.aload_n 0, 1) := by decide +kernel
theorem d23_16 : decode jdk_43_method_13_code 16 = .ok (.iload_n 2, 1) := by decide +kernel
theorem d23_17 : decode jdk_43_method_13_code 17 = .ok (.baload, 1) := by decide +kernel
theorem d23_18 : decode jdk_43_method_13_code 18 = .ok (.aload_n 1, 1) := by decide +kernel
theorem d23_19 : decode jdk_43_method_13_code 19 = .ok (.iload_n 2, 1) := by decide +kernel
theorem d23_20 : decode jdk_43_method_13_code 20 = .ok (.baload, 1) := by decide +kernel
theorem d23_21 : decode jdk_43_method_13_code 21 = .ok (.if_icmp .eq 5, 3) := by decide +kernel
theorem d23_24 : decode jdk_43_method_13_code 24 = .ok (.iconst 0, 1) := by decide +kernel
theorem d23_25 : decode jdk_43_method_13_code 25 = .ok (.ireturn, 1) := by decide +kernel
theorem d22_47 : decode jdk_42_method_66_code 47 = .ok (.ifCond .eq 7, 3) := by decide +kernel
theorem d22_54 : decode jdk_42_method_66_code 54 = .ok (.iconst 0, 1) := by decide +kernel
theorem d22_55 : decode jdk_42_method_66_code 55 = .ok (.ireturn, 1) := by decide +kernel
theorem d21_23 : decode prog_97_method_3_code 23 = .ok (.ifCond .eq 7, 3) := by decide +kernel
theorem d21_30 : decode prog_97_method_3_code 30 = .ok (.iconst 0, 1) := by decide +kernel
theorem d21_31 : decode prog_97_method_3_code 31 = .ok (.ireturn, 1) := by decide +kernel
theorem d22_5 : decode jdk_42_method_66_code 5 = .ok (.iconst 1, 1) := by decide +kernel
theorem d22_6 : decode jdk_42_method_66_code 6 = .ok (.ireturn, 1) := by decide +kernel
theorem d21_26 : decode prog_97_method_3_code 26 = .ok (.iconst 1, 1) := by decide +kernel
theorem d21_27 : decode prog_97_method_3_code 27 = .ok (.goto 4, 3) := by decide +kernel
theorem d23_26 : decode jdk_43_method_13_code 26 = .ok (.iinc 2 1, 3) := by decide +kernel
theorem d23_29 : decode jdk_43_method_13_code 29 = .ok (.goto (-20), 3) := by decide +kernel
theorem d23_32 : decode jdk_43_method_13_code 32 = .ok (.iconst 1, 1) := by decide +kernel
theorem d23_33 : decode jdk_43_method_13_code 33 = .ok (.ireturn, 1) := by decide +kernel
theorem d22_50 : decode jdk_42_method_66_code 50 = .ok (.iconst 1, 1) := by decide +kernel
theorem d22_51 : decode jdk_42_method_66_code 51 = .ok (.goto 4, 3) := by decide +kernel
theorem d3_20 : decode method_4_code 20 = .ok (.iload_n 0, 1) := by decide +kernel
theorem d3_21 : decode method_4_code 21 = .ok (.iconst 2, 1) := by decide +kernel
theorem d3_22 : decode method_4_code 22 = .ok (.if_icmp .ne 22, 3) := by decide +kernel
theorem d3_25 : decode method_4_code 25 = .ok (.new 8, 3) := by decide +kernel
theorem d3_28 : decode method_4_code 28 = .ok (.dup, 1) := by decide +kernel
theorem d3_29 : decode method_4_code 29 = .ok (.iconst 2, 1) := by decide +kernel
theorem d3_30 : decode method_4_code 30 = .ok (.newarray .char, 2) := by decide +kernel
theorem d3_32 : decode method_4_code 32 = .ok (.dup, 1) := by decide +kernel
theorem d3_33 : decode method_4_code 33 = .ok (.iconst 0, 1) := by decide +kernel
theorem d3_34 : decode method_4_code 34 = .ok (.iload_n 1, 1) := by decide +kernel
theorem d3_35 : decode method_4_code 35 = .ok (.castore, 1) := by decide +kernel
theorem d3_36 : decode method_4_code 36 = .ok (.dup, 1) := by decide +kernel
theorem d3_37 : decode method_4_code 37 = .ok (.iconst 1, 1) := by decide +kernel
theorem d3_38 : decode method_4_code 38 = .ok (.iload_n 2, 1) := by decide +kernel
theorem d3_39 : decode method_4_code 39 = .ok (.castore, 1) := by decide +kernel
theorem d3_40 : decode method_4_code 40 = .ok (.invokespecial 10, 3) := by decide +kernel
theorem d3_43 : decode method_4_code 43 = .ok (.areturn, 1) := by decide +kernel
theorem d12_47 : decode prog_97_method_2_code 47 = .ok (.aload_n 0, 1) := by decide +kernel
theorem d12_48 : decode prog_97_method_2_code 48 = .ok (.iload_n 2, 1) := by decide +kernel
theorem d12_49 : decode prog_97_method_2_code 49 = .ok (.invokevirtual 37, 3) := by decide +kernel
theorem d12_52 : decode prog_97_method_2_code 52 = .ok (.istore_n 3, 1) := by decide +kernel
theorem d12_94 : decode prog_97_method_2_code 94 = .ok (.istore_n 1, 1) := by decide +kernel
theorem d12_95 : decode prog_97_method_2_code 95 = .ok (.iinc 2 1, 3) := by decide +kernel
theorem d12_98 : decode prog_97_method_2_code 98 = .ok (.goto (-63), 3) := by decide +kernel
theorem d23_34 : decode jdk_43_method_13_code 34 = .ok (.iconst 0, 1) := by decide +kernel
theorem d23_35 : decode jdk_43_method_13_code 35 = .ok (.ireturn, 1) := by decide +kernel
theorem d3_44 : decode method_4_code 44 = .ok (.new 8, 3) := by decide +kernel
theorem d3_47 : decode method_4_code 47 = .ok (.dup, 1) := by decide +kernel
theorem d3_48 : decode method_4_code 48 = .ok (.iconst 3, 1) := by decide +kernel
theorem d3_49 : decode method_4_code 49 = .ok (.newarray .char, 2) := by decide +kernel
theorem d3_51 : decode method_4_code 51 = .ok (.dup, 1) := by decide +kernel
theorem d3_52 : decode method_4_code 52 = .ok (.iconst 0, 1) := by decide +kernel
theorem d3_53 : decode method_4_code 53 = .ok (.iload_n 1, 1) := by decide +kernel
theorem d3_54 : decode method_4_code 54 = .ok (.castore, 1) := by decide +kernel
theorem d3_55 : decode method_4_code 55 = .ok (.dup, 1) := by decide +kernel
theorem d3_56 : decode method_4_code 56 = .ok (.iconst 1, 1) := by decide +kernel
theorem d3_57 : decode method_4_code 57 = .ok (.iload_n 2, 1) := by decide +kernel
theorem d3_58 : decode method_4_code 58 = .ok (.castore, 1) := by decide +kernel
theorem d3_59 : decode method_4_code 59 = .ok (.dup, 1) := by decide +kernel
theorem d3_60 : decode method_4_code 60 = .ok (.iconst 2, 1) := by decide +kernel
theorem d3_61 : decode method_4_code 61 = .ok (.iload_n 3, 1) := by decide +kernel
theorem d3_62 : decode method_4_code 62 = .ok (.castore, 1) := by decide +kernel
theorem d3_63 : decode method_4_code 63 = .ok (.invokespecial 10, 3) := by decide +kernel
theorem d3_66 : decode method_4_code 66 = .ok (.areturn, 1) := by decide +kernel
theorem ef_method_2_I (m : MethodId) (x0 : Int32) : entryFrame m #[(.int x0)] 1 = mkF m 0 #[.val (.int x0)] [] := by first | (simp [entryFrame, mkF, argsToLocals, Value.category]; done) | rfl
theorem ef_method_3_I (m : MethodId) (x0 : Int32) : entryFrame m #[(.int x0)] 2 = mkF m 0 #[.val (.int x0), .unset] [] := by first | (simp [entryFrame, mkF, argsToLocals, Value.category]; done) | rfl
theorem ef_jdk_52_method_21_RIRII (m : MethodId) (x0 : Addr) (x1 : Int32) (x2 : Addr) (x3 : Int32) (x4 : Int32) : entryFrame m #[(.ref x0), (.int x1), (.ref x2), (.int x3), (.int x4)] 7 = mkF m 0 #[.val (.ref x0), .val (.int x1), .val (.ref x2), .val (.int x3), .val (.int x4), .unset, .unset] [] := by first | (simp [entryFrame, mkF, argsToLocals, Value.category]; done) | rfl
theorem ef_jdk_52_method_16_RII (m : MethodId) (x0 : Addr) (x1 : Int32) (x2 : Int32) : entryFrame m #[(.ref x0), (.int x1), (.int x2)] 6 = mkF m 0 #[.val (.ref x0), .val (.int x1), .val (.int x2), .unset, .unset, .unset] [] := by first | (simp [entryFrame, mkF, argsToLocals, Value.category]; done) | rfl
theorem ef_jdk_52_method_15_RI (m : MethodId) (x0 : Addr) (x1 : Int32) : entryFrame m #[(.ref x0), (.int x1)] 2 = mkF m 0 #[.val (.ref x0), .val (.int x1)] [] := by first | (simp [entryFrame, mkF, argsToLocals, Value.category]; done) | rfl
theorem ef_jdk_42_method_149_RRIIn (m : MethodId) (x0 : Addr) (x1 : Addr) (x2 : Int32) (x3 : Int32) : entryFrame m #[(.ref x0), (.ref x1), (.int x2), (.int x3), .null] 6 = mkF m 0 #[.val (.ref x0), .val (.ref x1), .val (.int x2), .val (.int x3), .val .null, .unset] [] := by first | (simp [entryFrame, mkF, argsToLocals, Value.category]; done) | rfl
theorem ef_jdk_42_method_3_RR (m : MethodId) (x0 : Addr) (x1 : Addr) : entryFrame m #[(.ref x0), (.ref x1)] 2 = mkF m 0 #[.val (.ref x0), .val (.ref x1)] [] := by first | (simp [entryFrame, mkF, argsToLocals, Value.category]; done) | rfl
theorem ef_method_4_IIII (m : MethodId) (x0 : Int32) (x1 : Int32) (x2 : Int32) (x3 : Int32) : entryFrame m #[(.int x0), (.int x1), (.int x2), (.int x3)] 4 = mkF m 0 #[.val (.int x0), .val (.int x1), .val (.int x2), .val (.int x3)] [] := by first | (simp [entryFrame, mkF, argsToLocals, Value.category]; done) | rfl
theorem ef_jdk_30_method_1_R (m : MethodId) (x0 : Addr) : entryFrame m #[(.ref x0)] 1 = mkF m 0 #[.val (.ref x0)] [] := by first | (simp [entryFrame, mkF, argsToLocals, Value.category]; done) | rfl
theorem ef_jdk_42_method_55_R (m : MethodId) (x0 : Addr) : entryFrame m #[(.ref x0)] 1 = mkF m 0 #[.val (.ref x0)] [] := by first | (simp [entryFrame, mkF, argsToLocals, Value.category]; done) | rfl
theorem ef_jdk_42_method_154_R (m : MethodId) (x0 : Addr) : entryFrame m #[(.ref x0)] 1 = mkF m 0 #[.val (.ref x0)] [] := by first | (simp [entryFrame, mkF, argsToLocals, Value.category]; done) | rfl
theorem ef_jdk_41_method_11_IIX (m : MethodId) (x0 : Int32) (x1 : Int32) (x2 : Value) (y2 : x2.isRef = true) : entryFrame m #[(.int x0), (.int x1), x2] 3 = mkF m 0 #[.val (.int x0), .val (.int x1), .val x2] [] := by rcases ref_cases y2 with rfl | ⟨y2', rfl⟩ <;> first | (simp [entryFrame, mkF, argsToLocals, Value.category]; done) | rfl
theorem ef_jdk_42_method_155_II (m : MethodId) (x0 : Int32) (x1 : Int32) : entryFrame m #[(.int x0), (.int x1)] 2 = mkF m 0 #[.val (.int x0), .val (.int x1)] [] := by first | (simp [entryFrame, mkF, argsToLocals, Value.category]; done) | rfl
theorem ef_jdk_43_method_2_RI (m : MethodId) (x0 : Addr) (x1 : Int32) : entryFrame m #[(.ref x0), (.int x1)] 2 = mkF m 0 #[.val (.ref x0), .val (.int x1)] [] := by first | (simp [entryFrame, mkF, argsToLocals, Value.category]; done) | rfl
theorem ef_jdk_42_method_56_RI (m : MethodId) (x0 : Addr) (x1 : Int32) : entryFrame m #[(.ref x0), (.int x1)] 2 = mkF m 0 #[.val (.ref x0), .val (.int x1)] [] := by first | (simp [entryFrame, mkF, argsToLocals, Value.category]; done) | rfl
theorem ef_jdk_42_method_152_R (m : MethodId) (x0 : Addr) : entryFrame m #[(.ref x0)] 1 = mkF m 0 #[.val (.ref x0)] [] := by first | (simp [entryFrame, mkF, argsToLocals, Value.category]; done) | rfl
theorem ef_jdk_42_method_54_R (m : MethodId) (x0 : Addr) : entryFrame m #[(.ref x0)] 1 = mkF m 0 #[.val (.ref x0)] [] := by first | (simp [entryFrame, mkF, argsToLocals, Value.category]; done) | rfl
theorem ef_prog_97_method_2_R (m : MethodId) (x0 : Addr) : entryFrame m #[(.ref x0)] 4 = mkF m 0 #[.val (.ref x0), .unset, .unset, .unset] [] := by first | (simp [entryFrame, mkF, argsToLocals, Value.category]; done) | rfl
theorem ef_prog_97_method_1_RR (m : MethodId) (x0 : Addr) (x1 : Addr) : entryFrame m #[(.ref x0), (.ref x1)] 2 = mkF m 0 #[.val (.ref x0), .val (.ref x1)] [] := by first | (simp [entryFrame, mkF, argsToLocals, Value.category]; done) | rfl
theorem ef_jdk_43_method_13_RR (m : MethodId) (x0 : Addr) (x1 : Addr) : entryFrame m #[(.ref x0), (.ref x1)] 3 = mkF m 0 #[.val (.ref x0), .val (.ref x1), .unset] [] := by first | (simp [entryFrame, mkF, argsToLocals, Value.category]; done) | rfl
theorem ef_jdk_42_method_66_RR (m : MethodId) (x0 : Addr) (x1 : Addr) : entryFrame m #[(.ref x0), (.ref x1)] 3 = mkF m 0 #[.val (.ref x0), .val (.ref x1), .unset] [] := by first | (simp [entryFrame, mkF, argsToLocals, Value.category]; done) | rfl
theorem ef_prog_97_method_3_RR (m : MethodId) (x0 : Addr) (x1 : Addr) : entryFrame m #[(.ref x0), (.ref x1)] 3 = mkF m 0 #[.val (.ref x0), .val (.ref x1), .unset] [] := by first | (simp [entryFrame, mkF, argsToLocals, Value.category]; done) | rfl
theorem ef_prog_97_method_3_Rn (m : MethodId) (x0 : Addr) : entryFrame m #[(.ref x0), .null] 3 = mkF m 0 #[.val (.ref x0), .val .null, .unset] [] := by first | (simp [entryFrame, mkF, argsToLocals, Value.category]; done) | rfl
theorem ef_code_JJI (m : MethodId) (x0 x1 : Int64) (x2 : Int32) : entryFrame m #[(.long x0), (.long x1), (.int x2)] maxLocals = mkF m 0 #[.val (.long x0), .second, .val (.long x1), .second, iv x2, .unset, .unset, .unset, .unset, .unset, .unset, .unset, .unset, .unset, .unset, .unset, .unset, .unset, .unset] [] := by first | (simp [entryFrame, mkF, argsToLocals, Value.category, maxLocals]; done) | rfl
theorem own_br {p : Program} {l : Launch} {e : Env} {R : Room} {s : State} {m : MethodId} {args : Array Value} {below : List Frame} {meth : Method} {c : Code} {T0 : State} {locs : List Loc} {cells slots : Nat} (X0 : Stand p l e R s m args below meth c T0 locs cells slots) (hx : p.tables.exec = Jvm.exec) (hby : c.code = prog_97_method_2_code) (bb : Addr) (ii ch : Int32) (h : own_aln ch) :
    ∀ target, own_S p e below T0 (mkF m 94 #[.val (.ref bb), .val (.int (1 : Int32)), .val (.int ii), .val (.int ch)] [(.int (1 : Int32))]) target → own_S p e below T0 (mkF m 53 #[.val (.ref bb), .val (.int (1 : Int32)), .val (.int ii), .val (.int ch)] []) target := by
  intro target kt
  rcases h with ⟨l1, u1⟩ | ⟨l1, u1⟩ | ⟨l1, u1⟩
  · show own_S p e below T0 (mkF m 53 #[rv bb, iv (1 : Int32), iv ii, iv ch] []) _
    refine own_iN X0 hx hby d12_53 ?_
    refine XS.bipush X0.here hx rfl (hb hby d12_54) ?_
    refine own_cn X0 hx hby d12_56 (flt (own_nlt rfl (by decide : (97 : Int32).toInt = 97) (by omega))).1 ?_
    refine own_iN X0 hx hby d12_59 ?_
    refine XS.bipush X0.here hx rfl (hb hby d12_60) ?_
    refine own_cy (pc := 62) X0 hx hby d12_62 (flt (own_nlt (by decide : (122 : Int32).toInt = 122) rfl (by omega))).2.2.2 89 ?_
    refine own_k X0 hx hby d12_89 ?_
    refine own_go (pc := 90) X0 hx hby d12_90 94 ?_
    exact kt
  · show own_S p e below T0 (mkF m 53 #[rv bb, iv (1 : Int32), iv ii, iv ch] []) _
    refine own_iN X0 hx hby d12_53 ?_
    refine XS.bipush X0.here hx rfl (hb hby d12_54) ?_
    refine own_cy (pc := 56) X0 hx hby d12_56 (tlt (own_lt rfl (by decide : (97 : Int32).toInt = 97) (by omega))).1 65 ?_
    refine own_iN X0 hx hby d12_65 ?_
    refine XS.bipush X0.here hx rfl (hb hby d12_66) ?_
    refine own_cn X0 hx hby d12_68 (flt (own_nlt rfl (by decide : (65 : Int32).toInt = 65) (by omega))).1 ?_
    refine own_iN X0 hx hby d12_71 ?_
    refine XS.bipush X0.here hx rfl (hb hby d12_72) ?_
    refine own_cy (pc := 74) X0 hx hby d12_74 (flt (own_nlt (by decide : (90 : Int32).toInt = 90) rfl (by omega))).2.2.2 89 ?_
    refine own_k X0 hx hby d12_89 ?_
    refine own_go (pc := 90) X0 hx hby d12_90 94 ?_
    exact kt
  · show own_S p e below T0 (mkF m 53 #[rv bb, iv (1 : Int32), iv ii, iv ch] []) _
    refine own_iN X0 hx hby d12_53 ?_
    refine XS.bipush X0.here hx rfl (hb hby d12_54) ?_
    refine own_cy (pc := 56) X0 hx hby d12_56 (tlt (own_lt rfl (by decide : (97 : Int32).toInt = 97) (by omega))).1 65 ?_
    refine own_iN X0 hx hby d12_65 ?_
    refine XS.bipush X0.here hx rfl (hb hby d12_66) ?_
    refine own_cy (pc := 68) X0 hx hby d12_68 (tlt (own_lt rfl (by decide : (65 : Int32).toInt = 65) (by omega))).1 77 ?_
    refine own_iN X0 hx hby d12_77 ?_
    refine XS.bipush X0.here hx rfl (hb hby d12_78) ?_
    refine own_cn X0 hx hby d12_80 (flt (own_nlt rfl (by decide : (48 : Int32).toInt = 48) (by omega))).1 ?_
    refine own_iN X0 hx hby d12_83 ?_
    refine XS.bipush X0.here hx rfl (hb hby d12_84) ?_
    refine own_cn X0 hx hby d12_86 (flt (own_nlt (by decide : (57 : Int32).toInt = 57) rfl (by omega))).2.2.1 ?_
    refine own_k X0 hx hby d12_89 ?_
    refine own_go (pc := 90) X0 hx hby d12_90 94 ?_
    exact kt
theorem own_p1_s {p : Program} {l : Launch} {e : Env} {s : State} {m : MethodId} {args : Array Value} {below : List Frame} {meth : Method} {c : Code} {T0 : State} {locs : List Loc} (Z : State) (a0 : Array Value) (hw : own_HW Z a0) (q1 q2 : Int64) (p3 la : Int32) (h0 : Heap) (Z0 : Ext Z.heap h0) (hc10 : ((1 : Int32) + ((((q1.toUInt64 >>> ((48 : Int32) &&& 0x3f).toInt64.toUInt64).toInt64) - (((q1.toUInt64 >>> ((48 : Int32) &&& 0x3f).toInt64.toUInt64).toInt64) / (3 : Int64)) * (3 : Int64)).toInt32)) = la) (X0 : Stand p l e room_1 s m args below meth c T0 locs 0 0) (hx : p.tables.exec = Jvm.exec) (hZ : Z.Warmed39 s.vm) (hby : c.code = code) (hml : c.maxLocals = 19) (hown : s.vm.findClass "com/example/faretally/faretally/ReasonEqualsPinLaw" = some m.cls) (e0 : T0.heap = h0) (N0 : Fr Z.heap.size locs) :
    ∃ (T' : State) (L' : List Loc), Stand p l e room_1 s m args below meth c T' L' 0 0 ∧ T'.heap = h0 ∧ Fr Z.heap.size L' ∧ ∀ target, Steps p.tables e below (T'.setTop (mkF m 13 #[.val (.long q1), .second, .val (.long q2), .second, iv p3, iv la, .unset, .unset, .unset, .unset, .unset, .unset, .unset, .unset, .unset, .unset, .unset, .unset, .unset] [])) target → Steps p.tables e below (T0.setTop (mkF m 0 #[.val (.long q1), .second, .val (.long q2), .second, iv p3, .unset, .unset, .unset, .unset, .unset, .unset, .unset, .unset, .unset, .unset, .unset, .unset, .unset, .unset] [])) target := by
  refine ⟨_, _, X0, e0, N0, fun target kt => ?_⟩
  show own_S p e below T0 (mkF m 0 #[.val (.long q1), .second, .val (.long q2), .second, iv p3, .unset, .unset, .unset, .unset, .unset, .unset, .unset, .unset, .unset, .unset, .unset, .unset, .unset, .unset] []) _
  refine own_k X0 hx hby at_0 ?_
  refine XS.lloadN X0.here hx rfl (hb hby at_1) rfl ?_
  refine XS.bipush X0.here hx rfl (hb hby at_2) ?_
  refine XS.lushr X0.here hx rfl (hb hby at_4) rfl ?_
  refine X0.ldc2Long hx hown (mvT hZ (own_w hw 0 rfl)) (g := (mkF m 5 #[.val (.long q1), .second, .val (.long q2), .second, iv p3, .unset, .unset, .unset, .unset, .unset, .unset, .unset, .unset, .unset, .unset, .unset, .unset, .unset, .unset] [(.long ((q1.toUInt64 >>> ((48 : Int32) &&& 0x3f).toInt64.toUInt64).toInt64)), (.int (1 : Int32))])) rfl (hb hby at_5) _ ?_
  refine XS.lrem X0.here hx rfl (hb hby at_8) rfl (by decide) ?_
  refine XS.l2i X0.here hx rfl (hb hby at_9) rfl ?_
  refine XS.iadd X0.here hx rfl (hb hby at_10) rfl ?_
  show own_S p e below T0 (mkF m 11 #[.val (.long q1), .second, .val (.long q2), .second, iv p3, .unset, .unset, .unset, .unset, .unset, .unset, .unset, .unset, .unset, .unset, .unset, .unset, .unset, .unset] [(.int ((1 : Int32) + ((((q1.toUInt64 >>> ((48 : Int32) &&& 0x3f).toInt64.toUInt64).toInt64) - (((q1.toUInt64 >>> ((48 : Int32) &&& 0x3f).toInt64.toUInt64).toInt64) / (3 : Int64)) * (3 : Int64)).toInt32)))]) _
  rw [hc10]
  refine XS.istore X0.here hx rfl (hb hby at_11) rfl (l' := #[.val (.long q1), .second, .val (.long q2), .second, iv p3, iv la, .unset, .unset, .unset, .unset, .unset, .unset, .unset, .unset, .unset, .unset, .unset, .unset, .unset]) rfl ?_
  show own_S p e below T0 (mkF m 13 #[.val (.long q1), .second, .val (.long q2), .second, iv p3, iv la, .unset, .unset, .unset, .unset, .unset, .unset, .unset, .unset, .unset, .unset, .unset, .unset, .unset] []) _
  exact kt
theorem own_p1 {p : Program} {l : Launch} {e : Env} {s : State} {m : MethodId} {args : Array Value} {below : List Frame} {meth : Method} {c : Code} {T0 : State} {locs : List Loc} (Z : State) (a0 : Array Value) (hw : own_HW Z a0) (q1 q2 : Int64) (p3 : Int32) (h0 : Heap) (Z0 : Ext Z.heap h0) (X0 : Stand p l e room_1 s m args below meth c T0 locs 0 0) (hx : p.tables.exec = Jvm.exec) (hZ : Z.Warmed39 s.vm) (hby : c.code = code) (hml : c.maxLocals = 19) (hown : s.vm.findClass "com/example/faretally/faretally/ReasonEqualsPinLaw" = some m.cls) (e0 : T0.heap = h0) (N0 : Fr Z.heap.size locs) :
    ∃ (la : Int32) (T' : State) (L' : List Loc), own_len3 la ∧ Stand p l e room_1 s m args below meth c T' L' 0 0 ∧ T'.heap = h0 ∧ Fr Z.heap.size L' ∧ ∀ target, Steps p.tables e below (T'.setTop (mkF m 13 #[.val (.long q1), .second, .val (.long q2), .second, iv p3, iv la, .unset, .unset, .unset, .unset, .unset, .unset, .unset, .unset, .unset, .unset, .unset, .unset, .unset] [])) target → Steps p.tables e below (T0.setTop (mkF m 0 #[.val (.long q1), .second, .val (.long q2), .second, iv p3, .unset, .unset, .unset, .unset, .unset, .unset, .unset, .unset, .unset, .unset, .unset, .unset, .unset, .unset] [])) target := by
  obtain ⟨T', L', h⟩ := own_p1_s Z a0 hw q1 q2 p3 ((1 : Int32) + ((((q1.toUInt64 >>> ((48 : Int32) &&& 0x3f).toInt64.toUInt64).toInt64) - (((q1.toUInt64 >>> ((48 : Int32) &&& 0x3f).toInt64.toUInt64).toInt64) / (3 : Int64)) * (3 : Int64)).toInt32)) h0 Z0 rfl X0 hx hZ hby hml hown e0 N0
  exact ⟨_, T', L', own_lenq q1, h⟩
def Qrm1 (Z : State) (q1 : Int64) (h0 : Heap) (v : Option Value) (h : Heap) (L : List Loc) : Prop := v = some (.int (nar .char (((97 : Int32) + ((((q1 &&& (65535 : Int64)).toInt32) &&& (2147483647 : Int32)) % (26 : Int32))).toUInt32.toUInt16.toUInt32.toInt32))) ∧ Fr Z.heap.size L ∧ h = h0
theorem rm1 (l : Launch) (Z : State) (a0 : Array Value) (hw : own_HW Z a0) (ws : List Jvm.Cond) (q1 : Int64) (h0 : Heap) (Z0 : Ext Z.heap h0) :
    own_met l y_0 method_2_code 1 (some .char) ws ({ frames := 0, cells := 0, slots := 0, locals := 0 } : Room) Z #[(.int ((q1 &&& (65535 : Int64)).toInt32))] h0 (Qrm1 Z q1 h0) := by
  refine own_start (plainFor_of_name pn_0) (fun m => ef_method_2_I m ((q1 &&& (65535 : Int64)).toInt32)) ?_
  intro p e s m below meth c s₁ hx hby hml hown hnm X0 hZ e0 hret hlk
  have N0 := Fr.nil Z.heap.size
  obtain ⟨fs, hr, hrun, hended, hW, hsame⟩ := X0.leave (v := some (.int (nar .char (((97 : Int32) + ((((q1 &&& (65535 : Int64)).toInt32) &&& (2147483647 : Int32)) % (26 : Int32))).toUInt32.toUInt16.toUInt32.toInt32)))) (fun h => by rw [hret] at h; cases h) hlk
  refine ⟨_, _, ?_, hrun, hended, _, _, rfl, ?_, ⟨_, rfl⟩, hW, hsame.mono (by decide) (by decide)⟩
  · show own_S p e below s₁ (mkF m 0 #[iv ((q1 &&& (65535 : Int64)).toInt32)] []) _
    refine XS.bipush X0.here hx rfl (hb hby d1_0) ?_
    refine own_iN X0 hx hby d1_2 ?_
    refine X0.ldcInt hx hown (mvT hZ (own_w hw 6 rfl)) (g := (mkF m 3 #[iv ((q1 &&& (65535 : Int64)).toInt32)] [(.int ((q1 &&& (65535 : Int64)).toInt32)), (.int (97 : Int32))])) rfl (hb hby d1_3) _ ?_
    refine XS.iand X0.here hx rfl (hb hby d1_5) rfl ?_
    refine XS.bipush X0.here hx rfl (hb hby d1_6) ?_
    refine iremM X0 hx rfl (hb hby d1_8) rfl (by decide) ?_
    refine XS.iadd X0.here hx rfl (hb hby d1_9) rfl ?_
    refine XS.i2c X0.here hx rfl (hb hby d1_10) rfl ?_
    exact retN X0 hx (t := .char) hret (by simp) (hb hby d1_11) hr
  · show Qrm1 Z q1 h0 _ s₁.heap _
    rw [e0]
    exact ⟨rfl, N0, rfl⟩
theorem own_p2_s {p : Program} {l : Launch} {e : Env} {s : State} {m : MethodId} {args : Array Value} {below : List Frame} {meth : Method} {c : Code} {T0 : State} {locs : List Loc} (Z : State) (a0 : Array Value) (hw : own_HW Z a0) (q1 q2 : Int64) (p3 la ca : Int32) (h0 : Heap) (Z0 : Ext Z.heap h0) (hc11 : (nar .char (((97 : Int32) + ((((q1 &&& (65535 : Int64)).toInt32) &&& (2147483647 : Int32)) % (26 : Int32))).toUInt32.toUInt16.toUInt32.toInt32)) = ca) (X0 : Stand p l e room_1 s m args below meth c T0 locs 0 0) (hx : p.tables.exec = Jvm.exec) (hZ : Z.Warmed39 s.vm) (hby : c.code = code) (hml : c.maxLocals = 19) (hown : s.vm.findClass "com/example/faretally/faretally/ReasonEqualsPinLaw" = some m.cls) (e0 : T0.heap = h0) (N0 : Fr Z.heap.size locs) :
    ∃ (T' : State) (L' : List Loc), Stand p l e room_1 s m args below meth c T' L' 0 0 ∧ T'.heap = h0 ∧ Fr Z.heap.size L' ∧ ∀ target, Steps p.tables e below (T'.setTop (mkF m 24 #[.val (.long q1), .second, .val (.long q2), .second, iv p3, iv la, iv ca, .unset, .unset, .unset, .unset, .unset, .unset, .unset, .unset, .unset, .unset, .unset, .unset] [])) target → Steps p.tables e below (T0.setTop (mkF m 13 #[.val (.long q1), .second, .val (.long q2), .second, iv p3, iv la, .unset, .unset, .unset, .unset, .unset, .unset, .unset, .unset, .unset, .unset, .unset, .unset, .unset] [])) target := by
  obtain ⟨_, T2, Lc2, X2, hQ2, st2⟩ := own_static (y := y_0) X0 hx hZ hown (own_w hw 2 rfl) (own_w hw 3 rfl) (own_w hw 4 rfl) (own_w hw 5 rfl) (rm1 l Z a0 hw [] q1 h0 Z0 ) e0 (g := (mkF m 19 #[.val (.long q1), .second, .val (.long q2), .second, iv p3, iv la, .unset, .unset, .unset, .unset, .unset, .unset, .unset, .unset, .unset, .unset, .unset, .unset, .unset] [(.int ((q1 &&& (65535 : Int64)).toInt32))])) (argsL := [(.int ((q1 &&& (65535 : Int64)).toInt32))]) (rest := []) (W := 0) (lenOf pd_0 rfl) (hb hby at_19) hml
  obtain ⟨rfl, N2q, e2⟩ := hQ2
  have N2 := Fr.app N0 N2q
  refine ⟨_, _, X2, e2, N2, fun target kt => ?_⟩
  show own_S p e below T0 (mkF m 13 #[.val (.long q1), .second, .val (.long q2), .second, iv p3, iv la, .unset, .unset, .unset, .unset, .unset, .unset, .unset, .unset, .unset, .unset, .unset, .unset, .unset] []) _
  refine XS.lloadN X0.here hx rfl (hb hby at_13) rfl ?_
  refine X0.ldc2Long hx hown (mvT hZ (own_w hw 1 rfl)) (g := (mkF m 14 #[.val (.long q1), .second, .val (.long q2), .second, iv p3, iv la, .unset, .unset, .unset, .unset, .unset, .unset, .unset, .unset, .unset, .unset, .unset, .unset, .unset] [(.long q1)])) rfl (hb hby at_14) _ ?_
  refine XS.land X0.here hx rfl (hb hby at_17) rfl ?_
  refine XS.l2i X0.here hx rfl (hb hby at_18) rfl ?_
  refine st2 _ ?_
  show own_S p e below T2 (mkF m 22 #[.val (.long q1), .second, .val (.long q2), .second, iv p3, iv la, .unset, .unset, .unset, .unset, .unset, .unset, .unset, .unset, .unset, .unset, .unset, .unset, .unset] [(.int (nar .char (((97 : Int32) + ((((q1 &&& (65535 : Int64)).toInt32) &&& (2147483647 : Int32)) % (26 : Int32))).toUInt32.toUInt16.toUInt32.toInt32)))]) _
  rw [hc11]
  refine XS.istore X2.here hx rfl (hb hby at_22) rfl (l' := #[.val (.long q1), .second, .val (.long q2), .second, iv p3, iv la, iv ca, .unset, .unset, .unset, .unset, .unset, .unset, .unset, .unset, .unset, .unset, .unset, .unset]) rfl ?_
  show own_S p e below T2 (mkF m 24 #[.val (.long q1), .second, .val (.long q2), .second, iv p3, iv la, iv ca, .unset, .unset, .unset, .unset, .unset, .unset, .unset, .unset, .unset, .unset, .unset, .unset] []) _
  exact kt
theorem own_p2 {p : Program} {l : Launch} {e : Env} {s : State} {m : MethodId} {args : Array Value} {below : List Frame} {meth : Method} {c : Code} {T0 : State} {locs : List Loc} (Z : State) (a0 : Array Value) (hw : own_HW Z a0) (q1 q2 : Int64) (p3 la : Int32) (h0 : Heap) (Z0 : Ext Z.heap h0) (X0 : Stand p l e room_1 s m args below meth c T0 locs 0 0) (hx : p.tables.exec = Jvm.exec) (hZ : Z.Warmed39 s.vm) (hby : c.code = code) (hml : c.maxLocals = 19) (hown : s.vm.findClass "com/example/faretally/faretally/ReasonEqualsPinLaw" = some m.cls) (e0 : T0.heap = h0) (N0 : Fr Z.heap.size locs) (P_la : own_len3 la) :
    ∃ (ca : Int32) (T' : State) (L' : List Loc), own_low ca ∧ Stand p l e room_1 s m args below meth c T' L' 0 0 ∧ T'.heap = h0 ∧ Fr Z.heap.size L' ∧ ∀ target, Steps p.tables e below (T'.setTop (mkF m 24 #[.val (.long q1), .second, .val (.long q2), .second, iv p3, iv la, iv ca, .unset, .unset, .unset, .unset, .unset, .unset, .unset, .unset, .unset, .unset, .unset, .unset] [])) target → Steps p.tables e below (T0.setTop (mkF m 13 #[.val (.long q1), .second, .val (.long q2), .second, iv p3, iv la, .unset, .unset, .unset, .unset, .unset, .unset, .unset, .unset, .unset, .unset, .unset, .unset, .unset] [])) target := by
  obtain ⟨T', L', h⟩ := own_p2_s Z a0 hw q1 q2 p3 la (nar .char (((97 : Int32) + ((((q1 &&& (65535 : Int64)).toInt32) &&& (2147483647 : Int32)) % (26 : Int32))).toUInt32.toUInt16.toUInt32.toInt32)) h0 Z0 rfl X0 hx hZ hby hml hown e0 N0
  exact ⟨_, T', L', own_first _, h⟩
def Qrm3 (Z : State) (rr : Int32) (h0 : Heap) (v : Option Value) (h : Heap) (L : List Loc) : Prop := v = some (.int (nar .char (((97 : Int32) + ((rr &&& (2147483647 : Int32)) % (62 : Int32))).toUInt32.toUInt16.toUInt32.toInt32))) ∧ Fr Z.heap.size L ∧ h = h0
theorem rm3 (l : Launch) (Z : State) (a0 : Array Value) (hw : own_HW Z a0) (ws : List Jvm.Cond) (rr : Int32) (h0 : Heap) (Z0 : Ext Z.heap h0) (hc13 : ((rr &&& (2147483647 : Int32)) % (62 : Int32)) < (26 : Int32)) :
    own_met l y_1 method_3_code 2 (some .char) ws ({ frames := 0, cells := 0, slots := 0, locals := 0 } : Room) Z #[(.int rr)] h0 (Qrm3 Z rr h0) := by
  refine own_start (plainFor_of_name pn_0) (fun m => ef_method_3_I m rr) ?_
  intro p e s m below meth c s₁ hx hby hml hown hnm X0 hZ e0 hret hlk
  have N0 := Fr.nil Z.heap.size
  obtain ⟨fs, hr, hrun, hended, hW, hsame⟩ := X0.leave (v := some (.int (nar .char (((97 : Int32) + ((rr &&& (2147483647 : Int32)) % (62 : Int32))).toUInt32.toUInt16.toUInt32.toInt32)))) (fun h => by rw [hret] at h; cases h) hlk
  refine ⟨_, _, ?_, hrun, hended, _, _, rfl, ?_, ⟨_, rfl⟩, hW, hsame.mono (by decide) (by decide)⟩
  · show own_S p e below s₁ (mkF m 0 #[iv rr, .unset] []) _
    refine own_iN X0 hx hby d2_0 ?_
    refine X0.ldcInt hx hown (mvT hZ (own_w hw 6 rfl)) (g := (mkF m 1 #[iv rr, .unset] [(.int rr)])) rfl (hb hby d2_1) _ ?_
    refine XS.iand X0.here hx rfl (hb hby d2_3) rfl ?_
    refine XS.bipush X0.here hx rfl (hb hby d2_4) ?_
    refine iremM X0 hx rfl (hb hby d2_6) rfl (by decide) ?_
    refine XS.istoreN X0.here hx rfl (hb hby d2_7) rfl (l' := #[iv rr, iv ((rr &&& (2147483647 : Int32)) % (62 : Int32))]) rfl ?_
    refine own_iN X0 hx hby d2_8 ?_
    refine XS.bipush X0.here hx rfl (hb hby d2_9) ?_
    refine own_cn X0 hx hby d2_11 (tlt hc13).2.1 ?_
    refine XS.bipush X0.here hx rfl (hb hby d2_14) ?_
    refine own_iN X0 hx hby d2_16 ?_
    refine XS.iadd X0.here hx rfl (hb hby d2_17) rfl ?_
    refine XS.i2c X0.here hx rfl (hb hby d2_18) rfl ?_
    exact retN X0 hx (t := .char) hret (by simp) (hb hby d2_19) hr
  · show Qrm3 Z rr h0 _ s₁.heap _
    rw [e0]
    exact ⟨rfl, N0, rfl⟩
theorem own_p3_s0 {p : Program} {l : Launch} {e : Env} {s : State} {m : MethodId} {args : Array Value} {below : List Frame} {meth : Method} {c : Code} {T0 : State} {locs : List Loc} (Z : State) (a0 : Array Value) (hw : own_HW Z a0) (q1 q2 : Int64) (p3 la ca cb rr : Int32) (h0 : Heap) (Z0 : Ext Z.heap h0) (hc12 : ((((q1.toUInt64 >>> ((16 : Int32) &&& 0x3f).toInt64.toUInt64).toInt64) &&& (65535 : Int64)).toInt32) = rr) (hc13 : ((rr &&& (2147483647 : Int32)) % (62 : Int32)) < (26 : Int32)) (hc14 : (nar .char (((97 : Int32) + ((rr &&& (2147483647 : Int32)) % (62 : Int32))).toUInt32.toUInt16.toUInt32.toInt32)) = cb) (X0 : Stand p l e room_1 s m args below meth c T0 locs 0 0) (hx : p.tables.exec = Jvm.exec) (hZ : Z.Warmed39 s.vm) (hby : c.code = code) (hml : c.maxLocals = 19) (hown : s.vm.findClass "com/example/faretally/faretally/ReasonEqualsPinLaw" = some m.cls) (e0 : T0.heap = h0) (N0 : Fr Z.heap.size locs) :
    ∃ (T' : State) (L' : List Loc), Stand p l e room_1 s m args below meth c T' L' 0 0 ∧ T'.heap = h0 ∧ Fr Z.heap.size L' ∧ ∀ target, Steps p.tables e below (T'.setTop (mkF m 38 #[.val (.long q1), .second, .val (.long q2), .second, iv p3, iv la, iv ca, iv cb, .unset, .unset, .unset, .unset, .unset, .unset, .unset, .unset, .unset, .unset, .unset] [])) target → Steps p.tables e below (T0.setTop (mkF m 24 #[.val (.long q1), .second, .val (.long q2), .second, iv p3, iv la, iv ca, .unset, .unset, .unset, .unset, .unset, .unset, .unset, .unset, .unset, .unset, .unset, .unset] [])) target := by
  obtain ⟨_, T4, Lc4, X4, hQ4, st4⟩ := own_static (y := y_1) X0 hx hZ hown (own_w hw 7 rfl) (own_w hw 8 rfl) (own_w hw 4 rfl) (own_w hw 9 rfl) (rm3 l Z a0 hw [] rr h0 Z0 hc13) e0 (g := (mkF m 33 #[.val (.long q1), .second, .val (.long q2), .second, iv p3, iv la, iv ca, .unset, .unset, .unset, .unset, .unset, .unset, .unset, .unset, .unset, .unset, .unset, .unset] [(.int rr)])) (argsL := [(.int rr)]) (rest := []) (W := 0) (lenOf pd_0 rfl) (hb hby at_33) hml
  obtain ⟨rfl, N4q, e4⟩ := hQ4
  have N4 := Fr.app N0 N4q
  refine ⟨_, _, X4, e4, N4, fun target kt => ?_⟩
  show own_S p e below T0 (mkF m 24 #[.val (.long q1), .second, .val (.long q2), .second, iv p3, iv la, iv ca, .unset, .unset, .unset, .unset, .unset, .unset, .unset, .unset, .unset, .unset, .unset, .unset] []) _
  refine XS.lloadN X0.here hx rfl (hb hby at_24) rfl ?_
  refine XS.bipush X0.here hx rfl (hb hby at_25) ?_
  refine XS.lushr X0.here hx rfl (hb hby at_27) rfl ?_
  refine X0.ldc2Long hx hown (mvT hZ (own_w hw 1 rfl)) (g := (mkF m 28 #[.val (.long q1), .second, .val (.long q2), .second, iv p3, iv la, iv ca, .unset, .unset, .unset, .unset, .unset, .unset, .unset, .unset, .unset, .unset, .unset, .unset] [(.long ((q1.toUInt64 >>> ((16 : Int32) &&& 0x3f).toInt64.toUInt64).toInt64))])) rfl (hb hby at_28) _ ?_
  refine XS.land X0.here hx rfl (hb hby at_31) rfl ?_
  refine XS.l2i X0.here hx rfl (hb hby at_32) rfl ?_
  show own_S p e below T0 (mkF m 33 #[.val (.long q1), .second, .val (.long q2), .second, iv p3, iv la, iv ca, .unset, .unset, .unset, .unset, .unset, .unset, .unset, .unset, .unset, .unset, .unset, .unset] [(.int ((((q1.toUInt64 >>> ((16 : Int32) &&& 0x3f).toInt64.toUInt64).toInt64) &&& (65535 : Int64)).toInt32))]) _
  rw [hc12]
  refine st4 _ ?_
  show own_S p e below T4 (mkF m 36 #[.val (.long q1), .second, .val (.long q2), .second, iv p3, iv la, iv ca, .unset, .unset, .unset, .unset, .unset, .unset, .unset, .unset, .unset, .unset, .unset, .unset] [(.int (nar .char (((97 : Int32) + ((rr &&& (2147483647 : Int32)) % (62 : Int32))).toUInt32.toUInt16.toUInt32.toInt32)))]) _
  rw [hc14]
  refine XS.istore X4.here hx rfl (hb hby at_36) rfl (l' := #[.val (.long q1), .second, .val (.long q2), .second, iv p3, iv la, iv ca, iv cb, .unset, .unset, .unset, .unset, .unset, .unset, .unset, .unset, .unset, .unset, .unset]) rfl ?_
  show own_S p e below T4 (mkF m 38 #[.val (.long q1), .second, .val (.long q2), .second, iv p3, iv la, iv ca, iv cb, .unset, .unset, .unset, .unset, .unset, .unset, .unset, .unset, .unset, .unset, .unset] []) _
  exact kt
def Qrm5 (Z : State) (rr : Int32) (h0 : Heap) (v : Option Value) (h : Heap) (L : List Loc) : Prop := v = some (.int (nar .char (((65 : Int32) + (((rr &&& (2147483647 : Int32)) % (62 : Int32)) - (26 : Int32))).toUInt32.toUInt16.toUInt32.toInt32))) ∧ Fr Z.heap.size L ∧ h = h0
theorem rm5 (l : Launch) (Z : State) (a0 : Array Value) (hw : own_HW Z a0) (ws : List Jvm.Cond) (rr : Int32) (h0 : Heap) (Z0 : Ext Z.heap h0) (hc15 : ¬ (((rr &&& (2147483647 : Int32)) % (62 : Int32)) < (26 : Int32))) (hc16 : ((rr &&& (2147483647 : Int32)) % (62 : Int32)) < (52 : Int32)) :
    own_met l y_1 method_3_code 2 (some .char) ws ({ frames := 0, cells := 0, slots := 0, locals := 0 } : Room) Z #[(.int rr)] h0 (Qrm5 Z rr h0) := by
  refine own_start (plainFor_of_name pn_0) (fun m => ef_method_3_I m rr) ?_
  intro p e s m below meth c s₁ hx hby hml hown hnm X0 hZ e0 hret hlk
  have N0 := Fr.nil Z.heap.size
  obtain ⟨fs, hr, hrun, hended, hW, hsame⟩ := X0.leave (v := some (.int (nar .char (((65 : Int32) + (((rr &&& (2147483647 : Int32)) % (62 : Int32)) - (26 : Int32))).toUInt32.toUInt16.toUInt32.toInt32)))) (fun h => by rw [hret] at h; cases h) hlk
  refine ⟨_, _, ?_, hrun, hended, _, _, rfl, ?_, ⟨_, rfl⟩, hW, hsame.mono (by decide) (by decide)⟩
  · show own_S p e below s₁ (mkF m 0 #[iv rr, .unset] []) _
    refine own_iN X0 hx hby d2_0 ?_
    refine X0.ldcInt hx hown (mvT hZ (own_w hw 6 rfl)) (g := (mkF m 1 #[iv rr, .unset] [(.int rr)])) rfl (hb hby d2_1) _ ?_
    refine XS.iand X0.here hx rfl (hb hby d2_3) rfl ?_
    refine XS.bipush X0.here hx rfl (hb hby d2_4) ?_
    refine iremM X0 hx rfl (hb hby d2_6) rfl (by decide) ?_
    refine XS.istoreN X0.here hx rfl (hb hby d2_7) rfl (l' := #[iv rr, iv ((rr &&& (2147483647 : Int32)) % (62 : Int32))]) rfl ?_
    refine own_iN X0 hx hby d2_8 ?_
    refine XS.bipush X0.here hx rfl (hb hby d2_9) ?_
    refine own_cy (pc := 11) X0 hx hby d2_11 (flt hc15).2.1 20 ?_
    refine own_iN X0 hx hby d2_20 ?_
    refine XS.bipush X0.here hx rfl (hb hby d2_21) ?_
    refine own_cn X0 hx hby d2_23 (tlt hc16).2.1 ?_
    refine XS.bipush X0.here hx rfl (hb hby d2_26) ?_
    refine own_iN X0 hx hby d2_28 ?_
    refine XS.bipush X0.here hx rfl (hb hby d2_29) ?_
    refine XS.isub X0.here hx rfl (hb hby d2_31) rfl ?_
    refine XS.iadd X0.here hx rfl (hb hby d2_32) rfl ?_
    refine XS.i2c X0.here hx rfl (hb hby d2_33) rfl ?_
    exact retN X0 hx (t := .char) hret (by simp) (hb hby d2_34) hr
  · show Qrm5 Z rr h0 _ s₁.heap _
    rw [e0]
    exact ⟨rfl, N0, rfl⟩
theorem own_p3_s1 {p : Program} {l : Launch} {e : Env} {s : State} {m : MethodId} {args : Array Value} {below : List Frame} {meth : Method} {c : Code} {T0 : State} {locs : List Loc} (Z : State) (a0 : Array Value) (hw : own_HW Z a0) (q1 q2 : Int64) (p3 la ca cb rr : Int32) (h0 : Heap) (Z0 : Ext Z.heap h0) (hc12 : ((((q1.toUInt64 >>> ((16 : Int32) &&& 0x3f).toInt64.toUInt64).toInt64) &&& (65535 : Int64)).toInt32) = rr) (hc15 : ¬ (((rr &&& (2147483647 : Int32)) % (62 : Int32)) < (26 : Int32))) (hc16 : ((rr &&& (2147483647 : Int32)) % (62 : Int32)) < (52 : Int32)) (hc17 : (nar .char (((65 : Int32) + (((rr &&& (2147483647 : Int32)) % (62 : Int32)) - (26 : Int32))).toUInt32.toUInt16.toUInt32.toInt32)) = cb) (X0 : Stand p l e room_1 s m args below meth c T0 locs 0 0) (hx : p.tables.exec = Jvm.exec) (hZ : Z.Warmed39 s.vm) (hby : c.code = code) (hml : c.maxLocals = 19) (hown : s.vm.findClass "com/example/faretally/faretally/ReasonEqualsPinLaw" = some m.cls) (e0 : T0.heap = h0) (N0 : Fr Z.heap.size locs) :
    ∃ (T' : State) (L' : List Loc), Stand p l e room_1 s m args below meth c T' L' 0 0 ∧ T'.heap = h0 ∧ Fr Z.heap.size L' ∧ ∀ target, Steps p.tables e below (T'.setTop (mkF m 38 #[.val (.long q1), .second, .val (.long q2), .second, iv p3, iv la, iv ca, iv cb, .unset, .unset, .unset, .unset, .unset, .unset, .unset, .unset, .unset, .unset, .unset] [])) target → Steps p.tables e below (T0.setTop (mkF m 24 #[.val (.long q1), .second, .val (.long q2), .second, iv p3, iv la, iv ca, .unset, .unset, .unset, .unset, .unset, .unset, .unset, .unset, .unset, .unset, .unset, .unset] [])) target := by
  obtain ⟨_, T6, Lc6, X6, hQ6, st6⟩ := own_static (y := y_1) X0 hx hZ hown (own_w hw 7 rfl) (own_w hw 8 rfl) (own_w hw 4 rfl) (own_w hw 9 rfl) (rm5 l Z a0 hw [] rr h0 Z0 hc15 hc16) e0 (g := (mkF m 33 #[.val (.long q1), .second, .val (.long q2), .second, iv p3, iv la, iv ca, .unset, .unset, .unset, .unset, .unset, .unset, .unset, .unset, .unset, .unset, .unset, .unset] [(.int rr)])) (argsL := [(.int rr)]) (rest := []) (W := 0) (lenOf pd_0 rfl) (hb hby at_33) hml
  obtain ⟨rfl, N6q, e6⟩ := hQ6
  have N6 := Fr.app N0 N6q
  refine ⟨_, _, X6, e6, N6, fun target kt => ?_⟩
  show own_S p e below T0 (mkF m 24 #[.val (.long q1), .second, .val (.long q2), .second, iv p3, iv la, iv ca, .unset, .unset, .unset, .unset, .unset, .unset, .unset, .unset, .unset, .unset, .unset, .unset] []) _
  refine XS.lloadN X0.here hx rfl (hb hby at_24) rfl ?_
  refine XS.bipush X0.here hx rfl (hb hby at_25) ?_
  refine XS.lushr X0.here hx rfl (hb hby at_27) rfl ?_
  refine X0.ldc2Long hx hown (mvT hZ (own_w hw 1 rfl)) (g := (mkF m 28 #[.val (.long q1), .second, .val (.long q2), .second, iv p3, iv la, iv ca, .unset, .unset, .unset, .unset, .unset, .unset, .unset, .unset, .unset, .unset, .unset, .unset] [(.long ((q1.toUInt64 >>> ((16 : Int32) &&& 0x3f).toInt64.toUInt64).toInt64))])) rfl (hb hby at_28) _ ?_
  refine XS.land X0.here hx rfl (hb hby at_31) rfl ?_
  refine XS.l2i X0.here hx rfl (hb hby at_32) rfl ?_
  show own_S p e below T0 (mkF m 33 #[.val (.long q1), .second, .val (.long q2), .second, iv p3, iv la, iv ca, .unset, .unset, .unset, .unset, .unset, .unset, .unset, .unset, .unset, .unset, .unset, .unset] [(.int ((((q1.toUInt64 >>> ((16 : Int32) &&& 0x3f).toInt64.toUInt64).toInt64) &&& (65535 : Int64)).toInt32))]) _
  rw [hc12]
  refine st6 _ ?_
  show own_S p e below T6 (mkF m 36 #[.val (.long q1), .second, .val (.long q2), .second, iv p3, iv la, iv ca, .unset, .unset, .unset, .unset, .unset, .unset, .unset, .unset, .unset, .unset, .unset, .unset] [(.int (nar .char (((65 : Int32) + (((rr &&& (2147483647 : Int32)) % (62 : Int32)) - (26 : Int32))).toUInt32.toUInt16.toUInt32.toInt32)))]) _
  rw [hc17]
  refine XS.istore X6.here hx rfl (hb hby at_36) rfl (l' := #[.val (.long q1), .second, .val (.long q2), .second, iv p3, iv la, iv ca, iv cb, .unset, .unset, .unset, .unset, .unset, .unset, .unset, .unset, .unset, .unset, .unset]) rfl ?_
  show own_S p e below T6 (mkF m 38 #[.val (.long q1), .second, .val (.long q2), .second, iv p3, iv la, iv ca, iv cb, .unset, .unset, .unset, .unset, .unset, .unset, .unset, .unset, .unset, .unset, .unset] []) _
  exact kt
def Qrm7 (Z : State) (rr : Int32) (h0 : Heap) (v : Option Value) (h : Heap) (L : List Loc) : Prop := v = some (.int (nar .char (((48 : Int32) + (((rr &&& (2147483647 : Int32)) % (62 : Int32)) - (52 : Int32))).toUInt32.toUInt16.toUInt32.toInt32))) ∧ Fr Z.heap.size L ∧ h = h0
theorem rm7 (l : Launch) (Z : State) (a0 : Array Value) (hw : own_HW Z a0) (ws : List Jvm.Cond) (rr : Int32) (h0 : Heap) (Z0 : Ext Z.heap h0) (hc15 : ¬ (((rr &&& (2147483647 : Int32)) % (62 : Int32)) < (26 : Int32))) (hc18 : ¬ (((rr &&& (2147483647 : Int32)) % (62 : Int32)) < (52 : Int32))) :
    own_met l y_1 method_3_code 2 (some .char) ws ({ frames := 0, cells := 0, slots := 0, locals := 0 } : Room) Z #[(.int rr)] h0 (Qrm7 Z rr h0) := by
  refine own_start (plainFor_of_name pn_0) (fun m => ef_method_3_I m rr) ?_
  intro p e s m below meth c s₁ hx hby hml hown hnm X0 hZ e0 hret hlk
  have N0 := Fr.nil Z.heap.size
  obtain ⟨fs, hr, hrun, hended, hW, hsame⟩ := X0.leave (v := some (.int (nar .char (((48 : Int32) + (((rr &&& (2147483647 : Int32)) % (62 : Int32)) - (52 : Int32))).toUInt32.toUInt16.toUInt32.toInt32)))) (fun h => by rw [hret] at h; cases h) hlk
  refine ⟨_, _, ?_, hrun, hended, _, _, rfl, ?_, ⟨_, rfl⟩, hW, hsame.mono (by decide) (by decide)⟩
  · show own_S p e below s₁ (mkF m 0 #[iv rr, .unset] []) _
    refine own_iN X0 hx hby d2_0 ?_
    refine X0.ldcInt hx hown (mvT hZ (own_w hw 6 rfl)) (g := (mkF m 1 #[iv rr, .unset] [(.int rr)])) rfl (hb hby d2_1) _ ?_
    refine XS.iand X0.here hx rfl (hb hby d2_3) rfl ?_
    refine XS.bipush X0.here hx rfl (hb hby d2_4) ?_
    refine iremM X0 hx rfl (hb hby d2_6) rfl (by decide) ?_
    refine XS.istoreN X0.here hx rfl (hb hby d2_7) rfl (l' := #[iv rr, iv ((rr &&& (2147483647 : Int32)) % (62 : Int32))]) rfl ?_
    refine own_iN X0 hx hby d2_8 ?_
    refine XS.bipush X0.here hx rfl (hb hby d2_9) ?_
    refine own_cy (pc := 11) X0 hx hby d2_11 (flt hc15).2.1 20 ?_
    refine own_iN X0 hx hby d2_20 ?_
    refine XS.bipush X0.here hx rfl (hb hby d2_21) ?_
    refine own_cy (pc := 23) X0 hx hby d2_23 (flt hc18).2.1 35 ?_
    refine XS.bipush X0.here hx rfl (hb hby d2_35) ?_
    refine own_iN X0 hx hby d2_37 ?_
    refine XS.bipush X0.here hx rfl (hb hby d2_38) ?_
    refine XS.isub X0.here hx rfl (hb hby d2_40) rfl ?_
    refine XS.iadd X0.here hx rfl (hb hby d2_41) rfl ?_
    refine XS.i2c X0.here hx rfl (hb hby d2_42) rfl ?_
    exact retN X0 hx (t := .char) hret (by simp) (hb hby d2_43) hr
  · show Qrm7 Z rr h0 _ s₁.heap _
    rw [e0]
    exact ⟨rfl, N0, rfl⟩
theorem own_p3_s2 {p : Program} {l : Launch} {e : Env} {s : State} {m : MethodId} {args : Array Value} {below : List Frame} {meth : Method} {c : Code} {T0 : State} {locs : List Loc} (Z : State) (a0 : Array Value) (hw : own_HW Z a0) (q1 q2 : Int64) (p3 la ca cb rr : Int32) (h0 : Heap) (Z0 : Ext Z.heap h0) (hc12 : ((((q1.toUInt64 >>> ((16 : Int32) &&& 0x3f).toInt64.toUInt64).toInt64) &&& (65535 : Int64)).toInt32) = rr) (hc15 : ¬ (((rr &&& (2147483647 : Int32)) % (62 : Int32)) < (26 : Int32))) (hc18 : ¬ (((rr &&& (2147483647 : Int32)) % (62 : Int32)) < (52 : Int32))) (hc19 : (nar .char (((48 : Int32) + (((rr &&& (2147483647 : Int32)) % (62 : Int32)) - (52 : Int32))).toUInt32.toUInt16.toUInt32.toInt32)) = cb) (X0 : Stand p l e room_1 s m args below meth c T0 locs 0 0) (hx : p.tables.exec = Jvm.exec) (hZ : Z.Warmed39 s.vm) (hby : c.code = code) (hml : c.maxLocals = 19) (hown : s.vm.findClass "com/example/faretally/faretally/ReasonEqualsPinLaw" = some m.cls) (e0 : T0.heap = h0) (N0 : Fr Z.heap.size locs) :
    ∃ (T' : State) (L' : List Loc), Stand p l e room_1 s m args below meth c T' L' 0 0 ∧ T'.heap = h0 ∧ Fr Z.heap.size L' ∧ ∀ target, Steps p.tables e below (T'.setTop (mkF m 38 #[.val (.long q1), .second, .val (.long q2), .second, iv p3, iv la, iv ca, iv cb, .unset, .unset, .unset, .unset, .unset, .unset, .unset, .unset, .unset, .unset, .unset] [])) target → Steps p.tables e below (T0.setTop (mkF m 24 #[.val (.long q1), .second, .val (.long q2), .second, iv p3, iv la, iv ca, .unset, .unset, .unset, .unset, .unset, .unset, .unset, .unset, .unset, .unset, .unset, .unset] [])) target := by
  obtain ⟨_, T8, Lc8, X8, hQ8, st8⟩ := own_static (y := y_1) X0 hx hZ hown (own_w hw 7 rfl) (own_w hw 8 rfl) (own_w hw 4 rfl) (own_w hw 9 rfl) (rm7 l Z a0 hw [] rr h0 Z0 hc15 hc18) e0 (g := (mkF m 33 #[.val (.long q1), .second, .val (.long q2), .second, iv p3, iv la, iv ca, .unset, .unset, .unset, .unset, .unset, .unset, .unset, .unset, .unset, .unset, .unset, .unset] [(.int rr)])) (argsL := [(.int rr)]) (rest := []) (W := 0) (lenOf pd_0 rfl) (hb hby at_33) hml
  obtain ⟨rfl, N8q, e8⟩ := hQ8
  have N8 := Fr.app N0 N8q
  refine ⟨_, _, X8, e8, N8, fun target kt => ?_⟩
  show own_S p e below T0 (mkF m 24 #[.val (.long q1), .second, .val (.long q2), .second, iv p3, iv la, iv ca, .unset, .unset, .unset, .unset, .unset, .unset, .unset, .unset, .unset, .unset, .unset, .unset] []) _
  refine XS.lloadN X0.here hx rfl (hb hby at_24) rfl ?_
  refine XS.bipush X0.here hx rfl (hb hby at_25) ?_
  refine XS.lushr X0.here hx rfl (hb hby at_27) rfl ?_
  refine X0.ldc2Long hx hown (mvT hZ (own_w hw 1 rfl)) (g := (mkF m 28 #[.val (.long q1), .second, .val (.long q2), .second, iv p3, iv la, iv ca, .unset, .unset, .unset, .unset, .unset, .unset, .unset, .unset, .unset, .unset, .unset, .unset] [(.long ((q1.toUInt64 >>> ((16 : Int32) &&& 0x3f).toInt64.toUInt64).toInt64))])) rfl (hb hby at_28) _ ?_
  refine XS.land X0.here hx rfl (hb hby at_31) rfl ?_
  refine XS.l2i X0.here hx rfl (hb hby at_32) rfl ?_
  show own_S p e below T0 (mkF m 33 #[.val (.long q1), .second, .val (.long q2), .second, iv p3, iv la, iv ca, .unset, .unset, .unset, .unset, .unset, .unset, .unset, .unset, .unset, .unset, .unset, .unset] [(.int ((((q1.toUInt64 >>> ((16 : Int32) &&& 0x3f).toInt64.toUInt64).toInt64) &&& (65535 : Int64)).toInt32))]) _
  rw [hc12]
  refine st8 _ ?_
  show own_S p e below T8 (mkF m 36 #[.val (.long q1), .second, .val (.long q2), .second, iv p3, iv la, iv ca, .unset, .unset, .unset, .unset, .unset, .unset, .unset, .unset, .unset, .unset, .unset, .unset] [(.int (nar .char (((48 : Int32) + (((rr &&& (2147483647 : Int32)) % (62 : Int32)) - (52 : Int32))).toUInt32.toUInt16.toUInt32.toInt32)))]) _
  rw [hc19]
  refine XS.istore X8.here hx rfl (hb hby at_36) rfl (l' := #[.val (.long q1), .second, .val (.long q2), .second, iv p3, iv la, iv ca, iv cb, .unset, .unset, .unset, .unset, .unset, .unset, .unset, .unset, .unset, .unset, .unset]) rfl ?_
  show own_S p e below T8 (mkF m 38 #[.val (.long q1), .second, .val (.long q2), .second, iv p3, iv la, iv ca, iv cb, .unset, .unset, .unset, .unset, .unset, .unset, .unset, .unset, .unset, .unset, .unset] []) _
  exact kt
theorem own_p3 {p : Program} {l : Launch} {e : Env} {s : State} {m : MethodId} {args : Array Value} {below : List Frame} {meth : Method} {c : Code} {T0 : State} {locs : List Loc} (Z : State) (a0 : Array Value) (hw : own_HW Z a0) (q1 q2 : Int64) (p3 la ca : Int32) (h0 : Heap) (Z0 : Ext Z.heap h0) (X0 : Stand p l e room_1 s m args below meth c T0 locs 0 0) (hx : p.tables.exec = Jvm.exec) (hZ : Z.Warmed39 s.vm) (hby : c.code = code) (hml : c.maxLocals = 19) (hown : s.vm.findClass "com/example/faretally/faretally/ReasonEqualsPinLaw" = some m.cls) (e0 : T0.heap = h0) (N0 : Fr Z.heap.size locs) (P_la : own_len3 la) (P_ca : own_low ca) :
    ∃ (cb : Int32) (T' : State) (L' : List Loc), own_aln cb ∧ Stand p l e room_1 s m args below meth c T' L' 0 0 ∧ T'.heap = h0 ∧ Fr Z.heap.size L' ∧ ∀ target, Steps p.tables e below (T'.setTop (mkF m 38 #[.val (.long q1), .second, .val (.long q2), .second, iv p3, iv la, iv ca, iv cb, .unset, .unset, .unset, .unset, .unset, .unset, .unset, .unset, .unset, .unset, .unset] [])) target → Steps p.tables e below (T0.setTop (mkF m 24 #[.val (.long q1), .second, .val (.long q2), .second, iv p3, iv la, iv ca, .unset, .unset, .unset, .unset, .unset, .unset, .unset, .unset, .unset, .unset, .unset, .unset] [])) target := by
  obtain ⟨rr, hrr⟩ : ∃ z, ((((q1.toUInt64 >>> ((16 : Int32) &&& 0x3f).toInt64.toUInt64).toInt64) &&& (65535 : Int64)).toInt32) = z := ⟨_, rfl⟩
  rcases own_k3 rr with ⟨k1, k2⟩ | ⟨k1, k2, k3⟩ | ⟨k1, k2, k3⟩
  · obtain ⟨T', L', h⟩ := own_p3_s0 Z a0 hw q1 q2 p3 la ca (nar .char (((97 : Int32) + ((rr &&& (2147483647 : Int32)) % (62 : Int32))).toUInt32.toUInt16.toUInt32.toInt32)) rr h0 Z0 hrr k1 rfl X0 hx hZ hby hml hown e0 N0
    exact ⟨_, T', L', own_r0 _ k1 k2, h⟩
  · obtain ⟨T', L', h⟩ := own_p3_s1 Z a0 hw q1 q2 p3 la ca (nar .char (((65 : Int32) + (((rr &&& (2147483647 : Int32)) % (62 : Int32)) - (26 : Int32))).toUInt32.toUInt16.toUInt32.toInt32)) rr h0 Z0 hrr k1 k2 rfl X0 hx hZ hby hml hown e0 N0
    exact ⟨_, T', L', own_r1 _ k1 k2 k3, h⟩
  · obtain ⟨T', L', h⟩ := own_p3_s2 Z a0 hw q1 q2 p3 la ca (nar .char (((48 : Int32) + (((rr &&& (2147483647 : Int32)) % (62 : Int32)) - (52 : Int32))).toUInt32.toUInt16.toUInt32.toInt32)) rr h0 Z0 hrr k1 k2 rfl X0 hx hZ hby hml hown e0 N0
    exact ⟨_, T', L', own_r2 _ k1 k2 k3, h⟩
theorem own_p4_s0 {p : Program} {l : Launch} {e : Env} {s : State} {m : MethodId} {args : Array Value} {below : List Frame} {meth : Method} {c : Code} {T0 : State} {locs : List Loc} (Z : State) (a0 : Array Value) (hw : own_HW Z a0) (q1 q2 : Int64) (p3 la ca cb cc rr : Int32) (h0 : Heap) (Z0 : Ext Z.heap h0) (hc20 : ((((q1.toUInt64 >>> ((32 : Int32) &&& 0x3f).toInt64.toUInt64).toInt64) &&& (65535 : Int64)).toInt32) = rr) (hc13 : ((rr &&& (2147483647 : Int32)) % (62 : Int32)) < (26 : Int32)) (hc21 : (nar .char (((97 : Int32) + ((rr &&& (2147483647 : Int32)) % (62 : Int32))).toUInt32.toUInt16.toUInt32.toInt32)) = cc) (X0 : Stand p l e room_1 s m args below meth c T0 locs 0 0) (hx : p.tables.exec = Jvm.exec) (hZ : Z.Warmed39 s.vm) (hby : c.code = code) (hml : c.maxLocals = 19) (hown : s.vm.findClass "com/example/faretally/faretally/ReasonEqualsPinLaw" = some m.cls) (e0 : T0.heap = h0) (N0 : Fr Z.heap.size locs) :
    ∃ (T' : State) (L' : List Loc), Stand p l e room_1 s m args below meth c T' L' 0 0 ∧ T'.heap = h0 ∧ Fr Z.heap.size L' ∧ ∀ target, Steps p.tables e below (T'.setTop (mkF m 52 #[.val (.long q1), .second, .val (.long q2), .second, iv p3, iv la, iv ca, iv cb, iv cc, .unset, .unset, .unset, .unset, .unset, .unset, .unset, .unset, .unset, .unset] [])) target → Steps p.tables e below (T0.setTop (mkF m 38 #[.val (.long q1), .second, .val (.long q2), .second, iv p3, iv la, iv ca, iv cb, .unset, .unset, .unset, .unset, .unset, .unset, .unset, .unset, .unset, .unset, .unset] [])) target := by
  obtain ⟨_, T9, Lc9, X9, hQ9, st9⟩ := own_static (y := y_1) X0 hx hZ hown (own_w hw 7 rfl) (own_w hw 8 rfl) (own_w hw 4 rfl) (own_w hw 9 rfl) (rm3 l Z a0 hw [] rr h0 Z0 hc13) e0 (g := (mkF m 47 #[.val (.long q1), .second, .val (.long q2), .second, iv p3, iv la, iv ca, iv cb, .unset, .unset, .unset, .unset, .unset, .unset, .unset, .unset, .unset, .unset, .unset] [(.int rr)])) (argsL := [(.int rr)]) (rest := []) (W := 0) (lenOf pd_0 rfl) (hb hby at_47) hml
  obtain ⟨rfl, N9q, e9⟩ := hQ9
  have N9 := Fr.app N0 N9q
  refine ⟨_, _, X9, e9, N9, fun target kt => ?_⟩
  show own_S p e below T0 (mkF m 38 #[.val (.long q1), .second, .val (.long q2), .second, iv p3, iv la, iv ca, iv cb, .unset, .unset, .unset, .unset, .unset, .unset, .unset, .unset, .unset, .unset, .unset] []) _
  refine XS.lloadN X0.here hx rfl (hb hby at_38) rfl ?_
  refine XS.bipush X0.here hx rfl (hb hby at_39) ?_
  refine XS.lushr X0.here hx rfl (hb hby at_41) rfl ?_
  refine X0.ldc2Long hx hown (mvT hZ (own_w hw 1 rfl)) (g := (mkF m 42 #[.val (.long q1), .second, .val (.long q2), .second, iv p3, iv la, iv ca, iv cb, .unset, .unset, .unset, .unset, .unset, .unset, .unset, .unset, .unset, .unset, .unset] [(.long ((q1.toUInt64 >>> ((32 : Int32) &&& 0x3f).toInt64.toUInt64).toInt64))])) rfl (hb hby at_42) _ ?_
  refine XS.land X0.here hx rfl (hb hby at_45) rfl ?_
  refine XS.l2i X0.here hx rfl (hb hby at_46) rfl ?_
  show own_S p e below T0 (mkF m 47 #[.val (.long q1), .second, .val (.long q2), .second, iv p3, iv la, iv ca, iv cb, .unset, .unset, .unset, .unset, .unset, .unset, .unset, .unset, .unset, .unset, .unset] [(.int ((((q1.toUInt64 >>> ((32 : Int32) &&& 0x3f).toInt64.toUInt64).toInt64) &&& (65535 : Int64)).toInt32))]) _
  rw [hc20]
  refine st9 _ ?_
  show own_S p e below T9 (mkF m 50 #[.val (.long q1), .second, .val (.long q2), .second, iv p3, iv la, iv ca, iv cb, .unset, .unset, .unset, .unset, .unset, .unset, .unset, .unset, .unset, .unset, .unset] [(.int (nar .char (((97 : Int32) + ((rr &&& (2147483647 : Int32)) % (62 : Int32))).toUInt32.toUInt16.toUInt32.toInt32)))]) _
  rw [hc21]
  refine XS.istore X9.here hx rfl (hb hby at_50) rfl (l' := #[.val (.long q1), .second, .val (.long q2), .second, iv p3, iv la, iv ca, iv cb, iv cc, .unset, .unset, .unset, .unset, .unset, .unset, .unset, .unset, .unset, .unset]) rfl ?_
  show own_S p e below T9 (mkF m 52 #[.val (.long q1), .second, .val (.long q2), .second, iv p3, iv la, iv ca, iv cb, iv cc, .unset, .unset, .unset, .unset, .unset, .unset, .unset, .unset, .unset, .unset] []) _
  exact kt
theorem own_p4_s1 {p : Program} {l : Launch} {e : Env} {s : State} {m : MethodId} {args : Array Value} {below : List Frame} {meth : Method} {c : Code} {T0 : State} {locs : List Loc} (Z : State) (a0 : Array Value) (hw : own_HW Z a0) (q1 q2 : Int64) (p3 la ca cb cc rr : Int32) (h0 : Heap) (Z0 : Ext Z.heap h0) (hc20 : ((((q1.toUInt64 >>> ((32 : Int32) &&& 0x3f).toInt64.toUInt64).toInt64) &&& (65535 : Int64)).toInt32) = rr) (hc15 : ¬ (((rr &&& (2147483647 : Int32)) % (62 : Int32)) < (26 : Int32))) (hc16 : ((rr &&& (2147483647 : Int32)) % (62 : Int32)) < (52 : Int32)) (hc22 : (nar .char (((65 : Int32) + (((rr &&& (2147483647 : Int32)) % (62 : Int32)) - (26 : Int32))).toUInt32.toUInt16.toUInt32.toInt32)) = cc) (X0 : Stand p l e room_1 s m args below meth c T0 locs 0 0) (hx : p.tables.exec = Jvm.exec) (hZ : Z.Warmed39 s.vm) (hby : c.code = code) (hml : c.maxLocals = 19) (hown : s.vm.findClass "com/example/faretally/faretally/ReasonEqualsPinLaw" = some m.cls) (e0 : T0.heap = h0) (N0 : Fr Z.heap.size locs) :
    ∃ (T' : State) (L' : List Loc), Stand p l e room_1 s m args below meth c T' L' 0 0 ∧ T'.heap = h0 ∧ Fr Z.heap.size L' ∧ ∀ target, Steps p.tables e below (T'.setTop (mkF m 52 #[.val (.long q1), .second, .val (.long q2), .second, iv p3, iv la, iv ca, iv cb, iv cc, .unset, .unset, .unset, .unset, .unset, .unset, .unset, .unset, .unset, .unset] [])) target → Steps p.tables e below (T0.setTop (mkF m 38 #[.val (.long q1), .second, .val (.long q2), .second, iv p3, iv la, iv ca, iv cb, .unset, .unset, .unset, .unset, .unset, .unset, .unset, .unset, .unset, .unset, .unset] [])) target := by
  obtain ⟨_, T10, Lc10, X10, hQ10, st10⟩ := own_static (y := y_1) X0 hx hZ hown (own_w hw 7 rfl) (own_w hw 8 rfl) (own_w hw 4 rfl) (own_w hw 9 rfl) (rm5 l Z a0 hw [] rr h0 Z0 hc15 hc16) e0 (g := (mkF m 47 #[.val (.long q1), .second, .val (.long q2), .second, iv p3, iv la, iv ca, iv cb, .unset, .unset, .unset, .unset, .unset, .unset, .unset, .unset, .unset, .unset, .unset] [(.int rr)])) (argsL := [(.int rr)]) (rest := []) (W := 0) (lenOf pd_0 rfl) (hb hby at_47) hml
  obtain ⟨rfl, N10q, e10⟩ := hQ10
  have N10 := Fr.app N0 N10q
  refine ⟨_, _, X10, e10, N10, fun target kt => ?_⟩
  show own_S p e below T0 (mkF m 38 #[.val (.long q1), .second, .val (.long q2), .second, iv p3, iv la, iv ca, iv cb, .unset, .unset, .unset, .unset, .unset, .unset, .unset, .unset, .unset, .unset, .unset] []) _
  refine XS.lloadN X0.here hx rfl (hb hby at_38) rfl ?_
  refine XS.bipush X0.here hx rfl (hb hby at_39) ?_
  refine XS.lushr X0.here hx rfl (hb hby at_41) rfl ?_
  refine X0.ldc2Long hx hown (mvT hZ (own_w hw 1 rfl)) (g := (mkF m 42 #[.val (.long q1), .second, .val (.long q2), .second, iv p3, iv la, iv ca, iv cb, .unset, .unset, .unset, .unset, .unset, .unset, .unset, .unset, .unset, .unset, .unset] [(.long ((q1.toUInt64 >>> ((32 : Int32) &&& 0x3f).toInt64.toUInt64).toInt64))])) rfl (hb hby at_42) _ ?_
  refine XS.land X0.here hx rfl (hb hby at_45) rfl ?_
  refine XS.l2i X0.here hx rfl (hb hby at_46) rfl ?_
  show own_S p e below T0 (mkF m 47 #[.val (.long q1), .second, .val (.long q2), .second, iv p3, iv la, iv ca, iv cb, .unset, .unset, .unset, .unset, .unset, .unset, .unset, .unset, .unset, .unset, .unset] [(.int ((((q1.toUInt64 >>> ((32 : Int32) &&& 0x3f).toInt64.toUInt64).toInt64) &&& (65535 : Int64)).toInt32))]) _
  rw [hc20]
  refine st10 _ ?_
  show own_S p e below T10 (mkF m 50 #[.val (.long q1), .second, .val (.long q2), .second, iv p3, iv la, iv ca, iv cb, .unset, .unset, .unset, .unset, .unset, .unset, .unset, .unset, .unset, .unset, .unset] [(.int (nar .char (((65 : Int32) + (((rr &&& (2147483647 : Int32)) % (62 : Int32)) - (26 : Int32))).toUInt32.toUInt16.toUInt32.toInt32)))]) _
  rw [hc22]
  refine XS.istore X10.here hx rfl (hb hby at_50) rfl (l' := #[.val (.long q1), .second, .val (.long q2), .second, iv p3, iv la, iv ca, iv cb, iv cc, .unset, .unset, .unset, .unset, .unset, .unset, .unset, .unset, .unset, .unset]) rfl ?_
  show own_S p e below T10 (mkF m 52 #[.val (.long q1), .second, .val (.long q2), .second, iv p3, iv la, iv ca, iv cb, iv cc, .unset, .unset, .unset, .unset, .unset, .unset, .unset, .unset, .unset, .unset] []) _
  exact kt
theorem own_p4_s2 {p : Program} {l : Launch} {e : Env} {s : State} {m : MethodId} {args : Array Value} {below : List Frame} {meth : Method} {c : Code} {T0 : State} {locs : List Loc} (Z : State) (a0 : Array Value) (hw : own_HW Z a0) (q1 q2 : Int64) (p3 la ca cb cc rr : Int32) (h0 : Heap) (Z0 : Ext Z.heap h0) (hc20 : ((((q1.toUInt64 >>> ((32 : Int32) &&& 0x3f).toInt64.toUInt64).toInt64) &&& (65535 : Int64)).toInt32) = rr) (hc15 : ¬ (((rr &&& (2147483647 : Int32)) % (62 : Int32)) < (26 : Int32))) (hc18 : ¬ (((rr &&& (2147483647 : Int32)) % (62 : Int32)) < (52 : Int32))) (hc23 : (nar .char (((48 : Int32) + (((rr &&& (2147483647 : Int32)) % (62 : Int32)) - (52 : Int32))).toUInt32.toUInt16.toUInt32.toInt32)) = cc) (X0 : Stand p l e room_1 s m args below meth c T0 locs 0 0) (hx : p.tables.exec = Jvm.exec) (hZ : Z.Warmed39 s.vm) (hby : c.code = code) (hml : c.maxLocals = 19) (hown : s.vm.findClass "com/example/faretally/faretally/ReasonEqualsPinLaw" = some m.cls) (e0 : T0.heap = h0) (N0 : Fr Z.heap.size locs) :
    ∃ (T' : State) (L' : List Loc), Stand p l e room_1 s m args below meth c T' L' 0 0 ∧ T'.heap = h0 ∧ Fr Z.heap.size L' ∧ ∀ target, Steps p.tables e below (T'.setTop (mkF m 52 #[.val (.long q1), .second, .val (.long q2), .second, iv p3, iv la, iv ca, iv cb, iv cc, .unset, .unset, .unset, .unset, .unset, .unset, .unset, .unset, .unset, .unset] [])) target → Steps p.tables e below (T0.setTop (mkF m 38 #[.val (.long q1), .second, .val (.long q2), .second, iv p3, iv la, iv ca, iv cb, .unset, .unset, .unset, .unset, .unset, .unset, .unset, .unset, .unset, .unset, .unset] [])) target := by
  obtain ⟨_, T11, Lc11, X11, hQ11, st11⟩ := own_static (y := y_1) X0 hx hZ hown (own_w hw 7 rfl) (own_w hw 8 rfl) (own_w hw 4 rfl) (own_w hw 9 rfl) (rm7 l Z a0 hw [] rr h0 Z0 hc15 hc18) e0 (g := (mkF m 47 #[.val (.long q1), .second, .val (.long q2), .second, iv p3, iv la, iv ca, iv cb, .unset, .unset, .unset, .unset, .unset, .unset, .unset, .unset, .unset, .unset, .unset] [(.int rr)])) (argsL := [(.int rr)]) (rest := []) (W := 0) (lenOf pd_0 rfl) (hb hby at_47) hml
  obtain ⟨rfl, N11q, e11⟩ := hQ11
  have N11 := Fr.app N0 N11q
  refine ⟨_, _, X11, e11, N11, fun target kt => ?_⟩
  show own_S p e below T0 (mkF m 38 #[.val (.long q1), .second, .val (.long q2), .second, iv p3, iv la, iv ca, iv cb, .unset, .unset, .unset, .unset, .unset, .unset, .unset, .unset, .unset, .unset, .unset] []) _
  refine XS.lloadN X0.here hx rfl (hb hby at_38) rfl ?_
  refine XS.bipush X0.here hx rfl (hb hby at_39) ?_
  refine XS.lushr X0.here hx rfl (hb hby at_41) rfl ?_
  refine X0.ldc2Long hx hown (mvT hZ (own_w hw 1 rfl)) (g := (mkF m 42 #[.val (.long q1), .second, .val (.long q2), .second, iv p3, iv la, iv ca, iv cb, .unset, .unset, .unset, .unset, .unset, .unset, .unset, .unset, .unset, .unset, .unset] [(.long ((q1.toUInt64 >>> ((32 : Int32) &&& 0x3f).toInt64.toUInt64).toInt64))])) rfl (hb hby at_42) _ ?_
  refine XS.land X0.here hx rfl (hb hby at_45) rfl ?_
  refine XS.l2i X0.here hx rfl (hb hby at_46) rfl ?_
  show own_S p e below T0 (mkF m 47 #[.val (.long q1), .second, .val (.long q2), .second, iv p3, iv la, iv ca, iv cb, .unset, .unset, .unset, .unset, .unset, .unset, .unset, .unset, .unset, .unset, .unset] [(.int ((((q1.toUInt64 >>> ((32 : Int32) &&& 0x3f).toInt64.toUInt64).toInt64) &&& (65535 : Int64)).toInt32))]) _
  rw [hc20]
  refine st11 _ ?_
  show own_S p e below T11 (mkF m 50 #[.val (.long q1), .second, .val (.long q2), .second, iv p3, iv la, iv ca, iv cb, .unset, .unset, .unset, .unset, .unset, .unset, .unset, .unset, .unset, .unset, .unset] [(.int (nar .char (((48 : Int32) + (((rr &&& (2147483647 : Int32)) % (62 : Int32)) - (52 : Int32))).toUInt32.toUInt16.toUInt32.toInt32)))]) _
  rw [hc23]
  refine XS.istore X11.here hx rfl (hb hby at_50) rfl (l' := #[.val (.long q1), .second, .val (.long q2), .second, iv p3, iv la, iv ca, iv cb, iv cc, .unset, .unset, .unset, .unset, .unset, .unset, .unset, .unset, .unset, .unset]) rfl ?_
  show own_S p e below T11 (mkF m 52 #[.val (.long q1), .second, .val (.long q2), .second, iv p3, iv la, iv ca, iv cb, iv cc, .unset, .unset, .unset, .unset, .unset, .unset, .unset, .unset, .unset, .unset] []) _
  exact kt
theorem own_p4 {p : Program} {l : Launch} {e : Env} {s : State} {m : MethodId} {args : Array Value} {below : List Frame} {meth : Method} {c : Code} {T0 : State} {locs : List Loc} (Z : State) (a0 : Array Value) (hw : own_HW Z a0) (q1 q2 : Int64) (p3 la ca cb : Int32) (h0 : Heap) (Z0 : Ext Z.heap h0) (X0 : Stand p l e room_1 s m args below meth c T0 locs 0 0) (hx : p.tables.exec = Jvm.exec) (hZ : Z.Warmed39 s.vm) (hby : c.code = code) (hml : c.maxLocals = 19) (hown : s.vm.findClass "com/example/faretally/faretally/ReasonEqualsPinLaw" = some m.cls) (e0 : T0.heap = h0) (N0 : Fr Z.heap.size locs) (P_la : own_len3 la) (P_ca : own_low ca) (P_cb : own_aln cb) :
    ∃ (cc : Int32) (T' : State) (L' : List Loc), own_aln cc ∧ Stand p l e room_1 s m args below meth c T' L' 0 0 ∧ T'.heap = h0 ∧ Fr Z.heap.size L' ∧ ∀ target, Steps p.tables e below (T'.setTop (mkF m 52 #[.val (.long q1), .second, .val (.long q2), .second, iv p3, iv la, iv ca, iv cb, iv cc, .unset, .unset, .unset, .unset, .unset, .unset, .unset, .unset, .unset, .unset] [])) target → Steps p.tables e below (T0.setTop (mkF m 38 #[.val (.long q1), .second, .val (.long q2), .second, iv p3, iv la, iv ca, iv cb, .unset, .unset, .unset, .unset, .unset, .unset, .unset, .unset, .unset, .unset, .unset] [])) target := by
  obtain ⟨rr, hrr⟩ : ∃ z, ((((q1.toUInt64 >>> ((32 : Int32) &&& 0x3f).toInt64.toUInt64).toInt64) &&& (65535 : Int64)).toInt32) = z := ⟨_, rfl⟩
  rcases own_k3 rr with ⟨k1, k2⟩ | ⟨k1, k2, k3⟩ | ⟨k1, k2, k3⟩
  · obtain ⟨T', L', h⟩ := own_p4_s0 Z a0 hw q1 q2 p3 la ca cb (nar .char (((97 : Int32) + ((rr &&& (2147483647 : Int32)) % (62 : Int32))).toUInt32.toUInt16.toUInt32.toInt32)) rr h0 Z0 hrr k1 rfl X0 hx hZ hby hml hown e0 N0
    exact ⟨_, T', L', own_r0 _ k1 k2, h⟩
  · obtain ⟨T', L', h⟩ := own_p4_s1 Z a0 hw q1 q2 p3 la ca cb (nar .char (((65 : Int32) + (((rr &&& (2147483647 : Int32)) % (62 : Int32)) - (26 : Int32))).toUInt32.toUInt16.toUInt32.toInt32)) rr h0 Z0 hrr k1 k2 rfl X0 hx hZ hby hml hown e0 N0
    exact ⟨_, T', L', own_r1 _ k1 k2 k3, h⟩
  · obtain ⟨T', L', h⟩ := own_p4_s2 Z a0 hw q1 q2 p3 la ca cb (nar .char (((48 : Int32) + (((rr &&& (2147483647 : Int32)) % (62 : Int32)) - (52 : Int32))).toUInt32.toUInt16.toUInt32.toInt32)) rr h0 Z0 hrr k1 k2 rfl X0 hx hZ hby hml hown e0 N0
    exact ⟨_, T', L', own_r2 _ k1 k2 k3, h⟩
theorem own_p5_z {p : Program} {l : Launch} {e : Env} {s : State} {m : MethodId} {args : Array Value} {below : List Frame} {meth : Method} {c : Code} {T0 : State} {locs : List Loc} (Z : State) (a0 : Array Value) (hw : own_HW Z a0) (q1 q2 : Int64) (p3 la ca cb cc lb : Int32) (h0 : Heap) (Z0 : Ext Z.heap h0) (hc24 : (p3 &&& (8 : Int32)) = (0 : Int32)) (hc25 : ((1 : Int32) + ((((q2.toUInt64 >>> ((48 : Int32) &&& 0x3f).toInt64.toUInt64).toInt64) - (((q2.toUInt64 >>> ((48 : Int32) &&& 0x3f).toInt64.toUInt64).toInt64) / (3 : Int64)) * (3 : Int64)).toInt32)) = lb) (X0 : Stand p l e room_1 s m args below meth c T0 locs 0 0) (hx : p.tables.exec = Jvm.exec) (hZ : Z.Warmed39 s.vm) (hby : c.code = code) (hml : c.maxLocals = 19) (hown : s.vm.findClass "com/example/faretally/faretally/ReasonEqualsPinLaw" = some m.cls) (e0 : T0.heap = h0) (N0 : Fr Z.heap.size locs) :
    ∃ (T' : State) (L' : List Loc), Stand p l e room_1 s m args below meth c T' L' 0 0 ∧ T'.heap = h0 ∧ Fr Z.heap.size L' ∧ ∀ target, Steps p.tables e below (T'.setTop (mkF m 78 #[.val (.long q1), .second, .val (.long q2), .second, iv p3, iv la, iv ca, iv cb, iv cc, iv lb, .unset, .unset, .unset, .unset, .unset, .unset, .unset, .unset, .unset] [])) target → Steps p.tables e below (T0.setTop (mkF m 52 #[.val (.long q1), .second, .val (.long q2), .second, iv p3, iv la, iv ca, iv cb, iv cc, .unset, .unset, .unset, .unset, .unset, .unset, .unset, .unset, .unset, .unset] [])) target := by
  refine ⟨_, _, X0, e0, N0, fun target kt => ?_⟩
  show own_S p e below T0 (mkF m 52 #[.val (.long q1), .second, .val (.long q2), .second, iv p3, iv la, iv ca, iv cb, iv cc, .unset, .unset, .unset, .unset, .unset, .unset, .unset, .unset, .unset, .unset] []) _
  refine own_i X0 hx hby at_52 ?_
  refine XS.bipush X0.here hx rfl (hb hby at_54) ?_
  refine XS.iand X0.here hx rfl (hb hby at_56) rfl ?_
  refine own_iy (pc := 57) X0 hx hby at_57 (teq hc24).1 65 ?_
  refine own_k X0 hx hby at_65 ?_
  refine XS.lloadN X0.here hx rfl (hb hby at_66) rfl ?_
  refine XS.bipush X0.here hx rfl (hb hby at_67) ?_
  refine XS.lushr X0.here hx rfl (hb hby at_69) rfl ?_
  refine X0.ldc2Long hx hown (mvT hZ (own_w hw 0 rfl)) (g := (mkF m 70 #[.val (.long q1), .second, .val (.long q2), .second, iv p3, iv la, iv ca, iv cb, iv cc, .unset, .unset, .unset, .unset, .unset, .unset, .unset, .unset, .unset, .unset] [(.long ((q2.toUInt64 >>> ((48 : Int32) &&& 0x3f).toInt64.toUInt64).toInt64)), (.int (1 : Int32))])) rfl (hb hby at_70) _ ?_
  refine XS.lrem X0.here hx rfl (hb hby at_73) rfl (by decide) ?_
  refine XS.l2i X0.here hx rfl (hb hby at_74) rfl ?_
  refine XS.iadd X0.here hx rfl (hb hby at_75) rfl ?_
  show own_S p e below T0 (mkF m 76 #[.val (.long q1), .second, .val (.long q2), .second, iv p3, iv la, iv ca, iv cb, iv cc, .unset, .unset, .unset, .unset, .unset, .unset, .unset, .unset, .unset, .unset] [(.int ((1 : Int32) + ((((q2.toUInt64 >>> ((48 : Int32) &&& 0x3f).toInt64.toUInt64).toInt64) - (((q2.toUInt64 >>> ((48 : Int32) &&& 0x3f).toInt64.toUInt64).toInt64) / (3 : Int64)) * (3 : Int64)).toInt32)))]) _
  rw [hc25]
  refine XS.istore X0.here hx rfl (hb hby at_76) rfl (l' := #[.val (.long q1), .second, .val (.long q2), .second, iv p3, iv la, iv ca, iv cb, iv cc, iv lb, .unset, .unset, .unset, .unset, .unset, .unset, .unset, .unset, .unset]) rfl ?_
  show own_S p e below T0 (mkF m 78 #[.val (.long q1), .second, .val (.long q2), .second, iv p3, iv la, iv ca, iv cb, iv cc, iv lb, .unset, .unset, .unset, .unset, .unset, .unset, .unset, .unset, .unset] []) _
  exact kt
theorem own_p5_k {p : Program} {l : Launch} {e : Env} {s : State} {m : MethodId} {args : Array Value} {below : List Frame} {meth : Method} {c : Code} {T0 : State} {locs : List Loc} (Z : State) (a0 : Array Value) (hw : own_HW Z a0) (q1 q2 : Int64) (p3 la ca cb cc : Int32) (h0 : Heap) (Z0 : Ext Z.heap h0) (hc26 : ¬ ((p3 &&& (8 : Int32)) = (0 : Int32))) (X0 : Stand p l e room_1 s m args below meth c T0 locs 0 0) (hx : p.tables.exec = Jvm.exec) (hZ : Z.Warmed39 s.vm) (hby : c.code = code) (hml : c.maxLocals = 19) (hown : s.vm.findClass "com/example/faretally/faretally/ReasonEqualsPinLaw" = some m.cls) (e0 : T0.heap = h0) (N0 : Fr Z.heap.size locs) :
    ∃ (T' : State) (L' : List Loc), Stand p l e room_1 s m args below meth c T' L' 0 0 ∧ T'.heap = h0 ∧ Fr Z.heap.size L' ∧ ∀ target, Steps p.tables e below (T'.setTop (mkF m 78 #[.val (.long q1), .second, .val (.long q2), .second, iv p3, iv la, iv ca, iv cb, iv cc, iv la, .unset, .unset, .unset, .unset, .unset, .unset, .unset, .unset, .unset] [])) target → Steps p.tables e below (T0.setTop (mkF m 52 #[.val (.long q1), .second, .val (.long q2), .second, iv p3, iv la, iv ca, iv cb, iv cc, .unset, .unset, .unset, .unset, .unset, .unset, .unset, .unset, .unset, .unset] [])) target := by
  refine ⟨_, _, X0, e0, N0, fun target kt => ?_⟩
  show own_S p e below T0 (mkF m 52 #[.val (.long q1), .second, .val (.long q2), .second, iv p3, iv la, iv ca, iv cb, iv cc, .unset, .unset, .unset, .unset, .unset, .unset, .unset, .unset, .unset, .unset] []) _
  refine own_i X0 hx hby at_52 ?_
  refine XS.bipush X0.here hx rfl (hb hby at_54) ?_
  refine XS.iand X0.here hx rfl (hb hby at_56) rfl ?_
  refine own_in X0 hx hby at_57 (feq hc26).1 ?_
  refine own_i X0 hx hby at_60 ?_
  refine own_go (pc := 62) X0 hx hby at_62 76 ?_
  refine XS.istore X0.here hx rfl (hb hby at_76) rfl (l' := #[.val (.long q1), .second, .val (.long q2), .second, iv p3, iv la, iv ca, iv cb, iv cc, iv la, .unset, .unset, .unset, .unset, .unset, .unset, .unset, .unset, .unset]) rfl ?_
  show own_S p e below T0 (mkF m 78 #[.val (.long q1), .second, .val (.long q2), .second, iv p3, iv la, iv ca, iv cb, iv cc, iv la, .unset, .unset, .unset, .unset, .unset, .unset, .unset, .unset, .unset] []) _
  exact kt
theorem own_p5 {p : Program} {l : Launch} {e : Env} {s : State} {m : MethodId} {args : Array Value} {below : List Frame} {meth : Method} {c : Code} {T0 : State} {locs : List Loc} (Z : State) (a0 : Array Value) (hw : own_HW Z a0) (q1 q2 : Int64) (p3 la ca cb cc : Int32) (h0 : Heap) (Z0 : Ext Z.heap h0) (X0 : Stand p l e room_1 s m args below meth c T0 locs 0 0) (hx : p.tables.exec = Jvm.exec) (hZ : Z.Warmed39 s.vm) (hby : c.code = code) (hml : c.maxLocals = 19) (hown : s.vm.findClass "com/example/faretally/faretally/ReasonEqualsPinLaw" = some m.cls) (e0 : T0.heap = h0) (N0 : Fr Z.heap.size locs) (P_la : own_len3 la) (P_ca : own_low ca) (P_cb : own_aln cb) (P_cc : own_aln cc) :
    ∃ (lb : Int32) (T' : State) (L' : List Loc), own_len3 lb ∧ Stand p l e room_1 s m args below meth c T' L' 0 0 ∧ T'.heap = h0 ∧ Fr Z.heap.size L' ∧ ∀ target, Steps p.tables e below (T'.setTop (mkF m 78 #[.val (.long q1), .second, .val (.long q2), .second, iv p3, iv la, iv ca, iv cb, iv cc, iv lb, .unset, .unset, .unset, .unset, .unset, .unset, .unset, .unset, .unset] [])) target → Steps p.tables e below (T0.setTop (mkF m 52 #[.val (.long q1), .second, .val (.long q2), .second, iv p3, iv la, iv ca, iv cb, iv cc, .unset, .unset, .unset, .unset, .unset, .unset, .unset, .unset, .unset, .unset] [])) target := by
  by_cases hm : (p3 &&& (8 : Int32)) = (0 : Int32)
  · obtain ⟨T', L', h⟩ := own_p5_z Z a0 hw q1 q2 p3 la ca cb cc ((1 : Int32) + ((((q2.toUInt64 >>> ((48 : Int32) &&& 0x3f).toInt64.toUInt64).toInt64) - (((q2.toUInt64 >>> ((48 : Int32) &&& 0x3f).toInt64.toUInt64).toInt64) / (3 : Int64)) * (3 : Int64)).toInt32)) h0 Z0 hm rfl X0 hx hZ hby hml hown e0 N0
    exact ⟨_, T', L', own_lenq q2, h⟩
  · obtain ⟨T', L', h⟩ := own_p5_k Z a0 hw q1 q2 p3 la ca cb cc h0 Z0 hm X0 hx hZ hby hml hown e0 N0
    exact ⟨_, T', L', P_la, h⟩
theorem own_p6_z {p : Program} {l : Launch} {e : Env} {s : State} {m : MethodId} {args : Array Value} {below : List Frame} {meth : Method} {c : Code} {T0 : State} {locs : List Loc} (Z : State) (a0 : Array Value) (hw : own_HW Z a0) (q1 q2 : Int64) (p3 la ca cb cc lb da : Int32) (h0 : Heap) (Z0 : Ext Z.heap h0) (hc27 : (p3 &&& (1 : Int32)) = (0 : Int32)) (hc28 : (nar .char (((97 : Int32) + ((((q2 &&& (65535 : Int64)).toInt32) &&& (2147483647 : Int32)) % (26 : Int32))).toUInt32.toUInt16.toUInt32.toInt32)) = da) (X0 : Stand p l e room_1 s m args below meth c T0 locs 0 0) (hx : p.tables.exec = Jvm.exec) (hZ : Z.Warmed39 s.vm) (hby : c.code = code) (hml : c.maxLocals = 19) (hown : s.vm.findClass "com/example/faretally/faretally/ReasonEqualsPinLaw" = some m.cls) (e0 : T0.heap = h0) (N0 : Fr Z.heap.size locs) :
    ∃ (T' : State) (L' : List Loc), Stand p l e room_1 s m args below meth c T' L' 0 0 ∧ T'.heap = h0 ∧ Fr Z.heap.size L' ∧ ∀ target, Steps p.tables e below (T'.setTop (mkF m 101 #[.val (.long q1), .second, .val (.long q2), .second, iv p3, iv la, iv ca, iv cb, iv cc, iv lb, iv da, .unset, .unset, .unset, .unset, .unset, .unset, .unset, .unset] [])) target → Steps p.tables e below (T0.setTop (mkF m 78 #[.val (.long q1), .second, .val (.long q2), .second, iv p3, iv la, iv ca, iv cb, iv cc, iv lb, .unset, .unset, .unset, .unset, .unset, .unset, .unset, .unset, .unset] [])) target := by
  obtain ⟨_, T12, Lc12, X12, hQ12, st12⟩ := own_static (y := y_0) X0 hx hZ hown (own_w hw 2 rfl) (own_w hw 3 rfl) (own_w hw 4 rfl) (own_w hw 5 rfl) (rm1 l Z a0 hw [] q2 h0 Z0 ) e0 (g := (mkF m 96 #[.val (.long q1), .second, .val (.long q2), .second, iv p3, iv la, iv ca, iv cb, iv cc, iv lb, .unset, .unset, .unset, .unset, .unset, .unset, .unset, .unset, .unset] [(.int ((q2 &&& (65535 : Int64)).toInt32))])) (argsL := [(.int ((q2 &&& (65535 : Int64)).toInt32))]) (rest := []) (W := 0) (lenOf pd_0 rfl) (hb hby at_96) hml
  obtain ⟨rfl, N12q, e12⟩ := hQ12
  have N12 := Fr.app N0 N12q
  refine ⟨_, _, X12, e12, N12, fun target kt => ?_⟩
  show own_S p e below T0 (mkF m 78 #[.val (.long q1), .second, .val (.long q2), .second, iv p3, iv la, iv ca, iv cb, iv cc, iv lb, .unset, .unset, .unset, .unset, .unset, .unset, .unset, .unset, .unset] []) _
  refine own_i X0 hx hby at_78 ?_
  refine own_k X0 hx hby at_80 ?_
  refine XS.iand X0.here hx rfl (hb hby at_81) rfl ?_
  refine own_iy (pc := 82) X0 hx hby at_82 (teq hc27).1 90 ?_
  refine XS.lloadN X0.here hx rfl (hb hby at_90) rfl ?_
  refine X0.ldc2Long hx hown (mvT hZ (own_w hw 1 rfl)) (g := (mkF m 91 #[.val (.long q1), .second, .val (.long q2), .second, iv p3, iv la, iv ca, iv cb, iv cc, iv lb, .unset, .unset, .unset, .unset, .unset, .unset, .unset, .unset, .unset] [(.long q2)])) rfl (hb hby at_91) _ ?_
  refine XS.land X0.here hx rfl (hb hby at_94) rfl ?_
  refine XS.l2i X0.here hx rfl (hb hby at_95) rfl ?_
  refine st12 _ ?_
  show own_S p e below T12 (mkF m 99 #[.val (.long q1), .second, .val (.long q2), .second, iv p3, iv la, iv ca, iv cb, iv cc, iv lb, .unset, .unset, .unset, .unset, .unset, .unset, .unset, .unset, .unset] [(.int (nar .char (((97 : Int32) + ((((q2 &&& (65535 : Int64)).toInt32) &&& (2147483647 : Int32)) % (26 : Int32))).toUInt32.toUInt16.toUInt32.toInt32)))]) _
  rw [hc28]
  refine XS.istore X12.here hx rfl (hb hby at_99) rfl (l' := #[.val (.long q1), .second, .val (.long q2), .second, iv p3, iv la, iv ca, iv cb, iv cc, iv lb, iv da, .unset, .unset, .unset, .unset, .unset, .unset, .unset, .unset]) rfl ?_
  show own_S p e below T12 (mkF m 101 #[.val (.long q1), .second, .val (.long q2), .second, iv p3, iv la, iv ca, iv cb, iv cc, iv lb, iv da, .unset, .unset, .unset, .unset, .unset, .unset, .unset, .unset] []) _
  exact kt
theorem own_p6_k {p : Program} {l : Launch} {e : Env} {s : State} {m : MethodId} {args : Array Value} {below : List Frame} {meth : Method} {c : Code} {T0 : State} {locs : List Loc} (Z : State) (a0 : Array Value) (hw : own_HW Z a0) (q1 q2 : Int64) (p3 la ca cb cc lb : Int32) (h0 : Heap) (Z0 : Ext Z.heap h0) (hc29 : ¬ ((p3 &&& (1 : Int32)) = (0 : Int32))) (X0 : Stand p l e room_1 s m args below meth c T0 locs 0 0) (hx : p.tables.exec = Jvm.exec) (hZ : Z.Warmed39 s.vm) (hby : c.code = code) (hml : c.maxLocals = 19) (hown : s.vm.findClass "com/example/faretally/faretally/ReasonEqualsPinLaw" = some m.cls) (e0 : T0.heap = h0) (N0 : Fr Z.heap.size locs) :
    ∃ (T' : State) (L' : List Loc), Stand p l e room_1 s m args below meth c T' L' 0 0 ∧ T'.heap = h0 ∧ Fr Z.heap.size L' ∧ ∀ target, Steps p.tables e below (T'.setTop (mkF m 101 #[.val (.long q1), .second, .val (.long q2), .second, iv p3, iv la, iv ca, iv cb, iv cc, iv lb, iv ca, .unset, .unset, .unset, .unset, .unset, .unset, .unset, .unset] [])) target → Steps p.tables e below (T0.setTop (mkF m 78 #[.val (.long q1), .second, .val (.long q2), .second, iv p3, iv la, iv ca, iv cb, iv cc, iv lb, .unset, .unset, .unset, .unset, .unset, .unset, .unset, .unset, .unset] [])) target := by
  refine ⟨_, _, X0, e0, N0, fun target kt => ?_⟩
  show own_S p e below T0 (mkF m 78 #[.val (.long q1), .second, .val (.long q2), .second, iv p3, iv la, iv ca, iv cb, iv cc, iv lb, .unset, .unset, .unset, .unset, .unset, .unset, .unset, .unset, .unset] []) _
  refine own_i X0 hx hby at_78 ?_
  refine own_k X0 hx hby at_80 ?_
  refine XS.iand X0.here hx rfl (hb hby at_81) rfl ?_
  refine own_in X0 hx hby at_82 (feq hc29).1 ?_
  refine own_i X0 hx hby at_85 ?_
  refine own_go (pc := 87) X0 hx hby at_87 99 ?_
  refine XS.istore X0.here hx rfl (hb hby at_99) rfl (l' := #[.val (.long q1), .second, .val (.long q2), .second, iv p3, iv la, iv ca, iv cb, iv cc, iv lb, iv ca, .unset, .unset, .unset, .unset, .unset, .unset, .unset, .unset]) rfl ?_
  show own_S p e below T0 (mkF m 101 #[.val (.long q1), .second, .val (.long q2), .second, iv p3, iv la, iv ca, iv cb, iv cc, iv lb, iv ca, .unset, .unset, .unset, .unset, .unset, .unset, .unset, .unset] []) _
  exact kt
theorem own_p6 {p : Program} {l : Launch} {e : Env} {s : State} {m : MethodId} {args : Array Value} {below : List Frame} {meth : Method} {c : Code} {T0 : State} {locs : List Loc} (Z : State) (a0 : Array Value) (hw : own_HW Z a0) (q1 q2 : Int64) (p3 la ca cb cc lb : Int32) (h0 : Heap) (Z0 : Ext Z.heap h0) (X0 : Stand p l e room_1 s m args below meth c T0 locs 0 0) (hx : p.tables.exec = Jvm.exec) (hZ : Z.Warmed39 s.vm) (hby : c.code = code) (hml : c.maxLocals = 19) (hown : s.vm.findClass "com/example/faretally/faretally/ReasonEqualsPinLaw" = some m.cls) (e0 : T0.heap = h0) (N0 : Fr Z.heap.size locs) (P_la : own_len3 la) (P_ca : own_low ca) (P_cb : own_aln cb) (P_cc : own_aln cc) (P_lb : own_len3 lb) :
    ∃ (da : Int32) (T' : State) (L' : List Loc), own_low da ∧ Stand p l e room_1 s m args below meth c T' L' 0 0 ∧ T'.heap = h0 ∧ Fr Z.heap.size L' ∧ ∀ target, Steps p.tables e below (T'.setTop (mkF m 101 #[.val (.long q1), .second, .val (.long q2), .second, iv p3, iv la, iv ca, iv cb, iv cc, iv lb, iv da, .unset, .unset, .unset, .unset, .unset, .unset, .unset, .unset] [])) target → Steps p.tables e below (T0.setTop (mkF m 78 #[.val (.long q1), .second, .val (.long q2), .second, iv p3, iv la, iv ca, iv cb, iv cc, iv lb, .unset, .unset, .unset, .unset, .unset, .unset, .unset, .unset, .unset] [])) target := by
  by_cases hm : (p3 &&& (1 : Int32)) = (0 : Int32)
  · obtain ⟨T', L', h⟩ := own_p6_z Z a0 hw q1 q2 p3 la ca cb cc lb (nar .char (((97 : Int32) + ((((q2 &&& (65535 : Int64)).toInt32) &&& (2147483647 : Int32)) % (26 : Int32))).toUInt32.toUInt16.toUInt32.toInt32)) h0 Z0 hm rfl X0 hx hZ hby hml hown e0 N0
    exact ⟨_, T', L', own_first _, h⟩
  · obtain ⟨T', L', h⟩ := own_p6_k Z a0 hw q1 q2 p3 la ca cb cc lb h0 Z0 hm X0 hx hZ hby hml hown e0 N0
    exact ⟨_, T', L', P_ca, h⟩
theorem own_p7_s0 {p : Program} {l : Launch} {e : Env} {s : State} {m : MethodId} {args : Array Value} {below : List Frame} {meth : Method} {c : Code} {T0 : State} {locs : List Loc} (Z : State) (a0 : Array Value) (hw : own_HW Z a0) (q1 q2 : Int64) (p3 la ca cb cc lb da db rr : Int32) (h0 : Heap) (Z0 : Ext Z.heap h0) (hc30 : (p3 &&& (2 : Int32)) = (0 : Int32)) (hc31 : ((((q2.toUInt64 >>> ((16 : Int32) &&& 0x3f).toInt64.toUInt64).toInt64) &&& (65535 : Int64)).toInt32) = rr) (hc13 : ((rr &&& (2147483647 : Int32)) % (62 : Int32)) < (26 : Int32)) (hc32 : (nar .char (((97 : Int32) + ((rr &&& (2147483647 : Int32)) % (62 : Int32))).toUInt32.toUInt16.toUInt32.toInt32)) = db) (X0 : Stand p l e room_1 s m args below meth c T0 locs 0 0) (hx : p.tables.exec = Jvm.exec) (hZ : Z.Warmed39 s.vm) (hby : c.code = code) (hml : c.maxLocals = 19) (hown : s.vm.findClass "com/example/faretally/faretally/ReasonEqualsPinLaw" = some m.cls) (e0 : T0.heap = h0) (N0 : Fr Z.heap.size locs) :
    ∃ (T' : State) (L' : List Loc), Stand p l e room_1 s m args below meth c T' L' 0 0 ∧ T'.heap = h0 ∧ Fr Z.heap.size L' ∧ ∀ target, Steps p.tables e below (T'.setTop (mkF m 127 #[.val (.long q1), .second, .val (.long q2), .second, iv p3, iv la, iv ca, iv cb, iv cc, iv lb, iv da, iv db, .unset, .unset, .unset, .unset, .unset, .unset, .unset] [])) target → Steps p.tables e below (T0.setTop (mkF m 101 #[.val (.long q1), .second, .val (.long q2), .second, iv p3, iv la, iv ca, iv cb, iv cc, iv lb, iv da, .unset, .unset, .unset, .unset, .unset, .unset, .unset, .unset] [])) target := by
  obtain ⟨_, T13, Lc13, X13, hQ13, st13⟩ := own_static (y := y_1) X0 hx hZ hown (own_w hw 7 rfl) (own_w hw 8 rfl) (own_w hw 4 rfl) (own_w hw 9 rfl) (rm3 l Z a0 hw [] rr h0 Z0 hc13) e0 (g := (mkF m 122 #[.val (.long q1), .second, .val (.long q2), .second, iv p3, iv la, iv ca, iv cb, iv cc, iv lb, iv da, .unset, .unset, .unset, .unset, .unset, .unset, .unset, .unset] [(.int rr)])) (argsL := [(.int rr)]) (rest := []) (W := 0) (lenOf pd_0 rfl) (hb hby at_122) hml
  obtain ⟨rfl, N13q, e13⟩ := hQ13
  have N13 := Fr.app N0 N13q
  refine ⟨_, _, X13, e13, N13, fun target kt => ?_⟩
  show own_S p e below T0 (mkF m 101 #[.val (.long q1), .second, .val (.long q2), .second, iv p3, iv la, iv ca, iv cb, iv cc, iv lb, iv da, .unset, .unset, .unset, .unset, .unset, .unset, .unset, .unset] []) _
  refine own_i X0 hx hby at_101 ?_
  refine own_k X0 hx hby at_103 ?_
  refine XS.iand X0.here hx rfl (hb hby at_104) rfl ?_
  refine own_iy (pc := 105) X0 hx hby at_105 (teq hc30).1 113 ?_
  refine XS.lloadN X0.here hx rfl (hb hby at_113) rfl ?_
  refine XS.bipush X0.here hx rfl (hb hby at_114) ?_
  refine XS.lushr X0.here hx rfl (hb hby at_116) rfl ?_
  refine X0.ldc2Long hx hown (mvT hZ (own_w hw 1 rfl)) (g := (mkF m 117 #[.val (.long q1), .second, .val (.long q2), .second, iv p3, iv la, iv ca, iv cb, iv cc, iv lb, iv da, .unset, .unset, .unset, .unset, .unset, .unset, .unset, .unset] [(.long ((q2.toUInt64 >>> ((16 : Int32) &&& 0x3f).toInt64.toUInt64).toInt64))])) rfl (hb hby at_117) _ ?_
  refine XS.land X0.here hx rfl (hb hby at_120) rfl ?_
  refine XS.l2i X0.here hx rfl (hb hby at_121) rfl ?_
  show own_S p e below T0 (mkF m 122 #[.val (.long q1), .second, .val (.long q2), .second, iv p3, iv la, iv ca, iv cb, iv cc, iv lb, iv da, .unset, .unset, .unset, .unset, .unset, .unset, .unset, .unset] [(.int ((((q2.toUInt64 >>> ((16 : Int32) &&& 0x3f).toInt64.toUInt64).toInt64) &&& (65535 : Int64)).toInt32))]) _
  rw [hc31]
  refine st13 _ ?_
  show own_S p e below T13 (mkF m 125 #[.val (.long q1), .second, .val (.long q2), .second, iv p3, iv la, iv ca, iv cb, iv cc, iv lb, iv da, .unset, .unset, .unset, .unset, .unset, .unset, .unset, .unset] [(.int (nar .char (((97 : Int32) + ((rr &&& (2147483647 : Int32)) % (62 : Int32))).toUInt32.toUInt16.toUInt32.toInt32)))]) _
  rw [hc32]
  refine XS.istore X13.here hx rfl (hb hby at_125) rfl (l' := #[.val (.long q1), .second, .val (.long q2), .second, iv p3, iv la, iv ca, iv cb, iv cc, iv lb, iv da, iv db, .unset, .unset, .unset, .unset, .unset, .unset, .unset]) rfl ?_
  show own_S p e below T13 (mkF m 127 #[.val (.long q1), .second, .val (.long q2), .second, iv p3, iv la, iv ca, iv cb, iv cc, iv lb, iv da, iv db, .unset, .unset, .unset, .unset, .unset, .unset, .unset] []) _
  exact kt
theorem own_p7_s1 {p : Program} {l : Launch} {e : Env} {s : State} {m : MethodId} {args : Array Value} {below : List Frame} {meth : Method} {c : Code} {T0 : State} {locs : List Loc} (Z : State) (a0 : Array Value) (hw : own_HW Z a0) (q1 q2 : Int64) (p3 la ca cb cc lb da db rr : Int32) (h0 : Heap) (Z0 : Ext Z.heap h0) (hc30 : (p3 &&& (2 : Int32)) = (0 : Int32)) (hc31 : ((((q2.toUInt64 >>> ((16 : Int32) &&& 0x3f).toInt64.toUInt64).toInt64) &&& (65535 : Int64)).toInt32) = rr) (hc15 : ¬ (((rr &&& (2147483647 : Int32)) % (62 : Int32)) < (26 : Int32))) (hc16 : ((rr &&& (2147483647 : Int32)) % (62 : Int32)) < (52 : Int32)) (hc33 : (nar .char (((65 : Int32) + (((rr &&& (2147483647 : Int32)) % (62 : Int32)) - (26 : Int32))).toUInt32.toUInt16.toUInt32.toInt32)) = db) (X0 : Stand p l e room_1 s m args below meth c T0 locs 0 0) (hx : p.tables.exec = Jvm.exec) (hZ : Z.Warmed39 s.vm) (hby : c.code = code) (hml : c.maxLocals = 19) (hown : s.vm.findClass "com/example/faretally/faretally/ReasonEqualsPinLaw" = some m.cls) (e0 : T0.heap = h0) (N0 : Fr Z.heap.size locs) :
    ∃ (T' : State) (L' : List Loc), Stand p l e room_1 s m args below meth c T' L' 0 0 ∧ T'.heap = h0 ∧ Fr Z.heap.size L' ∧ ∀ target, Steps p.tables e below (T'.setTop (mkF m 127 #[.val (.long q1), .second, .val (.long q2), .second, iv p3, iv la, iv ca, iv cb, iv cc, iv lb, iv da, iv db, .unset, .unset, .unset, .unset, .unset, .unset, .unset] [])) target → Steps p.tables e below (T0.setTop (mkF m 101 #[.val (.long q1), .second, .val (.long q2), .second, iv p3, iv la, iv ca, iv cb, iv cc, iv lb, iv da, .unset, .unset, .unset, .unset, .unset, .unset, .unset, .unset] [])) target := by
  obtain ⟨_, T14, Lc14, X14, hQ14, st14⟩ := own_static (y := y_1) X0 hx hZ hown (own_w hw 7 rfl) (own_w hw 8 rfl) (own_w hw 4 rfl) (own_w hw 9 rfl) (rm5 l Z a0 hw [] rr h0 Z0 hc15 hc16) e0 (g := (mkF m 122 #[.val (.long q1), .second, .val (.long q2), .second, iv p3, iv la, iv ca, iv cb, iv cc, iv lb, iv da, .unset, .unset, .unset, .unset, .unset, .unset, .unset, .unset] [(.int rr)])) (argsL := [(.int rr)]) (rest := []) (W := 0) (lenOf pd_0 rfl) (hb hby at_122) hml
  obtain ⟨rfl, N14q, e14⟩ := hQ14
  have N14 := Fr.app N0 N14q
  refine ⟨_, _, X14, e14, N14, fun target kt => ?_⟩
  show own_S p e below T0 (mkF m 101 #[.val (.long q1), .second, .val (.long q2), .second, iv p3, iv la, iv ca, iv cb, iv cc, iv lb, iv da, .unset, .unset, .unset, .unset, .unset, .unset, .unset, .unset] []) _
  refine own_i X0 hx hby at_101 ?_
  refine own_k X0 hx hby at_103 ?_
  refine XS.iand X0.here hx rfl (hb hby at_104) rfl ?_
  refine own_iy (pc := 105) X0 hx hby at_105 (teq hc30).1 113 ?_
  refine XS.lloadN X0.here hx rfl (hb hby at_113) rfl ?_
  refine XS.bipush X0.here hx rfl (hb hby at_114) ?_
  refine XS.lushr X0.here hx rfl (hb hby at_116) rfl ?_
  refine X0.ldc2Long hx hown (mvT hZ (own_w hw 1 rfl)) (g := (mkF m 117 #[.val (.long q1), .second, .val (.long q2), .second, iv p3, iv la, iv ca, iv cb, iv cc, iv lb, iv da, .unset, .unset, .unset, .unset, .unset, .unset, .unset, .unset] [(.long ((q2.toUInt64 >>> ((16 : Int32) &&& 0x3f).toInt64.toUInt64).toInt64))])) rfl (hb hby at_117) _ ?_
  refine XS.land X0.here hx rfl (hb hby at_120) rfl ?_
  refine XS.l2i X0.here hx rfl (hb hby at_121) rfl ?_
  show own_S p e below T0 (mkF m 122 #[.val (.long q1), .second, .val (.long q2), .second, iv p3, iv la, iv ca, iv cb, iv cc, iv lb, iv da, .unset, .unset, .unset, .unset, .unset, .unset, .unset, .unset] [(.int ((((q2.toUInt64 >>> ((16 : Int32) &&& 0x3f).toInt64.toUInt64).toInt64) &&& (65535 : Int64)).toInt32))]) _
  rw [hc31]
  refine st14 _ ?_
  show own_S p e below T14 (mkF m 125 #[.val (.long q1), .second, .val (.long q2), .second, iv p3, iv la, iv ca, iv cb, iv cc, iv lb, iv da, .unset, .unset, .unset, .unset, .unset, .unset, .unset, .unset] [(.int (nar .char (((65 : Int32) + (((rr &&& (2147483647 : Int32)) % (62 : Int32)) - (26 : Int32))).toUInt32.toUInt16.toUInt32.toInt32)))]) _
  rw [hc33]
  refine XS.istore X14.here hx rfl (hb hby at_125) rfl (l' := #[.val (.long q1), .second, .val (.long q2), .second, iv p3, iv la, iv ca, iv cb, iv cc, iv lb, iv da, iv db, .unset, .unset, .unset, .unset, .unset, .unset, .unset]) rfl ?_
  show own_S p e below T14 (mkF m 127 #[.val (.long q1), .second, .val (.long q2), .second, iv p3, iv la, iv ca, iv cb, iv cc, iv lb, iv da, iv db, .unset, .unset, .unset, .unset, .unset, .unset, .unset] []) _
  exact kt
theorem own_p7_s2 {p : Program} {l : Launch} {e : Env} {s : State} {m : MethodId} {args : Array Value} {below : List Frame} {meth : Method} {c : Code} {T0 : State} {locs : List Loc} (Z : State) (a0 : Array Value) (hw : own_HW Z a0) (q1 q2 : Int64) (p3 la ca cb cc lb da db rr : Int32) (h0 : Heap) (Z0 : Ext Z.heap h0) (hc30 : (p3 &&& (2 : Int32)) = (0 : Int32)) (hc31 : ((((q2.toUInt64 >>> ((16 : Int32) &&& 0x3f).toInt64.toUInt64).toInt64) &&& (65535 : Int64)).toInt32) = rr) (hc15 : ¬ (((rr &&& (2147483647 : Int32)) % (62 : Int32)) < (26 : Int32))) (hc18 : ¬ (((rr &&& (2147483647 : Int32)) % (62 : Int32)) < (52 : Int32))) (hc34 : (nar .char (((48 : Int32) + (((rr &&& (2147483647 : Int32)) % (62 : Int32)) - (52 : Int32))).toUInt32.toUInt16.toUInt32.toInt32)) = db) (X0 : Stand p l e room_1 s m args below meth c T0 locs 0 0) (hx : p.tables.exec = Jvm.exec) (hZ : Z.Warmed39 s.vm) (hby : c.code = code) (hml : c.maxLocals = 19) (hown : s.vm.findClass "com/example/faretally/faretally/ReasonEqualsPinLaw" = some m.cls) (e0 : T0.heap = h0) (N0 : Fr Z.heap.size locs) :
    ∃ (T' : State) (L' : List Loc), Stand p l e room_1 s m args below meth c T' L' 0 0 ∧ T'.heap = h0 ∧ Fr Z.heap.size L' ∧ ∀ target, Steps p.tables e below (T'.setTop (mkF m 127 #[.val (.long q1), .second, .val (.long q2), .second, iv p3, iv la, iv ca, iv cb, iv cc, iv lb, iv da, iv db, .unset, .unset, .unset, .unset, .unset, .unset, .unset] [])) target → Steps p.tables e below (T0.setTop (mkF m 101 #[.val (.long q1), .second, .val (.long q2), .second, iv p3, iv la, iv ca, iv cb, iv cc, iv lb, iv da, .unset, .unset, .unset, .unset, .unset, .unset, .unset, .unset] [])) target := by
  obtain ⟨_, T15, Lc15, X15, hQ15, st15⟩ := own_static (y := y_1) X0 hx hZ hown (own_w hw 7 rfl) (own_w hw 8 rfl) (own_w hw 4 rfl) (own_w hw 9 rfl) (rm7 l Z a0 hw [] rr h0 Z0 hc15 hc18) e0 (g := (mkF m 122 #[.val (.long q1), .second, .val (.long q2), .second, iv p3, iv la, iv ca, iv cb, iv cc, iv lb, iv da, .unset, .unset, .unset, .unset, .unset, .unset, .unset, .unset] [(.int rr)])) (argsL := [(.int rr)]) (rest := []) (W := 0) (lenOf pd_0 rfl) (hb hby at_122) hml
  obtain ⟨rfl, N15q, e15⟩ := hQ15
  have N15 := Fr.app N0 N15q
  refine ⟨_, _, X15, e15, N15, fun target kt => ?_⟩
  show own_S p e below T0 (mkF m 101 #[.val (.long q1), .second, .val (.long q2), .second, iv p3, iv la, iv ca, iv cb, iv cc, iv lb, iv da, .unset, .unset, .unset, .unset, .unset, .unset, .unset, .unset] []) _
  refine own_i X0 hx hby at_101 ?_
  refine own_k X0 hx hby at_103 ?_
  refine XS.iand X0.here hx rfl (hb hby at_104) rfl ?_
  refine own_iy (pc := 105) X0 hx hby at_105 (teq hc30).1 113 ?_
  refine XS.lloadN X0.here hx rfl (hb hby at_113) rfl ?_
  refine XS.bipush X0.here hx rfl (hb hby at_114) ?_
  refine XS.lushr X0.here hx rfl (hb hby at_116) rfl ?_
  refine X0.ldc2Long hx hown (mvT hZ (own_w hw 1 rfl)) (g := (mkF m 117 #[.val (.long q1), .second, .val (.long q2), .second, iv p3, iv la, iv ca, iv cb, iv cc, iv lb, iv da, .unset, .unset, .unset, .unset, .unset, .unset, .unset, .unset] [(.long ((q2.toUInt64 >>> ((16 : Int32) &&& 0x3f).toInt64.toUInt64).toInt64))])) rfl (hb hby at_117) _ ?_
  refine XS.land X0.here hx rfl (hb hby at_120) rfl ?_
  refine XS.l2i X0.here hx rfl (hb hby at_121) rfl ?_
  show own_S p e below T0 (mkF m 122 #[.val (.long q1), .second, .val (.long q2), .second, iv p3, iv la, iv ca, iv cb, iv cc, iv lb, iv da, .unset, .unset, .unset, .unset, .unset, .unset, .unset, .unset] [(.int ((((q2.toUInt64 >>> ((16 : Int32) &&& 0x3f).toInt64.toUInt64).toInt64) &&& (65535 : Int64)).toInt32))]) _
  rw [hc31]
  refine st15 _ ?_
  show own_S p e below T15 (mkF m 125 #[.val (.long q1), .second, .val (.long q2), .second, iv p3, iv la, iv ca, iv cb, iv cc, iv lb, iv da, .unset, .unset, .unset, .unset, .unset, .unset, .unset, .unset] [(.int (nar .char (((48 : Int32) + (((rr &&& (2147483647 : Int32)) % (62 : Int32)) - (52 : Int32))).toUInt32.toUInt16.toUInt32.toInt32)))]) _
  rw [hc34]
  refine XS.istore X15.here hx rfl (hb hby at_125) rfl (l' := #[.val (.long q1), .second, .val (.long q2), .second, iv p3, iv la, iv ca, iv cb, iv cc, iv lb, iv da, iv db, .unset, .unset, .unset, .unset, .unset, .unset, .unset]) rfl ?_
  show own_S p e below T15 (mkF m 127 #[.val (.long q1), .second, .val (.long q2), .second, iv p3, iv la, iv ca, iv cb, iv cc, iv lb, iv da, iv db, .unset, .unset, .unset, .unset, .unset, .unset, .unset] []) _
  exact kt
theorem own_p7_k {p : Program} {l : Launch} {e : Env} {s : State} {m : MethodId} {args : Array Value} {below : List Frame} {meth : Method} {c : Code} {T0 : State} {locs : List Loc} (Z : State) (a0 : Array Value) (hw : own_HW Z a0) (q1 q2 : Int64) (p3 la ca cb cc lb da : Int32) (h0 : Heap) (Z0 : Ext Z.heap h0) (hc35 : ¬ ((p3 &&& (2 : Int32)) = (0 : Int32))) (X0 : Stand p l e room_1 s m args below meth c T0 locs 0 0) (hx : p.tables.exec = Jvm.exec) (hZ : Z.Warmed39 s.vm) (hby : c.code = code) (hml : c.maxLocals = 19) (hown : s.vm.findClass "com/example/faretally/faretally/ReasonEqualsPinLaw" = some m.cls) (e0 : T0.heap = h0) (N0 : Fr Z.heap.size locs) :
    ∃ (T' : State) (L' : List Loc), Stand p l e room_1 s m args below meth c T' L' 0 0 ∧ T'.heap = h0 ∧ Fr Z.heap.size L' ∧ ∀ target, Steps p.tables e below (T'.setTop (mkF m 127 #[.val (.long q1), .second, .val (.long q2), .second, iv p3, iv la, iv ca, iv cb, iv cc, iv lb, iv da, iv cb, .unset, .unset, .unset, .unset, .unset, .unset, .unset] [])) target → Steps p.tables e below (T0.setTop (mkF m 101 #[.val (.long q1), .second, .val (.long q2), .second, iv p3, iv la, iv ca, iv cb, iv cc, iv lb, iv da, .unset, .unset, .unset, .unset, .unset, .unset, .unset, .unset] [])) target := by
  refine ⟨_, _, X0, e0, N0, fun target kt => ?_⟩
  show own_S p e below T0 (mkF m 101 #[.val (.long q1), .second, .val (.long q2), .second, iv p3, iv la, iv ca, iv cb, iv cc, iv lb, iv da, .unset, .unset, .unset, .unset, .unset, .unset, .unset, .unset] []) _
  refine own_i X0 hx hby at_101 ?_
  refine own_k X0 hx hby at_103 ?_
  refine XS.iand X0.here hx rfl (hb hby at_104) rfl ?_
  refine own_in X0 hx hby at_105 (feq hc35).1 ?_
  refine own_i X0 hx hby at_108 ?_
  refine own_go (pc := 110) X0 hx hby at_110 125 ?_
  refine XS.istore X0.here hx rfl (hb hby at_125) rfl (l' := #[.val (.long q1), .second, .val (.long q2), .second, iv p3, iv la, iv ca, iv cb, iv cc, iv lb, iv da, iv cb, .unset, .unset, .unset, .unset, .unset, .unset, .unset]) rfl ?_
  show own_S p e below T0 (mkF m 127 #[.val (.long q1), .second, .val (.long q2), .second, iv p3, iv la, iv ca, iv cb, iv cc, iv lb, iv da, iv cb, .unset, .unset, .unset, .unset, .unset, .unset, .unset] []) _
  exact kt
theorem own_p7 {p : Program} {l : Launch} {e : Env} {s : State} {m : MethodId} {args : Array Value} {below : List Frame} {meth : Method} {c : Code} {T0 : State} {locs : List Loc} (Z : State) (a0 : Array Value) (hw : own_HW Z a0) (q1 q2 : Int64) (p3 la ca cb cc lb da : Int32) (h0 : Heap) (Z0 : Ext Z.heap h0) (X0 : Stand p l e room_1 s m args below meth c T0 locs 0 0) (hx : p.tables.exec = Jvm.exec) (hZ : Z.Warmed39 s.vm) (hby : c.code = code) (hml : c.maxLocals = 19) (hown : s.vm.findClass "com/example/faretally/faretally/ReasonEqualsPinLaw" = some m.cls) (e0 : T0.heap = h0) (N0 : Fr Z.heap.size locs) (P_la : own_len3 la) (P_ca : own_low ca) (P_cb : own_aln cb) (P_cc : own_aln cc) (P_lb : own_len3 lb) (P_da : own_low da) :
    ∃ (db : Int32) (T' : State) (L' : List Loc), own_aln db ∧ Stand p l e room_1 s m args below meth c T' L' 0 0 ∧ T'.heap = h0 ∧ Fr Z.heap.size L' ∧ ∀ target, Steps p.tables e below (T'.setTop (mkF m 127 #[.val (.long q1), .second, .val (.long q2), .second, iv p3, iv la, iv ca, iv cb, iv cc, iv lb, iv da, iv db, .unset, .unset, .unset, .unset, .unset, .unset, .unset] [])) target → Steps p.tables e below (T0.setTop (mkF m 101 #[.val (.long q1), .second, .val (.long q2), .second, iv p3, iv la, iv ca, iv cb, iv cc, iv lb, iv da, .unset, .unset, .unset, .unset, .unset, .unset, .unset, .unset] [])) target := by
  by_cases hm : (p3 &&& (2 : Int32)) = (0 : Int32)
  · obtain ⟨rr, hrr⟩ : ∃ z, ((((q2.toUInt64 >>> ((16 : Int32) &&& 0x3f).toInt64.toUInt64).toInt64) &&& (65535 : Int64)).toInt32) = z := ⟨_, rfl⟩
    rcases own_k3 rr with ⟨k1, k2⟩ | ⟨k1, k2, k3⟩ | ⟨k1, k2, k3⟩
    · obtain ⟨T', L', h⟩ := own_p7_s0 Z a0 hw q1 q2 p3 la ca cb cc lb da (nar .char (((97 : Int32) + ((rr &&& (2147483647 : Int32)) % (62 : Int32))).toUInt32.toUInt16.toUInt32.toInt32)) rr h0 Z0 hm hrr k1 rfl X0 hx hZ hby hml hown e0 N0
      exact ⟨_, T', L', own_r0 _ k1 k2, h⟩
    · obtain ⟨T', L', h⟩ := own_p7_s1 Z a0 hw q1 q2 p3 la ca cb cc lb da (nar .char (((65 : Int32) + (((rr &&& (2147483647 : Int32)) % (62 : Int32)) - (26 : Int32))).toUInt32.toUInt16.toUInt32.toInt32)) rr h0 Z0 hm hrr k1 k2 rfl X0 hx hZ hby hml hown e0 N0
      exact ⟨_, T', L', own_r1 _ k1 k2 k3, h⟩
    · obtain ⟨T', L', h⟩ := own_p7_s2 Z a0 hw q1 q2 p3 la ca cb cc lb da (nar .char (((48 : Int32) + (((rr &&& (2147483647 : Int32)) % (62 : Int32)) - (52 : Int32))).toUInt32.toUInt16.toUInt32.toInt32)) rr h0 Z0 hm hrr k1 k2 rfl X0 hx hZ hby hml hown e0 N0
      exact ⟨_, T', L', own_r2 _ k1 k2 k3, h⟩
  · obtain ⟨T', L', h⟩ := own_p7_k Z a0 hw q1 q2 p3 la ca cb cc lb da h0 Z0 hm X0 hx hZ hby hml hown e0 N0
    exact ⟨_, T', L', P_cb, h⟩
theorem own_p8_s0 {p : Program} {l : Launch} {e : Env} {s : State} {m : MethodId} {args : Array Value} {below : List Frame} {meth : Method} {c : Code} {T0 : State} {locs : List Loc} (Z : State) (a0 : Array Value) (hw : own_HW Z a0) (q1 q2 : Int64) (p3 la ca cb cc lb da db dc rr : Int32) (h0 : Heap) (Z0 : Ext Z.heap h0) (hc36 : (p3 &&& (4 : Int32)) = (0 : Int32)) (hc37 : ((((q2.toUInt64 >>> ((32 : Int32) &&& 0x3f).toInt64.toUInt64).toInt64) &&& (65535 : Int64)).toInt32) = rr) (hc13 : ((rr &&& (2147483647 : Int32)) % (62 : Int32)) < (26 : Int32)) (hc38 : (nar .char (((97 : Int32) + ((rr &&& (2147483647 : Int32)) % (62 : Int32))).toUInt32.toUInt16.toUInt32.toInt32)) = dc) (X0 : Stand p l e room_1 s m args below meth c T0 locs 0 0) (hx : p.tables.exec = Jvm.exec) (hZ : Z.Warmed39 s.vm) (hby : c.code = code) (hml : c.maxLocals = 19) (hown : s.vm.findClass "com/example/faretally/faretally/ReasonEqualsPinLaw" = some m.cls) (e0 : T0.heap = h0) (N0 : Fr Z.heap.size locs) :
    ∃ (T' : State) (L' : List Loc), Stand p l e room_1 s m args below meth c T' L' 0 0 ∧ T'.heap = h0 ∧ Fr Z.heap.size L' ∧ ∀ target, Steps p.tables e below (T'.setTop (mkF m 153 (own_T q1 q2 p3 la ca cb cc lb da db dc .unset .unset .unset .unset .unset .unset) [])) target → Steps p.tables e below (T0.setTop (mkF m 127 #[.val (.long q1), .second, .val (.long q2), .second, iv p3, iv la, iv ca, iv cb, iv cc, iv lb, iv da, iv db, .unset, .unset, .unset, .unset, .unset, .unset, .unset] [])) target := by
  obtain ⟨_, T16, Lc16, X16, hQ16, st16⟩ := own_static (y := y_1) X0 hx hZ hown (own_w hw 7 rfl) (own_w hw 8 rfl) (own_w hw 4 rfl) (own_w hw 9 rfl) (rm3 l Z a0 hw [] rr h0 Z0 hc13) e0 (g := (mkF m 148 #[.val (.long q1), .second, .val (.long q2), .second, iv p3, iv la, iv ca, iv cb, iv cc, iv lb, iv da, iv db, .unset, .unset, .unset, .unset, .unset, .unset, .unset] [(.int rr)])) (argsL := [(.int rr)]) (rest := []) (W := 0) (lenOf pd_0 rfl) (hb hby at_148) hml
  obtain ⟨rfl, N16q, e16⟩ := hQ16
  have N16 := Fr.app N0 N16q
  refine ⟨_, _, X16, e16, N16, fun target kt => ?_⟩
  show own_S p e below T0 (mkF m 127 #[.val (.long q1), .second, .val (.long q2), .second, iv p3, iv la, iv ca, iv cb, iv cc, iv lb, iv da, iv db, .unset, .unset, .unset, .unset, .unset, .unset, .unset] []) _
  refine own_i X0 hx hby at_127 ?_
  refine own_k X0 hx hby at_129 ?_
  refine XS.iand X0.here hx rfl (hb hby at_130) rfl ?_
  refine own_iy (pc := 131) X0 hx hby at_131 (teq hc36).1 139 ?_
  refine XS.lloadN X0.here hx rfl (hb hby at_139) rfl ?_
  refine XS.bipush X0.here hx rfl (hb hby at_140) ?_
  refine XS.lushr X0.here hx rfl (hb hby at_142) rfl ?_
  refine X0.ldc2Long hx hown (mvT hZ (own_w hw 1 rfl)) (g := (mkF m 143 #[.val (.long q1), .second, .val (.long q2), .second, iv p3, iv la, iv ca, iv cb, iv cc, iv lb, iv da, iv db, .unset, .unset, .unset, .unset, .unset, .unset, .unset] [(.long ((q2.toUInt64 >>> ((32 : Int32) &&& 0x3f).toInt64.toUInt64).toInt64))])) rfl (hb hby at_143) _ ?_
  refine XS.land X0.here hx rfl (hb hby at_146) rfl ?_
  refine XS.l2i X0.here hx rfl (hb hby at_147) rfl ?_
  show own_S p e below T0 (mkF m 148 #[.val (.long q1), .second, .val (.long q2), .second, iv p3, iv la, iv ca, iv cb, iv cc, iv lb, iv da, iv db, .unset, .unset, .unset, .unset, .unset, .unset, .unset] [(.int ((((q2.toUInt64 >>> ((32 : Int32) &&& 0x3f).toInt64.toUInt64).toInt64) &&& (65535 : Int64)).toInt32))]) _
  rw [hc37]
  refine st16 _ ?_
  show own_S p e below T16 (mkF m 151 #[.val (.long q1), .second, .val (.long q2), .second, iv p3, iv la, iv ca, iv cb, iv cc, iv lb, iv da, iv db, .unset, .unset, .unset, .unset, .unset, .unset, .unset] [(.int (nar .char (((97 : Int32) + ((rr &&& (2147483647 : Int32)) % (62 : Int32))).toUInt32.toUInt16.toUInt32.toInt32)))]) _
  rw [hc38]
  refine XS.istore X16.here hx rfl (hb hby at_151) rfl (l' := (own_T q1 q2 p3 la ca cb cc lb da db dc .unset .unset .unset .unset .unset .unset)) rfl ?_
  show own_S p e below T16 (mkF m 153 (own_T q1 q2 p3 la ca cb cc lb da db dc .unset .unset .unset .unset .unset .unset) []) _
  exact kt
theorem own_p8_s1 {p : Program} {l : Launch} {e : Env} {s : State} {m : MethodId} {args : Array Value} {below : List Frame} {meth : Method} {c : Code} {T0 : State} {locs : List Loc} (Z : State) (a0 : Array Value) (hw : own_HW Z a0) (q1 q2 : Int64) (p3 la ca cb cc lb da db dc rr : Int32) (h0 : Heap) (Z0 : Ext Z.heap h0) (hc36 : (p3 &&& (4 : Int32)) = (0 : Int32)) (hc37 : ((((q2.toUInt64 >>> ((32 : Int32) &&& 0x3f).toInt64.toUInt64).toInt64) &&& (65535 : Int64)).toInt32) = rr) (hc15 : ¬ (((rr &&& (2147483647 : Int32)) % (62 : Int32)) < (26 : Int32))) (hc16 : ((rr &&& (2147483647 : Int32)) % (62 : Int32)) < (52 : Int32)) (hc39 : (nar .char (((65 : Int32) + (((rr &&& (2147483647 : Int32)) % (62 : Int32)) - (26 : Int32))).toUInt32.toUInt16.toUInt32.toInt32)) = dc) (X0 : Stand p l e room_1 s m args below meth c T0 locs 0 0) (hx : p.tables.exec = Jvm.exec) (hZ : Z.Warmed39 s.vm) (hby : c.code = code) (hml : c.maxLocals = 19) (hown : s.vm.findClass "com/example/faretally/faretally/ReasonEqualsPinLaw" = some m.cls) (e0 : T0.heap = h0) (N0 : Fr Z.heap.size locs) :
    ∃ (T' : State) (L' : List Loc), Stand p l e room_1 s m args below meth c T' L' 0 0 ∧ T'.heap = h0 ∧ Fr Z.heap.size L' ∧ ∀ target, Steps p.tables e below (T'.setTop (mkF m 153 (own_T q1 q2 p3 la ca cb cc lb da db dc .unset .unset .unset .unset .unset .unset) [])) target → Steps p.tables e below (T0.setTop (mkF m 127 #[.val (.long q1), .second, .val (.long q2), .second, iv p3, iv la, iv ca, iv cb, iv cc, iv lb, iv da, iv db, .unset, .unset, .unset, .unset, .unset, .unset, .unset] [])) target := by
  obtain ⟨_, T17, Lc17, X17, hQ17, st17⟩ := own_static (y := y_1) X0 hx hZ hown (own_w hw 7 rfl) (own_w hw 8 rfl) (own_w hw 4 rfl) (own_w hw 9 rfl) (rm5 l Z a0 hw [] rr h0 Z0 hc15 hc16) e0 (g := (mkF m 148 #[.val (.long q1), .second, .val (.long q2), .second, iv p3, iv la, iv ca, iv cb, iv cc, iv lb, iv da, iv db, .unset, .unset, .unset, .unset, .unset, .unset, .unset] [(.int rr)])) (argsL := [(.int rr)]) (rest := []) (W := 0) (lenOf pd_0 rfl) (hb hby at_148) hml
  obtain ⟨rfl, N17q, e17⟩ := hQ17
  have N17 := Fr.app N0 N17q
  refine ⟨_, _, X17, e17, N17, fun target kt => ?_⟩
  show own_S p e below T0 (mkF m 127 #[.val (.long q1), .second, .val (.long q2), .second, iv p3, iv la, iv ca, iv cb, iv cc, iv lb, iv da, iv db, .unset, .unset, .unset, .unset, .unset, .unset, .unset] []) _
  refine own_i X0 hx hby at_127 ?_
  refine own_k X0 hx hby at_129 ?_
  refine XS.iand X0.here hx rfl (hb hby at_130) rfl ?_
  refine own_iy (pc := 131) X0 hx hby at_131 (teq hc36).1 139 ?_
  refine XS.lloadN X0.here hx rfl (hb hby at_139) rfl ?_
  refine XS.bipush X0.here hx rfl (hb hby at_140) ?_
  refine XS.lushr X0.here hx rfl (hb hby at_142) rfl ?_
  refine X0.ldc2Long hx hown (mvT hZ (own_w hw 1 rfl)) (g := (mkF m 143 #[.val (.long q1), .second, .val (.long q2), .second, iv p3, iv la, iv ca, iv cb, iv cc, iv lb, iv da, iv db, .unset, .unset, .unset, .unset, .unset, .unset, .unset] [(.long ((q2.toUInt64 >>> ((32 : Int32) &&& 0x3f).toInt64.toUInt64).toInt64))])) rfl (hb hby at_143) _ ?_
  refine XS.land X0.here hx rfl (hb hby at_146) rfl ?_
  refine XS.l2i X0.here hx rfl (hb hby at_147) rfl ?_
  show own_S p e below T0 (mkF m 148 #[.val (.long q1), .second, .val (.long q2), .second, iv p3, iv la, iv ca, iv cb, iv cc, iv lb, iv da, iv db, .unset, .unset, .unset, .unset, .unset, .unset, .unset] [(.int ((((q2.toUInt64 >>> ((32 : Int32) &&& 0x3f).toInt64.toUInt64).toInt64) &&& (65535 : Int64)).toInt32))]) _
  rw [hc37]
  refine st17 _ ?_
  show own_S p e below T17 (mkF m 151 #[.val (.long q1), .second, .val (.long q2), .second, iv p3, iv la, iv ca, iv cb, iv cc, iv lb, iv da, iv db, .unset, .unset, .unset, .unset, .unset, .unset, .unset] [(.int (nar .char (((65 : Int32) + (((rr &&& (2147483647 : Int32)) % (62 : Int32)) - (26 : Int32))).toUInt32.toUInt16.toUInt32.toInt32)))]) _
  rw [hc39]
  refine XS.istore X17.here hx rfl (hb hby at_151) rfl (l' := (own_T q1 q2 p3 la ca cb cc lb da db dc .unset .unset .unset .unset .unset .unset)) rfl ?_
  show own_S p e below T17 (mkF m 153 (own_T q1 q2 p3 la ca cb cc lb da db dc .unset .unset .unset .unset .unset .unset) []) _
  exact kt
theorem own_p8_s2 {p : Program} {l : Launch} {e : Env} {s : State} {m : MethodId} {args : Array Value} {below : List Frame} {meth : Method} {c : Code} {T0 : State} {locs : List Loc} (Z : State) (a0 : Array Value) (hw : own_HW Z a0) (q1 q2 : Int64) (p3 la ca cb cc lb da db dc rr : Int32) (h0 : Heap) (Z0 : Ext Z.heap h0) (hc36 : (p3 &&& (4 : Int32)) = (0 : Int32)) (hc37 : ((((q2.toUInt64 >>> ((32 : Int32) &&& 0x3f).toInt64.toUInt64).toInt64) &&& (65535 : Int64)).toInt32) = rr) (hc15 : ¬ (((rr &&& (2147483647 : Int32)) % (62 : Int32)) < (26 : Int32))) (hc18 : ¬ (((rr &&& (2147483647 : Int32)) % (62 : Int32)) < (52 : Int32))) (hc40 : (nar .char (((48 : Int32) + (((rr &&& (2147483647 : Int32)) % (62 : Int32)) - (52 : Int32))).toUInt32.toUInt16.toUInt32.toInt32)) = dc) (X0 : Stand p l e room_1 s m args below meth c T0 locs 0 0) (hx : p.tables.exec = Jvm.exec) (hZ : Z.Warmed39 s.vm) (hby : c.code = code) (hml : c.maxLocals = 19) (hown : s.vm.findClass "com/example/faretally/faretally/ReasonEqualsPinLaw" = some m.cls) (e0 : T0.heap = h0) (N0 : Fr Z.heap.size locs) :
    ∃ (T' : State) (L' : List Loc), Stand p l e room_1 s m args below meth c T' L' 0 0 ∧ T'.heap = h0 ∧ Fr Z.heap.size L' ∧ ∀ target, Steps p.tables e below (T'.setTop (mkF m 153 (own_T q1 q2 p3 la ca cb cc lb da db dc .unset .unset .unset .unset .unset .unset) [])) target → Steps p.tables e below (T0.setTop (mkF m 127 #[.val (.long q1), .second, .val (.long q2), .second, iv p3, iv la, iv ca, iv cb, iv cc, iv lb, iv da, iv db, .unset, .unset, .unset, .unset, .unset, .unset, .unset] [])) target := by
  obtain ⟨_, T18, Lc18, X18, hQ18, st18⟩ := own_static (y := y_1) X0 hx hZ hown (own_w hw 7 rfl) (own_w hw 8 rfl) (own_w hw 4 rfl) (own_w hw 9 rfl) (rm7 l Z a0 hw [] rr h0 Z0 hc15 hc18) e0 (g := (mkF m 148 #[.val (.long q1), .second, .val (.long q2), .second, iv p3, iv la, iv ca, iv cb, iv cc, iv lb, iv da, iv db, .unset, .unset, .unset, .unset, .unset, .unset, .unset] [(.int rr)])) (argsL := [(.int rr)]) (rest := []) (W := 0) (lenOf pd_0 rfl) (hb hby at_148) hml
  obtain ⟨rfl, N18q, e18⟩ := hQ18
  have N18 := Fr.app N0 N18q
  refine ⟨_, _, X18, e18, N18, fun target kt => ?_⟩
  show own_S p e below T0 (mkF m 127 #[.val (.long q1), .second, .val (.long q2), .second, iv p3, iv la, iv ca, iv cb, iv cc, iv lb, iv da, iv db, .unset, .unset, .unset, .unset, .unset, .unset, .unset] []) _
  refine own_i X0 hx hby at_127 ?_
  refine own_k X0 hx hby at_129 ?_
  refine XS.iand X0.here hx rfl (hb hby at_130) rfl ?_
  refine own_iy (pc := 131) X0 hx hby at_131 (teq hc36).1 139 ?_
  refine XS.lloadN X0.here hx rfl (hb hby at_139) rfl ?_
  refine XS.bipush X0.here hx rfl (hb hby at_140) ?_
  refine XS.lushr X0.here hx rfl (hb hby at_142) rfl ?_
  refine X0.ldc2Long hx hown (mvT hZ (own_w hw 1 rfl)) (g := (mkF m 143 #[.val (.long q1), .second, .val (.long q2), .second, iv p3, iv la, iv ca, iv cb, iv cc, iv lb, iv da, iv db, .unset, .unset, .unset, .unset, .unset, .unset, .unset] [(.long ((q2.toUInt64 >>> ((32 : Int32) &&& 0x3f).toInt64.toUInt64).toInt64))])) rfl (hb hby at_143) _ ?_
  refine XS.land X0.here hx rfl (hb hby at_146) rfl ?_
  refine XS.l2i X0.here hx rfl (hb hby at_147) rfl ?_
  show own_S p e below T0 (mkF m 148 #[.val (.long q1), .second, .val (.long q2), .second, iv p3, iv la, iv ca, iv cb, iv cc, iv lb, iv da, iv db, .unset, .unset, .unset, .unset, .unset, .unset, .unset] [(.int ((((q2.toUInt64 >>> ((32 : Int32) &&& 0x3f).toInt64.toUInt64).toInt64) &&& (65535 : Int64)).toInt32))]) _
  rw [hc37]
  refine st18 _ ?_
  show own_S p e below T18 (mkF m 151 #[.val (.long q1), .second, .val (.long q2), .second, iv p3, iv la, iv ca, iv cb, iv cc, iv lb, iv da, iv db, .unset, .unset, .unset, .unset, .unset, .unset, .unset] [(.int (nar .char (((48 : Int32) + (((rr &&& (2147483647 : Int32)) % (62 : Int32)) - (52 : Int32))).toUInt32.toUInt16.toUInt32.toInt32)))]) _
  rw [hc40]
  refine XS.istore X18.here hx rfl (hb hby at_151) rfl (l' := (own_T q1 q2 p3 la ca cb cc lb da db dc .unset .unset .unset .unset .unset .unset)) rfl ?_
  show own_S p e below T18 (mkF m 153 (own_T q1 q2 p3 la ca cb cc lb da db dc .unset .unset .unset .unset .unset .unset) []) _
  exact kt
theorem own_p8_k {p : Program} {l : Launch} {e : Env} {s : State} {m : MethodId} {args : Array Value} {below : List Frame} {meth : Method} {c : Code} {T0 : State} {locs : List Loc} (Z : State) (a0 : Array Value) (hw : own_HW Z a0) (q1 q2 : Int64) (p3 la ca cb cc lb da db : Int32) (h0 : Heap) (Z0 : Ext Z.heap h0) (hc41 : ¬ ((p3 &&& (4 : Int32)) = (0 : Int32))) (X0 : Stand p l e room_1 s m args below meth c T0 locs 0 0) (hx : p.tables.exec = Jvm.exec) (hZ : Z.Warmed39 s.vm) (hby : c.code = code) (hml : c.maxLocals = 19) (hown : s.vm.findClass "com/example/faretally/faretally/ReasonEqualsPinLaw" = some m.cls) (e0 : T0.heap = h0) (N0 : Fr Z.heap.size locs) :
    ∃ (T' : State) (L' : List Loc), Stand p l e room_1 s m args below meth c T' L' 0 0 ∧ T'.heap = h0 ∧ Fr Z.heap.size L' ∧ ∀ target, Steps p.tables e below (T'.setTop (mkF m 153 (own_T q1 q2 p3 la ca cb cc lb da db cc .unset .unset .unset .unset .unset .unset) [])) target → Steps p.tables e below (T0.setTop (mkF m 127 #[.val (.long q1), .second, .val (.long q2), .second, iv p3, iv la, iv ca, iv cb, iv cc, iv lb, iv da, iv db, .unset, .unset, .unset, .unset, .unset, .unset, .unset] [])) target := by
  refine ⟨_, _, X0, e0, N0, fun target kt => ?_⟩
  show own_S p e below T0 (mkF m 127 #[.val (.long q1), .second, .val (.long q2), .second, iv p3, iv la, iv ca, iv cb, iv cc, iv lb, iv da, iv db, .unset, .unset, .unset, .unset, .unset, .unset, .unset] []) _
  refine own_i X0 hx hby at_127 ?_
  refine own_k X0 hx hby at_129 ?_
  refine XS.iand X0.here hx rfl (hb hby at_130) rfl ?_
  refine own_in X0 hx hby at_131 (feq hc41).1 ?_
  refine own_i X0 hx hby at_134 ?_
  refine own_go (pc := 136) X0 hx hby at_136 151 ?_
  refine XS.istore X0.here hx rfl (hb hby at_151) rfl (l' := (own_T q1 q2 p3 la ca cb cc lb da db cc .unset .unset .unset .unset .unset .unset)) rfl ?_
  show own_S p e below T0 (mkF m 153 (own_T q1 q2 p3 la ca cb cc lb da db cc .unset .unset .unset .unset .unset .unset) []) _
  exact kt
theorem own_p8 {p : Program} {l : Launch} {e : Env} {s : State} {m : MethodId} {args : Array Value} {below : List Frame} {meth : Method} {c : Code} {T0 : State} {locs : List Loc} (Z : State) (a0 : Array Value) (hw : own_HW Z a0) (q1 q2 : Int64) (p3 la ca cb cc lb da db : Int32) (h0 : Heap) (Z0 : Ext Z.heap h0) (X0 : Stand p l e room_1 s m args below meth c T0 locs 0 0) (hx : p.tables.exec = Jvm.exec) (hZ : Z.Warmed39 s.vm) (hby : c.code = code) (hml : c.maxLocals = 19) (hown : s.vm.findClass "com/example/faretally/faretally/ReasonEqualsPinLaw" = some m.cls) (e0 : T0.heap = h0) (N0 : Fr Z.heap.size locs) (P_la : own_len3 la) (P_ca : own_low ca) (P_cb : own_aln cb) (P_cc : own_aln cc) (P_lb : own_len3 lb) (P_da : own_low da) (P_db : own_aln db) :
    ∃ (dc : Int32) (T' : State) (L' : List Loc), own_aln dc ∧ Stand p l e room_1 s m args below meth c T' L' 0 0 ∧ T'.heap = h0 ∧ Fr Z.heap.size L' ∧ ∀ target, Steps p.tables e below (T'.setTop (mkF m 153 (own_T q1 q2 p3 la ca cb cc lb da db dc .unset .unset .unset .unset .unset .unset) [])) target → Steps p.tables e below (T0.setTop (mkF m 127 #[.val (.long q1), .second, .val (.long q2), .second, iv p3, iv la, iv ca, iv cb, iv cc, iv lb, iv da, iv db, .unset, .unset, .unset, .unset, .unset, .unset, .unset] [])) target := by
  by_cases hm : (p3 &&& (4 : Int32)) = (0 : Int32)
  · obtain ⟨rr, hrr⟩ : ∃ z, ((((q2.toUInt64 >>> ((32 : Int32) &&& 0x3f).toInt64.toUInt64).toInt64) &&& (65535 : Int64)).toInt32) = z := ⟨_, rfl⟩
    rcases own_k3 rr with ⟨k1, k2⟩ | ⟨k1, k2, k3⟩ | ⟨k1, k2, k3⟩
    · obtain ⟨T', L', h⟩ := own_p8_s0 Z a0 hw q1 q2 p3 la ca cb cc lb da db (nar .char (((97 : Int32) + ((rr &&& (2147483647 : Int32)) % (62 : Int32))).toUInt32.toUInt16.toUInt32.toInt32)) rr h0 Z0 hm hrr k1 rfl X0 hx hZ hby hml hown e0 N0
      exact ⟨_, T', L', own_r0 _ k1 k2, h⟩
    · obtain ⟨T', L', h⟩ := own_p8_s1 Z a0 hw q1 q2 p3 la ca cb cc lb da db (nar .char (((65 : Int32) + (((rr &&& (2147483647 : Int32)) % (62 : Int32)) - (26 : Int32))).toUInt32.toUInt16.toUInt32.toInt32)) rr h0 Z0 hm hrr k1 k2 rfl X0 hx hZ hby hml hown e0 N0
      exact ⟨_, T', L', own_r1 _ k1 k2 k3, h⟩
    · obtain ⟨T', L', h⟩ := own_p8_s2 Z a0 hw q1 q2 p3 la ca cb cc lb da db (nar .char (((48 : Int32) + (((rr &&& (2147483647 : Int32)) % (62 : Int32)) - (52 : Int32))).toUInt32.toUInt16.toUInt32.toInt32)) rr h0 Z0 hm hrr k1 k2 rfl X0 hx hZ hby hml hown e0 N0
      exact ⟨_, T', L', own_r2 _ k1 k2 k3, h⟩
  · obtain ⟨T', L', h⟩ := own_p8_k Z a0 hw q1 q2 p3 la ca cb cc lb da db h0 Z0 hm X0 hx hZ hby hml hown e0 N0
    exact ⟨_, T', L', P_cc, h⟩
def Qrm31 (Z : State) (ca : Int32) (b21 : Addr) (k21 : ClassId) (b30 : Addr) (k30 : ClassId) (h0 : Heap) (v : Option Value) (h : Heap) (L : List Loc) : Prop := v = some (.int (1 : Int32)) ∧ Fr Z.heap.size L ∧ Keep h0 h [b30] ∧ Arv Z h b30 k30 .byte (1 : Int32) [(.int (ca.toInt8.toInt32))] (.int (0 : Int32))
theorem rm31 (l : Launch) (Z : State) (a0 : Array Value) (hw : own_HW Z a0) (ws : List Jvm.Cond) (ca : Int32) (b21 : Addr) (k21 : ClassId) (b30 : Addr) (k30 : ClassId) (h0 : Heap) (Z0 : Ext Z.heap h0) (V_b21 : Arv Z h0 b21 k21 .char (1 : Int32) [(.int ca)] (.int (0 : Int32))) (V_b30 : Arv Z h0 b30 k30 .byte (1 : Int32) [(.int (0 : Int32))] (.int (0 : Int32))) (g_b30 : Z.heap.size ≤ b30) (hc42 : own_ch ca) :
    own_met l y_2 jdk_52_method_21_code 7 (some .int) ws ({ frames := 0, cells := 0, slots := 0, locals := 0 } : Room) Z #[(.ref b21), (.int (0 : Int32)), (.ref b30), (.int (0 : Int32)), (.int (1 : Int32))] h0 (Qrm31 Z ca b21 k21 b30 k30 h0) := by
  refine own_start (plainFor_of_name pn_1) (fun m => ef_jdk_52_method_21_RIRII m b21 (0 : Int32) b30 (0 : Int32) (1 : Int32)) ?_
  intro p e s m below meth c s₁ hx hby hml hown hnm X0 hZ e0 hret hlk
  have N0 := Fr.nil Z.heap.size
  obtain ⟨cl32, Ar32, q32, S32, Nn32, H32, G32⟩ := id V_b21
  have hin32 : ¬ ((0 : Int32) < 0 ∨ cl32.slots.size ≤ ((0 : Int32)).toNatClampNeg) := inb_of S32 ⟨by decide, by decide⟩
  have hat32 : cl32.slots[((0 : Int32)).toNatClampNeg]? = some (.int ca) := Has.at H32 hin32 rfl
  obtain ⟨cl33, Ar33, q33, S33, Nn33, H33, G33⟩ := id V_b30
  have hin33 : ¬ ((0 : Int32) < 0 ∨ cl33.slots.size ≤ ((0 : Int32)).toNatClampNeg) := inb_of S33 ⟨by decide, by decide⟩
  obtain ⟨T34, h34, X34, e34, W34, st34⟩ := stB X0 hx hZ e0 Ar33 (j := (0 : Int32)) hin33 (g := (mkF m 31 #[rv b21, iv (0 : Int32), rv b30, iv (0 : Int32), iv (1 : Int32), iv (0 : Int32), iv ca] [(.int (ca.toInt8.toInt32)), (.int (0 : Int32)), (.ref b30)])) rfl rfl (hb hby d8_31)
  rw [own_nb] at W34
  have V34 : Arv Z h34 b30 k30 .byte (1 : Int32) [(.int (ca.toInt8.toInt32))] (.int (0 : Int32)) := Arv.set Ar33 q33 S33 Nn33 H33 G33 (fits_nar_byte _) W34 0 rfl (Nat.le_of_ble_eq_true rfl)
  have K34 : Keep h0 h34 [b30] := (Keep.refl h0 [b30]).wr W34 (Or.inl (List.mem_of_getElem? (i := 0) rfl))
  have XX34 : Ext Z.heap h34 := own_extW Z0 W34 g_b30
  have N34 := Fr.snoc X34 N0 g_b30
  obtain ⟨fs, hr, hrun, hended, hW, hsame⟩ := X34.leave (v := some (.int (1 : Int32))) (fun h => by rw [hret] at h; cases h) hlk
  refine ⟨_, _, ?_, hrun, hended, _, _, rfl, ?_, ⟨_, rfl⟩, hW, hsame.mono (by decide) (by decide)⟩
  · show own_S p e below s₁ (mkF m 0 #[rv b21, iv (0 : Int32), rv b30, iv (0 : Int32), iv (1 : Int32), .unset, .unset] []) _
    refine own_k X0 hx hby d8_0 ?_
    refine XS.istore X0.here hx rfl (hb hby d8_1) rfl (l' := #[rv b21, iv (0 : Int32), rv b30, iv (0 : Int32), iv (1 : Int32), iv (0 : Int32), .unset]) rfl ?_
    refine own_i X0 hx hby d8_3 ?_
    refine own_i X0 hx hby d8_5 ?_
    refine own_cn X0 hx hby d8_7 (tlt (by decide : (0 : Int32) < (1 : Int32))).2.1 ?_
    refine own_aN X0 hx hby d8_10 ?_
    refine own_iN X0 hx hby d8_11 ?_
    refine X0.caload hx (j := (0 : Int32)) (v := (.int ca)) (by rw [e0]; exact Ar32.1) (State.isArrayOf_alike hZ.alike Ar32.2.1) Ar32.2.2 hin32 hat32 (g := (mkF m 12 #[rv b21, iv (0 : Int32), rv b30, iv (0 : Int32), iv (1 : Int32), iv (0 : Int32), .unset] [(.int (0 : Int32)), (.ref b21)])) rfl rfl (hb hby d8_12) _ ?_
    refine XS.istore X0.here hx rfl (hb hby d8_13) rfl (l' := #[rv b21, iv (0 : Int32), rv b30, iv (0 : Int32), iv (1 : Int32), iv (0 : Int32), iv ca]) rfl ?_
    refine own_i X0 hx hby d8_15 ?_
    refine XS.sipush X0.here hx rfl (hb hby d8_17) ?_
    refine own_cy (pc := 20) X0 hx hby d8_20 (flt (own_n255 hc42)).2.2.2 26 ?_
    refine own_aN X0 hx hby d8_26 ?_
    refine own_iN X0 hx hby d8_27 ?_
    refine own_i X0 hx hby d8_28 ?_
    refine XS.i2b X0.here hx rfl (hb hby d8_30) rfl ?_
    refine st34 _ ?_
    refine XS.iinc X34.here hx rfl (hb hby d8_32) rfl (l' := #[rv b21, iv (1 : Int32), rv b30, iv (0 : Int32), iv (1 : Int32), iv (0 : Int32), iv ca]) rfl ?_
    refine XS.iinc X34.here hx rfl (hb hby d8_35) rfl (l' := #[rv b21, iv (1 : Int32), rv b30, iv (1 : Int32), iv (1 : Int32), iv (0 : Int32), iv ca]) rfl ?_
    refine XS.iinc X34.here hx rfl (hb hby d8_38) rfl (l' := #[rv b21, iv (1 : Int32), rv b30, iv (1 : Int32), iv (1 : Int32), iv (1 : Int32), iv ca]) rfl ?_
    refine own_go (pc := 41) X34 hx hby d8_41 3 ?_
    refine own_i X34 hx hby d8_3 ?_
    refine own_i X34 hx hby d8_5 ?_
    refine own_cy (pc := 7) X34 hx hby d8_7 (flt (Int32.lt_irrefl : ¬ ((1 : Int32) < (1 : Int32)))).2.1 44 ?_
    refine own_i X34 hx hby d8_44 ?_
    exact retI X34 hx hret (hb hby d8_46) hr
  · show Qrm31 Z ca b21 k21 b30 k30 h0 _ T34.heap _
    rw [e34]
    exact ⟨rfl, N34, K34, V34⟩
def Qrm29 (Z : State) (ca : Int32) (b21 : Addr) (k21 : ClassId) (h0 : Heap) (v : Option Value) (h : Heap) (L : List Loc) : Prop := ∃ b30 : Addr, ∃ k30 : ClassId, v = some (.ref b30) ∧ Fr Z.heap.size L ∧ Keep h0 h [] ∧ h0.size ≤ b30 ∧ Arv Z h b30 k30 .byte (1 : Int32) [(.int (ca.toInt8.toInt32))] (.int (0 : Int32))
theorem rm29 (l : Launch) (Z : State) (a0 : Array Value) (hw : own_HW Z a0) (ws : List Jvm.Cond) (ca : Int32) (b21 : Addr) (k21 : ClassId) (h0 : Heap) (Z0 : Ext Z.heap h0) (V_b21 : Arv Z h0 b21 k21 .char (1 : Int32) [(.int ca)] (.int (0 : Int32))) (hc42 : own_ch ca) :
    own_met l y_3 jdk_52_method_16_code 6 (some (.array .byte)) ws ({ frames := 1, cells := 1, slots := 1, locals := 18 } : Room) Z #[(.ref b21), (.int (0 : Int32)), (.int (1 : Int32))] h0 (Qrm29 Z ca b21 k21 h0) := by
  refine own_start (plainFor_of_name pn_1) (fun m => ef_jdk_52_method_16_RII m b21 (0 : Int32) (1 : Int32)) ?_
  intro p e s m below meth c s₁ hx hby hml hown hnm X0 hZ e0 hret hlk
  have N0 := Fr.nil Z.heap.size
  obtain ⟨T30, h30, k30, X30, e30, E30, A30, st30⟩ := newP X0 hx hZ (own_w hw 32 rfl) e0 (g := (mkF m 1 #[rv b21, iv (0 : Int32), iv (1 : Int32), .unset, .unset, .unset] [(.int (1 : Int32))])) rfl (hb hby d7_1) rfl (by decide) (cap := 1) (by decide) (by decide) (by decide) (by decide)
  obtain ⟨b30, g30⟩ : ∃ z, z = h0.size := ⟨_, rfl⟩
  rw [← g30] at A30 st30
  have g_b30 : Z.heap.size ≤ b30 := Nat.le_trans Z0.1 (Nat.le_of_eq g30.symm)
  have sz_b30 : h0.size ≤ b30 := Nat.le_trans (Keep.refl h0 []).1 (Nat.le_of_eq g30.symm)
  have V_b30 : Arv Z h30 b30 k30 .byte (1 : Int32) [(.int (0 : Int32))] (.int (0 : Int32)) := (Arv.new A30 (by decide)).pad (pad_rep [] (.int (0 : Int32)) 1)
  have K30 : Keep h0 h30 [] := (Keep.refl h0 []).ext E30
  have XX30 : Ext Z.heap h30 := own_ext2 Z0 E30
  obtain ⟨_, T35, Lc35, X35, hQ35, st35⟩ := own_static (y := y_2) X30 hx hZ hown (own_w hw 33 rfl) (own_w hw 34 rfl) (own_w hw 30 rfl) (own_w hw 35 rfl) (rm31 l Z a0 hw [] ca b21 k21 b30 k30 h30 XX30 (V_b21.ext E30) V_b30 g_b30 hc42) e30 (g := (mkF m 9 #[rv b21, iv (0 : Int32), iv (1 : Int32), rv b30, .unset, .unset] [(.int (1 : Int32)), (.int (0 : Int32)), (.ref b30), (.int (0 : Int32)), (.ref b21)])) (argsL := [(.ref b21), (.int (0 : Int32)), (.ref b30), (.int (0 : Int32)), (.int (1 : Int32))]) (rest := []) (W := 0) (lenOf pd_1 rfl) (hb hby d7_9) hml
  obtain ⟨rfl, N35q, K35q, q35_V_b30⟩ := hQ35
  have K35 : Keep h0 T35.heap [] := K30.trans K35q (allS (Or.inr sz_b30) all0)
  have XX35 : Ext Z.heap T35.heap := own_extK XX30 K35q (allS g_b30 all0)
  have N35 := Fr.app N0 N35q
  obtain ⟨fs, hr, hrun, hended, hW, hsame⟩ := X35.leave (v := some (.ref b30)) (fun h => by rw [hret] at h; cases h) hlk
  refine ⟨_, _, ?_, hrun, hended, _, _, rfl, ?_, ⟨_, rfl⟩, hW, hsame.mono (by decide) (by decide)⟩
  · show own_S p e below s₁ (mkF m 0 #[rv b21, iv (0 : Int32), iv (1 : Int32), .unset, .unset, .unset] []) _
    refine own_iN X0 hx hby d7_0 ?_
    refine st30 _ ?_
    refine XS.astoreN X30.here hx rfl (hb hby d7_3) rfl rfl (l' := #[rv b21, iv (0 : Int32), iv (1 : Int32), rv b30, .unset, .unset]) rfl ?_
    refine own_aN X30 hx hby d7_4 ?_
    refine own_iN X30 hx hby d7_5 ?_
    refine own_aN X30 hx hby d7_6 ?_
    refine own_k X30 hx hby d7_7 ?_
    refine own_iN X30 hx hby d7_8 ?_
    refine st35 _ ?_
    refine XS.istore X35.here hx rfl (hb hby d7_12) rfl (l' := #[rv b21, iv (0 : Int32), iv (1 : Int32), rv b30, iv (1 : Int32), .unset]) rfl ?_
    refine own_i X35 hx hby d7_14 ?_
    refine own_iN X35 hx hby d7_16 ?_
    refine own_cy (pc := 17) X35 hx hby d7_17 (teq (rfl : (1 : Int32) = (1 : Int32))).1 57 ?_
    refine own_aN X35 hx hby d7_57 ?_
    jvm_step X35.here [X35.here.top, hx, (hb hby d7_58), X35.method', hret, Value.isRef, FieldType.isReference]
    first | (intro acts; rw [hr _ acts rfl rfl rfl]) | rw [hr _ _ rfl rfl rfl]
    exact Steps.refl _
  · show Qrm29 Z ca b21 k21 h0 _ T35.heap _
    exact ⟨b30, k30, rfl, N35, K35, sz_b30, q35_V_b30⟩
def Qrm39 (Z : State) (ca : Int32) (b37 : Addr) (k38 : ClassId) (h0 : Heap) (v : Option Value) (h : Heap) (L : List Loc) : Prop := v = some (.int (0 : Int32)) ∧ Fr Z.heap.size L ∧ h = h0
theorem rm39 (l : Launch) (Z : State) (a0 : Array Value) (hw : own_HW Z a0) (ws : List Jvm.Cond) (ca : Int32) (b37 : Addr) (k38 : ClassId) (h0 : Heap) (Z0 : Ext Z.heap h0) (V_b37 : Arv Z h0 b37 k38 .byte (1 : Int32) [(.int (ca.toInt8.toInt32))] (.int (0 : Int32))) :
    own_met l y_4 jdk_52_method_15_code 2 (some .byte) ws ({ frames := 0, cells := 0, slots := 0, locals := 0 } : Room) Z #[(.ref b37), (.int (1 : Int32))] h0 (Qrm39 Z ca b37 k38 h0) := by
  refine own_start (plainFor_of_name pn_1) (fun m => ef_jdk_52_method_15_RI m b37 (1 : Int32)) ?_
  intro p e s m below meth c s₁ hx hby hml hown hnm X0 hZ e0 hret hlk
  have N0 := Fr.nil Z.heap.size
  obtain ⟨cl40, Ar40, q40, S40, Nn40, H40, G40⟩ := id V_b37
  obtain ⟨fs, hr, hrun, hended, hW, hsame⟩ := X0.leave (v := some (.int (0 : Int32))) (fun h => by rw [hret] at h; cases h) hlk
  refine ⟨_, _, ?_, hrun, hended, _, _, rfl, ?_, ⟨_, rfl⟩, hW, hsame.mono (by decide) (by decide)⟩
  · show own_S p e below s₁ (mkF m 0 #[rv b37, iv (1 : Int32)] []) _
    refine own_iN X0 hx hby d9_0 ?_
    refine own_aN X0 hx hby d9_1 ?_
    refine X0.arraylength hx (by rw [e0]; exact Ar40.1) (State.isArrayOf_alike hZ.alike Ar40.2.1) (g := (mkF m 2 #[rv b37, iv (1 : Int32)] [(.ref b37), (.int (1 : Int32))])) rfl rfl (hb hby d9_2) _ ?_
    rw [len_of S40 Nn40]
    refine XS.isub X0.here hx rfl (hb hby d9_3) rfl ?_
    show own_S p e below s₁ (mkF m 4 #[rv b37, iv (1 : Int32)] [(.int ((1 : Int32) - (1 : Int32)))]) _
    rw [(by decide : ((1 : Int32) - (1 : Int32)) = (0 : Int32))]
    refine XS.bipush X0.here hx rfl (hb hby d9_4) ?_
    refine XS.iushr X0.here hx rfl (hb hby d9_6) rfl ?_
    show own_S p e below s₁ (mkF m 7 #[rv b37, iv (1 : Int32)] [(.int (((0 : Int32).toUInt32 >>> ((31 : Int32) &&& 31).toUInt32).toInt32))]) _
    rw [(by decide : (((0 : Int32).toUInt32 >>> ((31 : Int32) &&& 31).toUInt32).toInt32) = (0 : Int32))]
    refine XS.i2b X0.here hx rfl (hb hby d9_7) rfl ?_
    show own_S p e below s₁ (mkF m 8 #[rv b37, iv (1 : Int32)] [(.int ((0 : Int32).toInt8.toInt32))]) _
    rw [(by decide : ((0 : Int32).toInt8.toInt32) = (0 : Int32))]
    exact retN X0 hx (t := .byte) hret (by simp) (hb hby d9_8) hr
  · show Qrm39 Z ca b37 k38 h0 _ s₁.heap _
    rw [e0]
    exact ⟨rfl, N0, rfl⟩
def Qrm26 (Z : State) (w_CS ca : Int32) (b20 b21 : Addr) (k21 : ClassId) (h0 : Heap) (v : Option Value) (h : Heap) (L : List Loc) : Prop := ∃ b37 : Addr, ∃ k38 : ClassId, v = none ∧ Fr Z.heap.size L ∧ Keep h0 h [b20] ∧ h0.size ≤ b37 ∧ Exa Z h b20 "java/lang/String" ∧ Fld Z h b20 "java/lang/String" "coder" "B" (.int (0 : Int32)) ∧ Fld Z h b20 "java/lang/String" "value" "[B" (.ref b37) ∧ Arv Z h b37 k38 .byte (1 : Int32) [(.int (ca.toInt8.toInt32))] (.int (0 : Int32))
theorem rm26 (l : Launch) (Z : State) (a0 : Array Value) (hw : own_HW Z a0) (ws : List Jvm.Cond) (w_CS ca : Int32) (b20 b21 : Addr) (k21 : ClassId) (h0 : Heap) (Z0 : Ext Z.heap h0) (S_w_CS : own_w_CS Z w_CS) (E_b20 : Exa Z h0 b20 "java/lang/String") (F_b20_coder : Fld Z h0 b20 "java/lang/String" "coder" "B" (.int (0 : Int32))) (F_b20_value : Fld Z h0 b20 "java/lang/String" "value" "[B" .null) (V_b21 : Arv Z h0 b21 k21 .char (1 : Int32) [(.int ca)] (.int (0 : Int32))) (g_b20 : Z.heap.size ≤ b20) (hc1 : ¬ (w_CS = (0 : Int32))) (hc42 : own_ch ca) :
    own_met l y_5 jdk_42_method_149_code 6 none ws ({ frames := 2, cells := 1, slots := 1, locals := 35 } : Room) Z #[(.ref b20), (.ref b21), (.int (0 : Int32)), (.int (1 : Int32)), .null] h0 (Qrm26 Z w_CS ca b20 b21 k21 h0) := by
  refine own_start (plainFor_of_name pn_2) (fun m => ef_jdk_42_method_149_RRIIn m b20 b21 (0 : Int32) (1 : Int32)) ?_
  intro p e s m below meth c s₁ hx hby hml hown hnm X0 hZ e0 hret hlk
  have N0 := Fr.nil Z.heap.size
  obtain ⟨T27, X27, e27, st27⟩ := initO X0 hx hZ hown (own_w hw 24 rfl) (own_w hw 25 rfl) (own_w hw 26 rfl) e0 (g := (mkF m 1 #[rv b20, rv b21, iv (0 : Int32), iv (1 : Int32), .val .null, .unset] [(.ref b20)])) rfl (by rw [hml]; rfl) rfl (hb hby d5_1) (by decide) (W := 0) (by show 2 * 0 + _ ≤ _; exact Nat.le_of_eq rfl) (by decide)
  obtain ⟨T28, X28, e28, st28⟩ := getS2 X27 hx hZ hown (host := "") (Or.inl (own_w hw 27 rfl)) Via.refl e27 (S_w_CS.ext Z0) (g := (mkF m 27 #[rv b20, rv b21, iv (0 : Int32), iv (1 : Int32), .val .null, .unset] [])) rfl (hb hby d5_27)
  obtain ⟨_, T36, Lc36, X36, hQ36, st36⟩ := own_static (y := y_3) X28 hx hZ hown (own_w hw 28 rfl) (own_w hw 29 rfl) (own_w hw 30 rfl) (own_w hw 31 rfl) (rm29 l Z a0 hw [] ca b21 k21 h0 Z0 V_b21 hc42) e28 (g := (mkF m 36 #[rv b20, rv b21, iv (0 : Int32), iv (1 : Int32), .val .null, .unset] [(.int (1 : Int32)), (.int (0 : Int32)), (.ref b21)])) (argsL := [(.ref b21), (.int (0 : Int32)), (.int (1 : Int32))]) (rest := []) (W := 0) (lenOf pd_2 rfl) (hb hby d5_36) hml
  obtain ⟨b37, k38, rfl, N36q, K36q, szn_b37, q36_V_b37⟩ := hQ36
  have g_b37 : Z.heap.size ≤ b37 := Nat.le_trans Z0.1 szn_b37
  have sz_b37 : h0.size ≤ b37 := Nat.le_trans (Keep.refl h0 [b20]).1 szn_b37
  have K36 : Keep h0 T36.heap [b20] := (Keep.refl h0 [b20]).trans K36q all0
  have XX36 : Ext Z.heap T36.heap := own_extK Z0 K36q all0
  have N36 := Fr.app N0 N36q
  obtain ⟨_, T41, Lc41, X41, hQ41, st41⟩ := own_static (y := y_4) X36 hx hZ hown (own_w hw 36 rfl) (own_w hw 37 rfl) (own_w hw 30 rfl) (own_w hw 38 rfl) (rm39 l Z a0 hw [] ca b37 k38 T36.heap XX36 q36_V_b37) rfl (g := (mkF m 45 #[rv b20, rv b21, iv (0 : Int32), iv (1 : Int32), .val .null, rv b37] [(.int (1 : Int32)), (.ref b37), (.ref b20)])) (argsL := [(.ref b37), (.int (1 : Int32))]) (rest := [(.ref b20)]) (W := 1) (lenOf pd_3 rfl) (hb hby d5_45) hml
  obtain ⟨rfl, N41q, e41⟩ := hQ41
  have N41 := Fr.app N36 N41q
  obtain ⟨T42, h42, X42, e42, W42, st42⟩ := putFN X41 hx hZ hown (own_w hw 39 rfl) Via.refl e41 (F_b20_coder.keep K36q nin0) (E_b20.keep K36q) (Or.inr ⟨(own_w hw 40 rfl), rfl, hnm⟩) (own_w hw 14 rfl) (ty := .byte) (v' := (.int (0 : Int32))) (by decide) rfl (by decide) (g := (mkF m 48 #[rv b20, rv b21, iv (0 : Int32), iv (1 : Int32), .val .null, rv b37] [(.int (0 : Int32)), (.ref b20)])) rfl rfl (hb hby d5_48)
  have K42 : Keep h0 h42 [b20] := K36.wr W42 (Or.inl (List.mem_of_getElem? (i := 0) rfl))
  have XX42 : Ext Z.heap h42 := own_extW XX36 W42 g_b20
  have N42 := Fr.snoc X42 N41 g_b20
  have f43_F_b20_value : Fld Z h42 b20 "java/lang/String" "value" "[B" .null := ((F_b20_value.keep K36q nin0).other W42 (Or.inr (slot_ne (Or.inr (own_w hw 42 rfl)) (Or.inr (own_w hw 40 rfl)) (by decide) (t := (.array .byte)) (t' := .byte) (by decide) (by decide))))
  obtain ⟨T44, h44, X44, e44, W44, st44⟩ := putF X42 hx hZ hown (host := "") (Or.inl (own_w hw 41 rfl)) Via.refl e42 f43_F_b20_value ((E_b20.keep K36q).wr W42) (Or.inr ⟨(own_w hw 42 rfl), rfl, hnm⟩) (own_w hw 14 rfl) (ty := (.array .byte)) (by decide) rfl rfl (g := (mkF m 54 #[rv b20, rv b21, iv (0 : Int32), iv (1 : Int32), .val .null, rv b37] [(.ref b37), (.ref b20)])) rfl rfl (hb hby d5_54)
  have K44 : Keep h0 h44 [b20] := K42.wr W44 (Or.inl (List.mem_of_getElem? (i := 0) rfl))
  have XX44 : Ext Z.heap h44 := own_extW XX42 W44 g_b20
  have N44 := Fr.snoc X44 N42 g_b20
  have f45_F_b20_coder : Fld Z h44 b20 "java/lang/String" "coder" "B" (.int (0 : Int32)) := (((F_b20_coder.keep K36q nin0).same W42).other W44 (Or.inr (slot_ne (Or.inr (own_w hw 40 rfl)) (Or.inr (own_w hw 42 rfl)) (by decide) (t := .byte) (t' := (.array .byte)) (by decide) (by decide))))
  have ne_b20_b37 : b20 ≠ b37 := Nat.ne_of_lt (Nat.lt_of_lt_of_le E_b20.lt szn_b37)
  have f46_V_b37 : Arv Z h44 b37 k38 .byte (1 : Int32) [(.int (ca.toInt8.toInt32))] (.int (0 : Int32)) := ((q36_V_b37.other W42 (Ne.symm ne_b20_b37)).other W44 (Ne.symm ne_b20_b37))
  obtain ⟨fs, hr, hrun, hended, hW, hsame⟩ := X44.leave (v := none) (fun _ => rfl) hlk
  refine ⟨_, _, ?_, hrun, hended, _, _, rfl, ?_, ⟨_, rfl⟩, hW, hsame.mono (by decide) (by decide)⟩
  · show own_S p e below s₁ (mkF m 0 #[rv b20, rv b21, iv (0 : Int32), iv (1 : Int32), .val .null, .unset] []) _
    refine own_aN X0 hx hby d5_0 ?_
    refine st27 _ ?_
    refine own_iN X27 hx hby d5_4 ?_
    refine own_iy (pc := 5) X27 hx hby d5_5 (feq (by decide : ¬ ((1 : Int32) = (0 : Int32)))).2 27 ?_
    refine st28 _ ?_
    refine own_in X28 hx hby d5_30 (feq hc1).1 ?_
    refine own_aN X28 hx hby d5_33 ?_
    refine own_iN X28 hx hby d5_34 ?_
    refine own_iN X28 hx hby d5_35 ?_
    refine st36 _ ?_
    refine XS.astore X36.here hx rfl (hb hby d5_39) rfl rfl (l' := #[rv b20, rv b21, iv (0 : Int32), iv (1 : Int32), .val .null, rv b37]) rfl ?_
    refine own_aN X36 hx hby d5_41 ?_
    refine own_a X36 hx hby d5_42 ?_
    refine own_iN X36 hx hby d5_44 ?_
    refine st41 _ ?_
    refine st42 _ ?_
    refine own_aN X42 hx hby d5_51 ?_
    refine own_a X42 hx hby d5_52 ?_
    refine st44 _ ?_
    exact X44.returnOut hx hret (hb hby d5_57) hr
  · show Qrm26 Z w_CS ca b20 b21 k21 h0 _ T44.heap _
    rw [e44]
    exact ⟨b37, k38, rfl, N44, K44, sz_b37, (((E_b20.keep K36q).wr W42).wr W44), f45_F_b20_coder, (f43_F_b20_value.same W44), f46_V_b37⟩
def Qrm24 (Z : State) (w_CS ca : Int32) (b20 b21 : Addr) (k21 : ClassId) (h0 : Heap) (v : Option Value) (h : Heap) (L : List Loc) : Prop := ∃ b48 : Addr, ∃ k49 : ClassId, v = none ∧ Fr Z.heap.size L ∧ Keep h0 h [b20] ∧ h0.size ≤ b48 ∧ Exa Z h b20 "java/lang/String" ∧ Fld Z h b20 "java/lang/String" "coder" "B" (.int (0 : Int32)) ∧ Fld Z h b20 "java/lang/String" "value" "[B" (.ref b48) ∧ Arv Z h b48 k49 .byte (1 : Int32) [(.int (ca.toInt8.toInt32))] (.int (0 : Int32))
theorem rm24 (l : Launch) (Z : State) (a0 : Array Value) (hw : own_HW Z a0) (ws : List Jvm.Cond) (w_CS ca : Int32) (b20 b21 : Addr) (k21 : ClassId) (h0 : Heap) (Z0 : Ext Z.heap h0) (S_w_CS : own_w_CS Z w_CS) (E_b20 : Exa Z h0 b20 "java/lang/String") (F_b20_coder : Fld Z h0 b20 "java/lang/String" "coder" "B" (.int (0 : Int32))) (F_b20_value : Fld Z h0 b20 "java/lang/String" "value" "[B" .null) (V_b21 : Arv Z h0 b21 k21 .char (1 : Int32) [(.int ca)] (.int (0 : Int32))) (g_b20 : Z.heap.size ≤ b20) (hc1 : ¬ (w_CS = (0 : Int32))) (hc42 : own_ch ca) :
    own_met l y_6 jdk_42_method_3_code 2 none ws ({ frames := 3, cells := 1, slots := 1, locals := 52 } : Room) Z #[(.ref b20), (.ref b21)] h0 (Qrm24 Z w_CS ca b20 b21 k21 h0) := by
  refine own_start (plainFor_of_name pn_2) (fun m => ef_jdk_42_method_3_RR m b20 b21) ?_
  intro p e s m below meth c s₁ hx hby hml hown hnm X0 hZ e0 hret hlk
  have N0 := Fr.nil Z.heap.size
  obtain ⟨cl25, Ar25, q25, S25, Nn25, H25, G25⟩ := id V_b21
  obtain ⟨_, T47, Lc47, X47, hQ47, st47⟩ := own_special (y := y_5) X0 hx hZ hown rfl (own_w hw 20 rfl) (own_w hw 21 rfl) (own_w hw 15 rfl) (own_w hw 23 rfl) (rm26 l Z a0 hw [] w_CS ca b20 b21 k21 h0 Z0 S_w_CS E_b20 F_b20_coder F_b20_value V_b21 g_b20 hc1 hc42) e0 b20 (g := (mkF m 6 #[rv b20, rv b21] [.null, (.int (1 : Int32)), (.int (0 : Int32)), (.ref b21), (.ref b20)])) (argsL := [(.ref b21), (.int (0 : Int32)), (.int (1 : Int32)), .null]) (rest := []) (W := 0) (lenOf pd_4 rfl) (hb hby d4_6) hml
  obtain ⟨b48, k49, rfl, N47q, K47q, szn_b48, q47_E_b20, q47_F_b20_coder, q47_F_b20_value, q47_V_b48⟩ := hQ47
  have g_b48 : Z.heap.size ≤ b48 := Nat.le_trans Z0.1 szn_b48
  have sz_b48 : h0.size ≤ b48 := Nat.le_trans (Keep.refl h0 [b20]).1 szn_b48
  have K47 : Keep h0 T47.heap [b20] := (Keep.refl h0 [b20]).trans K47q (allS (Or.inl (List.mem_of_getElem? (i := 0) rfl)) all0)
  have XX47 : Ext Z.heap T47.heap := own_extK Z0 K47q (allS g_b20 all0)
  have N47 := Fr.app N0 N47q
  obtain ⟨fs, hr, hrun, hended, hW, hsame⟩ := X47.leave (v := none) (fun _ => rfl) hlk
  refine ⟨_, _, ?_, hrun, hended, _, _, rfl, ?_, ⟨_, rfl⟩, hW, hsame.mono (by decide) (by decide)⟩
  · show own_S p e below s₁ (mkF m 0 #[rv b20, rv b21] []) _
    refine own_aN X0 hx hby d4_0 ?_
    refine own_aN X0 hx hby d4_1 ?_
    refine own_k X0 hx hby d4_2 ?_
    refine own_aN X0 hx hby d4_3 ?_
    refine X0.arraylength hx (by rw [e0]; exact Ar25.1) (State.isArrayOf_alike hZ.alike Ar25.2.1) (g := (mkF m 4 #[rv b20, rv b21] [(.ref b21), (.int (0 : Int32)), (.ref b21), (.ref b20)])) rfl rfl (hb hby d4_4) _ ?_
    rw [len_of S25 Nn25]
    refine XS.aconstNull X0.here hx rfl (hb hby d4_5) ?_
    refine st47 _ ?_
    exact X47.returnOut hx hret (hb hby d4_9) hr
  · show Qrm24 Z w_CS ca b20 b21 k21 h0 _ T47.heap _
    exact ⟨b48, k49, rfl, N47, K47, sz_b48, q47_E_b20, q47_F_b20_coder, q47_F_b20_value, q47_V_b48⟩
def Qrm19 (Z : State) (w_CS ca cb cc : Int32) (h0 : Heap) (v : Option Value) (h : Heap) (L : List Loc) : Prop := ∃ b20 : Addr, ∃ b51 : Addr, ∃ k52 : ClassId, v = some (.ref b20) ∧ Fr Z.heap.size L ∧ Keep h0 h [] ∧ h0.size ≤ b20 ∧ h0.size ≤ b51 ∧ Exa Z h b20 "java/lang/String" ∧ Fld Z h b20 "java/lang/String" "coder" "B" (.int (0 : Int32)) ∧ Fld Z h b20 "java/lang/String" "value" "[B" (.ref b51) ∧ Arv Z h b51 k52 .byte (1 : Int32) [(.int (ca.toInt8.toInt32))] (.int (0 : Int32))
theorem rm19 (l : Launch) (Z : State) (a0 : Array Value) (hw : own_HW Z a0) (ws : List Jvm.Cond) (w_CS ca cb cc : Int32) (h0 : Heap) (Z0 : Ext Z.heap h0) (S_w_CS : own_w_CS Z w_CS) (hc42 : own_ch ca) (hc1 : ¬ (w_CS = (0 : Int32))) :
    own_met l y_7 method_4_code 4 (some (.object "java/lang/String")) ws ({ frames := 4, cells := 3, slots := 6, locals := 66 } : Room) Z #[(.int (1 : Int32)), (.int ca), (.int cb), (.int cc)] h0 (Qrm19 Z w_CS ca cb cc h0) := by
  refine own_start (plainFor_of_name pn_0) (fun m => ef_method_4_IIII m (1 : Int32) ca cb cc) ?_
  intro p e s m below meth c s₁ hx hby hml hown hnm X0 hZ e0 hret hlk
  have N0 := Fr.nil Z.heap.size
  obtain ⟨T20, h20, X20, e20, E20, A20, D20, -, st20⟩ := newO X0 hx hZ hown (own_w hw 13 rfl) (own_w hw 14 rfl) (own_w hw 15 rfl) e0 (g := (mkF m 5 #[iv (1 : Int32), iv ca, iv cb, iv cc] [])) rfl (hb hby d3_5) (by decide) (by decide)
  obtain ⟨b20, g20⟩ : ∃ z, z = h0.size := ⟨_, rfl⟩
  rw [← g20] at A20 D20 st20
  have g_b20 : Z.heap.size ≤ b20 := Nat.le_trans Z0.1 (Nat.le_of_eq g20.symm)
  have sz_b20 : h0.size ≤ b20 := Nat.le_trans (Keep.refl h0 []).1 (Nat.le_of_eq g20.symm)
  have F_b20_coder : Fld Z h20 b20 "java/lang/String" "coder" "B" (.int (0 : Int32)) := D20 (Or.inr (own_w hw 40 rfl)) (ty := .byte) (by decide)
  have F_b20_value : Fld Z h20 b20 "java/lang/String" "value" "[B" .null := D20 (Or.inr (own_w hw 42 rfl)) (ty := (.array .byte)) (by decide)
  have K20 : Keep h0 h20 [] := (Keep.refl h0 []).ext E20
  have XX20 : Ext Z.heap h20 := own_ext2 Z0 E20
  obtain ⟨T21, h21, k21, X21, e21, E21, A21, st21⟩ := newP X20 hx hZ (own_w hw 16 rfl) e20 (g := (mkF m 10 #[iv (1 : Int32), iv ca, iv cb, iv cc] [(.int (1 : Int32)), (.ref b20), (.ref b20)])) rfl (hb hby d3_10) rfl (by decide) (cap := 1) (by decide) (by decide) (by decide) (by decide)
  obtain ⟨b21, g21⟩ : ∃ z, z = h20.size := ⟨_, rfl⟩
  rw [← g21] at A21 st21
  have g_b21 : Z.heap.size ≤ b21 := Nat.le_trans XX20.1 (Nat.le_of_eq g21.symm)
  have sz_b21 : h0.size ≤ b21 := Nat.le_trans K20.1 (Nat.le_of_eq g21.symm)
  have V_b21 : Arv Z h21 b21 k21 .char (1 : Int32) [(.int (0 : Int32))] (.int (0 : Int32)) := (Arv.new A21 (by decide)).pad (pad_rep [] (.int (0 : Int32)) 1)
  have K21 : Keep h0 h21 [] := K20.ext E21
  have XX21 : Ext Z.heap h21 := own_ext2 XX20 E21
  obtain ⟨cl22, Ar22, q22, S22, Nn22, H22, G22⟩ := id V_b21
  have hin22 : ¬ ((0 : Int32) < 0 ∨ cl22.slots.size ≤ ((0 : Int32)).toNatClampNeg) := inb_of S22 ⟨by decide, by decide⟩
  obtain ⟨T23, h23, X23, e23, W23, st23⟩ := stC X21 hx hZ e21 Ar22 (j := (0 : Int32)) hin22 (g := (mkF m 15 #[iv (1 : Int32), iv ca, iv cb, iv cc] [(.int ca), (.int (0 : Int32)), (.ref b21), (.ref b21), (.ref b20), (.ref b20)])) rfl rfl (hb hby d3_15)
  rw [(own_nc hc42)] at W23
  have V23 : Arv Z h23 b21 k21 .char (1 : Int32) [(.int ca)] (.int (0 : Int32)) := Arv.set Ar22 q22 S22 Nn22 H22 G22 (by rw [← (own_nc hc42)]; exact fits_nar_char _) W23 0 rfl (Nat.le_of_ble_eq_true rfl)
  have K23 : Keep h0 h23 [] := K21.wr W23 (Or.inr sz_b21)
  have XX23 : Ext Z.heap h23 := own_extW XX21 W23 g_b21
  have N23 := Fr.snoc X23 N0 g_b21
  have ne_b20_b21 : b20 ≠ b21 := Nat.ne_of_lt (Nat.lt_of_lt_of_le A20.lt (Nat.le_of_eq g21.symm))
  obtain ⟨_, T50, Lc50, X50, hQ50, st50⟩ := own_special (y := y_6) X23 hx hZ hown rfl (own_w hw 17 rfl) (own_w hw 18 rfl) (own_w hw 15 rfl) (own_w hw 19 rfl) (rm24 l Z a0 hw [] w_CS ca b20 b21 k21 h23 XX23 S_w_CS ((A20.ext E21).wr W23) ((F_b20_coder.ext E21).other W23 (Or.inl ne_b20_b21)) ((F_b20_value.ext E21).other W23 (Or.inl ne_b20_b21)) V23 g_b20 hc1 hc42) e23 b20 (g := (mkF m 16 #[iv (1 : Int32), iv ca, iv cb, iv cc] [(.ref b21), (.ref b20), (.ref b20)])) (argsL := [(.ref b21)]) (rest := [(.ref b20)]) (W := 1) (lenOf pd_5 rfl) (hb hby d3_16) hml
  obtain ⟨b51, k52, rfl, N50q, K50q, szn_b51, q50_E_b20, q50_F_b20_coder, q50_F_b20_value, q50_V_b51⟩ := hQ50
  have g_b51 : Z.heap.size ≤ b51 := Nat.le_trans XX23.1 szn_b51
  have sz_b51 : h0.size ≤ b51 := Nat.le_trans K23.1 szn_b51
  have K50 : Keep h0 T50.heap [] := K23.trans K50q (allS (Or.inr sz_b20) all0)
  have XX50 : Ext Z.heap T50.heap := own_extK XX23 K50q (allS g_b20 all0)
  have N50 := Fr.app N23 N50q
  obtain ⟨fs, hr, hrun, hended, hW, hsame⟩ := X50.leave (v := some (.ref b20)) (fun h => by rw [hret] at h; cases h) hlk
  refine ⟨_, _, ?_, hrun, hended, _, _, rfl, ?_, ⟨_, rfl⟩, hW, hsame.mono (by decide) (by decide)⟩
  · show own_S p e below s₁ (mkF m 0 #[iv (1 : Int32), iv ca, iv cb, iv cc] []) _
    refine own_iN X0 hx hby d3_0 ?_
    refine own_k X0 hx hby d3_1 ?_
    refine own_cn X0 hx hby d3_2 (teq (rfl : (1 : Int32) = (1 : Int32))).2 ?_
    refine st20 _ ?_
    refine XS.dup X20.here hx rfl (hb hby d3_8) rfl rfl ?_
    refine own_k X20 hx hby d3_9 ?_
    refine st21 _ ?_
    refine XS.dup X21.here hx rfl (hb hby d3_12) rfl rfl ?_
    refine own_k X21 hx hby d3_13 ?_
    refine own_iN X21 hx hby d3_14 ?_
    refine st23 _ ?_
    refine st50 _ ?_
    jvm_step X50.here [X50.here.top, hx, (hb hby d3_19), X50.method', hret, Value.isRef, FieldType.isReference]
    first | (intro acts; rw [hr _ acts rfl rfl rfl]) | rw [hr _ _ rfl rfl rfl]
    exact Steps.refl _
  · show Qrm19 Z w_CS ca cb cc h0 _ T50.heap _
    exact ⟨b20, b51, k52, rfl, N50, K50, sz_b20, sz_b51, q50_E_b20, q50_F_b20_coder, q50_F_b20_value, q50_V_b51⟩
def Qrm63 (Z : State) (b61 : Addr) (h0 : Heap) (v : Option Value) (h : Heap) (L : List Loc) : Prop := v = none ∧ Fr Z.heap.size L ∧ h = h0
theorem rm63 (l : Launch) (Z : State) (a0 : Array Value) (hw : own_HW Z a0) (ws : List Jvm.Cond) (b61 : Addr) (h0 : Heap) (Z0 : Ext Z.heap h0) :
    own_met l y_8 jdk_30_method_1_code 1 none ws ({ frames := 1, cells := 0, slots := 0, locals := 12 } : Room) Z #[(.ref b61)] h0 (Qrm63 Z b61 h0) := by
  refine own_start (plainFor_of_name pn_3) (fun m => ef_jdk_30_method_1_R m b61) ?_
  intro p e s m below meth c s₁ hx hby hml hown hnm X0 hZ e0 hret hlk
  have N0 := Fr.nil Z.heap.size
  obtain ⟨T64, X64, e64, st64⟩ := initO X0 hx hZ hown (own_w hw 54 rfl) (own_w hw 25 rfl) (own_w hw 26 rfl) e0 (g := (mkF m 1 #[rv b61] [(.ref b61)])) rfl (by rw [hml]; rfl) rfl (hb hby d11_1) (by decide) (W := 0) (by show 2 * 0 + _ ≤ _; exact Nat.le_of_eq rfl) (by decide)
  obtain ⟨fs, hr, hrun, hended, hW, hsame⟩ := X64.leave (v := none) (fun _ => rfl) hlk
  refine ⟨_, _, ?_, hrun, hended, _, _, rfl, ?_, ⟨_, rfl⟩, hW, hsame.mono (by decide) (by decide)⟩
  · show own_S p e below s₁ (mkF m 0 #[rv b61] []) _
    refine own_aN X0 hx hby d11_0 ?_
    refine st64 _ ?_
    exact X64.returnOut hx hret (hb hby d11_4) hr
  · show Qrm63 Z b61 h0 _ T64.heap _
    rw [e64]
    exact ⟨rfl, N0, rfl⟩
def Qrm67 (Z : State) (ca : Int32) (b54 b55 : Addr) (k56 : ClassId) (h0 : Heap) (v : Option Value) (h : Heap) (L : List Loc) : Prop := v = some (.int (0 : Int32)) ∧ Fr Z.heap.size L ∧ h = h0
theorem rm67 (l : Launch) (Z : State) (a0 : Array Value) (hw : own_HW Z a0) (ws : List Jvm.Cond) (ca : Int32) (b54 b55 : Addr) (k56 : ClassId) (h0 : Heap) (Z0 : Ext Z.heap h0) (F_b54_value : Fld Z h0 b54 "java/lang/String" "value" "[B" (.ref b55)) (V_b55 : Arv Z h0 b55 k56 .byte (1 : Int32) [(.int (ca.toInt8.toInt32))] (.int (0 : Int32))) :
    own_met l y_9 jdk_42_method_55_code 1 (some .boolean) ws ({ frames := 0, cells := 0, slots := 0, locals := 0 } : Room) Z #[(.ref b54)] h0 (Qrm67 Z ca b54 b55 k56 h0) := by
  refine own_start (plainFor_of_name pn_2) (fun m => ef_jdk_42_method_55_R m b54) ?_
  intro p e s m below meth c s₁ hx hby hml hown hnm X0 hZ e0 hret hlk
  have N0 := Fr.nil Z.heap.size
  obtain ⟨T68, X68, e68, st68⟩ := getF X0 hx hZ hown (host := "") (Or.inl (own_w hw 41 rfl)) Via.refl e0 F_b54_value (g := (mkF m 1 #[rv b54] [(.ref b54)])) rfl rfl (hb hby d13_1)
  obtain ⟨cl69, Ar69, q69, S69, Nn69, H69, G69⟩ := id V_b55
  obtain ⟨fs, hr, hrun, hended, hW, hsame⟩ := X68.leave (v := some (.int (0 : Int32))) (fun h => by rw [hret] at h; cases h) hlk
  refine ⟨_, _, ?_, hrun, hended, _, _, rfl, ?_, ⟨_, rfl⟩, hW, hsame.mono (by decide) (by decide)⟩
  · show own_S p e below s₁ (mkF m 0 #[rv b54] []) _
    refine own_aN X0 hx hby d13_0 ?_
    refine st68 _ ?_
    refine X68.arraylength hx (by rw [e68]; exact Ar69.1) (State.isArrayOf_alike hZ.alike Ar69.2.1) (g := (mkF m 4 #[rv b54] [(.ref b55)])) rfl rfl (hb hby d13_4) _ ?_
    rw [len_of S69 Nn69]
    refine own_iy (pc := 5) X68 hx hby d13_5 (feq (by decide : ¬ ((1 : Int32) = (0 : Int32)))).2 12 ?_
    refine own_k X68 hx hby d13_12 ?_
    exact retN X68 hx (t := .boolean) hret (by simp) (hb hby d13_13) hr
  · show Qrm67 Z ca b54 b55 k56 h0 _ T68.heap _
    rw [e68]
    exact ⟨rfl, N0, rfl⟩
def Qrm72 (Z : State) (w_CS : Int32) (b54 : Addr) (h0 : Heap) (v : Option Value) (h : Heap) (L : List Loc) : Prop := v = some (.int (1 : Int32)) ∧ Fr Z.heap.size L ∧ h = h0
theorem rm72 (l : Launch) (Z : State) (a0 : Array Value) (hw : own_HW Z a0) (ws : List Jvm.Cond) (w_CS : Int32) (b54 : Addr) (h0 : Heap) (Z0 : Ext Z.heap h0) (S_w_CS : own_w_CS Z w_CS) (F_b54_coder : Fld Z h0 b54 "java/lang/String" "coder" "B" (.int (0 : Int32))) (hc1 : ¬ (w_CS = (0 : Int32))) :
    own_met l y_10 jdk_42_method_154_code 1 (some .boolean) ws ({ frames := 0, cells := 0, slots := 0, locals := 0 } : Room) Z #[(.ref b54)] h0 (Qrm72 Z w_CS b54 h0) := by
  refine own_start (plainFor_of_name pn_2) (fun m => ef_jdk_42_method_154_R m b54) ?_
  intro p e s m below meth c s₁ hx hby hml hown hnm X0 hZ e0 hret hlk
  have N0 := Fr.nil Z.heap.size
  obtain ⟨T73, X73, e73, st73⟩ := getS2 X0 hx hZ hown (host := "") (Or.inl (own_w hw 27 rfl)) Via.refl e0 (S_w_CS.ext Z0) (g := (mkF m 0 #[rv b54] [])) rfl (hb hby d15_0)
  obtain ⟨T74, X74, e74, st74⟩ := getF X73 hx hZ hown (host := "") (Or.inl (own_w hw 39 rfl)) Via.refl e73 F_b54_coder (g := (mkF m 7 #[rv b54] [(.ref b54)])) rfl rfl (hb hby d15_7)
  obtain ⟨fs, hr, hrun, hended, hW, hsame⟩ := X74.leave (v := some (.int (1 : Int32))) (fun h => by rw [hret] at h; cases h) hlk
  refine ⟨_, _, ?_, hrun, hended, _, _, rfl, ?_, ⟨_, rfl⟩, hW, hsame.mono (by decide) (by decide)⟩
  · show own_S p e below s₁ (mkF m 0 #[rv b54] []) _
    refine st73 _ ?_
    refine own_in X73 hx hby d15_3 (feq hc1).1 ?_
    refine own_aN X73 hx hby d15_6 ?_
    refine st74 _ ?_
    refine own_in X74 hx hby d15_10 (teq (rfl : (0 : Int32) = (0 : Int32))).2 ?_
    refine own_k X74 hx hby d15_13 ?_
    refine own_go (pc := 14) X74 hx hby d15_14 18 ?_
    exact retN X74 hx (t := .boolean) hret (by simp) (hb hby d15_18) hr
  · show Qrm72 Z w_CS b54 h0 _ T74.heap _
    rw [e74]
    exact ⟨rfl, N0, rfl⟩
def Qrm81 (Z : State) (w_SF : Value) (h0 : Heap) (v : Option Value) (h : Heap) (L : List Loc) : Prop := v = some (.int (0 : Int32)) ∧ Fr Z.heap.size L ∧ h = h0
theorem rm81 (l : Launch) (Z : State) (a0 : Array Value) (hw : own_HW Z a0) (ws : List Jvm.Cond) (w_SF : Value) (h0 : Heap) (Z0 : Ext Z.heap h0) (R_w_SF : w_SF.isRef = true) :
    own_met l y_11 jdk_41_method_11_code 3 (some .int) ws ({ frames := 0, cells := 0, slots := 0, locals := 0 } : Room) Z #[(.int (0 : Int32)), (.int (1 : Int32)), w_SF] h0 (Qrm81 Z w_SF h0) := by
  refine own_start (plainFor_of_name pn_4) (fun m => ef_jdk_41_method_11_IIX m (0 : Int32) (1 : Int32) w_SF R_w_SF) ?_
  intro p e s m below meth c s₁ hx hby hml hown hnm X0 hZ e0 hret hlk
  have N0 := Fr.nil Z.heap.size
  obtain ⟨fs, hr, hrun, hended, hW, hsame⟩ := X0.leave (v := some (.int (0 : Int32))) (fun h => by rw [hret] at h; cases h) hlk
  refine ⟨_, _, ?_, hrun, hended, _, _, rfl, ?_, ⟨_, rfl⟩, hW, hsame.mono (by decide) (by decide)⟩
  · show own_S p e below s₁ (mkF m 0 #[iv (0 : Int32), iv (1 : Int32), .val w_SF] []) _
    refine own_iN X0 hx hby d18_0 ?_
    refine own_in X0 hx hby d18_1 (flt (Int32.lt_irrefl : ¬ ((0 : Int32) < (0 : Int32)))).1 ?_
    refine own_iN X0 hx hby d18_4 ?_
    refine own_iN X0 hx hby d18_5 ?_
    refine own_cy (pc := 6) X0 hx hby d18_6 (tlt (by decide : (0 : Int32) < (1 : Int32))).1 16 ?_
    refine own_iN X0 hx hby d18_16 ?_
    exact retI X0 hx hret (hb hby d18_17) hr
  · show Qrm81 Z w_SF h0 _ s₁.heap _
    rw [e0]
    exact ⟨rfl, N0, rfl⟩
def Qrm79 (Z : State) (w_SF : Value) (h0 : Heap) (v : Option Value) (h : Heap) (L : List Loc) : Prop := v = none ∧ Fr Z.heap.size L ∧ h = h0
theorem rm79 (l : Launch) (Z : State) (a0 : Array Value) (hw : own_HW Z a0) (ws : List Jvm.Cond) (w_SF : Value) (h0 : Heap) (Z0 : Ext Z.heap h0) (S_w_SF : own_w_SF Z w_SF) (R_w_SF : w_SF.isRef = true) :
    own_met l y_12 jdk_42_method_155_code 2 none ws ({ frames := 1, cells := 0, slots := 0, locals := 14 } : Room) Z #[(.int (0 : Int32)), (.int (1 : Int32))] h0 (Qrm79 Z w_SF h0) := by
  refine own_start (plainFor_of_name pn_2) (fun m => ef_jdk_42_method_155_II m (0 : Int32) (1 : Int32)) ?_
  intro p e s m below meth c s₁ hx hby hml hown hnm X0 hZ e0 hret hlk
  have N0 := Fr.nil Z.heap.size
  obtain ⟨T80, X80, e80, st80⟩ := getS2 X0 hx hZ hown (host := "") (Or.inl (own_w hw 80 rfl)) Via.refl e0 (S_w_SF.ext Z0) (g := (mkF m 2 #[iv (0 : Int32), iv (1 : Int32)] [(.int (1 : Int32)), (.int (0 : Int32))])) rfl (hb hby d17_2)
  obtain ⟨_, T82, Lc82, X82, hQ82, st82⟩ := own_static (y := y_11) X80 hx hZ hown (own_w hw 82 rfl) (own_w hw 83 rfl) (own_w hw 81 rfl) (own_w hw 84 rfl) (rm81 l Z a0 hw [] w_SF h0 Z0 R_w_SF) e80 (g := (mkF m 5 #[iv (0 : Int32), iv (1 : Int32)] [w_SF, (.int (1 : Int32)), (.int (0 : Int32))])) (argsL := [(.int (0 : Int32)), (.int (1 : Int32)), w_SF]) (rest := []) (W := 0) (lenOf pd_9 rfl) (hb hby d17_5) hml
  obtain ⟨rfl, N82q, e82⟩ := hQ82
  have N82 := Fr.app N0 N82q
  obtain ⟨fs, hr, hrun, hended, hW, hsame⟩ := X82.leave (v := none) (fun _ => rfl) hlk
  refine ⟨_, _, ?_, hrun, hended, _, _, rfl, ?_, ⟨_, rfl⟩, hW, hsame.mono (by decide) (by decide)⟩
  · show own_S p e below s₁ (mkF m 0 #[iv (0 : Int32), iv (1 : Int32)] []) _
    refine own_iN X0 hx hby d17_0 ?_
    refine own_iN X0 hx hby d17_1 ?_
    refine st80 _ ?_
    refine st82 _ ?_
    refine XS.pop X82.here hx rfl (hb hby d17_8) rfl rfl ?_
    exact X82.returnOut hx hret (hb hby d17_9) hr
  · show Qrm79 Z w_SF h0 _ T82.heap _
    rw [e82]
    exact ⟨rfl, N82, rfl⟩
def Qrm77 (Z : State) (w_SF : Value) (ca : Int32) (b55 : Addr) (k56 : ClassId) (h0 : Heap) (v : Option Value) (h : Heap) (L : List Loc) : Prop := v = some (.int ca) ∧ Fr Z.heap.size L ∧ h = h0
theorem rm77 (l : Launch) (Z : State) (a0 : Array Value) (hw : own_HW Z a0) (ws : List Jvm.Cond) (w_SF : Value) (ca : Int32) (b55 : Addr) (k56 : ClassId) (h0 : Heap) (Z0 : Ext Z.heap h0) (S_w_SF : own_w_SF Z w_SF) (R_w_SF : w_SF.isRef = true) (V_b55 : Arv Z h0 b55 k56 .byte (1 : Int32) [(.int (ca.toInt8.toInt32))] (.int (0 : Int32))) (hc42 : own_ch ca) :
    own_met l y_13 jdk_43_method_2_code 2 (some .char) ws ({ frames := 2, cells := 0, slots := 0, locals := 27 } : Room) Z #[(.ref b55), (.int (0 : Int32))] h0 (Qrm77 Z w_SF ca b55 k56 h0) := by
  refine own_start (plainFor_of_name pn_5) (fun m => ef_jdk_43_method_2_RI m b55 (0 : Int32)) ?_
  intro p e s m below meth c s₁ hx hby hml hown hnm X0 hZ e0 hret hlk
  have N0 := Fr.nil Z.heap.size
  obtain ⟨cl78, Ar78, q78, S78, Nn78, H78, G78⟩ := id V_b55
  obtain ⟨_, T83, Lc83, X83, hQ83, st83⟩ := own_static (y := y_12) X0 hx hZ hown (own_w hw 77 rfl) (own_w hw 78 rfl) (own_w hw 15 rfl) (own_w hw 79 rfl) (rm79 l Z a0 hw [] w_SF h0 Z0 S_w_SF R_w_SF) e0 (g := (mkF m 3 #[rv b55, iv (0 : Int32)] [(.int (1 : Int32)), (.int (0 : Int32))])) (argsL := [(.int (0 : Int32)), (.int (1 : Int32))]) (rest := []) (W := 0) (lenOf pd_10 rfl) (hb hby d16_3) hml
  obtain ⟨rfl, N83q, e83⟩ := hQ83
  have N83 := Fr.app N0 N83q
  obtain ⟨cl84, Ar84, q84, S84, Nn84, H84, G84⟩ := id V_b55
  have hin84 : ¬ ((0 : Int32) < 0 ∨ cl84.slots.size ≤ ((0 : Int32)).toNatClampNeg) := inb_of S84 ⟨by decide, by decide⟩
  have hat84 : cl84.slots[((0 : Int32)).toNatClampNeg]? = some (.int (ca.toInt8.toInt32)) := Has.at H84 hin84 rfl
  obtain ⟨fs, hr, hrun, hended, hW, hsame⟩ := X83.leave (v := some (.int ca)) (fun h => by rw [hret] at h; cases h) hlk
  refine ⟨_, _, ?_, hrun, hended, _, _, rfl, ?_, ⟨_, rfl⟩, hW, hsame.mono (by decide) (by decide)⟩
  · show own_S p e below s₁ (mkF m 0 #[rv b55, iv (0 : Int32)] []) _
    refine own_iN X0 hx hby d16_0 ?_
    refine own_aN X0 hx hby d16_1 ?_
    refine X0.arraylength hx (by rw [e0]; exact Ar78.1) (State.isArrayOf_alike hZ.alike Ar78.2.1) (g := (mkF m 2 #[rv b55, iv (0 : Int32)] [(.ref b55), (.int (0 : Int32))])) rfl rfl (hb hby d16_2) _ ?_
    rw [len_of S78 Nn78]
    refine st83 _ ?_
    refine own_aN X83 hx hby d16_6 ?_
    refine own_iN X83 hx hby d16_7 ?_
    refine X83.baloadBytes hx (j := (0 : Int32)) (v := (.int (ca.toInt8.toInt32))) (by rw [e83]; exact Ar84.1) (State.isArrayOf_alike hZ.alike Ar84.2.1) Ar84.2.2 hin84 hat84 (g := (mkF m 8 #[rv b55, iv (0 : Int32)] [(.int (0 : Int32)), (.ref b55)])) rfl rfl (hb hby d16_8) _ ?_
    refine XS.sipush X83.here hx rfl (hb hby d16_9) ?_
    refine XS.iand X83.here hx rfl (hb hby d16_12) rfl ?_
    show own_S p e below T83 (mkF m 13 #[rv b55, iv (0 : Int32)] [(.int ((ca.toInt8.toInt32) &&& (255 : Int32)))]) _
    rw [(own_b255 hc42)]
    refine XS.i2c X83.here hx rfl (hb hby d16_13) rfl ?_
    show own_S p e below T83 (mkF m 14 #[rv b55, iv (0 : Int32)] [(.int (ca.toUInt32.toUInt16.toUInt32.toInt32))]) _
    rw [(own_i2c hc42)]
    rw [← (own_nc hc42)] at hr
    exact retN X83 hx (t := .char) hret (by simp) (hb hby d16_14) hr
  · show Qrm77 Z w_SF ca b55 k56 h0 _ T83.heap _
    rw [e83]
    exact ⟨rfl, N83, rfl⟩
def Qrm71 (Z : State) (w_CS : Int32) (w_SF : Value) (ca : Int32) (b54 b55 : Addr) (k56 : ClassId) (h0 : Heap) (v : Option Value) (h : Heap) (L : List Loc) : Prop := v = some (.int ca) ∧ Fr Z.heap.size L ∧ h = h0
theorem rm71 (l : Launch) (Z : State) (a0 : Array Value) (hw : own_HW Z a0) (ws : List Jvm.Cond) (w_CS : Int32) (w_SF : Value) (ca : Int32) (b54 b55 : Addr) (k56 : ClassId) (h0 : Heap) (Z0 : Ext Z.heap h0) (S_w_CS : own_w_CS Z w_CS) (S_w_SF : own_w_SF Z w_SF) (R_w_SF : w_SF.isRef = true) (E_b54 : Exa Z h0 b54 "java/lang/String") (F_b54_coder : Fld Z h0 b54 "java/lang/String" "coder" "B" (.int (0 : Int32))) (F_b54_value : Fld Z h0 b54 "java/lang/String" "value" "[B" (.ref b55)) (V_b55 : Arv Z h0 b55 k56 .byte (1 : Int32) [(.int (ca.toInt8.toInt32))] (.int (0 : Int32))) (hc1 : ¬ (w_CS = (0 : Int32))) (hc42 : own_ch ca) :
    own_met l y_14 jdk_42_method_56_code 2 (some .char) ws ({ frames := 3, cells := 0, slots := 0, locals := 40 } : Room) Z #[(.ref b54), (.int (0 : Int32))] h0 (Qrm71 Z w_CS w_SF ca b54 b55 k56 h0) := by
  refine own_start (plainFor_of_name pn_2) (fun m => ef_jdk_42_method_56_RI m b54 (0 : Int32)) ?_
  intro p e s m below meth c s₁ hx hby hml hown hnm X0 hZ e0 hret hlk
  have N0 := Fr.nil Z.heap.size
  obtain ⟨_, T75, Lc75, X75, hQ75, st75⟩ := own_virtual (y := y_10) X0 hx hZ hown (own_w hw 68 rfl) (own_w hw 69 rfl) (own_w hw 71 rfl) (own_w hw 70 rfl) (own_w hw 15 rfl) (own_w hw 72 rfl) (rm72 l Z a0 hw [] w_CS b54 h0 Z0 S_w_CS F_b54_coder hc1) e0 E_b54 (g := (mkF m 1 #[rv b54, iv (0 : Int32)] [(.ref b54)])) (argsL := []) (rest := []) (W := 0) (lenOf pd_8 rfl) (hb hby d14_1) hml
  obtain ⟨rfl, N75q, e75⟩ := hQ75
  have N75 := Fr.app N0 N75q
  obtain ⟨T76, X76, e76, st76⟩ := getF X75 hx hZ hown (host := "") (Or.inl (own_w hw 41 rfl)) Via.refl e75 F_b54_value (g := (mkF m 8 #[rv b54, iv (0 : Int32)] [(.ref b54)])) rfl rfl (hb hby d14_8)
  obtain ⟨_, T85, Lc85, X85, hQ85, st85⟩ := own_static (y := y_13) X76 hx hZ hown (own_w hw 73 rfl) (own_w hw 74 rfl) (own_w hw 75 rfl) (own_w hw 76 rfl) (rm77 l Z a0 hw [] w_SF ca b55 k56 h0 Z0 S_w_SF R_w_SF V_b55 hc42) e76 (g := (mkF m 12 #[rv b54, iv (0 : Int32)] [(.int (0 : Int32)), (.ref b55)])) (argsL := [(.ref b55), (.int (0 : Int32))]) (rest := []) (W := 0) (lenOf pd_11 rfl) (hb hby d14_12) hml
  obtain ⟨rfl, N85q, e85⟩ := hQ85
  have N85 := Fr.app N75 N85q
  obtain ⟨fs, hr, hrun, hended, hW, hsame⟩ := X85.leave (v := some (.int ca)) (fun h => by rw [hret] at h; cases h) hlk
  refine ⟨_, _, ?_, hrun, hended, _, _, rfl, ?_, ⟨_, rfl⟩, hW, hsame.mono (by decide) (by decide)⟩
  · show own_S p e below s₁ (mkF m 0 #[rv b54, iv (0 : Int32)] []) _
    refine own_aN X0 hx hby d14_0 ?_
    refine st75 _ ?_
    refine own_in X75 hx hby d14_4 (feq (by decide : ¬ ((1 : Int32) = (0 : Int32)))).1 ?_
    refine own_aN X75 hx hby d14_7 ?_
    refine st76 _ ?_
    refine own_iN X76 hx hby d14_11 ?_
    refine st85 _ ?_
    rw [← (own_nc hc42)] at hr
    exact retN X85 hx (t := .char) hret (by simp) (hb hby d14_15) hr
  · show Qrm71 Z w_CS w_SF ca b54 b55 k56 h0 _ T85.heap _
    rw [e85]
    exact ⟨rfl, N85, rfl⟩
def Qrm91 (Z : State) (w_CS : Int32) (b54 : Addr) (h0 : Heap) (v : Option Value) (h : Heap) (L : List Loc) : Prop := v = some (.int (0 : Int32)) ∧ Fr Z.heap.size L ∧ h = h0
theorem rm91 (l : Launch) (Z : State) (a0 : Array Value) (hw : own_HW Z a0) (ws : List Jvm.Cond) (w_CS : Int32) (b54 : Addr) (h0 : Heap) (Z0 : Ext Z.heap h0) (S_w_CS : own_w_CS Z w_CS) (F_b54_coder : Fld Z h0 b54 "java/lang/String" "coder" "B" (.int (0 : Int32))) (hc1 : ¬ (w_CS = (0 : Int32))) :
    own_met l y_15 jdk_42_method_152_code 1 (some .byte) ws ({ frames := 0, cells := 0, slots := 0, locals := 0 } : Room) Z #[(.ref b54)] h0 (Qrm91 Z w_CS b54 h0) := by
  refine own_start (plainFor_of_name pn_2) (fun m => ef_jdk_42_method_152_R m b54) ?_
  intro p e s m below meth c s₁ hx hby hml hown hnm X0 hZ e0 hret hlk
  have N0 := Fr.nil Z.heap.size
  obtain ⟨T92, X92, e92, st92⟩ := getS2 X0 hx hZ hown (host := "") (Or.inl (own_w hw 27 rfl)) Via.refl e0 (S_w_CS.ext Z0) (g := (mkF m 0 #[rv b54] [])) rfl (hb hby d20_0)
  obtain ⟨T93, X93, e93, st93⟩ := getF X92 hx hZ hown (host := "") (Or.inl (own_w hw 39 rfl)) Via.refl e92 F_b54_coder (g := (mkF m 7 #[rv b54] [(.ref b54)])) rfl rfl (hb hby d20_7)
  obtain ⟨fs, hr, hrun, hended, hW, hsame⟩ := X93.leave (v := some (.int (0 : Int32))) (fun h => by rw [hret] at h; cases h) hlk
  refine ⟨_, _, ?_, hrun, hended, _, _, rfl, ?_, ⟨_, rfl⟩, hW, hsame.mono (by decide) (by decide)⟩
  · show own_S p e below s₁ (mkF m 0 #[rv b54] []) _
    refine st92 _ ?_
    refine own_in X92 hx hby d20_3 (feq hc1).1 ?_
    refine own_aN X92 hx hby d20_6 ?_
    refine st93 _ ?_
    refine own_go (pc := 10) X93 hx hby d20_10 14 ?_
    exact retN X93 hx (t := .byte) hret (by simp) (hb hby d20_14) hr
  · show Qrm91 Z w_CS b54 h0 _ T93.heap _
    rw [e93]
    exact ⟨rfl, N0, rfl⟩
def Qrm88 (Z : State) (w_CS ca : Int32) (b54 b55 : Addr) (k56 : ClassId) (h0 : Heap) (v : Option Value) (h : Heap) (L : List Loc) : Prop := v = some (.int (1 : Int32)) ∧ Fr Z.heap.size L ∧ h = h0
theorem rm88 (l : Launch) (Z : State) (a0 : Array Value) (hw : own_HW Z a0) (ws : List Jvm.Cond) (w_CS ca : Int32) (b54 b55 : Addr) (k56 : ClassId) (h0 : Heap) (Z0 : Ext Z.heap h0) (S_w_CS : own_w_CS Z w_CS) (E_b54 : Exa Z h0 b54 "java/lang/String") (F_b54_coder : Fld Z h0 b54 "java/lang/String" "coder" "B" (.int (0 : Int32))) (F_b54_value : Fld Z h0 b54 "java/lang/String" "value" "[B" (.ref b55)) (V_b55 : Arv Z h0 b55 k56 .byte (1 : Int32) [(.int (ca.toInt8.toInt32))] (.int (0 : Int32))) (hc1 : ¬ (w_CS = (0 : Int32))) :
    own_met l y_16 jdk_42_method_54_code 1 (some .int) ws ({ frames := 1, cells := 0, slots := 0, locals := 13 } : Room) Z #[(.ref b54)] h0 (Qrm88 Z w_CS ca b54 b55 k56 h0) := by
  refine own_start (plainFor_of_name pn_2) (fun m => ef_jdk_42_method_54_R m b54) ?_
  intro p e s m below meth c s₁ hx hby hml hown hnm X0 hZ e0 hret hlk
  have N0 := Fr.nil Z.heap.size
  obtain ⟨T89, X89, e89, st89⟩ := getF X0 hx hZ hown (host := "") (Or.inl (own_w hw 41 rfl)) Via.refl e0 F_b54_value (g := (mkF m 1 #[rv b54] [(.ref b54)])) rfl rfl (hb hby d19_1)
  obtain ⟨cl90, Ar90, q90, S90, Nn90, H90, G90⟩ := id V_b55
  obtain ⟨_, T94, Lc94, X94, hQ94, st94⟩ := own_virtual (y := y_15) X89 hx hZ hown (own_w hw 90 rfl) (own_w hw 91 rfl) (own_w hw 93 rfl) (own_w hw 92 rfl) (own_w hw 15 rfl) (own_w hw 94 rfl) (rm91 l Z a0 hw [] w_CS b54 h0 Z0 S_w_CS F_b54_coder hc1) e89 E_b54 (g := (mkF m 6 #[rv b54] [(.ref b54), (.int (1 : Int32))])) (argsL := []) (rest := [(.int (1 : Int32))]) (W := 1) (lenOf pd_12 rfl) (hb hby d19_6) hml
  obtain ⟨rfl, N94q, e94⟩ := hQ94
  have N94 := Fr.app N0 N94q
  obtain ⟨fs, hr, hrun, hended, hW, hsame⟩ := X94.leave (v := some (.int (1 : Int32))) (fun h => by rw [hret] at h; cases h) hlk
  refine ⟨_, _, ?_, hrun, hended, _, _, rfl, ?_, ⟨_, rfl⟩, hW, hsame.mono (by decide) (by decide)⟩
  · show own_S p e below s₁ (mkF m 0 #[rv b54] []) _
    refine own_aN X0 hx hby d19_0 ?_
    refine st89 _ ?_
    refine X89.arraylength hx (by rw [e89]; exact Ar90.1) (State.isArrayOf_alike hZ.alike Ar90.2.1) (g := (mkF m 4 #[rv b54] [(.ref b55)])) rfl rfl (hb hby d19_4) _ ?_
    rw [len_of S90 Nn90]
    refine own_aN X89 hx hby d19_5 ?_
    refine st94 _ ?_
    refine XS.ishr X94.here hx rfl (hb hby d19_9) rfl ?_
    show own_S p e below T94 (mkF m 10 #[rv b54] [(.int ((1 : Int32) >>> ((0 : Int32) &&& 31)))]) _
    rw [(by decide : ((1 : Int32) >>> ((0 : Int32) &&& 31)) = (1 : Int32))]
    exact retI X94 hx hret (hb hby d19_10) hr
  · show Qrm88 Z w_CS ca b54 b55 k56 h0 _ T94.heap _
    rw [e94]
    exact ⟨rfl, N94, rfl⟩
def Qrm66 (Z : State) (w_CS : Int32) (w_SF : Value) (ca : Int32) (b54 b55 : Addr) (k56 : ClassId) (h0 : Heap) (v : Option Value) (h : Heap) (L : List Loc) : Prop := v = some (.int (1 : Int32)) ∧ Fr Z.heap.size L ∧ h = h0
theorem rm66 (l : Launch) (Z : State) (a0 : Array Value) (hw : own_HW Z a0) (ws : List Jvm.Cond) (w_CS : Int32) (w_SF : Value) (ca : Int32) (b54 b55 : Addr) (k56 : ClassId) (h0 : Heap) (Z0 : Ext Z.heap h0) (S_w_CS : own_w_CS Z w_CS) (S_w_SF : own_w_SF Z w_SF) (R_w_SF : w_SF.isRef = true) (E_b54 : Exa Z h0 b54 "java/lang/String") (F_b54_coder : Fld Z h0 b54 "java/lang/String" "coder" "B" (.int (0 : Int32))) (F_b54_value : Fld Z h0 b54 "java/lang/String" "value" "[B" (.ref b55)) (V_b55 : Arv Z h0 b55 k56 .byte (1 : Int32) [(.int (ca.toInt8.toInt32))] (.int (0 : Int32))) (hc1 : ¬ (w_CS = (0 : Int32))) (hc42 : own_ch ca) (hc45 : own_low ca) :
    own_met l y_17 prog_97_method_2_code 4 (some .boolean) ws ({ frames := 4, cells := 0, slots := 0, locals := 53 } : Room) Z #[(.ref b54)] h0 (Qrm66 Z w_CS w_SF ca b54 b55 k56 h0) := by
  refine own_start (plainFor_of_name pn_6) (fun m => ef_prog_97_method_2_R m b54) ?_
  intro p e s m below meth c s₁ hx hby hml hown hnm X0 hZ e0 hret hlk
  have N0 := Fr.nil Z.heap.size
  obtain ⟨_, T70, Lc70, X70, hQ70, st70⟩ := own_virtual (y := y_9) X0 hx hZ hown (own_w hw 58 rfl) (own_w hw 59 rfl) (own_w hw 61 rfl) (own_w hw 60 rfl) (own_w hw 15 rfl) (own_w hw 62 rfl) (rm67 l Z a0 hw [] ca b54 b55 k56 h0 Z0 F_b54_value V_b55) e0 E_b54 (g := (mkF m 1 #[rv b54, .unset, .unset, .unset] [(.ref b54)])) (argsL := []) (rest := []) (W := 0) (lenOf pd_8 rfl) (hb hby d12_1) hml
  obtain ⟨rfl, N70q, e70⟩ := hQ70
  have N70 := Fr.app N0 N70q
  obtain ⟨_, T86, Lc86, X86, hQ86, st86⟩ := own_virtual (y := y_14) X70 hx hZ hown (own_w hw 63 rfl) (own_w hw 64 rfl) (own_w hw 66 rfl) (own_w hw 65 rfl) (own_w hw 15 rfl) (own_w hw 67 rfl) (rm71 l Z a0 hw [] w_CS w_SF ca b54 b55 k56 h0 Z0 S_w_CS S_w_SF R_w_SF E_b54 F_b54_coder F_b54_value V_b55 hc1 hc42) e70 E_b54 (g := (mkF m 9 #[rv b54, .unset, .unset, .unset] [(.int (0 : Int32)), (.ref b54)])) (argsL := [(.int (0 : Int32))]) (rest := []) (W := 0) (lenOf pd_0 rfl) (hb hby d12_9) hml
  obtain ⟨rfl, N86q, e86⟩ := hQ86
  have N86 := Fr.app N70 N86q
  obtain ⟨_, T87, Lc87, X87, hQ87, st87⟩ := own_virtual (y := y_14) X86 hx hZ hown (own_w hw 63 rfl) (own_w hw 64 rfl) (own_w hw 66 rfl) (own_w hw 65 rfl) (own_w hw 15 rfl) (own_w hw 67 rfl) (rm71 l Z a0 hw [] w_CS w_SF ca b54 b55 k56 h0 Z0 S_w_CS S_w_SF R_w_SF E_b54 F_b54_coder F_b54_value V_b55 hc1 hc42) e86 E_b54 (g := (mkF m 19 #[rv b54, .unset, .unset, .unset] [(.int (0 : Int32)), (.ref b54)])) (argsL := [(.int (0 : Int32))]) (rest := []) (W := 0) (lenOf pd_0 rfl) (hb hby d12_19) hml
  obtain ⟨rfl, N87q, e87⟩ := hQ87
  have N87 := Fr.app N86 N87q
  obtain ⟨_, T95, Lc95, X95, hQ95, st95⟩ := own_virtual (y := y_16) X87 hx hZ hown (own_w hw 85 rfl) (own_w hw 86 rfl) (own_w hw 88 rfl) (own_w hw 87 rfl) (own_w hw 15 rfl) (own_w hw 89 rfl) (rm88 l Z a0 hw [] w_CS ca b54 b55 k56 h0 Z0 S_w_CS E_b54 F_b54_coder F_b54_value V_b55 hc1) e87 E_b54 (g := (mkF m 41 #[rv b54, iv (1 : Int32), iv (1 : Int32), .unset] [(.ref b54), (.int (1 : Int32))])) (argsL := []) (rest := [(.int (1 : Int32))]) (W := 1) (lenOf pd_13 rfl) (hb hby d12_41) hml
  obtain ⟨rfl, N95q, e95⟩ := hQ95
  have N95 := Fr.app N87 N95q
  obtain ⟨fs, hr, hrun, hended, hW, hsame⟩ := X95.leave (v := some (.int (1 : Int32))) (fun h => by rw [hret] at h; cases h) hlk
  refine ⟨_, _, ?_, hrun, hended, _, _, rfl, ?_, ⟨_, rfl⟩, hW, hsame.mono (by decide) (by decide)⟩
  · show own_S p e below s₁ (mkF m 0 #[rv b54, .unset, .unset, .unset] []) _
    refine own_aN X0 hx hby d12_0 ?_
    refine st70 _ ?_
    refine own_in X70 hx hby d12_4 (teq (rfl : (0 : Int32) = (0 : Int32))).2 ?_
    refine own_aN X70 hx hby d12_7 ?_
    refine own_k X70 hx hby d12_8 ?_
    refine st86 _ ?_
    refine XS.bipush X86.here hx rfl (hb hby d12_12) ?_
    refine own_cn X86 hx hby d12_14 (flt (own_low1 hc45)).1 ?_
    refine own_aN X86 hx hby d12_17 ?_
    refine own_k X86 hx hby d12_18 ?_
    refine st87 _ ?_
    refine XS.bipush X87.here hx rfl (hb hby d12_22) ?_
    refine own_cn X87 hx hby d12_24 (flt (own_low2 hc45)).2.2.1 ?_
    refine own_k X87 hx hby d12_27 ?_
    refine own_go (pc := 28) X87 hx hby d12_28 32 ?_
    refine XS.istoreN X87.here hx rfl (hb hby d12_32) rfl (l' := #[rv b54, iv (1 : Int32), .unset, .unset]) rfl ?_
    refine own_k X87 hx hby d12_33 ?_
    refine XS.istoreN X87.here hx rfl (hb hby d12_34) rfl (l' := #[rv b54, iv (1 : Int32), iv (1 : Int32), .unset]) rfl ?_
    refine own_iN X87 hx hby d12_35 ?_
    refine own_in X87 hx hby d12_36 (feq (by decide : ¬ ((1 : Int32) = (0 : Int32)))).1 ?_
    refine own_iN X87 hx hby d12_39 ?_
    refine own_aN X87 hx hby d12_40 ?_
    refine st95 _ ?_
    refine own_cy (pc := 44) X95 hx hby d12_44 (flt (Int32.lt_irrefl : ¬ ((1 : Int32) < (1 : Int32)))).2.1 101 ?_
    refine own_iN X95 hx hby d12_101 ?_
    exact retN X95 hx (t := .boolean) hret (by simp) (hb hby d12_102) hr
  · show Qrm66 Z w_CS w_SF ca b54 b55 k56 h0 _ T95.heap _
    rw [e95]
    exact ⟨rfl, N95, rfl⟩
def Qrm62 (Z : State) (w_CS : Int32) (w_SF : Value) (ca : Int32) (b54 b55 : Addr) (k56 : ClassId) (b61 : Addr) (h0 : Heap) (v : Option Value) (h : Heap) (L : List Loc) : Prop := v = none ∧ Fr Z.heap.size L ∧ Keep h0 h [b61] ∧ Exa Z h b61 "com/example/faretally/faretally/RefundRequest$Involuntary$Reason" ∧ Fld Z h b61 "com/example/faretally/faretally/RefundRequest$Involuntary$Reason" "written" "Ljava/lang/String;" (.ref b54)
theorem rm62 (l : Launch) (Z : State) (a0 : Array Value) (hw : own_HW Z a0) (ws : List Jvm.Cond) (w_CS : Int32) (w_SF : Value) (ca : Int32) (b54 b55 : Addr) (k56 : ClassId) (b61 : Addr) (h0 : Heap) (Z0 : Ext Z.heap h0) (S_w_CS : own_w_CS Z w_CS) (S_w_SF : own_w_SF Z w_SF) (R_w_SF : w_SF.isRef = true) (E_b61 : Exa Z h0 b61 "com/example/faretally/faretally/RefundRequest$Involuntary$Reason") (F_b61_written : Fld Z h0 b61 "com/example/faretally/faretally/RefundRequest$Involuntary$Reason" "written" "Ljava/lang/String;" .null) (E_b54 : Exa Z h0 b54 "java/lang/String") (F_b54_coder : Fld Z h0 b54 "java/lang/String" "coder" "B" (.int (0 : Int32))) (F_b54_value : Fld Z h0 b54 "java/lang/String" "value" "[B" (.ref b55)) (V_b55 : Arv Z h0 b55 k56 .byte (1 : Int32) [(.int (ca.toInt8.toInt32))] (.int (0 : Int32))) (g_b61 : Z.heap.size ≤ b61) (hc1 : ¬ (w_CS = (0 : Int32))) (hc42 : own_ch ca) (hc45 : own_low ca) :
    own_met l y_18 prog_97_method_1_code 2 none ws ({ frames := 5, cells := 0, slots := 0, locals := 68 } : Room) Z #[(.ref b61), (.ref b54)] h0 (Qrm62 Z w_CS w_SF ca b54 b55 k56 b61 h0) := by
  refine own_start (plainFor_of_name pn_6) (fun m => ef_prog_97_method_1_RR m b61 b54) ?_
  intro p e s m below meth c s₁ hx hby hml hown hnm X0 hZ e0 hret hlk
  have N0 := Fr.nil Z.heap.size
  obtain ⟨_, T65, Lc65, X65, hQ65, st65⟩ := own_special (y := y_8) X0 hx hZ hown rfl (own_w hw 49 rfl) (own_w hw 50 rfl) (own_w hw 52 rfl) (own_w hw 53 rfl) (rm63 l Z a0 hw [] b61 h0 Z0 ) e0 b61 (g := (mkF m 1 #[rv b61, rv b54] [(.ref b61)])) (argsL := []) (rest := []) (W := 0) (lenOf pd_7 rfl) (hb hby d10_1) hml
  obtain ⟨rfl, N65q, e65⟩ := hQ65
  have N65 := Fr.app N0 N65q
  obtain ⟨_, T96, Lc96, X96, hQ96, st96⟩ := own_static (y := y_17) X65 hx hZ hown (own_w hw 55 rfl) (own_w hw 56 rfl) (own_w hw 45 rfl) (own_w hw 57 rfl) (rm66 l Z a0 hw [] w_CS w_SF ca b54 b55 k56 h0 Z0 S_w_CS S_w_SF R_w_SF E_b54 F_b54_coder F_b54_value V_b55 hc1 hc42 hc45) e65 (g := (mkF m 5 #[rv b61, rv b54] [(.ref b54)])) (argsL := [(.ref b54)]) (rest := []) (W := 0) (lenOf pd_14 rfl) (hb hby d10_5) hml
  obtain ⟨rfl, N96q, e96⟩ := hQ96
  have N96 := Fr.app N65 N96q
  obtain ⟨T97, h97, X97, e97, W97, st97⟩ := putF X96 hx hZ hown (host := "") (Or.inl (own_w hw 95 rfl)) Via.refl e96 F_b61_written E_b61 (Or.inr ⟨(own_w hw 96 rfl), rfl, hnm⟩) (own_w hw 44 rfl) (ty := (.object "java/lang/String")) (by decide) rfl rfl (g := (mkF m 30 #[rv b61, rv b54] [(.ref b54), (.ref b61)])) rfl rfl (hb hby d10_30)
  have K97 : Keep h0 h97 [b61] := (Keep.refl h0 [b61]).wr W97 (Or.inl (List.mem_of_getElem? (i := 0) rfl))
  have XX97 : Ext Z.heap h97 := own_extW Z0 W97 g_b61
  have N97 := Fr.snoc X97 N96 g_b61
  obtain ⟨fs, hr, hrun, hended, hW, hsame⟩ := X97.leave (v := none) (fun _ => rfl) hlk
  refine ⟨_, _, ?_, hrun, hended, _, _, rfl, ?_, ⟨_, rfl⟩, hW, hsame.mono (by decide) (by decide)⟩
  · show own_S p e below s₁ (mkF m 0 #[rv b61, rv b54] []) _
    refine own_aN X0 hx hby d10_0 ?_
    refine st65 _ ?_
    refine own_aN X65 hx hby d10_4 ?_
    refine st96 _ ?_
    refine own_iy (pc := 8) X96 hx hby d10_8 (feq (by decide : ¬ ((1 : Int32) = (0 : Int32)))).2 28 ?_
    refine own_aN X96 hx hby d10_28 ?_
    refine own_aN X96 hx hby d10_29 ?_
    refine st97 _ ?_
    exact X97.returnOut hx hret (hb hby d10_33) hr
  · show Qrm62 Z w_CS w_SF ca b54 b55 k56 b61 h0 _ T97.heap _
    rw [e97]
    exact ⟨rfl, N97, K97, (E_b61.wr W97), (F_b61_written.same W97)⟩
def Qrm117 (Z : State) (ca da : Int32) (b55 : Addr) (k56 : ClassId) (b59 : Addr) (k60 : ClassId) (h0 : Heap) (v : Option Value) (h : Heap) (L : List Loc) : Prop := v = some (.int (0 : Int32)) ∧ Fr Z.heap.size L ∧ h = h0
theorem rm117 (l : Launch) (Z : State) (a0 : Array Value) (hw : own_HW Z a0) (ws : List Jvm.Cond) (ca da : Int32) (b55 : Addr) (k56 : ClassId) (b59 : Addr) (k60 : ClassId) (h0 : Heap) (Z0 : Ext Z.heap h0) (V_b55 : Arv Z h0 b55 k56 .byte (1 : Int32) [(.int (ca.toInt8.toInt32))] (.int (0 : Int32))) (V_b59 : Arv Z h0 b59 k60 .byte (1 : Int32) [(.int (da.toInt8.toInt32))] (.int (0 : Int32))) (hc48 : ¬ ((ca.toInt8.toInt32) = (da.toInt8.toInt32))) :
    own_met l y_19 jdk_43_method_13_code 3 (some .boolean) ws ({ frames := 0, cells := 0, slots := 0, locals := 0 } : Room) Z #[(.ref b55), (.ref b59)] h0 (Qrm117 Z ca da b55 k56 b59 k60 h0) := by
  refine own_start (plainFor_of_name pn_5) (fun m => ef_jdk_43_method_13_RR m b55 b59) ?_
  intro p e s m below meth c s₁ hx hby hml hown hnm X0 hZ e0 hret hlk
  have N0 := Fr.nil Z.heap.size
  obtain ⟨cl118, Ar118, q118, S118, Nn118, H118, G118⟩ := id V_b55
  obtain ⟨cl119, Ar119, q119, S119, Nn119, H119, G119⟩ := id V_b59
  obtain ⟨cl120, Ar120, q120, S120, Nn120, H120, G120⟩ := id V_b55
  obtain ⟨cl121, Ar121, q121, S121, Nn121, H121, G121⟩ := id V_b55
  have hin121 : ¬ ((0 : Int32) < 0 ∨ cl121.slots.size ≤ ((0 : Int32)).toNatClampNeg) := inb_of S121 ⟨by decide, by decide⟩
  have hat121 : cl121.slots[((0 : Int32)).toNatClampNeg]? = some (.int (ca.toInt8.toInt32)) := Has.at H121 hin121 rfl
  obtain ⟨cl122, Ar122, q122, S122, Nn122, H122, G122⟩ := id V_b59
  have hin122 : ¬ ((0 : Int32) < 0 ∨ cl122.slots.size ≤ ((0 : Int32)).toNatClampNeg) := inb_of S122 ⟨by decide, by decide⟩
  have hat122 : cl122.slots[((0 : Int32)).toNatClampNeg]? = some (.int (da.toInt8.toInt32)) := Has.at H122 hin122 rfl
  obtain ⟨fs, hr, hrun, hended, hW, hsame⟩ := X0.leave (v := some (.int (0 : Int32))) (fun h => by rw [hret] at h; cases h) hlk
  refine ⟨_, _, ?_, hrun, hended, _, _, rfl, ?_, ⟨_, rfl⟩, hW, hsame.mono (by decide) (by decide)⟩
  · show own_S p e below s₁ (mkF m 0 #[rv b55, rv b59, .unset] []) _
    refine own_aN X0 hx hby d23_0 ?_
    refine X0.arraylength hx (by rw [e0]; exact Ar118.1) (State.isArrayOf_alike hZ.alike Ar118.2.1) (g := (mkF m 1 #[rv b55, rv b59, .unset] [(.ref b55)])) rfl rfl (hb hby d23_1) _ ?_
    rw [len_of S118 Nn118]
    refine own_aN X0 hx hby d23_2 ?_
    refine X0.arraylength hx (by rw [e0]; exact Ar119.1) (State.isArrayOf_alike hZ.alike Ar119.2.1) (g := (mkF m 3 #[rv b55, rv b59, .unset] [(.ref b59), (.int (1 : Int32))])) rfl rfl (hb hby d23_3) _ ?_
    rw [len_of S119 Nn119]
    refine own_cn X0 hx hby d23_4 (teq (rfl : (1 : Int32) = (1 : Int32))).2 ?_
    refine own_k X0 hx hby d23_7 ?_
    refine XS.istoreN X0.here hx rfl (hb hby d23_8) rfl (l' := #[rv b55, rv b59, iv (0 : Int32)]) rfl ?_
    refine own_iN X0 hx hby d23_9 ?_
    refine own_aN X0 hx hby d23_10 ?_
    refine X0.arraylength hx (by rw [e0]; exact Ar120.1) (State.isArrayOf_alike hZ.alike Ar120.2.1) (g := (mkF m 11 #[rv b55, rv b59, iv (0 : Int32)] [(.ref b55), (.int (0 : Int32))])) rfl rfl (hb hby d23_11) _ ?_
    rw [len_of S120 Nn120]
    refine own_cn X0 hx hby d23_12 (tlt (by decide : (0 : Int32) < (1 : Int32))).2.1 ?_
    refine own_aN X0 hx hby d23_15 ?_
    refine own_iN X0 hx hby d23_16 ?_
    refine X0.baloadBytes hx (j := (0 : Int32)) (v := (.int (ca.toInt8.toInt32))) (by rw [e0]; exact Ar121.1) (State.isArrayOf_alike hZ.alike Ar121.2.1) Ar121.2.2 hin121 hat121 (g := (mkF m 17 #[rv b55, rv b59, iv (0 : Int32)] [(.int (0 : Int32)), (.ref b55)])) rfl rfl (hb hby d23_17) _ ?_
    refine own_aN X0 hx hby d23_18 ?_
    refine own_iN X0 hx hby d23_19 ?_
    refine X0.baloadBytes hx (j := (0 : Int32)) (v := (.int (da.toInt8.toInt32))) (by rw [e0]; exact Ar122.1) (State.isArrayOf_alike hZ.alike Ar122.2.1) Ar122.2.2 hin122 hat122 (g := (mkF m 20 #[rv b55, rv b59, iv (0 : Int32)] [(.int (0 : Int32)), (.ref b59), (.int (ca.toInt8.toInt32))])) rfl rfl (hb hby d23_20) _ ?_
    refine own_cn X0 hx hby d23_21 (feq hc48).1 ?_
    refine own_k X0 hx hby d23_24 ?_
    exact retN X0 hx (t := .boolean) hret (by simp) (hb hby d23_25) hr
  · show Qrm117 Z ca da b55 k56 b59 k60 h0 _ s₁.heap _
    rw [e0]
    exact ⟨rfl, N0, rfl⟩
def Qrm109 (Z : State) (w_CS ca da : Int32) (b54 b55 : Addr) (k56 : ClassId) (b58 b59 : Addr) (k60 : ClassId) (h0 : Heap) (v : Option Value) (h : Heap) (L : List Loc) : Prop := v = some (.int (0 : Int32)) ∧ Fr Z.heap.size L ∧ h = h0
theorem rm109 (l : Launch) (Z : State) (a0 : Array Value) (hw : own_HW Z a0) (ws : List Jvm.Cond) (w_CS ca da : Int32) (b54 b55 : Addr) (k56 : ClassId) (b58 b59 : Addr) (k60 : ClassId) (h0 : Heap) (Z0 : Ext Z.heap h0) (S_w_CS : own_w_CS Z w_CS) (F_b54_coder : Fld Z h0 b54 "java/lang/String" "coder" "B" (.int (0 : Int32))) (F_b54_value : Fld Z h0 b54 "java/lang/String" "value" "[B" (.ref b55)) (E_b58 : Exa Z h0 b58 "java/lang/String") (F_b58_coder : Fld Z h0 b58 "java/lang/String" "coder" "B" (.int (0 : Int32))) (F_b58_value : Fld Z h0 b58 "java/lang/String" "value" "[B" (.ref b59)) (V_b55 : Arv Z h0 b55 k56 .byte (1 : Int32) [(.int (ca.toInt8.toInt32))] (.int (0 : Int32))) (V_b59 : Arv Z h0 b59 k60 .byte (1 : Int32) [(.int (da.toInt8.toInt32))] (.int (0 : Int32))) (hc47 : b54 ≠ b58) (hc1 : ¬ (w_CS = (0 : Int32))) (hc48 : ¬ ((ca.toInt8.toInt32) = (da.toInt8.toInt32))) :
    own_met l y_20 jdk_42_method_66_code 3 (some .boolean) ws ({ frames := 1, cells := 0, slots := 0, locals := 14 } : Room) Z #[(.ref b54), (.ref b58)] h0 (Qrm109 Z w_CS ca da b54 b55 k56 b58 b59 k60 h0) := by
  refine own_start (plainFor_of_name pn_2) (fun m => ef_jdk_42_method_66_RR m b54 b58) ?_
  intro p e s m below meth c s₁ hx hby hml hown hnm X0 hZ e0 hret hlk
  have N0 := Fr.nil Z.heap.size
  obtain ⟨T110, X110, e110, st110⟩ := instY X0 hx hZ hown (own_w hw 109 rfl) e0 (Ins.self E_b58) (g := (mkF m 8 #[rv b54, rv b58, .unset] [(.ref b58)])) rfl rfl (hb hby d22_8)
  obtain ⟨T111, X111, e111, st111⟩ := castY X110 hx hZ hown (own_w hw 109 rfl) e110 (Ins.self E_b58) (g := (mkF m 15 #[rv b54, rv b58, .unset] [(.ref b58)])) rfl rfl (hb hby d22_15)
  obtain ⟨T112, X112, e112, st112⟩ := getS2 X111 hx hZ hown (host := "") (Or.inl (own_w hw 27 rfl)) Via.refl e111 (S_w_CS.ext Z0) (g := (mkF m 19 #[rv b54, rv b58, rv b58] [])) rfl (hb hby d22_19)
  obtain ⟨T113, X113, e113, st113⟩ := getF X112 hx hZ hown (host := "") (Or.inl (own_w hw 39 rfl)) Via.refl e112 F_b54_coder (g := (mkF m 26 #[rv b54, rv b58, rv b58] [(.ref b54)])) rfl rfl (hb hby d22_26)
  obtain ⟨T114, X114, e114, st114⟩ := getF X113 hx hZ hown (host := "") (Or.inl (own_w hw 39 rfl)) Via.refl e113 F_b58_coder (g := (mkF m 30 #[rv b54, rv b58, rv b58] [(.ref b58), (.int (0 : Int32))])) rfl rfl (hb hby d22_30)
  obtain ⟨T115, X115, e115, st115⟩ := getF X114 hx hZ hown (host := "") (Or.inl (own_w hw 41 rfl)) Via.refl e114 F_b54_value (g := (mkF m 37 #[rv b54, rv b58, rv b58] [(.ref b54)])) rfl rfl (hb hby d22_37)
  obtain ⟨T116, X116, e116, st116⟩ := getF X115 hx hZ hown (host := "") (Or.inl (own_w hw 41 rfl)) Via.refl e115 F_b58_value (g := (mkF m 41 #[rv b54, rv b58, rv b58] [(.ref b58), (.ref b55)])) rfl rfl (hb hby d22_41)
  obtain ⟨_, T123, Lc123, X123, hQ123, st123⟩ := own_static (y := y_19) X116 hx hZ hown (own_w hw 110 rfl) (own_w hw 111 rfl) (own_w hw 75 rfl) (own_w hw 112 rfl) (rm117 l Z a0 hw [] ca da b55 k56 b59 k60 h0 Z0 V_b55 V_b59 hc48) e116 (g := (mkF m 44 #[rv b54, rv b58, rv b58] [(.ref b59), (.ref b55)])) (argsL := [(.ref b55), (.ref b59)]) (rest := []) (W := 0) (lenOf pd_16 rfl) (hb hby d22_44) hml
  obtain ⟨rfl, N123q, e123⟩ := hQ123
  have N123 := Fr.app N0 N123q
  obtain ⟨fs, hr, hrun, hended, hW, hsame⟩ := X123.leave (v := some (.int (0 : Int32))) (fun h => by rw [hret] at h; cases h) hlk
  refine ⟨_, _, ?_, hrun, hended, _, _, rfl, ?_, ⟨_, rfl⟩, hW, hsame.mono (by decide) (by decide)⟩
  · show own_S p e below s₁ (mkF m 0 #[rv b54, rv b58, .unset] []) _
    refine own_aN X0 hx hby d22_0 ?_
    refine own_aN X0 hx hby d22_1 ?_
    refine Jvm.RoadKit.acmp (g := (mkF m 2 #[rv b54, rv b58, .unset] [(.ref b58), (.ref b54)])) X0 hx rfl rfl rfl (pc0 := 2) (pc' := 7) (same := false) rfl (hb hby d22_2) rfl (decide_eq_false fun q => hc47 (Value.ref.inj q)) (by decide) (by decide) ?_
    refine own_aN X0 hx hby d22_7 ?_
    refine st110 _ ?_
    refine own_in X110 hx hby d22_11 (feq (by decide : ¬ ((1 : Int32) = (0 : Int32)))).1 ?_
    refine own_aN X110 hx hby d22_14 ?_
    refine st111 _ ?_
    refine XS.astoreN X111.here hx rfl (hb hby d22_18) rfl rfl (l' := #[rv b54, rv b58, rv b58]) rfl ?_
    refine st112 _ ?_
    refine own_in X112 hx hby d22_22 (feq hc1).1 ?_
    refine own_aN X112 hx hby d22_25 ?_
    refine st113 _ ?_
    refine own_aN X113 hx hby d22_29 ?_
    refine st114 _ ?_
    refine own_cn X114 hx hby d22_33 (teq (rfl : (0 : Int32) = (0 : Int32))).2 ?_
    refine own_aN X114 hx hby d22_36 ?_
    refine st115 _ ?_
    refine own_aN X115 hx hby d22_40 ?_
    refine st116 _ ?_
    refine st123 _ ?_
    refine own_iy (pc := 47) X123 hx hby d22_47 (teq (rfl : (0 : Int32) = (0 : Int32))).1 54 ?_
    refine own_k X123 hx hby d22_54 ?_
    exact retN X123 hx (t := .boolean) hret (by simp) (hb hby d22_55) hr
  · show Qrm109 Z w_CS ca da b54 b55 k56 b58 b59 k60 h0 _ T123.heap _
    rw [e123]
    exact ⟨rfl, N123, rfl⟩
def Qrm104 (Z : State) (w_CS ca da : Int32) (b54 b55 : Addr) (k56 : ClassId) (b58 b59 : Addr) (k60 : ClassId) (b61 b99 : Addr) (h0 : Heap) (v : Option Value) (h : Heap) (L : List Loc) : Prop := v = some (.int (0 : Int32)) ∧ Fr Z.heap.size L ∧ h = h0
theorem rm104 (l : Launch) (Z : State) (a0 : Array Value) (hw : own_HW Z a0) (ws : List Jvm.Cond) (w_CS ca da : Int32) (b54 b55 : Addr) (k56 : ClassId) (b58 b59 : Addr) (k60 : ClassId) (b61 b99 : Addr) (h0 : Heap) (Z0 : Ext Z.heap h0) (S_w_CS : own_w_CS Z w_CS) (F_b61_written : Fld Z h0 b61 "com/example/faretally/faretally/RefundRequest$Involuntary$Reason" "written" "Ljava/lang/String;" (.ref b54)) (E_b99 : Exa Z h0 b99 "com/example/faretally/faretally/RefundRequest$Involuntary$Reason") (F_b99_written : Fld Z h0 b99 "com/example/faretally/faretally/RefundRequest$Involuntary$Reason" "written" "Ljava/lang/String;" (.ref b58)) (E_b54 : Exa Z h0 b54 "java/lang/String") (F_b54_coder : Fld Z h0 b54 "java/lang/String" "coder" "B" (.int (0 : Int32))) (F_b54_value : Fld Z h0 b54 "java/lang/String" "value" "[B" (.ref b55)) (E_b58 : Exa Z h0 b58 "java/lang/String") (F_b58_coder : Fld Z h0 b58 "java/lang/String" "coder" "B" (.int (0 : Int32))) (F_b58_value : Fld Z h0 b58 "java/lang/String" "value" "[B" (.ref b59)) (V_b55 : Arv Z h0 b55 k56 .byte (1 : Int32) [(.int (ca.toInt8.toInt32))] (.int (0 : Int32))) (V_b59 : Arv Z h0 b59 k60 .byte (1 : Int32) [(.int (da.toInt8.toInt32))] (.int (0 : Int32))) (hc47 : b54 ≠ b58) (hc1 : ¬ (w_CS = (0 : Int32))) (hc48 : ¬ ((ca.toInt8.toInt32) = (da.toInt8.toInt32))) :
    own_met l y_21 prog_97_method_3_code 3 (some .boolean) ws ({ frames := 2, cells := 0, slots := 0, locals := 28 } : Room) Z #[(.ref b61), (.ref b99)] h0 (Qrm104 Z w_CS ca da b54 b55 k56 b58 b59 k60 b61 b99 h0) := by
  refine own_start (plainFor_of_name pn_6) (fun m => ef_prog_97_method_3_RR m b61 b99) ?_
  intro p e s m below meth c s₁ hx hby hml hown hnm X0 hZ e0 hret hlk
  have N0 := Fr.nil Z.heap.size
  obtain ⟨T105, X105, e105, st105⟩ := instY X0 hx hZ hown (own_w hw 102 rfl) e0 (Ins.self E_b99) (g := (mkF m 1 #[rv b61, rv b99, .unset] [(.ref b99)])) rfl rfl (hb hby d21_1)
  obtain ⟨T106, X106, e106, st106⟩ := castY X105 hx hZ hown (own_w hw 102 rfl) e105 (Ins.self E_b99) (g := (mkF m 8 #[rv b61, rv b99, .unset] [(.ref b99)])) rfl rfl (hb hby d21_8)
  obtain ⟨T107, X107, e107, st107⟩ := getF X106 hx hZ hown (host := "") (Or.inl (own_w hw 95 rfl)) Via.refl e106 F_b61_written (g := (mkF m 13 #[rv b61, rv b99, rv b99] [(.ref b61)])) rfl rfl (hb hby d21_13)
  obtain ⟨T108, X108, e108, st108⟩ := getF X107 hx hZ hown (host := "") (Or.inl (own_w hw 95 rfl)) Via.refl e107 F_b99_written (g := (mkF m 17 #[rv b61, rv b99, rv b99] [(.ref b99), (.ref b54)])) rfl rfl (hb hby d21_17)
  obtain ⟨_, T124, Lc124, X124, hQ124, st124⟩ := own_virtual (y := y_20) X108 hx hZ hown (own_w hw 104 rfl) (own_w hw 105 rfl) (own_w hw 107 rfl) (own_w hw 106 rfl) (own_w hw 15 rfl) (own_w hw 108 rfl) (rm109 l Z a0 hw [] w_CS ca da b54 b55 k56 b58 b59 k60 h0 Z0 S_w_CS F_b54_coder F_b54_value E_b58 F_b58_coder F_b58_value V_b55 V_b59 hc47 hc1 hc48) e108 E_b54 (g := (mkF m 20 #[rv b61, rv b99, rv b99] [(.ref b58), (.ref b54)])) (argsL := [(.ref b58)]) (rest := []) (W := 0) (lenOf pd_17 rfl) (hb hby d21_20) hml
  obtain ⟨rfl, N124q, e124⟩ := hQ124
  have N124 := Fr.app N0 N124q
  obtain ⟨fs, hr, hrun, hended, hW, hsame⟩ := X124.leave (v := some (.int (0 : Int32))) (fun h => by rw [hret] at h; cases h) hlk
  refine ⟨_, _, ?_, hrun, hended, _, _, rfl, ?_, ⟨_, rfl⟩, hW, hsame.mono (by decide) (by decide)⟩
  · show own_S p e below s₁ (mkF m 0 #[rv b61, rv b99, .unset] []) _
    refine own_aN X0 hx hby d21_0 ?_
    refine st105 _ ?_
    refine own_in X105 hx hby d21_4 (feq (by decide : ¬ ((1 : Int32) = (0 : Int32)))).1 ?_
    refine own_aN X105 hx hby d21_7 ?_
    refine st106 _ ?_
    refine XS.astoreN X106.here hx rfl (hb hby d21_11) rfl rfl (l' := #[rv b61, rv b99, rv b99]) rfl ?_
    refine own_aN X106 hx hby d21_12 ?_
    refine st107 _ ?_
    refine own_aN X107 hx hby d21_16 ?_
    refine st108 _ ?_
    refine st124 _ ?_
    refine own_iy (pc := 23) X124 hx hby d21_23 (teq (rfl : (0 : Int32) = (0 : Int32))).1 30 ?_
    refine own_k X124 hx hby d21_30 ?_
    exact retN X124 hx (t := .boolean) hret (by simp) (hb hby d21_31) hr
  · show Qrm104 Z w_CS ca da b54 b55 k56 b58 b59 k60 b61 b99 h0 _ T124.heap _
    rw [e124]
    exact ⟨rfl, N124, rfl⟩
def Qrm137 (Z : State) (b54 : Addr) (h0 : Heap) (v : Option Value) (h : Heap) (L : List Loc) : Prop := v = some (.int (1 : Int32)) ∧ Fr Z.heap.size L ∧ h = h0
theorem rm137 (l : Launch) (Z : State) (a0 : Array Value) (hw : own_HW Z a0) (ws : List Jvm.Cond) (b54 : Addr) (h0 : Heap) (Z0 : Ext Z.heap h0) :
    own_met l y_20 jdk_42_method_66_code 3 (some .boolean) ws ({ frames := 0, cells := 0, slots := 0, locals := 0 } : Room) Z #[(.ref b54), (.ref b54)] h0 (Qrm137 Z b54 h0) := by
  refine own_start (plainFor_of_name pn_2) (fun m => ef_jdk_42_method_66_RR m b54 b54) ?_
  intro p e s m below meth c s₁ hx hby hml hown hnm X0 hZ e0 hret hlk
  have N0 := Fr.nil Z.heap.size
  obtain ⟨fs, hr, hrun, hended, hW, hsame⟩ := X0.leave (v := some (.int (1 : Int32))) (fun h => by rw [hret] at h; cases h) hlk
  refine ⟨_, _, ?_, hrun, hended, _, _, rfl, ?_, ⟨_, rfl⟩, hW, hsame.mono (by decide) (by decide)⟩
  · show own_S p e below s₁ (mkF m 0 #[rv b54, rv b54, .unset] []) _
    refine own_aN X0 hx hby d22_0 ?_
    refine own_aN X0 hx hby d22_1 ?_
    refine Jvm.RoadKit.acmp (g := (mkF m 2 #[rv b54, rv b54, .unset] [(.ref b54), (.ref b54)])) X0 hx rfl rfl rfl (pc0 := 2) (pc' := 5) (same := true) rfl (hb hby d22_2) rfl (decide_eq_true rfl) (by decide) (by decide) ?_
    refine own_k X0 hx hby d22_5 ?_
    exact retN X0 hx (t := .boolean) hret (by simp) (hb hby d22_6) hr
  · show Qrm137 Z b54 h0 _ s₁.heap _
    rw [e0]
    exact ⟨rfl, N0, rfl⟩
def Qrm132 (Z : State) (b54 b61 : Addr) (h0 : Heap) (v : Option Value) (h : Heap) (L : List Loc) : Prop := v = some (.int (1 : Int32)) ∧ Fr Z.heap.size L ∧ h = h0
theorem rm132 (l : Launch) (Z : State) (a0 : Array Value) (hw : own_HW Z a0) (ws : List Jvm.Cond) (b54 b61 : Addr) (h0 : Heap) (Z0 : Ext Z.heap h0) (E_b61 : Exa Z h0 b61 "com/example/faretally/faretally/RefundRequest$Involuntary$Reason") (F_b61_written : Fld Z h0 b61 "com/example/faretally/faretally/RefundRequest$Involuntary$Reason" "written" "Ljava/lang/String;" (.ref b54)) (E_b54 : Exa Z h0 b54 "java/lang/String") :
    own_met l y_21 prog_97_method_3_code 3 (some .boolean) ws ({ frames := 1, cells := 0, slots := 0, locals := 14 } : Room) Z #[(.ref b61), (.ref b61)] h0 (Qrm132 Z b54 b61 h0) := by
  refine own_start (plainFor_of_name pn_6) (fun m => ef_prog_97_method_3_RR m b61 b61) ?_
  intro p e s m below meth c s₁ hx hby hml hown hnm X0 hZ e0 hret hlk
  have N0 := Fr.nil Z.heap.size
  obtain ⟨T133, X133, e133, st133⟩ := instY X0 hx hZ hown (own_w hw 102 rfl) e0 (Ins.self E_b61) (g := (mkF m 1 #[rv b61, rv b61, .unset] [(.ref b61)])) rfl rfl (hb hby d21_1)
  obtain ⟨T134, X134, e134, st134⟩ := castY X133 hx hZ hown (own_w hw 102 rfl) e133 (Ins.self E_b61) (g := (mkF m 8 #[rv b61, rv b61, .unset] [(.ref b61)])) rfl rfl (hb hby d21_8)
  obtain ⟨T135, X135, e135, st135⟩ := getF X134 hx hZ hown (host := "") (Or.inl (own_w hw 95 rfl)) Via.refl e134 F_b61_written (g := (mkF m 13 #[rv b61, rv b61, rv b61] [(.ref b61)])) rfl rfl (hb hby d21_13)
  obtain ⟨T136, X136, e136, st136⟩ := getF X135 hx hZ hown (host := "") (Or.inl (own_w hw 95 rfl)) Via.refl e135 F_b61_written (g := (mkF m 17 #[rv b61, rv b61, rv b61] [(.ref b61), (.ref b54)])) rfl rfl (hb hby d21_17)
  obtain ⟨_, T138, Lc138, X138, hQ138, st138⟩ := own_virtual (y := y_20) X136 hx hZ hown (own_w hw 104 rfl) (own_w hw 105 rfl) (own_w hw 107 rfl) (own_w hw 106 rfl) (own_w hw 15 rfl) (own_w hw 108 rfl) (rm137 l Z a0 hw [] b54 h0 Z0 ) e136 E_b54 (g := (mkF m 20 #[rv b61, rv b61, rv b61] [(.ref b54), (.ref b54)])) (argsL := [(.ref b54)]) (rest := []) (W := 0) (lenOf pd_17 rfl) (hb hby d21_20) hml
  obtain ⟨rfl, N138q, e138⟩ := hQ138
  have N138 := Fr.app N0 N138q
  obtain ⟨fs, hr, hrun, hended, hW, hsame⟩ := X138.leave (v := some (.int (1 : Int32))) (fun h => by rw [hret] at h; cases h) hlk
  refine ⟨_, _, ?_, hrun, hended, _, _, rfl, ?_, ⟨_, rfl⟩, hW, hsame.mono (by decide) (by decide)⟩
  · show own_S p e below s₁ (mkF m 0 #[rv b61, rv b61, .unset] []) _
    refine own_aN X0 hx hby d21_0 ?_
    refine st133 _ ?_
    refine own_in X133 hx hby d21_4 (feq (by decide : ¬ ((1 : Int32) = (0 : Int32)))).1 ?_
    refine own_aN X133 hx hby d21_7 ?_
    refine st134 _ ?_
    refine XS.astoreN X134.here hx rfl (hb hby d21_11) rfl rfl (l' := #[rv b61, rv b61, rv b61]) rfl ?_
    refine own_aN X134 hx hby d21_12 ?_
    refine st135 _ ?_
    refine own_aN X135 hx hby d21_16 ?_
    refine st136 _ ?_
    refine st138 _ ?_
    refine own_in X138 hx hby d21_23 (feq (by decide : ¬ ((1 : Int32) = (0 : Int32)))).1 ?_
    refine own_k X138 hx hby d21_26 ?_
    refine own_go (pc := 27) X138 hx hby d21_27 31 ?_
    exact retN X138 hx (t := .boolean) hret (by simp) (hb hby d21_31) hr
  · show Qrm132 Z b54 b61 h0 _ T138.heap _
    rw [e138]
    exact ⟨rfl, N138, rfl⟩
def Qrm140 (Z : State) (b54 b61 : Addr) (h0 : Heap) (v : Option Value) (h : Heap) (L : List Loc) : Prop := v = some (.int (0 : Int32)) ∧ Fr Z.heap.size L ∧ h = h0
theorem rm140 (l : Launch) (Z : State) (a0 : Array Value) (hw : own_HW Z a0) (ws : List Jvm.Cond) (b54 b61 : Addr) (h0 : Heap) (Z0 : Ext Z.heap h0) (E_b54 : Exa Z h0 b54 "java/lang/String") :
    own_met l y_21 prog_97_method_3_code 3 (some .boolean) ws ({ frames := 0, cells := 0, slots := 0, locals := 0 } : Room) Z #[(.ref b61), (.ref b54)] h0 (Qrm140 Z b54 b61 h0) := by
  refine own_start (plainFor_of_name pn_6) (fun m => ef_prog_97_method_3_RR m b61 b54) ?_
  intro p e s m below meth c s₁ hx hby hml hown hnm X0 hZ e0 hret hlk
  have N0 := Fr.nil Z.heap.size
  obtain ⟨T141, X141, e141, st141⟩ := instNo X0 hx hZ hown (own_w hw 102 rfl) e0 E_b54 (own_nsNo (own_w hw 113 rfl) (own_w hw 44 rfl) (NS.step (own_w hw 113 rfl) (own_nsRoot (own_w hw 114 rfl) (own_w hw 44 rfl) (by decide)) (by decide)) (by decide)) (g := (mkF m 1 #[rv b61, rv b54, .unset] [(.ref b54)])) rfl rfl (hb hby d21_1)
  obtain ⟨fs, hr, hrun, hended, hW, hsame⟩ := X141.leave (v := some (.int (0 : Int32))) (fun h => by rw [hret] at h; cases h) hlk
  refine ⟨_, _, ?_, hrun, hended, _, _, rfl, ?_, ⟨_, rfl⟩, hW, hsame.mono (by decide) (by decide)⟩
  · show own_S p e below s₁ (mkF m 0 #[rv b61, rv b54, .unset] []) _
    refine own_aN X0 hx hby d21_0 ?_
    refine st141 _ ?_
    refine own_iy (pc := 4) X141 hx hby d21_4 (teq (rfl : (0 : Int32) = (0 : Int32))).1 30 ?_
    refine own_k X141 hx hby d21_30 ?_
    exact retN X141 hx (t := .boolean) hret (by simp) (hb hby d21_31) hr
  · show Qrm140 Z b54 b61 h0 _ T141.heap _
    rw [e141]
    exact ⟨rfl, N0, rfl⟩
def Qrm143 (Z : State) (b61 : Addr) (h0 : Heap) (v : Option Value) (h : Heap) (L : List Loc) : Prop := v = some (.int (0 : Int32)) ∧ Fr Z.heap.size L ∧ h = h0
theorem rm143 (l : Launch) (Z : State) (a0 : Array Value) (hw : own_HW Z a0) (ws : List Jvm.Cond) (b61 : Addr) (h0 : Heap) (Z0 : Ext Z.heap h0) :
    own_met l y_21 prog_97_method_3_code 3 (some .boolean) ws ({ frames := 0, cells := 0, slots := 0, locals := 0 } : Room) Z #[(.ref b61), .null] h0 (Qrm143 Z b61 h0) := by
  refine own_start (plainFor_of_name pn_6) (fun m => ef_prog_97_method_3_Rn m b61) ?_
  intro p e s m below meth c s₁ hx hby hml hown hnm X0 hZ e0 hret hlk
  have N0 := Fr.nil Z.heap.size
  obtain ⟨fs, hr, hrun, hended, hW, hsame⟩ := X0.leave (v := some (.int (0 : Int32))) (fun h => by rw [hret] at h; cases h) hlk
  refine ⟨_, _, ?_, hrun, hended, _, _, rfl, ?_, ⟨_, rfl⟩, hW, hsame.mono (by decide) (by decide)⟩
  · show own_S p e below s₁ (mkF m 0 #[rv b61, .val .null, .unset] []) _
    refine own_aN X0 hx hby d21_0 ?_
    refine X0.instanceofNull hx (g := (mkF m 1 #[rv b61, .val .null, .unset] [.null])) rfl rfl (hb hby d21_1) _ ?_
    refine own_iy (pc := 4) X0 hx hby d21_4 (teq (rfl : (0 : Int32) = (0 : Int32))).1 30 ?_
    refine own_k X0 hx hby d21_30 ?_
    exact retN X0 hx (t := .boolean) hret (by simp) (hb hby d21_31) hr
  · show Qrm143 Z b61 h0 _ s₁.heap _
    rw [e0]
    exact ⟨rfl, N0, rfl⟩
theorem own_t11_0 {p : Program} {l : Launch} {e : Env} {s : State} {m : MethodId} {args : Array Value} {below : List Frame} {meth : Method} {c : Code} {T0 : State} {locs : List Loc} (Z : State) (a0 : Array Value) (hw : own_HW Z a0) (w_CS : Int32) (w_SF : Value) (q1 q2 : Int64) (p3 ca cb cc da db dc : Int32) (h0 : Heap) (Z0 : Ext Z.heap h0) (S_w_CS : own_w_CS Z w_CS) (S_w_SF : own_w_SF Z w_SF) (R_w_SF : w_SF.isRef = true) (hc42 : own_ch ca) (hc1 : ¬ (w_CS = (0 : Int32))) (hc43 : own_ch da) (hc44 : ¬ (ca = da)) (hc45 : own_low ca) (hc46 : own_low da) (hc48 : ¬ ((ca.toInt8.toInt32) = (da.toInt8.toInt32))) (hc49 : ¬ ((da.toInt8.toInt32) = (ca.toInt8.toInt32))) (X0 : Stand p l e room_1 s m args below meth c T0 locs 0 0) (hx : p.tables.exec = Jvm.exec) (hZ : Z.Warmed39 s.vm) (hby : c.code = code) (hml : c.maxLocals = 19) (hown : s.vm.findClass "com/example/faretally/faretally/ReasonEqualsPinLaw" = some m.cls) (e0 : T0.heap = h0) (N0 : Fr Z.heap.size locs) (hret : meth.sig.returnType = some .boolean) (hlk : meth.locks = false) :
    ∃ s₂ o, Steps p.tables e below (T0.setTop (mkF m 153 (own_T q1 q2 p3 1 ca cb cc 1 da db dc .unset .unset .unset .unset .unset .unset) [])) s₂ ∧ s₂.status = .running ∧ Ended s₂ below o ∧ ∃ v L, o = .returned v ∧ (v = some (.int (1 : Int32)) ∧ Fr Z.heap.size L) ∧ FrameEnd s o s₂ L room_1.cells room_1.slots := by
  obtain ⟨_, T53, Lc53, X53, hQ53, st53⟩ := own_static (y := y_7) X0 hx hZ hown (own_w hw 10 rfl) (own_w hw 11 rfl) (own_w hw 4 rfl) (own_w hw 12 rfl) (rm19 l Z a0 hw [] w_CS ca cb cc h0 Z0 S_w_CS hc42 hc1) e0 (g := (mkF m 161 (own_T q1 q2 p3 1 ca cb cc 1 da db dc .unset .unset .unset .unset .unset .unset) [(.int cc), (.int cb), (.int ca), (.int (1 : Int32))])) (argsL := [(.int (1 : Int32)), (.int ca), (.int cb), (.int cc)]) (rest := []) (W := 0) (lenOf pd_6 rfl) (hb hby at_161) hml
  obtain ⟨b54, b55, k56, rfl, N53q, K53q, szn_b54, szn_b55, q53_E_b54, q53_F_b54_coder, q53_F_b54_value, q53_V_b55⟩ := hQ53
  have g_b54 : Z.heap.size ≤ b54 := Nat.le_trans Z0.1 szn_b54
  have sz_b54 : h0.size ≤ b54 := Nat.le_trans (Keep.refl h0 []).1 szn_b54
  have g_b55 : Z.heap.size ≤ b55 := Nat.le_trans Z0.1 szn_b55
  have sz_b55 : h0.size ≤ b55 := Nat.le_trans (Keep.refl h0 []).1 szn_b55
  have K53 : Keep h0 T53.heap [] := (Keep.refl h0 []).trans K53q all0
  have XX53 : Ext Z.heap T53.heap := own_extK Z0 K53q all0
  have N53 := Fr.app N0 N53q
  obtain ⟨_, T57, Lc57, X57, hQ57, st57⟩ := own_static (y := y_7) X53 hx hZ hown (own_w hw 10 rfl) (own_w hw 11 rfl) (own_w hw 4 rfl) (own_w hw 12 rfl) (rm19 l Z a0 hw [] w_CS da db dc T53.heap XX53 S_w_CS hc43 hc1) rfl (g := (mkF m 174 (own_T q1 q2 p3 1 ca cb cc 1 da db dc (rv b54) .unset .unset .unset .unset .unset) [(.int dc), (.int db), (.int da), (.int (1 : Int32))])) (argsL := [(.int (1 : Int32)), (.int da), (.int db), (.int dc)]) (rest := []) (W := 0) (lenOf pd_6 rfl) (hb hby at_174) hml
  obtain ⟨b58, b59, k60, rfl, N57q, K57q, szn_b58, szn_b59, q57_E_b58, q57_F_b58_coder, q57_F_b58_value, q57_V_b59⟩ := hQ57
  have g_b58 : Z.heap.size ≤ b58 := Nat.le_trans XX53.1 szn_b58
  have sz_b58 : h0.size ≤ b58 := Nat.le_trans K53.1 szn_b58
  have g_b59 : Z.heap.size ≤ b59 := Nat.le_trans XX53.1 szn_b59
  have sz_b59 : h0.size ≤ b59 := Nat.le_trans K53.1 szn_b59
  have K57 : Keep h0 T57.heap [] := K53.trans K57q all0
  have XX57 : Ext Z.heap T57.heap := own_extK XX53 K57q all0
  have N57 := Fr.app N53 N57q
  obtain ⟨T61, h61, X61, e61, E61, A61, D61, -, st61⟩ := newO X57 hx hZ hown (own_w hw 43 rfl) (own_w hw 44 rfl) (own_w hw 45 rfl) rfl (g := (mkF m 226 (own_T q1 q2 p3 1 ca cb cc 1 da db dc (rv b54) (rv b58) (iv (0 : Int32)) .unset .unset .unset) [])) rfl (hb hby at_226) (by decide) (by decide)
  obtain ⟨b61, g61⟩ : ∃ z, z = T57.heap.size := ⟨_, rfl⟩
  rw [← g61] at A61 D61 st61
  have g_b61 : Z.heap.size ≤ b61 := Nat.le_trans XX57.1 (Nat.le_of_eq g61.symm)
  have sz_b61 : h0.size ≤ b61 := Nat.le_trans K57.1 (Nat.le_of_eq g61.symm)
  have F_b61_written : Fld Z h61 b61 "com/example/faretally/faretally/RefundRequest$Involuntary$Reason" "written" "Ljava/lang/String;" .null := D61 (Or.inr (own_w hw 96 rfl)) (ty := (.object "java/lang/String")) (by decide)
  have K61 : Keep h0 h61 [] := K57.ext E61
  have XX61 : Ext Z.heap h61 := own_ext2 XX57 E61
  obtain ⟨_, T98, Lc98, X98, hQ98, st98⟩ := own_special (y := y_18) X61 hx hZ hown rfl (own_w hw 46 rfl) (own_w hw 47 rfl) (own_w hw 45 rfl) (own_w hw 48 rfl) (rm62 l Z a0 hw [] w_CS w_SF ca b54 b55 k56 b61 h61 XX61 S_w_CS S_w_SF R_w_SF A61 F_b61_written ((q53_E_b54.keep K57q).ext E61) ((q53_F_b54_coder.keep K57q nin0).ext E61) ((q53_F_b54_value.keep K57q nin0).ext E61) ((q53_V_b55.keep K57q nin0).ext E61) g_b61 hc1 hc42 hc45) e61 b61 (g := (mkF m 232 (own_T q1 q2 p3 1 ca cb cc 1 da db dc (rv b54) (rv b58) (iv (0 : Int32)) .unset .unset .unset) [(.ref b54), (.ref b61), (.ref b61)])) (argsL := [(.ref b54)]) (rest := [(.ref b61)]) (W := 1) (lenOf pd_15 rfl) (hb hby at_232) hml
  obtain ⟨rfl, N98q, K98q, q98_E_b61, q98_F_b61_written⟩ := hQ98
  have K98 : Keep h0 T98.heap [] := K61.trans K98q (allS (Or.inr sz_b61) all0)
  have XX98 : Ext Z.heap T98.heap := own_extK XX61 K98q (allS g_b61 all0)
  have N98 := Fr.app N57 N98q
  obtain ⟨T99, h99, X99, e99, E99, A99, D99, -, st99⟩ := newO X98 hx hZ hown (own_w hw 43 rfl) (own_w hw 44 rfl) (own_w hw 45 rfl) rfl (g := (mkF m 237 (own_T q1 q2 p3 1 ca cb cc 1 da db dc (rv b54) (rv b58) (iv (0 : Int32)) (rv b61) .unset .unset) [])) rfl (hb hby at_237) (by decide) (by decide)
  obtain ⟨b99, g99⟩ : ∃ z, z = T98.heap.size := ⟨_, rfl⟩
  rw [← g99] at A99 D99 st99
  have g_b99 : Z.heap.size ≤ b99 := Nat.le_trans XX98.1 (Nat.le_of_eq g99.symm)
  have sz_b99 : h0.size ≤ b99 := Nat.le_trans K98.1 (Nat.le_of_eq g99.symm)
  have F_b99_written : Fld Z h99 b99 "com/example/faretally/faretally/RefundRequest$Involuntary$Reason" "written" "Ljava/lang/String;" .null := D99 (Or.inr (own_w hw 96 rfl)) (ty := (.object "java/lang/String")) (by decide)
  have K99 : Keep h0 h99 [] := K98.ext E99
  have XX99 : Ext Z.heap h99 := own_ext2 XX98 E99
  have ne_b58_b61 : b58 ≠ b61 := Nat.ne_of_lt (Nat.lt_of_lt_of_le q57_E_b58.lt (Nat.le_of_eq g61.symm))
  have f101_F_b58_coder : Fld Z h99 b58 "java/lang/String" "coder" "B" (.int (0 : Int32)) := (((q57_F_b58_coder.ext E61).keep K98q (ninS ne_b58_b61 (nin0))).ext E99)
  have f102_F_b58_value : Fld Z h99 b58 "java/lang/String" "value" "[B" (.ref b59) := (((q57_F_b58_value.ext E61).keep K98q (ninS ne_b58_b61 (nin0))).ext E99)
  have ne_b59_b61 : b59 ≠ b61 := Nat.ne_of_lt (Nat.lt_of_lt_of_le q57_V_b59.lt (Nat.le_of_eq g61.symm))
  have f103_V_b59 : Arv Z h99 b59 k60 .byte (1 : Int32) [(.int (da.toInt8.toInt32))] (.int (0 : Int32)) := (((q57_V_b59.ext E61).keep K98q (ninS ne_b59_b61 (nin0))).ext E99)
  obtain ⟨_, T100, Lc100, X100, hQ100, st100⟩ := own_special (y := y_18) X99 hx hZ hown rfl (own_w hw 46 rfl) (own_w hw 47 rfl) (own_w hw 45 rfl) (own_w hw 48 rfl) (rm62 l Z a0 hw [] w_CS w_SF da b58 b59 k60 b99 h99 XX99 S_w_CS S_w_SF R_w_SF A99 F_b99_written (((q57_E_b58.ext E61).keep K98q).ext E99) f101_F_b58_coder f102_F_b58_value f103_V_b59 g_b99 hc1 hc43 hc46) e99 b99 (g := (mkF m 243 (own_T q1 q2 p3 1 ca cb cc 1 da db dc (rv b54) (rv b58) (iv (0 : Int32)) (rv b61) .unset .unset) [(.ref b58), (.ref b99), (.ref b99)])) (argsL := [(.ref b58)]) (rest := [(.ref b99)]) (W := 1) (lenOf pd_15 rfl) (hb hby at_243) hml
  obtain ⟨rfl, N100q, K100q, q100_E_b99, q100_F_b99_written⟩ := hQ100
  have K100 : Keep h0 T100.heap [] := K99.trans K100q (allS (Or.inr sz_b99) all0)
  have XX100 : Ext Z.heap T100.heap := own_extK XX99 K100q (allS g_b99 all0)
  have N100 := Fr.app N98 N100q
  have ne_b61_b99 : b61 ≠ b99 := Nat.ne_of_lt (Nat.lt_of_lt_of_le q98_E_b61.lt (Nat.le_of_eq g99.symm))
  have f126_F_b61_written : Fld Z T100.heap b61 "com/example/faretally/faretally/RefundRequest$Involuntary$Reason" "written" "Ljava/lang/String;" (.ref b54) := ((q98_F_b61_written.ext E99).keep K100q (ninS ne_b61_b99 (nin0)))
  have f127_E_b54 : Exa Z T100.heap b54 "java/lang/String" := (((((q53_E_b54.keep K57q).ext E61).keep K98q).ext E99).keep K100q)
  have ne_b54_b61 : b54 ≠ b61 := Nat.ne_of_lt (Nat.lt_of_lt_of_le (q53_E_b54.keep K57q).lt (Nat.le_of_eq g61.symm))
  have ne_b54_b99 : b54 ≠ b99 := Nat.ne_of_lt (Nat.lt_of_lt_of_le (((q53_E_b54.keep K57q).ext E61).keep K98q).lt (Nat.le_of_eq g99.symm))
  have f128_F_b54_coder : Fld Z T100.heap b54 "java/lang/String" "coder" "B" (.int (0 : Int32)) := (((((q53_F_b54_coder.keep K57q nin0).ext E61).keep K98q (ninS ne_b54_b61 (nin0))).ext E99).keep K100q (ninS ne_b54_b99 (nin0)))
  have f129_F_b54_value : Fld Z T100.heap b54 "java/lang/String" "value" "[B" (.ref b55) := (((((q53_F_b54_value.keep K57q nin0).ext E61).keep K98q (ninS ne_b54_b61 (nin0))).ext E99).keep K100q (ninS ne_b54_b99 (nin0)))
  have ne_b58_b99 : b58 ≠ b99 := Nat.ne_of_lt (Nat.lt_of_lt_of_le ((q57_E_b58.ext E61).keep K98q).lt (Nat.le_of_eq g99.symm))
  have ne_b55_b61 : b55 ≠ b61 := Nat.ne_of_lt (Nat.lt_of_lt_of_le (q53_V_b55.keep K57q nin0).lt (Nat.le_of_eq g61.symm))
  have ne_b55_b99 : b55 ≠ b99 := Nat.ne_of_lt (Nat.lt_of_lt_of_le (((q53_V_b55.keep K57q nin0).ext E61).keep K98q (ninS ne_b55_b61 (nin0))).lt (Nat.le_of_eq g99.symm))
  have f130_V_b55 : Arv Z T100.heap b55 k56 .byte (1 : Int32) [(.int (ca.toInt8.toInt32))] (.int (0 : Int32)) := (((((q53_V_b55.keep K57q nin0).ext E61).keep K98q (ninS ne_b55_b61 (nin0))).ext E99).keep K100q (ninS ne_b55_b99 (nin0)))
  have ne_b59_b99 : b59 ≠ b99 := Nat.ne_of_lt (Nat.lt_of_lt_of_le ((q57_V_b59.ext E61).keep K98q (ninS ne_b59_b61 (nin0))).lt (Nat.le_of_eq g99.symm))
  have ne_b54_b58 : b54 ≠ b58 := Nat.ne_of_lt (Nat.lt_of_lt_of_le q53_E_b54.lt szn_b58)
  obtain ⟨_, T125, Lc125, X125, hQ125, st125⟩ := own_virtual (y := y_21) X100 hx hZ hown (own_w hw 97 rfl) (own_w hw 98 rfl) (own_w hw 100 rfl) (own_w hw 99 rfl) (own_w hw 45 rfl) (own_w hw 101 rfl) (rm104 l Z a0 hw [] w_CS ca da b54 b55 k56 b58 b59 k60 b61 b99 T100.heap XX100 S_w_CS f126_F_b61_written q100_E_b99 q100_F_b99_written f127_E_b54 f128_F_b54_coder f129_F_b54_value ((((q57_E_b58.ext E61).keep K98q).ext E99).keep K100q) (f101_F_b58_coder.keep K100q (ninS ne_b58_b99 (nin0))) (f102_F_b58_value.keep K100q (ninS ne_b58_b99 (nin0))) f130_V_b55 (f103_V_b59.keep K100q (ninS ne_b59_b99 (nin0))) ne_b54_b58 hc1 hc48) rfl ((q98_E_b61.ext E99).keep K100q) (g := (mkF m 252 (own_T q1 q2 p3 1 ca cb cc 1 da db dc (rv b54) (rv b58) (iv (0 : Int32)) (rv b61) (rv b99) .unset) [(.ref b99), (.ref b61)])) (argsL := [(.ref b99)]) (rest := []) (W := 0) (lenOf pd_17 rfl) (hb hby at_252) hml
  obtain ⟨rfl, N125q, e125⟩ := hQ125
  have N125 := Fr.app N100 N125q
  obtain ⟨_, T131, Lc131, X131, hQ131, st131⟩ := own_virtual (y := y_21) X125 hx hZ hown (own_w hw 97 rfl) (own_w hw 98 rfl) (own_w hw 100 rfl) (own_w hw 99 rfl) (own_w hw 45 rfl) (own_w hw 101 rfl) (rm104 l Z a0 hw [] w_CS da ca b58 b59 k60 b54 b55 k56 b99 b61 T100.heap XX100 S_w_CS q100_F_b99_written ((q98_E_b61.ext E99).keep K100q) f126_F_b61_written ((((q57_E_b58.ext E61).keep K98q).ext E99).keep K100q) (f101_F_b58_coder.keep K100q (ninS ne_b58_b99 (nin0))) (f102_F_b58_value.keep K100q (ninS ne_b58_b99 (nin0))) f127_E_b54 f128_F_b54_coder f129_F_b54_value (f103_V_b59.keep K100q (ninS ne_b59_b99 (nin0))) f130_V_b55 (Ne.symm ne_b54_b58) hc1 hc49) e125 q100_E_b99 (g := (mkF m 276 (own_T q1 q2 p3 1 ca cb cc 1 da db dc (rv b54) (rv b58) (iv (0 : Int32)) (rv b61) (rv b99) (iv (1 : Int32))) [(.ref b61), (.ref b99)])) (argsL := [(.ref b61)]) (rest := []) (W := 0) (lenOf pd_17 rfl) (hb hby at_276) hml
  obtain ⟨rfl, N131q, e131⟩ := hQ131
  have N131 := Fr.app N125 N131q
  obtain ⟨_, T139, Lc139, X139, hQ139, st139⟩ := own_virtual (y := y_21) X131 hx hZ hown (own_w hw 97 rfl) (own_w hw 98 rfl) (own_w hw 100 rfl) (own_w hw 99 rfl) (own_w hw 45 rfl) (own_w hw 101 rfl) (rm132 l Z a0 hw [] b54 b61 T100.heap XX100 ((q98_E_b61.ext E99).keep K100q) f126_F_b61_written f127_E_b54) e131 ((q98_E_b61.ext E99).keep K100q) (g := (mkF m 300 (own_T q1 q2 p3 1 ca cb cc 1 da db dc (rv b54) (rv b58) (iv (0 : Int32)) (rv b61) (rv b99) (iv (1 : Int32))) [(.ref b61), (.ref b61)])) (argsL := [(.ref b61)]) (rest := []) (W := 0) (lenOf pd_17 rfl) (hb hby at_300) hml
  obtain ⟨rfl, N139q, e139⟩ := hQ139
  have N139 := Fr.app N131 N139q
  obtain ⟨_, T142, Lc142, X142, hQ142, st142⟩ := own_virtual (y := y_21) X139 hx hZ hown (own_w hw 97 rfl) (own_w hw 98 rfl) (own_w hw 100 rfl) (own_w hw 99 rfl) (own_w hw 45 rfl) (own_w hw 101 rfl) (rm140 l Z a0 hw [] b54 b61 T100.heap XX100 f127_E_b54) e139 ((q98_E_b61.ext E99).keep K100q) (g := (mkF m 322 (own_T q1 q2 p3 1 ca cb cc 1 da db dc (rv b54) (rv b58) (iv (0 : Int32)) (rv b61) (rv b99) (iv (1 : Int32))) [(.ref b54), (.ref b61)])) (argsL := [(.ref b54)]) (rest := []) (W := 0) (lenOf pd_17 rfl) (hb hby at_322) hml
  obtain ⟨rfl, N142q, e142⟩ := hQ142
  have N142 := Fr.app N139 N142q
  obtain ⟨_, T144, Lc144, X144, hQ144, st144⟩ := own_virtual (y := y_21) X142 hx hZ hown (own_w hw 97 rfl) (own_w hw 98 rfl) (own_w hw 100 rfl) (own_w hw 99 rfl) (own_w hw 45 rfl) (own_w hw 101 rfl) (rm143 l Z a0 hw [] b61 T100.heap XX100 ) e142 ((q98_E_b61.ext E99).keep K100q) (g := (mkF m 343 (own_T q1 q2 p3 1 ca cb cc 1 da db dc (rv b54) (rv b58) (iv (0 : Int32)) (rv b61) (rv b99) (iv (1 : Int32))) [.null, (.ref b61)])) (argsL := [.null]) (rest := []) (W := 0) (lenOf pd_17 rfl) (hb hby at_343) hml
  obtain ⟨rfl, N144q, e144⟩ := hQ144
  have N144 := Fr.app N142 N144q
  obtain ⟨fs, hr, hrun, hended, hW, hsame⟩ := X144.leave (v := some (.int (1 : Int32))) (fun h => by rw [hret] at h; cases h) hlk
  refine ⟨_, _, ?_, hrun, hended, _, _, rfl, ⟨rfl, N144⟩, ⟨_, rfl⟩, hW, hsame.mono (by decide) (by decide)⟩
  show own_S p e below T0 (mkF m 153 (own_T q1 q2 p3 1 ca cb cc 1 da db dc .unset .unset .unset .unset .unset .unset) []) _
  refine own_i X0 hx hby at_153 ?_
  refine own_i X0 hx hby at_155 ?_
  refine own_i X0 hx hby at_157 ?_
  refine own_i X0 hx hby at_159 ?_
  refine st53 _ ?_
  refine XS.astore X53.here hx rfl (hb hby at_164) rfl rfl (l' := (own_T q1 q2 p3 1 ca cb cc 1 da db dc (rv b54) .unset .unset .unset .unset .unset)) rfl ?_
  refine own_i X53 hx hby at_166 ?_
  refine own_i X53 hx hby at_168 ?_
  refine own_i X53 hx hby at_170 ?_
  refine own_i X53 hx hby at_172 ?_
  refine st57 _ ?_
  refine XS.astore X57.here hx rfl (hb hby at_177) rfl rfl (l' := (own_T q1 q2 p3 1 ca cb cc 1 da db dc (rv b54) (rv b58) .unset .unset .unset .unset)) rfl ?_
  refine own_i X57 hx hby at_179 ?_
  refine own_i X57 hx hby at_181 ?_
  refine own_cn X57 hx hby at_183 (teq (rfl : (1 : Int32) = (1 : Int32))).2 ?_
  refine own_i X57 hx hby at_186 ?_
  refine own_i X57 hx hby at_188 ?_
  refine own_cy (pc := 190) X57 hx hby at_190 (feq hc44).2 223 ?_
  refine own_k X57 hx hby at_223 ?_
  refine XS.istore X57.here hx rfl (hb hby at_224) rfl (l' := (own_T q1 q2 p3 1 ca cb cc 1 da db dc (rv b54) (rv b58) (iv (0 : Int32)) .unset .unset .unset)) rfl ?_
  refine st61 _ ?_
  refine XS.dup X61.here hx rfl (hb hby at_229) rfl rfl ?_
  refine own_a X61 hx hby at_230 ?_
  refine st98 _ ?_
  refine XS.astore X98.here hx rfl (hb hby at_235) rfl rfl (l' := (own_T q1 q2 p3 1 ca cb cc 1 da db dc (rv b54) (rv b58) (iv (0 : Int32)) (rv b61) .unset .unset)) rfl ?_
  refine st99 _ ?_
  refine XS.dup X99.here hx rfl (hb hby at_240) rfl rfl ?_
  refine own_a X99 hx hby at_241 ?_
  refine st100 _ ?_
  refine XS.astore X100.here hx rfl (hb hby at_246) rfl rfl (l' := (own_T q1 q2 p3 1 ca cb cc 1 da db dc (rv b54) (rv b58) (iv (0 : Int32)) (rv b61) (rv b99) .unset)) rfl ?_
  refine own_a X100 hx hby at_248 ?_
  refine own_a X100 hx hby at_250 ?_
  refine st125 _ ?_
  refine own_i X125 hx hby at_255 ?_
  refine own_cn X125 hx hby at_257 (teq (rfl : (0 : Int32) = (0 : Int32))).2 ?_
  refine own_k X125 hx hby at_260 ?_
  refine own_go (pc := 261) X125 hx hby at_261 265 ?_
  refine XS.istore X125.here hx rfl (hb hby at_265) rfl (l' := (own_T q1 q2 p3 1 ca cb cc 1 da db dc (rv b54) (rv b58) (iv (0 : Int32)) (rv b61) (rv b99) (iv (1 : Int32)))) rfl ?_
  refine own_i X125 hx hby at_267 ?_
  refine own_in X125 hx hby at_269 (feq (by decide : ¬ ((1 : Int32) = (0 : Int32)))).1 ?_
  refine own_a X125 hx hby at_272 ?_
  refine own_a X125 hx hby at_274 ?_
  refine st131 _ ?_
  refine own_i X131 hx hby at_279 ?_
  refine own_cn X131 hx hby at_281 (teq (rfl : (0 : Int32) = (0 : Int32))).2 ?_
  refine own_k X131 hx hby at_284 ?_
  refine own_go (pc := 285) X131 hx hby at_285 289 ?_
  refine XS.istore X131.here hx rfl (hb hby at_289) rfl (l' := (own_T q1 q2 p3 1 ca cb cc 1 da db dc (rv b54) (rv b58) (iv (0 : Int32)) (rv b61) (rv b99) (iv (1 : Int32)))) rfl ?_
  refine own_i X131 hx hby at_291 ?_
  refine own_in X131 hx hby at_293 (feq (by decide : ¬ ((1 : Int32) = (0 : Int32)))).1 ?_
  refine own_a X131 hx hby at_296 ?_
  refine own_a X131 hx hby at_298 ?_
  refine st139 _ ?_
  refine own_in X139 hx hby at_303 (feq (by decide : ¬ ((1 : Int32) = (0 : Int32)))).1 ?_
  refine own_k X139 hx hby at_306 ?_
  refine own_go (pc := 307) X139 hx hby at_307 311 ?_
  refine XS.istore X139.here hx rfl (hb hby at_311) rfl (l' := (own_T q1 q2 p3 1 ca cb cc 1 da db dc (rv b54) (rv b58) (iv (0 : Int32)) (rv b61) (rv b99) (iv (1 : Int32)))) rfl ?_
  refine own_i X139 hx hby at_313 ?_
  refine own_in X139 hx hby at_315 (feq (by decide : ¬ ((1 : Int32) = (0 : Int32)))).1 ?_
  refine own_a X139 hx hby at_318 ?_
  refine own_a X139 hx hby at_320 ?_
  refine st142 _ ?_
  refine own_in X142 hx hby at_325 (teq (rfl : (0 : Int32) = (0 : Int32))).2 ?_
  refine own_k X142 hx hby at_328 ?_
  refine own_go (pc := 329) X142 hx hby at_329 333 ?_
  refine XS.istore X142.here hx rfl (hb hby at_333) rfl (l' := (own_T q1 q2 p3 1 ca cb cc 1 da db dc (rv b54) (rv b58) (iv (0 : Int32)) (rv b61) (rv b99) (iv (1 : Int32)))) rfl ?_
  refine own_i X142 hx hby at_335 ?_
  refine own_in X142 hx hby at_337 (feq (by decide : ¬ ((1 : Int32) = (0 : Int32)))).1 ?_
  refine own_a X142 hx hby at_340 ?_
  refine XS.aconstNull X142.here hx rfl (hb hby at_342) ?_
  refine st144 _ ?_
  refine own_in X144 hx hby at_346 (teq (rfl : (0 : Int32) = (0 : Int32))).2 ?_
  refine own_k X144 hx hby at_349 ?_
  refine own_go (pc := 350) X144 hx hby at_350 354 ?_
  refine XS.istore X144.here hx rfl (hb hby at_354) rfl (l' := (own_T q1 q2 p3 1 ca cb cc 1 da db dc (rv b54) (rv b58) (iv (0 : Int32)) (rv b61) (rv b99) (iv (1 : Int32)))) rfl ?_
  refine own_i X144 hx hby at_356 ?_
  exact retN X144 hx (t := .boolean) hret (by simp) (hb hby at_358) hr
def Qrm173 (Z : State) (ca da : Int32) (b147 : Addr) (k148 : ClassId) (b151 : Addr) (k152 : ClassId) (h0 : Heap) (v : Option Value) (h : Heap) (L : List Loc) : Prop := v = some (.int (1 : Int32)) ∧ Fr Z.heap.size L ∧ h = h0
theorem rm173 (l : Launch) (Z : State) (a0 : Array Value) (hw : own_HW Z a0) (ws : List Jvm.Cond) (ca da : Int32) (b147 : Addr) (k148 : ClassId) (b151 : Addr) (k152 : ClassId) (h0 : Heap) (Z0 : Ext Z.heap h0) (V_b147 : Arv Z h0 b147 k148 .byte (1 : Int32) [(.int (ca.toInt8.toInt32))] (.int (0 : Int32))) (V_b151 : Arv Z h0 b151 k152 .byte (1 : Int32) [(.int (da.toInt8.toInt32))] (.int (0 : Int32))) (hc52 : (ca.toInt8.toInt32) = (da.toInt8.toInt32)) :
    own_met l y_19 jdk_43_method_13_code 3 (some .boolean) ws ({ frames := 0, cells := 0, slots := 0, locals := 0 } : Room) Z #[(.ref b147), (.ref b151)] h0 (Qrm173 Z ca da b147 k148 b151 k152 h0) := by
  refine own_start (plainFor_of_name pn_5) (fun m => ef_jdk_43_method_13_RR m b147 b151) ?_
  intro p e s m below meth c s₁ hx hby hml hown hnm X0 hZ e0 hret hlk
  have N0 := Fr.nil Z.heap.size
  obtain ⟨cl174, Ar174, q174, S174, Nn174, H174, G174⟩ := id V_b147
  obtain ⟨cl175, Ar175, q175, S175, Nn175, H175, G175⟩ := id V_b151
  obtain ⟨cl176, Ar176, q176, S176, Nn176, H176, G176⟩ := id V_b147
  obtain ⟨cl177, Ar177, q177, S177, Nn177, H177, G177⟩ := id V_b147
  have hin177 : ¬ ((0 : Int32) < 0 ∨ cl177.slots.size ≤ ((0 : Int32)).toNatClampNeg) := inb_of S177 ⟨by decide, by decide⟩
  have hat177 : cl177.slots[((0 : Int32)).toNatClampNeg]? = some (.int (ca.toInt8.toInt32)) := Has.at H177 hin177 rfl
  obtain ⟨cl178, Ar178, q178, S178, Nn178, H178, G178⟩ := id V_b151
  have hin178 : ¬ ((0 : Int32) < 0 ∨ cl178.slots.size ≤ ((0 : Int32)).toNatClampNeg) := inb_of S178 ⟨by decide, by decide⟩
  have hat178 : cl178.slots[((0 : Int32)).toNatClampNeg]? = some (.int (da.toInt8.toInt32)) := Has.at H178 hin178 rfl
  obtain ⟨cl179, Ar179, q179, S179, Nn179, H179, G179⟩ := id V_b147
  obtain ⟨fs, hr, hrun, hended, hW, hsame⟩ := X0.leave (v := some (.int (1 : Int32))) (fun h => by rw [hret] at h; cases h) hlk
  refine ⟨_, _, ?_, hrun, hended, _, _, rfl, ?_, ⟨_, rfl⟩, hW, hsame.mono (by decide) (by decide)⟩
  · show own_S p e below s₁ (mkF m 0 #[rv b147, rv b151, .unset] []) _
    refine own_aN X0 hx hby d23_0 ?_
    refine X0.arraylength hx (by rw [e0]; exact Ar174.1) (State.isArrayOf_alike hZ.alike Ar174.2.1) (g := (mkF m 1 #[rv b147, rv b151, .unset] [(.ref b147)])) rfl rfl (hb hby d23_1) _ ?_
    rw [len_of S174 Nn174]
    refine own_aN X0 hx hby d23_2 ?_
    refine X0.arraylength hx (by rw [e0]; exact Ar175.1) (State.isArrayOf_alike hZ.alike Ar175.2.1) (g := (mkF m 3 #[rv b147, rv b151, .unset] [(.ref b151), (.int (1 : Int32))])) rfl rfl (hb hby d23_3) _ ?_
    rw [len_of S175 Nn175]
    refine own_cn X0 hx hby d23_4 (teq (rfl : (1 : Int32) = (1 : Int32))).2 ?_
    refine own_k X0 hx hby d23_7 ?_
    refine XS.istoreN X0.here hx rfl (hb hby d23_8) rfl (l' := #[rv b147, rv b151, iv (0 : Int32)]) rfl ?_
    refine own_iN X0 hx hby d23_9 ?_
    refine own_aN X0 hx hby d23_10 ?_
    refine X0.arraylength hx (by rw [e0]; exact Ar176.1) (State.isArrayOf_alike hZ.alike Ar176.2.1) (g := (mkF m 11 #[rv b147, rv b151, iv (0 : Int32)] [(.ref b147), (.int (0 : Int32))])) rfl rfl (hb hby d23_11) _ ?_
    rw [len_of S176 Nn176]
    refine own_cn X0 hx hby d23_12 (tlt (by decide : (0 : Int32) < (1 : Int32))).2.1 ?_
    refine own_aN X0 hx hby d23_15 ?_
    refine own_iN X0 hx hby d23_16 ?_
    refine X0.baloadBytes hx (j := (0 : Int32)) (v := (.int (ca.toInt8.toInt32))) (by rw [e0]; exact Ar177.1) (State.isArrayOf_alike hZ.alike Ar177.2.1) Ar177.2.2 hin177 hat177 (g := (mkF m 17 #[rv b147, rv b151, iv (0 : Int32)] [(.int (0 : Int32)), (.ref b147)])) rfl rfl (hb hby d23_17) _ ?_
    refine own_aN X0 hx hby d23_18 ?_
    refine own_iN X0 hx hby d23_19 ?_
    refine X0.baloadBytes hx (j := (0 : Int32)) (v := (.int (da.toInt8.toInt32))) (by rw [e0]; exact Ar178.1) (State.isArrayOf_alike hZ.alike Ar178.2.1) Ar178.2.2 hin178 hat178 (g := (mkF m 20 #[rv b147, rv b151, iv (0 : Int32)] [(.int (0 : Int32)), (.ref b151), (.int (ca.toInt8.toInt32))])) rfl rfl (hb hby d23_20) _ ?_
    refine own_cy (pc := 21) X0 hx hby d23_21 (teq hc52).1 26 ?_
    refine XS.iinc X0.here hx rfl (hb hby d23_26) rfl (l' := #[rv b147, rv b151, iv (1 : Int32)]) rfl ?_
    refine own_go (pc := 29) X0 hx hby d23_29 9 ?_
    refine own_iN X0 hx hby d23_9 ?_
    refine own_aN X0 hx hby d23_10 ?_
    refine X0.arraylength hx (by rw [e0]; exact Ar179.1) (State.isArrayOf_alike hZ.alike Ar179.2.1) (g := (mkF m 11 #[rv b147, rv b151, iv (1 : Int32)] [(.ref b147), (.int (1 : Int32))])) rfl rfl (hb hby d23_11) _ ?_
    rw [len_of S179 Nn179]
    refine own_cy (pc := 12) X0 hx hby d23_12 (flt (Int32.lt_irrefl : ¬ ((1 : Int32) < (1 : Int32)))).2.1 32 ?_
    refine own_k X0 hx hby d23_32 ?_
    exact retN X0 hx (t := .boolean) hret (by simp) (hb hby d23_33) hr
  · show Qrm173 Z ca da b147 k148 b151 k152 h0 _ s₁.heap _
    rw [e0]
    exact ⟨rfl, N0, rfl⟩
def Qrm165 (Z : State) (w_CS ca da : Int32) (b146 b147 : Addr) (k148 : ClassId) (b150 b151 : Addr) (k152 : ClassId) (h0 : Heap) (v : Option Value) (h : Heap) (L : List Loc) : Prop := v = some (.int (1 : Int32)) ∧ Fr Z.heap.size L ∧ h = h0
theorem rm165 (l : Launch) (Z : State) (a0 : Array Value) (hw : own_HW Z a0) (ws : List Jvm.Cond) (w_CS ca da : Int32) (b146 b147 : Addr) (k148 : ClassId) (b150 b151 : Addr) (k152 : ClassId) (h0 : Heap) (Z0 : Ext Z.heap h0) (S_w_CS : own_w_CS Z w_CS) (F_b146_coder : Fld Z h0 b146 "java/lang/String" "coder" "B" (.int (0 : Int32))) (F_b146_value : Fld Z h0 b146 "java/lang/String" "value" "[B" (.ref b147)) (E_b150 : Exa Z h0 b150 "java/lang/String") (F_b150_coder : Fld Z h0 b150 "java/lang/String" "coder" "B" (.int (0 : Int32))) (F_b150_value : Fld Z h0 b150 "java/lang/String" "value" "[B" (.ref b151)) (V_b147 : Arv Z h0 b147 k148 .byte (1 : Int32) [(.int (ca.toInt8.toInt32))] (.int (0 : Int32))) (V_b151 : Arv Z h0 b151 k152 .byte (1 : Int32) [(.int (da.toInt8.toInt32))] (.int (0 : Int32))) (hc51 : b146 ≠ b150) (hc1 : ¬ (w_CS = (0 : Int32))) (hc52 : (ca.toInt8.toInt32) = (da.toInt8.toInt32)) :
    own_met l y_20 jdk_42_method_66_code 3 (some .boolean) ws ({ frames := 1, cells := 0, slots := 0, locals := 14 } : Room) Z #[(.ref b146), (.ref b150)] h0 (Qrm165 Z w_CS ca da b146 b147 k148 b150 b151 k152 h0) := by
  refine own_start (plainFor_of_name pn_2) (fun m => ef_jdk_42_method_66_RR m b146 b150) ?_
  intro p e s m below meth c s₁ hx hby hml hown hnm X0 hZ e0 hret hlk
  have N0 := Fr.nil Z.heap.size
  obtain ⟨T166, X166, e166, st166⟩ := instY X0 hx hZ hown (own_w hw 109 rfl) e0 (Ins.self E_b150) (g := (mkF m 8 #[rv b146, rv b150, .unset] [(.ref b150)])) rfl rfl (hb hby d22_8)
  obtain ⟨T167, X167, e167, st167⟩ := castY X166 hx hZ hown (own_w hw 109 rfl) e166 (Ins.self E_b150) (g := (mkF m 15 #[rv b146, rv b150, .unset] [(.ref b150)])) rfl rfl (hb hby d22_15)
  obtain ⟨T168, X168, e168, st168⟩ := getS2 X167 hx hZ hown (host := "") (Or.inl (own_w hw 27 rfl)) Via.refl e167 (S_w_CS.ext Z0) (g := (mkF m 19 #[rv b146, rv b150, rv b150] [])) rfl (hb hby d22_19)
  obtain ⟨T169, X169, e169, st169⟩ := getF X168 hx hZ hown (host := "") (Or.inl (own_w hw 39 rfl)) Via.refl e168 F_b146_coder (g := (mkF m 26 #[rv b146, rv b150, rv b150] [(.ref b146)])) rfl rfl (hb hby d22_26)
  obtain ⟨T170, X170, e170, st170⟩ := getF X169 hx hZ hown (host := "") (Or.inl (own_w hw 39 rfl)) Via.refl e169 F_b150_coder (g := (mkF m 30 #[rv b146, rv b150, rv b150] [(.ref b150), (.int (0 : Int32))])) rfl rfl (hb hby d22_30)
  obtain ⟨T171, X171, e171, st171⟩ := getF X170 hx hZ hown (host := "") (Or.inl (own_w hw 41 rfl)) Via.refl e170 F_b146_value (g := (mkF m 37 #[rv b146, rv b150, rv b150] [(.ref b146)])) rfl rfl (hb hby d22_37)
  obtain ⟨T172, X172, e172, st172⟩ := getF X171 hx hZ hown (host := "") (Or.inl (own_w hw 41 rfl)) Via.refl e171 F_b150_value (g := (mkF m 41 #[rv b146, rv b150, rv b150] [(.ref b150), (.ref b147)])) rfl rfl (hb hby d22_41)
  obtain ⟨_, T180, Lc180, X180, hQ180, st180⟩ := own_static (y := y_19) X172 hx hZ hown (own_w hw 110 rfl) (own_w hw 111 rfl) (own_w hw 75 rfl) (own_w hw 112 rfl) (rm173 l Z a0 hw [] ca da b147 k148 b151 k152 h0 Z0 V_b147 V_b151 hc52) e172 (g := (mkF m 44 #[rv b146, rv b150, rv b150] [(.ref b151), (.ref b147)])) (argsL := [(.ref b147), (.ref b151)]) (rest := []) (W := 0) (lenOf pd_16 rfl) (hb hby d22_44) hml
  obtain ⟨rfl, N180q, e180⟩ := hQ180
  have N180 := Fr.app N0 N180q
  obtain ⟨fs, hr, hrun, hended, hW, hsame⟩ := X180.leave (v := some (.int (1 : Int32))) (fun h => by rw [hret] at h; cases h) hlk
  refine ⟨_, _, ?_, hrun, hended, _, _, rfl, ?_, ⟨_, rfl⟩, hW, hsame.mono (by decide) (by decide)⟩
  · show own_S p e below s₁ (mkF m 0 #[rv b146, rv b150, .unset] []) _
    refine own_aN X0 hx hby d22_0 ?_
    refine own_aN X0 hx hby d22_1 ?_
    refine Jvm.RoadKit.acmp (g := (mkF m 2 #[rv b146, rv b150, .unset] [(.ref b150), (.ref b146)])) X0 hx rfl rfl rfl (pc0 := 2) (pc' := 7) (same := false) rfl (hb hby d22_2) rfl (decide_eq_false fun q => hc51 (Value.ref.inj q)) (by decide) (by decide) ?_
    refine own_aN X0 hx hby d22_7 ?_
    refine st166 _ ?_
    refine own_in X166 hx hby d22_11 (feq (by decide : ¬ ((1 : Int32) = (0 : Int32)))).1 ?_
    refine own_aN X166 hx hby d22_14 ?_
    refine st167 _ ?_
    refine XS.astoreN X167.here hx rfl (hb hby d22_18) rfl rfl (l' := #[rv b146, rv b150, rv b150]) rfl ?_
    refine st168 _ ?_
    refine own_in X168 hx hby d22_22 (feq hc1).1 ?_
    refine own_aN X168 hx hby d22_25 ?_
    refine st169 _ ?_
    refine own_aN X169 hx hby d22_29 ?_
    refine st170 _ ?_
    refine own_cn X170 hx hby d22_33 (teq (rfl : (0 : Int32) = (0 : Int32))).2 ?_
    refine own_aN X170 hx hby d22_36 ?_
    refine st171 _ ?_
    refine own_aN X171 hx hby d22_40 ?_
    refine st172 _ ?_
    refine st180 _ ?_
    refine own_in X180 hx hby d22_47 (feq (by decide : ¬ ((1 : Int32) = (0 : Int32)))).1 ?_
    refine own_k X180 hx hby d22_50 ?_
    refine own_go (pc := 51) X180 hx hby d22_51 55 ?_
    exact retN X180 hx (t := .boolean) hret (by simp) (hb hby d22_55) hr
  · show Qrm165 Z w_CS ca da b146 b147 k148 b150 b151 k152 h0 _ T180.heap _
    rw [e180]
    exact ⟨rfl, N180, rfl⟩
def Qrm160 (Z : State) (w_CS ca da : Int32) (b146 b147 : Addr) (k148 : ClassId) (b150 b151 : Addr) (k152 : ClassId) (b153 b155 : Addr) (h0 : Heap) (v : Option Value) (h : Heap) (L : List Loc) : Prop := v = some (.int (1 : Int32)) ∧ Fr Z.heap.size L ∧ h = h0
theorem rm160 (l : Launch) (Z : State) (a0 : Array Value) (hw : own_HW Z a0) (ws : List Jvm.Cond) (w_CS ca da : Int32) (b146 b147 : Addr) (k148 : ClassId) (b150 b151 : Addr) (k152 : ClassId) (b153 b155 : Addr) (h0 : Heap) (Z0 : Ext Z.heap h0) (S_w_CS : own_w_CS Z w_CS) (F_b153_written : Fld Z h0 b153 "com/example/faretally/faretally/RefundRequest$Involuntary$Reason" "written" "Ljava/lang/String;" (.ref b146)) (E_b155 : Exa Z h0 b155 "com/example/faretally/faretally/RefundRequest$Involuntary$Reason") (F_b155_written : Fld Z h0 b155 "com/example/faretally/faretally/RefundRequest$Involuntary$Reason" "written" "Ljava/lang/String;" (.ref b150)) (E_b146 : Exa Z h0 b146 "java/lang/String") (F_b146_coder : Fld Z h0 b146 "java/lang/String" "coder" "B" (.int (0 : Int32))) (F_b146_value : Fld Z h0 b146 "java/lang/String" "value" "[B" (.ref b147)) (E_b150 : Exa Z h0 b150 "java/lang/String") (F_b150_coder : Fld Z h0 b150 "java/lang/String" "coder" "B" (.int (0 : Int32))) (F_b150_value : Fld Z h0 b150 "java/lang/String" "value" "[B" (.ref b151)) (V_b147 : Arv Z h0 b147 k148 .byte (1 : Int32) [(.int (ca.toInt8.toInt32))] (.int (0 : Int32))) (V_b151 : Arv Z h0 b151 k152 .byte (1 : Int32) [(.int (da.toInt8.toInt32))] (.int (0 : Int32))) (hc51 : b146 ≠ b150) (hc1 : ¬ (w_CS = (0 : Int32))) (hc52 : (ca.toInt8.toInt32) = (da.toInt8.toInt32)) :
    own_met l y_21 prog_97_method_3_code 3 (some .boolean) ws ({ frames := 2, cells := 0, slots := 0, locals := 28 } : Room) Z #[(.ref b153), (.ref b155)] h0 (Qrm160 Z w_CS ca da b146 b147 k148 b150 b151 k152 b153 b155 h0) := by
  refine own_start (plainFor_of_name pn_6) (fun m => ef_prog_97_method_3_RR m b153 b155) ?_
  intro p e s m below meth c s₁ hx hby hml hown hnm X0 hZ e0 hret hlk
  have N0 := Fr.nil Z.heap.size
  obtain ⟨T161, X161, e161, st161⟩ := instY X0 hx hZ hown (own_w hw 102 rfl) e0 (Ins.self E_b155) (g := (mkF m 1 #[rv b153, rv b155, .unset] [(.ref b155)])) rfl rfl (hb hby d21_1)
  obtain ⟨T162, X162, e162, st162⟩ := castY X161 hx hZ hown (own_w hw 102 rfl) e161 (Ins.self E_b155) (g := (mkF m 8 #[rv b153, rv b155, .unset] [(.ref b155)])) rfl rfl (hb hby d21_8)
  obtain ⟨T163, X163, e163, st163⟩ := getF X162 hx hZ hown (host := "") (Or.inl (own_w hw 95 rfl)) Via.refl e162 F_b153_written (g := (mkF m 13 #[rv b153, rv b155, rv b155] [(.ref b153)])) rfl rfl (hb hby d21_13)
  obtain ⟨T164, X164, e164, st164⟩ := getF X163 hx hZ hown (host := "") (Or.inl (own_w hw 95 rfl)) Via.refl e163 F_b155_written (g := (mkF m 17 #[rv b153, rv b155, rv b155] [(.ref b155), (.ref b146)])) rfl rfl (hb hby d21_17)
  obtain ⟨_, T181, Lc181, X181, hQ181, st181⟩ := own_virtual (y := y_20) X164 hx hZ hown (own_w hw 104 rfl) (own_w hw 105 rfl) (own_w hw 107 rfl) (own_w hw 106 rfl) (own_w hw 15 rfl) (own_w hw 108 rfl) (rm165 l Z a0 hw [] w_CS ca da b146 b147 k148 b150 b151 k152 h0 Z0 S_w_CS F_b146_coder F_b146_value E_b150 F_b150_coder F_b150_value V_b147 V_b151 hc51 hc1 hc52) e164 E_b146 (g := (mkF m 20 #[rv b153, rv b155, rv b155] [(.ref b150), (.ref b146)])) (argsL := [(.ref b150)]) (rest := []) (W := 0) (lenOf pd_17 rfl) (hb hby d21_20) hml
  obtain ⟨rfl, N181q, e181⟩ := hQ181
  have N181 := Fr.app N0 N181q
  obtain ⟨fs, hr, hrun, hended, hW, hsame⟩ := X181.leave (v := some (.int (1 : Int32))) (fun h => by rw [hret] at h; cases h) hlk
  refine ⟨_, _, ?_, hrun, hended, _, _, rfl, ?_, ⟨_, rfl⟩, hW, hsame.mono (by decide) (by decide)⟩
  · show own_S p e below s₁ (mkF m 0 #[rv b153, rv b155, .unset] []) _
    refine own_aN X0 hx hby d21_0 ?_
    refine st161 _ ?_
    refine own_in X161 hx hby d21_4 (feq (by decide : ¬ ((1 : Int32) = (0 : Int32)))).1 ?_
    refine own_aN X161 hx hby d21_7 ?_
    refine st162 _ ?_
    refine XS.astoreN X162.here hx rfl (hb hby d21_11) rfl rfl (l' := #[rv b153, rv b155, rv b155]) rfl ?_
    refine own_aN X162 hx hby d21_12 ?_
    refine st163 _ ?_
    refine own_aN X163 hx hby d21_16 ?_
    refine st164 _ ?_
    refine st181 _ ?_
    refine own_in X181 hx hby d21_23 (feq (by decide : ¬ ((1 : Int32) = (0 : Int32)))).1 ?_
    refine own_k X181 hx hby d21_26 ?_
    refine own_go (pc := 27) X181 hx hby d21_27 31 ?_
    exact retN X181 hx (t := .boolean) hret (by simp) (hb hby d21_31) hr
  · show Qrm160 Z w_CS ca da b146 b147 k148 b150 b151 k152 b153 b155 h0 _ T181.heap _
    rw [e181]
    exact ⟨rfl, N181, rfl⟩
theorem own_t11_1 {p : Program} {l : Launch} {e : Env} {s : State} {m : MethodId} {args : Array Value} {below : List Frame} {meth : Method} {c : Code} {T0 : State} {locs : List Loc} (Z : State) (a0 : Array Value) (hw : own_HW Z a0) (w_CS : Int32) (w_SF : Value) (q1 q2 : Int64) (p3 ca cb cc da db dc : Int32) (h0 : Heap) (Z0 : Ext Z.heap h0) (S_w_CS : own_w_CS Z w_CS) (S_w_SF : own_w_SF Z w_SF) (R_w_SF : w_SF.isRef = true) (hc42 : own_ch ca) (hc1 : ¬ (w_CS = (0 : Int32))) (hc43 : own_ch da) (hc50 : ca = da) (hc45 : own_low ca) (hc46 : own_low da) (hc52 : (ca.toInt8.toInt32) = (da.toInt8.toInt32)) (hc53 : (da.toInt8.toInt32) = (ca.toInt8.toInt32)) (X0 : Stand p l e room_1 s m args below meth c T0 locs 0 0) (hx : p.tables.exec = Jvm.exec) (hZ : Z.Warmed39 s.vm) (hby : c.code = code) (hml : c.maxLocals = 19) (hown : s.vm.findClass "com/example/faretally/faretally/ReasonEqualsPinLaw" = some m.cls) (e0 : T0.heap = h0) (N0 : Fr Z.heap.size locs) (hret : meth.sig.returnType = some .boolean) (hlk : meth.locks = false) :
    ∃ s₂ o, Steps p.tables e below (T0.setTop (mkF m 153 (own_T q1 q2 p3 1 ca cb cc 1 da db dc .unset .unset .unset .unset .unset .unset) [])) s₂ ∧ s₂.status = .running ∧ Ended s₂ below o ∧ ∃ v L, o = .returned v ∧ (v = some (.int (1 : Int32)) ∧ Fr Z.heap.size L) ∧ FrameEnd s o s₂ L room_1.cells room_1.slots := by
  obtain ⟨_, T145, Lc145, X145, hQ145, st145⟩ := own_static (y := y_7) X0 hx hZ hown (own_w hw 10 rfl) (own_w hw 11 rfl) (own_w hw 4 rfl) (own_w hw 12 rfl) (rm19 l Z a0 hw [] w_CS ca cb cc h0 Z0 S_w_CS hc42 hc1) e0 (g := (mkF m 161 (own_T q1 q2 p3 1 ca cb cc 1 da db dc .unset .unset .unset .unset .unset .unset) [(.int cc), (.int cb), (.int ca), (.int (1 : Int32))])) (argsL := [(.int (1 : Int32)), (.int ca), (.int cb), (.int cc)]) (rest := []) (W := 0) (lenOf pd_6 rfl) (hb hby at_161) hml
  obtain ⟨b146, b147, k148, rfl, N145q, K145q, szn_b146, szn_b147, q145_E_b146, q145_F_b146_coder, q145_F_b146_value, q145_V_b147⟩ := hQ145
  have g_b146 : Z.heap.size ≤ b146 := Nat.le_trans Z0.1 szn_b146
  have sz_b146 : h0.size ≤ b146 := Nat.le_trans (Keep.refl h0 []).1 szn_b146
  have g_b147 : Z.heap.size ≤ b147 := Nat.le_trans Z0.1 szn_b147
  have sz_b147 : h0.size ≤ b147 := Nat.le_trans (Keep.refl h0 []).1 szn_b147
  have K145 : Keep h0 T145.heap [] := (Keep.refl h0 []).trans K145q all0
  have XX145 : Ext Z.heap T145.heap := own_extK Z0 K145q all0
  have N145 := Fr.app N0 N145q
  obtain ⟨_, T149, Lc149, X149, hQ149, st149⟩ := own_static (y := y_7) X145 hx hZ hown (own_w hw 10 rfl) (own_w hw 11 rfl) (own_w hw 4 rfl) (own_w hw 12 rfl) (rm19 l Z a0 hw [] w_CS da db dc T145.heap XX145 S_w_CS hc43 hc1) rfl (g := (mkF m 174 (own_T q1 q2 p3 1 ca cb cc 1 da db dc (rv b146) .unset .unset .unset .unset .unset) [(.int dc), (.int db), (.int da), (.int (1 : Int32))])) (argsL := [(.int (1 : Int32)), (.int da), (.int db), (.int dc)]) (rest := []) (W := 0) (lenOf pd_6 rfl) (hb hby at_174) hml
  obtain ⟨b150, b151, k152, rfl, N149q, K149q, szn_b150, szn_b151, q149_E_b150, q149_F_b150_coder, q149_F_b150_value, q149_V_b151⟩ := hQ149
  have g_b150 : Z.heap.size ≤ b150 := Nat.le_trans XX145.1 szn_b150
  have sz_b150 : h0.size ≤ b150 := Nat.le_trans K145.1 szn_b150
  have g_b151 : Z.heap.size ≤ b151 := Nat.le_trans XX145.1 szn_b151
  have sz_b151 : h0.size ≤ b151 := Nat.le_trans K145.1 szn_b151
  have K149 : Keep h0 T149.heap [] := K145.trans K149q all0
  have XX149 : Ext Z.heap T149.heap := own_extK XX145 K149q all0
  have N149 := Fr.app N145 N149q
  obtain ⟨T153, h153, X153, e153, E153, A153, D153, -, st153⟩ := newO X149 hx hZ hown (own_w hw 43 rfl) (own_w hw 44 rfl) (own_w hw 45 rfl) rfl (g := (mkF m 226 (own_T q1 q2 p3 1 ca cb cc 1 da db dc (rv b146) (rv b150) (iv (1 : Int32)) .unset .unset .unset) [])) rfl (hb hby at_226) (by decide) (by decide)
  obtain ⟨b153, g153⟩ : ∃ z, z = T149.heap.size := ⟨_, rfl⟩
  rw [← g153] at A153 D153 st153
  have g_b153 : Z.heap.size ≤ b153 := Nat.le_trans XX149.1 (Nat.le_of_eq g153.symm)
  have sz_b153 : h0.size ≤ b153 := Nat.le_trans K149.1 (Nat.le_of_eq g153.symm)
  have F_b153_written : Fld Z h153 b153 "com/example/faretally/faretally/RefundRequest$Involuntary$Reason" "written" "Ljava/lang/String;" .null := D153 (Or.inr (own_w hw 96 rfl)) (ty := (.object "java/lang/String")) (by decide)
  have K153 : Keep h0 h153 [] := K149.ext E153
  have XX153 : Ext Z.heap h153 := own_ext2 XX149 E153
  obtain ⟨_, T154, Lc154, X154, hQ154, st154⟩ := own_special (y := y_18) X153 hx hZ hown rfl (own_w hw 46 rfl) (own_w hw 47 rfl) (own_w hw 45 rfl) (own_w hw 48 rfl) (rm62 l Z a0 hw [] w_CS w_SF ca b146 b147 k148 b153 h153 XX153 S_w_CS S_w_SF R_w_SF A153 F_b153_written ((q145_E_b146.keep K149q).ext E153) ((q145_F_b146_coder.keep K149q nin0).ext E153) ((q145_F_b146_value.keep K149q nin0).ext E153) ((q145_V_b147.keep K149q nin0).ext E153) g_b153 hc1 hc42 hc45) e153 b153 (g := (mkF m 232 (own_T q1 q2 p3 1 ca cb cc 1 da db dc (rv b146) (rv b150) (iv (1 : Int32)) .unset .unset .unset) [(.ref b146), (.ref b153), (.ref b153)])) (argsL := [(.ref b146)]) (rest := [(.ref b153)]) (W := 1) (lenOf pd_15 rfl) (hb hby at_232) hml
  obtain ⟨rfl, N154q, K154q, q154_E_b153, q154_F_b153_written⟩ := hQ154
  have K154 : Keep h0 T154.heap [] := K153.trans K154q (allS (Or.inr sz_b153) all0)
  have XX154 : Ext Z.heap T154.heap := own_extK XX153 K154q (allS g_b153 all0)
  have N154 := Fr.app N149 N154q
  obtain ⟨T155, h155, X155, e155, E155, A155, D155, -, st155⟩ := newO X154 hx hZ hown (own_w hw 43 rfl) (own_w hw 44 rfl) (own_w hw 45 rfl) rfl (g := (mkF m 237 (own_T q1 q2 p3 1 ca cb cc 1 da db dc (rv b146) (rv b150) (iv (1 : Int32)) (rv b153) .unset .unset) [])) rfl (hb hby at_237) (by decide) (by decide)
  obtain ⟨b155, g155⟩ : ∃ z, z = T154.heap.size := ⟨_, rfl⟩
  rw [← g155] at A155 D155 st155
  have g_b155 : Z.heap.size ≤ b155 := Nat.le_trans XX154.1 (Nat.le_of_eq g155.symm)
  have sz_b155 : h0.size ≤ b155 := Nat.le_trans K154.1 (Nat.le_of_eq g155.symm)
  have F_b155_written : Fld Z h155 b155 "com/example/faretally/faretally/RefundRequest$Involuntary$Reason" "written" "Ljava/lang/String;" .null := D155 (Or.inr (own_w hw 96 rfl)) (ty := (.object "java/lang/String")) (by decide)
  have K155 : Keep h0 h155 [] := K154.ext E155
  have XX155 : Ext Z.heap h155 := own_ext2 XX154 E155
  have ne_b150_b153 : b150 ≠ b153 := Nat.ne_of_lt (Nat.lt_of_lt_of_le q149_E_b150.lt (Nat.le_of_eq g153.symm))
  have f157_F_b150_coder : Fld Z h155 b150 "java/lang/String" "coder" "B" (.int (0 : Int32)) := (((q149_F_b150_coder.ext E153).keep K154q (ninS ne_b150_b153 (nin0))).ext E155)
  have f158_F_b150_value : Fld Z h155 b150 "java/lang/String" "value" "[B" (.ref b151) := (((q149_F_b150_value.ext E153).keep K154q (ninS ne_b150_b153 (nin0))).ext E155)
  have ne_b151_b153 : b151 ≠ b153 := Nat.ne_of_lt (Nat.lt_of_lt_of_le q149_V_b151.lt (Nat.le_of_eq g153.symm))
  have f159_V_b151 : Arv Z h155 b151 k152 .byte (1 : Int32) [(.int (da.toInt8.toInt32))] (.int (0 : Int32)) := (((q149_V_b151.ext E153).keep K154q (ninS ne_b151_b153 (nin0))).ext E155)
  obtain ⟨_, T156, Lc156, X156, hQ156, st156⟩ := own_special (y := y_18) X155 hx hZ hown rfl (own_w hw 46 rfl) (own_w hw 47 rfl) (own_w hw 45 rfl) (own_w hw 48 rfl) (rm62 l Z a0 hw [] w_CS w_SF da b150 b151 k152 b155 h155 XX155 S_w_CS S_w_SF R_w_SF A155 F_b155_written (((q149_E_b150.ext E153).keep K154q).ext E155) f157_F_b150_coder f158_F_b150_value f159_V_b151 g_b155 hc1 hc43 hc46) e155 b155 (g := (mkF m 243 (own_T q1 q2 p3 1 ca cb cc 1 da db dc (rv b146) (rv b150) (iv (1 : Int32)) (rv b153) .unset .unset) [(.ref b150), (.ref b155), (.ref b155)])) (argsL := [(.ref b150)]) (rest := [(.ref b155)]) (W := 1) (lenOf pd_15 rfl) (hb hby at_243) hml
  obtain ⟨rfl, N156q, K156q, q156_E_b155, q156_F_b155_written⟩ := hQ156
  have K156 : Keep h0 T156.heap [] := K155.trans K156q (allS (Or.inr sz_b155) all0)
  have XX156 : Ext Z.heap T156.heap := own_extK XX155 K156q (allS g_b155 all0)
  have N156 := Fr.app N154 N156q
  have ne_b153_b155 : b153 ≠ b155 := Nat.ne_of_lt (Nat.lt_of_lt_of_le q154_E_b153.lt (Nat.le_of_eq g155.symm))
  have f183_F_b153_written : Fld Z T156.heap b153 "com/example/faretally/faretally/RefundRequest$Involuntary$Reason" "written" "Ljava/lang/String;" (.ref b146) := ((q154_F_b153_written.ext E155).keep K156q (ninS ne_b153_b155 (nin0)))
  have f184_E_b146 : Exa Z T156.heap b146 "java/lang/String" := (((((q145_E_b146.keep K149q).ext E153).keep K154q).ext E155).keep K156q)
  have ne_b146_b153 : b146 ≠ b153 := Nat.ne_of_lt (Nat.lt_of_lt_of_le (q145_E_b146.keep K149q).lt (Nat.le_of_eq g153.symm))
  have ne_b146_b155 : b146 ≠ b155 := Nat.ne_of_lt (Nat.lt_of_lt_of_le (((q145_E_b146.keep K149q).ext E153).keep K154q).lt (Nat.le_of_eq g155.symm))
  have f185_F_b146_coder : Fld Z T156.heap b146 "java/lang/String" "coder" "B" (.int (0 : Int32)) := (((((q145_F_b146_coder.keep K149q nin0).ext E153).keep K154q (ninS ne_b146_b153 (nin0))).ext E155).keep K156q (ninS ne_b146_b155 (nin0)))
  have f186_F_b146_value : Fld Z T156.heap b146 "java/lang/String" "value" "[B" (.ref b147) := (((((q145_F_b146_value.keep K149q nin0).ext E153).keep K154q (ninS ne_b146_b153 (nin0))).ext E155).keep K156q (ninS ne_b146_b155 (nin0)))
  have ne_b150_b155 : b150 ≠ b155 := Nat.ne_of_lt (Nat.lt_of_lt_of_le ((q149_E_b150.ext E153).keep K154q).lt (Nat.le_of_eq g155.symm))
  have ne_b147_b153 : b147 ≠ b153 := Nat.ne_of_lt (Nat.lt_of_lt_of_le (q145_V_b147.keep K149q nin0).lt (Nat.le_of_eq g153.symm))
  have ne_b147_b155 : b147 ≠ b155 := Nat.ne_of_lt (Nat.lt_of_lt_of_le (((q145_V_b147.keep K149q nin0).ext E153).keep K154q (ninS ne_b147_b153 (nin0))).lt (Nat.le_of_eq g155.symm))
  have f187_V_b147 : Arv Z T156.heap b147 k148 .byte (1 : Int32) [(.int (ca.toInt8.toInt32))] (.int (0 : Int32)) := (((((q145_V_b147.keep K149q nin0).ext E153).keep K154q (ninS ne_b147_b153 (nin0))).ext E155).keep K156q (ninS ne_b147_b155 (nin0)))
  have ne_b151_b155 : b151 ≠ b155 := Nat.ne_of_lt (Nat.lt_of_lt_of_le ((q149_V_b151.ext E153).keep K154q (ninS ne_b151_b153 (nin0))).lt (Nat.le_of_eq g155.symm))
  have ne_b146_b150 : b146 ≠ b150 := Nat.ne_of_lt (Nat.lt_of_lt_of_le q145_E_b146.lt szn_b150)
  obtain ⟨_, T182, Lc182, X182, hQ182, st182⟩ := own_virtual (y := y_21) X156 hx hZ hown (own_w hw 97 rfl) (own_w hw 98 rfl) (own_w hw 100 rfl) (own_w hw 99 rfl) (own_w hw 45 rfl) (own_w hw 101 rfl) (rm160 l Z a0 hw [] w_CS ca da b146 b147 k148 b150 b151 k152 b153 b155 T156.heap XX156 S_w_CS f183_F_b153_written q156_E_b155 q156_F_b155_written f184_E_b146 f185_F_b146_coder f186_F_b146_value ((((q149_E_b150.ext E153).keep K154q).ext E155).keep K156q) (f157_F_b150_coder.keep K156q (ninS ne_b150_b155 (nin0))) (f158_F_b150_value.keep K156q (ninS ne_b150_b155 (nin0))) f187_V_b147 (f159_V_b151.keep K156q (ninS ne_b151_b155 (nin0))) ne_b146_b150 hc1 hc52) rfl ((q154_E_b153.ext E155).keep K156q) (g := (mkF m 252 (own_T q1 q2 p3 1 ca cb cc 1 da db dc (rv b146) (rv b150) (iv (1 : Int32)) (rv b153) (rv b155) .unset) [(.ref b155), (.ref b153)])) (argsL := [(.ref b155)]) (rest := []) (W := 0) (lenOf pd_17 rfl) (hb hby at_252) hml
  obtain ⟨rfl, N182q, e182⟩ := hQ182
  have N182 := Fr.app N156 N182q
  obtain ⟨_, T188, Lc188, X188, hQ188, st188⟩ := own_virtual (y := y_21) X182 hx hZ hown (own_w hw 97 rfl) (own_w hw 98 rfl) (own_w hw 100 rfl) (own_w hw 99 rfl) (own_w hw 45 rfl) (own_w hw 101 rfl) (rm160 l Z a0 hw [] w_CS da ca b150 b151 k152 b146 b147 k148 b155 b153 T156.heap XX156 S_w_CS q156_F_b155_written ((q154_E_b153.ext E155).keep K156q) f183_F_b153_written ((((q149_E_b150.ext E153).keep K154q).ext E155).keep K156q) (f157_F_b150_coder.keep K156q (ninS ne_b150_b155 (nin0))) (f158_F_b150_value.keep K156q (ninS ne_b150_b155 (nin0))) f184_E_b146 f185_F_b146_coder f186_F_b146_value (f159_V_b151.keep K156q (ninS ne_b151_b155 (nin0))) f187_V_b147 (Ne.symm ne_b146_b150) hc1 hc53) e182 q156_E_b155 (g := (mkF m 276 (own_T q1 q2 p3 1 ca cb cc 1 da db dc (rv b146) (rv b150) (iv (1 : Int32)) (rv b153) (rv b155) (iv (1 : Int32))) [(.ref b153), (.ref b155)])) (argsL := [(.ref b153)]) (rest := []) (W := 0) (lenOf pd_17 rfl) (hb hby at_276) hml
  obtain ⟨rfl, N188q, e188⟩ := hQ188
  have N188 := Fr.app N182 N188q
  obtain ⟨_, T189, Lc189, X189, hQ189, st189⟩ := own_virtual (y := y_21) X188 hx hZ hown (own_w hw 97 rfl) (own_w hw 98 rfl) (own_w hw 100 rfl) (own_w hw 99 rfl) (own_w hw 45 rfl) (own_w hw 101 rfl) (rm132 l Z a0 hw [] b146 b153 T156.heap XX156 ((q154_E_b153.ext E155).keep K156q) f183_F_b153_written f184_E_b146) e188 ((q154_E_b153.ext E155).keep K156q) (g := (mkF m 300 (own_T q1 q2 p3 1 ca cb cc 1 da db dc (rv b146) (rv b150) (iv (1 : Int32)) (rv b153) (rv b155) (iv (1 : Int32))) [(.ref b153), (.ref b153)])) (argsL := [(.ref b153)]) (rest := []) (W := 0) (lenOf pd_17 rfl) (hb hby at_300) hml
  obtain ⟨rfl, N189q, e189⟩ := hQ189
  have N189 := Fr.app N188 N189q
  obtain ⟨_, T190, Lc190, X190, hQ190, st190⟩ := own_virtual (y := y_21) X189 hx hZ hown (own_w hw 97 rfl) (own_w hw 98 rfl) (own_w hw 100 rfl) (own_w hw 99 rfl) (own_w hw 45 rfl) (own_w hw 101 rfl) (rm140 l Z a0 hw [] b146 b153 T156.heap XX156 f184_E_b146) e189 ((q154_E_b153.ext E155).keep K156q) (g := (mkF m 322 (own_T q1 q2 p3 1 ca cb cc 1 da db dc (rv b146) (rv b150) (iv (1 : Int32)) (rv b153) (rv b155) (iv (1 : Int32))) [(.ref b146), (.ref b153)])) (argsL := [(.ref b146)]) (rest := []) (W := 0) (lenOf pd_17 rfl) (hb hby at_322) hml
  obtain ⟨rfl, N190q, e190⟩ := hQ190
  have N190 := Fr.app N189 N190q
  obtain ⟨_, T191, Lc191, X191, hQ191, st191⟩ := own_virtual (y := y_21) X190 hx hZ hown (own_w hw 97 rfl) (own_w hw 98 rfl) (own_w hw 100 rfl) (own_w hw 99 rfl) (own_w hw 45 rfl) (own_w hw 101 rfl) (rm143 l Z a0 hw [] b153 T156.heap XX156 ) e190 ((q154_E_b153.ext E155).keep K156q) (g := (mkF m 343 (own_T q1 q2 p3 1 ca cb cc 1 da db dc (rv b146) (rv b150) (iv (1 : Int32)) (rv b153) (rv b155) (iv (1 : Int32))) [.null, (.ref b153)])) (argsL := [.null]) (rest := []) (W := 0) (lenOf pd_17 rfl) (hb hby at_343) hml
  obtain ⟨rfl, N191q, e191⟩ := hQ191
  have N191 := Fr.app N190 N191q
  obtain ⟨fs, hr, hrun, hended, hW, hsame⟩ := X191.leave (v := some (.int (1 : Int32))) (fun h => by rw [hret] at h; cases h) hlk
  refine ⟨_, _, ?_, hrun, hended, _, _, rfl, ⟨rfl, N191⟩, ⟨_, rfl⟩, hW, hsame.mono (by decide) (by decide)⟩
  show own_S p e below T0 (mkF m 153 (own_T q1 q2 p3 1 ca cb cc 1 da db dc .unset .unset .unset .unset .unset .unset) []) _
  refine own_i X0 hx hby at_153 ?_
  refine own_i X0 hx hby at_155 ?_
  refine own_i X0 hx hby at_157 ?_
  refine own_i X0 hx hby at_159 ?_
  refine st145 _ ?_
  refine XS.astore X145.here hx rfl (hb hby at_164) rfl rfl (l' := (own_T q1 q2 p3 1 ca cb cc 1 da db dc (rv b146) .unset .unset .unset .unset .unset)) rfl ?_
  refine own_i X145 hx hby at_166 ?_
  refine own_i X145 hx hby at_168 ?_
  refine own_i X145 hx hby at_170 ?_
  refine own_i X145 hx hby at_172 ?_
  refine st149 _ ?_
  refine XS.astore X149.here hx rfl (hb hby at_177) rfl rfl (l' := (own_T q1 q2 p3 1 ca cb cc 1 da db dc (rv b146) (rv b150) .unset .unset .unset .unset)) rfl ?_
  refine own_i X149 hx hby at_179 ?_
  refine own_i X149 hx hby at_181 ?_
  refine own_cn X149 hx hby at_183 (teq (rfl : (1 : Int32) = (1 : Int32))).2 ?_
  refine own_i X149 hx hby at_186 ?_
  refine own_i X149 hx hby at_188 ?_
  refine own_cn X149 hx hby at_190 (teq hc50).2 ?_
  refine own_i X149 hx hby at_193 ?_
  refine own_k X149 hx hby at_195 ?_
  refine own_cy (pc := 196) X149 hx hby at_196 (tlt (by decide : (1 : Int32) < (2 : Int32))).1 206 ?_
  refine own_i X149 hx hby at_206 ?_
  refine own_k X149 hx hby at_208 ?_
  refine own_cy (pc := 209) X149 hx hby at_209 (tlt (by decide : (1 : Int32) < (3 : Int32))).1 219 ?_
  refine own_k X149 hx hby at_219 ?_
  refine own_go (pc := 220) X149 hx hby at_220 224 ?_
  refine XS.istore X149.here hx rfl (hb hby at_224) rfl (l' := (own_T q1 q2 p3 1 ca cb cc 1 da db dc (rv b146) (rv b150) (iv (1 : Int32)) .unset .unset .unset)) rfl ?_
  refine st153 _ ?_
  refine XS.dup X153.here hx rfl (hb hby at_229) rfl rfl ?_
  refine own_a X153 hx hby at_230 ?_
  refine st154 _ ?_
  refine XS.astore X154.here hx rfl (hb hby at_235) rfl rfl (l' := (own_T q1 q2 p3 1 ca cb cc 1 da db dc (rv b146) (rv b150) (iv (1 : Int32)) (rv b153) .unset .unset)) rfl ?_
  refine st155 _ ?_
  refine XS.dup X155.here hx rfl (hb hby at_240) rfl rfl ?_
  refine own_a X155 hx hby at_241 ?_
  refine st156 _ ?_
  refine XS.astore X156.here hx rfl (hb hby at_246) rfl rfl (l' := (own_T q1 q2 p3 1 ca cb cc 1 da db dc (rv b146) (rv b150) (iv (1 : Int32)) (rv b153) (rv b155) .unset)) rfl ?_
  refine own_a X156 hx hby at_248 ?_
  refine own_a X156 hx hby at_250 ?_
  refine st182 _ ?_
  refine own_i X182 hx hby at_255 ?_
  refine own_cn X182 hx hby at_257 (teq (rfl : (1 : Int32) = (1 : Int32))).2 ?_
  refine own_k X182 hx hby at_260 ?_
  refine own_go (pc := 261) X182 hx hby at_261 265 ?_
  refine XS.istore X182.here hx rfl (hb hby at_265) rfl (l' := (own_T q1 q2 p3 1 ca cb cc 1 da db dc (rv b146) (rv b150) (iv (1 : Int32)) (rv b153) (rv b155) (iv (1 : Int32)))) rfl ?_
  refine own_i X182 hx hby at_267 ?_
  refine own_in X182 hx hby at_269 (feq (by decide : ¬ ((1 : Int32) = (0 : Int32)))).1 ?_
  refine own_a X182 hx hby at_272 ?_
  refine own_a X182 hx hby at_274 ?_
  refine st188 _ ?_
  refine own_i X188 hx hby at_279 ?_
  refine own_cn X188 hx hby at_281 (teq (rfl : (1 : Int32) = (1 : Int32))).2 ?_
  refine own_k X188 hx hby at_284 ?_
  refine own_go (pc := 285) X188 hx hby at_285 289 ?_
  refine XS.istore X188.here hx rfl (hb hby at_289) rfl (l' := (own_T q1 q2 p3 1 ca cb cc 1 da db dc (rv b146) (rv b150) (iv (1 : Int32)) (rv b153) (rv b155) (iv (1 : Int32)))) rfl ?_
  refine own_i X188 hx hby at_291 ?_
  refine own_in X188 hx hby at_293 (feq (by decide : ¬ ((1 : Int32) = (0 : Int32)))).1 ?_
  refine own_a X188 hx hby at_296 ?_
  refine own_a X188 hx hby at_298 ?_
  refine st189 _ ?_
  refine own_in X189 hx hby at_303 (feq (by decide : ¬ ((1 : Int32) = (0 : Int32)))).1 ?_
  refine own_k X189 hx hby at_306 ?_
  refine own_go (pc := 307) X189 hx hby at_307 311 ?_
  refine XS.istore X189.here hx rfl (hb hby at_311) rfl (l' := (own_T q1 q2 p3 1 ca cb cc 1 da db dc (rv b146) (rv b150) (iv (1 : Int32)) (rv b153) (rv b155) (iv (1 : Int32)))) rfl ?_
  refine own_i X189 hx hby at_313 ?_
  refine own_in X189 hx hby at_315 (feq (by decide : ¬ ((1 : Int32) = (0 : Int32)))).1 ?_
  refine own_a X189 hx hby at_318 ?_
  refine own_a X189 hx hby at_320 ?_
  refine st190 _ ?_
  refine own_in X190 hx hby at_325 (teq (rfl : (0 : Int32) = (0 : Int32))).2 ?_
  refine own_k X190 hx hby at_328 ?_
  refine own_go (pc := 329) X190 hx hby at_329 333 ?_
  refine XS.istore X190.here hx rfl (hb hby at_333) rfl (l' := (own_T q1 q2 p3 1 ca cb cc 1 da db dc (rv b146) (rv b150) (iv (1 : Int32)) (rv b153) (rv b155) (iv (1 : Int32)))) rfl ?_
  refine own_i X190 hx hby at_335 ?_
  refine own_in X190 hx hby at_337 (feq (by decide : ¬ ((1 : Int32) = (0 : Int32)))).1 ?_
  refine own_a X190 hx hby at_340 ?_
  refine XS.aconstNull X190.here hx rfl (hb hby at_342) ?_
  refine st191 _ ?_
  refine own_in X191 hx hby at_346 (teq (rfl : (0 : Int32) = (0 : Int32))).2 ?_
  refine own_k X191 hx hby at_349 ?_
  refine own_go (pc := 350) X191 hx hby at_350 354 ?_
  refine XS.istore X191.here hx rfl (hb hby at_354) rfl (l' := (own_T q1 q2 p3 1 ca cb cc 1 da db dc (rv b146) (rv b150) (iv (1 : Int32)) (rv b153) (rv b155) (iv (1 : Int32)))) rfl ?_
  refine own_i X191 hx hby at_356 ?_
  exact retN X191 hx (t := .boolean) hret (by simp) (hb hby at_358) hr
def Qrm210 (Z : State) (da db : Int32) (b198 : Addr) (k198 : ClassId) (b209 : Addr) (k209 : ClassId) (h0 : Heap) (v : Option Value) (h : Heap) (L : List Loc) : Prop := v = some (.int (2 : Int32)) ∧ Fr Z.heap.size L ∧ Keep h0 h [b209] ∧ Arv Z h b209 k209 .byte (2 : Int32) [(.int (da.toInt8.toInt32)), (.int (db.toInt8.toInt32))] (.int (0 : Int32))
theorem rm210 (l : Launch) (Z : State) (a0 : Array Value) (hw : own_HW Z a0) (ws : List Jvm.Cond) (da db : Int32) (b198 : Addr) (k198 : ClassId) (b209 : Addr) (k209 : ClassId) (h0 : Heap) (Z0 : Ext Z.heap h0) (V_b198 : Arv Z h0 b198 k198 .char (2 : Int32) [(.int da), (.int db)] (.int (0 : Int32))) (V_b209 : Arv Z h0 b209 k209 .byte (2 : Int32) [(.int (0 : Int32)), (.int (0 : Int32))] (.int (0 : Int32))) (g_b209 : Z.heap.size ≤ b209) (hc43 : own_ch da) (hc55 : b198 ≠ b209) (hc54 : own_ch db) :
    own_met l y_2 jdk_52_method_21_code 7 (some .int) ws ({ frames := 0, cells := 0, slots := 0, locals := 0 } : Room) Z #[(.ref b198), (.int (0 : Int32)), (.ref b209), (.int (0 : Int32)), (.int (2 : Int32))] h0 (Qrm210 Z da db b198 k198 b209 k209 h0) := by
  refine own_start (plainFor_of_name pn_1) (fun m => ef_jdk_52_method_21_RIRII m b198 (0 : Int32) b209 (0 : Int32) (2 : Int32)) ?_
  intro p e s m below meth c s₁ hx hby hml hown hnm X0 hZ e0 hret hlk
  have N0 := Fr.nil Z.heap.size
  obtain ⟨cl211, Ar211, q211, S211, Nn211, H211, G211⟩ := id V_b198
  have hin211 : ¬ ((0 : Int32) < 0 ∨ cl211.slots.size ≤ ((0 : Int32)).toNatClampNeg) := inb_of S211 ⟨by decide, by decide⟩
  have hat211 : cl211.slots[((0 : Int32)).toNatClampNeg]? = some (.int da) := Has.at H211 hin211 rfl
  obtain ⟨cl212, Ar212, q212, S212, Nn212, H212, G212⟩ := id V_b209
  have hin212 : ¬ ((0 : Int32) < 0 ∨ cl212.slots.size ≤ ((0 : Int32)).toNatClampNeg) := inb_of S212 ⟨by decide, by decide⟩
  obtain ⟨T213, h213, X213, e213, W213, st213⟩ := stB X0 hx hZ e0 Ar212 (j := (0 : Int32)) hin212 (g := (mkF m 31 #[rv b198, iv (0 : Int32), rv b209, iv (0 : Int32), iv (2 : Int32), iv (0 : Int32), iv da] [(.int (da.toInt8.toInt32)), (.int (0 : Int32)), (.ref b209)])) rfl rfl (hb hby d8_31)
  rw [own_nb] at W213
  have V213 : Arv Z h213 b209 k209 .byte (2 : Int32) [(.int (da.toInt8.toInt32)), (.int (0 : Int32))] (.int (0 : Int32)) := Arv.set Ar212 q212 S212 Nn212 H212 G212 (fits_nar_byte _) W213 0 rfl (Nat.le_of_ble_eq_true rfl)
  have K213 : Keep h0 h213 [b209] := (Keep.refl h0 [b209]).wr W213 (Or.inl (List.mem_of_getElem? (i := 0) rfl))
  have XX213 : Ext Z.heap h213 := own_extW Z0 W213 g_b209
  have N213 := Fr.snoc X213 N0 g_b209
  obtain ⟨cl214, Ar214, q214, S214, Nn214, H214, G214⟩ := id (V_b198.other W213 hc55)
  have hin214 : ¬ ((1 : Int32) < 0 ∨ cl214.slots.size ≤ ((1 : Int32)).toNatClampNeg) := inb_of S214 ⟨by decide, by decide⟩
  have hat214 : cl214.slots[((1 : Int32)).toNatClampNeg]? = some (.int db) := Has.at H214 hin214 rfl
  obtain ⟨cl215, Ar215, q215, S215, Nn215, H215, G215⟩ := id V213
  have hin215 : ¬ ((1 : Int32) < 0 ∨ cl215.slots.size ≤ ((1 : Int32)).toNatClampNeg) := inb_of S215 ⟨by decide, by decide⟩
  obtain ⟨T216, h216, X216, e216, W216, st216⟩ := stB X213 hx hZ e213 Ar215 (j := (1 : Int32)) hin215 (g := (mkF m 31 #[rv b198, iv (1 : Int32), rv b209, iv (1 : Int32), iv (2 : Int32), iv (1 : Int32), iv db] [(.int (db.toInt8.toInt32)), (.int (1 : Int32)), (.ref b209)])) rfl rfl (hb hby d8_31)
  rw [own_nb] at W216
  have V216 : Arv Z h216 b209 k209 .byte (2 : Int32) [(.int (da.toInt8.toInt32)), (.int (db.toInt8.toInt32))] (.int (0 : Int32)) := Arv.set Ar215 q215 S215 Nn215 H215 G215 (fits_nar_byte _) W216 1 rfl (Nat.le_of_ble_eq_true rfl)
  have K216 : Keep h0 h216 [b209] := K213.wr W216 (Or.inl (List.mem_of_getElem? (i := 0) rfl))
  have XX216 : Ext Z.heap h216 := own_extW XX213 W216 g_b209
  have N216 := Fr.snoc X216 N213 g_b209
  obtain ⟨fs, hr, hrun, hended, hW, hsame⟩ := X216.leave (v := some (.int (2 : Int32))) (fun h => by rw [hret] at h; cases h) hlk
  refine ⟨_, _, ?_, hrun, hended, _, _, rfl, ?_, ⟨_, rfl⟩, hW, hsame.mono (by decide) (by decide)⟩
  · show own_S p e below s₁ (mkF m 0 #[rv b198, iv (0 : Int32), rv b209, iv (0 : Int32), iv (2 : Int32), .unset, .unset] []) _
    refine own_k X0 hx hby d8_0 ?_
    refine XS.istore X0.here hx rfl (hb hby d8_1) rfl (l' := #[rv b198, iv (0 : Int32), rv b209, iv (0 : Int32), iv (2 : Int32), iv (0 : Int32), .unset]) rfl ?_
    refine own_i X0 hx hby d8_3 ?_
    refine own_i X0 hx hby d8_5 ?_
    refine own_cn X0 hx hby d8_7 (tlt (by decide : (0 : Int32) < (2 : Int32))).2.1 ?_
    refine own_aN X0 hx hby d8_10 ?_
    refine own_iN X0 hx hby d8_11 ?_
    refine X0.caload hx (j := (0 : Int32)) (v := (.int da)) (by rw [e0]; exact Ar211.1) (State.isArrayOf_alike hZ.alike Ar211.2.1) Ar211.2.2 hin211 hat211 (g := (mkF m 12 #[rv b198, iv (0 : Int32), rv b209, iv (0 : Int32), iv (2 : Int32), iv (0 : Int32), .unset] [(.int (0 : Int32)), (.ref b198)])) rfl rfl (hb hby d8_12) _ ?_
    refine XS.istore X0.here hx rfl (hb hby d8_13) rfl (l' := #[rv b198, iv (0 : Int32), rv b209, iv (0 : Int32), iv (2 : Int32), iv (0 : Int32), iv da]) rfl ?_
    refine own_i X0 hx hby d8_15 ?_
    refine XS.sipush X0.here hx rfl (hb hby d8_17) ?_
    refine own_cy (pc := 20) X0 hx hby d8_20 (flt (own_n255 hc43)).2.2.2 26 ?_
    refine own_aN X0 hx hby d8_26 ?_
    refine own_iN X0 hx hby d8_27 ?_
    refine own_i X0 hx hby d8_28 ?_
    refine XS.i2b X0.here hx rfl (hb hby d8_30) rfl ?_
    refine st213 _ ?_
    refine XS.iinc X213.here hx rfl (hb hby d8_32) rfl (l' := #[rv b198, iv (1 : Int32), rv b209, iv (0 : Int32), iv (2 : Int32), iv (0 : Int32), iv da]) rfl ?_
    refine XS.iinc X213.here hx rfl (hb hby d8_35) rfl (l' := #[rv b198, iv (1 : Int32), rv b209, iv (1 : Int32), iv (2 : Int32), iv (0 : Int32), iv da]) rfl ?_
    refine XS.iinc X213.here hx rfl (hb hby d8_38) rfl (l' := #[rv b198, iv (1 : Int32), rv b209, iv (1 : Int32), iv (2 : Int32), iv (1 : Int32), iv da]) rfl ?_
    refine own_go (pc := 41) X213 hx hby d8_41 3 ?_
    refine own_i X213 hx hby d8_3 ?_
    refine own_i X213 hx hby d8_5 ?_
    refine own_cn X213 hx hby d8_7 (tlt (by decide : (1 : Int32) < (2 : Int32))).2.1 ?_
    refine own_aN X213 hx hby d8_10 ?_
    refine own_iN X213 hx hby d8_11 ?_
    refine X213.caload hx (j := (1 : Int32)) (v := (.int db)) (by rw [e213]; exact Ar214.1) (State.isArrayOf_alike hZ.alike Ar214.2.1) Ar214.2.2 hin214 hat214 (g := (mkF m 12 #[rv b198, iv (1 : Int32), rv b209, iv (1 : Int32), iv (2 : Int32), iv (1 : Int32), iv da] [(.int (1 : Int32)), (.ref b198)])) rfl rfl (hb hby d8_12) _ ?_
    refine XS.istore X213.here hx rfl (hb hby d8_13) rfl (l' := #[rv b198, iv (1 : Int32), rv b209, iv (1 : Int32), iv (2 : Int32), iv (1 : Int32), iv db]) rfl ?_
    refine own_i X213 hx hby d8_15 ?_
    refine XS.sipush X213.here hx rfl (hb hby d8_17) ?_
    refine own_cy (pc := 20) X213 hx hby d8_20 (flt (own_n255 hc54)).2.2.2 26 ?_
    refine own_aN X213 hx hby d8_26 ?_
    refine own_iN X213 hx hby d8_27 ?_
    refine own_i X213 hx hby d8_28 ?_
    refine XS.i2b X213.here hx rfl (hb hby d8_30) rfl ?_
    refine st216 _ ?_
    refine XS.iinc X216.here hx rfl (hb hby d8_32) rfl (l' := #[rv b198, iv (2 : Int32), rv b209, iv (1 : Int32), iv (2 : Int32), iv (1 : Int32), iv db]) rfl ?_
    refine XS.iinc X216.here hx rfl (hb hby d8_35) rfl (l' := #[rv b198, iv (2 : Int32), rv b209, iv (2 : Int32), iv (2 : Int32), iv (1 : Int32), iv db]) rfl ?_
    refine XS.iinc X216.here hx rfl (hb hby d8_38) rfl (l' := #[rv b198, iv (2 : Int32), rv b209, iv (2 : Int32), iv (2 : Int32), iv (2 : Int32), iv db]) rfl ?_
    refine own_go (pc := 41) X216 hx hby d8_41 3 ?_
    refine own_i X216 hx hby d8_3 ?_
    refine own_i X216 hx hby d8_5 ?_
    refine own_cy (pc := 7) X216 hx hby d8_7 (flt (Int32.lt_irrefl : ¬ ((2 : Int32) < (2 : Int32)))).2.1 44 ?_
    refine own_i X216 hx hby d8_44 ?_
    exact retI X216 hx hret (hb hby d8_46) hr
  · show Qrm210 Z da db b198 k198 b209 k209 h0 _ T216.heap _
    rw [e216]
    exact ⟨rfl, N216, K216, V216⟩
def Qrm208 (Z : State) (da db : Int32) (b198 : Addr) (k198 : ClassId) (h0 : Heap) (v : Option Value) (h : Heap) (L : List Loc) : Prop := ∃ b209 : Addr, ∃ k209 : ClassId, v = some (.ref b209) ∧ Fr Z.heap.size L ∧ Keep h0 h [] ∧ h0.size ≤ b209 ∧ Arv Z h b209 k209 .byte (2 : Int32) [(.int (da.toInt8.toInt32)), (.int (db.toInt8.toInt32))] (.int (0 : Int32))
theorem rm208 (l : Launch) (Z : State) (a0 : Array Value) (hw : own_HW Z a0) (ws : List Jvm.Cond) (da db : Int32) (b198 : Addr) (k198 : ClassId) (h0 : Heap) (Z0 : Ext Z.heap h0) (V_b198 : Arv Z h0 b198 k198 .char (2 : Int32) [(.int da), (.int db)] (.int (0 : Int32))) (hc43 : own_ch da) (hc54 : own_ch db) :
    own_met l y_3 jdk_52_method_16_code 6 (some (.array .byte)) ws ({ frames := 1, cells := 1, slots := 2, locals := 18 } : Room) Z #[(.ref b198), (.int (0 : Int32)), (.int (2 : Int32))] h0 (Qrm208 Z da db b198 k198 h0) := by
  refine own_start (plainFor_of_name pn_1) (fun m => ef_jdk_52_method_16_RII m b198 (0 : Int32) (2 : Int32)) ?_
  intro p e s m below meth c s₁ hx hby hml hown hnm X0 hZ e0 hret hlk
  have N0 := Fr.nil Z.heap.size
  obtain ⟨T209, h209, k209, X209, e209, E209, A209, st209⟩ := newP X0 hx hZ (own_w hw 32 rfl) e0 (g := (mkF m 1 #[rv b198, iv (0 : Int32), iv (2 : Int32), .unset, .unset, .unset] [(.int (2 : Int32))])) rfl (hb hby d7_1) rfl (by decide) (cap := 2) (by decide) (by decide) (by decide) (by decide)
  obtain ⟨b209, g209⟩ : ∃ z, z = h0.size := ⟨_, rfl⟩
  rw [← g209] at A209 st209
  have g_b209 : Z.heap.size ≤ b209 := Nat.le_trans Z0.1 (Nat.le_of_eq g209.symm)
  have sz_b209 : h0.size ≤ b209 := Nat.le_trans (Keep.refl h0 []).1 (Nat.le_of_eq g209.symm)
  have V_b209 : Arv Z h209 b209 k209 .byte (2 : Int32) [(.int (0 : Int32)), (.int (0 : Int32))] (.int (0 : Int32)) := (Arv.new A209 (by decide)).pad (pad_rep [] (.int (0 : Int32)) 2)
  have K209 : Keep h0 h209 [] := (Keep.refl h0 []).ext E209
  have XX209 : Ext Z.heap h209 := own_ext2 Z0 E209
  have ne_b198_b209 : b198 ≠ b209 := Nat.ne_of_lt (Nat.lt_of_lt_of_le V_b198.lt (Nat.le_of_eq g209.symm))
  obtain ⟨_, T217, Lc217, X217, hQ217, st217⟩ := own_static (y := y_2) X209 hx hZ hown (own_w hw 33 rfl) (own_w hw 34 rfl) (own_w hw 30 rfl) (own_w hw 35 rfl) (rm210 l Z a0 hw [] da db b198 k198 b209 k209 h209 XX209 (V_b198.ext E209) V_b209 g_b209 hc43 ne_b198_b209 hc54) e209 (g := (mkF m 9 #[rv b198, iv (0 : Int32), iv (2 : Int32), rv b209, .unset, .unset] [(.int (2 : Int32)), (.int (0 : Int32)), (.ref b209), (.int (0 : Int32)), (.ref b198)])) (argsL := [(.ref b198), (.int (0 : Int32)), (.ref b209), (.int (0 : Int32)), (.int (2 : Int32))]) (rest := []) (W := 0) (lenOf pd_1 rfl) (hb hby d7_9) hml
  obtain ⟨rfl, N217q, K217q, q217_V_b209⟩ := hQ217
  have K217 : Keep h0 T217.heap [] := K209.trans K217q (allS (Or.inr sz_b209) all0)
  have XX217 : Ext Z.heap T217.heap := own_extK XX209 K217q (allS g_b209 all0)
  have N217 := Fr.app N0 N217q
  obtain ⟨fs, hr, hrun, hended, hW, hsame⟩ := X217.leave (v := some (.ref b209)) (fun h => by rw [hret] at h; cases h) hlk
  refine ⟨_, _, ?_, hrun, hended, _, _, rfl, ?_, ⟨_, rfl⟩, hW, hsame.mono (by decide) (by decide)⟩
  · show own_S p e below s₁ (mkF m 0 #[rv b198, iv (0 : Int32), iv (2 : Int32), .unset, .unset, .unset] []) _
    refine own_iN X0 hx hby d7_0 ?_
    refine st209 _ ?_
    refine XS.astoreN X209.here hx rfl (hb hby d7_3) rfl rfl (l' := #[rv b198, iv (0 : Int32), iv (2 : Int32), rv b209, .unset, .unset]) rfl ?_
    refine own_aN X209 hx hby d7_4 ?_
    refine own_iN X209 hx hby d7_5 ?_
    refine own_aN X209 hx hby d7_6 ?_
    refine own_k X209 hx hby d7_7 ?_
    refine own_iN X209 hx hby d7_8 ?_
    refine st217 _ ?_
    refine XS.istore X217.here hx rfl (hb hby d7_12) rfl (l' := #[rv b198, iv (0 : Int32), iv (2 : Int32), rv b209, iv (2 : Int32), .unset]) rfl ?_
    refine own_i X217 hx hby d7_14 ?_
    refine own_iN X217 hx hby d7_16 ?_
    refine own_cy (pc := 17) X217 hx hby d7_17 (teq (rfl : (2 : Int32) = (2 : Int32))).1 57 ?_
    refine own_aN X217 hx hby d7_57 ?_
    jvm_step X217.here [X217.here.top, hx, (hb hby d7_58), X217.method', hret, Value.isRef, FieldType.isReference]
    first | (intro acts; rw [hr _ acts rfl rfl rfl]) | rw [hr _ _ rfl rfl rfl]
    exact Steps.refl _
  · show Qrm208 Z da db b198 k198 h0 _ T217.heap _
    exact ⟨b209, k209, rfl, N217, K217, sz_b209, q217_V_b209⟩
def Qrm221 (Z : State) (da db : Int32) (b219 : Addr) (k220 : ClassId) (h0 : Heap) (v : Option Value) (h : Heap) (L : List Loc) : Prop := v = some (.int (0 : Int32)) ∧ Fr Z.heap.size L ∧ h = h0
theorem rm221 (l : Launch) (Z : State) (a0 : Array Value) (hw : own_HW Z a0) (ws : List Jvm.Cond) (da db : Int32) (b219 : Addr) (k220 : ClassId) (h0 : Heap) (Z0 : Ext Z.heap h0) (V_b219 : Arv Z h0 b219 k220 .byte (2 : Int32) [(.int (da.toInt8.toInt32)), (.int (db.toInt8.toInt32))] (.int (0 : Int32))) :
    own_met l y_4 jdk_52_method_15_code 2 (some .byte) ws ({ frames := 0, cells := 0, slots := 0, locals := 0 } : Room) Z #[(.ref b219), (.int (2 : Int32))] h0 (Qrm221 Z da db b219 k220 h0) := by
  refine own_start (plainFor_of_name pn_1) (fun m => ef_jdk_52_method_15_RI m b219 (2 : Int32)) ?_
  intro p e s m below meth c s₁ hx hby hml hown hnm X0 hZ e0 hret hlk
  have N0 := Fr.nil Z.heap.size
  obtain ⟨cl222, Ar222, q222, S222, Nn222, H222, G222⟩ := id V_b219
  obtain ⟨fs, hr, hrun, hended, hW, hsame⟩ := X0.leave (v := some (.int (0 : Int32))) (fun h => by rw [hret] at h; cases h) hlk
  refine ⟨_, _, ?_, hrun, hended, _, _, rfl, ?_, ⟨_, rfl⟩, hW, hsame.mono (by decide) (by decide)⟩
  · show own_S p e below s₁ (mkF m 0 #[rv b219, iv (2 : Int32)] []) _
    refine own_iN X0 hx hby d9_0 ?_
    refine own_aN X0 hx hby d9_1 ?_
    refine X0.arraylength hx (by rw [e0]; exact Ar222.1) (State.isArrayOf_alike hZ.alike Ar222.2.1) (g := (mkF m 2 #[rv b219, iv (2 : Int32)] [(.ref b219), (.int (2 : Int32))])) rfl rfl (hb hby d9_2) _ ?_
    rw [len_of S222 Nn222]
    refine XS.isub X0.here hx rfl (hb hby d9_3) rfl ?_
    show own_S p e below s₁ (mkF m 4 #[rv b219, iv (2 : Int32)] [(.int ((2 : Int32) - (2 : Int32)))]) _
    rw [(by decide : ((2 : Int32) - (2 : Int32)) = (0 : Int32))]
    refine XS.bipush X0.here hx rfl (hb hby d9_4) ?_
    refine XS.iushr X0.here hx rfl (hb hby d9_6) rfl ?_
    show own_S p e below s₁ (mkF m 7 #[rv b219, iv (2 : Int32)] [(.int (((0 : Int32).toUInt32 >>> ((31 : Int32) &&& 31).toUInt32).toInt32))]) _
    rw [(by decide : (((0 : Int32).toUInt32 >>> ((31 : Int32) &&& 31).toUInt32).toInt32) = (0 : Int32))]
    refine XS.i2b X0.here hx rfl (hb hby d9_7) rfl ?_
    show own_S p e below s₁ (mkF m 8 #[rv b219, iv (2 : Int32)] [(.int ((0 : Int32).toInt8.toInt32))]) _
    rw [(by decide : ((0 : Int32).toInt8.toInt32) = (0 : Int32))]
    exact retN X0 hx (t := .byte) hret (by simp) (hb hby d9_8) hr
  · show Qrm221 Z da db b219 k220 h0 _ s₁.heap _
    rw [e0]
    exact ⟨rfl, N0, rfl⟩
def Qrm205 (Z : State) (w_CS da db : Int32) (b197 b198 : Addr) (k198 : ClassId) (h0 : Heap) (v : Option Value) (h : Heap) (L : List Loc) : Prop := ∃ b219 : Addr, ∃ k220 : ClassId, v = none ∧ Fr Z.heap.size L ∧ Keep h0 h [b197] ∧ h0.size ≤ b219 ∧ Exa Z h b197 "java/lang/String" ∧ Fld Z h b197 "java/lang/String" "coder" "B" (.int (0 : Int32)) ∧ Fld Z h b197 "java/lang/String" "value" "[B" (.ref b219) ∧ Arv Z h b219 k220 .byte (2 : Int32) [(.int (da.toInt8.toInt32)), (.int (db.toInt8.toInt32))] (.int (0 : Int32))
theorem rm205 (l : Launch) (Z : State) (a0 : Array Value) (hw : own_HW Z a0) (ws : List Jvm.Cond) (w_CS da db : Int32) (b197 b198 : Addr) (k198 : ClassId) (h0 : Heap) (Z0 : Ext Z.heap h0) (S_w_CS : own_w_CS Z w_CS) (E_b197 : Exa Z h0 b197 "java/lang/String") (F_b197_coder : Fld Z h0 b197 "java/lang/String" "coder" "B" (.int (0 : Int32))) (F_b197_value : Fld Z h0 b197 "java/lang/String" "value" "[B" .null) (V_b198 : Arv Z h0 b198 k198 .char (2 : Int32) [(.int da), (.int db)] (.int (0 : Int32))) (g_b197 : Z.heap.size ≤ b197) (hc1 : ¬ (w_CS = (0 : Int32))) (hc43 : own_ch da) (hc54 : own_ch db) :
    own_met l y_5 jdk_42_method_149_code 6 none ws ({ frames := 2, cells := 1, slots := 2, locals := 35 } : Room) Z #[(.ref b197), (.ref b198), (.int (0 : Int32)), (.int (2 : Int32)), .null] h0 (Qrm205 Z w_CS da db b197 b198 k198 h0) := by
  refine own_start (plainFor_of_name pn_2) (fun m => ef_jdk_42_method_149_RRIIn m b197 b198 (0 : Int32) (2 : Int32)) ?_
  intro p e s m below meth c s₁ hx hby hml hown hnm X0 hZ e0 hret hlk
  have N0 := Fr.nil Z.heap.size
  obtain ⟨T206, X206, e206, st206⟩ := initO X0 hx hZ hown (own_w hw 24 rfl) (own_w hw 25 rfl) (own_w hw 26 rfl) e0 (g := (mkF m 1 #[rv b197, rv b198, iv (0 : Int32), iv (2 : Int32), .val .null, .unset] [(.ref b197)])) rfl (by rw [hml]; rfl) rfl (hb hby d5_1) (by decide) (W := 0) (by show 2 * 0 + _ ≤ _; exact Nat.le_of_eq rfl) (by decide)
  obtain ⟨T207, X207, e207, st207⟩ := getS2 X206 hx hZ hown (host := "") (Or.inl (own_w hw 27 rfl)) Via.refl e206 (S_w_CS.ext Z0) (g := (mkF m 27 #[rv b197, rv b198, iv (0 : Int32), iv (2 : Int32), .val .null, .unset] [])) rfl (hb hby d5_27)
  obtain ⟨_, T218, Lc218, X218, hQ218, st218⟩ := own_static (y := y_3) X207 hx hZ hown (own_w hw 28 rfl) (own_w hw 29 rfl) (own_w hw 30 rfl) (own_w hw 31 rfl) (rm208 l Z a0 hw [] da db b198 k198 h0 Z0 V_b198 hc43 hc54) e207 (g := (mkF m 36 #[rv b197, rv b198, iv (0 : Int32), iv (2 : Int32), .val .null, .unset] [(.int (2 : Int32)), (.int (0 : Int32)), (.ref b198)])) (argsL := [(.ref b198), (.int (0 : Int32)), (.int (2 : Int32))]) (rest := []) (W := 0) (lenOf pd_2 rfl) (hb hby d5_36) hml
  obtain ⟨b219, k220, rfl, N218q, K218q, szn_b219, q218_V_b219⟩ := hQ218
  have g_b219 : Z.heap.size ≤ b219 := Nat.le_trans Z0.1 szn_b219
  have sz_b219 : h0.size ≤ b219 := Nat.le_trans (Keep.refl h0 [b197]).1 szn_b219
  have K218 : Keep h0 T218.heap [b197] := (Keep.refl h0 [b197]).trans K218q all0
  have XX218 : Ext Z.heap T218.heap := own_extK Z0 K218q all0
  have N218 := Fr.app N0 N218q
  obtain ⟨_, T223, Lc223, X223, hQ223, st223⟩ := own_static (y := y_4) X218 hx hZ hown (own_w hw 36 rfl) (own_w hw 37 rfl) (own_w hw 30 rfl) (own_w hw 38 rfl) (rm221 l Z a0 hw [] da db b219 k220 T218.heap XX218 q218_V_b219) rfl (g := (mkF m 45 #[rv b197, rv b198, iv (0 : Int32), iv (2 : Int32), .val .null, rv b219] [(.int (2 : Int32)), (.ref b219), (.ref b197)])) (argsL := [(.ref b219), (.int (2 : Int32))]) (rest := [(.ref b197)]) (W := 1) (lenOf pd_3 rfl) (hb hby d5_45) hml
  obtain ⟨rfl, N223q, e223⟩ := hQ223
  have N223 := Fr.app N218 N223q
  obtain ⟨T224, h224, X224, e224, W224, st224⟩ := putFN X223 hx hZ hown (own_w hw 39 rfl) Via.refl e223 (F_b197_coder.keep K218q nin0) (E_b197.keep K218q) (Or.inr ⟨(own_w hw 40 rfl), rfl, hnm⟩) (own_w hw 14 rfl) (ty := .byte) (v' := (.int (0 : Int32))) (by decide) rfl (by decide) (g := (mkF m 48 #[rv b197, rv b198, iv (0 : Int32), iv (2 : Int32), .val .null, rv b219] [(.int (0 : Int32)), (.ref b197)])) rfl rfl (hb hby d5_48)
  have K224 : Keep h0 h224 [b197] := K218.wr W224 (Or.inl (List.mem_of_getElem? (i := 0) rfl))
  have XX224 : Ext Z.heap h224 := own_extW XX218 W224 g_b197
  have N224 := Fr.snoc X224 N223 g_b197
  have f225_F_b197_value : Fld Z h224 b197 "java/lang/String" "value" "[B" .null := ((F_b197_value.keep K218q nin0).other W224 (Or.inr (slot_ne (Or.inr (own_w hw 42 rfl)) (Or.inr (own_w hw 40 rfl)) (by decide) (t := (.array .byte)) (t' := .byte) (by decide) (by decide))))
  obtain ⟨T226, h226, X226, e226, W226, st226⟩ := putF X224 hx hZ hown (host := "") (Or.inl (own_w hw 41 rfl)) Via.refl e224 f225_F_b197_value ((E_b197.keep K218q).wr W224) (Or.inr ⟨(own_w hw 42 rfl), rfl, hnm⟩) (own_w hw 14 rfl) (ty := (.array .byte)) (by decide) rfl rfl (g := (mkF m 54 #[rv b197, rv b198, iv (0 : Int32), iv (2 : Int32), .val .null, rv b219] [(.ref b219), (.ref b197)])) rfl rfl (hb hby d5_54)
  have K226 : Keep h0 h226 [b197] := K224.wr W226 (Or.inl (List.mem_of_getElem? (i := 0) rfl))
  have XX226 : Ext Z.heap h226 := own_extW XX224 W226 g_b197
  have N226 := Fr.snoc X226 N224 g_b197
  have f227_F_b197_coder : Fld Z h226 b197 "java/lang/String" "coder" "B" (.int (0 : Int32)) := (((F_b197_coder.keep K218q nin0).same W224).other W226 (Or.inr (slot_ne (Or.inr (own_w hw 40 rfl)) (Or.inr (own_w hw 42 rfl)) (by decide) (t := .byte) (t' := (.array .byte)) (by decide) (by decide))))
  have ne_b197_b219 : b197 ≠ b219 := Nat.ne_of_lt (Nat.lt_of_lt_of_le E_b197.lt szn_b219)
  have f228_V_b219 : Arv Z h226 b219 k220 .byte (2 : Int32) [(.int (da.toInt8.toInt32)), (.int (db.toInt8.toInt32))] (.int (0 : Int32)) := ((q218_V_b219.other W224 (Ne.symm ne_b197_b219)).other W226 (Ne.symm ne_b197_b219))
  obtain ⟨fs, hr, hrun, hended, hW, hsame⟩ := X226.leave (v := none) (fun _ => rfl) hlk
  refine ⟨_, _, ?_, hrun, hended, _, _, rfl, ?_, ⟨_, rfl⟩, hW, hsame.mono (by decide) (by decide)⟩
  · show own_S p e below s₁ (mkF m 0 #[rv b197, rv b198, iv (0 : Int32), iv (2 : Int32), .val .null, .unset] []) _
    refine own_aN X0 hx hby d5_0 ?_
    refine st206 _ ?_
    refine own_iN X206 hx hby d5_4 ?_
    refine own_iy (pc := 5) X206 hx hby d5_5 (feq (by decide : ¬ ((2 : Int32) = (0 : Int32)))).2 27 ?_
    refine st207 _ ?_
    refine own_in X207 hx hby d5_30 (feq hc1).1 ?_
    refine own_aN X207 hx hby d5_33 ?_
    refine own_iN X207 hx hby d5_34 ?_
    refine own_iN X207 hx hby d5_35 ?_
    refine st218 _ ?_
    refine XS.astore X218.here hx rfl (hb hby d5_39) rfl rfl (l' := #[rv b197, rv b198, iv (0 : Int32), iv (2 : Int32), .val .null, rv b219]) rfl ?_
    refine own_aN X218 hx hby d5_41 ?_
    refine own_a X218 hx hby d5_42 ?_
    refine own_iN X218 hx hby d5_44 ?_
    refine st223 _ ?_
    refine st224 _ ?_
    refine own_aN X224 hx hby d5_51 ?_
    refine own_a X224 hx hby d5_52 ?_
    refine st226 _ ?_
    exact X226.returnOut hx hret (hb hby d5_57) hr
  · show Qrm205 Z w_CS da db b197 b198 k198 h0 _ T226.heap _
    rw [e226]
    exact ⟨b219, k220, rfl, N226, K226, sz_b219, (((E_b197.keep K218q).wr W224).wr W226), f227_F_b197_coder, (f225_F_b197_value.same W226), f228_V_b219⟩
def Qrm203 (Z : State) (w_CS da db : Int32) (b197 b198 : Addr) (k198 : ClassId) (h0 : Heap) (v : Option Value) (h : Heap) (L : List Loc) : Prop := ∃ b230 : Addr, ∃ k231 : ClassId, v = none ∧ Fr Z.heap.size L ∧ Keep h0 h [b197] ∧ h0.size ≤ b230 ∧ Exa Z h b197 "java/lang/String" ∧ Fld Z h b197 "java/lang/String" "coder" "B" (.int (0 : Int32)) ∧ Fld Z h b197 "java/lang/String" "value" "[B" (.ref b230) ∧ Arv Z h b230 k231 .byte (2 : Int32) [(.int (da.toInt8.toInt32)), (.int (db.toInt8.toInt32))] (.int (0 : Int32))
theorem rm203 (l : Launch) (Z : State) (a0 : Array Value) (hw : own_HW Z a0) (ws : List Jvm.Cond) (w_CS da db : Int32) (b197 b198 : Addr) (k198 : ClassId) (h0 : Heap) (Z0 : Ext Z.heap h0) (S_w_CS : own_w_CS Z w_CS) (E_b197 : Exa Z h0 b197 "java/lang/String") (F_b197_coder : Fld Z h0 b197 "java/lang/String" "coder" "B" (.int (0 : Int32))) (F_b197_value : Fld Z h0 b197 "java/lang/String" "value" "[B" .null) (V_b198 : Arv Z h0 b198 k198 .char (2 : Int32) [(.int da), (.int db)] (.int (0 : Int32))) (g_b197 : Z.heap.size ≤ b197) (hc1 : ¬ (w_CS = (0 : Int32))) (hc43 : own_ch da) (hc54 : own_ch db) :
    own_met l y_6 jdk_42_method_3_code 2 none ws ({ frames := 3, cells := 1, slots := 2, locals := 52 } : Room) Z #[(.ref b197), (.ref b198)] h0 (Qrm203 Z w_CS da db b197 b198 k198 h0) := by
  refine own_start (plainFor_of_name pn_2) (fun m => ef_jdk_42_method_3_RR m b197 b198) ?_
  intro p e s m below meth c s₁ hx hby hml hown hnm X0 hZ e0 hret hlk
  have N0 := Fr.nil Z.heap.size
  obtain ⟨cl204, Ar204, q204, S204, Nn204, H204, G204⟩ := id V_b198
  obtain ⟨_, T229, Lc229, X229, hQ229, st229⟩ := own_special (y := y_5) X0 hx hZ hown rfl (own_w hw 20 rfl) (own_w hw 21 rfl) (own_w hw 15 rfl) (own_w hw 23 rfl) (rm205 l Z a0 hw [] w_CS da db b197 b198 k198 h0 Z0 S_w_CS E_b197 F_b197_coder F_b197_value V_b198 g_b197 hc1 hc43 hc54) e0 b197 (g := (mkF m 6 #[rv b197, rv b198] [.null, (.int (2 : Int32)), (.int (0 : Int32)), (.ref b198), (.ref b197)])) (argsL := [(.ref b198), (.int (0 : Int32)), (.int (2 : Int32)), .null]) (rest := []) (W := 0) (lenOf pd_4 rfl) (hb hby d4_6) hml
  obtain ⟨b230, k231, rfl, N229q, K229q, szn_b230, q229_E_b197, q229_F_b197_coder, q229_F_b197_value, q229_V_b230⟩ := hQ229
  have g_b230 : Z.heap.size ≤ b230 := Nat.le_trans Z0.1 szn_b230
  have sz_b230 : h0.size ≤ b230 := Nat.le_trans (Keep.refl h0 [b197]).1 szn_b230
  have K229 : Keep h0 T229.heap [b197] := (Keep.refl h0 [b197]).trans K229q (allS (Or.inl (List.mem_of_getElem? (i := 0) rfl)) all0)
  have XX229 : Ext Z.heap T229.heap := own_extK Z0 K229q (allS g_b197 all0)
  have N229 := Fr.app N0 N229q
  obtain ⟨fs, hr, hrun, hended, hW, hsame⟩ := X229.leave (v := none) (fun _ => rfl) hlk
  refine ⟨_, _, ?_, hrun, hended, _, _, rfl, ?_, ⟨_, rfl⟩, hW, hsame.mono (by decide) (by decide)⟩
  · show own_S p e below s₁ (mkF m 0 #[rv b197, rv b198] []) _
    refine own_aN X0 hx hby d4_0 ?_
    refine own_aN X0 hx hby d4_1 ?_
    refine own_k X0 hx hby d4_2 ?_
    refine own_aN X0 hx hby d4_3 ?_
    refine X0.arraylength hx (by rw [e0]; exact Ar204.1) (State.isArrayOf_alike hZ.alike Ar204.2.1) (g := (mkF m 4 #[rv b197, rv b198] [(.ref b198), (.int (0 : Int32)), (.ref b198), (.ref b197)])) rfl rfl (hb hby d4_4) _ ?_
    rw [len_of S204 Nn204]
    refine XS.aconstNull X0.here hx rfl (hb hby d4_5) ?_
    refine st229 _ ?_
    exact X229.returnOut hx hret (hb hby d4_9) hr
  · show Qrm203 Z w_CS da db b197 b198 k198 h0 _ T229.heap _
    exact ⟨b230, k231, rfl, N229, K229, sz_b230, q229_E_b197, q229_F_b197_coder, q229_F_b197_value, q229_V_b230⟩
def Qrm196 (Z : State) (w_CS da db dc : Int32) (h0 : Heap) (v : Option Value) (h : Heap) (L : List Loc) : Prop := ∃ b197 : Addr, ∃ b233 : Addr, ∃ k234 : ClassId, v = some (.ref b197) ∧ Fr Z.heap.size L ∧ Keep h0 h [] ∧ h0.size ≤ b197 ∧ h0.size ≤ b233 ∧ Exa Z h b197 "java/lang/String" ∧ Fld Z h b197 "java/lang/String" "coder" "B" (.int (0 : Int32)) ∧ Fld Z h b197 "java/lang/String" "value" "[B" (.ref b233) ∧ Arv Z h b233 k234 .byte (2 : Int32) [(.int (da.toInt8.toInt32)), (.int (db.toInt8.toInt32))] (.int (0 : Int32))
theorem rm196 (l : Launch) (Z : State) (a0 : Array Value) (hw : own_HW Z a0) (ws : List Jvm.Cond) (w_CS da db dc : Int32) (h0 : Heap) (Z0 : Ext Z.heap h0) (S_w_CS : own_w_CS Z w_CS) (hc43 : own_ch da) (hc54 : own_ch db) (hc1 : ¬ (w_CS = (0 : Int32))) :
    own_met l y_7 method_4_code 4 (some (.object "java/lang/String")) ws ({ frames := 4, cells := 3, slots := 8, locals := 66 } : Room) Z #[(.int (2 : Int32)), (.int da), (.int db), (.int dc)] h0 (Qrm196 Z w_CS da db dc h0) := by
  refine own_start (plainFor_of_name pn_0) (fun m => ef_method_4_IIII m (2 : Int32) da db dc) ?_
  intro p e s m below meth c s₁ hx hby hml hown hnm X0 hZ e0 hret hlk
  have N0 := Fr.nil Z.heap.size
  obtain ⟨T197, h197, X197, e197, E197, A197, D197, -, st197⟩ := newO X0 hx hZ hown (own_w hw 13 rfl) (own_w hw 14 rfl) (own_w hw 15 rfl) e0 (g := (mkF m 25 #[iv (2 : Int32), iv da, iv db, iv dc] [])) rfl (hb hby d3_25) (by decide) (by decide)
  obtain ⟨b197, g197⟩ : ∃ z, z = h0.size := ⟨_, rfl⟩
  rw [← g197] at A197 D197 st197
  have g_b197 : Z.heap.size ≤ b197 := Nat.le_trans Z0.1 (Nat.le_of_eq g197.symm)
  have sz_b197 : h0.size ≤ b197 := Nat.le_trans (Keep.refl h0 []).1 (Nat.le_of_eq g197.symm)
  have F_b197_coder : Fld Z h197 b197 "java/lang/String" "coder" "B" (.int (0 : Int32)) := D197 (Or.inr (own_w hw 40 rfl)) (ty := .byte) (by decide)
  have F_b197_value : Fld Z h197 b197 "java/lang/String" "value" "[B" .null := D197 (Or.inr (own_w hw 42 rfl)) (ty := (.array .byte)) (by decide)
  have K197 : Keep h0 h197 [] := (Keep.refl h0 []).ext E197
  have XX197 : Ext Z.heap h197 := own_ext2 Z0 E197
  obtain ⟨T198, h198, k198, X198, e198, E198, A198, st198⟩ := newP X197 hx hZ (own_w hw 16 rfl) e197 (g := (mkF m 30 #[iv (2 : Int32), iv da, iv db, iv dc] [(.int (2 : Int32)), (.ref b197), (.ref b197)])) rfl (hb hby d3_30) rfl (by decide) (cap := 2) (by decide) (by decide) (by decide) (by decide)
  obtain ⟨b198, g198⟩ : ∃ z, z = h197.size := ⟨_, rfl⟩
  rw [← g198] at A198 st198
  have g_b198 : Z.heap.size ≤ b198 := Nat.le_trans XX197.1 (Nat.le_of_eq g198.symm)
  have sz_b198 : h0.size ≤ b198 := Nat.le_trans K197.1 (Nat.le_of_eq g198.symm)
  have V_b198 : Arv Z h198 b198 k198 .char (2 : Int32) [(.int (0 : Int32)), (.int (0 : Int32))] (.int (0 : Int32)) := (Arv.new A198 (by decide)).pad (pad_rep [] (.int (0 : Int32)) 2)
  have K198 : Keep h0 h198 [] := K197.ext E198
  have XX198 : Ext Z.heap h198 := own_ext2 XX197 E198
  obtain ⟨cl199, Ar199, q199, S199, Nn199, H199, G199⟩ := id V_b198
  have hin199 : ¬ ((0 : Int32) < 0 ∨ cl199.slots.size ≤ ((0 : Int32)).toNatClampNeg) := inb_of S199 ⟨by decide, by decide⟩
  obtain ⟨T200, h200, X200, e200, W200, st200⟩ := stC X198 hx hZ e198 Ar199 (j := (0 : Int32)) hin199 (g := (mkF m 35 #[iv (2 : Int32), iv da, iv db, iv dc] [(.int da), (.int (0 : Int32)), (.ref b198), (.ref b198), (.ref b197), (.ref b197)])) rfl rfl (hb hby d3_35)
  rw [(own_nc hc43)] at W200
  have V200 : Arv Z h200 b198 k198 .char (2 : Int32) [(.int da), (.int (0 : Int32))] (.int (0 : Int32)) := Arv.set Ar199 q199 S199 Nn199 H199 G199 (by rw [← (own_nc hc43)]; exact fits_nar_char _) W200 0 rfl (Nat.le_of_ble_eq_true rfl)
  have K200 : Keep h0 h200 [] := K198.wr W200 (Or.inr sz_b198)
  have XX200 : Ext Z.heap h200 := own_extW XX198 W200 g_b198
  have N200 := Fr.snoc X200 N0 g_b198
  obtain ⟨cl201, Ar201, q201, S201, Nn201, H201, G201⟩ := id V200
  have hin201 : ¬ ((1 : Int32) < 0 ∨ cl201.slots.size ≤ ((1 : Int32)).toNatClampNeg) := inb_of S201 ⟨by decide, by decide⟩
  obtain ⟨T202, h202, X202, e202, W202, st202⟩ := stC X200 hx hZ e200 Ar201 (j := (1 : Int32)) hin201 (g := (mkF m 39 #[iv (2 : Int32), iv da, iv db, iv dc] [(.int db), (.int (1 : Int32)), (.ref b198), (.ref b198), (.ref b197), (.ref b197)])) rfl rfl (hb hby d3_39)
  rw [(own_nc hc54)] at W202
  have V202 : Arv Z h202 b198 k198 .char (2 : Int32) [(.int da), (.int db)] (.int (0 : Int32)) := Arv.set Ar201 q201 S201 Nn201 H201 G201 (by rw [← (own_nc hc54)]; exact fits_nar_char _) W202 1 rfl (Nat.le_of_ble_eq_true rfl)
  have K202 : Keep h0 h202 [] := K200.wr W202 (Or.inr sz_b198)
  have XX202 : Ext Z.heap h202 := own_extW XX200 W202 g_b198
  have N202 := Fr.snoc X202 N200 g_b198
  have ne_b197_b198 : b197 ≠ b198 := Nat.ne_of_lt (Nat.lt_of_lt_of_le A197.lt (Nat.le_of_eq g198.symm))
  have f235_F_b197_coder : Fld Z h202 b197 "java/lang/String" "coder" "B" (.int (0 : Int32)) := (((F_b197_coder.ext E198).other W200 (Or.inl ne_b197_b198)).other W202 (Or.inl ne_b197_b198))
  have f236_F_b197_value : Fld Z h202 b197 "java/lang/String" "value" "[B" .null := (((F_b197_value.ext E198).other W200 (Or.inl ne_b197_b198)).other W202 (Or.inl ne_b197_b198))
  obtain ⟨_, T232, Lc232, X232, hQ232, st232⟩ := own_special (y := y_6) X202 hx hZ hown rfl (own_w hw 17 rfl) (own_w hw 18 rfl) (own_w hw 15 rfl) (own_w hw 19 rfl) (rm203 l Z a0 hw [] w_CS da db b197 b198 k198 h202 XX202 S_w_CS (((A197.ext E198).wr W200).wr W202) f235_F_b197_coder f236_F_b197_value V202 g_b197 hc1 hc43 hc54) e202 b197 (g := (mkF m 40 #[iv (2 : Int32), iv da, iv db, iv dc] [(.ref b198), (.ref b197), (.ref b197)])) (argsL := [(.ref b198)]) (rest := [(.ref b197)]) (W := 1) (lenOf pd_5 rfl) (hb hby d3_40) hml
  obtain ⟨b233, k234, rfl, N232q, K232q, szn_b233, q232_E_b197, q232_F_b197_coder, q232_F_b197_value, q232_V_b233⟩ := hQ232
  have g_b233 : Z.heap.size ≤ b233 := Nat.le_trans XX202.1 szn_b233
  have sz_b233 : h0.size ≤ b233 := Nat.le_trans K202.1 szn_b233
  have K232 : Keep h0 T232.heap [] := K202.trans K232q (allS (Or.inr sz_b197) all0)
  have XX232 : Ext Z.heap T232.heap := own_extK XX202 K232q (allS g_b197 all0)
  have N232 := Fr.app N202 N232q
  obtain ⟨fs, hr, hrun, hended, hW, hsame⟩ := X232.leave (v := some (.ref b197)) (fun h => by rw [hret] at h; cases h) hlk
  refine ⟨_, _, ?_, hrun, hended, _, _, rfl, ?_, ⟨_, rfl⟩, hW, hsame.mono (by decide) (by decide)⟩
  · show own_S p e below s₁ (mkF m 0 #[iv (2 : Int32), iv da, iv db, iv dc] []) _
    refine own_iN X0 hx hby d3_0 ?_
    refine own_k X0 hx hby d3_1 ?_
    refine own_cy (pc := 2) X0 hx hby d3_2 (feq (by decide : ¬ ((2 : Int32) = (1 : Int32)))).2 20 ?_
    refine own_iN X0 hx hby d3_20 ?_
    refine own_k X0 hx hby d3_21 ?_
    refine own_cn X0 hx hby d3_22 (teq (rfl : (2 : Int32) = (2 : Int32))).2 ?_
    refine st197 _ ?_
    refine XS.dup X197.here hx rfl (hb hby d3_28) rfl rfl ?_
    refine own_k X197 hx hby d3_29 ?_
    refine st198 _ ?_
    refine XS.dup X198.here hx rfl (hb hby d3_32) rfl rfl ?_
    refine own_k X198 hx hby d3_33 ?_
    refine own_iN X198 hx hby d3_34 ?_
    refine st200 _ ?_
    refine XS.dup X200.here hx rfl (hb hby d3_36) rfl rfl ?_
    refine own_k X200 hx hby d3_37 ?_
    refine own_iN X200 hx hby d3_38 ?_
    refine st202 _ ?_
    refine st232 _ ?_
    jvm_step X232.here [X232.here.top, hx, (hb hby d3_43), X232.method', hret, Value.isRef, FieldType.isReference]
    first | (intro acts; rw [hr _ acts rfl rfl rfl]) | rw [hr _ _ rfl rfl rfl]
    exact Steps.refl _
  · show Qrm196 Z w_CS da db dc h0 _ T232.heap _
    exact ⟨b197, b233, k234, rfl, N232, K232, sz_b197, sz_b233, q232_E_b197, q232_F_b197_coder, q232_F_b197_value, q232_V_b233⟩
def Qrm247 (Z : State) (da db : Int32) (b238 b239 : Addr) (k240 : ClassId) (h0 : Heap) (v : Option Value) (h : Heap) (L : List Loc) : Prop := v = some (.int (0 : Int32)) ∧ Fr Z.heap.size L ∧ h = h0
theorem rm247 (l : Launch) (Z : State) (a0 : Array Value) (hw : own_HW Z a0) (ws : List Jvm.Cond) (da db : Int32) (b238 b239 : Addr) (k240 : ClassId) (h0 : Heap) (Z0 : Ext Z.heap h0) (F_b238_value : Fld Z h0 b238 "java/lang/String" "value" "[B" (.ref b239)) (V_b239 : Arv Z h0 b239 k240 .byte (2 : Int32) [(.int (da.toInt8.toInt32)), (.int (db.toInt8.toInt32))] (.int (0 : Int32))) :
    own_met l y_9 jdk_42_method_55_code 1 (some .boolean) ws ({ frames := 0, cells := 0, slots := 0, locals := 0 } : Room) Z #[(.ref b238)] h0 (Qrm247 Z da db b238 b239 k240 h0) := by
  refine own_start (plainFor_of_name pn_2) (fun m => ef_jdk_42_method_55_R m b238) ?_
  intro p e s m below meth c s₁ hx hby hml hown hnm X0 hZ e0 hret hlk
  have N0 := Fr.nil Z.heap.size
  obtain ⟨T248, X248, e248, st248⟩ := getF X0 hx hZ hown (host := "") (Or.inl (own_w hw 41 rfl)) Via.refl e0 F_b238_value (g := (mkF m 1 #[rv b238] [(.ref b238)])) rfl rfl (hb hby d13_1)
  obtain ⟨cl249, Ar249, q249, S249, Nn249, H249, G249⟩ := id V_b239
  obtain ⟨fs, hr, hrun, hended, hW, hsame⟩ := X248.leave (v := some (.int (0 : Int32))) (fun h => by rw [hret] at h; cases h) hlk
  refine ⟨_, _, ?_, hrun, hended, _, _, rfl, ?_, ⟨_, rfl⟩, hW, hsame.mono (by decide) (by decide)⟩
  · show own_S p e below s₁ (mkF m 0 #[rv b238] []) _
    refine own_aN X0 hx hby d13_0 ?_
    refine st248 _ ?_
    refine X248.arraylength hx (by rw [e248]; exact Ar249.1) (State.isArrayOf_alike hZ.alike Ar249.2.1) (g := (mkF m 4 #[rv b238] [(.ref b239)])) rfl rfl (hb hby d13_4) _ ?_
    rw [len_of S249 Nn249]
    refine own_iy (pc := 5) X248 hx hby d13_5 (feq (by decide : ¬ ((2 : Int32) = (0 : Int32)))).2 12 ?_
    refine own_k X248 hx hby d13_12 ?_
    exact retN X248 hx (t := .boolean) hret (by simp) (hb hby d13_13) hr
  · show Qrm247 Z da db b238 b239 k240 h0 _ T248.heap _
    rw [e248]
    exact ⟨rfl, N0, rfl⟩
def Qrm258 (Z : State) (w_SF : Value) (h0 : Heap) (v : Option Value) (h : Heap) (L : List Loc) : Prop := v = some (.int (0 : Int32)) ∧ Fr Z.heap.size L ∧ h = h0
theorem rm258 (l : Launch) (Z : State) (a0 : Array Value) (hw : own_HW Z a0) (ws : List Jvm.Cond) (w_SF : Value) (h0 : Heap) (Z0 : Ext Z.heap h0) (R_w_SF : w_SF.isRef = true) :
    own_met l y_11 jdk_41_method_11_code 3 (some .int) ws ({ frames := 0, cells := 0, slots := 0, locals := 0 } : Room) Z #[(.int (0 : Int32)), (.int (2 : Int32)), w_SF] h0 (Qrm258 Z w_SF h0) := by
  refine own_start (plainFor_of_name pn_4) (fun m => ef_jdk_41_method_11_IIX m (0 : Int32) (2 : Int32) w_SF R_w_SF) ?_
  intro p e s m below meth c s₁ hx hby hml hown hnm X0 hZ e0 hret hlk
  have N0 := Fr.nil Z.heap.size
  obtain ⟨fs, hr, hrun, hended, hW, hsame⟩ := X0.leave (v := some (.int (0 : Int32))) (fun h => by rw [hret] at h; cases h) hlk
  refine ⟨_, _, ?_, hrun, hended, _, _, rfl, ?_, ⟨_, rfl⟩, hW, hsame.mono (by decide) (by decide)⟩
  · show own_S p e below s₁ (mkF m 0 #[iv (0 : Int32), iv (2 : Int32), .val w_SF] []) _
    refine own_iN X0 hx hby d18_0 ?_
    refine own_in X0 hx hby d18_1 (flt (Int32.lt_irrefl : ¬ ((0 : Int32) < (0 : Int32)))).1 ?_
    refine own_iN X0 hx hby d18_4 ?_
    refine own_iN X0 hx hby d18_5 ?_
    refine own_cy (pc := 6) X0 hx hby d18_6 (tlt (by decide : (0 : Int32) < (2 : Int32))).1 16 ?_
    refine own_iN X0 hx hby d18_16 ?_
    exact retI X0 hx hret (hb hby d18_17) hr
  · show Qrm258 Z w_SF h0 _ s₁.heap _
    rw [e0]
    exact ⟨rfl, N0, rfl⟩
def Qrm256 (Z : State) (w_SF : Value) (h0 : Heap) (v : Option Value) (h : Heap) (L : List Loc) : Prop := v = none ∧ Fr Z.heap.size L ∧ h = h0
theorem rm256 (l : Launch) (Z : State) (a0 : Array Value) (hw : own_HW Z a0) (ws : List Jvm.Cond) (w_SF : Value) (h0 : Heap) (Z0 : Ext Z.heap h0) (S_w_SF : own_w_SF Z w_SF) (R_w_SF : w_SF.isRef = true) :
    own_met l y_12 jdk_42_method_155_code 2 none ws ({ frames := 1, cells := 0, slots := 0, locals := 14 } : Room) Z #[(.int (0 : Int32)), (.int (2 : Int32))] h0 (Qrm256 Z w_SF h0) := by
  refine own_start (plainFor_of_name pn_2) (fun m => ef_jdk_42_method_155_II m (0 : Int32) (2 : Int32)) ?_
  intro p e s m below meth c s₁ hx hby hml hown hnm X0 hZ e0 hret hlk
  have N0 := Fr.nil Z.heap.size
  obtain ⟨T257, X257, e257, st257⟩ := getS2 X0 hx hZ hown (host := "") (Or.inl (own_w hw 80 rfl)) Via.refl e0 (S_w_SF.ext Z0) (g := (mkF m 2 #[iv (0 : Int32), iv (2 : Int32)] [(.int (2 : Int32)), (.int (0 : Int32))])) rfl (hb hby d17_2)
  obtain ⟨_, T259, Lc259, X259, hQ259, st259⟩ := own_static (y := y_11) X257 hx hZ hown (own_w hw 82 rfl) (own_w hw 83 rfl) (own_w hw 81 rfl) (own_w hw 84 rfl) (rm258 l Z a0 hw [] w_SF h0 Z0 R_w_SF) e257 (g := (mkF m 5 #[iv (0 : Int32), iv (2 : Int32)] [w_SF, (.int (2 : Int32)), (.int (0 : Int32))])) (argsL := [(.int (0 : Int32)), (.int (2 : Int32)), w_SF]) (rest := []) (W := 0) (lenOf pd_9 rfl) (hb hby d17_5) hml
  obtain ⟨rfl, N259q, e259⟩ := hQ259
  have N259 := Fr.app N0 N259q
  obtain ⟨fs, hr, hrun, hended, hW, hsame⟩ := X259.leave (v := none) (fun _ => rfl) hlk
  refine ⟨_, _, ?_, hrun, hended, _, _, rfl, ?_, ⟨_, rfl⟩, hW, hsame.mono (by decide) (by decide)⟩
  · show own_S p e below s₁ (mkF m 0 #[iv (0 : Int32), iv (2 : Int32)] []) _
    refine own_iN X0 hx hby d17_0 ?_
    refine own_iN X0 hx hby d17_1 ?_
    refine st257 _ ?_
    refine st259 _ ?_
    refine XS.pop X259.here hx rfl (hb hby d17_8) rfl rfl ?_
    exact X259.returnOut hx hret (hb hby d17_9) hr
  · show Qrm256 Z w_SF h0 _ T259.heap _
    rw [e259]
    exact ⟨rfl, N259, rfl⟩
def Qrm254 (Z : State) (w_SF : Value) (da db : Int32) (b239 : Addr) (k240 : ClassId) (h0 : Heap) (v : Option Value) (h : Heap) (L : List Loc) : Prop := v = some (.int da) ∧ Fr Z.heap.size L ∧ h = h0
theorem rm254 (l : Launch) (Z : State) (a0 : Array Value) (hw : own_HW Z a0) (ws : List Jvm.Cond) (w_SF : Value) (da db : Int32) (b239 : Addr) (k240 : ClassId) (h0 : Heap) (Z0 : Ext Z.heap h0) (S_w_SF : own_w_SF Z w_SF) (R_w_SF : w_SF.isRef = true) (V_b239 : Arv Z h0 b239 k240 .byte (2 : Int32) [(.int (da.toInt8.toInt32)), (.int (db.toInt8.toInt32))] (.int (0 : Int32))) (hc43 : own_ch da) :
    own_met l y_13 jdk_43_method_2_code 2 (some .char) ws ({ frames := 2, cells := 0, slots := 0, locals := 27 } : Room) Z #[(.ref b239), (.int (0 : Int32))] h0 (Qrm254 Z w_SF da db b239 k240 h0) := by
  refine own_start (plainFor_of_name pn_5) (fun m => ef_jdk_43_method_2_RI m b239 (0 : Int32)) ?_
  intro p e s m below meth c s₁ hx hby hml hown hnm X0 hZ e0 hret hlk
  have N0 := Fr.nil Z.heap.size
  obtain ⟨cl255, Ar255, q255, S255, Nn255, H255, G255⟩ := id V_b239
  obtain ⟨_, T260, Lc260, X260, hQ260, st260⟩ := own_static (y := y_12) X0 hx hZ hown (own_w hw 77 rfl) (own_w hw 78 rfl) (own_w hw 15 rfl) (own_w hw 79 rfl) (rm256 l Z a0 hw [] w_SF h0 Z0 S_w_SF R_w_SF) e0 (g := (mkF m 3 #[rv b239, iv (0 : Int32)] [(.int (2 : Int32)), (.int (0 : Int32))])) (argsL := [(.int (0 : Int32)), (.int (2 : Int32))]) (rest := []) (W := 0) (lenOf pd_10 rfl) (hb hby d16_3) hml
  obtain ⟨rfl, N260q, e260⟩ := hQ260
  have N260 := Fr.app N0 N260q
  obtain ⟨cl261, Ar261, q261, S261, Nn261, H261, G261⟩ := id V_b239
  have hin261 : ¬ ((0 : Int32) < 0 ∨ cl261.slots.size ≤ ((0 : Int32)).toNatClampNeg) := inb_of S261 ⟨by decide, by decide⟩
  have hat261 : cl261.slots[((0 : Int32)).toNatClampNeg]? = some (.int (da.toInt8.toInt32)) := Has.at H261 hin261 rfl
  obtain ⟨fs, hr, hrun, hended, hW, hsame⟩ := X260.leave (v := some (.int da)) (fun h => by rw [hret] at h; cases h) hlk
  refine ⟨_, _, ?_, hrun, hended, _, _, rfl, ?_, ⟨_, rfl⟩, hW, hsame.mono (by decide) (by decide)⟩
  · show own_S p e below s₁ (mkF m 0 #[rv b239, iv (0 : Int32)] []) _
    refine own_iN X0 hx hby d16_0 ?_
    refine own_aN X0 hx hby d16_1 ?_
    refine X0.arraylength hx (by rw [e0]; exact Ar255.1) (State.isArrayOf_alike hZ.alike Ar255.2.1) (g := (mkF m 2 #[rv b239, iv (0 : Int32)] [(.ref b239), (.int (0 : Int32))])) rfl rfl (hb hby d16_2) _ ?_
    rw [len_of S255 Nn255]
    refine st260 _ ?_
    refine own_aN X260 hx hby d16_6 ?_
    refine own_iN X260 hx hby d16_7 ?_
    refine X260.baloadBytes hx (j := (0 : Int32)) (v := (.int (da.toInt8.toInt32))) (by rw [e260]; exact Ar261.1) (State.isArrayOf_alike hZ.alike Ar261.2.1) Ar261.2.2 hin261 hat261 (g := (mkF m 8 #[rv b239, iv (0 : Int32)] [(.int (0 : Int32)), (.ref b239)])) rfl rfl (hb hby d16_8) _ ?_
    refine XS.sipush X260.here hx rfl (hb hby d16_9) ?_
    refine XS.iand X260.here hx rfl (hb hby d16_12) rfl ?_
    show own_S p e below T260 (mkF m 13 #[rv b239, iv (0 : Int32)] [(.int ((da.toInt8.toInt32) &&& (255 : Int32)))]) _
    rw [(own_b255 hc43)]
    refine XS.i2c X260.here hx rfl (hb hby d16_13) rfl ?_
    show own_S p e below T260 (mkF m 14 #[rv b239, iv (0 : Int32)] [(.int (da.toUInt32.toUInt16.toUInt32.toInt32))]) _
    rw [(own_i2c hc43)]
    rw [← (own_nc hc43)] at hr
    exact retN X260 hx (t := .char) hret (by simp) (hb hby d16_14) hr
  · show Qrm254 Z w_SF da db b239 k240 h0 _ T260.heap _
    rw [e260]
    exact ⟨rfl, N260, rfl⟩
def Qrm251 (Z : State) (w_CS : Int32) (w_SF : Value) (da db : Int32) (b238 b239 : Addr) (k240 : ClassId) (h0 : Heap) (v : Option Value) (h : Heap) (L : List Loc) : Prop := v = some (.int da) ∧ Fr Z.heap.size L ∧ h = h0
theorem rm251 (l : Launch) (Z : State) (a0 : Array Value) (hw : own_HW Z a0) (ws : List Jvm.Cond) (w_CS : Int32) (w_SF : Value) (da db : Int32) (b238 b239 : Addr) (k240 : ClassId) (h0 : Heap) (Z0 : Ext Z.heap h0) (S_w_CS : own_w_CS Z w_CS) (S_w_SF : own_w_SF Z w_SF) (R_w_SF : w_SF.isRef = true) (E_b238 : Exa Z h0 b238 "java/lang/String") (F_b238_coder : Fld Z h0 b238 "java/lang/String" "coder" "B" (.int (0 : Int32))) (F_b238_value : Fld Z h0 b238 "java/lang/String" "value" "[B" (.ref b239)) (V_b239 : Arv Z h0 b239 k240 .byte (2 : Int32) [(.int (da.toInt8.toInt32)), (.int (db.toInt8.toInt32))] (.int (0 : Int32))) (hc1 : ¬ (w_CS = (0 : Int32))) (hc43 : own_ch da) :
    own_met l y_14 jdk_42_method_56_code 2 (some .char) ws ({ frames := 3, cells := 0, slots := 0, locals := 40 } : Room) Z #[(.ref b238), (.int (0 : Int32))] h0 (Qrm251 Z w_CS w_SF da db b238 b239 k240 h0) := by
  refine own_start (plainFor_of_name pn_2) (fun m => ef_jdk_42_method_56_RI m b238 (0 : Int32)) ?_
  intro p e s m below meth c s₁ hx hby hml hown hnm X0 hZ e0 hret hlk
  have N0 := Fr.nil Z.heap.size
  obtain ⟨_, T252, Lc252, X252, hQ252, st252⟩ := own_virtual (y := y_10) X0 hx hZ hown (own_w hw 68 rfl) (own_w hw 69 rfl) (own_w hw 71 rfl) (own_w hw 70 rfl) (own_w hw 15 rfl) (own_w hw 72 rfl) (rm72 l Z a0 hw [] w_CS b238 h0 Z0 S_w_CS F_b238_coder hc1) e0 E_b238 (g := (mkF m 1 #[rv b238, iv (0 : Int32)] [(.ref b238)])) (argsL := []) (rest := []) (W := 0) (lenOf pd_8 rfl) (hb hby d14_1) hml
  obtain ⟨rfl, N252q, e252⟩ := hQ252
  have N252 := Fr.app N0 N252q
  obtain ⟨T253, X253, e253, st253⟩ := getF X252 hx hZ hown (host := "") (Or.inl (own_w hw 41 rfl)) Via.refl e252 F_b238_value (g := (mkF m 8 #[rv b238, iv (0 : Int32)] [(.ref b238)])) rfl rfl (hb hby d14_8)
  obtain ⟨_, T262, Lc262, X262, hQ262, st262⟩ := own_static (y := y_13) X253 hx hZ hown (own_w hw 73 rfl) (own_w hw 74 rfl) (own_w hw 75 rfl) (own_w hw 76 rfl) (rm254 l Z a0 hw [] w_SF da db b239 k240 h0 Z0 S_w_SF R_w_SF V_b239 hc43) e253 (g := (mkF m 12 #[rv b238, iv (0 : Int32)] [(.int (0 : Int32)), (.ref b239)])) (argsL := [(.ref b239), (.int (0 : Int32))]) (rest := []) (W := 0) (lenOf pd_11 rfl) (hb hby d14_12) hml
  obtain ⟨rfl, N262q, e262⟩ := hQ262
  have N262 := Fr.app N252 N262q
  obtain ⟨fs, hr, hrun, hended, hW, hsame⟩ := X262.leave (v := some (.int da)) (fun h => by rw [hret] at h; cases h) hlk
  refine ⟨_, _, ?_, hrun, hended, _, _, rfl, ?_, ⟨_, rfl⟩, hW, hsame.mono (by decide) (by decide)⟩
  · show own_S p e below s₁ (mkF m 0 #[rv b238, iv (0 : Int32)] []) _
    refine own_aN X0 hx hby d14_0 ?_
    refine st252 _ ?_
    refine own_in X252 hx hby d14_4 (feq (by decide : ¬ ((1 : Int32) = (0 : Int32)))).1 ?_
    refine own_aN X252 hx hby d14_7 ?_
    refine st253 _ ?_
    refine own_iN X253 hx hby d14_11 ?_
    refine st262 _ ?_
    rw [← (own_nc hc43)] at hr
    exact retN X262 hx (t := .char) hret (by simp) (hb hby d14_15) hr
  · show Qrm251 Z w_CS w_SF da db b238 b239 k240 h0 _ T262.heap _
    rw [e262]
    exact ⟨rfl, N262, rfl⟩
def Qrm265 (Z : State) (w_CS da db : Int32) (b238 b239 : Addr) (k240 : ClassId) (h0 : Heap) (v : Option Value) (h : Heap) (L : List Loc) : Prop := v = some (.int (2 : Int32)) ∧ Fr Z.heap.size L ∧ h = h0
theorem rm265 (l : Launch) (Z : State) (a0 : Array Value) (hw : own_HW Z a0) (ws : List Jvm.Cond) (w_CS da db : Int32) (b238 b239 : Addr) (k240 : ClassId) (h0 : Heap) (Z0 : Ext Z.heap h0) (S_w_CS : own_w_CS Z w_CS) (E_b238 : Exa Z h0 b238 "java/lang/String") (F_b238_coder : Fld Z h0 b238 "java/lang/String" "coder" "B" (.int (0 : Int32))) (F_b238_value : Fld Z h0 b238 "java/lang/String" "value" "[B" (.ref b239)) (V_b239 : Arv Z h0 b239 k240 .byte (2 : Int32) [(.int (da.toInt8.toInt32)), (.int (db.toInt8.toInt32))] (.int (0 : Int32))) (hc1 : ¬ (w_CS = (0 : Int32))) :
    own_met l y_16 jdk_42_method_54_code 1 (some .int) ws ({ frames := 1, cells := 0, slots := 0, locals := 13 } : Room) Z #[(.ref b238)] h0 (Qrm265 Z w_CS da db b238 b239 k240 h0) := by
  refine own_start (plainFor_of_name pn_2) (fun m => ef_jdk_42_method_54_R m b238) ?_
  intro p e s m below meth c s₁ hx hby hml hown hnm X0 hZ e0 hret hlk
  have N0 := Fr.nil Z.heap.size
  obtain ⟨T266, X266, e266, st266⟩ := getF X0 hx hZ hown (host := "") (Or.inl (own_w hw 41 rfl)) Via.refl e0 F_b238_value (g := (mkF m 1 #[rv b238] [(.ref b238)])) rfl rfl (hb hby d19_1)
  obtain ⟨cl267, Ar267, q267, S267, Nn267, H267, G267⟩ := id V_b239
  obtain ⟨_, T268, Lc268, X268, hQ268, st268⟩ := own_virtual (y := y_15) X266 hx hZ hown (own_w hw 90 rfl) (own_w hw 91 rfl) (own_w hw 93 rfl) (own_w hw 92 rfl) (own_w hw 15 rfl) (own_w hw 94 rfl) (rm91 l Z a0 hw [] w_CS b238 h0 Z0 S_w_CS F_b238_coder hc1) e266 E_b238 (g := (mkF m 6 #[rv b238] [(.ref b238), (.int (2 : Int32))])) (argsL := []) (rest := [(.int (2 : Int32))]) (W := 1) (lenOf pd_12 rfl) (hb hby d19_6) hml
  obtain ⟨rfl, N268q, e268⟩ := hQ268
  have N268 := Fr.app N0 N268q
  obtain ⟨fs, hr, hrun, hended, hW, hsame⟩ := X268.leave (v := some (.int (2 : Int32))) (fun h => by rw [hret] at h; cases h) hlk
  refine ⟨_, _, ?_, hrun, hended, _, _, rfl, ?_, ⟨_, rfl⟩, hW, hsame.mono (by decide) (by decide)⟩
  · show own_S p e below s₁ (mkF m 0 #[rv b238] []) _
    refine own_aN X0 hx hby d19_0 ?_
    refine st266 _ ?_
    refine X266.arraylength hx (by rw [e266]; exact Ar267.1) (State.isArrayOf_alike hZ.alike Ar267.2.1) (g := (mkF m 4 #[rv b238] [(.ref b239)])) rfl rfl (hb hby d19_4) _ ?_
    rw [len_of S267 Nn267]
    refine own_aN X266 hx hby d19_5 ?_
    refine st268 _ ?_
    refine XS.ishr X268.here hx rfl (hb hby d19_9) rfl ?_
    show own_S p e below T268 (mkF m 10 #[rv b238] [(.int ((2 : Int32) >>> ((0 : Int32) &&& 31)))]) _
    rw [(by decide : ((2 : Int32) >>> ((0 : Int32) &&& 31)) = (2 : Int32))]
    exact retI X268 hx hret (hb hby d19_10) hr
  · show Qrm265 Z w_CS da db b238 b239 k240 h0 _ T268.heap _
    rw [e268]
    exact ⟨rfl, N268, rfl⟩
def Qrm277 (Z : State) (w_SF : Value) (h0 : Heap) (v : Option Value) (h : Heap) (L : List Loc) : Prop := v = some (.int (1 : Int32)) ∧ Fr Z.heap.size L ∧ h = h0
theorem rm277 (l : Launch) (Z : State) (a0 : Array Value) (hw : own_HW Z a0) (ws : List Jvm.Cond) (w_SF : Value) (h0 : Heap) (Z0 : Ext Z.heap h0) (R_w_SF : w_SF.isRef = true) :
    own_met l y_11 jdk_41_method_11_code 3 (some .int) ws ({ frames := 0, cells := 0, slots := 0, locals := 0 } : Room) Z #[(.int (1 : Int32)), (.int (2 : Int32)), w_SF] h0 (Qrm277 Z w_SF h0) := by
  refine own_start (plainFor_of_name pn_4) (fun m => ef_jdk_41_method_11_IIX m (1 : Int32) (2 : Int32) w_SF R_w_SF) ?_
  intro p e s m below meth c s₁ hx hby hml hown hnm X0 hZ e0 hret hlk
  have N0 := Fr.nil Z.heap.size
  obtain ⟨fs, hr, hrun, hended, hW, hsame⟩ := X0.leave (v := some (.int (1 : Int32))) (fun h => by rw [hret] at h; cases h) hlk
  refine ⟨_, _, ?_, hrun, hended, _, _, rfl, ?_, ⟨_, rfl⟩, hW, hsame.mono (by decide) (by decide)⟩
  · show own_S p e below s₁ (mkF m 0 #[iv (1 : Int32), iv (2 : Int32), .val w_SF] []) _
    refine own_iN X0 hx hby d18_0 ?_
    refine own_in X0 hx hby d18_1 (flt (by decide : ¬ ((1 : Int32) < (0 : Int32)))).1 ?_
    refine own_iN X0 hx hby d18_4 ?_
    refine own_iN X0 hx hby d18_5 ?_
    refine own_cy (pc := 6) X0 hx hby d18_6 (tlt (by decide : (1 : Int32) < (2 : Int32))).1 16 ?_
    refine own_iN X0 hx hby d18_16 ?_
    exact retI X0 hx hret (hb hby d18_17) hr
  · show Qrm277 Z w_SF h0 _ s₁.heap _
    rw [e0]
    exact ⟨rfl, N0, rfl⟩
def Qrm275 (Z : State) (w_SF : Value) (h0 : Heap) (v : Option Value) (h : Heap) (L : List Loc) : Prop := v = none ∧ Fr Z.heap.size L ∧ h = h0
theorem rm275 (l : Launch) (Z : State) (a0 : Array Value) (hw : own_HW Z a0) (ws : List Jvm.Cond) (w_SF : Value) (h0 : Heap) (Z0 : Ext Z.heap h0) (S_w_SF : own_w_SF Z w_SF) (R_w_SF : w_SF.isRef = true) :
    own_met l y_12 jdk_42_method_155_code 2 none ws ({ frames := 1, cells := 0, slots := 0, locals := 14 } : Room) Z #[(.int (1 : Int32)), (.int (2 : Int32))] h0 (Qrm275 Z w_SF h0) := by
  refine own_start (plainFor_of_name pn_2) (fun m => ef_jdk_42_method_155_II m (1 : Int32) (2 : Int32)) ?_
  intro p e s m below meth c s₁ hx hby hml hown hnm X0 hZ e0 hret hlk
  have N0 := Fr.nil Z.heap.size
  obtain ⟨T276, X276, e276, st276⟩ := getS2 X0 hx hZ hown (host := "") (Or.inl (own_w hw 80 rfl)) Via.refl e0 (S_w_SF.ext Z0) (g := (mkF m 2 #[iv (1 : Int32), iv (2 : Int32)] [(.int (2 : Int32)), (.int (1 : Int32))])) rfl (hb hby d17_2)
  obtain ⟨_, T278, Lc278, X278, hQ278, st278⟩ := own_static (y := y_11) X276 hx hZ hown (own_w hw 82 rfl) (own_w hw 83 rfl) (own_w hw 81 rfl) (own_w hw 84 rfl) (rm277 l Z a0 hw [] w_SF h0 Z0 R_w_SF) e276 (g := (mkF m 5 #[iv (1 : Int32), iv (2 : Int32)] [w_SF, (.int (2 : Int32)), (.int (1 : Int32))])) (argsL := [(.int (1 : Int32)), (.int (2 : Int32)), w_SF]) (rest := []) (W := 0) (lenOf pd_9 rfl) (hb hby d17_5) hml
  obtain ⟨rfl, N278q, e278⟩ := hQ278
  have N278 := Fr.app N0 N278q
  obtain ⟨fs, hr, hrun, hended, hW, hsame⟩ := X278.leave (v := none) (fun _ => rfl) hlk
  refine ⟨_, _, ?_, hrun, hended, _, _, rfl, ?_, ⟨_, rfl⟩, hW, hsame.mono (by decide) (by decide)⟩
  · show own_S p e below s₁ (mkF m 0 #[iv (1 : Int32), iv (2 : Int32)] []) _
    refine own_iN X0 hx hby d17_0 ?_
    refine own_iN X0 hx hby d17_1 ?_
    refine st276 _ ?_
    refine st278 _ ?_
    refine XS.pop X278.here hx rfl (hb hby d17_8) rfl rfl ?_
    exact X278.returnOut hx hret (hb hby d17_9) hr
  · show Qrm275 Z w_SF h0 _ T278.heap _
    rw [e278]
    exact ⟨rfl, N278, rfl⟩
def Qrm273 (Z : State) (w_SF : Value) (da db : Int32) (b239 : Addr) (k240 : ClassId) (h0 : Heap) (v : Option Value) (h : Heap) (L : List Loc) : Prop := v = some (.int db) ∧ Fr Z.heap.size L ∧ h = h0
theorem rm273 (l : Launch) (Z : State) (a0 : Array Value) (hw : own_HW Z a0) (ws : List Jvm.Cond) (w_SF : Value) (da db : Int32) (b239 : Addr) (k240 : ClassId) (h0 : Heap) (Z0 : Ext Z.heap h0) (S_w_SF : own_w_SF Z w_SF) (R_w_SF : w_SF.isRef = true) (V_b239 : Arv Z h0 b239 k240 .byte (2 : Int32) [(.int (da.toInt8.toInt32)), (.int (db.toInt8.toInt32))] (.int (0 : Int32))) (hc54 : own_ch db) :
    own_met l y_13 jdk_43_method_2_code 2 (some .char) ws ({ frames := 2, cells := 0, slots := 0, locals := 27 } : Room) Z #[(.ref b239), (.int (1 : Int32))] h0 (Qrm273 Z w_SF da db b239 k240 h0) := by
  refine own_start (plainFor_of_name pn_5) (fun m => ef_jdk_43_method_2_RI m b239 (1 : Int32)) ?_
  intro p e s m below meth c s₁ hx hby hml hown hnm X0 hZ e0 hret hlk
  have N0 := Fr.nil Z.heap.size
  obtain ⟨cl274, Ar274, q274, S274, Nn274, H274, G274⟩ := id V_b239
  obtain ⟨_, T279, Lc279, X279, hQ279, st279⟩ := own_static (y := y_12) X0 hx hZ hown (own_w hw 77 rfl) (own_w hw 78 rfl) (own_w hw 15 rfl) (own_w hw 79 rfl) (rm275 l Z a0 hw [] w_SF h0 Z0 S_w_SF R_w_SF) e0 (g := (mkF m 3 #[rv b239, iv (1 : Int32)] [(.int (2 : Int32)), (.int (1 : Int32))])) (argsL := [(.int (1 : Int32)), (.int (2 : Int32))]) (rest := []) (W := 0) (lenOf pd_10 rfl) (hb hby d16_3) hml
  obtain ⟨rfl, N279q, e279⟩ := hQ279
  have N279 := Fr.app N0 N279q
  obtain ⟨cl280, Ar280, q280, S280, Nn280, H280, G280⟩ := id V_b239
  have hin280 : ¬ ((1 : Int32) < 0 ∨ cl280.slots.size ≤ ((1 : Int32)).toNatClampNeg) := inb_of S280 ⟨by decide, by decide⟩
  have hat280 : cl280.slots[((1 : Int32)).toNatClampNeg]? = some (.int (db.toInt8.toInt32)) := Has.at H280 hin280 rfl
  obtain ⟨fs, hr, hrun, hended, hW, hsame⟩ := X279.leave (v := some (.int db)) (fun h => by rw [hret] at h; cases h) hlk
  refine ⟨_, _, ?_, hrun, hended, _, _, rfl, ?_, ⟨_, rfl⟩, hW, hsame.mono (by decide) (by decide)⟩
  · show own_S p e below s₁ (mkF m 0 #[rv b239, iv (1 : Int32)] []) _
    refine own_iN X0 hx hby d16_0 ?_
    refine own_aN X0 hx hby d16_1 ?_
    refine X0.arraylength hx (by rw [e0]; exact Ar274.1) (State.isArrayOf_alike hZ.alike Ar274.2.1) (g := (mkF m 2 #[rv b239, iv (1 : Int32)] [(.ref b239), (.int (1 : Int32))])) rfl rfl (hb hby d16_2) _ ?_
    rw [len_of S274 Nn274]
    refine st279 _ ?_
    refine own_aN X279 hx hby d16_6 ?_
    refine own_iN X279 hx hby d16_7 ?_
    refine X279.baloadBytes hx (j := (1 : Int32)) (v := (.int (db.toInt8.toInt32))) (by rw [e279]; exact Ar280.1) (State.isArrayOf_alike hZ.alike Ar280.2.1) Ar280.2.2 hin280 hat280 (g := (mkF m 8 #[rv b239, iv (1 : Int32)] [(.int (1 : Int32)), (.ref b239)])) rfl rfl (hb hby d16_8) _ ?_
    refine XS.sipush X279.here hx rfl (hb hby d16_9) ?_
    refine XS.iand X279.here hx rfl (hb hby d16_12) rfl ?_
    show own_S p e below T279 (mkF m 13 #[rv b239, iv (1 : Int32)] [(.int ((db.toInt8.toInt32) &&& (255 : Int32)))]) _
    rw [(own_b255 hc54)]
    refine XS.i2c X279.here hx rfl (hb hby d16_13) rfl ?_
    show own_S p e below T279 (mkF m 14 #[rv b239, iv (1 : Int32)] [(.int (db.toUInt32.toUInt16.toUInt32.toInt32))]) _
    rw [(own_i2c hc54)]
    rw [← (own_nc hc54)] at hr
    exact retN X279 hx (t := .char) hret (by simp) (hb hby d16_14) hr
  · show Qrm273 Z w_SF da db b239 k240 h0 _ T279.heap _
    rw [e279]
    exact ⟨rfl, N279, rfl⟩
def Qrm270 (Z : State) (w_CS : Int32) (w_SF : Value) (da db : Int32) (b238 b239 : Addr) (k240 : ClassId) (h0 : Heap) (v : Option Value) (h : Heap) (L : List Loc) : Prop := v = some (.int db) ∧ Fr Z.heap.size L ∧ h = h0
theorem rm270 (l : Launch) (Z : State) (a0 : Array Value) (hw : own_HW Z a0) (ws : List Jvm.Cond) (w_CS : Int32) (w_SF : Value) (da db : Int32) (b238 b239 : Addr) (k240 : ClassId) (h0 : Heap) (Z0 : Ext Z.heap h0) (S_w_CS : own_w_CS Z w_CS) (S_w_SF : own_w_SF Z w_SF) (R_w_SF : w_SF.isRef = true) (E_b238 : Exa Z h0 b238 "java/lang/String") (F_b238_coder : Fld Z h0 b238 "java/lang/String" "coder" "B" (.int (0 : Int32))) (F_b238_value : Fld Z h0 b238 "java/lang/String" "value" "[B" (.ref b239)) (V_b239 : Arv Z h0 b239 k240 .byte (2 : Int32) [(.int (da.toInt8.toInt32)), (.int (db.toInt8.toInt32))] (.int (0 : Int32))) (hc1 : ¬ (w_CS = (0 : Int32))) (hc54 : own_ch db) :
    own_met l y_14 jdk_42_method_56_code 2 (some .char) ws ({ frames := 3, cells := 0, slots := 0, locals := 40 } : Room) Z #[(.ref b238), (.int (1 : Int32))] h0 (Qrm270 Z w_CS w_SF da db b238 b239 k240 h0) := by
  refine own_start (plainFor_of_name pn_2) (fun m => ef_jdk_42_method_56_RI m b238 (1 : Int32)) ?_
  intro p e s m below meth c s₁ hx hby hml hown hnm X0 hZ e0 hret hlk
  have N0 := Fr.nil Z.heap.size
  obtain ⟨_, T271, Lc271, X271, hQ271, st271⟩ := own_virtual (y := y_10) X0 hx hZ hown (own_w hw 68 rfl) (own_w hw 69 rfl) (own_w hw 71 rfl) (own_w hw 70 rfl) (own_w hw 15 rfl) (own_w hw 72 rfl) (rm72 l Z a0 hw [] w_CS b238 h0 Z0 S_w_CS F_b238_coder hc1) e0 E_b238 (g := (mkF m 1 #[rv b238, iv (1 : Int32)] [(.ref b238)])) (argsL := []) (rest := []) (W := 0) (lenOf pd_8 rfl) (hb hby d14_1) hml
  obtain ⟨rfl, N271q, e271⟩ := hQ271
  have N271 := Fr.app N0 N271q
  obtain ⟨T272, X272, e272, st272⟩ := getF X271 hx hZ hown (host := "") (Or.inl (own_w hw 41 rfl)) Via.refl e271 F_b238_value (g := (mkF m 8 #[rv b238, iv (1 : Int32)] [(.ref b238)])) rfl rfl (hb hby d14_8)
  obtain ⟨_, T281, Lc281, X281, hQ281, st281⟩ := own_static (y := y_13) X272 hx hZ hown (own_w hw 73 rfl) (own_w hw 74 rfl) (own_w hw 75 rfl) (own_w hw 76 rfl) (rm273 l Z a0 hw [] w_SF da db b239 k240 h0 Z0 S_w_SF R_w_SF V_b239 hc54) e272 (g := (mkF m 12 #[rv b238, iv (1 : Int32)] [(.int (1 : Int32)), (.ref b239)])) (argsL := [(.ref b239), (.int (1 : Int32))]) (rest := []) (W := 0) (lenOf pd_11 rfl) (hb hby d14_12) hml
  obtain ⟨rfl, N281q, e281⟩ := hQ281
  have N281 := Fr.app N271 N281q
  obtain ⟨fs, hr, hrun, hended, hW, hsame⟩ := X281.leave (v := some (.int db)) (fun h => by rw [hret] at h; cases h) hlk
  refine ⟨_, _, ?_, hrun, hended, _, _, rfl, ?_, ⟨_, rfl⟩, hW, hsame.mono (by decide) (by decide)⟩
  · show own_S p e below s₁ (mkF m 0 #[rv b238, iv (1 : Int32)] []) _
    refine own_aN X0 hx hby d14_0 ?_
    refine st271 _ ?_
    refine own_in X271 hx hby d14_4 (feq (by decide : ¬ ((1 : Int32) = (0 : Int32)))).1 ?_
    refine own_aN X271 hx hby d14_7 ?_
    refine st272 _ ?_
    refine own_iN X272 hx hby d14_11 ?_
    refine st281 _ ?_
    rw [← (own_nc hc54)] at hr
    exact retN X281 hx (t := .char) hret (by simp) (hb hby d14_15) hr
  · show Qrm270 Z w_CS w_SF da db b238 b239 k240 h0 _ T281.heap _
    rw [e281]
    exact ⟨rfl, N281, rfl⟩
def Qrm246 (Z : State) (w_CS : Int32) (w_SF : Value) (da db : Int32) (b238 b239 : Addr) (k240 : ClassId) (h0 : Heap) (v : Option Value) (h : Heap) (L : List Loc) : Prop := v = some (.int (1 : Int32)) ∧ Fr Z.heap.size L ∧ h = h0
theorem rm246 (l : Launch) (Z : State) (a0 : Array Value) (hw : own_HW Z a0) (ws : List Jvm.Cond) (w_CS : Int32) (w_SF : Value) (da db : Int32) (b238 b239 : Addr) (k240 : ClassId) (h0 : Heap) (Z0 : Ext Z.heap h0) (S_w_CS : own_w_CS Z w_CS) (S_w_SF : own_w_SF Z w_SF) (R_w_SF : w_SF.isRef = true) (E_b238 : Exa Z h0 b238 "java/lang/String") (F_b238_coder : Fld Z h0 b238 "java/lang/String" "coder" "B" (.int (0 : Int32))) (F_b238_value : Fld Z h0 b238 "java/lang/String" "value" "[B" (.ref b239)) (V_b239 : Arv Z h0 b239 k240 .byte (2 : Int32) [(.int (da.toInt8.toInt32)), (.int (db.toInt8.toInt32))] (.int (0 : Int32))) (hc1 : ¬ (w_CS = (0 : Int32))) (hc43 : own_ch da) (hc46 : own_low da) (hc54 : own_ch db) (hc56 : own_aln db) :
    own_met l y_17 prog_97_method_2_code 4 (some .boolean) ws ({ frames := 4, cells := 0, slots := 0, locals := 53 } : Room) Z #[(.ref b238)] h0 (Qrm246 Z w_CS w_SF da db b238 b239 k240 h0) := by
  refine own_start (plainFor_of_name pn_6) (fun m => ef_prog_97_method_2_R m b238) ?_
  intro p e s m below meth c s₁ hx hby hml hown hnm X0 hZ e0 hret hlk
  have N0 := Fr.nil Z.heap.size
  obtain ⟨_, T250, Lc250, X250, hQ250, st250⟩ := own_virtual (y := y_9) X0 hx hZ hown (own_w hw 58 rfl) (own_w hw 59 rfl) (own_w hw 61 rfl) (own_w hw 60 rfl) (own_w hw 15 rfl) (own_w hw 62 rfl) (rm247 l Z a0 hw [] da db b238 b239 k240 h0 Z0 F_b238_value V_b239) e0 E_b238 (g := (mkF m 1 #[rv b238, .unset, .unset, .unset] [(.ref b238)])) (argsL := []) (rest := []) (W := 0) (lenOf pd_8 rfl) (hb hby d12_1) hml
  obtain ⟨rfl, N250q, e250⟩ := hQ250
  have N250 := Fr.app N0 N250q
  obtain ⟨_, T263, Lc263, X263, hQ263, st263⟩ := own_virtual (y := y_14) X250 hx hZ hown (own_w hw 63 rfl) (own_w hw 64 rfl) (own_w hw 66 rfl) (own_w hw 65 rfl) (own_w hw 15 rfl) (own_w hw 67 rfl) (rm251 l Z a0 hw [] w_CS w_SF da db b238 b239 k240 h0 Z0 S_w_CS S_w_SF R_w_SF E_b238 F_b238_coder F_b238_value V_b239 hc1 hc43) e250 E_b238 (g := (mkF m 9 #[rv b238, .unset, .unset, .unset] [(.int (0 : Int32)), (.ref b238)])) (argsL := [(.int (0 : Int32))]) (rest := []) (W := 0) (lenOf pd_0 rfl) (hb hby d12_9) hml
  obtain ⟨rfl, N263q, e263⟩ := hQ263
  have N263 := Fr.app N250 N263q
  obtain ⟨_, T264, Lc264, X264, hQ264, st264⟩ := own_virtual (y := y_14) X263 hx hZ hown (own_w hw 63 rfl) (own_w hw 64 rfl) (own_w hw 66 rfl) (own_w hw 65 rfl) (own_w hw 15 rfl) (own_w hw 67 rfl) (rm251 l Z a0 hw [] w_CS w_SF da db b238 b239 k240 h0 Z0 S_w_CS S_w_SF R_w_SF E_b238 F_b238_coder F_b238_value V_b239 hc1 hc43) e263 E_b238 (g := (mkF m 19 #[rv b238, .unset, .unset, .unset] [(.int (0 : Int32)), (.ref b238)])) (argsL := [(.int (0 : Int32))]) (rest := []) (W := 0) (lenOf pd_0 rfl) (hb hby d12_19) hml
  obtain ⟨rfl, N264q, e264⟩ := hQ264
  have N264 := Fr.app N263 N264q
  obtain ⟨_, T269, Lc269, X269, hQ269, st269⟩ := own_virtual (y := y_16) X264 hx hZ hown (own_w hw 85 rfl) (own_w hw 86 rfl) (own_w hw 88 rfl) (own_w hw 87 rfl) (own_w hw 15 rfl) (own_w hw 89 rfl) (rm265 l Z a0 hw [] w_CS da db b238 b239 k240 h0 Z0 S_w_CS E_b238 F_b238_coder F_b238_value V_b239 hc1) e264 E_b238 (g := (mkF m 41 #[rv b238, iv (1 : Int32), iv (1 : Int32), .unset] [(.ref b238), (.int (1 : Int32))])) (argsL := []) (rest := [(.int (1 : Int32))]) (W := 1) (lenOf pd_13 rfl) (hb hby d12_41) hml
  obtain ⟨rfl, N269q, e269⟩ := hQ269
  have N269 := Fr.app N264 N269q
  obtain ⟨_, T282, Lc282, X282, hQ282, st282⟩ := own_virtual (y := y_14) X269 hx hZ hown (own_w hw 63 rfl) (own_w hw 64 rfl) (own_w hw 66 rfl) (own_w hw 65 rfl) (own_w hw 15 rfl) (own_w hw 67 rfl) (rm270 l Z a0 hw [] w_CS w_SF da db b238 b239 k240 h0 Z0 S_w_CS S_w_SF R_w_SF E_b238 F_b238_coder F_b238_value V_b239 hc1 hc54) e269 E_b238 (g := (mkF m 49 #[rv b238, iv (1 : Int32), iv (1 : Int32), .unset] [(.int (1 : Int32)), (.ref b238)])) (argsL := [(.int (1 : Int32))]) (rest := []) (W := 0) (lenOf pd_0 rfl) (hb hby d12_49) hml
  obtain ⟨rfl, N282q, e282⟩ := hQ282
  have N282 := Fr.app N269 N282q
  obtain ⟨_, T283, Lc283, X283, hQ283, st283⟩ := own_virtual (y := y_16) X282 hx hZ hown (own_w hw 85 rfl) (own_w hw 86 rfl) (own_w hw 88 rfl) (own_w hw 87 rfl) (own_w hw 15 rfl) (own_w hw 89 rfl) (rm265 l Z a0 hw [] w_CS da db b238 b239 k240 h0 Z0 S_w_CS E_b238 F_b238_coder F_b238_value V_b239 hc1) e282 E_b238 (g := (mkF m 41 #[rv b238, iv (1 : Int32), iv (2 : Int32), iv db] [(.ref b238), (.int (2 : Int32))])) (argsL := []) (rest := [(.int (2 : Int32))]) (W := 1) (lenOf pd_13 rfl) (hb hby d12_41) hml
  obtain ⟨rfl, N283q, e283⟩ := hQ283
  have N283 := Fr.app N282 N283q
  obtain ⟨fs, hr, hrun, hended, hW, hsame⟩ := X283.leave (v := some (.int (1 : Int32))) (fun h => by rw [hret] at h; cases h) hlk
  refine ⟨_, _, ?_, hrun, hended, _, _, rfl, ?_, ⟨_, rfl⟩, hW, hsame.mono (by decide) (by decide)⟩
  · show own_S p e below s₁ (mkF m 0 #[rv b238, .unset, .unset, .unset] []) _
    refine own_aN X0 hx hby d12_0 ?_
    refine st250 _ ?_
    refine own_in X250 hx hby d12_4 (teq (rfl : (0 : Int32) = (0 : Int32))).2 ?_
    refine own_aN X250 hx hby d12_7 ?_
    refine own_k X250 hx hby d12_8 ?_
    refine st263 _ ?_
    refine XS.bipush X263.here hx rfl (hb hby d12_12) ?_
    refine own_cn X263 hx hby d12_14 (flt (own_low1 hc46)).1 ?_
    refine own_aN X263 hx hby d12_17 ?_
    refine own_k X263 hx hby d12_18 ?_
    refine st264 _ ?_
    refine XS.bipush X264.here hx rfl (hb hby d12_22) ?_
    refine own_cn X264 hx hby d12_24 (flt (own_low2 hc46)).2.2.1 ?_
    refine own_k X264 hx hby d12_27 ?_
    refine own_go (pc := 28) X264 hx hby d12_28 32 ?_
    refine XS.istoreN X264.here hx rfl (hb hby d12_32) rfl (l' := #[rv b238, iv (1 : Int32), .unset, .unset]) rfl ?_
    refine own_k X264 hx hby d12_33 ?_
    refine XS.istoreN X264.here hx rfl (hb hby d12_34) rfl (l' := #[rv b238, iv (1 : Int32), iv (1 : Int32), .unset]) rfl ?_
    refine own_iN X264 hx hby d12_35 ?_
    refine own_in X264 hx hby d12_36 (feq (by decide : ¬ ((1 : Int32) = (0 : Int32)))).1 ?_
    refine own_iN X264 hx hby d12_39 ?_
    refine own_aN X264 hx hby d12_40 ?_
    refine st269 _ ?_
    refine own_cn X269 hx hby d12_44 (tlt (by decide : (1 : Int32) < (2 : Int32))).2.1 ?_
    refine own_aN X269 hx hby d12_47 ?_
    refine own_iN X269 hx hby d12_48 ?_
    refine st282 _ ?_
    refine XS.istoreN X282.here hx rfl (hb hby d12_52) rfl (l' := #[rv b238, iv (1 : Int32), iv (1 : Int32), iv db]) rfl ?_
    refine own_br X282 hx hby b238 (1 : Int32) db hc56 _ ?_
    refine XS.istoreN X282.here hx rfl (hb hby d12_94) rfl (l' := #[rv b238, iv (1 : Int32), iv (1 : Int32), iv db]) rfl ?_
    refine XS.iinc X282.here hx rfl (hb hby d12_95) rfl (l' := #[rv b238, iv (1 : Int32), iv (2 : Int32), iv db]) rfl ?_
    refine own_go (pc := 98) X282 hx hby d12_98 35 ?_
    refine own_iN X282 hx hby d12_35 ?_
    refine own_in X282 hx hby d12_36 (feq (by decide : ¬ ((1 : Int32) = (0 : Int32)))).1 ?_
    refine own_iN X282 hx hby d12_39 ?_
    refine own_aN X282 hx hby d12_40 ?_
    refine st283 _ ?_
    refine own_cy (pc := 44) X283 hx hby d12_44 (flt (Int32.lt_irrefl : ¬ ((2 : Int32) < (2 : Int32)))).2.1 101 ?_
    refine own_iN X283 hx hby d12_101 ?_
    exact retN X283 hx (t := .boolean) hret (by simp) (hb hby d12_102) hr
  · show Qrm246 Z w_CS w_SF da db b238 b239 k240 h0 _ T283.heap _
    rw [e283]
    exact ⟨rfl, N283, rfl⟩
def Qrm244 (Z : State) (w_CS : Int32) (w_SF : Value) (da db : Int32) (b238 b239 : Addr) (k240 : ClassId) (b243 : Addr) (h0 : Heap) (v : Option Value) (h : Heap) (L : List Loc) : Prop := v = none ∧ Fr Z.heap.size L ∧ Keep h0 h [b243] ∧ Exa Z h b243 "com/example/faretally/faretally/RefundRequest$Involuntary$Reason" ∧ Fld Z h b243 "com/example/faretally/faretally/RefundRequest$Involuntary$Reason" "written" "Ljava/lang/String;" (.ref b238)
theorem rm244 (l : Launch) (Z : State) (a0 : Array Value) (hw : own_HW Z a0) (ws : List Jvm.Cond) (w_CS : Int32) (w_SF : Value) (da db : Int32) (b238 b239 : Addr) (k240 : ClassId) (b243 : Addr) (h0 : Heap) (Z0 : Ext Z.heap h0) (S_w_CS : own_w_CS Z w_CS) (S_w_SF : own_w_SF Z w_SF) (R_w_SF : w_SF.isRef = true) (E_b243 : Exa Z h0 b243 "com/example/faretally/faretally/RefundRequest$Involuntary$Reason") (F_b243_written : Fld Z h0 b243 "com/example/faretally/faretally/RefundRequest$Involuntary$Reason" "written" "Ljava/lang/String;" .null) (E_b238 : Exa Z h0 b238 "java/lang/String") (F_b238_coder : Fld Z h0 b238 "java/lang/String" "coder" "B" (.int (0 : Int32))) (F_b238_value : Fld Z h0 b238 "java/lang/String" "value" "[B" (.ref b239)) (V_b239 : Arv Z h0 b239 k240 .byte (2 : Int32) [(.int (da.toInt8.toInt32)), (.int (db.toInt8.toInt32))] (.int (0 : Int32))) (g_b243 : Z.heap.size ≤ b243) (hc1 : ¬ (w_CS = (0 : Int32))) (hc43 : own_ch da) (hc46 : own_low da) (hc54 : own_ch db) (hc56 : own_aln db) :
    own_met l y_18 prog_97_method_1_code 2 none ws ({ frames := 5, cells := 0, slots := 0, locals := 68 } : Room) Z #[(.ref b243), (.ref b238)] h0 (Qrm244 Z w_CS w_SF da db b238 b239 k240 b243 h0) := by
  refine own_start (plainFor_of_name pn_6) (fun m => ef_prog_97_method_1_RR m b243 b238) ?_
  intro p e s m below meth c s₁ hx hby hml hown hnm X0 hZ e0 hret hlk
  have N0 := Fr.nil Z.heap.size
  obtain ⟨_, T245, Lc245, X245, hQ245, st245⟩ := own_special (y := y_8) X0 hx hZ hown rfl (own_w hw 49 rfl) (own_w hw 50 rfl) (own_w hw 52 rfl) (own_w hw 53 rfl) (rm63 l Z a0 hw [] b243 h0 Z0 ) e0 b243 (g := (mkF m 1 #[rv b243, rv b238] [(.ref b243)])) (argsL := []) (rest := []) (W := 0) (lenOf pd_7 rfl) (hb hby d10_1) hml
  obtain ⟨rfl, N245q, e245⟩ := hQ245
  have N245 := Fr.app N0 N245q
  obtain ⟨_, T284, Lc284, X284, hQ284, st284⟩ := own_static (y := y_17) X245 hx hZ hown (own_w hw 55 rfl) (own_w hw 56 rfl) (own_w hw 45 rfl) (own_w hw 57 rfl) (rm246 l Z a0 hw [] w_CS w_SF da db b238 b239 k240 h0 Z0 S_w_CS S_w_SF R_w_SF E_b238 F_b238_coder F_b238_value V_b239 hc1 hc43 hc46 hc54 hc56) e245 (g := (mkF m 5 #[rv b243, rv b238] [(.ref b238)])) (argsL := [(.ref b238)]) (rest := []) (W := 0) (lenOf pd_14 rfl) (hb hby d10_5) hml
  obtain ⟨rfl, N284q, e284⟩ := hQ284
  have N284 := Fr.app N245 N284q
  obtain ⟨T285, h285, X285, e285, W285, st285⟩ := putF X284 hx hZ hown (host := "") (Or.inl (own_w hw 95 rfl)) Via.refl e284 F_b243_written E_b243 (Or.inr ⟨(own_w hw 96 rfl), rfl, hnm⟩) (own_w hw 44 rfl) (ty := (.object "java/lang/String")) (by decide) rfl rfl (g := (mkF m 30 #[rv b243, rv b238] [(.ref b238), (.ref b243)])) rfl rfl (hb hby d10_30)
  have K285 : Keep h0 h285 [b243] := (Keep.refl h0 [b243]).wr W285 (Or.inl (List.mem_of_getElem? (i := 0) rfl))
  have XX285 : Ext Z.heap h285 := own_extW Z0 W285 g_b243
  have N285 := Fr.snoc X285 N284 g_b243
  obtain ⟨fs, hr, hrun, hended, hW, hsame⟩ := X285.leave (v := none) (fun _ => rfl) hlk
  refine ⟨_, _, ?_, hrun, hended, _, _, rfl, ?_, ⟨_, rfl⟩, hW, hsame.mono (by decide) (by decide)⟩
  · show own_S p e below s₁ (mkF m 0 #[rv b243, rv b238] []) _
    refine own_aN X0 hx hby d10_0 ?_
    refine st245 _ ?_
    refine own_aN X245 hx hby d10_4 ?_
    refine st284 _ ?_
    refine own_iy (pc := 8) X284 hx hby d10_8 (feq (by decide : ¬ ((1 : Int32) = (0 : Int32)))).2 28 ?_
    refine own_aN X284 hx hby d10_28 ?_
    refine own_aN X284 hx hby d10_29 ?_
    refine st285 _ ?_
    exact X285.returnOut hx hret (hb hby d10_33) hr
  · show Qrm244 Z w_CS w_SF da db b238 b239 k240 b243 h0 _ T285.heap _
    rw [e285]
    exact ⟨rfl, N285, K285, (E_b243.wr W285), (F_b243_written.same W285)⟩
def Qrm303 (Z : State) (ca da db : Int32) (b194 : Addr) (k195 : ClassId) (b239 : Addr) (k240 : ClassId) (h0 : Heap) (v : Option Value) (h : Heap) (L : List Loc) : Prop := v = some (.int (0 : Int32)) ∧ Fr Z.heap.size L ∧ h = h0
theorem rm303 (l : Launch) (Z : State) (a0 : Array Value) (hw : own_HW Z a0) (ws : List Jvm.Cond) (ca da db : Int32) (b194 : Addr) (k195 : ClassId) (b239 : Addr) (k240 : ClassId) (h0 : Heap) (Z0 : Ext Z.heap h0) (V_b194 : Arv Z h0 b194 k195 .byte (1 : Int32) [(.int (ca.toInt8.toInt32))] (.int (0 : Int32))) (V_b239 : Arv Z h0 b239 k240 .byte (2 : Int32) [(.int (da.toInt8.toInt32)), (.int (db.toInt8.toInt32))] (.int (0 : Int32))) :
    own_met l y_19 jdk_43_method_13_code 3 (some .boolean) ws ({ frames := 0, cells := 0, slots := 0, locals := 0 } : Room) Z #[(.ref b194), (.ref b239)] h0 (Qrm303 Z ca da db b194 k195 b239 k240 h0) := by
  refine own_start (plainFor_of_name pn_5) (fun m => ef_jdk_43_method_13_RR m b194 b239) ?_
  intro p e s m below meth c s₁ hx hby hml hown hnm X0 hZ e0 hret hlk
  have N0 := Fr.nil Z.heap.size
  obtain ⟨cl304, Ar304, q304, S304, Nn304, H304, G304⟩ := id V_b194
  obtain ⟨cl305, Ar305, q305, S305, Nn305, H305, G305⟩ := id V_b239
  obtain ⟨fs, hr, hrun, hended, hW, hsame⟩ := X0.leave (v := some (.int (0 : Int32))) (fun h => by rw [hret] at h; cases h) hlk
  refine ⟨_, _, ?_, hrun, hended, _, _, rfl, ?_, ⟨_, rfl⟩, hW, hsame.mono (by decide) (by decide)⟩
  · show own_S p e below s₁ (mkF m 0 #[rv b194, rv b239, .unset] []) _
    refine own_aN X0 hx hby d23_0 ?_
    refine X0.arraylength hx (by rw [e0]; exact Ar304.1) (State.isArrayOf_alike hZ.alike Ar304.2.1) (g := (mkF m 1 #[rv b194, rv b239, .unset] [(.ref b194)])) rfl rfl (hb hby d23_1) _ ?_
    rw [len_of S304 Nn304]
    refine own_aN X0 hx hby d23_2 ?_
    refine X0.arraylength hx (by rw [e0]; exact Ar305.1) (State.isArrayOf_alike hZ.alike Ar305.2.1) (g := (mkF m 3 #[rv b194, rv b239, .unset] [(.ref b239), (.int (1 : Int32))])) rfl rfl (hb hby d23_3) _ ?_
    rw [len_of S305 Nn305]
    refine own_cy (pc := 4) X0 hx hby d23_4 (feq (by decide : ¬ ((1 : Int32) = (2 : Int32)))).2 34 ?_
    refine own_k X0 hx hby d23_34 ?_
    exact retN X0 hx (t := .boolean) hret (by simp) (hb hby d23_35) hr
  · show Qrm303 Z ca da db b194 k195 b239 k240 h0 _ s₁.heap _
    rw [e0]
    exact ⟨rfl, N0, rfl⟩
def Qrm295 (Z : State) (w_CS ca da db : Int32) (b193 b194 : Addr) (k195 : ClassId) (b238 b239 : Addr) (k240 : ClassId) (h0 : Heap) (v : Option Value) (h : Heap) (L : List Loc) : Prop := v = some (.int (0 : Int32)) ∧ Fr Z.heap.size L ∧ h = h0
theorem rm295 (l : Launch) (Z : State) (a0 : Array Value) (hw : own_HW Z a0) (ws : List Jvm.Cond) (w_CS ca da db : Int32) (b193 b194 : Addr) (k195 : ClassId) (b238 b239 : Addr) (k240 : ClassId) (h0 : Heap) (Z0 : Ext Z.heap h0) (S_w_CS : own_w_CS Z w_CS) (F_b193_coder : Fld Z h0 b193 "java/lang/String" "coder" "B" (.int (0 : Int32))) (F_b193_value : Fld Z h0 b193 "java/lang/String" "value" "[B" (.ref b194)) (E_b238 : Exa Z h0 b238 "java/lang/String") (F_b238_coder : Fld Z h0 b238 "java/lang/String" "coder" "B" (.int (0 : Int32))) (F_b238_value : Fld Z h0 b238 "java/lang/String" "value" "[B" (.ref b239)) (V_b194 : Arv Z h0 b194 k195 .byte (1 : Int32) [(.int (ca.toInt8.toInt32))] (.int (0 : Int32))) (V_b239 : Arv Z h0 b239 k240 .byte (2 : Int32) [(.int (da.toInt8.toInt32)), (.int (db.toInt8.toInt32))] (.int (0 : Int32))) (hc57 : b193 ≠ b238) (hc1 : ¬ (w_CS = (0 : Int32))) :
    own_met l y_20 jdk_42_method_66_code 3 (some .boolean) ws ({ frames := 1, cells := 0, slots := 0, locals := 14 } : Room) Z #[(.ref b193), (.ref b238)] h0 (Qrm295 Z w_CS ca da db b193 b194 k195 b238 b239 k240 h0) := by
  refine own_start (plainFor_of_name pn_2) (fun m => ef_jdk_42_method_66_RR m b193 b238) ?_
  intro p e s m below meth c s₁ hx hby hml hown hnm X0 hZ e0 hret hlk
  have N0 := Fr.nil Z.heap.size
  obtain ⟨T296, X296, e296, st296⟩ := instY X0 hx hZ hown (own_w hw 109 rfl) e0 (Ins.self E_b238) (g := (mkF m 8 #[rv b193, rv b238, .unset] [(.ref b238)])) rfl rfl (hb hby d22_8)
  obtain ⟨T297, X297, e297, st297⟩ := castY X296 hx hZ hown (own_w hw 109 rfl) e296 (Ins.self E_b238) (g := (mkF m 15 #[rv b193, rv b238, .unset] [(.ref b238)])) rfl rfl (hb hby d22_15)
  obtain ⟨T298, X298, e298, st298⟩ := getS2 X297 hx hZ hown (host := "") (Or.inl (own_w hw 27 rfl)) Via.refl e297 (S_w_CS.ext Z0) (g := (mkF m 19 #[rv b193, rv b238, rv b238] [])) rfl (hb hby d22_19)
  obtain ⟨T299, X299, e299, st299⟩ := getF X298 hx hZ hown (host := "") (Or.inl (own_w hw 39 rfl)) Via.refl e298 F_b193_coder (g := (mkF m 26 #[rv b193, rv b238, rv b238] [(.ref b193)])) rfl rfl (hb hby d22_26)
  obtain ⟨T300, X300, e300, st300⟩ := getF X299 hx hZ hown (host := "") (Or.inl (own_w hw 39 rfl)) Via.refl e299 F_b238_coder (g := (mkF m 30 #[rv b193, rv b238, rv b238] [(.ref b238), (.int (0 : Int32))])) rfl rfl (hb hby d22_30)
  obtain ⟨T301, X301, e301, st301⟩ := getF X300 hx hZ hown (host := "") (Or.inl (own_w hw 41 rfl)) Via.refl e300 F_b193_value (g := (mkF m 37 #[rv b193, rv b238, rv b238] [(.ref b193)])) rfl rfl (hb hby d22_37)
  obtain ⟨T302, X302, e302, st302⟩ := getF X301 hx hZ hown (host := "") (Or.inl (own_w hw 41 rfl)) Via.refl e301 F_b238_value (g := (mkF m 41 #[rv b193, rv b238, rv b238] [(.ref b238), (.ref b194)])) rfl rfl (hb hby d22_41)
  obtain ⟨_, T306, Lc306, X306, hQ306, st306⟩ := own_static (y := y_19) X302 hx hZ hown (own_w hw 110 rfl) (own_w hw 111 rfl) (own_w hw 75 rfl) (own_w hw 112 rfl) (rm303 l Z a0 hw [] ca da db b194 k195 b239 k240 h0 Z0 V_b194 V_b239) e302 (g := (mkF m 44 #[rv b193, rv b238, rv b238] [(.ref b239), (.ref b194)])) (argsL := [(.ref b194), (.ref b239)]) (rest := []) (W := 0) (lenOf pd_16 rfl) (hb hby d22_44) hml
  obtain ⟨rfl, N306q, e306⟩ := hQ306
  have N306 := Fr.app N0 N306q
  obtain ⟨fs, hr, hrun, hended, hW, hsame⟩ := X306.leave (v := some (.int (0 : Int32))) (fun h => by rw [hret] at h; cases h) hlk
  refine ⟨_, _, ?_, hrun, hended, _, _, rfl, ?_, ⟨_, rfl⟩, hW, hsame.mono (by decide) (by decide)⟩
  · show own_S p e below s₁ (mkF m 0 #[rv b193, rv b238, .unset] []) _
    refine own_aN X0 hx hby d22_0 ?_
    refine own_aN X0 hx hby d22_1 ?_
    refine Jvm.RoadKit.acmp (g := (mkF m 2 #[rv b193, rv b238, .unset] [(.ref b238), (.ref b193)])) X0 hx rfl rfl rfl (pc0 := 2) (pc' := 7) (same := false) rfl (hb hby d22_2) rfl (decide_eq_false fun q => hc57 (Value.ref.inj q)) (by decide) (by decide) ?_
    refine own_aN X0 hx hby d22_7 ?_
    refine st296 _ ?_
    refine own_in X296 hx hby d22_11 (feq (by decide : ¬ ((1 : Int32) = (0 : Int32)))).1 ?_
    refine own_aN X296 hx hby d22_14 ?_
    refine st297 _ ?_
    refine XS.astoreN X297.here hx rfl (hb hby d22_18) rfl rfl (l' := #[rv b193, rv b238, rv b238]) rfl ?_
    refine st298 _ ?_
    refine own_in X298 hx hby d22_22 (feq hc1).1 ?_
    refine own_aN X298 hx hby d22_25 ?_
    refine st299 _ ?_
    refine own_aN X299 hx hby d22_29 ?_
    refine st300 _ ?_
    refine own_cn X300 hx hby d22_33 (teq (rfl : (0 : Int32) = (0 : Int32))).2 ?_
    refine own_aN X300 hx hby d22_36 ?_
    refine st301 _ ?_
    refine own_aN X301 hx hby d22_40 ?_
    refine st302 _ ?_
    refine st306 _ ?_
    refine own_iy (pc := 47) X306 hx hby d22_47 (teq (rfl : (0 : Int32) = (0 : Int32))).1 54 ?_
    refine own_k X306 hx hby d22_54 ?_
    exact retN X306 hx (t := .boolean) hret (by simp) (hb hby d22_55) hr
  · show Qrm295 Z w_CS ca da db b193 b194 k195 b238 b239 k240 h0 _ T306.heap _
    rw [e306]
    exact ⟨rfl, N306, rfl⟩
def Qrm290 (Z : State) (w_CS ca da db : Int32) (b193 b194 : Addr) (k195 : ClassId) (b238 b239 : Addr) (k240 : ClassId) (b241 b243 : Addr) (h0 : Heap) (v : Option Value) (h : Heap) (L : List Loc) : Prop := v = some (.int (0 : Int32)) ∧ Fr Z.heap.size L ∧ h = h0
theorem rm290 (l : Launch) (Z : State) (a0 : Array Value) (hw : own_HW Z a0) (ws : List Jvm.Cond) (w_CS ca da db : Int32) (b193 b194 : Addr) (k195 : ClassId) (b238 b239 : Addr) (k240 : ClassId) (b241 b243 : Addr) (h0 : Heap) (Z0 : Ext Z.heap h0) (S_w_CS : own_w_CS Z w_CS) (F_b241_written : Fld Z h0 b241 "com/example/faretally/faretally/RefundRequest$Involuntary$Reason" "written" "Ljava/lang/String;" (.ref b193)) (E_b243 : Exa Z h0 b243 "com/example/faretally/faretally/RefundRequest$Involuntary$Reason") (F_b243_written : Fld Z h0 b243 "com/example/faretally/faretally/RefundRequest$Involuntary$Reason" "written" "Ljava/lang/String;" (.ref b238)) (E_b193 : Exa Z h0 b193 "java/lang/String") (F_b193_coder : Fld Z h0 b193 "java/lang/String" "coder" "B" (.int (0 : Int32))) (F_b193_value : Fld Z h0 b193 "java/lang/String" "value" "[B" (.ref b194)) (E_b238 : Exa Z h0 b238 "java/lang/String") (F_b238_coder : Fld Z h0 b238 "java/lang/String" "coder" "B" (.int (0 : Int32))) (F_b238_value : Fld Z h0 b238 "java/lang/String" "value" "[B" (.ref b239)) (V_b194 : Arv Z h0 b194 k195 .byte (1 : Int32) [(.int (ca.toInt8.toInt32))] (.int (0 : Int32))) (V_b239 : Arv Z h0 b239 k240 .byte (2 : Int32) [(.int (da.toInt8.toInt32)), (.int (db.toInt8.toInt32))] (.int (0 : Int32))) (hc57 : b193 ≠ b238) (hc1 : ¬ (w_CS = (0 : Int32))) :
    own_met l y_21 prog_97_method_3_code 3 (some .boolean) ws ({ frames := 2, cells := 0, slots := 0, locals := 28 } : Room) Z #[(.ref b241), (.ref b243)] h0 (Qrm290 Z w_CS ca da db b193 b194 k195 b238 b239 k240 b241 b243 h0) := by
  refine own_start (plainFor_of_name pn_6) (fun m => ef_prog_97_method_3_RR m b241 b243) ?_
  intro p e s m below meth c s₁ hx hby hml hown hnm X0 hZ e0 hret hlk
  have N0 := Fr.nil Z.heap.size
  obtain ⟨T291, X291, e291, st291⟩ := instY X0 hx hZ hown (own_w hw 102 rfl) e0 (Ins.self E_b243) (g := (mkF m 1 #[rv b241, rv b243, .unset] [(.ref b243)])) rfl rfl (hb hby d21_1)
  obtain ⟨T292, X292, e292, st292⟩ := castY X291 hx hZ hown (own_w hw 102 rfl) e291 (Ins.self E_b243) (g := (mkF m 8 #[rv b241, rv b243, .unset] [(.ref b243)])) rfl rfl (hb hby d21_8)
  obtain ⟨T293, X293, e293, st293⟩ := getF X292 hx hZ hown (host := "") (Or.inl (own_w hw 95 rfl)) Via.refl e292 F_b241_written (g := (mkF m 13 #[rv b241, rv b243, rv b243] [(.ref b241)])) rfl rfl (hb hby d21_13)
  obtain ⟨T294, X294, e294, st294⟩ := getF X293 hx hZ hown (host := "") (Or.inl (own_w hw 95 rfl)) Via.refl e293 F_b243_written (g := (mkF m 17 #[rv b241, rv b243, rv b243] [(.ref b243), (.ref b193)])) rfl rfl (hb hby d21_17)
  obtain ⟨_, T307, Lc307, X307, hQ307, st307⟩ := own_virtual (y := y_20) X294 hx hZ hown (own_w hw 104 rfl) (own_w hw 105 rfl) (own_w hw 107 rfl) (own_w hw 106 rfl) (own_w hw 15 rfl) (own_w hw 108 rfl) (rm295 l Z a0 hw [] w_CS ca da db b193 b194 k195 b238 b239 k240 h0 Z0 S_w_CS F_b193_coder F_b193_value E_b238 F_b238_coder F_b238_value V_b194 V_b239 hc57 hc1) e294 E_b193 (g := (mkF m 20 #[rv b241, rv b243, rv b243] [(.ref b238), (.ref b193)])) (argsL := [(.ref b238)]) (rest := []) (W := 0) (lenOf pd_17 rfl) (hb hby d21_20) hml
  obtain ⟨rfl, N307q, e307⟩ := hQ307
  have N307 := Fr.app N0 N307q
  obtain ⟨fs, hr, hrun, hended, hW, hsame⟩ := X307.leave (v := some (.int (0 : Int32))) (fun h => by rw [hret] at h; cases h) hlk
  refine ⟨_, _, ?_, hrun, hended, _, _, rfl, ?_, ⟨_, rfl⟩, hW, hsame.mono (by decide) (by decide)⟩
  · show own_S p e below s₁ (mkF m 0 #[rv b241, rv b243, .unset] []) _
    refine own_aN X0 hx hby d21_0 ?_
    refine st291 _ ?_
    refine own_in X291 hx hby d21_4 (feq (by decide : ¬ ((1 : Int32) = (0 : Int32)))).1 ?_
    refine own_aN X291 hx hby d21_7 ?_
    refine st292 _ ?_
    refine XS.astoreN X292.here hx rfl (hb hby d21_11) rfl rfl (l' := #[rv b241, rv b243, rv b243]) rfl ?_
    refine own_aN X292 hx hby d21_12 ?_
    refine st293 _ ?_
    refine own_aN X293 hx hby d21_16 ?_
    refine st294 _ ?_
    refine st307 _ ?_
    refine own_iy (pc := 23) X307 hx hby d21_23 (teq (rfl : (0 : Int32) = (0 : Int32))).1 30 ?_
    refine own_k X307 hx hby d21_30 ?_
    exact retN X307 hx (t := .boolean) hret (by simp) (hb hby d21_31) hr
  · show Qrm290 Z w_CS ca da db b193 b194 k195 b238 b239 k240 b241 b243 h0 _ T307.heap _
    rw [e307]
    exact ⟨rfl, N307, rfl⟩
def Qrm327 (Z : State) (ca da db : Int32) (b194 : Addr) (k195 : ClassId) (b239 : Addr) (k240 : ClassId) (h0 : Heap) (v : Option Value) (h : Heap) (L : List Loc) : Prop := v = some (.int (0 : Int32)) ∧ Fr Z.heap.size L ∧ h = h0
theorem rm327 (l : Launch) (Z : State) (a0 : Array Value) (hw : own_HW Z a0) (ws : List Jvm.Cond) (ca da db : Int32) (b194 : Addr) (k195 : ClassId) (b239 : Addr) (k240 : ClassId) (h0 : Heap) (Z0 : Ext Z.heap h0) (V_b239 : Arv Z h0 b239 k240 .byte (2 : Int32) [(.int (da.toInt8.toInt32)), (.int (db.toInt8.toInt32))] (.int (0 : Int32))) (V_b194 : Arv Z h0 b194 k195 .byte (1 : Int32) [(.int (ca.toInt8.toInt32))] (.int (0 : Int32))) :
    own_met l y_19 jdk_43_method_13_code 3 (some .boolean) ws ({ frames := 0, cells := 0, slots := 0, locals := 0 } : Room) Z #[(.ref b239), (.ref b194)] h0 (Qrm327 Z ca da db b194 k195 b239 k240 h0) := by
  refine own_start (plainFor_of_name pn_5) (fun m => ef_jdk_43_method_13_RR m b239 b194) ?_
  intro p e s m below meth c s₁ hx hby hml hown hnm X0 hZ e0 hret hlk
  have N0 := Fr.nil Z.heap.size
  obtain ⟨cl328, Ar328, q328, S328, Nn328, H328, G328⟩ := id V_b239
  obtain ⟨cl329, Ar329, q329, S329, Nn329, H329, G329⟩ := id V_b194
  obtain ⟨fs, hr, hrun, hended, hW, hsame⟩ := X0.leave (v := some (.int (0 : Int32))) (fun h => by rw [hret] at h; cases h) hlk
  refine ⟨_, _, ?_, hrun, hended, _, _, rfl, ?_, ⟨_, rfl⟩, hW, hsame.mono (by decide) (by decide)⟩
  · show own_S p e below s₁ (mkF m 0 #[rv b239, rv b194, .unset] []) _
    refine own_aN X0 hx hby d23_0 ?_
    refine X0.arraylength hx (by rw [e0]; exact Ar328.1) (State.isArrayOf_alike hZ.alike Ar328.2.1) (g := (mkF m 1 #[rv b239, rv b194, .unset] [(.ref b239)])) rfl rfl (hb hby d23_1) _ ?_
    rw [len_of S328 Nn328]
    refine own_aN X0 hx hby d23_2 ?_
    refine X0.arraylength hx (by rw [e0]; exact Ar329.1) (State.isArrayOf_alike hZ.alike Ar329.2.1) (g := (mkF m 3 #[rv b239, rv b194, .unset] [(.ref b194), (.int (2 : Int32))])) rfl rfl (hb hby d23_3) _ ?_
    rw [len_of S329 Nn329]
    refine own_cy (pc := 4) X0 hx hby d23_4 (feq (by decide : ¬ ((2 : Int32) = (1 : Int32)))).2 34 ?_
    refine own_k X0 hx hby d23_34 ?_
    exact retN X0 hx (t := .boolean) hret (by simp) (hb hby d23_35) hr
  · show Qrm327 Z ca da db b194 k195 b239 k240 h0 _ s₁.heap _
    rw [e0]
    exact ⟨rfl, N0, rfl⟩
def Qrm319 (Z : State) (w_CS ca da db : Int32) (b193 b194 : Addr) (k195 : ClassId) (b238 b239 : Addr) (k240 : ClassId) (h0 : Heap) (v : Option Value) (h : Heap) (L : List Loc) : Prop := v = some (.int (0 : Int32)) ∧ Fr Z.heap.size L ∧ h = h0
theorem rm319 (l : Launch) (Z : State) (a0 : Array Value) (hw : own_HW Z a0) (ws : List Jvm.Cond) (w_CS ca da db : Int32) (b193 b194 : Addr) (k195 : ClassId) (b238 b239 : Addr) (k240 : ClassId) (h0 : Heap) (Z0 : Ext Z.heap h0) (S_w_CS : own_w_CS Z w_CS) (F_b238_coder : Fld Z h0 b238 "java/lang/String" "coder" "B" (.int (0 : Int32))) (F_b238_value : Fld Z h0 b238 "java/lang/String" "value" "[B" (.ref b239)) (E_b193 : Exa Z h0 b193 "java/lang/String") (F_b193_coder : Fld Z h0 b193 "java/lang/String" "coder" "B" (.int (0 : Int32))) (F_b193_value : Fld Z h0 b193 "java/lang/String" "value" "[B" (.ref b194)) (V_b239 : Arv Z h0 b239 k240 .byte (2 : Int32) [(.int (da.toInt8.toInt32)), (.int (db.toInt8.toInt32))] (.int (0 : Int32))) (V_b194 : Arv Z h0 b194 k195 .byte (1 : Int32) [(.int (ca.toInt8.toInt32))] (.int (0 : Int32))) (hc58 : b238 ≠ b193) (hc1 : ¬ (w_CS = (0 : Int32))) :
    own_met l y_20 jdk_42_method_66_code 3 (some .boolean) ws ({ frames := 1, cells := 0, slots := 0, locals := 14 } : Room) Z #[(.ref b238), (.ref b193)] h0 (Qrm319 Z w_CS ca da db b193 b194 k195 b238 b239 k240 h0) := by
  refine own_start (plainFor_of_name pn_2) (fun m => ef_jdk_42_method_66_RR m b238 b193) ?_
  intro p e s m below meth c s₁ hx hby hml hown hnm X0 hZ e0 hret hlk
  have N0 := Fr.nil Z.heap.size
  obtain ⟨T320, X320, e320, st320⟩ := instY X0 hx hZ hown (own_w hw 109 rfl) e0 (Ins.self E_b193) (g := (mkF m 8 #[rv b238, rv b193, .unset] [(.ref b193)])) rfl rfl (hb hby d22_8)
  obtain ⟨T321, X321, e321, st321⟩ := castY X320 hx hZ hown (own_w hw 109 rfl) e320 (Ins.self E_b193) (g := (mkF m 15 #[rv b238, rv b193, .unset] [(.ref b193)])) rfl rfl (hb hby d22_15)
  obtain ⟨T322, X322, e322, st322⟩ := getS2 X321 hx hZ hown (host := "") (Or.inl (own_w hw 27 rfl)) Via.refl e321 (S_w_CS.ext Z0) (g := (mkF m 19 #[rv b238, rv b193, rv b193] [])) rfl (hb hby d22_19)
  obtain ⟨T323, X323, e323, st323⟩ := getF X322 hx hZ hown (host := "") (Or.inl (own_w hw 39 rfl)) Via.refl e322 F_b238_coder (g := (mkF m 26 #[rv b238, rv b193, rv b193] [(.ref b238)])) rfl rfl (hb hby d22_26)
  obtain ⟨T324, X324, e324, st324⟩ := getF X323 hx hZ hown (host := "") (Or.inl (own_w hw 39 rfl)) Via.refl e323 F_b193_coder (g := (mkF m 30 #[rv b238, rv b193, rv b193] [(.ref b193), (.int (0 : Int32))])) rfl rfl (hb hby d22_30)
  obtain ⟨T325, X325, e325, st325⟩ := getF X324 hx hZ hown (host := "") (Or.inl (own_w hw 41 rfl)) Via.refl e324 F_b238_value (g := (mkF m 37 #[rv b238, rv b193, rv b193] [(.ref b238)])) rfl rfl (hb hby d22_37)
  obtain ⟨T326, X326, e326, st326⟩ := getF X325 hx hZ hown (host := "") (Or.inl (own_w hw 41 rfl)) Via.refl e325 F_b193_value (g := (mkF m 41 #[rv b238, rv b193, rv b193] [(.ref b193), (.ref b239)])) rfl rfl (hb hby d22_41)
  obtain ⟨_, T330, Lc330, X330, hQ330, st330⟩ := own_static (y := y_19) X326 hx hZ hown (own_w hw 110 rfl) (own_w hw 111 rfl) (own_w hw 75 rfl) (own_w hw 112 rfl) (rm327 l Z a0 hw [] ca da db b194 k195 b239 k240 h0 Z0 V_b239 V_b194) e326 (g := (mkF m 44 #[rv b238, rv b193, rv b193] [(.ref b194), (.ref b239)])) (argsL := [(.ref b239), (.ref b194)]) (rest := []) (W := 0) (lenOf pd_16 rfl) (hb hby d22_44) hml
  obtain ⟨rfl, N330q, e330⟩ := hQ330
  have N330 := Fr.app N0 N330q
  obtain ⟨fs, hr, hrun, hended, hW, hsame⟩ := X330.leave (v := some (.int (0 : Int32))) (fun h => by rw [hret] at h; cases h) hlk
  refine ⟨_, _, ?_, hrun, hended, _, _, rfl, ?_, ⟨_, rfl⟩, hW, hsame.mono (by decide) (by decide)⟩
  · show own_S p e below s₁ (mkF m 0 #[rv b238, rv b193, .unset] []) _
    refine own_aN X0 hx hby d22_0 ?_
    refine own_aN X0 hx hby d22_1 ?_
    refine Jvm.RoadKit.acmp (g := (mkF m 2 #[rv b238, rv b193, .unset] [(.ref b193), (.ref b238)])) X0 hx rfl rfl rfl (pc0 := 2) (pc' := 7) (same := false) rfl (hb hby d22_2) rfl (decide_eq_false fun q => hc58 (Value.ref.inj q)) (by decide) (by decide) ?_
    refine own_aN X0 hx hby d22_7 ?_
    refine st320 _ ?_
    refine own_in X320 hx hby d22_11 (feq (by decide : ¬ ((1 : Int32) = (0 : Int32)))).1 ?_
    refine own_aN X320 hx hby d22_14 ?_
    refine st321 _ ?_
    refine XS.astoreN X321.here hx rfl (hb hby d22_18) rfl rfl (l' := #[rv b238, rv b193, rv b193]) rfl ?_
    refine st322 _ ?_
    refine own_in X322 hx hby d22_22 (feq hc1).1 ?_
    refine own_aN X322 hx hby d22_25 ?_
    refine st323 _ ?_
    refine own_aN X323 hx hby d22_29 ?_
    refine st324 _ ?_
    refine own_cn X324 hx hby d22_33 (teq (rfl : (0 : Int32) = (0 : Int32))).2 ?_
    refine own_aN X324 hx hby d22_36 ?_
    refine st325 _ ?_
    refine own_aN X325 hx hby d22_40 ?_
    refine st326 _ ?_
    refine st330 _ ?_
    refine own_iy (pc := 47) X330 hx hby d22_47 (teq (rfl : (0 : Int32) = (0 : Int32))).1 54 ?_
    refine own_k X330 hx hby d22_54 ?_
    exact retN X330 hx (t := .boolean) hret (by simp) (hb hby d22_55) hr
  · show Qrm319 Z w_CS ca da db b193 b194 k195 b238 b239 k240 h0 _ T330.heap _
    rw [e330]
    exact ⟨rfl, N330, rfl⟩
def Qrm314 (Z : State) (w_CS ca da db : Int32) (b193 b194 : Addr) (k195 : ClassId) (b238 b239 : Addr) (k240 : ClassId) (b241 b243 : Addr) (h0 : Heap) (v : Option Value) (h : Heap) (L : List Loc) : Prop := v = some (.int (0 : Int32)) ∧ Fr Z.heap.size L ∧ h = h0
theorem rm314 (l : Launch) (Z : State) (a0 : Array Value) (hw : own_HW Z a0) (ws : List Jvm.Cond) (w_CS ca da db : Int32) (b193 b194 : Addr) (k195 : ClassId) (b238 b239 : Addr) (k240 : ClassId) (b241 b243 : Addr) (h0 : Heap) (Z0 : Ext Z.heap h0) (S_w_CS : own_w_CS Z w_CS) (F_b243_written : Fld Z h0 b243 "com/example/faretally/faretally/RefundRequest$Involuntary$Reason" "written" "Ljava/lang/String;" (.ref b238)) (E_b241 : Exa Z h0 b241 "com/example/faretally/faretally/RefundRequest$Involuntary$Reason") (F_b241_written : Fld Z h0 b241 "com/example/faretally/faretally/RefundRequest$Involuntary$Reason" "written" "Ljava/lang/String;" (.ref b193)) (E_b238 : Exa Z h0 b238 "java/lang/String") (F_b238_coder : Fld Z h0 b238 "java/lang/String" "coder" "B" (.int (0 : Int32))) (F_b238_value : Fld Z h0 b238 "java/lang/String" "value" "[B" (.ref b239)) (E_b193 : Exa Z h0 b193 "java/lang/String") (F_b193_coder : Fld Z h0 b193 "java/lang/String" "coder" "B" (.int (0 : Int32))) (F_b193_value : Fld Z h0 b193 "java/lang/String" "value" "[B" (.ref b194)) (V_b239 : Arv Z h0 b239 k240 .byte (2 : Int32) [(.int (da.toInt8.toInt32)), (.int (db.toInt8.toInt32))] (.int (0 : Int32))) (V_b194 : Arv Z h0 b194 k195 .byte (1 : Int32) [(.int (ca.toInt8.toInt32))] (.int (0 : Int32))) (hc58 : b238 ≠ b193) (hc1 : ¬ (w_CS = (0 : Int32))) :
    own_met l y_21 prog_97_method_3_code 3 (some .boolean) ws ({ frames := 2, cells := 0, slots := 0, locals := 28 } : Room) Z #[(.ref b243), (.ref b241)] h0 (Qrm314 Z w_CS ca da db b193 b194 k195 b238 b239 k240 b241 b243 h0) := by
  refine own_start (plainFor_of_name pn_6) (fun m => ef_prog_97_method_3_RR m b243 b241) ?_
  intro p e s m below meth c s₁ hx hby hml hown hnm X0 hZ e0 hret hlk
  have N0 := Fr.nil Z.heap.size
  obtain ⟨T315, X315, e315, st315⟩ := instY X0 hx hZ hown (own_w hw 102 rfl) e0 (Ins.self E_b241) (g := (mkF m 1 #[rv b243, rv b241, .unset] [(.ref b241)])) rfl rfl (hb hby d21_1)
  obtain ⟨T316, X316, e316, st316⟩ := castY X315 hx hZ hown (own_w hw 102 rfl) e315 (Ins.self E_b241) (g := (mkF m 8 #[rv b243, rv b241, .unset] [(.ref b241)])) rfl rfl (hb hby d21_8)
  obtain ⟨T317, X317, e317, st317⟩ := getF X316 hx hZ hown (host := "") (Or.inl (own_w hw 95 rfl)) Via.refl e316 F_b243_written (g := (mkF m 13 #[rv b243, rv b241, rv b241] [(.ref b243)])) rfl rfl (hb hby d21_13)
  obtain ⟨T318, X318, e318, st318⟩ := getF X317 hx hZ hown (host := "") (Or.inl (own_w hw 95 rfl)) Via.refl e317 F_b241_written (g := (mkF m 17 #[rv b243, rv b241, rv b241] [(.ref b241), (.ref b238)])) rfl rfl (hb hby d21_17)
  obtain ⟨_, T331, Lc331, X331, hQ331, st331⟩ := own_virtual (y := y_20) X318 hx hZ hown (own_w hw 104 rfl) (own_w hw 105 rfl) (own_w hw 107 rfl) (own_w hw 106 rfl) (own_w hw 15 rfl) (own_w hw 108 rfl) (rm319 l Z a0 hw [] w_CS ca da db b193 b194 k195 b238 b239 k240 h0 Z0 S_w_CS F_b238_coder F_b238_value E_b193 F_b193_coder F_b193_value V_b239 V_b194 hc58 hc1) e318 E_b238 (g := (mkF m 20 #[rv b243, rv b241, rv b241] [(.ref b193), (.ref b238)])) (argsL := [(.ref b193)]) (rest := []) (W := 0) (lenOf pd_17 rfl) (hb hby d21_20) hml
  obtain ⟨rfl, N331q, e331⟩ := hQ331
  have N331 := Fr.app N0 N331q
  obtain ⟨fs, hr, hrun, hended, hW, hsame⟩ := X331.leave (v := some (.int (0 : Int32))) (fun h => by rw [hret] at h; cases h) hlk
  refine ⟨_, _, ?_, hrun, hended, _, _, rfl, ?_, ⟨_, rfl⟩, hW, hsame.mono (by decide) (by decide)⟩
  · show own_S p e below s₁ (mkF m 0 #[rv b243, rv b241, .unset] []) _
    refine own_aN X0 hx hby d21_0 ?_
    refine st315 _ ?_
    refine own_in X315 hx hby d21_4 (feq (by decide : ¬ ((1 : Int32) = (0 : Int32)))).1 ?_
    refine own_aN X315 hx hby d21_7 ?_
    refine st316 _ ?_
    refine XS.astoreN X316.here hx rfl (hb hby d21_11) rfl rfl (l' := #[rv b243, rv b241, rv b241]) rfl ?_
    refine own_aN X316 hx hby d21_12 ?_
    refine st317 _ ?_
    refine own_aN X317 hx hby d21_16 ?_
    refine st318 _ ?_
    refine st331 _ ?_
    refine own_iy (pc := 23) X331 hx hby d21_23 (teq (rfl : (0 : Int32) = (0 : Int32))).1 30 ?_
    refine own_k X331 hx hby d21_30 ?_
    exact retN X331 hx (t := .boolean) hret (by simp) (hb hby d21_31) hr
  · show Qrm314 Z w_CS ca da db b193 b194 k195 b238 b239 k240 b241 b243 h0 _ T331.heap _
    rw [e331]
    exact ⟨rfl, N331, rfl⟩
theorem own_t12 {p : Program} {l : Launch} {e : Env} {s : State} {m : MethodId} {args : Array Value} {below : List Frame} {meth : Method} {c : Code} {T0 : State} {locs : List Loc} (Z : State) (a0 : Array Value) (hw : own_HW Z a0) (w_CS : Int32) (w_SF : Value) (q1 q2 : Int64) (p3 ca cb cc da db dc : Int32) (h0 : Heap) (Z0 : Ext Z.heap h0) (S_w_CS : own_w_CS Z w_CS) (S_w_SF : own_w_SF Z w_SF) (R_w_SF : w_SF.isRef = true) (hc42 : own_ch ca) (hc1 : ¬ (w_CS = (0 : Int32))) (hc43 : own_ch da) (hc54 : own_ch db) (hc45 : own_low ca) (hc46 : own_low da) (hc56 : own_aln db) (X0 : Stand p l e room_1 s m args below meth c T0 locs 0 0) (hx : p.tables.exec = Jvm.exec) (hZ : Z.Warmed39 s.vm) (hby : c.code = code) (hml : c.maxLocals = 19) (hown : s.vm.findClass "com/example/faretally/faretally/ReasonEqualsPinLaw" = some m.cls) (e0 : T0.heap = h0) (N0 : Fr Z.heap.size locs) (hret : meth.sig.returnType = some .boolean) (hlk : meth.locks = false) :
    ∃ s₂ o, Steps p.tables e below (T0.setTop (mkF m 153 (own_T q1 q2 p3 1 ca cb cc 2 da db dc .unset .unset .unset .unset .unset .unset) [])) s₂ ∧ s₂.status = .running ∧ Ended s₂ below o ∧ ∃ v L, o = .returned v ∧ (v = some (.int (1 : Int32)) ∧ Fr Z.heap.size L) ∧ FrameEnd s o s₂ L room_1.cells room_1.slots := by
  obtain ⟨_, T192, Lc192, X192, hQ192, st192⟩ := own_static (y := y_7) X0 hx hZ hown (own_w hw 10 rfl) (own_w hw 11 rfl) (own_w hw 4 rfl) (own_w hw 12 rfl) (rm19 l Z a0 hw [] w_CS ca cb cc h0 Z0 S_w_CS hc42 hc1) e0 (g := (mkF m 161 (own_T q1 q2 p3 1 ca cb cc 2 da db dc .unset .unset .unset .unset .unset .unset) [(.int cc), (.int cb), (.int ca), (.int (1 : Int32))])) (argsL := [(.int (1 : Int32)), (.int ca), (.int cb), (.int cc)]) (rest := []) (W := 0) (lenOf pd_6 rfl) (hb hby at_161) hml
  obtain ⟨b193, b194, k195, rfl, N192q, K192q, szn_b193, szn_b194, q192_E_b193, q192_F_b193_coder, q192_F_b193_value, q192_V_b194⟩ := hQ192
  have g_b193 : Z.heap.size ≤ b193 := Nat.le_trans Z0.1 szn_b193
  have sz_b193 : h0.size ≤ b193 := Nat.le_trans (Keep.refl h0 []).1 szn_b193
  have g_b194 : Z.heap.size ≤ b194 := Nat.le_trans Z0.1 szn_b194
  have sz_b194 : h0.size ≤ b194 := Nat.le_trans (Keep.refl h0 []).1 szn_b194
  have K192 : Keep h0 T192.heap [] := (Keep.refl h0 []).trans K192q all0
  have XX192 : Ext Z.heap T192.heap := own_extK Z0 K192q all0
  have N192 := Fr.app N0 N192q
  obtain ⟨_, T237, Lc237, X237, hQ237, st237⟩ := own_static (y := y_7) X192 hx hZ hown (own_w hw 10 rfl) (own_w hw 11 rfl) (own_w hw 4 rfl) (own_w hw 12 rfl) (rm196 l Z a0 hw [] w_CS da db dc T192.heap XX192 S_w_CS hc43 hc54 hc1) rfl (g := (mkF m 174 (own_T q1 q2 p3 1 ca cb cc 2 da db dc (rv b193) .unset .unset .unset .unset .unset) [(.int dc), (.int db), (.int da), (.int (2 : Int32))])) (argsL := [(.int (2 : Int32)), (.int da), (.int db), (.int dc)]) (rest := []) (W := 0) (lenOf pd_6 rfl) (hb hby at_174) hml
  obtain ⟨b238, b239, k240, rfl, N237q, K237q, szn_b238, szn_b239, q237_E_b238, q237_F_b238_coder, q237_F_b238_value, q237_V_b239⟩ := hQ237
  have g_b238 : Z.heap.size ≤ b238 := Nat.le_trans XX192.1 szn_b238
  have sz_b238 : h0.size ≤ b238 := Nat.le_trans K192.1 szn_b238
  have g_b239 : Z.heap.size ≤ b239 := Nat.le_trans XX192.1 szn_b239
  have sz_b239 : h0.size ≤ b239 := Nat.le_trans K192.1 szn_b239
  have K237 : Keep h0 T237.heap [] := K192.trans K237q all0
  have XX237 : Ext Z.heap T237.heap := own_extK XX192 K237q all0
  have N237 := Fr.app N192 N237q
  obtain ⟨T241, h241, X241, e241, E241, A241, D241, -, st241⟩ := newO X237 hx hZ hown (own_w hw 43 rfl) (own_w hw 44 rfl) (own_w hw 45 rfl) rfl (g := (mkF m 226 (own_T q1 q2 p3 1 ca cb cc 2 da db dc (rv b193) (rv b238) (iv (0 : Int32)) .unset .unset .unset) [])) rfl (hb hby at_226) (by decide) (by decide)
  obtain ⟨b241, g241⟩ : ∃ z, z = T237.heap.size := ⟨_, rfl⟩
  rw [← g241] at A241 D241 st241
  have g_b241 : Z.heap.size ≤ b241 := Nat.le_trans XX237.1 (Nat.le_of_eq g241.symm)
  have sz_b241 : h0.size ≤ b241 := Nat.le_trans K237.1 (Nat.le_of_eq g241.symm)
  have F_b241_written : Fld Z h241 b241 "com/example/faretally/faretally/RefundRequest$Involuntary$Reason" "written" "Ljava/lang/String;" .null := D241 (Or.inr (own_w hw 96 rfl)) (ty := (.object "java/lang/String")) (by decide)
  have K241 : Keep h0 h241 [] := K237.ext E241
  have XX241 : Ext Z.heap h241 := own_ext2 XX237 E241
  obtain ⟨_, T242, Lc242, X242, hQ242, st242⟩ := own_special (y := y_18) X241 hx hZ hown rfl (own_w hw 46 rfl) (own_w hw 47 rfl) (own_w hw 45 rfl) (own_w hw 48 rfl) (rm62 l Z a0 hw [] w_CS w_SF ca b193 b194 k195 b241 h241 XX241 S_w_CS S_w_SF R_w_SF A241 F_b241_written ((q192_E_b193.keep K237q).ext E241) ((q192_F_b193_coder.keep K237q nin0).ext E241) ((q192_F_b193_value.keep K237q nin0).ext E241) ((q192_V_b194.keep K237q nin0).ext E241) g_b241 hc1 hc42 hc45) e241 b241 (g := (mkF m 232 (own_T q1 q2 p3 1 ca cb cc 2 da db dc (rv b193) (rv b238) (iv (0 : Int32)) .unset .unset .unset) [(.ref b193), (.ref b241), (.ref b241)])) (argsL := [(.ref b193)]) (rest := [(.ref b241)]) (W := 1) (lenOf pd_15 rfl) (hb hby at_232) hml
  obtain ⟨rfl, N242q, K242q, q242_E_b241, q242_F_b241_written⟩ := hQ242
  have K242 : Keep h0 T242.heap [] := K241.trans K242q (allS (Or.inr sz_b241) all0)
  have XX242 : Ext Z.heap T242.heap := own_extK XX241 K242q (allS g_b241 all0)
  have N242 := Fr.app N237 N242q
  obtain ⟨T243, h243, X243, e243, E243, A243, D243, -, st243⟩ := newO X242 hx hZ hown (own_w hw 43 rfl) (own_w hw 44 rfl) (own_w hw 45 rfl) rfl (g := (mkF m 237 (own_T q1 q2 p3 1 ca cb cc 2 da db dc (rv b193) (rv b238) (iv (0 : Int32)) (rv b241) .unset .unset) [])) rfl (hb hby at_237) (by decide) (by decide)
  obtain ⟨b243, g243⟩ : ∃ z, z = T242.heap.size := ⟨_, rfl⟩
  rw [← g243] at A243 D243 st243
  have g_b243 : Z.heap.size ≤ b243 := Nat.le_trans XX242.1 (Nat.le_of_eq g243.symm)
  have sz_b243 : h0.size ≤ b243 := Nat.le_trans K242.1 (Nat.le_of_eq g243.symm)
  have F_b243_written : Fld Z h243 b243 "com/example/faretally/faretally/RefundRequest$Involuntary$Reason" "written" "Ljava/lang/String;" .null := D243 (Or.inr (own_w hw 96 rfl)) (ty := (.object "java/lang/String")) (by decide)
  have K243 : Keep h0 h243 [] := K242.ext E243
  have XX243 : Ext Z.heap h243 := own_ext2 XX242 E243
  have ne_b238_b241 : b238 ≠ b241 := Nat.ne_of_lt (Nat.lt_of_lt_of_le q237_E_b238.lt (Nat.le_of_eq g241.symm))
  have f287_F_b238_coder : Fld Z h243 b238 "java/lang/String" "coder" "B" (.int (0 : Int32)) := (((q237_F_b238_coder.ext E241).keep K242q (ninS ne_b238_b241 (nin0))).ext E243)
  have f288_F_b238_value : Fld Z h243 b238 "java/lang/String" "value" "[B" (.ref b239) := (((q237_F_b238_value.ext E241).keep K242q (ninS ne_b238_b241 (nin0))).ext E243)
  have ne_b239_b241 : b239 ≠ b241 := Nat.ne_of_lt (Nat.lt_of_lt_of_le q237_V_b239.lt (Nat.le_of_eq g241.symm))
  have f289_V_b239 : Arv Z h243 b239 k240 .byte (2 : Int32) [(.int (da.toInt8.toInt32)), (.int (db.toInt8.toInt32))] (.int (0 : Int32)) := (((q237_V_b239.ext E241).keep K242q (ninS ne_b239_b241 (nin0))).ext E243)
  obtain ⟨_, T286, Lc286, X286, hQ286, st286⟩ := own_special (y := y_18) X243 hx hZ hown rfl (own_w hw 46 rfl) (own_w hw 47 rfl) (own_w hw 45 rfl) (own_w hw 48 rfl) (rm244 l Z a0 hw [] w_CS w_SF da db b238 b239 k240 b243 h243 XX243 S_w_CS S_w_SF R_w_SF A243 F_b243_written (((q237_E_b238.ext E241).keep K242q).ext E243) f287_F_b238_coder f288_F_b238_value f289_V_b239 g_b243 hc1 hc43 hc46 hc54 hc56) e243 b243 (g := (mkF m 243 (own_T q1 q2 p3 1 ca cb cc 2 da db dc (rv b193) (rv b238) (iv (0 : Int32)) (rv b241) .unset .unset) [(.ref b238), (.ref b243), (.ref b243)])) (argsL := [(.ref b238)]) (rest := [(.ref b243)]) (W := 1) (lenOf pd_15 rfl) (hb hby at_243) hml
  obtain ⟨rfl, N286q, K286q, q286_E_b243, q286_F_b243_written⟩ := hQ286
  have K286 : Keep h0 T286.heap [] := K243.trans K286q (allS (Or.inr sz_b243) all0)
  have XX286 : Ext Z.heap T286.heap := own_extK XX243 K286q (allS g_b243 all0)
  have N286 := Fr.app N242 N286q
  have ne_b241_b243 : b241 ≠ b243 := Nat.ne_of_lt (Nat.lt_of_lt_of_le q242_E_b241.lt (Nat.le_of_eq g243.symm))
  have f309_F_b241_written : Fld Z T286.heap b241 "com/example/faretally/faretally/RefundRequest$Involuntary$Reason" "written" "Ljava/lang/String;" (.ref b193) := ((q242_F_b241_written.ext E243).keep K286q (ninS ne_b241_b243 (nin0)))
  have f310_E_b193 : Exa Z T286.heap b193 "java/lang/String" := (((((q192_E_b193.keep K237q).ext E241).keep K242q).ext E243).keep K286q)
  have ne_b193_b241 : b193 ≠ b241 := Nat.ne_of_lt (Nat.lt_of_lt_of_le (q192_E_b193.keep K237q).lt (Nat.le_of_eq g241.symm))
  have ne_b193_b243 : b193 ≠ b243 := Nat.ne_of_lt (Nat.lt_of_lt_of_le (((q192_E_b193.keep K237q).ext E241).keep K242q).lt (Nat.le_of_eq g243.symm))
  have f311_F_b193_coder : Fld Z T286.heap b193 "java/lang/String" "coder" "B" (.int (0 : Int32)) := (((((q192_F_b193_coder.keep K237q nin0).ext E241).keep K242q (ninS ne_b193_b241 (nin0))).ext E243).keep K286q (ninS ne_b193_b243 (nin0)))
  have f312_F_b193_value : Fld Z T286.heap b193 "java/lang/String" "value" "[B" (.ref b194) := (((((q192_F_b193_value.keep K237q nin0).ext E241).keep K242q (ninS ne_b193_b241 (nin0))).ext E243).keep K286q (ninS ne_b193_b243 (nin0)))
  have ne_b238_b243 : b238 ≠ b243 := Nat.ne_of_lt (Nat.lt_of_lt_of_le ((q237_E_b238.ext E241).keep K242q).lt (Nat.le_of_eq g243.symm))
  have ne_b194_b241 : b194 ≠ b241 := Nat.ne_of_lt (Nat.lt_of_lt_of_le (q192_V_b194.keep K237q nin0).lt (Nat.le_of_eq g241.symm))
  have ne_b194_b243 : b194 ≠ b243 := Nat.ne_of_lt (Nat.lt_of_lt_of_le (((q192_V_b194.keep K237q nin0).ext E241).keep K242q (ninS ne_b194_b241 (nin0))).lt (Nat.le_of_eq g243.symm))
  have f313_V_b194 : Arv Z T286.heap b194 k195 .byte (1 : Int32) [(.int (ca.toInt8.toInt32))] (.int (0 : Int32)) := (((((q192_V_b194.keep K237q nin0).ext E241).keep K242q (ninS ne_b194_b241 (nin0))).ext E243).keep K286q (ninS ne_b194_b243 (nin0)))
  have ne_b239_b243 : b239 ≠ b243 := Nat.ne_of_lt (Nat.lt_of_lt_of_le ((q237_V_b239.ext E241).keep K242q (ninS ne_b239_b241 (nin0))).lt (Nat.le_of_eq g243.symm))
  have ne_b193_b238 : b193 ≠ b238 := Nat.ne_of_lt (Nat.lt_of_lt_of_le q192_E_b193.lt szn_b238)
  obtain ⟨_, T308, Lc308, X308, hQ308, st308⟩ := own_virtual (y := y_21) X286 hx hZ hown (own_w hw 97 rfl) (own_w hw 98 rfl) (own_w hw 100 rfl) (own_w hw 99 rfl) (own_w hw 45 rfl) (own_w hw 101 rfl) (rm290 l Z a0 hw [] w_CS ca da db b193 b194 k195 b238 b239 k240 b241 b243 T286.heap XX286 S_w_CS f309_F_b241_written q286_E_b243 q286_F_b243_written f310_E_b193 f311_F_b193_coder f312_F_b193_value ((((q237_E_b238.ext E241).keep K242q).ext E243).keep K286q) (f287_F_b238_coder.keep K286q (ninS ne_b238_b243 (nin0))) (f288_F_b238_value.keep K286q (ninS ne_b238_b243 (nin0))) f313_V_b194 (f289_V_b239.keep K286q (ninS ne_b239_b243 (nin0))) ne_b193_b238 hc1) rfl ((q242_E_b241.ext E243).keep K286q) (g := (mkF m 252 (own_T q1 q2 p3 1 ca cb cc 2 da db dc (rv b193) (rv b238) (iv (0 : Int32)) (rv b241) (rv b243) .unset) [(.ref b243), (.ref b241)])) (argsL := [(.ref b243)]) (rest := []) (W := 0) (lenOf pd_17 rfl) (hb hby at_252) hml
  obtain ⟨rfl, N308q, e308⟩ := hQ308
  have N308 := Fr.app N286 N308q
  obtain ⟨_, T332, Lc332, X332, hQ332, st332⟩ := own_virtual (y := y_21) X308 hx hZ hown (own_w hw 97 rfl) (own_w hw 98 rfl) (own_w hw 100 rfl) (own_w hw 99 rfl) (own_w hw 45 rfl) (own_w hw 101 rfl) (rm314 l Z a0 hw [] w_CS ca da db b193 b194 k195 b238 b239 k240 b241 b243 T286.heap XX286 S_w_CS q286_F_b243_written ((q242_E_b241.ext E243).keep K286q) f309_F_b241_written ((((q237_E_b238.ext E241).keep K242q).ext E243).keep K286q) (f287_F_b238_coder.keep K286q (ninS ne_b238_b243 (nin0))) (f288_F_b238_value.keep K286q (ninS ne_b238_b243 (nin0))) f310_E_b193 f311_F_b193_coder f312_F_b193_value (f289_V_b239.keep K286q (ninS ne_b239_b243 (nin0))) f313_V_b194 (Ne.symm ne_b193_b238) hc1) e308 q286_E_b243 (g := (mkF m 276 (own_T q1 q2 p3 1 ca cb cc 2 da db dc (rv b193) (rv b238) (iv (0 : Int32)) (rv b241) (rv b243) (iv (1 : Int32))) [(.ref b241), (.ref b243)])) (argsL := [(.ref b241)]) (rest := []) (W := 0) (lenOf pd_17 rfl) (hb hby at_276) hml
  obtain ⟨rfl, N332q, e332⟩ := hQ332
  have N332 := Fr.app N308 N332q
  obtain ⟨_, T333, Lc333, X333, hQ333, st333⟩ := own_virtual (y := y_21) X332 hx hZ hown (own_w hw 97 rfl) (own_w hw 98 rfl) (own_w hw 100 rfl) (own_w hw 99 rfl) (own_w hw 45 rfl) (own_w hw 101 rfl) (rm132 l Z a0 hw [] b193 b241 T286.heap XX286 ((q242_E_b241.ext E243).keep K286q) f309_F_b241_written f310_E_b193) e332 ((q242_E_b241.ext E243).keep K286q) (g := (mkF m 300 (own_T q1 q2 p3 1 ca cb cc 2 da db dc (rv b193) (rv b238) (iv (0 : Int32)) (rv b241) (rv b243) (iv (1 : Int32))) [(.ref b241), (.ref b241)])) (argsL := [(.ref b241)]) (rest := []) (W := 0) (lenOf pd_17 rfl) (hb hby at_300) hml
  obtain ⟨rfl, N333q, e333⟩ := hQ333
  have N333 := Fr.app N332 N333q
  obtain ⟨_, T334, Lc334, X334, hQ334, st334⟩ := own_virtual (y := y_21) X333 hx hZ hown (own_w hw 97 rfl) (own_w hw 98 rfl) (own_w hw 100 rfl) (own_w hw 99 rfl) (own_w hw 45 rfl) (own_w hw 101 rfl) (rm140 l Z a0 hw [] b193 b241 T286.heap XX286 f310_E_b193) e333 ((q242_E_b241.ext E243).keep K286q) (g := (mkF m 322 (own_T q1 q2 p3 1 ca cb cc 2 da db dc (rv b193) (rv b238) (iv (0 : Int32)) (rv b241) (rv b243) (iv (1 : Int32))) [(.ref b193), (.ref b241)])) (argsL := [(.ref b193)]) (rest := []) (W := 0) (lenOf pd_17 rfl) (hb hby at_322) hml
  obtain ⟨rfl, N334q, e334⟩ := hQ334
  have N334 := Fr.app N333 N334q
  obtain ⟨_, T335, Lc335, X335, hQ335, st335⟩ := own_virtual (y := y_21) X334 hx hZ hown (own_w hw 97 rfl) (own_w hw 98 rfl) (own_w hw 100 rfl) (own_w hw 99 rfl) (own_w hw 45 rfl) (own_w hw 101 rfl) (rm143 l Z a0 hw [] b241 T286.heap XX286 ) e334 ((q242_E_b241.ext E243).keep K286q) (g := (mkF m 343 (own_T q1 q2 p3 1 ca cb cc 2 da db dc (rv b193) (rv b238) (iv (0 : Int32)) (rv b241) (rv b243) (iv (1 : Int32))) [.null, (.ref b241)])) (argsL := [.null]) (rest := []) (W := 0) (lenOf pd_17 rfl) (hb hby at_343) hml
  obtain ⟨rfl, N335q, e335⟩ := hQ335
  have N335 := Fr.app N334 N335q
  obtain ⟨fs, hr, hrun, hended, hW, hsame⟩ := X335.leave (v := some (.int (1 : Int32))) (fun h => by rw [hret] at h; cases h) hlk
  refine ⟨_, _, ?_, hrun, hended, _, _, rfl, ⟨rfl, N335⟩, ⟨_, rfl⟩, hW, hsame.mono (by decide) (by decide)⟩
  show own_S p e below T0 (mkF m 153 (own_T q1 q2 p3 1 ca cb cc 2 da db dc .unset .unset .unset .unset .unset .unset) []) _
  refine own_i X0 hx hby at_153 ?_
  refine own_i X0 hx hby at_155 ?_
  refine own_i X0 hx hby at_157 ?_
  refine own_i X0 hx hby at_159 ?_
  refine st192 _ ?_
  refine XS.astore X192.here hx rfl (hb hby at_164) rfl rfl (l' := (own_T q1 q2 p3 1 ca cb cc 2 da db dc (rv b193) .unset .unset .unset .unset .unset)) rfl ?_
  refine own_i X192 hx hby at_166 ?_
  refine own_i X192 hx hby at_168 ?_
  refine own_i X192 hx hby at_170 ?_
  refine own_i X192 hx hby at_172 ?_
  refine st237 _ ?_
  refine XS.astore X237.here hx rfl (hb hby at_177) rfl rfl (l' := (own_T q1 q2 p3 1 ca cb cc 2 da db dc (rv b193) (rv b238) .unset .unset .unset .unset)) rfl ?_
  refine own_i X237 hx hby at_179 ?_
  refine own_i X237 hx hby at_181 ?_
  refine own_cy (pc := 183) X237 hx hby at_183 (feq (by decide : ¬ ((1 : Int32) = (2 : Int32)))).2 223 ?_
  refine own_k X237 hx hby at_223 ?_
  refine XS.istore X237.here hx rfl (hb hby at_224) rfl (l' := (own_T q1 q2 p3 1 ca cb cc 2 da db dc (rv b193) (rv b238) (iv (0 : Int32)) .unset .unset .unset)) rfl ?_
  refine st241 _ ?_
  refine XS.dup X241.here hx rfl (hb hby at_229) rfl rfl ?_
  refine own_a X241 hx hby at_230 ?_
  refine st242 _ ?_
  refine XS.astore X242.here hx rfl (hb hby at_235) rfl rfl (l' := (own_T q1 q2 p3 1 ca cb cc 2 da db dc (rv b193) (rv b238) (iv (0 : Int32)) (rv b241) .unset .unset)) rfl ?_
  refine st243 _ ?_
  refine XS.dup X243.here hx rfl (hb hby at_240) rfl rfl ?_
  refine own_a X243 hx hby at_241 ?_
  refine st286 _ ?_
  refine XS.astore X286.here hx rfl (hb hby at_246) rfl rfl (l' := (own_T q1 q2 p3 1 ca cb cc 2 da db dc (rv b193) (rv b238) (iv (0 : Int32)) (rv b241) (rv b243) .unset)) rfl ?_
  refine own_a X286 hx hby at_248 ?_
  refine own_a X286 hx hby at_250 ?_
  refine st308 _ ?_
  refine own_i X308 hx hby at_255 ?_
  refine own_cn X308 hx hby at_257 (teq (rfl : (0 : Int32) = (0 : Int32))).2 ?_
  refine own_k X308 hx hby at_260 ?_
  refine own_go (pc := 261) X308 hx hby at_261 265 ?_
  refine XS.istore X308.here hx rfl (hb hby at_265) rfl (l' := (own_T q1 q2 p3 1 ca cb cc 2 da db dc (rv b193) (rv b238) (iv (0 : Int32)) (rv b241) (rv b243) (iv (1 : Int32)))) rfl ?_
  refine own_i X308 hx hby at_267 ?_
  refine own_in X308 hx hby at_269 (feq (by decide : ¬ ((1 : Int32) = (0 : Int32)))).1 ?_
  refine own_a X308 hx hby at_272 ?_
  refine own_a X308 hx hby at_274 ?_
  refine st332 _ ?_
  refine own_i X332 hx hby at_279 ?_
  refine own_cn X332 hx hby at_281 (teq (rfl : (0 : Int32) = (0 : Int32))).2 ?_
  refine own_k X332 hx hby at_284 ?_
  refine own_go (pc := 285) X332 hx hby at_285 289 ?_
  refine XS.istore X332.here hx rfl (hb hby at_289) rfl (l' := (own_T q1 q2 p3 1 ca cb cc 2 da db dc (rv b193) (rv b238) (iv (0 : Int32)) (rv b241) (rv b243) (iv (1 : Int32)))) rfl ?_
  refine own_i X332 hx hby at_291 ?_
  refine own_in X332 hx hby at_293 (feq (by decide : ¬ ((1 : Int32) = (0 : Int32)))).1 ?_
  refine own_a X332 hx hby at_296 ?_
  refine own_a X332 hx hby at_298 ?_
  refine st333 _ ?_
  refine own_in X333 hx hby at_303 (feq (by decide : ¬ ((1 : Int32) = (0 : Int32)))).1 ?_
  refine own_k X333 hx hby at_306 ?_
  refine own_go (pc := 307) X333 hx hby at_307 311 ?_
  refine XS.istore X333.here hx rfl (hb hby at_311) rfl (l' := (own_T q1 q2 p3 1 ca cb cc 2 da db dc (rv b193) (rv b238) (iv (0 : Int32)) (rv b241) (rv b243) (iv (1 : Int32)))) rfl ?_
  refine own_i X333 hx hby at_313 ?_
  refine own_in X333 hx hby at_315 (feq (by decide : ¬ ((1 : Int32) = (0 : Int32)))).1 ?_
  refine own_a X333 hx hby at_318 ?_
  refine own_a X333 hx hby at_320 ?_
  refine st334 _ ?_
  refine own_in X334 hx hby at_325 (teq (rfl : (0 : Int32) = (0 : Int32))).2 ?_
  refine own_k X334 hx hby at_328 ?_
  refine own_go (pc := 329) X334 hx hby at_329 333 ?_
  refine XS.istore X334.here hx rfl (hb hby at_333) rfl (l' := (own_T q1 q2 p3 1 ca cb cc 2 da db dc (rv b193) (rv b238) (iv (0 : Int32)) (rv b241) (rv b243) (iv (1 : Int32)))) rfl ?_
  refine own_i X334 hx hby at_335 ?_
  refine own_in X334 hx hby at_337 (feq (by decide : ¬ ((1 : Int32) = (0 : Int32)))).1 ?_
  refine own_a X334 hx hby at_340 ?_
  refine XS.aconstNull X334.here hx rfl (hb hby at_342) ?_
  refine st335 _ ?_
  refine own_in X335 hx hby at_346 (teq (rfl : (0 : Int32) = (0 : Int32))).2 ?_
  refine own_k X335 hx hby at_349 ?_
  refine own_go (pc := 350) X335 hx hby at_350 354 ?_
  refine XS.istore X335.here hx rfl (hb hby at_354) rfl (l' := (own_T q1 q2 p3 1 ca cb cc 2 da db dc (rv b193) (rv b238) (iv (0 : Int32)) (rv b241) (rv b243) (iv (1 : Int32)))) rfl ?_
  refine own_i X335 hx hby at_356 ?_
  exact retN X335 hx (t := .boolean) hret (by simp) (hb hby at_358) hr
def Qrm356 (Z : State) (da db dc : Int32) (b342 : Addr) (k342 : ClassId) (b355 : Addr) (k355 : ClassId) (h0 : Heap) (v : Option Value) (h : Heap) (L : List Loc) : Prop := v = some (.int (3 : Int32)) ∧ Fr Z.heap.size L ∧ Keep h0 h [b355] ∧ Arv Z h b355 k355 .byte (3 : Int32) [(.int (da.toInt8.toInt32)), (.int (db.toInt8.toInt32)), (.int (dc.toInt8.toInt32))] (.int (0 : Int32))
theorem rm356 (l : Launch) (Z : State) (a0 : Array Value) (hw : own_HW Z a0) (ws : List Jvm.Cond) (da db dc : Int32) (b342 : Addr) (k342 : ClassId) (b355 : Addr) (k355 : ClassId) (h0 : Heap) (Z0 : Ext Z.heap h0) (V_b342 : Arv Z h0 b342 k342 .char (3 : Int32) [(.int da), (.int db), (.int dc)] (.int (0 : Int32))) (V_b355 : Arv Z h0 b355 k355 .byte (3 : Int32) [(.int (0 : Int32)), (.int (0 : Int32)), (.int (0 : Int32))] (.int (0 : Int32))) (g_b355 : Z.heap.size ≤ b355) (hc43 : own_ch da) (hc60 : b342 ≠ b355) (hc54 : own_ch db) (hc59 : own_ch dc) :
    own_met l y_2 jdk_52_method_21_code 7 (some .int) ws ({ frames := 0, cells := 0, slots := 0, locals := 0 } : Room) Z #[(.ref b342), (.int (0 : Int32)), (.ref b355), (.int (0 : Int32)), (.int (3 : Int32))] h0 (Qrm356 Z da db dc b342 k342 b355 k355 h0) := by
  refine own_start (plainFor_of_name pn_1) (fun m => ef_jdk_52_method_21_RIRII m b342 (0 : Int32) b355 (0 : Int32) (3 : Int32)) ?_
  intro p e s m below meth c s₁ hx hby hml hown hnm X0 hZ e0 hret hlk
  have N0 := Fr.nil Z.heap.size
  obtain ⟨cl357, Ar357, q357, S357, Nn357, H357, G357⟩ := id V_b342
  have hin357 : ¬ ((0 : Int32) < 0 ∨ cl357.slots.size ≤ ((0 : Int32)).toNatClampNeg) := inb_of S357 ⟨by decide, by decide⟩
  have hat357 : cl357.slots[((0 : Int32)).toNatClampNeg]? = some (.int da) := Has.at H357 hin357 rfl
  obtain ⟨cl358, Ar358, q358, S358, Nn358, H358, G358⟩ := id V_b355
  have hin358 : ¬ ((0 : Int32) < 0 ∨ cl358.slots.size ≤ ((0 : Int32)).toNatClampNeg) := inb_of S358 ⟨by decide, by decide⟩
  obtain ⟨T359, h359, X359, e359, W359, st359⟩ := stB X0 hx hZ e0 Ar358 (j := (0 : Int32)) hin358 (g := (mkF m 31 #[rv b342, iv (0 : Int32), rv b355, iv (0 : Int32), iv (3 : Int32), iv (0 : Int32), iv da] [(.int (da.toInt8.toInt32)), (.int (0 : Int32)), (.ref b355)])) rfl rfl (hb hby d8_31)
  rw [own_nb] at W359
  have V359 : Arv Z h359 b355 k355 .byte (3 : Int32) [(.int (da.toInt8.toInt32)), (.int (0 : Int32)), (.int (0 : Int32))] (.int (0 : Int32)) := Arv.set Ar358 q358 S358 Nn358 H358 G358 (fits_nar_byte _) W359 0 rfl (Nat.le_of_ble_eq_true rfl)
  have K359 : Keep h0 h359 [b355] := (Keep.refl h0 [b355]).wr W359 (Or.inl (List.mem_of_getElem? (i := 0) rfl))
  have XX359 : Ext Z.heap h359 := own_extW Z0 W359 g_b355
  have N359 := Fr.snoc X359 N0 g_b355
  obtain ⟨cl360, Ar360, q360, S360, Nn360, H360, G360⟩ := id (V_b342.other W359 hc60)
  have hin360 : ¬ ((1 : Int32) < 0 ∨ cl360.slots.size ≤ ((1 : Int32)).toNatClampNeg) := inb_of S360 ⟨by decide, by decide⟩
  have hat360 : cl360.slots[((1 : Int32)).toNatClampNeg]? = some (.int db) := Has.at H360 hin360 rfl
  obtain ⟨cl361, Ar361, q361, S361, Nn361, H361, G361⟩ := id V359
  have hin361 : ¬ ((1 : Int32) < 0 ∨ cl361.slots.size ≤ ((1 : Int32)).toNatClampNeg) := inb_of S361 ⟨by decide, by decide⟩
  obtain ⟨T362, h362, X362, e362, W362, st362⟩ := stB X359 hx hZ e359 Ar361 (j := (1 : Int32)) hin361 (g := (mkF m 31 #[rv b342, iv (1 : Int32), rv b355, iv (1 : Int32), iv (3 : Int32), iv (1 : Int32), iv db] [(.int (db.toInt8.toInt32)), (.int (1 : Int32)), (.ref b355)])) rfl rfl (hb hby d8_31)
  rw [own_nb] at W362
  have V362 : Arv Z h362 b355 k355 .byte (3 : Int32) [(.int (da.toInt8.toInt32)), (.int (db.toInt8.toInt32)), (.int (0 : Int32))] (.int (0 : Int32)) := Arv.set Ar361 q361 S361 Nn361 H361 G361 (fits_nar_byte _) W362 1 rfl (Nat.le_of_ble_eq_true rfl)
  have K362 : Keep h0 h362 [b355] := K359.wr W362 (Or.inl (List.mem_of_getElem? (i := 0) rfl))
  have XX362 : Ext Z.heap h362 := own_extW XX359 W362 g_b355
  have N362 := Fr.snoc X362 N359 g_b355
  obtain ⟨cl363, Ar363, q363, S363, Nn363, H363, G363⟩ := id ((V_b342.other W359 hc60).other W362 hc60)
  have hin363 : ¬ ((2 : Int32) < 0 ∨ cl363.slots.size ≤ ((2 : Int32)).toNatClampNeg) := inb_of S363 ⟨by decide, by decide⟩
  have hat363 : cl363.slots[((2 : Int32)).toNatClampNeg]? = some (.int dc) := Has.at H363 hin363 rfl
  obtain ⟨cl364, Ar364, q364, S364, Nn364, H364, G364⟩ := id V362
  have hin364 : ¬ ((2 : Int32) < 0 ∨ cl364.slots.size ≤ ((2 : Int32)).toNatClampNeg) := inb_of S364 ⟨by decide, by decide⟩
  obtain ⟨T365, h365, X365, e365, W365, st365⟩ := stB X362 hx hZ e362 Ar364 (j := (2 : Int32)) hin364 (g := (mkF m 31 #[rv b342, iv (2 : Int32), rv b355, iv (2 : Int32), iv (3 : Int32), iv (2 : Int32), iv dc] [(.int (dc.toInt8.toInt32)), (.int (2 : Int32)), (.ref b355)])) rfl rfl (hb hby d8_31)
  rw [own_nb] at W365
  have V365 : Arv Z h365 b355 k355 .byte (3 : Int32) [(.int (da.toInt8.toInt32)), (.int (db.toInt8.toInt32)), (.int (dc.toInt8.toInt32))] (.int (0 : Int32)) := Arv.set Ar364 q364 S364 Nn364 H364 G364 (fits_nar_byte _) W365 2 rfl (Nat.le_of_ble_eq_true rfl)
  have K365 : Keep h0 h365 [b355] := K362.wr W365 (Or.inl (List.mem_of_getElem? (i := 0) rfl))
  have XX365 : Ext Z.heap h365 := own_extW XX362 W365 g_b355
  have N365 := Fr.snoc X365 N362 g_b355
  obtain ⟨fs, hr, hrun, hended, hW, hsame⟩ := X365.leave (v := some (.int (3 : Int32))) (fun h => by rw [hret] at h; cases h) hlk
  refine ⟨_, _, ?_, hrun, hended, _, _, rfl, ?_, ⟨_, rfl⟩, hW, hsame.mono (by decide) (by decide)⟩
  · show own_S p e below s₁ (mkF m 0 #[rv b342, iv (0 : Int32), rv b355, iv (0 : Int32), iv (3 : Int32), .unset, .unset] []) _
    refine own_k X0 hx hby d8_0 ?_
    refine XS.istore X0.here hx rfl (hb hby d8_1) rfl (l' := #[rv b342, iv (0 : Int32), rv b355, iv (0 : Int32), iv (3 : Int32), iv (0 : Int32), .unset]) rfl ?_
    refine own_i X0 hx hby d8_3 ?_
    refine own_i X0 hx hby d8_5 ?_
    refine own_cn X0 hx hby d8_7 (tlt (by decide : (0 : Int32) < (3 : Int32))).2.1 ?_
    refine own_aN X0 hx hby d8_10 ?_
    refine own_iN X0 hx hby d8_11 ?_
    refine X0.caload hx (j := (0 : Int32)) (v := (.int da)) (by rw [e0]; exact Ar357.1) (State.isArrayOf_alike hZ.alike Ar357.2.1) Ar357.2.2 hin357 hat357 (g := (mkF m 12 #[rv b342, iv (0 : Int32), rv b355, iv (0 : Int32), iv (3 : Int32), iv (0 : Int32), .unset] [(.int (0 : Int32)), (.ref b342)])) rfl rfl (hb hby d8_12) _ ?_
    refine XS.istore X0.here hx rfl (hb hby d8_13) rfl (l' := #[rv b342, iv (0 : Int32), rv b355, iv (0 : Int32), iv (3 : Int32), iv (0 : Int32), iv da]) rfl ?_
    refine own_i X0 hx hby d8_15 ?_
    refine XS.sipush X0.here hx rfl (hb hby d8_17) ?_
    refine own_cy (pc := 20) X0 hx hby d8_20 (flt (own_n255 hc43)).2.2.2 26 ?_
    refine own_aN X0 hx hby d8_26 ?_
    refine own_iN X0 hx hby d8_27 ?_
    refine own_i X0 hx hby d8_28 ?_
    refine XS.i2b X0.here hx rfl (hb hby d8_30) rfl ?_
    refine st359 _ ?_
    refine XS.iinc X359.here hx rfl (hb hby d8_32) rfl (l' := #[rv b342, iv (1 : Int32), rv b355, iv (0 : Int32), iv (3 : Int32), iv (0 : Int32), iv da]) rfl ?_
    refine XS.iinc X359.here hx rfl (hb hby d8_35) rfl (l' := #[rv b342, iv (1 : Int32), rv b355, iv (1 : Int32), iv (3 : Int32), iv (0 : Int32), iv da]) rfl ?_
    refine XS.iinc X359.here hx rfl (hb hby d8_38) rfl (l' := #[rv b342, iv (1 : Int32), rv b355, iv (1 : Int32), iv (3 : Int32), iv (1 : Int32), iv da]) rfl ?_
    refine own_go (pc := 41) X359 hx hby d8_41 3 ?_
    refine own_i X359 hx hby d8_3 ?_
    refine own_i X359 hx hby d8_5 ?_
    refine own_cn X359 hx hby d8_7 (tlt (by decide : (1 : Int32) < (3 : Int32))).2.1 ?_
    refine own_aN X359 hx hby d8_10 ?_
    refine own_iN X359 hx hby d8_11 ?_
    refine X359.caload hx (j := (1 : Int32)) (v := (.int db)) (by rw [e359]; exact Ar360.1) (State.isArrayOf_alike hZ.alike Ar360.2.1) Ar360.2.2 hin360 hat360 (g := (mkF m 12 #[rv b342, iv (1 : Int32), rv b355, iv (1 : Int32), iv (3 : Int32), iv (1 : Int32), iv da] [(.int (1 : Int32)), (.ref b342)])) rfl rfl (hb hby d8_12) _ ?_
    refine XS.istore X359.here hx rfl (hb hby d8_13) rfl (l' := #[rv b342, iv (1 : Int32), rv b355, iv (1 : Int32), iv (3 : Int32), iv (1 : Int32), iv db]) rfl ?_
    refine own_i X359 hx hby d8_15 ?_
    refine XS.sipush X359.here hx rfl (hb hby d8_17) ?_
    refine own_cy (pc := 20) X359 hx hby d8_20 (flt (own_n255 hc54)).2.2.2 26 ?_
    refine own_aN X359 hx hby d8_26 ?_
    refine own_iN X359 hx hby d8_27 ?_
    refine own_i X359 hx hby d8_28 ?_
    refine XS.i2b X359.here hx rfl (hb hby d8_30) rfl ?_
    refine st362 _ ?_
    refine XS.iinc X362.here hx rfl (hb hby d8_32) rfl (l' := #[rv b342, iv (2 : Int32), rv b355, iv (1 : Int32), iv (3 : Int32), iv (1 : Int32), iv db]) rfl ?_
    refine XS.iinc X362.here hx rfl (hb hby d8_35) rfl (l' := #[rv b342, iv (2 : Int32), rv b355, iv (2 : Int32), iv (3 : Int32), iv (1 : Int32), iv db]) rfl ?_
    refine XS.iinc X362.here hx rfl (hb hby d8_38) rfl (l' := #[rv b342, iv (2 : Int32), rv b355, iv (2 : Int32), iv (3 : Int32), iv (2 : Int32), iv db]) rfl ?_
    refine own_go (pc := 41) X362 hx hby d8_41 3 ?_
    refine own_i X362 hx hby d8_3 ?_
    refine own_i X362 hx hby d8_5 ?_
    refine own_cn X362 hx hby d8_7 (tlt (by decide : (2 : Int32) < (3 : Int32))).2.1 ?_
    refine own_aN X362 hx hby d8_10 ?_
    refine own_iN X362 hx hby d8_11 ?_
    refine X362.caload hx (j := (2 : Int32)) (v := (.int dc)) (by rw [e362]; exact Ar363.1) (State.isArrayOf_alike hZ.alike Ar363.2.1) Ar363.2.2 hin363 hat363 (g := (mkF m 12 #[rv b342, iv (2 : Int32), rv b355, iv (2 : Int32), iv (3 : Int32), iv (2 : Int32), iv db] [(.int (2 : Int32)), (.ref b342)])) rfl rfl (hb hby d8_12) _ ?_
    refine XS.istore X362.here hx rfl (hb hby d8_13) rfl (l' := #[rv b342, iv (2 : Int32), rv b355, iv (2 : Int32), iv (3 : Int32), iv (2 : Int32), iv dc]) rfl ?_
    refine own_i X362 hx hby d8_15 ?_
    refine XS.sipush X362.here hx rfl (hb hby d8_17) ?_
    refine own_cy (pc := 20) X362 hx hby d8_20 (flt (own_n255 hc59)).2.2.2 26 ?_
    refine own_aN X362 hx hby d8_26 ?_
    refine own_iN X362 hx hby d8_27 ?_
    refine own_i X362 hx hby d8_28 ?_
    refine XS.i2b X362.here hx rfl (hb hby d8_30) rfl ?_
    refine st365 _ ?_
    refine XS.iinc X365.here hx rfl (hb hby d8_32) rfl (l' := #[rv b342, iv (3 : Int32), rv b355, iv (2 : Int32), iv (3 : Int32), iv (2 : Int32), iv dc]) rfl ?_
    refine XS.iinc X365.here hx rfl (hb hby d8_35) rfl (l' := #[rv b342, iv (3 : Int32), rv b355, iv (3 : Int32), iv (3 : Int32), iv (2 : Int32), iv dc]) rfl ?_
    refine XS.iinc X365.here hx rfl (hb hby d8_38) rfl (l' := #[rv b342, iv (3 : Int32), rv b355, iv (3 : Int32), iv (3 : Int32), iv (3 : Int32), iv dc]) rfl ?_
    refine own_go (pc := 41) X365 hx hby d8_41 3 ?_
    refine own_i X365 hx hby d8_3 ?_
    refine own_i X365 hx hby d8_5 ?_
    refine own_cy (pc := 7) X365 hx hby d8_7 (flt (Int32.lt_irrefl : ¬ ((3 : Int32) < (3 : Int32)))).2.1 44 ?_
    refine own_i X365 hx hby d8_44 ?_
    exact retI X365 hx hret (hb hby d8_46) hr
  · show Qrm356 Z da db dc b342 k342 b355 k355 h0 _ T365.heap _
    rw [e365]
    exact ⟨rfl, N365, K365, V365⟩
def Qrm354 (Z : State) (da db dc : Int32) (b342 : Addr) (k342 : ClassId) (h0 : Heap) (v : Option Value) (h : Heap) (L : List Loc) : Prop := ∃ b355 : Addr, ∃ k355 : ClassId, v = some (.ref b355) ∧ Fr Z.heap.size L ∧ Keep h0 h [] ∧ h0.size ≤ b355 ∧ Arv Z h b355 k355 .byte (3 : Int32) [(.int (da.toInt8.toInt32)), (.int (db.toInt8.toInt32)), (.int (dc.toInt8.toInt32))] (.int (0 : Int32))
theorem rm354 (l : Launch) (Z : State) (a0 : Array Value) (hw : own_HW Z a0) (ws : List Jvm.Cond) (da db dc : Int32) (b342 : Addr) (k342 : ClassId) (h0 : Heap) (Z0 : Ext Z.heap h0) (V_b342 : Arv Z h0 b342 k342 .char (3 : Int32) [(.int da), (.int db), (.int dc)] (.int (0 : Int32))) (hc43 : own_ch da) (hc54 : own_ch db) (hc59 : own_ch dc) :
    own_met l y_3 jdk_52_method_16_code 6 (some (.array .byte)) ws ({ frames := 1, cells := 1, slots := 3, locals := 18 } : Room) Z #[(.ref b342), (.int (0 : Int32)), (.int (3 : Int32))] h0 (Qrm354 Z da db dc b342 k342 h0) := by
  refine own_start (plainFor_of_name pn_1) (fun m => ef_jdk_52_method_16_RII m b342 (0 : Int32) (3 : Int32)) ?_
  intro p e s m below meth c s₁ hx hby hml hown hnm X0 hZ e0 hret hlk
  have N0 := Fr.nil Z.heap.size
  obtain ⟨T355, h355, k355, X355, e355, E355, A355, st355⟩ := newP X0 hx hZ (own_w hw 32 rfl) e0 (g := (mkF m 1 #[rv b342, iv (0 : Int32), iv (3 : Int32), .unset, .unset, .unset] [(.int (3 : Int32))])) rfl (hb hby d7_1) rfl (by decide) (cap := 3) (by decide) (by decide) (by decide) (by decide)
  obtain ⟨b355, g355⟩ : ∃ z, z = h0.size := ⟨_, rfl⟩
  rw [← g355] at A355 st355
  have g_b355 : Z.heap.size ≤ b355 := Nat.le_trans Z0.1 (Nat.le_of_eq g355.symm)
  have sz_b355 : h0.size ≤ b355 := Nat.le_trans (Keep.refl h0 []).1 (Nat.le_of_eq g355.symm)
  have V_b355 : Arv Z h355 b355 k355 .byte (3 : Int32) [(.int (0 : Int32)), (.int (0 : Int32)), (.int (0 : Int32))] (.int (0 : Int32)) := (Arv.new A355 (by decide)).pad (pad_rep [] (.int (0 : Int32)) 3)
  have K355 : Keep h0 h355 [] := (Keep.refl h0 []).ext E355
  have XX355 : Ext Z.heap h355 := own_ext2 Z0 E355
  have ne_b342_b355 : b342 ≠ b355 := Nat.ne_of_lt (Nat.lt_of_lt_of_le V_b342.lt (Nat.le_of_eq g355.symm))
  obtain ⟨_, T366, Lc366, X366, hQ366, st366⟩ := own_static (y := y_2) X355 hx hZ hown (own_w hw 33 rfl) (own_w hw 34 rfl) (own_w hw 30 rfl) (own_w hw 35 rfl) (rm356 l Z a0 hw [] da db dc b342 k342 b355 k355 h355 XX355 (V_b342.ext E355) V_b355 g_b355 hc43 ne_b342_b355 hc54 hc59) e355 (g := (mkF m 9 #[rv b342, iv (0 : Int32), iv (3 : Int32), rv b355, .unset, .unset] [(.int (3 : Int32)), (.int (0 : Int32)), (.ref b355), (.int (0 : Int32)), (.ref b342)])) (argsL := [(.ref b342), (.int (0 : Int32)), (.ref b355), (.int (0 : Int32)), (.int (3 : Int32))]) (rest := []) (W := 0) (lenOf pd_1 rfl) (hb hby d7_9) hml
  obtain ⟨rfl, N366q, K366q, q366_V_b355⟩ := hQ366
  have K366 : Keep h0 T366.heap [] := K355.trans K366q (allS (Or.inr sz_b355) all0)
  have XX366 : Ext Z.heap T366.heap := own_extK XX355 K366q (allS g_b355 all0)
  have N366 := Fr.app N0 N366q
  obtain ⟨fs, hr, hrun, hended, hW, hsame⟩ := X366.leave (v := some (.ref b355)) (fun h => by rw [hret] at h; cases h) hlk
  refine ⟨_, _, ?_, hrun, hended, _, _, rfl, ?_, ⟨_, rfl⟩, hW, hsame.mono (by decide) (by decide)⟩
  · show own_S p e below s₁ (mkF m 0 #[rv b342, iv (0 : Int32), iv (3 : Int32), .unset, .unset, .unset] []) _
    refine own_iN X0 hx hby d7_0 ?_
    refine st355 _ ?_
    refine XS.astoreN X355.here hx rfl (hb hby d7_3) rfl rfl (l' := #[rv b342, iv (0 : Int32), iv (3 : Int32), rv b355, .unset, .unset]) rfl ?_
    refine own_aN X355 hx hby d7_4 ?_
    refine own_iN X355 hx hby d7_5 ?_
    refine own_aN X355 hx hby d7_6 ?_
    refine own_k X355 hx hby d7_7 ?_
    refine own_iN X355 hx hby d7_8 ?_
    refine st366 _ ?_
    refine XS.istore X366.here hx rfl (hb hby d7_12) rfl (l' := #[rv b342, iv (0 : Int32), iv (3 : Int32), rv b355, iv (3 : Int32), .unset]) rfl ?_
    refine own_i X366 hx hby d7_14 ?_
    refine own_iN X366 hx hby d7_16 ?_
    refine own_cy (pc := 17) X366 hx hby d7_17 (teq (rfl : (3 : Int32) = (3 : Int32))).1 57 ?_
    refine own_aN X366 hx hby d7_57 ?_
    jvm_step X366.here [X366.here.top, hx, (hb hby d7_58), X366.method', hret, Value.isRef, FieldType.isReference]
    first | (intro acts; rw [hr _ acts rfl rfl rfl]) | rw [hr _ _ rfl rfl rfl]
    exact Steps.refl _
  · show Qrm354 Z da db dc b342 k342 h0 _ T366.heap _
    exact ⟨b355, k355, rfl, N366, K366, sz_b355, q366_V_b355⟩
def Qrm370 (Z : State) (da db dc : Int32) (b368 : Addr) (k369 : ClassId) (h0 : Heap) (v : Option Value) (h : Heap) (L : List Loc) : Prop := v = some (.int (0 : Int32)) ∧ Fr Z.heap.size L ∧ h = h0
theorem rm370 (l : Launch) (Z : State) (a0 : Array Value) (hw : own_HW Z a0) (ws : List Jvm.Cond) (da db dc : Int32) (b368 : Addr) (k369 : ClassId) (h0 : Heap) (Z0 : Ext Z.heap h0) (V_b368 : Arv Z h0 b368 k369 .byte (3 : Int32) [(.int (da.toInt8.toInt32)), (.int (db.toInt8.toInt32)), (.int (dc.toInt8.toInt32))] (.int (0 : Int32))) :
    own_met l y_4 jdk_52_method_15_code 2 (some .byte) ws ({ frames := 0, cells := 0, slots := 0, locals := 0 } : Room) Z #[(.ref b368), (.int (3 : Int32))] h0 (Qrm370 Z da db dc b368 k369 h0) := by
  refine own_start (plainFor_of_name pn_1) (fun m => ef_jdk_52_method_15_RI m b368 (3 : Int32)) ?_
  intro p e s m below meth c s₁ hx hby hml hown hnm X0 hZ e0 hret hlk
  have N0 := Fr.nil Z.heap.size
  obtain ⟨cl371, Ar371, q371, S371, Nn371, H371, G371⟩ := id V_b368
  obtain ⟨fs, hr, hrun, hended, hW, hsame⟩ := X0.leave (v := some (.int (0 : Int32))) (fun h => by rw [hret] at h; cases h) hlk
  refine ⟨_, _, ?_, hrun, hended, _, _, rfl, ?_, ⟨_, rfl⟩, hW, hsame.mono (by decide) (by decide)⟩
  · show own_S p e below s₁ (mkF m 0 #[rv b368, iv (3 : Int32)] []) _
    refine own_iN X0 hx hby d9_0 ?_
    refine own_aN X0 hx hby d9_1 ?_
    refine X0.arraylength hx (by rw [e0]; exact Ar371.1) (State.isArrayOf_alike hZ.alike Ar371.2.1) (g := (mkF m 2 #[rv b368, iv (3 : Int32)] [(.ref b368), (.int (3 : Int32))])) rfl rfl (hb hby d9_2) _ ?_
    rw [len_of S371 Nn371]
    refine XS.isub X0.here hx rfl (hb hby d9_3) rfl ?_
    show own_S p e below s₁ (mkF m 4 #[rv b368, iv (3 : Int32)] [(.int ((3 : Int32) - (3 : Int32)))]) _
    rw [(by decide : ((3 : Int32) - (3 : Int32)) = (0 : Int32))]
    refine XS.bipush X0.here hx rfl (hb hby d9_4) ?_
    refine XS.iushr X0.here hx rfl (hb hby d9_6) rfl ?_
    show own_S p e below s₁ (mkF m 7 #[rv b368, iv (3 : Int32)] [(.int (((0 : Int32).toUInt32 >>> ((31 : Int32) &&& 31).toUInt32).toInt32))]) _
    rw [(by decide : (((0 : Int32).toUInt32 >>> ((31 : Int32) &&& 31).toUInt32).toInt32) = (0 : Int32))]
    refine XS.i2b X0.here hx rfl (hb hby d9_7) rfl ?_
    show own_S p e below s₁ (mkF m 8 #[rv b368, iv (3 : Int32)] [(.int ((0 : Int32).toInt8.toInt32))]) _
    rw [(by decide : ((0 : Int32).toInt8.toInt32) = (0 : Int32))]
    exact retN X0 hx (t := .byte) hret (by simp) (hb hby d9_8) hr
  · show Qrm370 Z da db dc b368 k369 h0 _ s₁.heap _
    rw [e0]
    exact ⟨rfl, N0, rfl⟩
def Qrm351 (Z : State) (w_CS da db dc : Int32) (b341 b342 : Addr) (k342 : ClassId) (h0 : Heap) (v : Option Value) (h : Heap) (L : List Loc) : Prop := ∃ b368 : Addr, ∃ k369 : ClassId, v = none ∧ Fr Z.heap.size L ∧ Keep h0 h [b341] ∧ h0.size ≤ b368 ∧ Exa Z h b341 "java/lang/String" ∧ Fld Z h b341 "java/lang/String" "coder" "B" (.int (0 : Int32)) ∧ Fld Z h b341 "java/lang/String" "value" "[B" (.ref b368) ∧ Arv Z h b368 k369 .byte (3 : Int32) [(.int (da.toInt8.toInt32)), (.int (db.toInt8.toInt32)), (.int (dc.toInt8.toInt32))] (.int (0 : Int32))
theorem rm351 (l : Launch) (Z : State) (a0 : Array Value) (hw : own_HW Z a0) (ws : List Jvm.Cond) (w_CS da db dc : Int32) (b341 b342 : Addr) (k342 : ClassId) (h0 : Heap) (Z0 : Ext Z.heap h0) (S_w_CS : own_w_CS Z w_CS) (E_b341 : Exa Z h0 b341 "java/lang/String") (F_b341_coder : Fld Z h0 b341 "java/lang/String" "coder" "B" (.int (0 : Int32))) (F_b341_value : Fld Z h0 b341 "java/lang/String" "value" "[B" .null) (V_b342 : Arv Z h0 b342 k342 .char (3 : Int32) [(.int da), (.int db), (.int dc)] (.int (0 : Int32))) (g_b341 : Z.heap.size ≤ b341) (hc1 : ¬ (w_CS = (0 : Int32))) (hc43 : own_ch da) (hc54 : own_ch db) (hc59 : own_ch dc) :
    own_met l y_5 jdk_42_method_149_code 6 none ws ({ frames := 2, cells := 1, slots := 3, locals := 35 } : Room) Z #[(.ref b341), (.ref b342), (.int (0 : Int32)), (.int (3 : Int32)), .null] h0 (Qrm351 Z w_CS da db dc b341 b342 k342 h0) := by
  refine own_start (plainFor_of_name pn_2) (fun m => ef_jdk_42_method_149_RRIIn m b341 b342 (0 : Int32) (3 : Int32)) ?_
  intro p e s m below meth c s₁ hx hby hml hown hnm X0 hZ e0 hret hlk
  have N0 := Fr.nil Z.heap.size
  obtain ⟨T352, X352, e352, st352⟩ := initO X0 hx hZ hown (own_w hw 24 rfl) (own_w hw 25 rfl) (own_w hw 26 rfl) e0 (g := (mkF m 1 #[rv b341, rv b342, iv (0 : Int32), iv (3 : Int32), .val .null, .unset] [(.ref b341)])) rfl (by rw [hml]; rfl) rfl (hb hby d5_1) (by decide) (W := 0) (by show 2 * 0 + _ ≤ _; exact Nat.le_of_eq rfl) (by decide)
  obtain ⟨T353, X353, e353, st353⟩ := getS2 X352 hx hZ hown (host := "") (Or.inl (own_w hw 27 rfl)) Via.refl e352 (S_w_CS.ext Z0) (g := (mkF m 27 #[rv b341, rv b342, iv (0 : Int32), iv (3 : Int32), .val .null, .unset] [])) rfl (hb hby d5_27)
  obtain ⟨_, T367, Lc367, X367, hQ367, st367⟩ := own_static (y := y_3) X353 hx hZ hown (own_w hw 28 rfl) (own_w hw 29 rfl) (own_w hw 30 rfl) (own_w hw 31 rfl) (rm354 l Z a0 hw [] da db dc b342 k342 h0 Z0 V_b342 hc43 hc54 hc59) e353 (g := (mkF m 36 #[rv b341, rv b342, iv (0 : Int32), iv (3 : Int32), .val .null, .unset] [(.int (3 : Int32)), (.int (0 : Int32)), (.ref b342)])) (argsL := [(.ref b342), (.int (0 : Int32)), (.int (3 : Int32))]) (rest := []) (W := 0) (lenOf pd_2 rfl) (hb hby d5_36) hml
  obtain ⟨b368, k369, rfl, N367q, K367q, szn_b368, q367_V_b368⟩ := hQ367
  have g_b368 : Z.heap.size ≤ b368 := Nat.le_trans Z0.1 szn_b368
  have sz_b368 : h0.size ≤ b368 := Nat.le_trans (Keep.refl h0 [b341]).1 szn_b368
  have K367 : Keep h0 T367.heap [b341] := (Keep.refl h0 [b341]).trans K367q all0
  have XX367 : Ext Z.heap T367.heap := own_extK Z0 K367q all0
  have N367 := Fr.app N0 N367q
  obtain ⟨_, T372, Lc372, X372, hQ372, st372⟩ := own_static (y := y_4) X367 hx hZ hown (own_w hw 36 rfl) (own_w hw 37 rfl) (own_w hw 30 rfl) (own_w hw 38 rfl) (rm370 l Z a0 hw [] da db dc b368 k369 T367.heap XX367 q367_V_b368) rfl (g := (mkF m 45 #[rv b341, rv b342, iv (0 : Int32), iv (3 : Int32), .val .null, rv b368] [(.int (3 : Int32)), (.ref b368), (.ref b341)])) (argsL := [(.ref b368), (.int (3 : Int32))]) (rest := [(.ref b341)]) (W := 1) (lenOf pd_3 rfl) (hb hby d5_45) hml
  obtain ⟨rfl, N372q, e372⟩ := hQ372
  have N372 := Fr.app N367 N372q
  obtain ⟨T373, h373, X373, e373, W373, st373⟩ := putFN X372 hx hZ hown (own_w hw 39 rfl) Via.refl e372 (F_b341_coder.keep K367q nin0) (E_b341.keep K367q) (Or.inr ⟨(own_w hw 40 rfl), rfl, hnm⟩) (own_w hw 14 rfl) (ty := .byte) (v' := (.int (0 : Int32))) (by decide) rfl (by decide) (g := (mkF m 48 #[rv b341, rv b342, iv (0 : Int32), iv (3 : Int32), .val .null, rv b368] [(.int (0 : Int32)), (.ref b341)])) rfl rfl (hb hby d5_48)
  have K373 : Keep h0 h373 [b341] := K367.wr W373 (Or.inl (List.mem_of_getElem? (i := 0) rfl))
  have XX373 : Ext Z.heap h373 := own_extW XX367 W373 g_b341
  have N373 := Fr.snoc X373 N372 g_b341
  have f374_F_b341_value : Fld Z h373 b341 "java/lang/String" "value" "[B" .null := ((F_b341_value.keep K367q nin0).other W373 (Or.inr (slot_ne (Or.inr (own_w hw 42 rfl)) (Or.inr (own_w hw 40 rfl)) (by decide) (t := (.array .byte)) (t' := .byte) (by decide) (by decide))))
  obtain ⟨T375, h375, X375, e375, W375, st375⟩ := putF X373 hx hZ hown (host := "") (Or.inl (own_w hw 41 rfl)) Via.refl e373 f374_F_b341_value ((E_b341.keep K367q).wr W373) (Or.inr ⟨(own_w hw 42 rfl), rfl, hnm⟩) (own_w hw 14 rfl) (ty := (.array .byte)) (by decide) rfl rfl (g := (mkF m 54 #[rv b341, rv b342, iv (0 : Int32), iv (3 : Int32), .val .null, rv b368] [(.ref b368), (.ref b341)])) rfl rfl (hb hby d5_54)
  have K375 : Keep h0 h375 [b341] := K373.wr W375 (Or.inl (List.mem_of_getElem? (i := 0) rfl))
  have XX375 : Ext Z.heap h375 := own_extW XX373 W375 g_b341
  have N375 := Fr.snoc X375 N373 g_b341
  have f376_F_b341_coder : Fld Z h375 b341 "java/lang/String" "coder" "B" (.int (0 : Int32)) := (((F_b341_coder.keep K367q nin0).same W373).other W375 (Or.inr (slot_ne (Or.inr (own_w hw 40 rfl)) (Or.inr (own_w hw 42 rfl)) (by decide) (t := .byte) (t' := (.array .byte)) (by decide) (by decide))))
  have ne_b341_b368 : b341 ≠ b368 := Nat.ne_of_lt (Nat.lt_of_lt_of_le E_b341.lt szn_b368)
  have f377_V_b368 : Arv Z h375 b368 k369 .byte (3 : Int32) [(.int (da.toInt8.toInt32)), (.int (db.toInt8.toInt32)), (.int (dc.toInt8.toInt32))] (.int (0 : Int32)) := ((q367_V_b368.other W373 (Ne.symm ne_b341_b368)).other W375 (Ne.symm ne_b341_b368))
  obtain ⟨fs, hr, hrun, hended, hW, hsame⟩ := X375.leave (v := none) (fun _ => rfl) hlk
  refine ⟨_, _, ?_, hrun, hended, _, _, rfl, ?_, ⟨_, rfl⟩, hW, hsame.mono (by decide) (by decide)⟩
  · show own_S p e below s₁ (mkF m 0 #[rv b341, rv b342, iv (0 : Int32), iv (3 : Int32), .val .null, .unset] []) _
    refine own_aN X0 hx hby d5_0 ?_
    refine st352 _ ?_
    refine own_iN X352 hx hby d5_4 ?_
    refine own_iy (pc := 5) X352 hx hby d5_5 (feq (by decide : ¬ ((3 : Int32) = (0 : Int32)))).2 27 ?_
    refine st353 _ ?_
    refine own_in X353 hx hby d5_30 (feq hc1).1 ?_
    refine own_aN X353 hx hby d5_33 ?_
    refine own_iN X353 hx hby d5_34 ?_
    refine own_iN X353 hx hby d5_35 ?_
    refine st367 _ ?_
    refine XS.astore X367.here hx rfl (hb hby d5_39) rfl rfl (l' := #[rv b341, rv b342, iv (0 : Int32), iv (3 : Int32), .val .null, rv b368]) rfl ?_
    refine own_aN X367 hx hby d5_41 ?_
    refine own_a X367 hx hby d5_42 ?_
    refine own_iN X367 hx hby d5_44 ?_
    refine st372 _ ?_
    refine st373 _ ?_
    refine own_aN X373 hx hby d5_51 ?_
    refine own_a X373 hx hby d5_52 ?_
    refine st375 _ ?_
    exact X375.returnOut hx hret (hb hby d5_57) hr
  · show Qrm351 Z w_CS da db dc b341 b342 k342 h0 _ T375.heap _
    rw [e375]
    exact ⟨b368, k369, rfl, N375, K375, sz_b368, (((E_b341.keep K367q).wr W373).wr W375), f376_F_b341_coder, (f374_F_b341_value.same W375), f377_V_b368⟩
def Qrm349 (Z : State) (w_CS da db dc : Int32) (b341 b342 : Addr) (k342 : ClassId) (h0 : Heap) (v : Option Value) (h : Heap) (L : List Loc) : Prop := ∃ b379 : Addr, ∃ k380 : ClassId, v = none ∧ Fr Z.heap.size L ∧ Keep h0 h [b341] ∧ h0.size ≤ b379 ∧ Exa Z h b341 "java/lang/String" ∧ Fld Z h b341 "java/lang/String" "coder" "B" (.int (0 : Int32)) ∧ Fld Z h b341 "java/lang/String" "value" "[B" (.ref b379) ∧ Arv Z h b379 k380 .byte (3 : Int32) [(.int (da.toInt8.toInt32)), (.int (db.toInt8.toInt32)), (.int (dc.toInt8.toInt32))] (.int (0 : Int32))
theorem rm349 (l : Launch) (Z : State) (a0 : Array Value) (hw : own_HW Z a0) (ws : List Jvm.Cond) (w_CS da db dc : Int32) (b341 b342 : Addr) (k342 : ClassId) (h0 : Heap) (Z0 : Ext Z.heap h0) (S_w_CS : own_w_CS Z w_CS) (E_b341 : Exa Z h0 b341 "java/lang/String") (F_b341_coder : Fld Z h0 b341 "java/lang/String" "coder" "B" (.int (0 : Int32))) (F_b341_value : Fld Z h0 b341 "java/lang/String" "value" "[B" .null) (V_b342 : Arv Z h0 b342 k342 .char (3 : Int32) [(.int da), (.int db), (.int dc)] (.int (0 : Int32))) (g_b341 : Z.heap.size ≤ b341) (hc1 : ¬ (w_CS = (0 : Int32))) (hc43 : own_ch da) (hc54 : own_ch db) (hc59 : own_ch dc) :
    own_met l y_6 jdk_42_method_3_code 2 none ws ({ frames := 3, cells := 1, slots := 3, locals := 52 } : Room) Z #[(.ref b341), (.ref b342)] h0 (Qrm349 Z w_CS da db dc b341 b342 k342 h0) := by
  refine own_start (plainFor_of_name pn_2) (fun m => ef_jdk_42_method_3_RR m b341 b342) ?_
  intro p e s m below meth c s₁ hx hby hml hown hnm X0 hZ e0 hret hlk
  have N0 := Fr.nil Z.heap.size
  obtain ⟨cl350, Ar350, q350, S350, Nn350, H350, G350⟩ := id V_b342
  obtain ⟨_, T378, Lc378, X378, hQ378, st378⟩ := own_special (y := y_5) X0 hx hZ hown rfl (own_w hw 20 rfl) (own_w hw 21 rfl) (own_w hw 15 rfl) (own_w hw 23 rfl) (rm351 l Z a0 hw [] w_CS da db dc b341 b342 k342 h0 Z0 S_w_CS E_b341 F_b341_coder F_b341_value V_b342 g_b341 hc1 hc43 hc54 hc59) e0 b341 (g := (mkF m 6 #[rv b341, rv b342] [.null, (.int (3 : Int32)), (.int (0 : Int32)), (.ref b342), (.ref b341)])) (argsL := [(.ref b342), (.int (0 : Int32)), (.int (3 : Int32)), .null]) (rest := []) (W := 0) (lenOf pd_4 rfl) (hb hby d4_6) hml
  obtain ⟨b379, k380, rfl, N378q, K378q, szn_b379, q378_E_b341, q378_F_b341_coder, q378_F_b341_value, q378_V_b379⟩ := hQ378
  have g_b379 : Z.heap.size ≤ b379 := Nat.le_trans Z0.1 szn_b379
  have sz_b379 : h0.size ≤ b379 := Nat.le_trans (Keep.refl h0 [b341]).1 szn_b379
  have K378 : Keep h0 T378.heap [b341] := (Keep.refl h0 [b341]).trans K378q (allS (Or.inl (List.mem_of_getElem? (i := 0) rfl)) all0)
  have XX378 : Ext Z.heap T378.heap := own_extK Z0 K378q (allS g_b341 all0)
  have N378 := Fr.app N0 N378q
  obtain ⟨fs, hr, hrun, hended, hW, hsame⟩ := X378.leave (v := none) (fun _ => rfl) hlk
  refine ⟨_, _, ?_, hrun, hended, _, _, rfl, ?_, ⟨_, rfl⟩, hW, hsame.mono (by decide) (by decide)⟩
  · show own_S p e below s₁ (mkF m 0 #[rv b341, rv b342] []) _
    refine own_aN X0 hx hby d4_0 ?_
    refine own_aN X0 hx hby d4_1 ?_
    refine own_k X0 hx hby d4_2 ?_
    refine own_aN X0 hx hby d4_3 ?_
    refine X0.arraylength hx (by rw [e0]; exact Ar350.1) (State.isArrayOf_alike hZ.alike Ar350.2.1) (g := (mkF m 4 #[rv b341, rv b342] [(.ref b342), (.int (0 : Int32)), (.ref b342), (.ref b341)])) rfl rfl (hb hby d4_4) _ ?_
    rw [len_of S350 Nn350]
    refine XS.aconstNull X0.here hx rfl (hb hby d4_5) ?_
    refine st378 _ ?_
    exact X378.returnOut hx hret (hb hby d4_9) hr
  · show Qrm349 Z w_CS da db dc b341 b342 k342 h0 _ T378.heap _
    exact ⟨b379, k380, rfl, N378, K378, sz_b379, q378_E_b341, q378_F_b341_coder, q378_F_b341_value, q378_V_b379⟩
def Qrm340 (Z : State) (w_CS da db dc : Int32) (h0 : Heap) (v : Option Value) (h : Heap) (L : List Loc) : Prop := ∃ b341 : Addr, ∃ b382 : Addr, ∃ k383 : ClassId, v = some (.ref b341) ∧ Fr Z.heap.size L ∧ Keep h0 h [] ∧ h0.size ≤ b341 ∧ h0.size ≤ b382 ∧ Exa Z h b341 "java/lang/String" ∧ Fld Z h b341 "java/lang/String" "coder" "B" (.int (0 : Int32)) ∧ Fld Z h b341 "java/lang/String" "value" "[B" (.ref b382) ∧ Arv Z h b382 k383 .byte (3 : Int32) [(.int (da.toInt8.toInt32)), (.int (db.toInt8.toInt32)), (.int (dc.toInt8.toInt32))] (.int (0 : Int32))
theorem rm340 (l : Launch) (Z : State) (a0 : Array Value) (hw : own_HW Z a0) (ws : List Jvm.Cond) (w_CS da db dc : Int32) (h0 : Heap) (Z0 : Ext Z.heap h0) (S_w_CS : own_w_CS Z w_CS) (hc43 : own_ch da) (hc54 : own_ch db) (hc59 : own_ch dc) (hc1 : ¬ (w_CS = (0 : Int32))) :
    own_met l y_7 method_4_code 4 (some (.object "java/lang/String")) ws ({ frames := 4, cells := 3, slots := 10, locals := 66 } : Room) Z #[(.int (3 : Int32)), (.int da), (.int db), (.int dc)] h0 (Qrm340 Z w_CS da db dc h0) := by
  refine own_start (plainFor_of_name pn_0) (fun m => ef_method_4_IIII m (3 : Int32) da db dc) ?_
  intro p e s m below meth c s₁ hx hby hml hown hnm X0 hZ e0 hret hlk
  have N0 := Fr.nil Z.heap.size
  obtain ⟨T341, h341, X341, e341, E341, A341, D341, -, st341⟩ := newO X0 hx hZ hown (own_w hw 13 rfl) (own_w hw 14 rfl) (own_w hw 15 rfl) e0 (g := (mkF m 44 #[iv (3 : Int32), iv da, iv db, iv dc] [])) rfl (hb hby d3_44) (by decide) (by decide)
  obtain ⟨b341, g341⟩ : ∃ z, z = h0.size := ⟨_, rfl⟩
  rw [← g341] at A341 D341 st341
  have g_b341 : Z.heap.size ≤ b341 := Nat.le_trans Z0.1 (Nat.le_of_eq g341.symm)
  have sz_b341 : h0.size ≤ b341 := Nat.le_trans (Keep.refl h0 []).1 (Nat.le_of_eq g341.symm)
  have F_b341_coder : Fld Z h341 b341 "java/lang/String" "coder" "B" (.int (0 : Int32)) := D341 (Or.inr (own_w hw 40 rfl)) (ty := .byte) (by decide)
  have F_b341_value : Fld Z h341 b341 "java/lang/String" "value" "[B" .null := D341 (Or.inr (own_w hw 42 rfl)) (ty := (.array .byte)) (by decide)
  have K341 : Keep h0 h341 [] := (Keep.refl h0 []).ext E341
  have XX341 : Ext Z.heap h341 := own_ext2 Z0 E341
  obtain ⟨T342, h342, k342, X342, e342, E342, A342, st342⟩ := newP X341 hx hZ (own_w hw 16 rfl) e341 (g := (mkF m 49 #[iv (3 : Int32), iv da, iv db, iv dc] [(.int (3 : Int32)), (.ref b341), (.ref b341)])) rfl (hb hby d3_49) rfl (by decide) (cap := 3) (by decide) (by decide) (by decide) (by decide)
  obtain ⟨b342, g342⟩ : ∃ z, z = h341.size := ⟨_, rfl⟩
  rw [← g342] at A342 st342
  have g_b342 : Z.heap.size ≤ b342 := Nat.le_trans XX341.1 (Nat.le_of_eq g342.symm)
  have sz_b342 : h0.size ≤ b342 := Nat.le_trans K341.1 (Nat.le_of_eq g342.symm)
  have V_b342 : Arv Z h342 b342 k342 .char (3 : Int32) [(.int (0 : Int32)), (.int (0 : Int32)), (.int (0 : Int32))] (.int (0 : Int32)) := (Arv.new A342 (by decide)).pad (pad_rep [] (.int (0 : Int32)) 3)
  have K342 : Keep h0 h342 [] := K341.ext E342
  have XX342 : Ext Z.heap h342 := own_ext2 XX341 E342
  obtain ⟨cl343, Ar343, q343, S343, Nn343, H343, G343⟩ := id V_b342
  have hin343 : ¬ ((0 : Int32) < 0 ∨ cl343.slots.size ≤ ((0 : Int32)).toNatClampNeg) := inb_of S343 ⟨by decide, by decide⟩
  obtain ⟨T344, h344, X344, e344, W344, st344⟩ := stC X342 hx hZ e342 Ar343 (j := (0 : Int32)) hin343 (g := (mkF m 54 #[iv (3 : Int32), iv da, iv db, iv dc] [(.int da), (.int (0 : Int32)), (.ref b342), (.ref b342), (.ref b341), (.ref b341)])) rfl rfl (hb hby d3_54)
  rw [(own_nc hc43)] at W344
  have V344 : Arv Z h344 b342 k342 .char (3 : Int32) [(.int da), (.int (0 : Int32)), (.int (0 : Int32))] (.int (0 : Int32)) := Arv.set Ar343 q343 S343 Nn343 H343 G343 (by rw [← (own_nc hc43)]; exact fits_nar_char _) W344 0 rfl (Nat.le_of_ble_eq_true rfl)
  have K344 : Keep h0 h344 [] := K342.wr W344 (Or.inr sz_b342)
  have XX344 : Ext Z.heap h344 := own_extW XX342 W344 g_b342
  have N344 := Fr.snoc X344 N0 g_b342
  obtain ⟨cl345, Ar345, q345, S345, Nn345, H345, G345⟩ := id V344
  have hin345 : ¬ ((1 : Int32) < 0 ∨ cl345.slots.size ≤ ((1 : Int32)).toNatClampNeg) := inb_of S345 ⟨by decide, by decide⟩
  obtain ⟨T346, h346, X346, e346, W346, st346⟩ := stC X344 hx hZ e344 Ar345 (j := (1 : Int32)) hin345 (g := (mkF m 58 #[iv (3 : Int32), iv da, iv db, iv dc] [(.int db), (.int (1 : Int32)), (.ref b342), (.ref b342), (.ref b341), (.ref b341)])) rfl rfl (hb hby d3_58)
  rw [(own_nc hc54)] at W346
  have V346 : Arv Z h346 b342 k342 .char (3 : Int32) [(.int da), (.int db), (.int (0 : Int32))] (.int (0 : Int32)) := Arv.set Ar345 q345 S345 Nn345 H345 G345 (by rw [← (own_nc hc54)]; exact fits_nar_char _) W346 1 rfl (Nat.le_of_ble_eq_true rfl)
  have K346 : Keep h0 h346 [] := K344.wr W346 (Or.inr sz_b342)
  have XX346 : Ext Z.heap h346 := own_extW XX344 W346 g_b342
  have N346 := Fr.snoc X346 N344 g_b342
  obtain ⟨cl347, Ar347, q347, S347, Nn347, H347, G347⟩ := id V346
  have hin347 : ¬ ((2 : Int32) < 0 ∨ cl347.slots.size ≤ ((2 : Int32)).toNatClampNeg) := inb_of S347 ⟨by decide, by decide⟩
  obtain ⟨T348, h348, X348, e348, W348, st348⟩ := stC X346 hx hZ e346 Ar347 (j := (2 : Int32)) hin347 (g := (mkF m 62 #[iv (3 : Int32), iv da, iv db, iv dc] [(.int dc), (.int (2 : Int32)), (.ref b342), (.ref b342), (.ref b341), (.ref b341)])) rfl rfl (hb hby d3_62)
  rw [(own_nc hc59)] at W348
  have V348 : Arv Z h348 b342 k342 .char (3 : Int32) [(.int da), (.int db), (.int dc)] (.int (0 : Int32)) := Arv.set Ar347 q347 S347 Nn347 H347 G347 (by rw [← (own_nc hc59)]; exact fits_nar_char _) W348 2 rfl (Nat.le_of_ble_eq_true rfl)
  have K348 : Keep h0 h348 [] := K346.wr W348 (Or.inr sz_b342)
  have XX348 : Ext Z.heap h348 := own_extW XX346 W348 g_b342
  have N348 := Fr.snoc X348 N346 g_b342
  have ne_b341_b342 : b341 ≠ b342 := Nat.ne_of_lt (Nat.lt_of_lt_of_le A341.lt (Nat.le_of_eq g342.symm))
  have f384_F_b341_coder : Fld Z h348 b341 "java/lang/String" "coder" "B" (.int (0 : Int32)) := ((((F_b341_coder.ext E342).other W344 (Or.inl ne_b341_b342)).other W346 (Or.inl ne_b341_b342)).other W348 (Or.inl ne_b341_b342))
  have f385_F_b341_value : Fld Z h348 b341 "java/lang/String" "value" "[B" .null := ((((F_b341_value.ext E342).other W344 (Or.inl ne_b341_b342)).other W346 (Or.inl ne_b341_b342)).other W348 (Or.inl ne_b341_b342))
  obtain ⟨_, T381, Lc381, X381, hQ381, st381⟩ := own_special (y := y_6) X348 hx hZ hown rfl (own_w hw 17 rfl) (own_w hw 18 rfl) (own_w hw 15 rfl) (own_w hw 19 rfl) (rm349 l Z a0 hw [] w_CS da db dc b341 b342 k342 h348 XX348 S_w_CS ((((A341.ext E342).wr W344).wr W346).wr W348) f384_F_b341_coder f385_F_b341_value V348 g_b341 hc1 hc43 hc54 hc59) e348 b341 (g := (mkF m 63 #[iv (3 : Int32), iv da, iv db, iv dc] [(.ref b342), (.ref b341), (.ref b341)])) (argsL := [(.ref b342)]) (rest := [(.ref b341)]) (W := 1) (lenOf pd_5 rfl) (hb hby d3_63) hml
  obtain ⟨b382, k383, rfl, N381q, K381q, szn_b382, q381_E_b341, q381_F_b341_coder, q381_F_b341_value, q381_V_b382⟩ := hQ381
  have g_b382 : Z.heap.size ≤ b382 := Nat.le_trans XX348.1 szn_b382
  have sz_b382 : h0.size ≤ b382 := Nat.le_trans K348.1 szn_b382
  have K381 : Keep h0 T381.heap [] := K348.trans K381q (allS (Or.inr sz_b341) all0)
  have XX381 : Ext Z.heap T381.heap := own_extK XX348 K381q (allS g_b341 all0)
  have N381 := Fr.app N348 N381q
  obtain ⟨fs, hr, hrun, hended, hW, hsame⟩ := X381.leave (v := some (.ref b341)) (fun h => by rw [hret] at h; cases h) hlk
  refine ⟨_, _, ?_, hrun, hended, _, _, rfl, ?_, ⟨_, rfl⟩, hW, hsame.mono (by decide) (by decide)⟩
  · show own_S p e below s₁ (mkF m 0 #[iv (3 : Int32), iv da, iv db, iv dc] []) _
    refine own_iN X0 hx hby d3_0 ?_
    refine own_k X0 hx hby d3_1 ?_
    refine own_cy (pc := 2) X0 hx hby d3_2 (feq (by decide : ¬ ((3 : Int32) = (1 : Int32)))).2 20 ?_
    refine own_iN X0 hx hby d3_20 ?_
    refine own_k X0 hx hby d3_21 ?_
    refine own_cy (pc := 22) X0 hx hby d3_22 (feq (by decide : ¬ ((3 : Int32) = (2 : Int32)))).2 44 ?_
    refine st341 _ ?_
    refine XS.dup X341.here hx rfl (hb hby d3_47) rfl rfl ?_
    refine own_k X341 hx hby d3_48 ?_
    refine st342 _ ?_
    refine XS.dup X342.here hx rfl (hb hby d3_51) rfl rfl ?_
    refine own_k X342 hx hby d3_52 ?_
    refine own_iN X342 hx hby d3_53 ?_
    refine st344 _ ?_
    refine XS.dup X344.here hx rfl (hb hby d3_55) rfl rfl ?_
    refine own_k X344 hx hby d3_56 ?_
    refine own_iN X344 hx hby d3_57 ?_
    refine st346 _ ?_
    refine XS.dup X346.here hx rfl (hb hby d3_59) rfl rfl ?_
    refine own_k X346 hx hby d3_60 ?_
    refine own_iN X346 hx hby d3_61 ?_
    refine st348 _ ?_
    refine st381 _ ?_
    jvm_step X381.here [X381.here.top, hx, (hb hby d3_66), X381.method', hret, Value.isRef, FieldType.isReference]
    first | (intro acts; rw [hr _ acts rfl rfl rfl]) | rw [hr _ _ rfl rfl rfl]
    exact Steps.refl _
  · show Qrm340 Z w_CS da db dc h0 _ T381.heap _
    exact ⟨b341, b382, k383, rfl, N381, K381, sz_b341, sz_b382, q381_E_b341, q381_F_b341_coder, q381_F_b341_value, q381_V_b382⟩
def Qrm396 (Z : State) (da db dc : Int32) (b387 b388 : Addr) (k389 : ClassId) (h0 : Heap) (v : Option Value) (h : Heap) (L : List Loc) : Prop := v = some (.int (0 : Int32)) ∧ Fr Z.heap.size L ∧ h = h0
theorem rm396 (l : Launch) (Z : State) (a0 : Array Value) (hw : own_HW Z a0) (ws : List Jvm.Cond) (da db dc : Int32) (b387 b388 : Addr) (k389 : ClassId) (h0 : Heap) (Z0 : Ext Z.heap h0) (F_b387_value : Fld Z h0 b387 "java/lang/String" "value" "[B" (.ref b388)) (V_b388 : Arv Z h0 b388 k389 .byte (3 : Int32) [(.int (da.toInt8.toInt32)), (.int (db.toInt8.toInt32)), (.int (dc.toInt8.toInt32))] (.int (0 : Int32))) :
    own_met l y_9 jdk_42_method_55_code 1 (some .boolean) ws ({ frames := 0, cells := 0, slots := 0, locals := 0 } : Room) Z #[(.ref b387)] h0 (Qrm396 Z da db dc b387 b388 k389 h0) := by
  refine own_start (plainFor_of_name pn_2) (fun m => ef_jdk_42_method_55_R m b387) ?_
  intro p e s m below meth c s₁ hx hby hml hown hnm X0 hZ e0 hret hlk
  have N0 := Fr.nil Z.heap.size
  obtain ⟨T397, X397, e397, st397⟩ := getF X0 hx hZ hown (host := "") (Or.inl (own_w hw 41 rfl)) Via.refl e0 F_b387_value (g := (mkF m 1 #[rv b387] [(.ref b387)])) rfl rfl (hb hby d13_1)
  obtain ⟨cl398, Ar398, q398, S398, Nn398, H398, G398⟩ := id V_b388
  obtain ⟨fs, hr, hrun, hended, hW, hsame⟩ := X397.leave (v := some (.int (0 : Int32))) (fun h => by rw [hret] at h; cases h) hlk
  refine ⟨_, _, ?_, hrun, hended, _, _, rfl, ?_, ⟨_, rfl⟩, hW, hsame.mono (by decide) (by decide)⟩
  · show own_S p e below s₁ (mkF m 0 #[rv b387] []) _
    refine own_aN X0 hx hby d13_0 ?_
    refine st397 _ ?_
    refine X397.arraylength hx (by rw [e397]; exact Ar398.1) (State.isArrayOf_alike hZ.alike Ar398.2.1) (g := (mkF m 4 #[rv b387] [(.ref b388)])) rfl rfl (hb hby d13_4) _ ?_
    rw [len_of S398 Nn398]
    refine own_iy (pc := 5) X397 hx hby d13_5 (feq (by decide : ¬ ((3 : Int32) = (0 : Int32)))).2 12 ?_
    refine own_k X397 hx hby d13_12 ?_
    exact retN X397 hx (t := .boolean) hret (by simp) (hb hby d13_13) hr
  · show Qrm396 Z da db dc b387 b388 k389 h0 _ T397.heap _
    rw [e397]
    exact ⟨rfl, N0, rfl⟩
def Qrm407 (Z : State) (w_SF : Value) (h0 : Heap) (v : Option Value) (h : Heap) (L : List Loc) : Prop := v = some (.int (0 : Int32)) ∧ Fr Z.heap.size L ∧ h = h0
theorem rm407 (l : Launch) (Z : State) (a0 : Array Value) (hw : own_HW Z a0) (ws : List Jvm.Cond) (w_SF : Value) (h0 : Heap) (Z0 : Ext Z.heap h0) (R_w_SF : w_SF.isRef = true) :
    own_met l y_11 jdk_41_method_11_code 3 (some .int) ws ({ frames := 0, cells := 0, slots := 0, locals := 0 } : Room) Z #[(.int (0 : Int32)), (.int (3 : Int32)), w_SF] h0 (Qrm407 Z w_SF h0) := by
  refine own_start (plainFor_of_name pn_4) (fun m => ef_jdk_41_method_11_IIX m (0 : Int32) (3 : Int32) w_SF R_w_SF) ?_
  intro p e s m below meth c s₁ hx hby hml hown hnm X0 hZ e0 hret hlk
  have N0 := Fr.nil Z.heap.size
  obtain ⟨fs, hr, hrun, hended, hW, hsame⟩ := X0.leave (v := some (.int (0 : Int32))) (fun h => by rw [hret] at h; cases h) hlk
  refine ⟨_, _, ?_, hrun, hended, _, _, rfl, ?_, ⟨_, rfl⟩, hW, hsame.mono (by decide) (by decide)⟩
  · show own_S p e below s₁ (mkF m 0 #[iv (0 : Int32), iv (3 : Int32), .val w_SF] []) _
    refine own_iN X0 hx hby d18_0 ?_
    refine own_in X0 hx hby d18_1 (flt (Int32.lt_irrefl : ¬ ((0 : Int32) < (0 : Int32)))).1 ?_
    refine own_iN X0 hx hby d18_4 ?_
    refine own_iN X0 hx hby d18_5 ?_
    refine own_cy (pc := 6) X0 hx hby d18_6 (tlt (by decide : (0 : Int32) < (3 : Int32))).1 16 ?_
    refine own_iN X0 hx hby d18_16 ?_
    exact retI X0 hx hret (hb hby d18_17) hr
  · show Qrm407 Z w_SF h0 _ s₁.heap _
    rw [e0]
    exact ⟨rfl, N0, rfl⟩
def Qrm405 (Z : State) (w_SF : Value) (h0 : Heap) (v : Option Value) (h : Heap) (L : List Loc) : Prop := v = none ∧ Fr Z.heap.size L ∧ h = h0
theorem rm405 (l : Launch) (Z : State) (a0 : Array Value) (hw : own_HW Z a0) (ws : List Jvm.Cond) (w_SF : Value) (h0 : Heap) (Z0 : Ext Z.heap h0) (S_w_SF : own_w_SF Z w_SF) (R_w_SF : w_SF.isRef = true) :
    own_met l y_12 jdk_42_method_155_code 2 none ws ({ frames := 1, cells := 0, slots := 0, locals := 14 } : Room) Z #[(.int (0 : Int32)), (.int (3 : Int32))] h0 (Qrm405 Z w_SF h0) := by
  refine own_start (plainFor_of_name pn_2) (fun m => ef_jdk_42_method_155_II m (0 : Int32) (3 : Int32)) ?_
  intro p e s m below meth c s₁ hx hby hml hown hnm X0 hZ e0 hret hlk
  have N0 := Fr.nil Z.heap.size
  obtain ⟨T406, X406, e406, st406⟩ := getS2 X0 hx hZ hown (host := "") (Or.inl (own_w hw 80 rfl)) Via.refl e0 (S_w_SF.ext Z0) (g := (mkF m 2 #[iv (0 : Int32), iv (3 : Int32)] [(.int (3 : Int32)), (.int (0 : Int32))])) rfl (hb hby d17_2)
  obtain ⟨_, T408, Lc408, X408, hQ408, st408⟩ := own_static (y := y_11) X406 hx hZ hown (own_w hw 82 rfl) (own_w hw 83 rfl) (own_w hw 81 rfl) (own_w hw 84 rfl) (rm407 l Z a0 hw [] w_SF h0 Z0 R_w_SF) e406 (g := (mkF m 5 #[iv (0 : Int32), iv (3 : Int32)] [w_SF, (.int (3 : Int32)), (.int (0 : Int32))])) (argsL := [(.int (0 : Int32)), (.int (3 : Int32)), w_SF]) (rest := []) (W := 0) (lenOf pd_9 rfl) (hb hby d17_5) hml
  obtain ⟨rfl, N408q, e408⟩ := hQ408
  have N408 := Fr.app N0 N408q
  obtain ⟨fs, hr, hrun, hended, hW, hsame⟩ := X408.leave (v := none) (fun _ => rfl) hlk
  refine ⟨_, _, ?_, hrun, hended, _, _, rfl, ?_, ⟨_, rfl⟩, hW, hsame.mono (by decide) (by decide)⟩
  · show own_S p e below s₁ (mkF m 0 #[iv (0 : Int32), iv (3 : Int32)] []) _
    refine own_iN X0 hx hby d17_0 ?_
    refine own_iN X0 hx hby d17_1 ?_
    refine st406 _ ?_
    refine st408 _ ?_
    refine XS.pop X408.here hx rfl (hb hby d17_8) rfl rfl ?_
    exact X408.returnOut hx hret (hb hby d17_9) hr
  · show Qrm405 Z w_SF h0 _ T408.heap _
    rw [e408]
    exact ⟨rfl, N408, rfl⟩
def Qrm403 (Z : State) (w_SF : Value) (da db dc : Int32) (b388 : Addr) (k389 : ClassId) (h0 : Heap) (v : Option Value) (h : Heap) (L : List Loc) : Prop := v = some (.int da) ∧ Fr Z.heap.size L ∧ h = h0
theorem rm403 (l : Launch) (Z : State) (a0 : Array Value) (hw : own_HW Z a0) (ws : List Jvm.Cond) (w_SF : Value) (da db dc : Int32) (b388 : Addr) (k389 : ClassId) (h0 : Heap) (Z0 : Ext Z.heap h0) (S_w_SF : own_w_SF Z w_SF) (R_w_SF : w_SF.isRef = true) (V_b388 : Arv Z h0 b388 k389 .byte (3 : Int32) [(.int (da.toInt8.toInt32)), (.int (db.toInt8.toInt32)), (.int (dc.toInt8.toInt32))] (.int (0 : Int32))) (hc43 : own_ch da) :
    own_met l y_13 jdk_43_method_2_code 2 (some .char) ws ({ frames := 2, cells := 0, slots := 0, locals := 27 } : Room) Z #[(.ref b388), (.int (0 : Int32))] h0 (Qrm403 Z w_SF da db dc b388 k389 h0) := by
  refine own_start (plainFor_of_name pn_5) (fun m => ef_jdk_43_method_2_RI m b388 (0 : Int32)) ?_
  intro p e s m below meth c s₁ hx hby hml hown hnm X0 hZ e0 hret hlk
  have N0 := Fr.nil Z.heap.size
  obtain ⟨cl404, Ar404, q404, S404, Nn404, H404, G404⟩ := id V_b388
  obtain ⟨_, T409, Lc409, X409, hQ409, st409⟩ := own_static (y := y_12) X0 hx hZ hown (own_w hw 77 rfl) (own_w hw 78 rfl) (own_w hw 15 rfl) (own_w hw 79 rfl) (rm405 l Z a0 hw [] w_SF h0 Z0 S_w_SF R_w_SF) e0 (g := (mkF m 3 #[rv b388, iv (0 : Int32)] [(.int (3 : Int32)), (.int (0 : Int32))])) (argsL := [(.int (0 : Int32)), (.int (3 : Int32))]) (rest := []) (W := 0) (lenOf pd_10 rfl) (hb hby d16_3) hml
  obtain ⟨rfl, N409q, e409⟩ := hQ409
  have N409 := Fr.app N0 N409q
  obtain ⟨cl410, Ar410, q410, S410, Nn410, H410, G410⟩ := id V_b388
  have hin410 : ¬ ((0 : Int32) < 0 ∨ cl410.slots.size ≤ ((0 : Int32)).toNatClampNeg) := inb_of S410 ⟨by decide, by decide⟩
  have hat410 : cl410.slots[((0 : Int32)).toNatClampNeg]? = some (.int (da.toInt8.toInt32)) := Has.at H410 hin410 rfl
  obtain ⟨fs, hr, hrun, hended, hW, hsame⟩ := X409.leave (v := some (.int da)) (fun h => by rw [hret] at h; cases h) hlk
  refine ⟨_, _, ?_, hrun, hended, _, _, rfl, ?_, ⟨_, rfl⟩, hW, hsame.mono (by decide) (by decide)⟩
  · show own_S p e below s₁ (mkF m 0 #[rv b388, iv (0 : Int32)] []) _
    refine own_iN X0 hx hby d16_0 ?_
    refine own_aN X0 hx hby d16_1 ?_
    refine X0.arraylength hx (by rw [e0]; exact Ar404.1) (State.isArrayOf_alike hZ.alike Ar404.2.1) (g := (mkF m 2 #[rv b388, iv (0 : Int32)] [(.ref b388), (.int (0 : Int32))])) rfl rfl (hb hby d16_2) _ ?_
    rw [len_of S404 Nn404]
    refine st409 _ ?_
    refine own_aN X409 hx hby d16_6 ?_
    refine own_iN X409 hx hby d16_7 ?_
    refine X409.baloadBytes hx (j := (0 : Int32)) (v := (.int (da.toInt8.toInt32))) (by rw [e409]; exact Ar410.1) (State.isArrayOf_alike hZ.alike Ar410.2.1) Ar410.2.2 hin410 hat410 (g := (mkF m 8 #[rv b388, iv (0 : Int32)] [(.int (0 : Int32)), (.ref b388)])) rfl rfl (hb hby d16_8) _ ?_
    refine XS.sipush X409.here hx rfl (hb hby d16_9) ?_
    refine XS.iand X409.here hx rfl (hb hby d16_12) rfl ?_
    show own_S p e below T409 (mkF m 13 #[rv b388, iv (0 : Int32)] [(.int ((da.toInt8.toInt32) &&& (255 : Int32)))]) _
    rw [(own_b255 hc43)]
    refine XS.i2c X409.here hx rfl (hb hby d16_13) rfl ?_
    show own_S p e below T409 (mkF m 14 #[rv b388, iv (0 : Int32)] [(.int (da.toUInt32.toUInt16.toUInt32.toInt32))]) _
    rw [(own_i2c hc43)]
    rw [← (own_nc hc43)] at hr
    exact retN X409 hx (t := .char) hret (by simp) (hb hby d16_14) hr
  · show Qrm403 Z w_SF da db dc b388 k389 h0 _ T409.heap _
    rw [e409]
    exact ⟨rfl, N409, rfl⟩
def Qrm400 (Z : State) (w_CS : Int32) (w_SF : Value) (da db dc : Int32) (b387 b388 : Addr) (k389 : ClassId) (h0 : Heap) (v : Option Value) (h : Heap) (L : List Loc) : Prop := v = some (.int da) ∧ Fr Z.heap.size L ∧ h = h0
theorem rm400 (l : Launch) (Z : State) (a0 : Array Value) (hw : own_HW Z a0) (ws : List Jvm.Cond) (w_CS : Int32) (w_SF : Value) (da db dc : Int32) (b387 b388 : Addr) (k389 : ClassId) (h0 : Heap) (Z0 : Ext Z.heap h0) (S_w_CS : own_w_CS Z w_CS) (S_w_SF : own_w_SF Z w_SF) (R_w_SF : w_SF.isRef = true) (E_b387 : Exa Z h0 b387 "java/lang/String") (F_b387_coder : Fld Z h0 b387 "java/lang/String" "coder" "B" (.int (0 : Int32))) (F_b387_value : Fld Z h0 b387 "java/lang/String" "value" "[B" (.ref b388)) (V_b388 : Arv Z h0 b388 k389 .byte (3 : Int32) [(.int (da.toInt8.toInt32)), (.int (db.toInt8.toInt32)), (.int (dc.toInt8.toInt32))] (.int (0 : Int32))) (hc1 : ¬ (w_CS = (0 : Int32))) (hc43 : own_ch da) :
    own_met l y_14 jdk_42_method_56_code 2 (some .char) ws ({ frames := 3, cells := 0, slots := 0, locals := 40 } : Room) Z #[(.ref b387), (.int (0 : Int32))] h0 (Qrm400 Z w_CS w_SF da db dc b387 b388 k389 h0) := by
  refine own_start (plainFor_of_name pn_2) (fun m => ef_jdk_42_method_56_RI m b387 (0 : Int32)) ?_
  intro p e s m below meth c s₁ hx hby hml hown hnm X0 hZ e0 hret hlk
  have N0 := Fr.nil Z.heap.size
  obtain ⟨_, T401, Lc401, X401, hQ401, st401⟩ := own_virtual (y := y_10) X0 hx hZ hown (own_w hw 68 rfl) (own_w hw 69 rfl) (own_w hw 71 rfl) (own_w hw 70 rfl) (own_w hw 15 rfl) (own_w hw 72 rfl) (rm72 l Z a0 hw [] w_CS b387 h0 Z0 S_w_CS F_b387_coder hc1) e0 E_b387 (g := (mkF m 1 #[rv b387, iv (0 : Int32)] [(.ref b387)])) (argsL := []) (rest := []) (W := 0) (lenOf pd_8 rfl) (hb hby d14_1) hml
  obtain ⟨rfl, N401q, e401⟩ := hQ401
  have N401 := Fr.app N0 N401q
  obtain ⟨T402, X402, e402, st402⟩ := getF X401 hx hZ hown (host := "") (Or.inl (own_w hw 41 rfl)) Via.refl e401 F_b387_value (g := (mkF m 8 #[rv b387, iv (0 : Int32)] [(.ref b387)])) rfl rfl (hb hby d14_8)
  obtain ⟨_, T411, Lc411, X411, hQ411, st411⟩ := own_static (y := y_13) X402 hx hZ hown (own_w hw 73 rfl) (own_w hw 74 rfl) (own_w hw 75 rfl) (own_w hw 76 rfl) (rm403 l Z a0 hw [] w_SF da db dc b388 k389 h0 Z0 S_w_SF R_w_SF V_b388 hc43) e402 (g := (mkF m 12 #[rv b387, iv (0 : Int32)] [(.int (0 : Int32)), (.ref b388)])) (argsL := [(.ref b388), (.int (0 : Int32))]) (rest := []) (W := 0) (lenOf pd_11 rfl) (hb hby d14_12) hml
  obtain ⟨rfl, N411q, e411⟩ := hQ411
  have N411 := Fr.app N401 N411q
  obtain ⟨fs, hr, hrun, hended, hW, hsame⟩ := X411.leave (v := some (.int da)) (fun h => by rw [hret] at h; cases h) hlk
  refine ⟨_, _, ?_, hrun, hended, _, _, rfl, ?_, ⟨_, rfl⟩, hW, hsame.mono (by decide) (by decide)⟩
  · show own_S p e below s₁ (mkF m 0 #[rv b387, iv (0 : Int32)] []) _
    refine own_aN X0 hx hby d14_0 ?_
    refine st401 _ ?_
    refine own_in X401 hx hby d14_4 (feq (by decide : ¬ ((1 : Int32) = (0 : Int32)))).1 ?_
    refine own_aN X401 hx hby d14_7 ?_
    refine st402 _ ?_
    refine own_iN X402 hx hby d14_11 ?_
    refine st411 _ ?_
    rw [← (own_nc hc43)] at hr
    exact retN X411 hx (t := .char) hret (by simp) (hb hby d14_15) hr
  · show Qrm400 Z w_CS w_SF da db dc b387 b388 k389 h0 _ T411.heap _
    rw [e411]
    exact ⟨rfl, N411, rfl⟩
def Qrm414 (Z : State) (w_CS da db dc : Int32) (b387 b388 : Addr) (k389 : ClassId) (h0 : Heap) (v : Option Value) (h : Heap) (L : List Loc) : Prop := v = some (.int (3 : Int32)) ∧ Fr Z.heap.size L ∧ h = h0
theorem rm414 (l : Launch) (Z : State) (a0 : Array Value) (hw : own_HW Z a0) (ws : List Jvm.Cond) (w_CS da db dc : Int32) (b387 b388 : Addr) (k389 : ClassId) (h0 : Heap) (Z0 : Ext Z.heap h0) (S_w_CS : own_w_CS Z w_CS) (E_b387 : Exa Z h0 b387 "java/lang/String") (F_b387_coder : Fld Z h0 b387 "java/lang/String" "coder" "B" (.int (0 : Int32))) (F_b387_value : Fld Z h0 b387 "java/lang/String" "value" "[B" (.ref b388)) (V_b388 : Arv Z h0 b388 k389 .byte (3 : Int32) [(.int (da.toInt8.toInt32)), (.int (db.toInt8.toInt32)), (.int (dc.toInt8.toInt32))] (.int (0 : Int32))) (hc1 : ¬ (w_CS = (0 : Int32))) :
    own_met l y_16 jdk_42_method_54_code 1 (some .int) ws ({ frames := 1, cells := 0, slots := 0, locals := 13 } : Room) Z #[(.ref b387)] h0 (Qrm414 Z w_CS da db dc b387 b388 k389 h0) := by
  refine own_start (plainFor_of_name pn_2) (fun m => ef_jdk_42_method_54_R m b387) ?_
  intro p e s m below meth c s₁ hx hby hml hown hnm X0 hZ e0 hret hlk
  have N0 := Fr.nil Z.heap.size
  obtain ⟨T415, X415, e415, st415⟩ := getF X0 hx hZ hown (host := "") (Or.inl (own_w hw 41 rfl)) Via.refl e0 F_b387_value (g := (mkF m 1 #[rv b387] [(.ref b387)])) rfl rfl (hb hby d19_1)
  obtain ⟨cl416, Ar416, q416, S416, Nn416, H416, G416⟩ := id V_b388
  obtain ⟨_, T417, Lc417, X417, hQ417, st417⟩ := own_virtual (y := y_15) X415 hx hZ hown (own_w hw 90 rfl) (own_w hw 91 rfl) (own_w hw 93 rfl) (own_w hw 92 rfl) (own_w hw 15 rfl) (own_w hw 94 rfl) (rm91 l Z a0 hw [] w_CS b387 h0 Z0 S_w_CS F_b387_coder hc1) e415 E_b387 (g := (mkF m 6 #[rv b387] [(.ref b387), (.int (3 : Int32))])) (argsL := []) (rest := [(.int (3 : Int32))]) (W := 1) (lenOf pd_12 rfl) (hb hby d19_6) hml
  obtain ⟨rfl, N417q, e417⟩ := hQ417
  have N417 := Fr.app N0 N417q
  obtain ⟨fs, hr, hrun, hended, hW, hsame⟩ := X417.leave (v := some (.int (3 : Int32))) (fun h => by rw [hret] at h; cases h) hlk
  refine ⟨_, _, ?_, hrun, hended, _, _, rfl, ?_, ⟨_, rfl⟩, hW, hsame.mono (by decide) (by decide)⟩
  · show own_S p e below s₁ (mkF m 0 #[rv b387] []) _
    refine own_aN X0 hx hby d19_0 ?_
    refine st415 _ ?_
    refine X415.arraylength hx (by rw [e415]; exact Ar416.1) (State.isArrayOf_alike hZ.alike Ar416.2.1) (g := (mkF m 4 #[rv b387] [(.ref b388)])) rfl rfl (hb hby d19_4) _ ?_
    rw [len_of S416 Nn416]
    refine own_aN X415 hx hby d19_5 ?_
    refine st417 _ ?_
    refine XS.ishr X417.here hx rfl (hb hby d19_9) rfl ?_
    show own_S p e below T417 (mkF m 10 #[rv b387] [(.int ((3 : Int32) >>> ((0 : Int32) &&& 31)))]) _
    rw [(by decide : ((3 : Int32) >>> ((0 : Int32) &&& 31)) = (3 : Int32))]
    exact retI X417 hx hret (hb hby d19_10) hr
  · show Qrm414 Z w_CS da db dc b387 b388 k389 h0 _ T417.heap _
    rw [e417]
    exact ⟨rfl, N417, rfl⟩
def Qrm426 (Z : State) (w_SF : Value) (h0 : Heap) (v : Option Value) (h : Heap) (L : List Loc) : Prop := v = some (.int (1 : Int32)) ∧ Fr Z.heap.size L ∧ h = h0
theorem rm426 (l : Launch) (Z : State) (a0 : Array Value) (hw : own_HW Z a0) (ws : List Jvm.Cond) (w_SF : Value) (h0 : Heap) (Z0 : Ext Z.heap h0) (R_w_SF : w_SF.isRef = true) :
    own_met l y_11 jdk_41_method_11_code 3 (some .int) ws ({ frames := 0, cells := 0, slots := 0, locals := 0 } : Room) Z #[(.int (1 : Int32)), (.int (3 : Int32)), w_SF] h0 (Qrm426 Z w_SF h0) := by
  refine own_start (plainFor_of_name pn_4) (fun m => ef_jdk_41_method_11_IIX m (1 : Int32) (3 : Int32) w_SF R_w_SF) ?_
  intro p e s m below meth c s₁ hx hby hml hown hnm X0 hZ e0 hret hlk
  have N0 := Fr.nil Z.heap.size
  obtain ⟨fs, hr, hrun, hended, hW, hsame⟩ := X0.leave (v := some (.int (1 : Int32))) (fun h => by rw [hret] at h; cases h) hlk
  refine ⟨_, _, ?_, hrun, hended, _, _, rfl, ?_, ⟨_, rfl⟩, hW, hsame.mono (by decide) (by decide)⟩
  · show own_S p e below s₁ (mkF m 0 #[iv (1 : Int32), iv (3 : Int32), .val w_SF] []) _
    refine own_iN X0 hx hby d18_0 ?_
    refine own_in X0 hx hby d18_1 (flt (by decide : ¬ ((1 : Int32) < (0 : Int32)))).1 ?_
    refine own_iN X0 hx hby d18_4 ?_
    refine own_iN X0 hx hby d18_5 ?_
    refine own_cy (pc := 6) X0 hx hby d18_6 (tlt (by decide : (1 : Int32) < (3 : Int32))).1 16 ?_
    refine own_iN X0 hx hby d18_16 ?_
    exact retI X0 hx hret (hb hby d18_17) hr
  · show Qrm426 Z w_SF h0 _ s₁.heap _
    rw [e0]
    exact ⟨rfl, N0, rfl⟩
def Qrm424 (Z : State) (w_SF : Value) (h0 : Heap) (v : Option Value) (h : Heap) (L : List Loc) : Prop := v = none ∧ Fr Z.heap.size L ∧ h = h0
theorem rm424 (l : Launch) (Z : State) (a0 : Array Value) (hw : own_HW Z a0) (ws : List Jvm.Cond) (w_SF : Value) (h0 : Heap) (Z0 : Ext Z.heap h0) (S_w_SF : own_w_SF Z w_SF) (R_w_SF : w_SF.isRef = true) :
    own_met l y_12 jdk_42_method_155_code 2 none ws ({ frames := 1, cells := 0, slots := 0, locals := 14 } : Room) Z #[(.int (1 : Int32)), (.int (3 : Int32))] h0 (Qrm424 Z w_SF h0) := by
  refine own_start (plainFor_of_name pn_2) (fun m => ef_jdk_42_method_155_II m (1 : Int32) (3 : Int32)) ?_
  intro p e s m below meth c s₁ hx hby hml hown hnm X0 hZ e0 hret hlk
  have N0 := Fr.nil Z.heap.size
  obtain ⟨T425, X425, e425, st425⟩ := getS2 X0 hx hZ hown (host := "") (Or.inl (own_w hw 80 rfl)) Via.refl e0 (S_w_SF.ext Z0) (g := (mkF m 2 #[iv (1 : Int32), iv (3 : Int32)] [(.int (3 : Int32)), (.int (1 : Int32))])) rfl (hb hby d17_2)
  obtain ⟨_, T427, Lc427, X427, hQ427, st427⟩ := own_static (y := y_11) X425 hx hZ hown (own_w hw 82 rfl) (own_w hw 83 rfl) (own_w hw 81 rfl) (own_w hw 84 rfl) (rm426 l Z a0 hw [] w_SF h0 Z0 R_w_SF) e425 (g := (mkF m 5 #[iv (1 : Int32), iv (3 : Int32)] [w_SF, (.int (3 : Int32)), (.int (1 : Int32))])) (argsL := [(.int (1 : Int32)), (.int (3 : Int32)), w_SF]) (rest := []) (W := 0) (lenOf pd_9 rfl) (hb hby d17_5) hml
  obtain ⟨rfl, N427q, e427⟩ := hQ427
  have N427 := Fr.app N0 N427q
  obtain ⟨fs, hr, hrun, hended, hW, hsame⟩ := X427.leave (v := none) (fun _ => rfl) hlk
  refine ⟨_, _, ?_, hrun, hended, _, _, rfl, ?_, ⟨_, rfl⟩, hW, hsame.mono (by decide) (by decide)⟩
  · show own_S p e below s₁ (mkF m 0 #[iv (1 : Int32), iv (3 : Int32)] []) _
    refine own_iN X0 hx hby d17_0 ?_
    refine own_iN X0 hx hby d17_1 ?_
    refine st425 _ ?_
    refine st427 _ ?_
    refine XS.pop X427.here hx rfl (hb hby d17_8) rfl rfl ?_
    exact X427.returnOut hx hret (hb hby d17_9) hr
  · show Qrm424 Z w_SF h0 _ T427.heap _
    rw [e427]
    exact ⟨rfl, N427, rfl⟩
def Qrm422 (Z : State) (w_SF : Value) (da db dc : Int32) (b388 : Addr) (k389 : ClassId) (h0 : Heap) (v : Option Value) (h : Heap) (L : List Loc) : Prop := v = some (.int db) ∧ Fr Z.heap.size L ∧ h = h0
theorem rm422 (l : Launch) (Z : State) (a0 : Array Value) (hw : own_HW Z a0) (ws : List Jvm.Cond) (w_SF : Value) (da db dc : Int32) (b388 : Addr) (k389 : ClassId) (h0 : Heap) (Z0 : Ext Z.heap h0) (S_w_SF : own_w_SF Z w_SF) (R_w_SF : w_SF.isRef = true) (V_b388 : Arv Z h0 b388 k389 .byte (3 : Int32) [(.int (da.toInt8.toInt32)), (.int (db.toInt8.toInt32)), (.int (dc.toInt8.toInt32))] (.int (0 : Int32))) (hc54 : own_ch db) :
    own_met l y_13 jdk_43_method_2_code 2 (some .char) ws ({ frames := 2, cells := 0, slots := 0, locals := 27 } : Room) Z #[(.ref b388), (.int (1 : Int32))] h0 (Qrm422 Z w_SF da db dc b388 k389 h0) := by
  refine own_start (plainFor_of_name pn_5) (fun m => ef_jdk_43_method_2_RI m b388 (1 : Int32)) ?_
  intro p e s m below meth c s₁ hx hby hml hown hnm X0 hZ e0 hret hlk
  have N0 := Fr.nil Z.heap.size
  obtain ⟨cl423, Ar423, q423, S423, Nn423, H423, G423⟩ := id V_b388
  obtain ⟨_, T428, Lc428, X428, hQ428, st428⟩ := own_static (y := y_12) X0 hx hZ hown (own_w hw 77 rfl) (own_w hw 78 rfl) (own_w hw 15 rfl) (own_w hw 79 rfl) (rm424 l Z a0 hw [] w_SF h0 Z0 S_w_SF R_w_SF) e0 (g := (mkF m 3 #[rv b388, iv (1 : Int32)] [(.int (3 : Int32)), (.int (1 : Int32))])) (argsL := [(.int (1 : Int32)), (.int (3 : Int32))]) (rest := []) (W := 0) (lenOf pd_10 rfl) (hb hby d16_3) hml
  obtain ⟨rfl, N428q, e428⟩ := hQ428
  have N428 := Fr.app N0 N428q
  obtain ⟨cl429, Ar429, q429, S429, Nn429, H429, G429⟩ := id V_b388
  have hin429 : ¬ ((1 : Int32) < 0 ∨ cl429.slots.size ≤ ((1 : Int32)).toNatClampNeg) := inb_of S429 ⟨by decide, by decide⟩
  have hat429 : cl429.slots[((1 : Int32)).toNatClampNeg]? = some (.int (db.toInt8.toInt32)) := Has.at H429 hin429 rfl
  obtain ⟨fs, hr, hrun, hended, hW, hsame⟩ := X428.leave (v := some (.int db)) (fun h => by rw [hret] at h; cases h) hlk
  refine ⟨_, _, ?_, hrun, hended, _, _, rfl, ?_, ⟨_, rfl⟩, hW, hsame.mono (by decide) (by decide)⟩
  · show own_S p e below s₁ (mkF m 0 #[rv b388, iv (1 : Int32)] []) _
    refine own_iN X0 hx hby d16_0 ?_
    refine own_aN X0 hx hby d16_1 ?_
    refine X0.arraylength hx (by rw [e0]; exact Ar423.1) (State.isArrayOf_alike hZ.alike Ar423.2.1) (g := (mkF m 2 #[rv b388, iv (1 : Int32)] [(.ref b388), (.int (1 : Int32))])) rfl rfl (hb hby d16_2) _ ?_
    rw [len_of S423 Nn423]
    refine st428 _ ?_
    refine own_aN X428 hx hby d16_6 ?_
    refine own_iN X428 hx hby d16_7 ?_
    refine X428.baloadBytes hx (j := (1 : Int32)) (v := (.int (db.toInt8.toInt32))) (by rw [e428]; exact Ar429.1) (State.isArrayOf_alike hZ.alike Ar429.2.1) Ar429.2.2 hin429 hat429 (g := (mkF m 8 #[rv b388, iv (1 : Int32)] [(.int (1 : Int32)), (.ref b388)])) rfl rfl (hb hby d16_8) _ ?_
    refine XS.sipush X428.here hx rfl (hb hby d16_9) ?_
    refine XS.iand X428.here hx rfl (hb hby d16_12) rfl ?_
    show own_S p e below T428 (mkF m 13 #[rv b388, iv (1 : Int32)] [(.int ((db.toInt8.toInt32) &&& (255 : Int32)))]) _
    rw [(own_b255 hc54)]
    refine XS.i2c X428.here hx rfl (hb hby d16_13) rfl ?_
    show own_S p e below T428 (mkF m 14 #[rv b388, iv (1 : Int32)] [(.int (db.toUInt32.toUInt16.toUInt32.toInt32))]) _
    rw [(own_i2c hc54)]
    rw [← (own_nc hc54)] at hr
    exact retN X428 hx (t := .char) hret (by simp) (hb hby d16_14) hr
  · show Qrm422 Z w_SF da db dc b388 k389 h0 _ T428.heap _
    rw [e428]
    exact ⟨rfl, N428, rfl⟩
def Qrm419 (Z : State) (w_CS : Int32) (w_SF : Value) (da db dc : Int32) (b387 b388 : Addr) (k389 : ClassId) (h0 : Heap) (v : Option Value) (h : Heap) (L : List Loc) : Prop := v = some (.int db) ∧ Fr Z.heap.size L ∧ h = h0
theorem rm419 (l : Launch) (Z : State) (a0 : Array Value) (hw : own_HW Z a0) (ws : List Jvm.Cond) (w_CS : Int32) (w_SF : Value) (da db dc : Int32) (b387 b388 : Addr) (k389 : ClassId) (h0 : Heap) (Z0 : Ext Z.heap h0) (S_w_CS : own_w_CS Z w_CS) (S_w_SF : own_w_SF Z w_SF) (R_w_SF : w_SF.isRef = true) (E_b387 : Exa Z h0 b387 "java/lang/String") (F_b387_coder : Fld Z h0 b387 "java/lang/String" "coder" "B" (.int (0 : Int32))) (F_b387_value : Fld Z h0 b387 "java/lang/String" "value" "[B" (.ref b388)) (V_b388 : Arv Z h0 b388 k389 .byte (3 : Int32) [(.int (da.toInt8.toInt32)), (.int (db.toInt8.toInt32)), (.int (dc.toInt8.toInt32))] (.int (0 : Int32))) (hc1 : ¬ (w_CS = (0 : Int32))) (hc54 : own_ch db) :
    own_met l y_14 jdk_42_method_56_code 2 (some .char) ws ({ frames := 3, cells := 0, slots := 0, locals := 40 } : Room) Z #[(.ref b387), (.int (1 : Int32))] h0 (Qrm419 Z w_CS w_SF da db dc b387 b388 k389 h0) := by
  refine own_start (plainFor_of_name pn_2) (fun m => ef_jdk_42_method_56_RI m b387 (1 : Int32)) ?_
  intro p e s m below meth c s₁ hx hby hml hown hnm X0 hZ e0 hret hlk
  have N0 := Fr.nil Z.heap.size
  obtain ⟨_, T420, Lc420, X420, hQ420, st420⟩ := own_virtual (y := y_10) X0 hx hZ hown (own_w hw 68 rfl) (own_w hw 69 rfl) (own_w hw 71 rfl) (own_w hw 70 rfl) (own_w hw 15 rfl) (own_w hw 72 rfl) (rm72 l Z a0 hw [] w_CS b387 h0 Z0 S_w_CS F_b387_coder hc1) e0 E_b387 (g := (mkF m 1 #[rv b387, iv (1 : Int32)] [(.ref b387)])) (argsL := []) (rest := []) (W := 0) (lenOf pd_8 rfl) (hb hby d14_1) hml
  obtain ⟨rfl, N420q, e420⟩ := hQ420
  have N420 := Fr.app N0 N420q
  obtain ⟨T421, X421, e421, st421⟩ := getF X420 hx hZ hown (host := "") (Or.inl (own_w hw 41 rfl)) Via.refl e420 F_b387_value (g := (mkF m 8 #[rv b387, iv (1 : Int32)] [(.ref b387)])) rfl rfl (hb hby d14_8)
  obtain ⟨_, T430, Lc430, X430, hQ430, st430⟩ := own_static (y := y_13) X421 hx hZ hown (own_w hw 73 rfl) (own_w hw 74 rfl) (own_w hw 75 rfl) (own_w hw 76 rfl) (rm422 l Z a0 hw [] w_SF da db dc b388 k389 h0 Z0 S_w_SF R_w_SF V_b388 hc54) e421 (g := (mkF m 12 #[rv b387, iv (1 : Int32)] [(.int (1 : Int32)), (.ref b388)])) (argsL := [(.ref b388), (.int (1 : Int32))]) (rest := []) (W := 0) (lenOf pd_11 rfl) (hb hby d14_12) hml
  obtain ⟨rfl, N430q, e430⟩ := hQ430
  have N430 := Fr.app N420 N430q
  obtain ⟨fs, hr, hrun, hended, hW, hsame⟩ := X430.leave (v := some (.int db)) (fun h => by rw [hret] at h; cases h) hlk
  refine ⟨_, _, ?_, hrun, hended, _, _, rfl, ?_, ⟨_, rfl⟩, hW, hsame.mono (by decide) (by decide)⟩
  · show own_S p e below s₁ (mkF m 0 #[rv b387, iv (1 : Int32)] []) _
    refine own_aN X0 hx hby d14_0 ?_
    refine st420 _ ?_
    refine own_in X420 hx hby d14_4 (feq (by decide : ¬ ((1 : Int32) = (0 : Int32)))).1 ?_
    refine own_aN X420 hx hby d14_7 ?_
    refine st421 _ ?_
    refine own_iN X421 hx hby d14_11 ?_
    refine st430 _ ?_
    rw [← (own_nc hc54)] at hr
    exact retN X430 hx (t := .char) hret (by simp) (hb hby d14_15) hr
  · show Qrm419 Z w_CS w_SF da db dc b387 b388 k389 h0 _ T430.heap _
    rw [e430]
    exact ⟨rfl, N430, rfl⟩
def Qrm440 (Z : State) (w_SF : Value) (h0 : Heap) (v : Option Value) (h : Heap) (L : List Loc) : Prop := v = some (.int (2 : Int32)) ∧ Fr Z.heap.size L ∧ h = h0
theorem rm440 (l : Launch) (Z : State) (a0 : Array Value) (hw : own_HW Z a0) (ws : List Jvm.Cond) (w_SF : Value) (h0 : Heap) (Z0 : Ext Z.heap h0) (R_w_SF : w_SF.isRef = true) :
    own_met l y_11 jdk_41_method_11_code 3 (some .int) ws ({ frames := 0, cells := 0, slots := 0, locals := 0 } : Room) Z #[(.int (2 : Int32)), (.int (3 : Int32)), w_SF] h0 (Qrm440 Z w_SF h0) := by
  refine own_start (plainFor_of_name pn_4) (fun m => ef_jdk_41_method_11_IIX m (2 : Int32) (3 : Int32) w_SF R_w_SF) ?_
  intro p e s m below meth c s₁ hx hby hml hown hnm X0 hZ e0 hret hlk
  have N0 := Fr.nil Z.heap.size
  obtain ⟨fs, hr, hrun, hended, hW, hsame⟩ := X0.leave (v := some (.int (2 : Int32))) (fun h => by rw [hret] at h; cases h) hlk
  refine ⟨_, _, ?_, hrun, hended, _, _, rfl, ?_, ⟨_, rfl⟩, hW, hsame.mono (by decide) (by decide)⟩
  · show own_S p e below s₁ (mkF m 0 #[iv (2 : Int32), iv (3 : Int32), .val w_SF] []) _
    refine own_iN X0 hx hby d18_0 ?_
    refine own_in X0 hx hby d18_1 (flt (by decide : ¬ ((2 : Int32) < (0 : Int32)))).1 ?_
    refine own_iN X0 hx hby d18_4 ?_
    refine own_iN X0 hx hby d18_5 ?_
    refine own_cy (pc := 6) X0 hx hby d18_6 (tlt (by decide : (2 : Int32) < (3 : Int32))).1 16 ?_
    refine own_iN X0 hx hby d18_16 ?_
    exact retI X0 hx hret (hb hby d18_17) hr
  · show Qrm440 Z w_SF h0 _ s₁.heap _
    rw [e0]
    exact ⟨rfl, N0, rfl⟩
def Qrm438 (Z : State) (w_SF : Value) (h0 : Heap) (v : Option Value) (h : Heap) (L : List Loc) : Prop := v = none ∧ Fr Z.heap.size L ∧ h = h0
theorem rm438 (l : Launch) (Z : State) (a0 : Array Value) (hw : own_HW Z a0) (ws : List Jvm.Cond) (w_SF : Value) (h0 : Heap) (Z0 : Ext Z.heap h0) (S_w_SF : own_w_SF Z w_SF) (R_w_SF : w_SF.isRef = true) :
    own_met l y_12 jdk_42_method_155_code 2 none ws ({ frames := 1, cells := 0, slots := 0, locals := 14 } : Room) Z #[(.int (2 : Int32)), (.int (3 : Int32))] h0 (Qrm438 Z w_SF h0) := by
  refine own_start (plainFor_of_name pn_2) (fun m => ef_jdk_42_method_155_II m (2 : Int32) (3 : Int32)) ?_
  intro p e s m below meth c s₁ hx hby hml hown hnm X0 hZ e0 hret hlk
  have N0 := Fr.nil Z.heap.size
  obtain ⟨T439, X439, e439, st439⟩ := getS2 X0 hx hZ hown (host := "") (Or.inl (own_w hw 80 rfl)) Via.refl e0 (S_w_SF.ext Z0) (g := (mkF m 2 #[iv (2 : Int32), iv (3 : Int32)] [(.int (3 : Int32)), (.int (2 : Int32))])) rfl (hb hby d17_2)
  obtain ⟨_, T441, Lc441, X441, hQ441, st441⟩ := own_static (y := y_11) X439 hx hZ hown (own_w hw 82 rfl) (own_w hw 83 rfl) (own_w hw 81 rfl) (own_w hw 84 rfl) (rm440 l Z a0 hw [] w_SF h0 Z0 R_w_SF) e439 (g := (mkF m 5 #[iv (2 : Int32), iv (3 : Int32)] [w_SF, (.int (3 : Int32)), (.int (2 : Int32))])) (argsL := [(.int (2 : Int32)), (.int (3 : Int32)), w_SF]) (rest := []) (W := 0) (lenOf pd_9 rfl) (hb hby d17_5) hml
  obtain ⟨rfl, N441q, e441⟩ := hQ441
  have N441 := Fr.app N0 N441q
  obtain ⟨fs, hr, hrun, hended, hW, hsame⟩ := X441.leave (v := none) (fun _ => rfl) hlk
  refine ⟨_, _, ?_, hrun, hended, _, _, rfl, ?_, ⟨_, rfl⟩, hW, hsame.mono (by decide) (by decide)⟩
  · show own_S p e below s₁ (mkF m 0 #[iv (2 : Int32), iv (3 : Int32)] []) _
    refine own_iN X0 hx hby d17_0 ?_
    refine own_iN X0 hx hby d17_1 ?_
    refine st439 _ ?_
    refine st441 _ ?_
    refine XS.pop X441.here hx rfl (hb hby d17_8) rfl rfl ?_
    exact X441.returnOut hx hret (hb hby d17_9) hr
  · show Qrm438 Z w_SF h0 _ T441.heap _
    rw [e441]
    exact ⟨rfl, N441, rfl⟩
def Qrm436 (Z : State) (w_SF : Value) (da db dc : Int32) (b388 : Addr) (k389 : ClassId) (h0 : Heap) (v : Option Value) (h : Heap) (L : List Loc) : Prop := v = some (.int dc) ∧ Fr Z.heap.size L ∧ h = h0
theorem rm436 (l : Launch) (Z : State) (a0 : Array Value) (hw : own_HW Z a0) (ws : List Jvm.Cond) (w_SF : Value) (da db dc : Int32) (b388 : Addr) (k389 : ClassId) (h0 : Heap) (Z0 : Ext Z.heap h0) (S_w_SF : own_w_SF Z w_SF) (R_w_SF : w_SF.isRef = true) (V_b388 : Arv Z h0 b388 k389 .byte (3 : Int32) [(.int (da.toInt8.toInt32)), (.int (db.toInt8.toInt32)), (.int (dc.toInt8.toInt32))] (.int (0 : Int32))) (hc59 : own_ch dc) :
    own_met l y_13 jdk_43_method_2_code 2 (some .char) ws ({ frames := 2, cells := 0, slots := 0, locals := 27 } : Room) Z #[(.ref b388), (.int (2 : Int32))] h0 (Qrm436 Z w_SF da db dc b388 k389 h0) := by
  refine own_start (plainFor_of_name pn_5) (fun m => ef_jdk_43_method_2_RI m b388 (2 : Int32)) ?_
  intro p e s m below meth c s₁ hx hby hml hown hnm X0 hZ e0 hret hlk
  have N0 := Fr.nil Z.heap.size
  obtain ⟨cl437, Ar437, q437, S437, Nn437, H437, G437⟩ := id V_b388
  obtain ⟨_, T442, Lc442, X442, hQ442, st442⟩ := own_static (y := y_12) X0 hx hZ hown (own_w hw 77 rfl) (own_w hw 78 rfl) (own_w hw 15 rfl) (own_w hw 79 rfl) (rm438 l Z a0 hw [] w_SF h0 Z0 S_w_SF R_w_SF) e0 (g := (mkF m 3 #[rv b388, iv (2 : Int32)] [(.int (3 : Int32)), (.int (2 : Int32))])) (argsL := [(.int (2 : Int32)), (.int (3 : Int32))]) (rest := []) (W := 0) (lenOf pd_10 rfl) (hb hby d16_3) hml
  obtain ⟨rfl, N442q, e442⟩ := hQ442
  have N442 := Fr.app N0 N442q
  obtain ⟨cl443, Ar443, q443, S443, Nn443, H443, G443⟩ := id V_b388
  have hin443 : ¬ ((2 : Int32) < 0 ∨ cl443.slots.size ≤ ((2 : Int32)).toNatClampNeg) := inb_of S443 ⟨by decide, by decide⟩
  have hat443 : cl443.slots[((2 : Int32)).toNatClampNeg]? = some (.int (dc.toInt8.toInt32)) := Has.at H443 hin443 rfl
  obtain ⟨fs, hr, hrun, hended, hW, hsame⟩ := X442.leave (v := some (.int dc)) (fun h => by rw [hret] at h; cases h) hlk
  refine ⟨_, _, ?_, hrun, hended, _, _, rfl, ?_, ⟨_, rfl⟩, hW, hsame.mono (by decide) (by decide)⟩
  · show own_S p e below s₁ (mkF m 0 #[rv b388, iv (2 : Int32)] []) _
    refine own_iN X0 hx hby d16_0 ?_
    refine own_aN X0 hx hby d16_1 ?_
    refine X0.arraylength hx (by rw [e0]; exact Ar437.1) (State.isArrayOf_alike hZ.alike Ar437.2.1) (g := (mkF m 2 #[rv b388, iv (2 : Int32)] [(.ref b388), (.int (2 : Int32))])) rfl rfl (hb hby d16_2) _ ?_
    rw [len_of S437 Nn437]
    refine st442 _ ?_
    refine own_aN X442 hx hby d16_6 ?_
    refine own_iN X442 hx hby d16_7 ?_
    refine X442.baloadBytes hx (j := (2 : Int32)) (v := (.int (dc.toInt8.toInt32))) (by rw [e442]; exact Ar443.1) (State.isArrayOf_alike hZ.alike Ar443.2.1) Ar443.2.2 hin443 hat443 (g := (mkF m 8 #[rv b388, iv (2 : Int32)] [(.int (2 : Int32)), (.ref b388)])) rfl rfl (hb hby d16_8) _ ?_
    refine XS.sipush X442.here hx rfl (hb hby d16_9) ?_
    refine XS.iand X442.here hx rfl (hb hby d16_12) rfl ?_
    show own_S p e below T442 (mkF m 13 #[rv b388, iv (2 : Int32)] [(.int ((dc.toInt8.toInt32) &&& (255 : Int32)))]) _
    rw [(own_b255 hc59)]
    refine XS.i2c X442.here hx rfl (hb hby d16_13) rfl ?_
    show own_S p e below T442 (mkF m 14 #[rv b388, iv (2 : Int32)] [(.int (dc.toUInt32.toUInt16.toUInt32.toInt32))]) _
    rw [(own_i2c hc59)]
    rw [← (own_nc hc59)] at hr
    exact retN X442 hx (t := .char) hret (by simp) (hb hby d16_14) hr
  · show Qrm436 Z w_SF da db dc b388 k389 h0 _ T442.heap _
    rw [e442]
    exact ⟨rfl, N442, rfl⟩
def Qrm433 (Z : State) (w_CS : Int32) (w_SF : Value) (da db dc : Int32) (b387 b388 : Addr) (k389 : ClassId) (h0 : Heap) (v : Option Value) (h : Heap) (L : List Loc) : Prop := v = some (.int dc) ∧ Fr Z.heap.size L ∧ h = h0
theorem rm433 (l : Launch) (Z : State) (a0 : Array Value) (hw : own_HW Z a0) (ws : List Jvm.Cond) (w_CS : Int32) (w_SF : Value) (da db dc : Int32) (b387 b388 : Addr) (k389 : ClassId) (h0 : Heap) (Z0 : Ext Z.heap h0) (S_w_CS : own_w_CS Z w_CS) (S_w_SF : own_w_SF Z w_SF) (R_w_SF : w_SF.isRef = true) (E_b387 : Exa Z h0 b387 "java/lang/String") (F_b387_coder : Fld Z h0 b387 "java/lang/String" "coder" "B" (.int (0 : Int32))) (F_b387_value : Fld Z h0 b387 "java/lang/String" "value" "[B" (.ref b388)) (V_b388 : Arv Z h0 b388 k389 .byte (3 : Int32) [(.int (da.toInt8.toInt32)), (.int (db.toInt8.toInt32)), (.int (dc.toInt8.toInt32))] (.int (0 : Int32))) (hc1 : ¬ (w_CS = (0 : Int32))) (hc59 : own_ch dc) :
    own_met l y_14 jdk_42_method_56_code 2 (some .char) ws ({ frames := 3, cells := 0, slots := 0, locals := 40 } : Room) Z #[(.ref b387), (.int (2 : Int32))] h0 (Qrm433 Z w_CS w_SF da db dc b387 b388 k389 h0) := by
  refine own_start (plainFor_of_name pn_2) (fun m => ef_jdk_42_method_56_RI m b387 (2 : Int32)) ?_
  intro p e s m below meth c s₁ hx hby hml hown hnm X0 hZ e0 hret hlk
  have N0 := Fr.nil Z.heap.size
  obtain ⟨_, T434, Lc434, X434, hQ434, st434⟩ := own_virtual (y := y_10) X0 hx hZ hown (own_w hw 68 rfl) (own_w hw 69 rfl) (own_w hw 71 rfl) (own_w hw 70 rfl) (own_w hw 15 rfl) (own_w hw 72 rfl) (rm72 l Z a0 hw [] w_CS b387 h0 Z0 S_w_CS F_b387_coder hc1) e0 E_b387 (g := (mkF m 1 #[rv b387, iv (2 : Int32)] [(.ref b387)])) (argsL := []) (rest := []) (W := 0) (lenOf pd_8 rfl) (hb hby d14_1) hml
  obtain ⟨rfl, N434q, e434⟩ := hQ434
  have N434 := Fr.app N0 N434q
  obtain ⟨T435, X435, e435, st435⟩ := getF X434 hx hZ hown (host := "") (Or.inl (own_w hw 41 rfl)) Via.refl e434 F_b387_value (g := (mkF m 8 #[rv b387, iv (2 : Int32)] [(.ref b387)])) rfl rfl (hb hby d14_8)
  obtain ⟨_, T444, Lc444, X444, hQ444, st444⟩ := own_static (y := y_13) X435 hx hZ hown (own_w hw 73 rfl) (own_w hw 74 rfl) (own_w hw 75 rfl) (own_w hw 76 rfl) (rm436 l Z a0 hw [] w_SF da db dc b388 k389 h0 Z0 S_w_SF R_w_SF V_b388 hc59) e435 (g := (mkF m 12 #[rv b387, iv (2 : Int32)] [(.int (2 : Int32)), (.ref b388)])) (argsL := [(.ref b388), (.int (2 : Int32))]) (rest := []) (W := 0) (lenOf pd_11 rfl) (hb hby d14_12) hml
  obtain ⟨rfl, N444q, e444⟩ := hQ444
  have N444 := Fr.app N434 N444q
  obtain ⟨fs, hr, hrun, hended, hW, hsame⟩ := X444.leave (v := some (.int dc)) (fun h => by rw [hret] at h; cases h) hlk
  refine ⟨_, _, ?_, hrun, hended, _, _, rfl, ?_, ⟨_, rfl⟩, hW, hsame.mono (by decide) (by decide)⟩
  · show own_S p e below s₁ (mkF m 0 #[rv b387, iv (2 : Int32)] []) _
    refine own_aN X0 hx hby d14_0 ?_
    refine st434 _ ?_
    refine own_in X434 hx hby d14_4 (feq (by decide : ¬ ((1 : Int32) = (0 : Int32)))).1 ?_
    refine own_aN X434 hx hby d14_7 ?_
    refine st435 _ ?_
    refine own_iN X435 hx hby d14_11 ?_
    refine st444 _ ?_
    rw [← (own_nc hc59)] at hr
    exact retN X444 hx (t := .char) hret (by simp) (hb hby d14_15) hr
  · show Qrm433 Z w_CS w_SF da db dc b387 b388 k389 h0 _ T444.heap _
    rw [e444]
    exact ⟨rfl, N444, rfl⟩
def Qrm395 (Z : State) (w_CS : Int32) (w_SF : Value) (da db dc : Int32) (b387 b388 : Addr) (k389 : ClassId) (h0 : Heap) (v : Option Value) (h : Heap) (L : List Loc) : Prop := v = some (.int (1 : Int32)) ∧ Fr Z.heap.size L ∧ h = h0
theorem rm395 (l : Launch) (Z : State) (a0 : Array Value) (hw : own_HW Z a0) (ws : List Jvm.Cond) (w_CS : Int32) (w_SF : Value) (da db dc : Int32) (b387 b388 : Addr) (k389 : ClassId) (h0 : Heap) (Z0 : Ext Z.heap h0) (S_w_CS : own_w_CS Z w_CS) (S_w_SF : own_w_SF Z w_SF) (R_w_SF : w_SF.isRef = true) (E_b387 : Exa Z h0 b387 "java/lang/String") (F_b387_coder : Fld Z h0 b387 "java/lang/String" "coder" "B" (.int (0 : Int32))) (F_b387_value : Fld Z h0 b387 "java/lang/String" "value" "[B" (.ref b388)) (V_b388 : Arv Z h0 b388 k389 .byte (3 : Int32) [(.int (da.toInt8.toInt32)), (.int (db.toInt8.toInt32)), (.int (dc.toInt8.toInt32))] (.int (0 : Int32))) (hc1 : ¬ (w_CS = (0 : Int32))) (hc43 : own_ch da) (hc46 : own_low da) (hc54 : own_ch db) (hc56 : own_aln db) (hc59 : own_ch dc) (hc61 : own_aln dc) :
    own_met l y_17 prog_97_method_2_code 4 (some .boolean) ws ({ frames := 4, cells := 0, slots := 0, locals := 53 } : Room) Z #[(.ref b387)] h0 (Qrm395 Z w_CS w_SF da db dc b387 b388 k389 h0) := by
  refine own_start (plainFor_of_name pn_6) (fun m => ef_prog_97_method_2_R m b387) ?_
  intro p e s m below meth c s₁ hx hby hml hown hnm X0 hZ e0 hret hlk
  have N0 := Fr.nil Z.heap.size
  obtain ⟨_, T399, Lc399, X399, hQ399, st399⟩ := own_virtual (y := y_9) X0 hx hZ hown (own_w hw 58 rfl) (own_w hw 59 rfl) (own_w hw 61 rfl) (own_w hw 60 rfl) (own_w hw 15 rfl) (own_w hw 62 rfl) (rm396 l Z a0 hw [] da db dc b387 b388 k389 h0 Z0 F_b387_value V_b388) e0 E_b387 (g := (mkF m 1 #[rv b387, .unset, .unset, .unset] [(.ref b387)])) (argsL := []) (rest := []) (W := 0) (lenOf pd_8 rfl) (hb hby d12_1) hml
  obtain ⟨rfl, N399q, e399⟩ := hQ399
  have N399 := Fr.app N0 N399q
  obtain ⟨_, T412, Lc412, X412, hQ412, st412⟩ := own_virtual (y := y_14) X399 hx hZ hown (own_w hw 63 rfl) (own_w hw 64 rfl) (own_w hw 66 rfl) (own_w hw 65 rfl) (own_w hw 15 rfl) (own_w hw 67 rfl) (rm400 l Z a0 hw [] w_CS w_SF da db dc b387 b388 k389 h0 Z0 S_w_CS S_w_SF R_w_SF E_b387 F_b387_coder F_b387_value V_b388 hc1 hc43) e399 E_b387 (g := (mkF m 9 #[rv b387, .unset, .unset, .unset] [(.int (0 : Int32)), (.ref b387)])) (argsL := [(.int (0 : Int32))]) (rest := []) (W := 0) (lenOf pd_0 rfl) (hb hby d12_9) hml
  obtain ⟨rfl, N412q, e412⟩ := hQ412
  have N412 := Fr.app N399 N412q
  obtain ⟨_, T413, Lc413, X413, hQ413, st413⟩ := own_virtual (y := y_14) X412 hx hZ hown (own_w hw 63 rfl) (own_w hw 64 rfl) (own_w hw 66 rfl) (own_w hw 65 rfl) (own_w hw 15 rfl) (own_w hw 67 rfl) (rm400 l Z a0 hw [] w_CS w_SF da db dc b387 b388 k389 h0 Z0 S_w_CS S_w_SF R_w_SF E_b387 F_b387_coder F_b387_value V_b388 hc1 hc43) e412 E_b387 (g := (mkF m 19 #[rv b387, .unset, .unset, .unset] [(.int (0 : Int32)), (.ref b387)])) (argsL := [(.int (0 : Int32))]) (rest := []) (W := 0) (lenOf pd_0 rfl) (hb hby d12_19) hml
  obtain ⟨rfl, N413q, e413⟩ := hQ413
  have N413 := Fr.app N412 N413q
  obtain ⟨_, T418, Lc418, X418, hQ418, st418⟩ := own_virtual (y := y_16) X413 hx hZ hown (own_w hw 85 rfl) (own_w hw 86 rfl) (own_w hw 88 rfl) (own_w hw 87 rfl) (own_w hw 15 rfl) (own_w hw 89 rfl) (rm414 l Z a0 hw [] w_CS da db dc b387 b388 k389 h0 Z0 S_w_CS E_b387 F_b387_coder F_b387_value V_b388 hc1) e413 E_b387 (g := (mkF m 41 #[rv b387, iv (1 : Int32), iv (1 : Int32), .unset] [(.ref b387), (.int (1 : Int32))])) (argsL := []) (rest := [(.int (1 : Int32))]) (W := 1) (lenOf pd_13 rfl) (hb hby d12_41) hml
  obtain ⟨rfl, N418q, e418⟩ := hQ418
  have N418 := Fr.app N413 N418q
  obtain ⟨_, T431, Lc431, X431, hQ431, st431⟩ := own_virtual (y := y_14) X418 hx hZ hown (own_w hw 63 rfl) (own_w hw 64 rfl) (own_w hw 66 rfl) (own_w hw 65 rfl) (own_w hw 15 rfl) (own_w hw 67 rfl) (rm419 l Z a0 hw [] w_CS w_SF da db dc b387 b388 k389 h0 Z0 S_w_CS S_w_SF R_w_SF E_b387 F_b387_coder F_b387_value V_b388 hc1 hc54) e418 E_b387 (g := (mkF m 49 #[rv b387, iv (1 : Int32), iv (1 : Int32), .unset] [(.int (1 : Int32)), (.ref b387)])) (argsL := [(.int (1 : Int32))]) (rest := []) (W := 0) (lenOf pd_0 rfl) (hb hby d12_49) hml
  obtain ⟨rfl, N431q, e431⟩ := hQ431
  have N431 := Fr.app N418 N431q
  obtain ⟨_, T432, Lc432, X432, hQ432, st432⟩ := own_virtual (y := y_16) X431 hx hZ hown (own_w hw 85 rfl) (own_w hw 86 rfl) (own_w hw 88 rfl) (own_w hw 87 rfl) (own_w hw 15 rfl) (own_w hw 89 rfl) (rm414 l Z a0 hw [] w_CS da db dc b387 b388 k389 h0 Z0 S_w_CS E_b387 F_b387_coder F_b387_value V_b388 hc1) e431 E_b387 (g := (mkF m 41 #[rv b387, iv (1 : Int32), iv (2 : Int32), iv db] [(.ref b387), (.int (2 : Int32))])) (argsL := []) (rest := [(.int (2 : Int32))]) (W := 1) (lenOf pd_13 rfl) (hb hby d12_41) hml
  obtain ⟨rfl, N432q, e432⟩ := hQ432
  have N432 := Fr.app N431 N432q
  obtain ⟨_, T445, Lc445, X445, hQ445, st445⟩ := own_virtual (y := y_14) X432 hx hZ hown (own_w hw 63 rfl) (own_w hw 64 rfl) (own_w hw 66 rfl) (own_w hw 65 rfl) (own_w hw 15 rfl) (own_w hw 67 rfl) (rm433 l Z a0 hw [] w_CS w_SF da db dc b387 b388 k389 h0 Z0 S_w_CS S_w_SF R_w_SF E_b387 F_b387_coder F_b387_value V_b388 hc1 hc59) e432 E_b387 (g := (mkF m 49 #[rv b387, iv (1 : Int32), iv (2 : Int32), iv db] [(.int (2 : Int32)), (.ref b387)])) (argsL := [(.int (2 : Int32))]) (rest := []) (W := 0) (lenOf pd_0 rfl) (hb hby d12_49) hml
  obtain ⟨rfl, N445q, e445⟩ := hQ445
  have N445 := Fr.app N432 N445q
  obtain ⟨_, T446, Lc446, X446, hQ446, st446⟩ := own_virtual (y := y_16) X445 hx hZ hown (own_w hw 85 rfl) (own_w hw 86 rfl) (own_w hw 88 rfl) (own_w hw 87 rfl) (own_w hw 15 rfl) (own_w hw 89 rfl) (rm414 l Z a0 hw [] w_CS da db dc b387 b388 k389 h0 Z0 S_w_CS E_b387 F_b387_coder F_b387_value V_b388 hc1) e445 E_b387 (g := (mkF m 41 #[rv b387, iv (1 : Int32), iv (3 : Int32), iv dc] [(.ref b387), (.int (3 : Int32))])) (argsL := []) (rest := [(.int (3 : Int32))]) (W := 1) (lenOf pd_13 rfl) (hb hby d12_41) hml
  obtain ⟨rfl, N446q, e446⟩ := hQ446
  have N446 := Fr.app N445 N446q
  obtain ⟨fs, hr, hrun, hended, hW, hsame⟩ := X446.leave (v := some (.int (1 : Int32))) (fun h => by rw [hret] at h; cases h) hlk
  refine ⟨_, _, ?_, hrun, hended, _, _, rfl, ?_, ⟨_, rfl⟩, hW, hsame.mono (by decide) (by decide)⟩
  · show own_S p e below s₁ (mkF m 0 #[rv b387, .unset, .unset, .unset] []) _
    refine own_aN X0 hx hby d12_0 ?_
    refine st399 _ ?_
    refine own_in X399 hx hby d12_4 (teq (rfl : (0 : Int32) = (0 : Int32))).2 ?_
    refine own_aN X399 hx hby d12_7 ?_
    refine own_k X399 hx hby d12_8 ?_
    refine st412 _ ?_
    refine XS.bipush X412.here hx rfl (hb hby d12_12) ?_
    refine own_cn X412 hx hby d12_14 (flt (own_low1 hc46)).1 ?_
    refine own_aN X412 hx hby d12_17 ?_
    refine own_k X412 hx hby d12_18 ?_
    refine st413 _ ?_
    refine XS.bipush X413.here hx rfl (hb hby d12_22) ?_
    refine own_cn X413 hx hby d12_24 (flt (own_low2 hc46)).2.2.1 ?_
    refine own_k X413 hx hby d12_27 ?_
    refine own_go (pc := 28) X413 hx hby d12_28 32 ?_
    refine XS.istoreN X413.here hx rfl (hb hby d12_32) rfl (l' := #[rv b387, iv (1 : Int32), .unset, .unset]) rfl ?_
    refine own_k X413 hx hby d12_33 ?_
    refine XS.istoreN X413.here hx rfl (hb hby d12_34) rfl (l' := #[rv b387, iv (1 : Int32), iv (1 : Int32), .unset]) rfl ?_
    refine own_iN X413 hx hby d12_35 ?_
    refine own_in X413 hx hby d12_36 (feq (by decide : ¬ ((1 : Int32) = (0 : Int32)))).1 ?_
    refine own_iN X413 hx hby d12_39 ?_
    refine own_aN X413 hx hby d12_40 ?_
    refine st418 _ ?_
    refine own_cn X418 hx hby d12_44 (tlt (by decide : (1 : Int32) < (3 : Int32))).2.1 ?_
    refine own_aN X418 hx hby d12_47 ?_
    refine own_iN X418 hx hby d12_48 ?_
    refine st431 _ ?_
    refine XS.istoreN X431.here hx rfl (hb hby d12_52) rfl (l' := #[rv b387, iv (1 : Int32), iv (1 : Int32), iv db]) rfl ?_
    refine own_br X431 hx hby b387 (1 : Int32) db hc56 _ ?_
    refine XS.istoreN X431.here hx rfl (hb hby d12_94) rfl (l' := #[rv b387, iv (1 : Int32), iv (1 : Int32), iv db]) rfl ?_
    refine XS.iinc X431.here hx rfl (hb hby d12_95) rfl (l' := #[rv b387, iv (1 : Int32), iv (2 : Int32), iv db]) rfl ?_
    refine own_go (pc := 98) X431 hx hby d12_98 35 ?_
    refine own_iN X431 hx hby d12_35 ?_
    refine own_in X431 hx hby d12_36 (feq (by decide : ¬ ((1 : Int32) = (0 : Int32)))).1 ?_
    refine own_iN X431 hx hby d12_39 ?_
    refine own_aN X431 hx hby d12_40 ?_
    refine st432 _ ?_
    refine own_cn X432 hx hby d12_44 (tlt (by decide : (2 : Int32) < (3 : Int32))).2.1 ?_
    refine own_aN X432 hx hby d12_47 ?_
    refine own_iN X432 hx hby d12_48 ?_
    refine st445 _ ?_
    refine XS.istoreN X445.here hx rfl (hb hby d12_52) rfl (l' := #[rv b387, iv (1 : Int32), iv (2 : Int32), iv dc]) rfl ?_
    refine own_br X445 hx hby b387 (2 : Int32) dc hc61 _ ?_
    refine XS.istoreN X445.here hx rfl (hb hby d12_94) rfl (l' := #[rv b387, iv (1 : Int32), iv (2 : Int32), iv dc]) rfl ?_
    refine XS.iinc X445.here hx rfl (hb hby d12_95) rfl (l' := #[rv b387, iv (1 : Int32), iv (3 : Int32), iv dc]) rfl ?_
    refine own_go (pc := 98) X445 hx hby d12_98 35 ?_
    refine own_iN X445 hx hby d12_35 ?_
    refine own_in X445 hx hby d12_36 (feq (by decide : ¬ ((1 : Int32) = (0 : Int32)))).1 ?_
    refine own_iN X445 hx hby d12_39 ?_
    refine own_aN X445 hx hby d12_40 ?_
    refine st446 _ ?_
    refine own_cy (pc := 44) X446 hx hby d12_44 (flt (Int32.lt_irrefl : ¬ ((3 : Int32) < (3 : Int32)))).2.1 101 ?_
    refine own_iN X446 hx hby d12_101 ?_
    exact retN X446 hx (t := .boolean) hret (by simp) (hb hby d12_102) hr
  · show Qrm395 Z w_CS w_SF da db dc b387 b388 k389 h0 _ T446.heap _
    rw [e446]
    exact ⟨rfl, N446, rfl⟩
def Qrm393 (Z : State) (w_CS : Int32) (w_SF : Value) (da db dc : Int32) (b387 b388 : Addr) (k389 : ClassId) (b392 : Addr) (h0 : Heap) (v : Option Value) (h : Heap) (L : List Loc) : Prop := v = none ∧ Fr Z.heap.size L ∧ Keep h0 h [b392] ∧ Exa Z h b392 "com/example/faretally/faretally/RefundRequest$Involuntary$Reason" ∧ Fld Z h b392 "com/example/faretally/faretally/RefundRequest$Involuntary$Reason" "written" "Ljava/lang/String;" (.ref b387)
theorem rm393 (l : Launch) (Z : State) (a0 : Array Value) (hw : own_HW Z a0) (ws : List Jvm.Cond) (w_CS : Int32) (w_SF : Value) (da db dc : Int32) (b387 b388 : Addr) (k389 : ClassId) (b392 : Addr) (h0 : Heap) (Z0 : Ext Z.heap h0) (S_w_CS : own_w_CS Z w_CS) (S_w_SF : own_w_SF Z w_SF) (R_w_SF : w_SF.isRef = true) (E_b392 : Exa Z h0 b392 "com/example/faretally/faretally/RefundRequest$Involuntary$Reason") (F_b392_written : Fld Z h0 b392 "com/example/faretally/faretally/RefundRequest$Involuntary$Reason" "written" "Ljava/lang/String;" .null) (E_b387 : Exa Z h0 b387 "java/lang/String") (F_b387_coder : Fld Z h0 b387 "java/lang/String" "coder" "B" (.int (0 : Int32))) (F_b387_value : Fld Z h0 b387 "java/lang/String" "value" "[B" (.ref b388)) (V_b388 : Arv Z h0 b388 k389 .byte (3 : Int32) [(.int (da.toInt8.toInt32)), (.int (db.toInt8.toInt32)), (.int (dc.toInt8.toInt32))] (.int (0 : Int32))) (g_b392 : Z.heap.size ≤ b392) (hc1 : ¬ (w_CS = (0 : Int32))) (hc43 : own_ch da) (hc46 : own_low da) (hc54 : own_ch db) (hc56 : own_aln db) (hc59 : own_ch dc) (hc61 : own_aln dc) :
    own_met l y_18 prog_97_method_1_code 2 none ws ({ frames := 5, cells := 0, slots := 0, locals := 68 } : Room) Z #[(.ref b392), (.ref b387)] h0 (Qrm393 Z w_CS w_SF da db dc b387 b388 k389 b392 h0) := by
  refine own_start (plainFor_of_name pn_6) (fun m => ef_prog_97_method_1_RR m b392 b387) ?_
  intro p e s m below meth c s₁ hx hby hml hown hnm X0 hZ e0 hret hlk
  have N0 := Fr.nil Z.heap.size
  obtain ⟨_, T394, Lc394, X394, hQ394, st394⟩ := own_special (y := y_8) X0 hx hZ hown rfl (own_w hw 49 rfl) (own_w hw 50 rfl) (own_w hw 52 rfl) (own_w hw 53 rfl) (rm63 l Z a0 hw [] b392 h0 Z0 ) e0 b392 (g := (mkF m 1 #[rv b392, rv b387] [(.ref b392)])) (argsL := []) (rest := []) (W := 0) (lenOf pd_7 rfl) (hb hby d10_1) hml
  obtain ⟨rfl, N394q, e394⟩ := hQ394
  have N394 := Fr.app N0 N394q
  obtain ⟨_, T447, Lc447, X447, hQ447, st447⟩ := own_static (y := y_17) X394 hx hZ hown (own_w hw 55 rfl) (own_w hw 56 rfl) (own_w hw 45 rfl) (own_w hw 57 rfl) (rm395 l Z a0 hw [] w_CS w_SF da db dc b387 b388 k389 h0 Z0 S_w_CS S_w_SF R_w_SF E_b387 F_b387_coder F_b387_value V_b388 hc1 hc43 hc46 hc54 hc56 hc59 hc61) e394 (g := (mkF m 5 #[rv b392, rv b387] [(.ref b387)])) (argsL := [(.ref b387)]) (rest := []) (W := 0) (lenOf pd_14 rfl) (hb hby d10_5) hml
  obtain ⟨rfl, N447q, e447⟩ := hQ447
  have N447 := Fr.app N394 N447q
  obtain ⟨T448, h448, X448, e448, W448, st448⟩ := putF X447 hx hZ hown (host := "") (Or.inl (own_w hw 95 rfl)) Via.refl e447 F_b392_written E_b392 (Or.inr ⟨(own_w hw 96 rfl), rfl, hnm⟩) (own_w hw 44 rfl) (ty := (.object "java/lang/String")) (by decide) rfl rfl (g := (mkF m 30 #[rv b392, rv b387] [(.ref b387), (.ref b392)])) rfl rfl (hb hby d10_30)
  have K448 : Keep h0 h448 [b392] := (Keep.refl h0 [b392]).wr W448 (Or.inl (List.mem_of_getElem? (i := 0) rfl))
  have XX448 : Ext Z.heap h448 := own_extW Z0 W448 g_b392
  have N448 := Fr.snoc X448 N447 g_b392
  obtain ⟨fs, hr, hrun, hended, hW, hsame⟩ := X448.leave (v := none) (fun _ => rfl) hlk
  refine ⟨_, _, ?_, hrun, hended, _, _, rfl, ?_, ⟨_, rfl⟩, hW, hsame.mono (by decide) (by decide)⟩
  · show own_S p e below s₁ (mkF m 0 #[rv b392, rv b387] []) _
    refine own_aN X0 hx hby d10_0 ?_
    refine st394 _ ?_
    refine own_aN X394 hx hby d10_4 ?_
    refine st447 _ ?_
    refine own_iy (pc := 8) X447 hx hby d10_8 (feq (by decide : ¬ ((1 : Int32) = (0 : Int32)))).2 28 ?_
    refine own_aN X447 hx hby d10_28 ?_
    refine own_aN X447 hx hby d10_29 ?_
    refine st448 _ ?_
    exact X448.returnOut hx hret (hb hby d10_33) hr
  · show Qrm393 Z w_CS w_SF da db dc b387 b388 k389 b392 h0 _ T448.heap _
    rw [e448]
    exact ⟨rfl, N448, K448, (E_b392.wr W448), (F_b392_written.same W448)⟩
def Qrm466 (Z : State) (ca da db dc : Int32) (b338 : Addr) (k339 : ClassId) (b388 : Addr) (k389 : ClassId) (h0 : Heap) (v : Option Value) (h : Heap) (L : List Loc) : Prop := v = some (.int (0 : Int32)) ∧ Fr Z.heap.size L ∧ h = h0
theorem rm466 (l : Launch) (Z : State) (a0 : Array Value) (hw : own_HW Z a0) (ws : List Jvm.Cond) (ca da db dc : Int32) (b338 : Addr) (k339 : ClassId) (b388 : Addr) (k389 : ClassId) (h0 : Heap) (Z0 : Ext Z.heap h0) (V_b338 : Arv Z h0 b338 k339 .byte (1 : Int32) [(.int (ca.toInt8.toInt32))] (.int (0 : Int32))) (V_b388 : Arv Z h0 b388 k389 .byte (3 : Int32) [(.int (da.toInt8.toInt32)), (.int (db.toInt8.toInt32)), (.int (dc.toInt8.toInt32))] (.int (0 : Int32))) :
    own_met l y_19 jdk_43_method_13_code 3 (some .boolean) ws ({ frames := 0, cells := 0, slots := 0, locals := 0 } : Room) Z #[(.ref b338), (.ref b388)] h0 (Qrm466 Z ca da db dc b338 k339 b388 k389 h0) := by
  refine own_start (plainFor_of_name pn_5) (fun m => ef_jdk_43_method_13_RR m b338 b388) ?_
  intro p e s m below meth c s₁ hx hby hml hown hnm X0 hZ e0 hret hlk
  have N0 := Fr.nil Z.heap.size
  obtain ⟨cl467, Ar467, q467, S467, Nn467, H467, G467⟩ := id V_b338
  obtain ⟨cl468, Ar468, q468, S468, Nn468, H468, G468⟩ := id V_b388
  obtain ⟨fs, hr, hrun, hended, hW, hsame⟩ := X0.leave (v := some (.int (0 : Int32))) (fun h => by rw [hret] at h; cases h) hlk
  refine ⟨_, _, ?_, hrun, hended, _, _, rfl, ?_, ⟨_, rfl⟩, hW, hsame.mono (by decide) (by decide)⟩
  · show own_S p e below s₁ (mkF m 0 #[rv b338, rv b388, .unset] []) _
    refine own_aN X0 hx hby d23_0 ?_
    refine X0.arraylength hx (by rw [e0]; exact Ar467.1) (State.isArrayOf_alike hZ.alike Ar467.2.1) (g := (mkF m 1 #[rv b338, rv b388, .unset] [(.ref b338)])) rfl rfl (hb hby d23_1) _ ?_
    rw [len_of S467 Nn467]
    refine own_aN X0 hx hby d23_2 ?_
    refine X0.arraylength hx (by rw [e0]; exact Ar468.1) (State.isArrayOf_alike hZ.alike Ar468.2.1) (g := (mkF m 3 #[rv b338, rv b388, .unset] [(.ref b388), (.int (1 : Int32))])) rfl rfl (hb hby d23_3) _ ?_
    rw [len_of S468 Nn468]
    refine own_cy (pc := 4) X0 hx hby d23_4 (feq (by decide : ¬ ((1 : Int32) = (3 : Int32)))).2 34 ?_
    refine own_k X0 hx hby d23_34 ?_
    exact retN X0 hx (t := .boolean) hret (by simp) (hb hby d23_35) hr
  · show Qrm466 Z ca da db dc b338 k339 b388 k389 h0 _ s₁.heap _
    rw [e0]
    exact ⟨rfl, N0, rfl⟩
def Qrm458 (Z : State) (w_CS ca da db dc : Int32) (b337 b338 : Addr) (k339 : ClassId) (b387 b388 : Addr) (k389 : ClassId) (h0 : Heap) (v : Option Value) (h : Heap) (L : List Loc) : Prop := v = some (.int (0 : Int32)) ∧ Fr Z.heap.size L ∧ h = h0
theorem rm458 (l : Launch) (Z : State) (a0 : Array Value) (hw : own_HW Z a0) (ws : List Jvm.Cond) (w_CS ca da db dc : Int32) (b337 b338 : Addr) (k339 : ClassId) (b387 b388 : Addr) (k389 : ClassId) (h0 : Heap) (Z0 : Ext Z.heap h0) (S_w_CS : own_w_CS Z w_CS) (F_b337_coder : Fld Z h0 b337 "java/lang/String" "coder" "B" (.int (0 : Int32))) (F_b337_value : Fld Z h0 b337 "java/lang/String" "value" "[B" (.ref b338)) (E_b387 : Exa Z h0 b387 "java/lang/String") (F_b387_coder : Fld Z h0 b387 "java/lang/String" "coder" "B" (.int (0 : Int32))) (F_b387_value : Fld Z h0 b387 "java/lang/String" "value" "[B" (.ref b388)) (V_b338 : Arv Z h0 b338 k339 .byte (1 : Int32) [(.int (ca.toInt8.toInt32))] (.int (0 : Int32))) (V_b388 : Arv Z h0 b388 k389 .byte (3 : Int32) [(.int (da.toInt8.toInt32)), (.int (db.toInt8.toInt32)), (.int (dc.toInt8.toInt32))] (.int (0 : Int32))) (hc62 : b337 ≠ b387) (hc1 : ¬ (w_CS = (0 : Int32))) :
    own_met l y_20 jdk_42_method_66_code 3 (some .boolean) ws ({ frames := 1, cells := 0, slots := 0, locals := 14 } : Room) Z #[(.ref b337), (.ref b387)] h0 (Qrm458 Z w_CS ca da db dc b337 b338 k339 b387 b388 k389 h0) := by
  refine own_start (plainFor_of_name pn_2) (fun m => ef_jdk_42_method_66_RR m b337 b387) ?_
  intro p e s m below meth c s₁ hx hby hml hown hnm X0 hZ e0 hret hlk
  have N0 := Fr.nil Z.heap.size
  obtain ⟨T459, X459, e459, st459⟩ := instY X0 hx hZ hown (own_w hw 109 rfl) e0 (Ins.self E_b387) (g := (mkF m 8 #[rv b337, rv b387, .unset] [(.ref b387)])) rfl rfl (hb hby d22_8)
  obtain ⟨T460, X460, e460, st460⟩ := castY X459 hx hZ hown (own_w hw 109 rfl) e459 (Ins.self E_b387) (g := (mkF m 15 #[rv b337, rv b387, .unset] [(.ref b387)])) rfl rfl (hb hby d22_15)
  obtain ⟨T461, X461, e461, st461⟩ := getS2 X460 hx hZ hown (host := "") (Or.inl (own_w hw 27 rfl)) Via.refl e460 (S_w_CS.ext Z0) (g := (mkF m 19 #[rv b337, rv b387, rv b387] [])) rfl (hb hby d22_19)
  obtain ⟨T462, X462, e462, st462⟩ := getF X461 hx hZ hown (host := "") (Or.inl (own_w hw 39 rfl)) Via.refl e461 F_b337_coder (g := (mkF m 26 #[rv b337, rv b387, rv b387] [(.ref b337)])) rfl rfl (hb hby d22_26)
  obtain ⟨T463, X463, e463, st463⟩ := getF X462 hx hZ hown (host := "") (Or.inl (own_w hw 39 rfl)) Via.refl e462 F_b387_coder (g := (mkF m 30 #[rv b337, rv b387, rv b387] [(.ref b387), (.int (0 : Int32))])) rfl rfl (hb hby d22_30)
  obtain ⟨T464, X464, e464, st464⟩ := getF X463 hx hZ hown (host := "") (Or.inl (own_w hw 41 rfl)) Via.refl e463 F_b337_value (g := (mkF m 37 #[rv b337, rv b387, rv b387] [(.ref b337)])) rfl rfl (hb hby d22_37)
  obtain ⟨T465, X465, e465, st465⟩ := getF X464 hx hZ hown (host := "") (Or.inl (own_w hw 41 rfl)) Via.refl e464 F_b387_value (g := (mkF m 41 #[rv b337, rv b387, rv b387] [(.ref b387), (.ref b338)])) rfl rfl (hb hby d22_41)
  obtain ⟨_, T469, Lc469, X469, hQ469, st469⟩ := own_static (y := y_19) X465 hx hZ hown (own_w hw 110 rfl) (own_w hw 111 rfl) (own_w hw 75 rfl) (own_w hw 112 rfl) (rm466 l Z a0 hw [] ca da db dc b338 k339 b388 k389 h0 Z0 V_b338 V_b388) e465 (g := (mkF m 44 #[rv b337, rv b387, rv b387] [(.ref b388), (.ref b338)])) (argsL := [(.ref b338), (.ref b388)]) (rest := []) (W := 0) (lenOf pd_16 rfl) (hb hby d22_44) hml
  obtain ⟨rfl, N469q, e469⟩ := hQ469
  have N469 := Fr.app N0 N469q
  obtain ⟨fs, hr, hrun, hended, hW, hsame⟩ := X469.leave (v := some (.int (0 : Int32))) (fun h => by rw [hret] at h; cases h) hlk
  refine ⟨_, _, ?_, hrun, hended, _, _, rfl, ?_, ⟨_, rfl⟩, hW, hsame.mono (by decide) (by decide)⟩
  · show own_S p e below s₁ (mkF m 0 #[rv b337, rv b387, .unset] []) _
    refine own_aN X0 hx hby d22_0 ?_
    refine own_aN X0 hx hby d22_1 ?_
    refine Jvm.RoadKit.acmp (g := (mkF m 2 #[rv b337, rv b387, .unset] [(.ref b387), (.ref b337)])) X0 hx rfl rfl rfl (pc0 := 2) (pc' := 7) (same := false) rfl (hb hby d22_2) rfl (decide_eq_false fun q => hc62 (Value.ref.inj q)) (by decide) (by decide) ?_
    refine own_aN X0 hx hby d22_7 ?_
    refine st459 _ ?_
    refine own_in X459 hx hby d22_11 (feq (by decide : ¬ ((1 : Int32) = (0 : Int32)))).1 ?_
    refine own_aN X459 hx hby d22_14 ?_
    refine st460 _ ?_
    refine XS.astoreN X460.here hx rfl (hb hby d22_18) rfl rfl (l' := #[rv b337, rv b387, rv b387]) rfl ?_
    refine st461 _ ?_
    refine own_in X461 hx hby d22_22 (feq hc1).1 ?_
    refine own_aN X461 hx hby d22_25 ?_
    refine st462 _ ?_
    refine own_aN X462 hx hby d22_29 ?_
    refine st463 _ ?_
    refine own_cn X463 hx hby d22_33 (teq (rfl : (0 : Int32) = (0 : Int32))).2 ?_
    refine own_aN X463 hx hby d22_36 ?_
    refine st464 _ ?_
    refine own_aN X464 hx hby d22_40 ?_
    refine st465 _ ?_
    refine st469 _ ?_
    refine own_iy (pc := 47) X469 hx hby d22_47 (teq (rfl : (0 : Int32) = (0 : Int32))).1 54 ?_
    refine own_k X469 hx hby d22_54 ?_
    exact retN X469 hx (t := .boolean) hret (by simp) (hb hby d22_55) hr
  · show Qrm458 Z w_CS ca da db dc b337 b338 k339 b387 b388 k389 h0 _ T469.heap _
    rw [e469]
    exact ⟨rfl, N469, rfl⟩
def Qrm453 (Z : State) (w_CS ca da db dc : Int32) (b337 b338 : Addr) (k339 : ClassId) (b387 b388 : Addr) (k389 : ClassId) (b390 b392 : Addr) (h0 : Heap) (v : Option Value) (h : Heap) (L : List Loc) : Prop := v = some (.int (0 : Int32)) ∧ Fr Z.heap.size L ∧ h = h0
theorem rm453 (l : Launch) (Z : State) (a0 : Array Value) (hw : own_HW Z a0) (ws : List Jvm.Cond) (w_CS ca da db dc : Int32) (b337 b338 : Addr) (k339 : ClassId) (b387 b388 : Addr) (k389 : ClassId) (b390 b392 : Addr) (h0 : Heap) (Z0 : Ext Z.heap h0) (S_w_CS : own_w_CS Z w_CS) (F_b390_written : Fld Z h0 b390 "com/example/faretally/faretally/RefundRequest$Involuntary$Reason" "written" "Ljava/lang/String;" (.ref b337)) (E_b392 : Exa Z h0 b392 "com/example/faretally/faretally/RefundRequest$Involuntary$Reason") (F_b392_written : Fld Z h0 b392 "com/example/faretally/faretally/RefundRequest$Involuntary$Reason" "written" "Ljava/lang/String;" (.ref b387)) (E_b337 : Exa Z h0 b337 "java/lang/String") (F_b337_coder : Fld Z h0 b337 "java/lang/String" "coder" "B" (.int (0 : Int32))) (F_b337_value : Fld Z h0 b337 "java/lang/String" "value" "[B" (.ref b338)) (E_b387 : Exa Z h0 b387 "java/lang/String") (F_b387_coder : Fld Z h0 b387 "java/lang/String" "coder" "B" (.int (0 : Int32))) (F_b387_value : Fld Z h0 b387 "java/lang/String" "value" "[B" (.ref b388)) (V_b338 : Arv Z h0 b338 k339 .byte (1 : Int32) [(.int (ca.toInt8.toInt32))] (.int (0 : Int32))) (V_b388 : Arv Z h0 b388 k389 .byte (3 : Int32) [(.int (da.toInt8.toInt32)), (.int (db.toInt8.toInt32)), (.int (dc.toInt8.toInt32))] (.int (0 : Int32))) (hc62 : b337 ≠ b387) (hc1 : ¬ (w_CS = (0 : Int32))) :
    own_met l y_21 prog_97_method_3_code 3 (some .boolean) ws ({ frames := 2, cells := 0, slots := 0, locals := 28 } : Room) Z #[(.ref b390), (.ref b392)] h0 (Qrm453 Z w_CS ca da db dc b337 b338 k339 b387 b388 k389 b390 b392 h0) := by
  refine own_start (plainFor_of_name pn_6) (fun m => ef_prog_97_method_3_RR m b390 b392) ?_
  intro p e s m below meth c s₁ hx hby hml hown hnm X0 hZ e0 hret hlk
  have N0 := Fr.nil Z.heap.size
  obtain ⟨T454, X454, e454, st454⟩ := instY X0 hx hZ hown (own_w hw 102 rfl) e0 (Ins.self E_b392) (g := (mkF m 1 #[rv b390, rv b392, .unset] [(.ref b392)])) rfl rfl (hb hby d21_1)
  obtain ⟨T455, X455, e455, st455⟩ := castY X454 hx hZ hown (own_w hw 102 rfl) e454 (Ins.self E_b392) (g := (mkF m 8 #[rv b390, rv b392, .unset] [(.ref b392)])) rfl rfl (hb hby d21_8)
  obtain ⟨T456, X456, e456, st456⟩ := getF X455 hx hZ hown (host := "") (Or.inl (own_w hw 95 rfl)) Via.refl e455 F_b390_written (g := (mkF m 13 #[rv b390, rv b392, rv b392] [(.ref b390)])) rfl rfl (hb hby d21_13)
  obtain ⟨T457, X457, e457, st457⟩ := getF X456 hx hZ hown (host := "") (Or.inl (own_w hw 95 rfl)) Via.refl e456 F_b392_written (g := (mkF m 17 #[rv b390, rv b392, rv b392] [(.ref b392), (.ref b337)])) rfl rfl (hb hby d21_17)
  obtain ⟨_, T470, Lc470, X470, hQ470, st470⟩ := own_virtual (y := y_20) X457 hx hZ hown (own_w hw 104 rfl) (own_w hw 105 rfl) (own_w hw 107 rfl) (own_w hw 106 rfl) (own_w hw 15 rfl) (own_w hw 108 rfl) (rm458 l Z a0 hw [] w_CS ca da db dc b337 b338 k339 b387 b388 k389 h0 Z0 S_w_CS F_b337_coder F_b337_value E_b387 F_b387_coder F_b387_value V_b338 V_b388 hc62 hc1) e457 E_b337 (g := (mkF m 20 #[rv b390, rv b392, rv b392] [(.ref b387), (.ref b337)])) (argsL := [(.ref b387)]) (rest := []) (W := 0) (lenOf pd_17 rfl) (hb hby d21_20) hml
  obtain ⟨rfl, N470q, e470⟩ := hQ470
  have N470 := Fr.app N0 N470q
  obtain ⟨fs, hr, hrun, hended, hW, hsame⟩ := X470.leave (v := some (.int (0 : Int32))) (fun h => by rw [hret] at h; cases h) hlk
  refine ⟨_, _, ?_, hrun, hended, _, _, rfl, ?_, ⟨_, rfl⟩, hW, hsame.mono (by decide) (by decide)⟩
  · show own_S p e below s₁ (mkF m 0 #[rv b390, rv b392, .unset] []) _
    refine own_aN X0 hx hby d21_0 ?_
    refine st454 _ ?_
    refine own_in X454 hx hby d21_4 (feq (by decide : ¬ ((1 : Int32) = (0 : Int32)))).1 ?_
    refine own_aN X454 hx hby d21_7 ?_
    refine st455 _ ?_
    refine XS.astoreN X455.here hx rfl (hb hby d21_11) rfl rfl (l' := #[rv b390, rv b392, rv b392]) rfl ?_
    refine own_aN X455 hx hby d21_12 ?_
    refine st456 _ ?_
    refine own_aN X456 hx hby d21_16 ?_
    refine st457 _ ?_
    refine st470 _ ?_
    refine own_iy (pc := 23) X470 hx hby d21_23 (teq (rfl : (0 : Int32) = (0 : Int32))).1 30 ?_
    refine own_k X470 hx hby d21_30 ?_
    exact retN X470 hx (t := .boolean) hret (by simp) (hb hby d21_31) hr
  · show Qrm453 Z w_CS ca da db dc b337 b338 k339 b387 b388 k389 b390 b392 h0 _ T470.heap _
    rw [e470]
    exact ⟨rfl, N470, rfl⟩
def Qrm490 (Z : State) (ca da db dc : Int32) (b338 : Addr) (k339 : ClassId) (b388 : Addr) (k389 : ClassId) (h0 : Heap) (v : Option Value) (h : Heap) (L : List Loc) : Prop := v = some (.int (0 : Int32)) ∧ Fr Z.heap.size L ∧ h = h0
theorem rm490 (l : Launch) (Z : State) (a0 : Array Value) (hw : own_HW Z a0) (ws : List Jvm.Cond) (ca da db dc : Int32) (b338 : Addr) (k339 : ClassId) (b388 : Addr) (k389 : ClassId) (h0 : Heap) (Z0 : Ext Z.heap h0) (V_b388 : Arv Z h0 b388 k389 .byte (3 : Int32) [(.int (da.toInt8.toInt32)), (.int (db.toInt8.toInt32)), (.int (dc.toInt8.toInt32))] (.int (0 : Int32))) (V_b338 : Arv Z h0 b338 k339 .byte (1 : Int32) [(.int (ca.toInt8.toInt32))] (.int (0 : Int32))) :
    own_met l y_19 jdk_43_method_13_code 3 (some .boolean) ws ({ frames := 0, cells := 0, slots := 0, locals := 0 } : Room) Z #[(.ref b388), (.ref b338)] h0 (Qrm490 Z ca da db dc b338 k339 b388 k389 h0) := by
  refine own_start (plainFor_of_name pn_5) (fun m => ef_jdk_43_method_13_RR m b388 b338) ?_
  intro p e s m below meth c s₁ hx hby hml hown hnm X0 hZ e0 hret hlk
  have N0 := Fr.nil Z.heap.size
  obtain ⟨cl491, Ar491, q491, S491, Nn491, H491, G491⟩ := id V_b388
  obtain ⟨cl492, Ar492, q492, S492, Nn492, H492, G492⟩ := id V_b338
  obtain ⟨fs, hr, hrun, hended, hW, hsame⟩ := X0.leave (v := some (.int (0 : Int32))) (fun h => by rw [hret] at h; cases h) hlk
  refine ⟨_, _, ?_, hrun, hended, _, _, rfl, ?_, ⟨_, rfl⟩, hW, hsame.mono (by decide) (by decide)⟩
  · show own_S p e below s₁ (mkF m 0 #[rv b388, rv b338, .unset] []) _
    refine own_aN X0 hx hby d23_0 ?_
    refine X0.arraylength hx (by rw [e0]; exact Ar491.1) (State.isArrayOf_alike hZ.alike Ar491.2.1) (g := (mkF m 1 #[rv b388, rv b338, .unset] [(.ref b388)])) rfl rfl (hb hby d23_1) _ ?_
    rw [len_of S491 Nn491]
    refine own_aN X0 hx hby d23_2 ?_
    refine X0.arraylength hx (by rw [e0]; exact Ar492.1) (State.isArrayOf_alike hZ.alike Ar492.2.1) (g := (mkF m 3 #[rv b388, rv b338, .unset] [(.ref b338), (.int (3 : Int32))])) rfl rfl (hb hby d23_3) _ ?_
    rw [len_of S492 Nn492]
    refine own_cy (pc := 4) X0 hx hby d23_4 (feq (by decide : ¬ ((3 : Int32) = (1 : Int32)))).2 34 ?_
    refine own_k X0 hx hby d23_34 ?_
    exact retN X0 hx (t := .boolean) hret (by simp) (hb hby d23_35) hr
  · show Qrm490 Z ca da db dc b338 k339 b388 k389 h0 _ s₁.heap _
    rw [e0]
    exact ⟨rfl, N0, rfl⟩
def Qrm482 (Z : State) (w_CS ca da db dc : Int32) (b337 b338 : Addr) (k339 : ClassId) (b387 b388 : Addr) (k389 : ClassId) (h0 : Heap) (v : Option Value) (h : Heap) (L : List Loc) : Prop := v = some (.int (0 : Int32)) ∧ Fr Z.heap.size L ∧ h = h0
theorem rm482 (l : Launch) (Z : State) (a0 : Array Value) (hw : own_HW Z a0) (ws : List Jvm.Cond) (w_CS ca da db dc : Int32) (b337 b338 : Addr) (k339 : ClassId) (b387 b388 : Addr) (k389 : ClassId) (h0 : Heap) (Z0 : Ext Z.heap h0) (S_w_CS : own_w_CS Z w_CS) (F_b387_coder : Fld Z h0 b387 "java/lang/String" "coder" "B" (.int (0 : Int32))) (F_b387_value : Fld Z h0 b387 "java/lang/String" "value" "[B" (.ref b388)) (E_b337 : Exa Z h0 b337 "java/lang/String") (F_b337_coder : Fld Z h0 b337 "java/lang/String" "coder" "B" (.int (0 : Int32))) (F_b337_value : Fld Z h0 b337 "java/lang/String" "value" "[B" (.ref b338)) (V_b388 : Arv Z h0 b388 k389 .byte (3 : Int32) [(.int (da.toInt8.toInt32)), (.int (db.toInt8.toInt32)), (.int (dc.toInt8.toInt32))] (.int (0 : Int32))) (V_b338 : Arv Z h0 b338 k339 .byte (1 : Int32) [(.int (ca.toInt8.toInt32))] (.int (0 : Int32))) (hc63 : b387 ≠ b337) (hc1 : ¬ (w_CS = (0 : Int32))) :
    own_met l y_20 jdk_42_method_66_code 3 (some .boolean) ws ({ frames := 1, cells := 0, slots := 0, locals := 14 } : Room) Z #[(.ref b387), (.ref b337)] h0 (Qrm482 Z w_CS ca da db dc b337 b338 k339 b387 b388 k389 h0) := by
  refine own_start (plainFor_of_name pn_2) (fun m => ef_jdk_42_method_66_RR m b387 b337) ?_
  intro p e s m below meth c s₁ hx hby hml hown hnm X0 hZ e0 hret hlk
  have N0 := Fr.nil Z.heap.size
  obtain ⟨T483, X483, e483, st483⟩ := instY X0 hx hZ hown (own_w hw 109 rfl) e0 (Ins.self E_b337) (g := (mkF m 8 #[rv b387, rv b337, .unset] [(.ref b337)])) rfl rfl (hb hby d22_8)
  obtain ⟨T484, X484, e484, st484⟩ := castY X483 hx hZ hown (own_w hw 109 rfl) e483 (Ins.self E_b337) (g := (mkF m 15 #[rv b387, rv b337, .unset] [(.ref b337)])) rfl rfl (hb hby d22_15)
  obtain ⟨T485, X485, e485, st485⟩ := getS2 X484 hx hZ hown (host := "") (Or.inl (own_w hw 27 rfl)) Via.refl e484 (S_w_CS.ext Z0) (g := (mkF m 19 #[rv b387, rv b337, rv b337] [])) rfl (hb hby d22_19)
  obtain ⟨T486, X486, e486, st486⟩ := getF X485 hx hZ hown (host := "") (Or.inl (own_w hw 39 rfl)) Via.refl e485 F_b387_coder (g := (mkF m 26 #[rv b387, rv b337, rv b337] [(.ref b387)])) rfl rfl (hb hby d22_26)
  obtain ⟨T487, X487, e487, st487⟩ := getF X486 hx hZ hown (host := "") (Or.inl (own_w hw 39 rfl)) Via.refl e486 F_b337_coder (g := (mkF m 30 #[rv b387, rv b337, rv b337] [(.ref b337), (.int (0 : Int32))])) rfl rfl (hb hby d22_30)
  obtain ⟨T488, X488, e488, st488⟩ := getF X487 hx hZ hown (host := "") (Or.inl (own_w hw 41 rfl)) Via.refl e487 F_b387_value (g := (mkF m 37 #[rv b387, rv b337, rv b337] [(.ref b387)])) rfl rfl (hb hby d22_37)
  obtain ⟨T489, X489, e489, st489⟩ := getF X488 hx hZ hown (host := "") (Or.inl (own_w hw 41 rfl)) Via.refl e488 F_b337_value (g := (mkF m 41 #[rv b387, rv b337, rv b337] [(.ref b337), (.ref b388)])) rfl rfl (hb hby d22_41)
  obtain ⟨_, T493, Lc493, X493, hQ493, st493⟩ := own_static (y := y_19) X489 hx hZ hown (own_w hw 110 rfl) (own_w hw 111 rfl) (own_w hw 75 rfl) (own_w hw 112 rfl) (rm490 l Z a0 hw [] ca da db dc b338 k339 b388 k389 h0 Z0 V_b388 V_b338) e489 (g := (mkF m 44 #[rv b387, rv b337, rv b337] [(.ref b338), (.ref b388)])) (argsL := [(.ref b388), (.ref b338)]) (rest := []) (W := 0) (lenOf pd_16 rfl) (hb hby d22_44) hml
  obtain ⟨rfl, N493q, e493⟩ := hQ493
  have N493 := Fr.app N0 N493q
  obtain ⟨fs, hr, hrun, hended, hW, hsame⟩ := X493.leave (v := some (.int (0 : Int32))) (fun h => by rw [hret] at h; cases h) hlk
  refine ⟨_, _, ?_, hrun, hended, _, _, rfl, ?_, ⟨_, rfl⟩, hW, hsame.mono (by decide) (by decide)⟩
  · show own_S p e below s₁ (mkF m 0 #[rv b387, rv b337, .unset] []) _
    refine own_aN X0 hx hby d22_0 ?_
    refine own_aN X0 hx hby d22_1 ?_
    refine Jvm.RoadKit.acmp (g := (mkF m 2 #[rv b387, rv b337, .unset] [(.ref b337), (.ref b387)])) X0 hx rfl rfl rfl (pc0 := 2) (pc' := 7) (same := false) rfl (hb hby d22_2) rfl (decide_eq_false fun q => hc63 (Value.ref.inj q)) (by decide) (by decide) ?_
    refine own_aN X0 hx hby d22_7 ?_
    refine st483 _ ?_
    refine own_in X483 hx hby d22_11 (feq (by decide : ¬ ((1 : Int32) = (0 : Int32)))).1 ?_
    refine own_aN X483 hx hby d22_14 ?_
    refine st484 _ ?_
    refine XS.astoreN X484.here hx rfl (hb hby d22_18) rfl rfl (l' := #[rv b387, rv b337, rv b337]) rfl ?_
    refine st485 _ ?_
    refine own_in X485 hx hby d22_22 (feq hc1).1 ?_
    refine own_aN X485 hx hby d22_25 ?_
    refine st486 _ ?_
    refine own_aN X486 hx hby d22_29 ?_
    refine st487 _ ?_
    refine own_cn X487 hx hby d22_33 (teq (rfl : (0 : Int32) = (0 : Int32))).2 ?_
    refine own_aN X487 hx hby d22_36 ?_
    refine st488 _ ?_
    refine own_aN X488 hx hby d22_40 ?_
    refine st489 _ ?_
    refine st493 _ ?_
    refine own_iy (pc := 47) X493 hx hby d22_47 (teq (rfl : (0 : Int32) = (0 : Int32))).1 54 ?_
    refine own_k X493 hx hby d22_54 ?_
    exact retN X493 hx (t := .boolean) hret (by simp) (hb hby d22_55) hr
  · show Qrm482 Z w_CS ca da db dc b337 b338 k339 b387 b388 k389 h0 _ T493.heap _
    rw [e493]
    exact ⟨rfl, N493, rfl⟩
def Qrm477 (Z : State) (w_CS ca da db dc : Int32) (b337 b338 : Addr) (k339 : ClassId) (b387 b388 : Addr) (k389 : ClassId) (b390 b392 : Addr) (h0 : Heap) (v : Option Value) (h : Heap) (L : List Loc) : Prop := v = some (.int (0 : Int32)) ∧ Fr Z.heap.size L ∧ h = h0
theorem rm477 (l : Launch) (Z : State) (a0 : Array Value) (hw : own_HW Z a0) (ws : List Jvm.Cond) (w_CS ca da db dc : Int32) (b337 b338 : Addr) (k339 : ClassId) (b387 b388 : Addr) (k389 : ClassId) (b390 b392 : Addr) (h0 : Heap) (Z0 : Ext Z.heap h0) (S_w_CS : own_w_CS Z w_CS) (F_b392_written : Fld Z h0 b392 "com/example/faretally/faretally/RefundRequest$Involuntary$Reason" "written" "Ljava/lang/String;" (.ref b387)) (E_b390 : Exa Z h0 b390 "com/example/faretally/faretally/RefundRequest$Involuntary$Reason") (F_b390_written : Fld Z h0 b390 "com/example/faretally/faretally/RefundRequest$Involuntary$Reason" "written" "Ljava/lang/String;" (.ref b337)) (E_b387 : Exa Z h0 b387 "java/lang/String") (F_b387_coder : Fld Z h0 b387 "java/lang/String" "coder" "B" (.int (0 : Int32))) (F_b387_value : Fld Z h0 b387 "java/lang/String" "value" "[B" (.ref b388)) (E_b337 : Exa Z h0 b337 "java/lang/String") (F_b337_coder : Fld Z h0 b337 "java/lang/String" "coder" "B" (.int (0 : Int32))) (F_b337_value : Fld Z h0 b337 "java/lang/String" "value" "[B" (.ref b338)) (V_b388 : Arv Z h0 b388 k389 .byte (3 : Int32) [(.int (da.toInt8.toInt32)), (.int (db.toInt8.toInt32)), (.int (dc.toInt8.toInt32))] (.int (0 : Int32))) (V_b338 : Arv Z h0 b338 k339 .byte (1 : Int32) [(.int (ca.toInt8.toInt32))] (.int (0 : Int32))) (hc63 : b387 ≠ b337) (hc1 : ¬ (w_CS = (0 : Int32))) :
    own_met l y_21 prog_97_method_3_code 3 (some .boolean) ws ({ frames := 2, cells := 0, slots := 0, locals := 28 } : Room) Z #[(.ref b392), (.ref b390)] h0 (Qrm477 Z w_CS ca da db dc b337 b338 k339 b387 b388 k389 b390 b392 h0) := by
  refine own_start (plainFor_of_name pn_6) (fun m => ef_prog_97_method_3_RR m b392 b390) ?_
  intro p e s m below meth c s₁ hx hby hml hown hnm X0 hZ e0 hret hlk
  have N0 := Fr.nil Z.heap.size
  obtain ⟨T478, X478, e478, st478⟩ := instY X0 hx hZ hown (own_w hw 102 rfl) e0 (Ins.self E_b390) (g := (mkF m 1 #[rv b392, rv b390, .unset] [(.ref b390)])) rfl rfl (hb hby d21_1)
  obtain ⟨T479, X479, e479, st479⟩ := castY X478 hx hZ hown (own_w hw 102 rfl) e478 (Ins.self E_b390) (g := (mkF m 8 #[rv b392, rv b390, .unset] [(.ref b390)])) rfl rfl (hb hby d21_8)
  obtain ⟨T480, X480, e480, st480⟩ := getF X479 hx hZ hown (host := "") (Or.inl (own_w hw 95 rfl)) Via.refl e479 F_b392_written (g := (mkF m 13 #[rv b392, rv b390, rv b390] [(.ref b392)])) rfl rfl (hb hby d21_13)
  obtain ⟨T481, X481, e481, st481⟩ := getF X480 hx hZ hown (host := "") (Or.inl (own_w hw 95 rfl)) Via.refl e480 F_b390_written (g := (mkF m 17 #[rv b392, rv b390, rv b390] [(.ref b390), (.ref b387)])) rfl rfl (hb hby d21_17)
  obtain ⟨_, T494, Lc494, X494, hQ494, st494⟩ := own_virtual (y := y_20) X481 hx hZ hown (own_w hw 104 rfl) (own_w hw 105 rfl) (own_w hw 107 rfl) (own_w hw 106 rfl) (own_w hw 15 rfl) (own_w hw 108 rfl) (rm482 l Z a0 hw [] w_CS ca da db dc b337 b338 k339 b387 b388 k389 h0 Z0 S_w_CS F_b387_coder F_b387_value E_b337 F_b337_coder F_b337_value V_b388 V_b338 hc63 hc1) e481 E_b387 (g := (mkF m 20 #[rv b392, rv b390, rv b390] [(.ref b337), (.ref b387)])) (argsL := [(.ref b337)]) (rest := []) (W := 0) (lenOf pd_17 rfl) (hb hby d21_20) hml
  obtain ⟨rfl, N494q, e494⟩ := hQ494
  have N494 := Fr.app N0 N494q
  obtain ⟨fs, hr, hrun, hended, hW, hsame⟩ := X494.leave (v := some (.int (0 : Int32))) (fun h => by rw [hret] at h; cases h) hlk
  refine ⟨_, _, ?_, hrun, hended, _, _, rfl, ?_, ⟨_, rfl⟩, hW, hsame.mono (by decide) (by decide)⟩
  · show own_S p e below s₁ (mkF m 0 #[rv b392, rv b390, .unset] []) _
    refine own_aN X0 hx hby d21_0 ?_
    refine st478 _ ?_
    refine own_in X478 hx hby d21_4 (feq (by decide : ¬ ((1 : Int32) = (0 : Int32)))).1 ?_
    refine own_aN X478 hx hby d21_7 ?_
    refine st479 _ ?_
    refine XS.astoreN X479.here hx rfl (hb hby d21_11) rfl rfl (l' := #[rv b392, rv b390, rv b390]) rfl ?_
    refine own_aN X479 hx hby d21_12 ?_
    refine st480 _ ?_
    refine own_aN X480 hx hby d21_16 ?_
    refine st481 _ ?_
    refine st494 _ ?_
    refine own_iy (pc := 23) X494 hx hby d21_23 (teq (rfl : (0 : Int32) = (0 : Int32))).1 30 ?_
    refine own_k X494 hx hby d21_30 ?_
    exact retN X494 hx (t := .boolean) hret (by simp) (hb hby d21_31) hr
  · show Qrm477 Z w_CS ca da db dc b337 b338 k339 b387 b388 k389 b390 b392 h0 _ T494.heap _
    rw [e494]
    exact ⟨rfl, N494, rfl⟩
theorem own_t13 {p : Program} {l : Launch} {e : Env} {s : State} {m : MethodId} {args : Array Value} {below : List Frame} {meth : Method} {c : Code} {T0 : State} {locs : List Loc} (Z : State) (a0 : Array Value) (hw : own_HW Z a0) (w_CS : Int32) (w_SF : Value) (q1 q2 : Int64) (p3 ca cb cc da db dc : Int32) (h0 : Heap) (Z0 : Ext Z.heap h0) (S_w_CS : own_w_CS Z w_CS) (S_w_SF : own_w_SF Z w_SF) (R_w_SF : w_SF.isRef = true) (hc42 : own_ch ca) (hc1 : ¬ (w_CS = (0 : Int32))) (hc43 : own_ch da) (hc54 : own_ch db) (hc59 : own_ch dc) (hc45 : own_low ca) (hc46 : own_low da) (hc56 : own_aln db) (hc61 : own_aln dc) (X0 : Stand p l e room_1 s m args below meth c T0 locs 0 0) (hx : p.tables.exec = Jvm.exec) (hZ : Z.Warmed39 s.vm) (hby : c.code = code) (hml : c.maxLocals = 19) (hown : s.vm.findClass "com/example/faretally/faretally/ReasonEqualsPinLaw" = some m.cls) (e0 : T0.heap = h0) (N0 : Fr Z.heap.size locs) (hret : meth.sig.returnType = some .boolean) (hlk : meth.locks = false) :
    ∃ s₂ o, Steps p.tables e below (T0.setTop (mkF m 153 (own_T q1 q2 p3 1 ca cb cc 3 da db dc .unset .unset .unset .unset .unset .unset) [])) s₂ ∧ s₂.status = .running ∧ Ended s₂ below o ∧ ∃ v L, o = .returned v ∧ (v = some (.int (1 : Int32)) ∧ Fr Z.heap.size L) ∧ FrameEnd s o s₂ L room_1.cells room_1.slots := by
  obtain ⟨_, T336, Lc336, X336, hQ336, st336⟩ := own_static (y := y_7) X0 hx hZ hown (own_w hw 10 rfl) (own_w hw 11 rfl) (own_w hw 4 rfl) (own_w hw 12 rfl) (rm19 l Z a0 hw [] w_CS ca cb cc h0 Z0 S_w_CS hc42 hc1) e0 (g := (mkF m 161 (own_T q1 q2 p3 1 ca cb cc 3 da db dc .unset .unset .unset .unset .unset .unset) [(.int cc), (.int cb), (.int ca), (.int (1 : Int32))])) (argsL := [(.int (1 : Int32)), (.int ca), (.int cb), (.int cc)]) (rest := []) (W := 0) (lenOf pd_6 rfl) (hb hby at_161) hml
  obtain ⟨b337, b338, k339, rfl, N336q, K336q, szn_b337, szn_b338, q336_E_b337, q336_F_b337_coder, q336_F_b337_value, q336_V_b338⟩ := hQ336
  have g_b337 : Z.heap.size ≤ b337 := Nat.le_trans Z0.1 szn_b337
  have sz_b337 : h0.size ≤ b337 := Nat.le_trans (Keep.refl h0 []).1 szn_b337
  have g_b338 : Z.heap.size ≤ b338 := Nat.le_trans Z0.1 szn_b338
  have sz_b338 : h0.size ≤ b338 := Nat.le_trans (Keep.refl h0 []).1 szn_b338
  have K336 : Keep h0 T336.heap [] := (Keep.refl h0 []).trans K336q all0
  have XX336 : Ext Z.heap T336.heap := own_extK Z0 K336q all0
  have N336 := Fr.app N0 N336q
  obtain ⟨_, T386, Lc386, X386, hQ386, st386⟩ := own_static (y := y_7) X336 hx hZ hown (own_w hw 10 rfl) (own_w hw 11 rfl) (own_w hw 4 rfl) (own_w hw 12 rfl) (rm340 l Z a0 hw [] w_CS da db dc T336.heap XX336 S_w_CS hc43 hc54 hc59 hc1) rfl (g := (mkF m 174 (own_T q1 q2 p3 1 ca cb cc 3 da db dc (rv b337) .unset .unset .unset .unset .unset) [(.int dc), (.int db), (.int da), (.int (3 : Int32))])) (argsL := [(.int (3 : Int32)), (.int da), (.int db), (.int dc)]) (rest := []) (W := 0) (lenOf pd_6 rfl) (hb hby at_174) hml
  obtain ⟨b387, b388, k389, rfl, N386q, K386q, szn_b387, szn_b388, q386_E_b387, q386_F_b387_coder, q386_F_b387_value, q386_V_b388⟩ := hQ386
  have g_b387 : Z.heap.size ≤ b387 := Nat.le_trans XX336.1 szn_b387
  have sz_b387 : h0.size ≤ b387 := Nat.le_trans K336.1 szn_b387
  have g_b388 : Z.heap.size ≤ b388 := Nat.le_trans XX336.1 szn_b388
  have sz_b388 : h0.size ≤ b388 := Nat.le_trans K336.1 szn_b388
  have K386 : Keep h0 T386.heap [] := K336.trans K386q all0
  have XX386 : Ext Z.heap T386.heap := own_extK XX336 K386q all0
  have N386 := Fr.app N336 N386q
  obtain ⟨T390, h390, X390, e390, E390, A390, D390, -, st390⟩ := newO X386 hx hZ hown (own_w hw 43 rfl) (own_w hw 44 rfl) (own_w hw 45 rfl) rfl (g := (mkF m 226 (own_T q1 q2 p3 1 ca cb cc 3 da db dc (rv b337) (rv b387) (iv (0 : Int32)) .unset .unset .unset) [])) rfl (hb hby at_226) (by decide) (by decide)
  obtain ⟨b390, g390⟩ : ∃ z, z = T386.heap.size := ⟨_, rfl⟩
  rw [← g390] at A390 D390 st390
  have g_b390 : Z.heap.size ≤ b390 := Nat.le_trans XX386.1 (Nat.le_of_eq g390.symm)
  have sz_b390 : h0.size ≤ b390 := Nat.le_trans K386.1 (Nat.le_of_eq g390.symm)
  have F_b390_written : Fld Z h390 b390 "com/example/faretally/faretally/RefundRequest$Involuntary$Reason" "written" "Ljava/lang/String;" .null := D390 (Or.inr (own_w hw 96 rfl)) (ty := (.object "java/lang/String")) (by decide)
  have K390 : Keep h0 h390 [] := K386.ext E390
  have XX390 : Ext Z.heap h390 := own_ext2 XX386 E390
  obtain ⟨_, T391, Lc391, X391, hQ391, st391⟩ := own_special (y := y_18) X390 hx hZ hown rfl (own_w hw 46 rfl) (own_w hw 47 rfl) (own_w hw 45 rfl) (own_w hw 48 rfl) (rm62 l Z a0 hw [] w_CS w_SF ca b337 b338 k339 b390 h390 XX390 S_w_CS S_w_SF R_w_SF A390 F_b390_written ((q336_E_b337.keep K386q).ext E390) ((q336_F_b337_coder.keep K386q nin0).ext E390) ((q336_F_b337_value.keep K386q nin0).ext E390) ((q336_V_b338.keep K386q nin0).ext E390) g_b390 hc1 hc42 hc45) e390 b390 (g := (mkF m 232 (own_T q1 q2 p3 1 ca cb cc 3 da db dc (rv b337) (rv b387) (iv (0 : Int32)) .unset .unset .unset) [(.ref b337), (.ref b390), (.ref b390)])) (argsL := [(.ref b337)]) (rest := [(.ref b390)]) (W := 1) (lenOf pd_15 rfl) (hb hby at_232) hml
  obtain ⟨rfl, N391q, K391q, q391_E_b390, q391_F_b390_written⟩ := hQ391
  have K391 : Keep h0 T391.heap [] := K390.trans K391q (allS (Or.inr sz_b390) all0)
  have XX391 : Ext Z.heap T391.heap := own_extK XX390 K391q (allS g_b390 all0)
  have N391 := Fr.app N386 N391q
  obtain ⟨T392, h392, X392, e392, E392, A392, D392, -, st392⟩ := newO X391 hx hZ hown (own_w hw 43 rfl) (own_w hw 44 rfl) (own_w hw 45 rfl) rfl (g := (mkF m 237 (own_T q1 q2 p3 1 ca cb cc 3 da db dc (rv b337) (rv b387) (iv (0 : Int32)) (rv b390) .unset .unset) [])) rfl (hb hby at_237) (by decide) (by decide)
  obtain ⟨b392, g392⟩ : ∃ z, z = T391.heap.size := ⟨_, rfl⟩
  rw [← g392] at A392 D392 st392
  have g_b392 : Z.heap.size ≤ b392 := Nat.le_trans XX391.1 (Nat.le_of_eq g392.symm)
  have sz_b392 : h0.size ≤ b392 := Nat.le_trans K391.1 (Nat.le_of_eq g392.symm)
  have F_b392_written : Fld Z h392 b392 "com/example/faretally/faretally/RefundRequest$Involuntary$Reason" "written" "Ljava/lang/String;" .null := D392 (Or.inr (own_w hw 96 rfl)) (ty := (.object "java/lang/String")) (by decide)
  have K392 : Keep h0 h392 [] := K391.ext E392
  have XX392 : Ext Z.heap h392 := own_ext2 XX391 E392
  have ne_b387_b390 : b387 ≠ b390 := Nat.ne_of_lt (Nat.lt_of_lt_of_le q386_E_b387.lt (Nat.le_of_eq g390.symm))
  have f450_F_b387_coder : Fld Z h392 b387 "java/lang/String" "coder" "B" (.int (0 : Int32)) := (((q386_F_b387_coder.ext E390).keep K391q (ninS ne_b387_b390 (nin0))).ext E392)
  have f451_F_b387_value : Fld Z h392 b387 "java/lang/String" "value" "[B" (.ref b388) := (((q386_F_b387_value.ext E390).keep K391q (ninS ne_b387_b390 (nin0))).ext E392)
  have ne_b388_b390 : b388 ≠ b390 := Nat.ne_of_lt (Nat.lt_of_lt_of_le q386_V_b388.lt (Nat.le_of_eq g390.symm))
  have f452_V_b388 : Arv Z h392 b388 k389 .byte (3 : Int32) [(.int (da.toInt8.toInt32)), (.int (db.toInt8.toInt32)), (.int (dc.toInt8.toInt32))] (.int (0 : Int32)) := (((q386_V_b388.ext E390).keep K391q (ninS ne_b388_b390 (nin0))).ext E392)
  obtain ⟨_, T449, Lc449, X449, hQ449, st449⟩ := own_special (y := y_18) X392 hx hZ hown rfl (own_w hw 46 rfl) (own_w hw 47 rfl) (own_w hw 45 rfl) (own_w hw 48 rfl) (rm393 l Z a0 hw [] w_CS w_SF da db dc b387 b388 k389 b392 h392 XX392 S_w_CS S_w_SF R_w_SF A392 F_b392_written (((q386_E_b387.ext E390).keep K391q).ext E392) f450_F_b387_coder f451_F_b387_value f452_V_b388 g_b392 hc1 hc43 hc46 hc54 hc56 hc59 hc61) e392 b392 (g := (mkF m 243 (own_T q1 q2 p3 1 ca cb cc 3 da db dc (rv b337) (rv b387) (iv (0 : Int32)) (rv b390) .unset .unset) [(.ref b387), (.ref b392), (.ref b392)])) (argsL := [(.ref b387)]) (rest := [(.ref b392)]) (W := 1) (lenOf pd_15 rfl) (hb hby at_243) hml
  obtain ⟨rfl, N449q, K449q, q449_E_b392, q449_F_b392_written⟩ := hQ449
  have K449 : Keep h0 T449.heap [] := K392.trans K449q (allS (Or.inr sz_b392) all0)
  have XX449 : Ext Z.heap T449.heap := own_extK XX392 K449q (allS g_b392 all0)
  have N449 := Fr.app N391 N449q
  have ne_b390_b392 : b390 ≠ b392 := Nat.ne_of_lt (Nat.lt_of_lt_of_le q391_E_b390.lt (Nat.le_of_eq g392.symm))
  have f472_F_b390_written : Fld Z T449.heap b390 "com/example/faretally/faretally/RefundRequest$Involuntary$Reason" "written" "Ljava/lang/String;" (.ref b337) := ((q391_F_b390_written.ext E392).keep K449q (ninS ne_b390_b392 (nin0)))
  have f473_E_b337 : Exa Z T449.heap b337 "java/lang/String" := (((((q336_E_b337.keep K386q).ext E390).keep K391q).ext E392).keep K449q)
  have ne_b337_b390 : b337 ≠ b390 := Nat.ne_of_lt (Nat.lt_of_lt_of_le (q336_E_b337.keep K386q).lt (Nat.le_of_eq g390.symm))
  have ne_b337_b392 : b337 ≠ b392 := Nat.ne_of_lt (Nat.lt_of_lt_of_le (((q336_E_b337.keep K386q).ext E390).keep K391q).lt (Nat.le_of_eq g392.symm))
  have f474_F_b337_coder : Fld Z T449.heap b337 "java/lang/String" "coder" "B" (.int (0 : Int32)) := (((((q336_F_b337_coder.keep K386q nin0).ext E390).keep K391q (ninS ne_b337_b390 (nin0))).ext E392).keep K449q (ninS ne_b337_b392 (nin0)))
  have f475_F_b337_value : Fld Z T449.heap b337 "java/lang/String" "value" "[B" (.ref b338) := (((((q336_F_b337_value.keep K386q nin0).ext E390).keep K391q (ninS ne_b337_b390 (nin0))).ext E392).keep K449q (ninS ne_b337_b392 (nin0)))
  have ne_b387_b392 : b387 ≠ b392 := Nat.ne_of_lt (Nat.lt_of_lt_of_le ((q386_E_b387.ext E390).keep K391q).lt (Nat.le_of_eq g392.symm))
  have ne_b338_b390 : b338 ≠ b390 := Nat.ne_of_lt (Nat.lt_of_lt_of_le (q336_V_b338.keep K386q nin0).lt (Nat.le_of_eq g390.symm))
  have ne_b338_b392 : b338 ≠ b392 := Nat.ne_of_lt (Nat.lt_of_lt_of_le (((q336_V_b338.keep K386q nin0).ext E390).keep K391q (ninS ne_b338_b390 (nin0))).lt (Nat.le_of_eq g392.symm))
  have f476_V_b338 : Arv Z T449.heap b338 k339 .byte (1 : Int32) [(.int (ca.toInt8.toInt32))] (.int (0 : Int32)) := (((((q336_V_b338.keep K386q nin0).ext E390).keep K391q (ninS ne_b338_b390 (nin0))).ext E392).keep K449q (ninS ne_b338_b392 (nin0)))
  have ne_b388_b392 : b388 ≠ b392 := Nat.ne_of_lt (Nat.lt_of_lt_of_le ((q386_V_b388.ext E390).keep K391q (ninS ne_b388_b390 (nin0))).lt (Nat.le_of_eq g392.symm))
  have ne_b337_b387 : b337 ≠ b387 := Nat.ne_of_lt (Nat.lt_of_lt_of_le q336_E_b337.lt szn_b387)
  obtain ⟨_, T471, Lc471, X471, hQ471, st471⟩ := own_virtual (y := y_21) X449 hx hZ hown (own_w hw 97 rfl) (own_w hw 98 rfl) (own_w hw 100 rfl) (own_w hw 99 rfl) (own_w hw 45 rfl) (own_w hw 101 rfl) (rm453 l Z a0 hw [] w_CS ca da db dc b337 b338 k339 b387 b388 k389 b390 b392 T449.heap XX449 S_w_CS f472_F_b390_written q449_E_b392 q449_F_b392_written f473_E_b337 f474_F_b337_coder f475_F_b337_value ((((q386_E_b387.ext E390).keep K391q).ext E392).keep K449q) (f450_F_b387_coder.keep K449q (ninS ne_b387_b392 (nin0))) (f451_F_b387_value.keep K449q (ninS ne_b387_b392 (nin0))) f476_V_b338 (f452_V_b388.keep K449q (ninS ne_b388_b392 (nin0))) ne_b337_b387 hc1) rfl ((q391_E_b390.ext E392).keep K449q) (g := (mkF m 252 (own_T q1 q2 p3 1 ca cb cc 3 da db dc (rv b337) (rv b387) (iv (0 : Int32)) (rv b390) (rv b392) .unset) [(.ref b392), (.ref b390)])) (argsL := [(.ref b392)]) (rest := []) (W := 0) (lenOf pd_17 rfl) (hb hby at_252) hml
  obtain ⟨rfl, N471q, e471⟩ := hQ471
  have N471 := Fr.app N449 N471q
  obtain ⟨_, T495, Lc495, X495, hQ495, st495⟩ := own_virtual (y := y_21) X471 hx hZ hown (own_w hw 97 rfl) (own_w hw 98 rfl) (own_w hw 100 rfl) (own_w hw 99 rfl) (own_w hw 45 rfl) (own_w hw 101 rfl) (rm477 l Z a0 hw [] w_CS ca da db dc b337 b338 k339 b387 b388 k389 b390 b392 T449.heap XX449 S_w_CS q449_F_b392_written ((q391_E_b390.ext E392).keep K449q) f472_F_b390_written ((((q386_E_b387.ext E390).keep K391q).ext E392).keep K449q) (f450_F_b387_coder.keep K449q (ninS ne_b387_b392 (nin0))) (f451_F_b387_value.keep K449q (ninS ne_b387_b392 (nin0))) f473_E_b337 f474_F_b337_coder f475_F_b337_value (f452_V_b388.keep K449q (ninS ne_b388_b392 (nin0))) f476_V_b338 (Ne.symm ne_b337_b387) hc1) e471 q449_E_b392 (g := (mkF m 276 (own_T q1 q2 p3 1 ca cb cc 3 da db dc (rv b337) (rv b387) (iv (0 : Int32)) (rv b390) (rv b392) (iv (1 : Int32))) [(.ref b390), (.ref b392)])) (argsL := [(.ref b390)]) (rest := []) (W := 0) (lenOf pd_17 rfl) (hb hby at_276) hml
  obtain ⟨rfl, N495q, e495⟩ := hQ495
  have N495 := Fr.app N471 N495q
  obtain ⟨_, T496, Lc496, X496, hQ496, st496⟩ := own_virtual (y := y_21) X495 hx hZ hown (own_w hw 97 rfl) (own_w hw 98 rfl) (own_w hw 100 rfl) (own_w hw 99 rfl) (own_w hw 45 rfl) (own_w hw 101 rfl) (rm132 l Z a0 hw [] b337 b390 T449.heap XX449 ((q391_E_b390.ext E392).keep K449q) f472_F_b390_written f473_E_b337) e495 ((q391_E_b390.ext E392).keep K449q) (g := (mkF m 300 (own_T q1 q2 p3 1 ca cb cc 3 da db dc (rv b337) (rv b387) (iv (0 : Int32)) (rv b390) (rv b392) (iv (1 : Int32))) [(.ref b390), (.ref b390)])) (argsL := [(.ref b390)]) (rest := []) (W := 0) (lenOf pd_17 rfl) (hb hby at_300) hml
  obtain ⟨rfl, N496q, e496⟩ := hQ496
  have N496 := Fr.app N495 N496q
  obtain ⟨_, T497, Lc497, X497, hQ497, st497⟩ := own_virtual (y := y_21) X496 hx hZ hown (own_w hw 97 rfl) (own_w hw 98 rfl) (own_w hw 100 rfl) (own_w hw 99 rfl) (own_w hw 45 rfl) (own_w hw 101 rfl) (rm140 l Z a0 hw [] b337 b390 T449.heap XX449 f473_E_b337) e496 ((q391_E_b390.ext E392).keep K449q) (g := (mkF m 322 (own_T q1 q2 p3 1 ca cb cc 3 da db dc (rv b337) (rv b387) (iv (0 : Int32)) (rv b390) (rv b392) (iv (1 : Int32))) [(.ref b337), (.ref b390)])) (argsL := [(.ref b337)]) (rest := []) (W := 0) (lenOf pd_17 rfl) (hb hby at_322) hml
  obtain ⟨rfl, N497q, e497⟩ := hQ497
  have N497 := Fr.app N496 N497q
  obtain ⟨_, T498, Lc498, X498, hQ498, st498⟩ := own_virtual (y := y_21) X497 hx hZ hown (own_w hw 97 rfl) (own_w hw 98 rfl) (own_w hw 100 rfl) (own_w hw 99 rfl) (own_w hw 45 rfl) (own_w hw 101 rfl) (rm143 l Z a0 hw [] b390 T449.heap XX449 ) e497 ((q391_E_b390.ext E392).keep K449q) (g := (mkF m 343 (own_T q1 q2 p3 1 ca cb cc 3 da db dc (rv b337) (rv b387) (iv (0 : Int32)) (rv b390) (rv b392) (iv (1 : Int32))) [.null, (.ref b390)])) (argsL := [.null]) (rest := []) (W := 0) (lenOf pd_17 rfl) (hb hby at_343) hml
  obtain ⟨rfl, N498q, e498⟩ := hQ498
  have N498 := Fr.app N497 N498q
  obtain ⟨fs, hr, hrun, hended, hW, hsame⟩ := X498.leave (v := some (.int (1 : Int32))) (fun h => by rw [hret] at h; cases h) hlk
  refine ⟨_, _, ?_, hrun, hended, _, _, rfl, ⟨rfl, N498⟩, ⟨_, rfl⟩, hW, hsame.mono (by decide) (by decide)⟩
  show own_S p e below T0 (mkF m 153 (own_T q1 q2 p3 1 ca cb cc 3 da db dc .unset .unset .unset .unset .unset .unset) []) _
  refine own_i X0 hx hby at_153 ?_
  refine own_i X0 hx hby at_155 ?_
  refine own_i X0 hx hby at_157 ?_
  refine own_i X0 hx hby at_159 ?_
  refine st336 _ ?_
  refine XS.astore X336.here hx rfl (hb hby at_164) rfl rfl (l' := (own_T q1 q2 p3 1 ca cb cc 3 da db dc (rv b337) .unset .unset .unset .unset .unset)) rfl ?_
  refine own_i X336 hx hby at_166 ?_
  refine own_i X336 hx hby at_168 ?_
  refine own_i X336 hx hby at_170 ?_
  refine own_i X336 hx hby at_172 ?_
  refine st386 _ ?_
  refine XS.astore X386.here hx rfl (hb hby at_177) rfl rfl (l' := (own_T q1 q2 p3 1 ca cb cc 3 da db dc (rv b337) (rv b387) .unset .unset .unset .unset)) rfl ?_
  refine own_i X386 hx hby at_179 ?_
  refine own_i X386 hx hby at_181 ?_
  refine own_cy (pc := 183) X386 hx hby at_183 (feq (by decide : ¬ ((1 : Int32) = (3 : Int32)))).2 223 ?_
  refine own_k X386 hx hby at_223 ?_
  refine XS.istore X386.here hx rfl (hb hby at_224) rfl (l' := (own_T q1 q2 p3 1 ca cb cc 3 da db dc (rv b337) (rv b387) (iv (0 : Int32)) .unset .unset .unset)) rfl ?_
  refine st390 _ ?_
  refine XS.dup X390.here hx rfl (hb hby at_229) rfl rfl ?_
  refine own_a X390 hx hby at_230 ?_
  refine st391 _ ?_
  refine XS.astore X391.here hx rfl (hb hby at_235) rfl rfl (l' := (own_T q1 q2 p3 1 ca cb cc 3 da db dc (rv b337) (rv b387) (iv (0 : Int32)) (rv b390) .unset .unset)) rfl ?_
  refine st392 _ ?_
  refine XS.dup X392.here hx rfl (hb hby at_240) rfl rfl ?_
  refine own_a X392 hx hby at_241 ?_
  refine st449 _ ?_
  refine XS.astore X449.here hx rfl (hb hby at_246) rfl rfl (l' := (own_T q1 q2 p3 1 ca cb cc 3 da db dc (rv b337) (rv b387) (iv (0 : Int32)) (rv b390) (rv b392) .unset)) rfl ?_
  refine own_a X449 hx hby at_248 ?_
  refine own_a X449 hx hby at_250 ?_
  refine st471 _ ?_
  refine own_i X471 hx hby at_255 ?_
  refine own_cn X471 hx hby at_257 (teq (rfl : (0 : Int32) = (0 : Int32))).2 ?_
  refine own_k X471 hx hby at_260 ?_
  refine own_go (pc := 261) X471 hx hby at_261 265 ?_
  refine XS.istore X471.here hx rfl (hb hby at_265) rfl (l' := (own_T q1 q2 p3 1 ca cb cc 3 da db dc (rv b337) (rv b387) (iv (0 : Int32)) (rv b390) (rv b392) (iv (1 : Int32)))) rfl ?_
  refine own_i X471 hx hby at_267 ?_
  refine own_in X471 hx hby at_269 (feq (by decide : ¬ ((1 : Int32) = (0 : Int32)))).1 ?_
  refine own_a X471 hx hby at_272 ?_
  refine own_a X471 hx hby at_274 ?_
  refine st495 _ ?_
  refine own_i X495 hx hby at_279 ?_
  refine own_cn X495 hx hby at_281 (teq (rfl : (0 : Int32) = (0 : Int32))).2 ?_
  refine own_k X495 hx hby at_284 ?_
  refine own_go (pc := 285) X495 hx hby at_285 289 ?_
  refine XS.istore X495.here hx rfl (hb hby at_289) rfl (l' := (own_T q1 q2 p3 1 ca cb cc 3 da db dc (rv b337) (rv b387) (iv (0 : Int32)) (rv b390) (rv b392) (iv (1 : Int32)))) rfl ?_
  refine own_i X495 hx hby at_291 ?_
  refine own_in X495 hx hby at_293 (feq (by decide : ¬ ((1 : Int32) = (0 : Int32)))).1 ?_
  refine own_a X495 hx hby at_296 ?_
  refine own_a X495 hx hby at_298 ?_
  refine st496 _ ?_
  refine own_in X496 hx hby at_303 (feq (by decide : ¬ ((1 : Int32) = (0 : Int32)))).1 ?_
  refine own_k X496 hx hby at_306 ?_
  refine own_go (pc := 307) X496 hx hby at_307 311 ?_
  refine XS.istore X496.here hx rfl (hb hby at_311) rfl (l' := (own_T q1 q2 p3 1 ca cb cc 3 da db dc (rv b337) (rv b387) (iv (0 : Int32)) (rv b390) (rv b392) (iv (1 : Int32)))) rfl ?_
  refine own_i X496 hx hby at_313 ?_
  refine own_in X496 hx hby at_315 (feq (by decide : ¬ ((1 : Int32) = (0 : Int32)))).1 ?_
  refine own_a X496 hx hby at_318 ?_
  refine own_a X496 hx hby at_320 ?_
  refine st497 _ ?_
  refine own_in X497 hx hby at_325 (teq (rfl : (0 : Int32) = (0 : Int32))).2 ?_
  refine own_k X497 hx hby at_328 ?_
  refine own_go (pc := 329) X497 hx hby at_329 333 ?_
  refine XS.istore X497.here hx rfl (hb hby at_333) rfl (l' := (own_T q1 q2 p3 1 ca cb cc 3 da db dc (rv b337) (rv b387) (iv (0 : Int32)) (rv b390) (rv b392) (iv (1 : Int32)))) rfl ?_
  refine own_i X497 hx hby at_335 ?_
  refine own_in X497 hx hby at_337 (feq (by decide : ¬ ((1 : Int32) = (0 : Int32)))).1 ?_
  refine own_a X497 hx hby at_340 ?_
  refine XS.aconstNull X497.here hx rfl (hb hby at_342) ?_
  refine st498 _ ?_
  refine own_in X498 hx hby at_346 (teq (rfl : (0 : Int32) = (0 : Int32))).2 ?_
  refine own_k X498 hx hby at_349 ?_
  refine own_go (pc := 350) X498 hx hby at_350 354 ?_
  refine XS.istore X498.here hx rfl (hb hby at_354) rfl (l' := (own_T q1 q2 p3 1 ca cb cc 3 da db dc (rv b337) (rv b387) (iv (0 : Int32)) (rv b390) (rv b392) (iv (1 : Int32)))) rfl ?_
  refine own_i X498 hx hby at_356 ?_
  exact retN X498 hx (t := .boolean) hret (by simp) (hb hby at_358) hr
theorem own_t21 {p : Program} {l : Launch} {e : Env} {s : State} {m : MethodId} {args : Array Value} {below : List Frame} {meth : Method} {c : Code} {T0 : State} {locs : List Loc} (Z : State) (a0 : Array Value) (hw : own_HW Z a0) (w_CS : Int32) (w_SF : Value) (q1 q2 : Int64) (p3 ca cb cc da db dc : Int32) (h0 : Heap) (Z0 : Ext Z.heap h0) (S_w_CS : own_w_CS Z w_CS) (S_w_SF : own_w_SF Z w_SF) (R_w_SF : w_SF.isRef = true) (hc42 : own_ch ca) (hc64 : own_ch cb) (hc1 : ¬ (w_CS = (0 : Int32))) (hc43 : own_ch da) (hc45 : own_low ca) (hc65 : own_aln cb) (hc46 : own_low da) (X0 : Stand p l e room_1 s m args below meth c T0 locs 0 0) (hx : p.tables.exec = Jvm.exec) (hZ : Z.Warmed39 s.vm) (hby : c.code = code) (hml : c.maxLocals = 19) (hown : s.vm.findClass "com/example/faretally/faretally/ReasonEqualsPinLaw" = some m.cls) (e0 : T0.heap = h0) (N0 : Fr Z.heap.size locs) (hret : meth.sig.returnType = some .boolean) (hlk : meth.locks = false) :
    ∃ s₂ o, Steps p.tables e below (T0.setTop (mkF m 153 (own_T q1 q2 p3 2 ca cb cc 1 da db dc .unset .unset .unset .unset .unset .unset) [])) s₂ ∧ s₂.status = .running ∧ Ended s₂ below o ∧ ∃ v L, o = .returned v ∧ (v = some (.int (1 : Int32)) ∧ Fr Z.heap.size L) ∧ FrameEnd s o s₂ L room_1.cells room_1.slots := by
  obtain ⟨_, T499, Lc499, X499, hQ499, st499⟩ := own_static (y := y_7) X0 hx hZ hown (own_w hw 10 rfl) (own_w hw 11 rfl) (own_w hw 4 rfl) (own_w hw 12 rfl) (rm196 l Z a0 hw [] w_CS ca cb cc h0 Z0 S_w_CS hc42 hc64 hc1) e0 (g := (mkF m 161 (own_T q1 q2 p3 2 ca cb cc 1 da db dc .unset .unset .unset .unset .unset .unset) [(.int cc), (.int cb), (.int ca), (.int (2 : Int32))])) (argsL := [(.int (2 : Int32)), (.int ca), (.int cb), (.int cc)]) (rest := []) (W := 0) (lenOf pd_6 rfl) (hb hby at_161) hml
  obtain ⟨b500, b501, k502, rfl, N499q, K499q, szn_b500, szn_b501, q499_E_b500, q499_F_b500_coder, q499_F_b500_value, q499_V_b501⟩ := hQ499
  have g_b500 : Z.heap.size ≤ b500 := Nat.le_trans Z0.1 szn_b500
  have sz_b500 : h0.size ≤ b500 := Nat.le_trans (Keep.refl h0 []).1 szn_b500
  have g_b501 : Z.heap.size ≤ b501 := Nat.le_trans Z0.1 szn_b501
  have sz_b501 : h0.size ≤ b501 := Nat.le_trans (Keep.refl h0 []).1 szn_b501
  have K499 : Keep h0 T499.heap [] := (Keep.refl h0 []).trans K499q all0
  have XX499 : Ext Z.heap T499.heap := own_extK Z0 K499q all0
  have N499 := Fr.app N0 N499q
  obtain ⟨_, T503, Lc503, X503, hQ503, st503⟩ := own_static (y := y_7) X499 hx hZ hown (own_w hw 10 rfl) (own_w hw 11 rfl) (own_w hw 4 rfl) (own_w hw 12 rfl) (rm19 l Z a0 hw [] w_CS da db dc T499.heap XX499 S_w_CS hc43 hc1) rfl (g := (mkF m 174 (own_T q1 q2 p3 2 ca cb cc 1 da db dc (rv b500) .unset .unset .unset .unset .unset) [(.int dc), (.int db), (.int da), (.int (1 : Int32))])) (argsL := [(.int (1 : Int32)), (.int da), (.int db), (.int dc)]) (rest := []) (W := 0) (lenOf pd_6 rfl) (hb hby at_174) hml
  obtain ⟨b504, b505, k506, rfl, N503q, K503q, szn_b504, szn_b505, q503_E_b504, q503_F_b504_coder, q503_F_b504_value, q503_V_b505⟩ := hQ503
  have g_b504 : Z.heap.size ≤ b504 := Nat.le_trans XX499.1 szn_b504
  have sz_b504 : h0.size ≤ b504 := Nat.le_trans K499.1 szn_b504
  have g_b505 : Z.heap.size ≤ b505 := Nat.le_trans XX499.1 szn_b505
  have sz_b505 : h0.size ≤ b505 := Nat.le_trans K499.1 szn_b505
  have K503 : Keep h0 T503.heap [] := K499.trans K503q all0
  have XX503 : Ext Z.heap T503.heap := own_extK XX499 K503q all0
  have N503 := Fr.app N499 N503q
  obtain ⟨T507, h507, X507, e507, E507, A507, D507, -, st507⟩ := newO X503 hx hZ hown (own_w hw 43 rfl) (own_w hw 44 rfl) (own_w hw 45 rfl) rfl (g := (mkF m 226 (own_T q1 q2 p3 2 ca cb cc 1 da db dc (rv b500) (rv b504) (iv (0 : Int32)) .unset .unset .unset) [])) rfl (hb hby at_226) (by decide) (by decide)
  obtain ⟨b507, g507⟩ : ∃ z, z = T503.heap.size := ⟨_, rfl⟩
  rw [← g507] at A507 D507 st507
  have g_b507 : Z.heap.size ≤ b507 := Nat.le_trans XX503.1 (Nat.le_of_eq g507.symm)
  have sz_b507 : h0.size ≤ b507 := Nat.le_trans K503.1 (Nat.le_of_eq g507.symm)
  have F_b507_written : Fld Z h507 b507 "com/example/faretally/faretally/RefundRequest$Involuntary$Reason" "written" "Ljava/lang/String;" .null := D507 (Or.inr (own_w hw 96 rfl)) (ty := (.object "java/lang/String")) (by decide)
  have K507 : Keep h0 h507 [] := K503.ext E507
  have XX507 : Ext Z.heap h507 := own_ext2 XX503 E507
  obtain ⟨_, T508, Lc508, X508, hQ508, st508⟩ := own_special (y := y_18) X507 hx hZ hown rfl (own_w hw 46 rfl) (own_w hw 47 rfl) (own_w hw 45 rfl) (own_w hw 48 rfl) (rm244 l Z a0 hw [] w_CS w_SF ca cb b500 b501 k502 b507 h507 XX507 S_w_CS S_w_SF R_w_SF A507 F_b507_written ((q499_E_b500.keep K503q).ext E507) ((q499_F_b500_coder.keep K503q nin0).ext E507) ((q499_F_b500_value.keep K503q nin0).ext E507) ((q499_V_b501.keep K503q nin0).ext E507) g_b507 hc1 hc42 hc45 hc64 hc65) e507 b507 (g := (mkF m 232 (own_T q1 q2 p3 2 ca cb cc 1 da db dc (rv b500) (rv b504) (iv (0 : Int32)) .unset .unset .unset) [(.ref b500), (.ref b507), (.ref b507)])) (argsL := [(.ref b500)]) (rest := [(.ref b507)]) (W := 1) (lenOf pd_15 rfl) (hb hby at_232) hml
  obtain ⟨rfl, N508q, K508q, q508_E_b507, q508_F_b507_written⟩ := hQ508
  have K508 : Keep h0 T508.heap [] := K507.trans K508q (allS (Or.inr sz_b507) all0)
  have XX508 : Ext Z.heap T508.heap := own_extK XX507 K508q (allS g_b507 all0)
  have N508 := Fr.app N503 N508q
  obtain ⟨T509, h509, X509, e509, E509, A509, D509, -, st509⟩ := newO X508 hx hZ hown (own_w hw 43 rfl) (own_w hw 44 rfl) (own_w hw 45 rfl) rfl (g := (mkF m 237 (own_T q1 q2 p3 2 ca cb cc 1 da db dc (rv b500) (rv b504) (iv (0 : Int32)) (rv b507) .unset .unset) [])) rfl (hb hby at_237) (by decide) (by decide)
  obtain ⟨b509, g509⟩ : ∃ z, z = T508.heap.size := ⟨_, rfl⟩
  rw [← g509] at A509 D509 st509
  have g_b509 : Z.heap.size ≤ b509 := Nat.le_trans XX508.1 (Nat.le_of_eq g509.symm)
  have sz_b509 : h0.size ≤ b509 := Nat.le_trans K508.1 (Nat.le_of_eq g509.symm)
  have F_b509_written : Fld Z h509 b509 "com/example/faretally/faretally/RefundRequest$Involuntary$Reason" "written" "Ljava/lang/String;" .null := D509 (Or.inr (own_w hw 96 rfl)) (ty := (.object "java/lang/String")) (by decide)
  have K509 : Keep h0 h509 [] := K508.ext E509
  have XX509 : Ext Z.heap h509 := own_ext2 XX508 E509
  have ne_b504_b507 : b504 ≠ b507 := Nat.ne_of_lt (Nat.lt_of_lt_of_le q503_E_b504.lt (Nat.le_of_eq g507.symm))
  have f511_F_b504_coder : Fld Z h509 b504 "java/lang/String" "coder" "B" (.int (0 : Int32)) := (((q503_F_b504_coder.ext E507).keep K508q (ninS ne_b504_b507 (nin0))).ext E509)
  have f512_F_b504_value : Fld Z h509 b504 "java/lang/String" "value" "[B" (.ref b505) := (((q503_F_b504_value.ext E507).keep K508q (ninS ne_b504_b507 (nin0))).ext E509)
  have ne_b505_b507 : b505 ≠ b507 := Nat.ne_of_lt (Nat.lt_of_lt_of_le q503_V_b505.lt (Nat.le_of_eq g507.symm))
  have f513_V_b505 : Arv Z h509 b505 k506 .byte (1 : Int32) [(.int (da.toInt8.toInt32))] (.int (0 : Int32)) := (((q503_V_b505.ext E507).keep K508q (ninS ne_b505_b507 (nin0))).ext E509)
  obtain ⟨_, T510, Lc510, X510, hQ510, st510⟩ := own_special (y := y_18) X509 hx hZ hown rfl (own_w hw 46 rfl) (own_w hw 47 rfl) (own_w hw 45 rfl) (own_w hw 48 rfl) (rm62 l Z a0 hw [] w_CS w_SF da b504 b505 k506 b509 h509 XX509 S_w_CS S_w_SF R_w_SF A509 F_b509_written (((q503_E_b504.ext E507).keep K508q).ext E509) f511_F_b504_coder f512_F_b504_value f513_V_b505 g_b509 hc1 hc43 hc46) e509 b509 (g := (mkF m 243 (own_T q1 q2 p3 2 ca cb cc 1 da db dc (rv b500) (rv b504) (iv (0 : Int32)) (rv b507) .unset .unset) [(.ref b504), (.ref b509), (.ref b509)])) (argsL := [(.ref b504)]) (rest := [(.ref b509)]) (W := 1) (lenOf pd_15 rfl) (hb hby at_243) hml
  obtain ⟨rfl, N510q, K510q, q510_E_b509, q510_F_b509_written⟩ := hQ510
  have K510 : Keep h0 T510.heap [] := K509.trans K510q (allS (Or.inr sz_b509) all0)
  have XX510 : Ext Z.heap T510.heap := own_extK XX509 K510q (allS g_b509 all0)
  have N510 := Fr.app N508 N510q
  have ne_b507_b509 : b507 ≠ b509 := Nat.ne_of_lt (Nat.lt_of_lt_of_le q508_E_b507.lt (Nat.le_of_eq g509.symm))
  have f515_F_b507_written : Fld Z T510.heap b507 "com/example/faretally/faretally/RefundRequest$Involuntary$Reason" "written" "Ljava/lang/String;" (.ref b500) := ((q508_F_b507_written.ext E509).keep K510q (ninS ne_b507_b509 (nin0)))
  have f516_E_b500 : Exa Z T510.heap b500 "java/lang/String" := (((((q499_E_b500.keep K503q).ext E507).keep K508q).ext E509).keep K510q)
  have ne_b500_b507 : b500 ≠ b507 := Nat.ne_of_lt (Nat.lt_of_lt_of_le (q499_E_b500.keep K503q).lt (Nat.le_of_eq g507.symm))
  have ne_b500_b509 : b500 ≠ b509 := Nat.ne_of_lt (Nat.lt_of_lt_of_le (((q499_E_b500.keep K503q).ext E507).keep K508q).lt (Nat.le_of_eq g509.symm))
  have f517_F_b500_coder : Fld Z T510.heap b500 "java/lang/String" "coder" "B" (.int (0 : Int32)) := (((((q499_F_b500_coder.keep K503q nin0).ext E507).keep K508q (ninS ne_b500_b507 (nin0))).ext E509).keep K510q (ninS ne_b500_b509 (nin0)))
  have f518_F_b500_value : Fld Z T510.heap b500 "java/lang/String" "value" "[B" (.ref b501) := (((((q499_F_b500_value.keep K503q nin0).ext E507).keep K508q (ninS ne_b500_b507 (nin0))).ext E509).keep K510q (ninS ne_b500_b509 (nin0)))
  have ne_b504_b509 : b504 ≠ b509 := Nat.ne_of_lt (Nat.lt_of_lt_of_le ((q503_E_b504.ext E507).keep K508q).lt (Nat.le_of_eq g509.symm))
  have ne_b501_b507 : b501 ≠ b507 := Nat.ne_of_lt (Nat.lt_of_lt_of_le (q499_V_b501.keep K503q nin0).lt (Nat.le_of_eq g507.symm))
  have ne_b501_b509 : b501 ≠ b509 := Nat.ne_of_lt (Nat.lt_of_lt_of_le (((q499_V_b501.keep K503q nin0).ext E507).keep K508q (ninS ne_b501_b507 (nin0))).lt (Nat.le_of_eq g509.symm))
  have f519_V_b501 : Arv Z T510.heap b501 k502 .byte (2 : Int32) [(.int (ca.toInt8.toInt32)), (.int (cb.toInt8.toInt32))] (.int (0 : Int32)) := (((((q499_V_b501.keep K503q nin0).ext E507).keep K508q (ninS ne_b501_b507 (nin0))).ext E509).keep K510q (ninS ne_b501_b509 (nin0)))
  have ne_b505_b509 : b505 ≠ b509 := Nat.ne_of_lt (Nat.lt_of_lt_of_le ((q503_V_b505.ext E507).keep K508q (ninS ne_b505_b507 (nin0))).lt (Nat.le_of_eq g509.symm))
  have ne_b500_b504 : b500 ≠ b504 := Nat.ne_of_lt (Nat.lt_of_lt_of_le q499_E_b500.lt szn_b504)
  obtain ⟨_, T514, Lc514, X514, hQ514, st514⟩ := own_virtual (y := y_21) X510 hx hZ hown (own_w hw 97 rfl) (own_w hw 98 rfl) (own_w hw 100 rfl) (own_w hw 99 rfl) (own_w hw 45 rfl) (own_w hw 101 rfl) (rm314 l Z a0 hw [] w_CS da ca cb b504 b505 k506 b500 b501 k502 b509 b507 T510.heap XX510 S_w_CS f515_F_b507_written q510_E_b509 q510_F_b509_written f516_E_b500 f517_F_b500_coder f518_F_b500_value ((((q503_E_b504.ext E507).keep K508q).ext E509).keep K510q) (f511_F_b504_coder.keep K510q (ninS ne_b504_b509 (nin0))) (f512_F_b504_value.keep K510q (ninS ne_b504_b509 (nin0))) f519_V_b501 (f513_V_b505.keep K510q (ninS ne_b505_b509 (nin0))) ne_b500_b504 hc1) rfl ((q508_E_b507.ext E509).keep K510q) (g := (mkF m 252 (own_T q1 q2 p3 2 ca cb cc 1 da db dc (rv b500) (rv b504) (iv (0 : Int32)) (rv b507) (rv b509) .unset) [(.ref b509), (.ref b507)])) (argsL := [(.ref b509)]) (rest := []) (W := 0) (lenOf pd_17 rfl) (hb hby at_252) hml
  obtain ⟨rfl, N514q, e514⟩ := hQ514
  have N514 := Fr.app N510 N514q
  obtain ⟨_, T520, Lc520, X520, hQ520, st520⟩ := own_virtual (y := y_21) X514 hx hZ hown (own_w hw 97 rfl) (own_w hw 98 rfl) (own_w hw 100 rfl) (own_w hw 99 rfl) (own_w hw 45 rfl) (own_w hw 101 rfl) (rm290 l Z a0 hw [] w_CS da ca cb b504 b505 k506 b500 b501 k502 b509 b507 T510.heap XX510 S_w_CS q510_F_b509_written ((q508_E_b507.ext E509).keep K510q) f515_F_b507_written ((((q503_E_b504.ext E507).keep K508q).ext E509).keep K510q) (f511_F_b504_coder.keep K510q (ninS ne_b504_b509 (nin0))) (f512_F_b504_value.keep K510q (ninS ne_b504_b509 (nin0))) f516_E_b500 f517_F_b500_coder f518_F_b500_value (f513_V_b505.keep K510q (ninS ne_b505_b509 (nin0))) f519_V_b501 (Ne.symm ne_b500_b504) hc1) e514 q510_E_b509 (g := (mkF m 276 (own_T q1 q2 p3 2 ca cb cc 1 da db dc (rv b500) (rv b504) (iv (0 : Int32)) (rv b507) (rv b509) (iv (1 : Int32))) [(.ref b507), (.ref b509)])) (argsL := [(.ref b507)]) (rest := []) (W := 0) (lenOf pd_17 rfl) (hb hby at_276) hml
  obtain ⟨rfl, N520q, e520⟩ := hQ520
  have N520 := Fr.app N514 N520q
  obtain ⟨_, T521, Lc521, X521, hQ521, st521⟩ := own_virtual (y := y_21) X520 hx hZ hown (own_w hw 97 rfl) (own_w hw 98 rfl) (own_w hw 100 rfl) (own_w hw 99 rfl) (own_w hw 45 rfl) (own_w hw 101 rfl) (rm132 l Z a0 hw [] b500 b507 T510.heap XX510 ((q508_E_b507.ext E509).keep K510q) f515_F_b507_written f516_E_b500) e520 ((q508_E_b507.ext E509).keep K510q) (g := (mkF m 300 (own_T q1 q2 p3 2 ca cb cc 1 da db dc (rv b500) (rv b504) (iv (0 : Int32)) (rv b507) (rv b509) (iv (1 : Int32))) [(.ref b507), (.ref b507)])) (argsL := [(.ref b507)]) (rest := []) (W := 0) (lenOf pd_17 rfl) (hb hby at_300) hml
  obtain ⟨rfl, N521q, e521⟩ := hQ521
  have N521 := Fr.app N520 N521q
  obtain ⟨_, T522, Lc522, X522, hQ522, st522⟩ := own_virtual (y := y_21) X521 hx hZ hown (own_w hw 97 rfl) (own_w hw 98 rfl) (own_w hw 100 rfl) (own_w hw 99 rfl) (own_w hw 45 rfl) (own_w hw 101 rfl) (rm140 l Z a0 hw [] b500 b507 T510.heap XX510 f516_E_b500) e521 ((q508_E_b507.ext E509).keep K510q) (g := (mkF m 322 (own_T q1 q2 p3 2 ca cb cc 1 da db dc (rv b500) (rv b504) (iv (0 : Int32)) (rv b507) (rv b509) (iv (1 : Int32))) [(.ref b500), (.ref b507)])) (argsL := [(.ref b500)]) (rest := []) (W := 0) (lenOf pd_17 rfl) (hb hby at_322) hml
  obtain ⟨rfl, N522q, e522⟩ := hQ522
  have N522 := Fr.app N521 N522q
  obtain ⟨_, T523, Lc523, X523, hQ523, st523⟩ := own_virtual (y := y_21) X522 hx hZ hown (own_w hw 97 rfl) (own_w hw 98 rfl) (own_w hw 100 rfl) (own_w hw 99 rfl) (own_w hw 45 rfl) (own_w hw 101 rfl) (rm143 l Z a0 hw [] b507 T510.heap XX510 ) e522 ((q508_E_b507.ext E509).keep K510q) (g := (mkF m 343 (own_T q1 q2 p3 2 ca cb cc 1 da db dc (rv b500) (rv b504) (iv (0 : Int32)) (rv b507) (rv b509) (iv (1 : Int32))) [.null, (.ref b507)])) (argsL := [.null]) (rest := []) (W := 0) (lenOf pd_17 rfl) (hb hby at_343) hml
  obtain ⟨rfl, N523q, e523⟩ := hQ523
  have N523 := Fr.app N522 N523q
  obtain ⟨fs, hr, hrun, hended, hW, hsame⟩ := X523.leave (v := some (.int (1 : Int32))) (fun h => by rw [hret] at h; cases h) hlk
  refine ⟨_, _, ?_, hrun, hended, _, _, rfl, ⟨rfl, N523⟩, ⟨_, rfl⟩, hW, hsame.mono (by decide) (by decide)⟩
  show own_S p e below T0 (mkF m 153 (own_T q1 q2 p3 2 ca cb cc 1 da db dc .unset .unset .unset .unset .unset .unset) []) _
  refine own_i X0 hx hby at_153 ?_
  refine own_i X0 hx hby at_155 ?_
  refine own_i X0 hx hby at_157 ?_
  refine own_i X0 hx hby at_159 ?_
  refine st499 _ ?_
  refine XS.astore X499.here hx rfl (hb hby at_164) rfl rfl (l' := (own_T q1 q2 p3 2 ca cb cc 1 da db dc (rv b500) .unset .unset .unset .unset .unset)) rfl ?_
  refine own_i X499 hx hby at_166 ?_
  refine own_i X499 hx hby at_168 ?_
  refine own_i X499 hx hby at_170 ?_
  refine own_i X499 hx hby at_172 ?_
  refine st503 _ ?_
  refine XS.astore X503.here hx rfl (hb hby at_177) rfl rfl (l' := (own_T q1 q2 p3 2 ca cb cc 1 da db dc (rv b500) (rv b504) .unset .unset .unset .unset)) rfl ?_
  refine own_i X503 hx hby at_179 ?_
  refine own_i X503 hx hby at_181 ?_
  refine own_cy (pc := 183) X503 hx hby at_183 (feq (by decide : ¬ ((2 : Int32) = (1 : Int32)))).2 223 ?_
  refine own_k X503 hx hby at_223 ?_
  refine XS.istore X503.here hx rfl (hb hby at_224) rfl (l' := (own_T q1 q2 p3 2 ca cb cc 1 da db dc (rv b500) (rv b504) (iv (0 : Int32)) .unset .unset .unset)) rfl ?_
  refine st507 _ ?_
  refine XS.dup X507.here hx rfl (hb hby at_229) rfl rfl ?_
  refine own_a X507 hx hby at_230 ?_
  refine st508 _ ?_
  refine XS.astore X508.here hx rfl (hb hby at_235) rfl rfl (l' := (own_T q1 q2 p3 2 ca cb cc 1 da db dc (rv b500) (rv b504) (iv (0 : Int32)) (rv b507) .unset .unset)) rfl ?_
  refine st509 _ ?_
  refine XS.dup X509.here hx rfl (hb hby at_240) rfl rfl ?_
  refine own_a X509 hx hby at_241 ?_
  refine st510 _ ?_
  refine XS.astore X510.here hx rfl (hb hby at_246) rfl rfl (l' := (own_T q1 q2 p3 2 ca cb cc 1 da db dc (rv b500) (rv b504) (iv (0 : Int32)) (rv b507) (rv b509) .unset)) rfl ?_
  refine own_a X510 hx hby at_248 ?_
  refine own_a X510 hx hby at_250 ?_
  refine st514 _ ?_
  refine own_i X514 hx hby at_255 ?_
  refine own_cn X514 hx hby at_257 (teq (rfl : (0 : Int32) = (0 : Int32))).2 ?_
  refine own_k X514 hx hby at_260 ?_
  refine own_go (pc := 261) X514 hx hby at_261 265 ?_
  refine XS.istore X514.here hx rfl (hb hby at_265) rfl (l' := (own_T q1 q2 p3 2 ca cb cc 1 da db dc (rv b500) (rv b504) (iv (0 : Int32)) (rv b507) (rv b509) (iv (1 : Int32)))) rfl ?_
  refine own_i X514 hx hby at_267 ?_
  refine own_in X514 hx hby at_269 (feq (by decide : ¬ ((1 : Int32) = (0 : Int32)))).1 ?_
  refine own_a X514 hx hby at_272 ?_
  refine own_a X514 hx hby at_274 ?_
  refine st520 _ ?_
  refine own_i X520 hx hby at_279 ?_
  refine own_cn X520 hx hby at_281 (teq (rfl : (0 : Int32) = (0 : Int32))).2 ?_
  refine own_k X520 hx hby at_284 ?_
  refine own_go (pc := 285) X520 hx hby at_285 289 ?_
  refine XS.istore X520.here hx rfl (hb hby at_289) rfl (l' := (own_T q1 q2 p3 2 ca cb cc 1 da db dc (rv b500) (rv b504) (iv (0 : Int32)) (rv b507) (rv b509) (iv (1 : Int32)))) rfl ?_
  refine own_i X520 hx hby at_291 ?_
  refine own_in X520 hx hby at_293 (feq (by decide : ¬ ((1 : Int32) = (0 : Int32)))).1 ?_
  refine own_a X520 hx hby at_296 ?_
  refine own_a X520 hx hby at_298 ?_
  refine st521 _ ?_
  refine own_in X521 hx hby at_303 (feq (by decide : ¬ ((1 : Int32) = (0 : Int32)))).1 ?_
  refine own_k X521 hx hby at_306 ?_
  refine own_go (pc := 307) X521 hx hby at_307 311 ?_
  refine XS.istore X521.here hx rfl (hb hby at_311) rfl (l' := (own_T q1 q2 p3 2 ca cb cc 1 da db dc (rv b500) (rv b504) (iv (0 : Int32)) (rv b507) (rv b509) (iv (1 : Int32)))) rfl ?_
  refine own_i X521 hx hby at_313 ?_
  refine own_in X521 hx hby at_315 (feq (by decide : ¬ ((1 : Int32) = (0 : Int32)))).1 ?_
  refine own_a X521 hx hby at_318 ?_
  refine own_a X521 hx hby at_320 ?_
  refine st522 _ ?_
  refine own_in X522 hx hby at_325 (teq (rfl : (0 : Int32) = (0 : Int32))).2 ?_
  refine own_k X522 hx hby at_328 ?_
  refine own_go (pc := 329) X522 hx hby at_329 333 ?_
  refine XS.istore X522.here hx rfl (hb hby at_333) rfl (l' := (own_T q1 q2 p3 2 ca cb cc 1 da db dc (rv b500) (rv b504) (iv (0 : Int32)) (rv b507) (rv b509) (iv (1 : Int32)))) rfl ?_
  refine own_i X522 hx hby at_335 ?_
  refine own_in X522 hx hby at_337 (feq (by decide : ¬ ((1 : Int32) = (0 : Int32)))).1 ?_
  refine own_a X522 hx hby at_340 ?_
  refine XS.aconstNull X522.here hx rfl (hb hby at_342) ?_
  refine st523 _ ?_
  refine own_in X523 hx hby at_346 (teq (rfl : (0 : Int32) = (0 : Int32))).2 ?_
  refine own_k X523 hx hby at_349 ?_
  refine own_go (pc := 350) X523 hx hby at_350 354 ?_
  refine XS.istore X523.here hx rfl (hb hby at_354) rfl (l' := (own_T q1 q2 p3 2 ca cb cc 1 da db dc (rv b500) (rv b504) (iv (0 : Int32)) (rv b507) (rv b509) (iv (1 : Int32)))) rfl ?_
  refine own_i X523 hx hby at_356 ?_
  exact retN X523 hx (t := .boolean) hret (by simp) (hb hby at_358) hr
def Qrm552 (Z : State) (ca cb da db : Int32) (b526 : Addr) (k527 : ClassId) (b530 : Addr) (k531 : ClassId) (h0 : Heap) (v : Option Value) (h : Heap) (L : List Loc) : Prop := v = some (.int (0 : Int32)) ∧ Fr Z.heap.size L ∧ h = h0
theorem rm552 (l : Launch) (Z : State) (a0 : Array Value) (hw : own_HW Z a0) (ws : List Jvm.Cond) (ca cb da db : Int32) (b526 : Addr) (k527 : ClassId) (b530 : Addr) (k531 : ClassId) (h0 : Heap) (Z0 : Ext Z.heap h0) (V_b526 : Arv Z h0 b526 k527 .byte (2 : Int32) [(.int (ca.toInt8.toInt32)), (.int (cb.toInt8.toInt32))] (.int (0 : Int32))) (V_b530 : Arv Z h0 b530 k531 .byte (2 : Int32) [(.int (da.toInt8.toInt32)), (.int (db.toInt8.toInt32))] (.int (0 : Int32))) (hc48 : ¬ ((ca.toInt8.toInt32) = (da.toInt8.toInt32))) :
    own_met l y_19 jdk_43_method_13_code 3 (some .boolean) ws ({ frames := 0, cells := 0, slots := 0, locals := 0 } : Room) Z #[(.ref b526), (.ref b530)] h0 (Qrm552 Z ca cb da db b526 k527 b530 k531 h0) := by
  refine own_start (plainFor_of_name pn_5) (fun m => ef_jdk_43_method_13_RR m b526 b530) ?_
  intro p e s m below meth c s₁ hx hby hml hown hnm X0 hZ e0 hret hlk
  have N0 := Fr.nil Z.heap.size
  obtain ⟨cl553, Ar553, q553, S553, Nn553, H553, G553⟩ := id V_b526
  obtain ⟨cl554, Ar554, q554, S554, Nn554, H554, G554⟩ := id V_b530
  obtain ⟨cl555, Ar555, q555, S555, Nn555, H555, G555⟩ := id V_b526
  obtain ⟨cl556, Ar556, q556, S556, Nn556, H556, G556⟩ := id V_b526
  have hin556 : ¬ ((0 : Int32) < 0 ∨ cl556.slots.size ≤ ((0 : Int32)).toNatClampNeg) := inb_of S556 ⟨by decide, by decide⟩
  have hat556 : cl556.slots[((0 : Int32)).toNatClampNeg]? = some (.int (ca.toInt8.toInt32)) := Has.at H556 hin556 rfl
  obtain ⟨cl557, Ar557, q557, S557, Nn557, H557, G557⟩ := id V_b530
  have hin557 : ¬ ((0 : Int32) < 0 ∨ cl557.slots.size ≤ ((0 : Int32)).toNatClampNeg) := inb_of S557 ⟨by decide, by decide⟩
  have hat557 : cl557.slots[((0 : Int32)).toNatClampNeg]? = some (.int (da.toInt8.toInt32)) := Has.at H557 hin557 rfl
  obtain ⟨fs, hr, hrun, hended, hW, hsame⟩ := X0.leave (v := some (.int (0 : Int32))) (fun h => by rw [hret] at h; cases h) hlk
  refine ⟨_, _, ?_, hrun, hended, _, _, rfl, ?_, ⟨_, rfl⟩, hW, hsame.mono (by decide) (by decide)⟩
  · show own_S p e below s₁ (mkF m 0 #[rv b526, rv b530, .unset] []) _
    refine own_aN X0 hx hby d23_0 ?_
    refine X0.arraylength hx (by rw [e0]; exact Ar553.1) (State.isArrayOf_alike hZ.alike Ar553.2.1) (g := (mkF m 1 #[rv b526, rv b530, .unset] [(.ref b526)])) rfl rfl (hb hby d23_1) _ ?_
    rw [len_of S553 Nn553]
    refine own_aN X0 hx hby d23_2 ?_
    refine X0.arraylength hx (by rw [e0]; exact Ar554.1) (State.isArrayOf_alike hZ.alike Ar554.2.1) (g := (mkF m 3 #[rv b526, rv b530, .unset] [(.ref b530), (.int (2 : Int32))])) rfl rfl (hb hby d23_3) _ ?_
    rw [len_of S554 Nn554]
    refine own_cn X0 hx hby d23_4 (teq (rfl : (2 : Int32) = (2 : Int32))).2 ?_
    refine own_k X0 hx hby d23_7 ?_
    refine XS.istoreN X0.here hx rfl (hb hby d23_8) rfl (l' := #[rv b526, rv b530, iv (0 : Int32)]) rfl ?_
    refine own_iN X0 hx hby d23_9 ?_
    refine own_aN X0 hx hby d23_10 ?_
    refine X0.arraylength hx (by rw [e0]; exact Ar555.1) (State.isArrayOf_alike hZ.alike Ar555.2.1) (g := (mkF m 11 #[rv b526, rv b530, iv (0 : Int32)] [(.ref b526), (.int (0 : Int32))])) rfl rfl (hb hby d23_11) _ ?_
    rw [len_of S555 Nn555]
    refine own_cn X0 hx hby d23_12 (tlt (by decide : (0 : Int32) < (2 : Int32))).2.1 ?_
    refine own_aN X0 hx hby d23_15 ?_
    refine own_iN X0 hx hby d23_16 ?_
    refine X0.baloadBytes hx (j := (0 : Int32)) (v := (.int (ca.toInt8.toInt32))) (by rw [e0]; exact Ar556.1) (State.isArrayOf_alike hZ.alike Ar556.2.1) Ar556.2.2 hin556 hat556 (g := (mkF m 17 #[rv b526, rv b530, iv (0 : Int32)] [(.int (0 : Int32)), (.ref b526)])) rfl rfl (hb hby d23_17) _ ?_
    refine own_aN X0 hx hby d23_18 ?_
    refine own_iN X0 hx hby d23_19 ?_
    refine X0.baloadBytes hx (j := (0 : Int32)) (v := (.int (da.toInt8.toInt32))) (by rw [e0]; exact Ar557.1) (State.isArrayOf_alike hZ.alike Ar557.2.1) Ar557.2.2 hin557 hat557 (g := (mkF m 20 #[rv b526, rv b530, iv (0 : Int32)] [(.int (0 : Int32)), (.ref b530), (.int (ca.toInt8.toInt32))])) rfl rfl (hb hby d23_20) _ ?_
    refine own_cn X0 hx hby d23_21 (feq hc48).1 ?_
    refine own_k X0 hx hby d23_24 ?_
    exact retN X0 hx (t := .boolean) hret (by simp) (hb hby d23_25) hr
  · show Qrm552 Z ca cb da db b526 k527 b530 k531 h0 _ s₁.heap _
    rw [e0]
    exact ⟨rfl, N0, rfl⟩
def Qrm544 (Z : State) (w_CS ca cb da db : Int32) (b525 b526 : Addr) (k527 : ClassId) (b529 b530 : Addr) (k531 : ClassId) (h0 : Heap) (v : Option Value) (h : Heap) (L : List Loc) : Prop := v = some (.int (0 : Int32)) ∧ Fr Z.heap.size L ∧ h = h0
theorem rm544 (l : Launch) (Z : State) (a0 : Array Value) (hw : own_HW Z a0) (ws : List Jvm.Cond) (w_CS ca cb da db : Int32) (b525 b526 : Addr) (k527 : ClassId) (b529 b530 : Addr) (k531 : ClassId) (h0 : Heap) (Z0 : Ext Z.heap h0) (S_w_CS : own_w_CS Z w_CS) (F_b525_coder : Fld Z h0 b525 "java/lang/String" "coder" "B" (.int (0 : Int32))) (F_b525_value : Fld Z h0 b525 "java/lang/String" "value" "[B" (.ref b526)) (E_b529 : Exa Z h0 b529 "java/lang/String") (F_b529_coder : Fld Z h0 b529 "java/lang/String" "coder" "B" (.int (0 : Int32))) (F_b529_value : Fld Z h0 b529 "java/lang/String" "value" "[B" (.ref b530)) (V_b526 : Arv Z h0 b526 k527 .byte (2 : Int32) [(.int (ca.toInt8.toInt32)), (.int (cb.toInt8.toInt32))] (.int (0 : Int32))) (V_b530 : Arv Z h0 b530 k531 .byte (2 : Int32) [(.int (da.toInt8.toInt32)), (.int (db.toInt8.toInt32))] (.int (0 : Int32))) (hc66 : b525 ≠ b529) (hc1 : ¬ (w_CS = (0 : Int32))) (hc48 : ¬ ((ca.toInt8.toInt32) = (da.toInt8.toInt32))) :
    own_met l y_20 jdk_42_method_66_code 3 (some .boolean) ws ({ frames := 1, cells := 0, slots := 0, locals := 14 } : Room) Z #[(.ref b525), (.ref b529)] h0 (Qrm544 Z w_CS ca cb da db b525 b526 k527 b529 b530 k531 h0) := by
  refine own_start (plainFor_of_name pn_2) (fun m => ef_jdk_42_method_66_RR m b525 b529) ?_
  intro p e s m below meth c s₁ hx hby hml hown hnm X0 hZ e0 hret hlk
  have N0 := Fr.nil Z.heap.size
  obtain ⟨T545, X545, e545, st545⟩ := instY X0 hx hZ hown (own_w hw 109 rfl) e0 (Ins.self E_b529) (g := (mkF m 8 #[rv b525, rv b529, .unset] [(.ref b529)])) rfl rfl (hb hby d22_8)
  obtain ⟨T546, X546, e546, st546⟩ := castY X545 hx hZ hown (own_w hw 109 rfl) e545 (Ins.self E_b529) (g := (mkF m 15 #[rv b525, rv b529, .unset] [(.ref b529)])) rfl rfl (hb hby d22_15)
  obtain ⟨T547, X547, e547, st547⟩ := getS2 X546 hx hZ hown (host := "") (Or.inl (own_w hw 27 rfl)) Via.refl e546 (S_w_CS.ext Z0) (g := (mkF m 19 #[rv b525, rv b529, rv b529] [])) rfl (hb hby d22_19)
  obtain ⟨T548, X548, e548, st548⟩ := getF X547 hx hZ hown (host := "") (Or.inl (own_w hw 39 rfl)) Via.refl e547 F_b525_coder (g := (mkF m 26 #[rv b525, rv b529, rv b529] [(.ref b525)])) rfl rfl (hb hby d22_26)
  obtain ⟨T549, X549, e549, st549⟩ := getF X548 hx hZ hown (host := "") (Or.inl (own_w hw 39 rfl)) Via.refl e548 F_b529_coder (g := (mkF m 30 #[rv b525, rv b529, rv b529] [(.ref b529), (.int (0 : Int32))])) rfl rfl (hb hby d22_30)
  obtain ⟨T550, X550, e550, st550⟩ := getF X549 hx hZ hown (host := "") (Or.inl (own_w hw 41 rfl)) Via.refl e549 F_b525_value (g := (mkF m 37 #[rv b525, rv b529, rv b529] [(.ref b525)])) rfl rfl (hb hby d22_37)
  obtain ⟨T551, X551, e551, st551⟩ := getF X550 hx hZ hown (host := "") (Or.inl (own_w hw 41 rfl)) Via.refl e550 F_b529_value (g := (mkF m 41 #[rv b525, rv b529, rv b529] [(.ref b529), (.ref b526)])) rfl rfl (hb hby d22_41)
  obtain ⟨_, T558, Lc558, X558, hQ558, st558⟩ := own_static (y := y_19) X551 hx hZ hown (own_w hw 110 rfl) (own_w hw 111 rfl) (own_w hw 75 rfl) (own_w hw 112 rfl) (rm552 l Z a0 hw [] ca cb da db b526 k527 b530 k531 h0 Z0 V_b526 V_b530 hc48) e551 (g := (mkF m 44 #[rv b525, rv b529, rv b529] [(.ref b530), (.ref b526)])) (argsL := [(.ref b526), (.ref b530)]) (rest := []) (W := 0) (lenOf pd_16 rfl) (hb hby d22_44) hml
  obtain ⟨rfl, N558q, e558⟩ := hQ558
  have N558 := Fr.app N0 N558q
  obtain ⟨fs, hr, hrun, hended, hW, hsame⟩ := X558.leave (v := some (.int (0 : Int32))) (fun h => by rw [hret] at h; cases h) hlk
  refine ⟨_, _, ?_, hrun, hended, _, _, rfl, ?_, ⟨_, rfl⟩, hW, hsame.mono (by decide) (by decide)⟩
  · show own_S p e below s₁ (mkF m 0 #[rv b525, rv b529, .unset] []) _
    refine own_aN X0 hx hby d22_0 ?_
    refine own_aN X0 hx hby d22_1 ?_
    refine Jvm.RoadKit.acmp (g := (mkF m 2 #[rv b525, rv b529, .unset] [(.ref b529), (.ref b525)])) X0 hx rfl rfl rfl (pc0 := 2) (pc' := 7) (same := false) rfl (hb hby d22_2) rfl (decide_eq_false fun q => hc66 (Value.ref.inj q)) (by decide) (by decide) ?_
    refine own_aN X0 hx hby d22_7 ?_
    refine st545 _ ?_
    refine own_in X545 hx hby d22_11 (feq (by decide : ¬ ((1 : Int32) = (0 : Int32)))).1 ?_
    refine own_aN X545 hx hby d22_14 ?_
    refine st546 _ ?_
    refine XS.astoreN X546.here hx rfl (hb hby d22_18) rfl rfl (l' := #[rv b525, rv b529, rv b529]) rfl ?_
    refine st547 _ ?_
    refine own_in X547 hx hby d22_22 (feq hc1).1 ?_
    refine own_aN X547 hx hby d22_25 ?_
    refine st548 _ ?_
    refine own_aN X548 hx hby d22_29 ?_
    refine st549 _ ?_
    refine own_cn X549 hx hby d22_33 (teq (rfl : (0 : Int32) = (0 : Int32))).2 ?_
    refine own_aN X549 hx hby d22_36 ?_
    refine st550 _ ?_
    refine own_aN X550 hx hby d22_40 ?_
    refine st551 _ ?_
    refine st558 _ ?_
    refine own_iy (pc := 47) X558 hx hby d22_47 (teq (rfl : (0 : Int32) = (0 : Int32))).1 54 ?_
    refine own_k X558 hx hby d22_54 ?_
    exact retN X558 hx (t := .boolean) hret (by simp) (hb hby d22_55) hr
  · show Qrm544 Z w_CS ca cb da db b525 b526 k527 b529 b530 k531 h0 _ T558.heap _
    rw [e558]
    exact ⟨rfl, N558, rfl⟩
def Qrm539 (Z : State) (w_CS ca cb da db : Int32) (b525 b526 : Addr) (k527 : ClassId) (b529 b530 : Addr) (k531 : ClassId) (b532 b534 : Addr) (h0 : Heap) (v : Option Value) (h : Heap) (L : List Loc) : Prop := v = some (.int (0 : Int32)) ∧ Fr Z.heap.size L ∧ h = h0
theorem rm539 (l : Launch) (Z : State) (a0 : Array Value) (hw : own_HW Z a0) (ws : List Jvm.Cond) (w_CS ca cb da db : Int32) (b525 b526 : Addr) (k527 : ClassId) (b529 b530 : Addr) (k531 : ClassId) (b532 b534 : Addr) (h0 : Heap) (Z0 : Ext Z.heap h0) (S_w_CS : own_w_CS Z w_CS) (F_b532_written : Fld Z h0 b532 "com/example/faretally/faretally/RefundRequest$Involuntary$Reason" "written" "Ljava/lang/String;" (.ref b525)) (E_b534 : Exa Z h0 b534 "com/example/faretally/faretally/RefundRequest$Involuntary$Reason") (F_b534_written : Fld Z h0 b534 "com/example/faretally/faretally/RefundRequest$Involuntary$Reason" "written" "Ljava/lang/String;" (.ref b529)) (E_b525 : Exa Z h0 b525 "java/lang/String") (F_b525_coder : Fld Z h0 b525 "java/lang/String" "coder" "B" (.int (0 : Int32))) (F_b525_value : Fld Z h0 b525 "java/lang/String" "value" "[B" (.ref b526)) (E_b529 : Exa Z h0 b529 "java/lang/String") (F_b529_coder : Fld Z h0 b529 "java/lang/String" "coder" "B" (.int (0 : Int32))) (F_b529_value : Fld Z h0 b529 "java/lang/String" "value" "[B" (.ref b530)) (V_b526 : Arv Z h0 b526 k527 .byte (2 : Int32) [(.int (ca.toInt8.toInt32)), (.int (cb.toInt8.toInt32))] (.int (0 : Int32))) (V_b530 : Arv Z h0 b530 k531 .byte (2 : Int32) [(.int (da.toInt8.toInt32)), (.int (db.toInt8.toInt32))] (.int (0 : Int32))) (hc66 : b525 ≠ b529) (hc1 : ¬ (w_CS = (0 : Int32))) (hc48 : ¬ ((ca.toInt8.toInt32) = (da.toInt8.toInt32))) :
    own_met l y_21 prog_97_method_3_code 3 (some .boolean) ws ({ frames := 2, cells := 0, slots := 0, locals := 28 } : Room) Z #[(.ref b532), (.ref b534)] h0 (Qrm539 Z w_CS ca cb da db b525 b526 k527 b529 b530 k531 b532 b534 h0) := by
  refine own_start (plainFor_of_name pn_6) (fun m => ef_prog_97_method_3_RR m b532 b534) ?_
  intro p e s m below meth c s₁ hx hby hml hown hnm X0 hZ e0 hret hlk
  have N0 := Fr.nil Z.heap.size
  obtain ⟨T540, X540, e540, st540⟩ := instY X0 hx hZ hown (own_w hw 102 rfl) e0 (Ins.self E_b534) (g := (mkF m 1 #[rv b532, rv b534, .unset] [(.ref b534)])) rfl rfl (hb hby d21_1)
  obtain ⟨T541, X541, e541, st541⟩ := castY X540 hx hZ hown (own_w hw 102 rfl) e540 (Ins.self E_b534) (g := (mkF m 8 #[rv b532, rv b534, .unset] [(.ref b534)])) rfl rfl (hb hby d21_8)
  obtain ⟨T542, X542, e542, st542⟩ := getF X541 hx hZ hown (host := "") (Or.inl (own_w hw 95 rfl)) Via.refl e541 F_b532_written (g := (mkF m 13 #[rv b532, rv b534, rv b534] [(.ref b532)])) rfl rfl (hb hby d21_13)
  obtain ⟨T543, X543, e543, st543⟩ := getF X542 hx hZ hown (host := "") (Or.inl (own_w hw 95 rfl)) Via.refl e542 F_b534_written (g := (mkF m 17 #[rv b532, rv b534, rv b534] [(.ref b534), (.ref b525)])) rfl rfl (hb hby d21_17)
  obtain ⟨_, T559, Lc559, X559, hQ559, st559⟩ := own_virtual (y := y_20) X543 hx hZ hown (own_w hw 104 rfl) (own_w hw 105 rfl) (own_w hw 107 rfl) (own_w hw 106 rfl) (own_w hw 15 rfl) (own_w hw 108 rfl) (rm544 l Z a0 hw [] w_CS ca cb da db b525 b526 k527 b529 b530 k531 h0 Z0 S_w_CS F_b525_coder F_b525_value E_b529 F_b529_coder F_b529_value V_b526 V_b530 hc66 hc1 hc48) e543 E_b525 (g := (mkF m 20 #[rv b532, rv b534, rv b534] [(.ref b529), (.ref b525)])) (argsL := [(.ref b529)]) (rest := []) (W := 0) (lenOf pd_17 rfl) (hb hby d21_20) hml
  obtain ⟨rfl, N559q, e559⟩ := hQ559
  have N559 := Fr.app N0 N559q
  obtain ⟨fs, hr, hrun, hended, hW, hsame⟩ := X559.leave (v := some (.int (0 : Int32))) (fun h => by rw [hret] at h; cases h) hlk
  refine ⟨_, _, ?_, hrun, hended, _, _, rfl, ?_, ⟨_, rfl⟩, hW, hsame.mono (by decide) (by decide)⟩
  · show own_S p e below s₁ (mkF m 0 #[rv b532, rv b534, .unset] []) _
    refine own_aN X0 hx hby d21_0 ?_
    refine st540 _ ?_
    refine own_in X540 hx hby d21_4 (feq (by decide : ¬ ((1 : Int32) = (0 : Int32)))).1 ?_
    refine own_aN X540 hx hby d21_7 ?_
    refine st541 _ ?_
    refine XS.astoreN X541.here hx rfl (hb hby d21_11) rfl rfl (l' := #[rv b532, rv b534, rv b534]) rfl ?_
    refine own_aN X541 hx hby d21_12 ?_
    refine st542 _ ?_
    refine own_aN X542 hx hby d21_16 ?_
    refine st543 _ ?_
    refine st559 _ ?_
    refine own_iy (pc := 23) X559 hx hby d21_23 (teq (rfl : (0 : Int32) = (0 : Int32))).1 30 ?_
    refine own_k X559 hx hby d21_30 ?_
    exact retN X559 hx (t := .boolean) hret (by simp) (hb hby d21_31) hr
  · show Qrm539 Z w_CS ca cb da db b525 b526 k527 b529 b530 k531 b532 b534 h0 _ T559.heap _
    rw [e559]
    exact ⟨rfl, N559, rfl⟩
theorem own_t22_0 {p : Program} {l : Launch} {e : Env} {s : State} {m : MethodId} {args : Array Value} {below : List Frame} {meth : Method} {c : Code} {T0 : State} {locs : List Loc} (Z : State) (a0 : Array Value) (hw : own_HW Z a0) (w_CS : Int32) (w_SF : Value) (q1 q2 : Int64) (p3 ca cb cc da db dc : Int32) (h0 : Heap) (Z0 : Ext Z.heap h0) (S_w_CS : own_w_CS Z w_CS) (S_w_SF : own_w_SF Z w_SF) (R_w_SF : w_SF.isRef = true) (hc42 : own_ch ca) (hc64 : own_ch cb) (hc1 : ¬ (w_CS = (0 : Int32))) (hc43 : own_ch da) (hc54 : own_ch db) (hc44 : ¬ (ca = da)) (hc45 : own_low ca) (hc65 : own_aln cb) (hc46 : own_low da) (hc56 : own_aln db) (hc48 : ¬ ((ca.toInt8.toInt32) = (da.toInt8.toInt32))) (hc49 : ¬ ((da.toInt8.toInt32) = (ca.toInt8.toInt32))) (X0 : Stand p l e room_1 s m args below meth c T0 locs 0 0) (hx : p.tables.exec = Jvm.exec) (hZ : Z.Warmed39 s.vm) (hby : c.code = code) (hml : c.maxLocals = 19) (hown : s.vm.findClass "com/example/faretally/faretally/ReasonEqualsPinLaw" = some m.cls) (e0 : T0.heap = h0) (N0 : Fr Z.heap.size locs) (hret : meth.sig.returnType = some .boolean) (hlk : meth.locks = false) :
    ∃ s₂ o, Steps p.tables e below (T0.setTop (mkF m 153 (own_T q1 q2 p3 2 ca cb cc 2 da db dc .unset .unset .unset .unset .unset .unset) [])) s₂ ∧ s₂.status = .running ∧ Ended s₂ below o ∧ ∃ v L, o = .returned v ∧ (v = some (.int (1 : Int32)) ∧ Fr Z.heap.size L) ∧ FrameEnd s o s₂ L room_1.cells room_1.slots := by
  obtain ⟨_, T524, Lc524, X524, hQ524, st524⟩ := own_static (y := y_7) X0 hx hZ hown (own_w hw 10 rfl) (own_w hw 11 rfl) (own_w hw 4 rfl) (own_w hw 12 rfl) (rm196 l Z a0 hw [] w_CS ca cb cc h0 Z0 S_w_CS hc42 hc64 hc1) e0 (g := (mkF m 161 (own_T q1 q2 p3 2 ca cb cc 2 da db dc .unset .unset .unset .unset .unset .unset) [(.int cc), (.int cb), (.int ca), (.int (2 : Int32))])) (argsL := [(.int (2 : Int32)), (.int ca), (.int cb), (.int cc)]) (rest := []) (W := 0) (lenOf pd_6 rfl) (hb hby at_161) hml
  obtain ⟨b525, b526, k527, rfl, N524q, K524q, szn_b525, szn_b526, q524_E_b525, q524_F_b525_coder, q524_F_b525_value, q524_V_b526⟩ := hQ524
  have g_b525 : Z.heap.size ≤ b525 := Nat.le_trans Z0.1 szn_b525
  have sz_b525 : h0.size ≤ b525 := Nat.le_trans (Keep.refl h0 []).1 szn_b525
  have g_b526 : Z.heap.size ≤ b526 := Nat.le_trans Z0.1 szn_b526
  have sz_b526 : h0.size ≤ b526 := Nat.le_trans (Keep.refl h0 []).1 szn_b526
  have K524 : Keep h0 T524.heap [] := (Keep.refl h0 []).trans K524q all0
  have XX524 : Ext Z.heap T524.heap := own_extK Z0 K524q all0
  have N524 := Fr.app N0 N524q
  obtain ⟨_, T528, Lc528, X528, hQ528, st528⟩ := own_static (y := y_7) X524 hx hZ hown (own_w hw 10 rfl) (own_w hw 11 rfl) (own_w hw 4 rfl) (own_w hw 12 rfl) (rm196 l Z a0 hw [] w_CS da db dc T524.heap XX524 S_w_CS hc43 hc54 hc1) rfl (g := (mkF m 174 (own_T q1 q2 p3 2 ca cb cc 2 da db dc (rv b525) .unset .unset .unset .unset .unset) [(.int dc), (.int db), (.int da), (.int (2 : Int32))])) (argsL := [(.int (2 : Int32)), (.int da), (.int db), (.int dc)]) (rest := []) (W := 0) (lenOf pd_6 rfl) (hb hby at_174) hml
  obtain ⟨b529, b530, k531, rfl, N528q, K528q, szn_b529, szn_b530, q528_E_b529, q528_F_b529_coder, q528_F_b529_value, q528_V_b530⟩ := hQ528
  have g_b529 : Z.heap.size ≤ b529 := Nat.le_trans XX524.1 szn_b529
  have sz_b529 : h0.size ≤ b529 := Nat.le_trans K524.1 szn_b529
  have g_b530 : Z.heap.size ≤ b530 := Nat.le_trans XX524.1 szn_b530
  have sz_b530 : h0.size ≤ b530 := Nat.le_trans K524.1 szn_b530
  have K528 : Keep h0 T528.heap [] := K524.trans K528q all0
  have XX528 : Ext Z.heap T528.heap := own_extK XX524 K528q all0
  have N528 := Fr.app N524 N528q
  obtain ⟨T532, h532, X532, e532, E532, A532, D532, -, st532⟩ := newO X528 hx hZ hown (own_w hw 43 rfl) (own_w hw 44 rfl) (own_w hw 45 rfl) rfl (g := (mkF m 226 (own_T q1 q2 p3 2 ca cb cc 2 da db dc (rv b525) (rv b529) (iv (0 : Int32)) .unset .unset .unset) [])) rfl (hb hby at_226) (by decide) (by decide)
  obtain ⟨b532, g532⟩ : ∃ z, z = T528.heap.size := ⟨_, rfl⟩
  rw [← g532] at A532 D532 st532
  have g_b532 : Z.heap.size ≤ b532 := Nat.le_trans XX528.1 (Nat.le_of_eq g532.symm)
  have sz_b532 : h0.size ≤ b532 := Nat.le_trans K528.1 (Nat.le_of_eq g532.symm)
  have F_b532_written : Fld Z h532 b532 "com/example/faretally/faretally/RefundRequest$Involuntary$Reason" "written" "Ljava/lang/String;" .null := D532 (Or.inr (own_w hw 96 rfl)) (ty := (.object "java/lang/String")) (by decide)
  have K532 : Keep h0 h532 [] := K528.ext E532
  have XX532 : Ext Z.heap h532 := own_ext2 XX528 E532
  obtain ⟨_, T533, Lc533, X533, hQ533, st533⟩ := own_special (y := y_18) X532 hx hZ hown rfl (own_w hw 46 rfl) (own_w hw 47 rfl) (own_w hw 45 rfl) (own_w hw 48 rfl) (rm244 l Z a0 hw [] w_CS w_SF ca cb b525 b526 k527 b532 h532 XX532 S_w_CS S_w_SF R_w_SF A532 F_b532_written ((q524_E_b525.keep K528q).ext E532) ((q524_F_b525_coder.keep K528q nin0).ext E532) ((q524_F_b525_value.keep K528q nin0).ext E532) ((q524_V_b526.keep K528q nin0).ext E532) g_b532 hc1 hc42 hc45 hc64 hc65) e532 b532 (g := (mkF m 232 (own_T q1 q2 p3 2 ca cb cc 2 da db dc (rv b525) (rv b529) (iv (0 : Int32)) .unset .unset .unset) [(.ref b525), (.ref b532), (.ref b532)])) (argsL := [(.ref b525)]) (rest := [(.ref b532)]) (W := 1) (lenOf pd_15 rfl) (hb hby at_232) hml
  obtain ⟨rfl, N533q, K533q, q533_E_b532, q533_F_b532_written⟩ := hQ533
  have K533 : Keep h0 T533.heap [] := K532.trans K533q (allS (Or.inr sz_b532) all0)
  have XX533 : Ext Z.heap T533.heap := own_extK XX532 K533q (allS g_b532 all0)
  have N533 := Fr.app N528 N533q
  obtain ⟨T534, h534, X534, e534, E534, A534, D534, -, st534⟩ := newO X533 hx hZ hown (own_w hw 43 rfl) (own_w hw 44 rfl) (own_w hw 45 rfl) rfl (g := (mkF m 237 (own_T q1 q2 p3 2 ca cb cc 2 da db dc (rv b525) (rv b529) (iv (0 : Int32)) (rv b532) .unset .unset) [])) rfl (hb hby at_237) (by decide) (by decide)
  obtain ⟨b534, g534⟩ : ∃ z, z = T533.heap.size := ⟨_, rfl⟩
  rw [← g534] at A534 D534 st534
  have g_b534 : Z.heap.size ≤ b534 := Nat.le_trans XX533.1 (Nat.le_of_eq g534.symm)
  have sz_b534 : h0.size ≤ b534 := Nat.le_trans K533.1 (Nat.le_of_eq g534.symm)
  have F_b534_written : Fld Z h534 b534 "com/example/faretally/faretally/RefundRequest$Involuntary$Reason" "written" "Ljava/lang/String;" .null := D534 (Or.inr (own_w hw 96 rfl)) (ty := (.object "java/lang/String")) (by decide)
  have K534 : Keep h0 h534 [] := K533.ext E534
  have XX534 : Ext Z.heap h534 := own_ext2 XX533 E534
  have ne_b529_b532 : b529 ≠ b532 := Nat.ne_of_lt (Nat.lt_of_lt_of_le q528_E_b529.lt (Nat.le_of_eq g532.symm))
  have f536_F_b529_coder : Fld Z h534 b529 "java/lang/String" "coder" "B" (.int (0 : Int32)) := (((q528_F_b529_coder.ext E532).keep K533q (ninS ne_b529_b532 (nin0))).ext E534)
  have f537_F_b529_value : Fld Z h534 b529 "java/lang/String" "value" "[B" (.ref b530) := (((q528_F_b529_value.ext E532).keep K533q (ninS ne_b529_b532 (nin0))).ext E534)
  have ne_b530_b532 : b530 ≠ b532 := Nat.ne_of_lt (Nat.lt_of_lt_of_le q528_V_b530.lt (Nat.le_of_eq g532.symm))
  have f538_V_b530 : Arv Z h534 b530 k531 .byte (2 : Int32) [(.int (da.toInt8.toInt32)), (.int (db.toInt8.toInt32))] (.int (0 : Int32)) := (((q528_V_b530.ext E532).keep K533q (ninS ne_b530_b532 (nin0))).ext E534)
  obtain ⟨_, T535, Lc535, X535, hQ535, st535⟩ := own_special (y := y_18) X534 hx hZ hown rfl (own_w hw 46 rfl) (own_w hw 47 rfl) (own_w hw 45 rfl) (own_w hw 48 rfl) (rm244 l Z a0 hw [] w_CS w_SF da db b529 b530 k531 b534 h534 XX534 S_w_CS S_w_SF R_w_SF A534 F_b534_written (((q528_E_b529.ext E532).keep K533q).ext E534) f536_F_b529_coder f537_F_b529_value f538_V_b530 g_b534 hc1 hc43 hc46 hc54 hc56) e534 b534 (g := (mkF m 243 (own_T q1 q2 p3 2 ca cb cc 2 da db dc (rv b525) (rv b529) (iv (0 : Int32)) (rv b532) .unset .unset) [(.ref b529), (.ref b534), (.ref b534)])) (argsL := [(.ref b529)]) (rest := [(.ref b534)]) (W := 1) (lenOf pd_15 rfl) (hb hby at_243) hml
  obtain ⟨rfl, N535q, K535q, q535_E_b534, q535_F_b534_written⟩ := hQ535
  have K535 : Keep h0 T535.heap [] := K534.trans K535q (allS (Or.inr sz_b534) all0)
  have XX535 : Ext Z.heap T535.heap := own_extK XX534 K535q (allS g_b534 all0)
  have N535 := Fr.app N533 N535q
  have ne_b532_b534 : b532 ≠ b534 := Nat.ne_of_lt (Nat.lt_of_lt_of_le q533_E_b532.lt (Nat.le_of_eq g534.symm))
  have f561_F_b532_written : Fld Z T535.heap b532 "com/example/faretally/faretally/RefundRequest$Involuntary$Reason" "written" "Ljava/lang/String;" (.ref b525) := ((q533_F_b532_written.ext E534).keep K535q (ninS ne_b532_b534 (nin0)))
  have f562_E_b525 : Exa Z T535.heap b525 "java/lang/String" := (((((q524_E_b525.keep K528q).ext E532).keep K533q).ext E534).keep K535q)
  have ne_b525_b532 : b525 ≠ b532 := Nat.ne_of_lt (Nat.lt_of_lt_of_le (q524_E_b525.keep K528q).lt (Nat.le_of_eq g532.symm))
  have ne_b525_b534 : b525 ≠ b534 := Nat.ne_of_lt (Nat.lt_of_lt_of_le (((q524_E_b525.keep K528q).ext E532).keep K533q).lt (Nat.le_of_eq g534.symm))
  have f563_F_b525_coder : Fld Z T535.heap b525 "java/lang/String" "coder" "B" (.int (0 : Int32)) := (((((q524_F_b525_coder.keep K528q nin0).ext E532).keep K533q (ninS ne_b525_b532 (nin0))).ext E534).keep K535q (ninS ne_b525_b534 (nin0)))
  have f564_F_b525_value : Fld Z T535.heap b525 "java/lang/String" "value" "[B" (.ref b526) := (((((q524_F_b525_value.keep K528q nin0).ext E532).keep K533q (ninS ne_b525_b532 (nin0))).ext E534).keep K535q (ninS ne_b525_b534 (nin0)))
  have ne_b529_b534 : b529 ≠ b534 := Nat.ne_of_lt (Nat.lt_of_lt_of_le ((q528_E_b529.ext E532).keep K533q).lt (Nat.le_of_eq g534.symm))
  have ne_b526_b532 : b526 ≠ b532 := Nat.ne_of_lt (Nat.lt_of_lt_of_le (q524_V_b526.keep K528q nin0).lt (Nat.le_of_eq g532.symm))
  have ne_b526_b534 : b526 ≠ b534 := Nat.ne_of_lt (Nat.lt_of_lt_of_le (((q524_V_b526.keep K528q nin0).ext E532).keep K533q (ninS ne_b526_b532 (nin0))).lt (Nat.le_of_eq g534.symm))
  have f565_V_b526 : Arv Z T535.heap b526 k527 .byte (2 : Int32) [(.int (ca.toInt8.toInt32)), (.int (cb.toInt8.toInt32))] (.int (0 : Int32)) := (((((q524_V_b526.keep K528q nin0).ext E532).keep K533q (ninS ne_b526_b532 (nin0))).ext E534).keep K535q (ninS ne_b526_b534 (nin0)))
  have ne_b530_b534 : b530 ≠ b534 := Nat.ne_of_lt (Nat.lt_of_lt_of_le ((q528_V_b530.ext E532).keep K533q (ninS ne_b530_b532 (nin0))).lt (Nat.le_of_eq g534.symm))
  have ne_b525_b529 : b525 ≠ b529 := Nat.ne_of_lt (Nat.lt_of_lt_of_le q524_E_b525.lt szn_b529)
  obtain ⟨_, T560, Lc560, X560, hQ560, st560⟩ := own_virtual (y := y_21) X535 hx hZ hown (own_w hw 97 rfl) (own_w hw 98 rfl) (own_w hw 100 rfl) (own_w hw 99 rfl) (own_w hw 45 rfl) (own_w hw 101 rfl) (rm539 l Z a0 hw [] w_CS ca cb da db b525 b526 k527 b529 b530 k531 b532 b534 T535.heap XX535 S_w_CS f561_F_b532_written q535_E_b534 q535_F_b534_written f562_E_b525 f563_F_b525_coder f564_F_b525_value ((((q528_E_b529.ext E532).keep K533q).ext E534).keep K535q) (f536_F_b529_coder.keep K535q (ninS ne_b529_b534 (nin0))) (f537_F_b529_value.keep K535q (ninS ne_b529_b534 (nin0))) f565_V_b526 (f538_V_b530.keep K535q (ninS ne_b530_b534 (nin0))) ne_b525_b529 hc1 hc48) rfl ((q533_E_b532.ext E534).keep K535q) (g := (mkF m 252 (own_T q1 q2 p3 2 ca cb cc 2 da db dc (rv b525) (rv b529) (iv (0 : Int32)) (rv b532) (rv b534) .unset) [(.ref b534), (.ref b532)])) (argsL := [(.ref b534)]) (rest := []) (W := 0) (lenOf pd_17 rfl) (hb hby at_252) hml
  obtain ⟨rfl, N560q, e560⟩ := hQ560
  have N560 := Fr.app N535 N560q
  obtain ⟨_, T566, Lc566, X566, hQ566, st566⟩ := own_virtual (y := y_21) X560 hx hZ hown (own_w hw 97 rfl) (own_w hw 98 rfl) (own_w hw 100 rfl) (own_w hw 99 rfl) (own_w hw 45 rfl) (own_w hw 101 rfl) (rm539 l Z a0 hw [] w_CS da db ca cb b529 b530 k531 b525 b526 k527 b534 b532 T535.heap XX535 S_w_CS q535_F_b534_written ((q533_E_b532.ext E534).keep K535q) f561_F_b532_written ((((q528_E_b529.ext E532).keep K533q).ext E534).keep K535q) (f536_F_b529_coder.keep K535q (ninS ne_b529_b534 (nin0))) (f537_F_b529_value.keep K535q (ninS ne_b529_b534 (nin0))) f562_E_b525 f563_F_b525_coder f564_F_b525_value (f538_V_b530.keep K535q (ninS ne_b530_b534 (nin0))) f565_V_b526 (Ne.symm ne_b525_b529) hc1 hc49) e560 q535_E_b534 (g := (mkF m 276 (own_T q1 q2 p3 2 ca cb cc 2 da db dc (rv b525) (rv b529) (iv (0 : Int32)) (rv b532) (rv b534) (iv (1 : Int32))) [(.ref b532), (.ref b534)])) (argsL := [(.ref b532)]) (rest := []) (W := 0) (lenOf pd_17 rfl) (hb hby at_276) hml
  obtain ⟨rfl, N566q, e566⟩ := hQ566
  have N566 := Fr.app N560 N566q
  obtain ⟨_, T567, Lc567, X567, hQ567, st567⟩ := own_virtual (y := y_21) X566 hx hZ hown (own_w hw 97 rfl) (own_w hw 98 rfl) (own_w hw 100 rfl) (own_w hw 99 rfl) (own_w hw 45 rfl) (own_w hw 101 rfl) (rm132 l Z a0 hw [] b525 b532 T535.heap XX535 ((q533_E_b532.ext E534).keep K535q) f561_F_b532_written f562_E_b525) e566 ((q533_E_b532.ext E534).keep K535q) (g := (mkF m 300 (own_T q1 q2 p3 2 ca cb cc 2 da db dc (rv b525) (rv b529) (iv (0 : Int32)) (rv b532) (rv b534) (iv (1 : Int32))) [(.ref b532), (.ref b532)])) (argsL := [(.ref b532)]) (rest := []) (W := 0) (lenOf pd_17 rfl) (hb hby at_300) hml
  obtain ⟨rfl, N567q, e567⟩ := hQ567
  have N567 := Fr.app N566 N567q
  obtain ⟨_, T568, Lc568, X568, hQ568, st568⟩ := own_virtual (y := y_21) X567 hx hZ hown (own_w hw 97 rfl) (own_w hw 98 rfl) (own_w hw 100 rfl) (own_w hw 99 rfl) (own_w hw 45 rfl) (own_w hw 101 rfl) (rm140 l Z a0 hw [] b525 b532 T535.heap XX535 f562_E_b525) e567 ((q533_E_b532.ext E534).keep K535q) (g := (mkF m 322 (own_T q1 q2 p3 2 ca cb cc 2 da db dc (rv b525) (rv b529) (iv (0 : Int32)) (rv b532) (rv b534) (iv (1 : Int32))) [(.ref b525), (.ref b532)])) (argsL := [(.ref b525)]) (rest := []) (W := 0) (lenOf pd_17 rfl) (hb hby at_322) hml
  obtain ⟨rfl, N568q, e568⟩ := hQ568
  have N568 := Fr.app N567 N568q
  obtain ⟨_, T569, Lc569, X569, hQ569, st569⟩ := own_virtual (y := y_21) X568 hx hZ hown (own_w hw 97 rfl) (own_w hw 98 rfl) (own_w hw 100 rfl) (own_w hw 99 rfl) (own_w hw 45 rfl) (own_w hw 101 rfl) (rm143 l Z a0 hw [] b532 T535.heap XX535 ) e568 ((q533_E_b532.ext E534).keep K535q) (g := (mkF m 343 (own_T q1 q2 p3 2 ca cb cc 2 da db dc (rv b525) (rv b529) (iv (0 : Int32)) (rv b532) (rv b534) (iv (1 : Int32))) [.null, (.ref b532)])) (argsL := [.null]) (rest := []) (W := 0) (lenOf pd_17 rfl) (hb hby at_343) hml
  obtain ⟨rfl, N569q, e569⟩ := hQ569
  have N569 := Fr.app N568 N569q
  obtain ⟨fs, hr, hrun, hended, hW, hsame⟩ := X569.leave (v := some (.int (1 : Int32))) (fun h => by rw [hret] at h; cases h) hlk
  refine ⟨_, _, ?_, hrun, hended, _, _, rfl, ⟨rfl, N569⟩, ⟨_, rfl⟩, hW, hsame.mono (by decide) (by decide)⟩
  show own_S p e below T0 (mkF m 153 (own_T q1 q2 p3 2 ca cb cc 2 da db dc .unset .unset .unset .unset .unset .unset) []) _
  refine own_i X0 hx hby at_153 ?_
  refine own_i X0 hx hby at_155 ?_
  refine own_i X0 hx hby at_157 ?_
  refine own_i X0 hx hby at_159 ?_
  refine st524 _ ?_
  refine XS.astore X524.here hx rfl (hb hby at_164) rfl rfl (l' := (own_T q1 q2 p3 2 ca cb cc 2 da db dc (rv b525) .unset .unset .unset .unset .unset)) rfl ?_
  refine own_i X524 hx hby at_166 ?_
  refine own_i X524 hx hby at_168 ?_
  refine own_i X524 hx hby at_170 ?_
  refine own_i X524 hx hby at_172 ?_
  refine st528 _ ?_
  refine XS.astore X528.here hx rfl (hb hby at_177) rfl rfl (l' := (own_T q1 q2 p3 2 ca cb cc 2 da db dc (rv b525) (rv b529) .unset .unset .unset .unset)) rfl ?_
  refine own_i X528 hx hby at_179 ?_
  refine own_i X528 hx hby at_181 ?_
  refine own_cn X528 hx hby at_183 (teq (rfl : (2 : Int32) = (2 : Int32))).2 ?_
  refine own_i X528 hx hby at_186 ?_
  refine own_i X528 hx hby at_188 ?_
  refine own_cy (pc := 190) X528 hx hby at_190 (feq hc44).2 223 ?_
  refine own_k X528 hx hby at_223 ?_
  refine XS.istore X528.here hx rfl (hb hby at_224) rfl (l' := (own_T q1 q2 p3 2 ca cb cc 2 da db dc (rv b525) (rv b529) (iv (0 : Int32)) .unset .unset .unset)) rfl ?_
  refine st532 _ ?_
  refine XS.dup X532.here hx rfl (hb hby at_229) rfl rfl ?_
  refine own_a X532 hx hby at_230 ?_
  refine st533 _ ?_
  refine XS.astore X533.here hx rfl (hb hby at_235) rfl rfl (l' := (own_T q1 q2 p3 2 ca cb cc 2 da db dc (rv b525) (rv b529) (iv (0 : Int32)) (rv b532) .unset .unset)) rfl ?_
  refine st534 _ ?_
  refine XS.dup X534.here hx rfl (hb hby at_240) rfl rfl ?_
  refine own_a X534 hx hby at_241 ?_
  refine st535 _ ?_
  refine XS.astore X535.here hx rfl (hb hby at_246) rfl rfl (l' := (own_T q1 q2 p3 2 ca cb cc 2 da db dc (rv b525) (rv b529) (iv (0 : Int32)) (rv b532) (rv b534) .unset)) rfl ?_
  refine own_a X535 hx hby at_248 ?_
  refine own_a X535 hx hby at_250 ?_
  refine st560 _ ?_
  refine own_i X560 hx hby at_255 ?_
  refine own_cn X560 hx hby at_257 (teq (rfl : (0 : Int32) = (0 : Int32))).2 ?_
  refine own_k X560 hx hby at_260 ?_
  refine own_go (pc := 261) X560 hx hby at_261 265 ?_
  refine XS.istore X560.here hx rfl (hb hby at_265) rfl (l' := (own_T q1 q2 p3 2 ca cb cc 2 da db dc (rv b525) (rv b529) (iv (0 : Int32)) (rv b532) (rv b534) (iv (1 : Int32)))) rfl ?_
  refine own_i X560 hx hby at_267 ?_
  refine own_in X560 hx hby at_269 (feq (by decide : ¬ ((1 : Int32) = (0 : Int32)))).1 ?_
  refine own_a X560 hx hby at_272 ?_
  refine own_a X560 hx hby at_274 ?_
  refine st566 _ ?_
  refine own_i X566 hx hby at_279 ?_
  refine own_cn X566 hx hby at_281 (teq (rfl : (0 : Int32) = (0 : Int32))).2 ?_
  refine own_k X566 hx hby at_284 ?_
  refine own_go (pc := 285) X566 hx hby at_285 289 ?_
  refine XS.istore X566.here hx rfl (hb hby at_289) rfl (l' := (own_T q1 q2 p3 2 ca cb cc 2 da db dc (rv b525) (rv b529) (iv (0 : Int32)) (rv b532) (rv b534) (iv (1 : Int32)))) rfl ?_
  refine own_i X566 hx hby at_291 ?_
  refine own_in X566 hx hby at_293 (feq (by decide : ¬ ((1 : Int32) = (0 : Int32)))).1 ?_
  refine own_a X566 hx hby at_296 ?_
  refine own_a X566 hx hby at_298 ?_
  refine st567 _ ?_
  refine own_in X567 hx hby at_303 (feq (by decide : ¬ ((1 : Int32) = (0 : Int32)))).1 ?_
  refine own_k X567 hx hby at_306 ?_
  refine own_go (pc := 307) X567 hx hby at_307 311 ?_
  refine XS.istore X567.here hx rfl (hb hby at_311) rfl (l' := (own_T q1 q2 p3 2 ca cb cc 2 da db dc (rv b525) (rv b529) (iv (0 : Int32)) (rv b532) (rv b534) (iv (1 : Int32)))) rfl ?_
  refine own_i X567 hx hby at_313 ?_
  refine own_in X567 hx hby at_315 (feq (by decide : ¬ ((1 : Int32) = (0 : Int32)))).1 ?_
  refine own_a X567 hx hby at_318 ?_
  refine own_a X567 hx hby at_320 ?_
  refine st568 _ ?_
  refine own_in X568 hx hby at_325 (teq (rfl : (0 : Int32) = (0 : Int32))).2 ?_
  refine own_k X568 hx hby at_328 ?_
  refine own_go (pc := 329) X568 hx hby at_329 333 ?_
  refine XS.istore X568.here hx rfl (hb hby at_333) rfl (l' := (own_T q1 q2 p3 2 ca cb cc 2 da db dc (rv b525) (rv b529) (iv (0 : Int32)) (rv b532) (rv b534) (iv (1 : Int32)))) rfl ?_
  refine own_i X568 hx hby at_335 ?_
  refine own_in X568 hx hby at_337 (feq (by decide : ¬ ((1 : Int32) = (0 : Int32)))).1 ?_
  refine own_a X568 hx hby at_340 ?_
  refine XS.aconstNull X568.here hx rfl (hb hby at_342) ?_
  refine st569 _ ?_
  refine own_in X569 hx hby at_346 (teq (rfl : (0 : Int32) = (0 : Int32))).2 ?_
  refine own_k X569 hx hby at_349 ?_
  refine own_go (pc := 350) X569 hx hby at_350 354 ?_
  refine XS.istore X569.here hx rfl (hb hby at_354) rfl (l' := (own_T q1 q2 p3 2 ca cb cc 2 da db dc (rv b525) (rv b529) (iv (0 : Int32)) (rv b532) (rv b534) (iv (1 : Int32)))) rfl ?_
  refine own_i X569 hx hby at_356 ?_
  exact retN X569 hx (t := .boolean) hret (by simp) (hb hby at_358) hr
def Qrm598 (Z : State) (ca cb da db : Int32) (b572 : Addr) (k573 : ClassId) (b576 : Addr) (k577 : ClassId) (h0 : Heap) (v : Option Value) (h : Heap) (L : List Loc) : Prop := v = some (.int (0 : Int32)) ∧ Fr Z.heap.size L ∧ h = h0
theorem rm598 (l : Launch) (Z : State) (a0 : Array Value) (hw : own_HW Z a0) (ws : List Jvm.Cond) (ca cb da db : Int32) (b572 : Addr) (k573 : ClassId) (b576 : Addr) (k577 : ClassId) (h0 : Heap) (Z0 : Ext Z.heap h0) (V_b572 : Arv Z h0 b572 k573 .byte (2 : Int32) [(.int (ca.toInt8.toInt32)), (.int (cb.toInt8.toInt32))] (.int (0 : Int32))) (V_b576 : Arv Z h0 b576 k577 .byte (2 : Int32) [(.int (da.toInt8.toInt32)), (.int (db.toInt8.toInt32))] (.int (0 : Int32))) (hc52 : (ca.toInt8.toInt32) = (da.toInt8.toInt32)) (hc69 : ¬ ((cb.toInt8.toInt32) = (db.toInt8.toInt32))) :
    own_met l y_19 jdk_43_method_13_code 3 (some .boolean) ws ({ frames := 0, cells := 0, slots := 0, locals := 0 } : Room) Z #[(.ref b572), (.ref b576)] h0 (Qrm598 Z ca cb da db b572 k573 b576 k577 h0) := by
  refine own_start (plainFor_of_name pn_5) (fun m => ef_jdk_43_method_13_RR m b572 b576) ?_
  intro p e s m below meth c s₁ hx hby hml hown hnm X0 hZ e0 hret hlk
  have N0 := Fr.nil Z.heap.size
  obtain ⟨cl599, Ar599, q599, S599, Nn599, H599, G599⟩ := id V_b572
  obtain ⟨cl600, Ar600, q600, S600, Nn600, H600, G600⟩ := id V_b576
  obtain ⟨cl601, Ar601, q601, S601, Nn601, H601, G601⟩ := id V_b572
  obtain ⟨cl602, Ar602, q602, S602, Nn602, H602, G602⟩ := id V_b572
  have hin602 : ¬ ((0 : Int32) < 0 ∨ cl602.slots.size ≤ ((0 : Int32)).toNatClampNeg) := inb_of S602 ⟨by decide, by decide⟩
  have hat602 : cl602.slots[((0 : Int32)).toNatClampNeg]? = some (.int (ca.toInt8.toInt32)) := Has.at H602 hin602 rfl
  obtain ⟨cl603, Ar603, q603, S603, Nn603, H603, G603⟩ := id V_b576
  have hin603 : ¬ ((0 : Int32) < 0 ∨ cl603.slots.size ≤ ((0 : Int32)).toNatClampNeg) := inb_of S603 ⟨by decide, by decide⟩
  have hat603 : cl603.slots[((0 : Int32)).toNatClampNeg]? = some (.int (da.toInt8.toInt32)) := Has.at H603 hin603 rfl
  obtain ⟨cl604, Ar604, q604, S604, Nn604, H604, G604⟩ := id V_b572
  obtain ⟨cl605, Ar605, q605, S605, Nn605, H605, G605⟩ := id V_b572
  have hin605 : ¬ ((1 : Int32) < 0 ∨ cl605.slots.size ≤ ((1 : Int32)).toNatClampNeg) := inb_of S605 ⟨by decide, by decide⟩
  have hat605 : cl605.slots[((1 : Int32)).toNatClampNeg]? = some (.int (cb.toInt8.toInt32)) := Has.at H605 hin605 rfl
  obtain ⟨cl606, Ar606, q606, S606, Nn606, H606, G606⟩ := id V_b576
  have hin606 : ¬ ((1 : Int32) < 0 ∨ cl606.slots.size ≤ ((1 : Int32)).toNatClampNeg) := inb_of S606 ⟨by decide, by decide⟩
  have hat606 : cl606.slots[((1 : Int32)).toNatClampNeg]? = some (.int (db.toInt8.toInt32)) := Has.at H606 hin606 rfl
  obtain ⟨fs, hr, hrun, hended, hW, hsame⟩ := X0.leave (v := some (.int (0 : Int32))) (fun h => by rw [hret] at h; cases h) hlk
  refine ⟨_, _, ?_, hrun, hended, _, _, rfl, ?_, ⟨_, rfl⟩, hW, hsame.mono (by decide) (by decide)⟩
  · show own_S p e below s₁ (mkF m 0 #[rv b572, rv b576, .unset] []) _
    refine own_aN X0 hx hby d23_0 ?_
    refine X0.arraylength hx (by rw [e0]; exact Ar599.1) (State.isArrayOf_alike hZ.alike Ar599.2.1) (g := (mkF m 1 #[rv b572, rv b576, .unset] [(.ref b572)])) rfl rfl (hb hby d23_1) _ ?_
    rw [len_of S599 Nn599]
    refine own_aN X0 hx hby d23_2 ?_
    refine X0.arraylength hx (by rw [e0]; exact Ar600.1) (State.isArrayOf_alike hZ.alike Ar600.2.1) (g := (mkF m 3 #[rv b572, rv b576, .unset] [(.ref b576), (.int (2 : Int32))])) rfl rfl (hb hby d23_3) _ ?_
    rw [len_of S600 Nn600]
    refine own_cn X0 hx hby d23_4 (teq (rfl : (2 : Int32) = (2 : Int32))).2 ?_
    refine own_k X0 hx hby d23_7 ?_
    refine XS.istoreN X0.here hx rfl (hb hby d23_8) rfl (l' := #[rv b572, rv b576, iv (0 : Int32)]) rfl ?_
    refine own_iN X0 hx hby d23_9 ?_
    refine own_aN X0 hx hby d23_10 ?_
    refine X0.arraylength hx (by rw [e0]; exact Ar601.1) (State.isArrayOf_alike hZ.alike Ar601.2.1) (g := (mkF m 11 #[rv b572, rv b576, iv (0 : Int32)] [(.ref b572), (.int (0 : Int32))])) rfl rfl (hb hby d23_11) _ ?_
    rw [len_of S601 Nn601]
    refine own_cn X0 hx hby d23_12 (tlt (by decide : (0 : Int32) < (2 : Int32))).2.1 ?_
    refine own_aN X0 hx hby d23_15 ?_
    refine own_iN X0 hx hby d23_16 ?_
    refine X0.baloadBytes hx (j := (0 : Int32)) (v := (.int (ca.toInt8.toInt32))) (by rw [e0]; exact Ar602.1) (State.isArrayOf_alike hZ.alike Ar602.2.1) Ar602.2.2 hin602 hat602 (g := (mkF m 17 #[rv b572, rv b576, iv (0 : Int32)] [(.int (0 : Int32)), (.ref b572)])) rfl rfl (hb hby d23_17) _ ?_
    refine own_aN X0 hx hby d23_18 ?_
    refine own_iN X0 hx hby d23_19 ?_
    refine X0.baloadBytes hx (j := (0 : Int32)) (v := (.int (da.toInt8.toInt32))) (by rw [e0]; exact Ar603.1) (State.isArrayOf_alike hZ.alike Ar603.2.1) Ar603.2.2 hin603 hat603 (g := (mkF m 20 #[rv b572, rv b576, iv (0 : Int32)] [(.int (0 : Int32)), (.ref b576), (.int (ca.toInt8.toInt32))])) rfl rfl (hb hby d23_20) _ ?_
    refine own_cy (pc := 21) X0 hx hby d23_21 (teq hc52).1 26 ?_
    refine XS.iinc X0.here hx rfl (hb hby d23_26) rfl (l' := #[rv b572, rv b576, iv (1 : Int32)]) rfl ?_
    refine own_go (pc := 29) X0 hx hby d23_29 9 ?_
    refine own_iN X0 hx hby d23_9 ?_
    refine own_aN X0 hx hby d23_10 ?_
    refine X0.arraylength hx (by rw [e0]; exact Ar604.1) (State.isArrayOf_alike hZ.alike Ar604.2.1) (g := (mkF m 11 #[rv b572, rv b576, iv (1 : Int32)] [(.ref b572), (.int (1 : Int32))])) rfl rfl (hb hby d23_11) _ ?_
    rw [len_of S604 Nn604]
    refine own_cn X0 hx hby d23_12 (tlt (by decide : (1 : Int32) < (2 : Int32))).2.1 ?_
    refine own_aN X0 hx hby d23_15 ?_
    refine own_iN X0 hx hby d23_16 ?_
    refine X0.baloadBytes hx (j := (1 : Int32)) (v := (.int (cb.toInt8.toInt32))) (by rw [e0]; exact Ar605.1) (State.isArrayOf_alike hZ.alike Ar605.2.1) Ar605.2.2 hin605 hat605 (g := (mkF m 17 #[rv b572, rv b576, iv (1 : Int32)] [(.int (1 : Int32)), (.ref b572)])) rfl rfl (hb hby d23_17) _ ?_
    refine own_aN X0 hx hby d23_18 ?_
    refine own_iN X0 hx hby d23_19 ?_
    refine X0.baloadBytes hx (j := (1 : Int32)) (v := (.int (db.toInt8.toInt32))) (by rw [e0]; exact Ar606.1) (State.isArrayOf_alike hZ.alike Ar606.2.1) Ar606.2.2 hin606 hat606 (g := (mkF m 20 #[rv b572, rv b576, iv (1 : Int32)] [(.int (1 : Int32)), (.ref b576), (.int (cb.toInt8.toInt32))])) rfl rfl (hb hby d23_20) _ ?_
    refine own_cn X0 hx hby d23_21 (feq hc69).1 ?_
    refine own_k X0 hx hby d23_24 ?_
    exact retN X0 hx (t := .boolean) hret (by simp) (hb hby d23_25) hr
  · show Qrm598 Z ca cb da db b572 k573 b576 k577 h0 _ s₁.heap _
    rw [e0]
    exact ⟨rfl, N0, rfl⟩
def Qrm590 (Z : State) (w_CS ca cb da db : Int32) (b571 b572 : Addr) (k573 : ClassId) (b575 b576 : Addr) (k577 : ClassId) (h0 : Heap) (v : Option Value) (h : Heap) (L : List Loc) : Prop := v = some (.int (0 : Int32)) ∧ Fr Z.heap.size L ∧ h = h0
theorem rm590 (l : Launch) (Z : State) (a0 : Array Value) (hw : own_HW Z a0) (ws : List Jvm.Cond) (w_CS ca cb da db : Int32) (b571 b572 : Addr) (k573 : ClassId) (b575 b576 : Addr) (k577 : ClassId) (h0 : Heap) (Z0 : Ext Z.heap h0) (S_w_CS : own_w_CS Z w_CS) (F_b571_coder : Fld Z h0 b571 "java/lang/String" "coder" "B" (.int (0 : Int32))) (F_b571_value : Fld Z h0 b571 "java/lang/String" "value" "[B" (.ref b572)) (E_b575 : Exa Z h0 b575 "java/lang/String") (F_b575_coder : Fld Z h0 b575 "java/lang/String" "coder" "B" (.int (0 : Int32))) (F_b575_value : Fld Z h0 b575 "java/lang/String" "value" "[B" (.ref b576)) (V_b572 : Arv Z h0 b572 k573 .byte (2 : Int32) [(.int (ca.toInt8.toInt32)), (.int (cb.toInt8.toInt32))] (.int (0 : Int32))) (V_b576 : Arv Z h0 b576 k577 .byte (2 : Int32) [(.int (da.toInt8.toInt32)), (.int (db.toInt8.toInt32))] (.int (0 : Int32))) (hc68 : b571 ≠ b575) (hc1 : ¬ (w_CS = (0 : Int32))) (hc52 : (ca.toInt8.toInt32) = (da.toInt8.toInt32)) (hc69 : ¬ ((cb.toInt8.toInt32) = (db.toInt8.toInt32))) :
    own_met l y_20 jdk_42_method_66_code 3 (some .boolean) ws ({ frames := 1, cells := 0, slots := 0, locals := 14 } : Room) Z #[(.ref b571), (.ref b575)] h0 (Qrm590 Z w_CS ca cb da db b571 b572 k573 b575 b576 k577 h0) := by
  refine own_start (plainFor_of_name pn_2) (fun m => ef_jdk_42_method_66_RR m b571 b575) ?_
  intro p e s m below meth c s₁ hx hby hml hown hnm X0 hZ e0 hret hlk
  have N0 := Fr.nil Z.heap.size
  obtain ⟨T591, X591, e591, st591⟩ := instY X0 hx hZ hown (own_w hw 109 rfl) e0 (Ins.self E_b575) (g := (mkF m 8 #[rv b571, rv b575, .unset] [(.ref b575)])) rfl rfl (hb hby d22_8)
  obtain ⟨T592, X592, e592, st592⟩ := castY X591 hx hZ hown (own_w hw 109 rfl) e591 (Ins.self E_b575) (g := (mkF m 15 #[rv b571, rv b575, .unset] [(.ref b575)])) rfl rfl (hb hby d22_15)
  obtain ⟨T593, X593, e593, st593⟩ := getS2 X592 hx hZ hown (host := "") (Or.inl (own_w hw 27 rfl)) Via.refl e592 (S_w_CS.ext Z0) (g := (mkF m 19 #[rv b571, rv b575, rv b575] [])) rfl (hb hby d22_19)
  obtain ⟨T594, X594, e594, st594⟩ := getF X593 hx hZ hown (host := "") (Or.inl (own_w hw 39 rfl)) Via.refl e593 F_b571_coder (g := (mkF m 26 #[rv b571, rv b575, rv b575] [(.ref b571)])) rfl rfl (hb hby d22_26)
  obtain ⟨T595, X595, e595, st595⟩ := getF X594 hx hZ hown (host := "") (Or.inl (own_w hw 39 rfl)) Via.refl e594 F_b575_coder (g := (mkF m 30 #[rv b571, rv b575, rv b575] [(.ref b575), (.int (0 : Int32))])) rfl rfl (hb hby d22_30)
  obtain ⟨T596, X596, e596, st596⟩ := getF X595 hx hZ hown (host := "") (Or.inl (own_w hw 41 rfl)) Via.refl e595 F_b571_value (g := (mkF m 37 #[rv b571, rv b575, rv b575] [(.ref b571)])) rfl rfl (hb hby d22_37)
  obtain ⟨T597, X597, e597, st597⟩ := getF X596 hx hZ hown (host := "") (Or.inl (own_w hw 41 rfl)) Via.refl e596 F_b575_value (g := (mkF m 41 #[rv b571, rv b575, rv b575] [(.ref b575), (.ref b572)])) rfl rfl (hb hby d22_41)
  obtain ⟨_, T607, Lc607, X607, hQ607, st607⟩ := own_static (y := y_19) X597 hx hZ hown (own_w hw 110 rfl) (own_w hw 111 rfl) (own_w hw 75 rfl) (own_w hw 112 rfl) (rm598 l Z a0 hw [] ca cb da db b572 k573 b576 k577 h0 Z0 V_b572 V_b576 hc52 hc69) e597 (g := (mkF m 44 #[rv b571, rv b575, rv b575] [(.ref b576), (.ref b572)])) (argsL := [(.ref b572), (.ref b576)]) (rest := []) (W := 0) (lenOf pd_16 rfl) (hb hby d22_44) hml
  obtain ⟨rfl, N607q, e607⟩ := hQ607
  have N607 := Fr.app N0 N607q
  obtain ⟨fs, hr, hrun, hended, hW, hsame⟩ := X607.leave (v := some (.int (0 : Int32))) (fun h => by rw [hret] at h; cases h) hlk
  refine ⟨_, _, ?_, hrun, hended, _, _, rfl, ?_, ⟨_, rfl⟩, hW, hsame.mono (by decide) (by decide)⟩
  · show own_S p e below s₁ (mkF m 0 #[rv b571, rv b575, .unset] []) _
    refine own_aN X0 hx hby d22_0 ?_
    refine own_aN X0 hx hby d22_1 ?_
    refine Jvm.RoadKit.acmp (g := (mkF m 2 #[rv b571, rv b575, .unset] [(.ref b575), (.ref b571)])) X0 hx rfl rfl rfl (pc0 := 2) (pc' := 7) (same := false) rfl (hb hby d22_2) rfl (decide_eq_false fun q => hc68 (Value.ref.inj q)) (by decide) (by decide) ?_
    refine own_aN X0 hx hby d22_7 ?_
    refine st591 _ ?_
    refine own_in X591 hx hby d22_11 (feq (by decide : ¬ ((1 : Int32) = (0 : Int32)))).1 ?_
    refine own_aN X591 hx hby d22_14 ?_
    refine st592 _ ?_
    refine XS.astoreN X592.here hx rfl (hb hby d22_18) rfl rfl (l' := #[rv b571, rv b575, rv b575]) rfl ?_
    refine st593 _ ?_
    refine own_in X593 hx hby d22_22 (feq hc1).1 ?_
    refine own_aN X593 hx hby d22_25 ?_
    refine st594 _ ?_
    refine own_aN X594 hx hby d22_29 ?_
    refine st595 _ ?_
    refine own_cn X595 hx hby d22_33 (teq (rfl : (0 : Int32) = (0 : Int32))).2 ?_
    refine own_aN X595 hx hby d22_36 ?_
    refine st596 _ ?_
    refine own_aN X596 hx hby d22_40 ?_
    refine st597 _ ?_
    refine st607 _ ?_
    refine own_iy (pc := 47) X607 hx hby d22_47 (teq (rfl : (0 : Int32) = (0 : Int32))).1 54 ?_
    refine own_k X607 hx hby d22_54 ?_
    exact retN X607 hx (t := .boolean) hret (by simp) (hb hby d22_55) hr
  · show Qrm590 Z w_CS ca cb da db b571 b572 k573 b575 b576 k577 h0 _ T607.heap _
    rw [e607]
    exact ⟨rfl, N607, rfl⟩
def Qrm585 (Z : State) (w_CS ca cb da db : Int32) (b571 b572 : Addr) (k573 : ClassId) (b575 b576 : Addr) (k577 : ClassId) (b578 b580 : Addr) (h0 : Heap) (v : Option Value) (h : Heap) (L : List Loc) : Prop := v = some (.int (0 : Int32)) ∧ Fr Z.heap.size L ∧ h = h0
theorem rm585 (l : Launch) (Z : State) (a0 : Array Value) (hw : own_HW Z a0) (ws : List Jvm.Cond) (w_CS ca cb da db : Int32) (b571 b572 : Addr) (k573 : ClassId) (b575 b576 : Addr) (k577 : ClassId) (b578 b580 : Addr) (h0 : Heap) (Z0 : Ext Z.heap h0) (S_w_CS : own_w_CS Z w_CS) (F_b578_written : Fld Z h0 b578 "com/example/faretally/faretally/RefundRequest$Involuntary$Reason" "written" "Ljava/lang/String;" (.ref b571)) (E_b580 : Exa Z h0 b580 "com/example/faretally/faretally/RefundRequest$Involuntary$Reason") (F_b580_written : Fld Z h0 b580 "com/example/faretally/faretally/RefundRequest$Involuntary$Reason" "written" "Ljava/lang/String;" (.ref b575)) (E_b571 : Exa Z h0 b571 "java/lang/String") (F_b571_coder : Fld Z h0 b571 "java/lang/String" "coder" "B" (.int (0 : Int32))) (F_b571_value : Fld Z h0 b571 "java/lang/String" "value" "[B" (.ref b572)) (E_b575 : Exa Z h0 b575 "java/lang/String") (F_b575_coder : Fld Z h0 b575 "java/lang/String" "coder" "B" (.int (0 : Int32))) (F_b575_value : Fld Z h0 b575 "java/lang/String" "value" "[B" (.ref b576)) (V_b572 : Arv Z h0 b572 k573 .byte (2 : Int32) [(.int (ca.toInt8.toInt32)), (.int (cb.toInt8.toInt32))] (.int (0 : Int32))) (V_b576 : Arv Z h0 b576 k577 .byte (2 : Int32) [(.int (da.toInt8.toInt32)), (.int (db.toInt8.toInt32))] (.int (0 : Int32))) (hc68 : b571 ≠ b575) (hc1 : ¬ (w_CS = (0 : Int32))) (hc52 : (ca.toInt8.toInt32) = (da.toInt8.toInt32)) (hc69 : ¬ ((cb.toInt8.toInt32) = (db.toInt8.toInt32))) :
    own_met l y_21 prog_97_method_3_code 3 (some .boolean) ws ({ frames := 2, cells := 0, slots := 0, locals := 28 } : Room) Z #[(.ref b578), (.ref b580)] h0 (Qrm585 Z w_CS ca cb da db b571 b572 k573 b575 b576 k577 b578 b580 h0) := by
  refine own_start (plainFor_of_name pn_6) (fun m => ef_prog_97_method_3_RR m b578 b580) ?_
  intro p e s m below meth c s₁ hx hby hml hown hnm X0 hZ e0 hret hlk
  have N0 := Fr.nil Z.heap.size
  obtain ⟨T586, X586, e586, st586⟩ := instY X0 hx hZ hown (own_w hw 102 rfl) e0 (Ins.self E_b580) (g := (mkF m 1 #[rv b578, rv b580, .unset] [(.ref b580)])) rfl rfl (hb hby d21_1)
  obtain ⟨T587, X587, e587, st587⟩ := castY X586 hx hZ hown (own_w hw 102 rfl) e586 (Ins.self E_b580) (g := (mkF m 8 #[rv b578, rv b580, .unset] [(.ref b580)])) rfl rfl (hb hby d21_8)
  obtain ⟨T588, X588, e588, st588⟩ := getF X587 hx hZ hown (host := "") (Or.inl (own_w hw 95 rfl)) Via.refl e587 F_b578_written (g := (mkF m 13 #[rv b578, rv b580, rv b580] [(.ref b578)])) rfl rfl (hb hby d21_13)
  obtain ⟨T589, X589, e589, st589⟩ := getF X588 hx hZ hown (host := "") (Or.inl (own_w hw 95 rfl)) Via.refl e588 F_b580_written (g := (mkF m 17 #[rv b578, rv b580, rv b580] [(.ref b580), (.ref b571)])) rfl rfl (hb hby d21_17)
  obtain ⟨_, T608, Lc608, X608, hQ608, st608⟩ := own_virtual (y := y_20) X589 hx hZ hown (own_w hw 104 rfl) (own_w hw 105 rfl) (own_w hw 107 rfl) (own_w hw 106 rfl) (own_w hw 15 rfl) (own_w hw 108 rfl) (rm590 l Z a0 hw [] w_CS ca cb da db b571 b572 k573 b575 b576 k577 h0 Z0 S_w_CS F_b571_coder F_b571_value E_b575 F_b575_coder F_b575_value V_b572 V_b576 hc68 hc1 hc52 hc69) e589 E_b571 (g := (mkF m 20 #[rv b578, rv b580, rv b580] [(.ref b575), (.ref b571)])) (argsL := [(.ref b575)]) (rest := []) (W := 0) (lenOf pd_17 rfl) (hb hby d21_20) hml
  obtain ⟨rfl, N608q, e608⟩ := hQ608
  have N608 := Fr.app N0 N608q
  obtain ⟨fs, hr, hrun, hended, hW, hsame⟩ := X608.leave (v := some (.int (0 : Int32))) (fun h => by rw [hret] at h; cases h) hlk
  refine ⟨_, _, ?_, hrun, hended, _, _, rfl, ?_, ⟨_, rfl⟩, hW, hsame.mono (by decide) (by decide)⟩
  · show own_S p e below s₁ (mkF m 0 #[rv b578, rv b580, .unset] []) _
    refine own_aN X0 hx hby d21_0 ?_
    refine st586 _ ?_
    refine own_in X586 hx hby d21_4 (feq (by decide : ¬ ((1 : Int32) = (0 : Int32)))).1 ?_
    refine own_aN X586 hx hby d21_7 ?_
    refine st587 _ ?_
    refine XS.astoreN X587.here hx rfl (hb hby d21_11) rfl rfl (l' := #[rv b578, rv b580, rv b580]) rfl ?_
    refine own_aN X587 hx hby d21_12 ?_
    refine st588 _ ?_
    refine own_aN X588 hx hby d21_16 ?_
    refine st589 _ ?_
    refine st608 _ ?_
    refine own_iy (pc := 23) X608 hx hby d21_23 (teq (rfl : (0 : Int32) = (0 : Int32))).1 30 ?_
    refine own_k X608 hx hby d21_30 ?_
    exact retN X608 hx (t := .boolean) hret (by simp) (hb hby d21_31) hr
  · show Qrm585 Z w_CS ca cb da db b571 b572 k573 b575 b576 k577 b578 b580 h0 _ T608.heap _
    rw [e608]
    exact ⟨rfl, N608, rfl⟩
theorem own_t22_1 {p : Program} {l : Launch} {e : Env} {s : State} {m : MethodId} {args : Array Value} {below : List Frame} {meth : Method} {c : Code} {T0 : State} {locs : List Loc} (Z : State) (a0 : Array Value) (hw : own_HW Z a0) (w_CS : Int32) (w_SF : Value) (q1 q2 : Int64) (p3 ca cb cc da db dc : Int32) (h0 : Heap) (Z0 : Ext Z.heap h0) (S_w_CS : own_w_CS Z w_CS) (S_w_SF : own_w_SF Z w_SF) (R_w_SF : w_SF.isRef = true) (hc42 : own_ch ca) (hc64 : own_ch cb) (hc1 : ¬ (w_CS = (0 : Int32))) (hc43 : own_ch da) (hc54 : own_ch db) (hc50 : ca = da) (hc67 : ¬ (cb = db)) (hc45 : own_low ca) (hc65 : own_aln cb) (hc46 : own_low da) (hc56 : own_aln db) (hc52 : (ca.toInt8.toInt32) = (da.toInt8.toInt32)) (hc69 : ¬ ((cb.toInt8.toInt32) = (db.toInt8.toInt32))) (hc53 : (da.toInt8.toInt32) = (ca.toInt8.toInt32)) (hc70 : ¬ ((db.toInt8.toInt32) = (cb.toInt8.toInt32))) (X0 : Stand p l e room_1 s m args below meth c T0 locs 0 0) (hx : p.tables.exec = Jvm.exec) (hZ : Z.Warmed39 s.vm) (hby : c.code = code) (hml : c.maxLocals = 19) (hown : s.vm.findClass "com/example/faretally/faretally/ReasonEqualsPinLaw" = some m.cls) (e0 : T0.heap = h0) (N0 : Fr Z.heap.size locs) (hret : meth.sig.returnType = some .boolean) (hlk : meth.locks = false) :
    ∃ s₂ o, Steps p.tables e below (T0.setTop (mkF m 153 (own_T q1 q2 p3 2 ca cb cc 2 da db dc .unset .unset .unset .unset .unset .unset) [])) s₂ ∧ s₂.status = .running ∧ Ended s₂ below o ∧ ∃ v L, o = .returned v ∧ (v = some (.int (1 : Int32)) ∧ Fr Z.heap.size L) ∧ FrameEnd s o s₂ L room_1.cells room_1.slots := by
  obtain ⟨_, T570, Lc570, X570, hQ570, st570⟩ := own_static (y := y_7) X0 hx hZ hown (own_w hw 10 rfl) (own_w hw 11 rfl) (own_w hw 4 rfl) (own_w hw 12 rfl) (rm196 l Z a0 hw [] w_CS ca cb cc h0 Z0 S_w_CS hc42 hc64 hc1) e0 (g := (mkF m 161 (own_T q1 q2 p3 2 ca cb cc 2 da db dc .unset .unset .unset .unset .unset .unset) [(.int cc), (.int cb), (.int ca), (.int (2 : Int32))])) (argsL := [(.int (2 : Int32)), (.int ca), (.int cb), (.int cc)]) (rest := []) (W := 0) (lenOf pd_6 rfl) (hb hby at_161) hml
  obtain ⟨b571, b572, k573, rfl, N570q, K570q, szn_b571, szn_b572, q570_E_b571, q570_F_b571_coder, q570_F_b571_value, q570_V_b572⟩ := hQ570
  have g_b571 : Z.heap.size ≤ b571 := Nat.le_trans Z0.1 szn_b571
  have sz_b571 : h0.size ≤ b571 := Nat.le_trans (Keep.refl h0 []).1 szn_b571
  have g_b572 : Z.heap.size ≤ b572 := Nat.le_trans Z0.1 szn_b572
  have sz_b572 : h0.size ≤ b572 := Nat.le_trans (Keep.refl h0 []).1 szn_b572
  have K570 : Keep h0 T570.heap [] := (Keep.refl h0 []).trans K570q all0
  have XX570 : Ext Z.heap T570.heap := own_extK Z0 K570q all0
  have N570 := Fr.app N0 N570q
  obtain ⟨_, T574, Lc574, X574, hQ574, st574⟩ := own_static (y := y_7) X570 hx hZ hown (own_w hw 10 rfl) (own_w hw 11 rfl) (own_w hw 4 rfl) (own_w hw 12 rfl) (rm196 l Z a0 hw [] w_CS da db dc T570.heap XX570 S_w_CS hc43 hc54 hc1) rfl (g := (mkF m 174 (own_T q1 q2 p3 2 ca cb cc 2 da db dc (rv b571) .unset .unset .unset .unset .unset) [(.int dc), (.int db), (.int da), (.int (2 : Int32))])) (argsL := [(.int (2 : Int32)), (.int da), (.int db), (.int dc)]) (rest := []) (W := 0) (lenOf pd_6 rfl) (hb hby at_174) hml
  obtain ⟨b575, b576, k577, rfl, N574q, K574q, szn_b575, szn_b576, q574_E_b575, q574_F_b575_coder, q574_F_b575_value, q574_V_b576⟩ := hQ574
  have g_b575 : Z.heap.size ≤ b575 := Nat.le_trans XX570.1 szn_b575
  have sz_b575 : h0.size ≤ b575 := Nat.le_trans K570.1 szn_b575
  have g_b576 : Z.heap.size ≤ b576 := Nat.le_trans XX570.1 szn_b576
  have sz_b576 : h0.size ≤ b576 := Nat.le_trans K570.1 szn_b576
  have K574 : Keep h0 T574.heap [] := K570.trans K574q all0
  have XX574 : Ext Z.heap T574.heap := own_extK XX570 K574q all0
  have N574 := Fr.app N570 N574q
  obtain ⟨T578, h578, X578, e578, E578, A578, D578, -, st578⟩ := newO X574 hx hZ hown (own_w hw 43 rfl) (own_w hw 44 rfl) (own_w hw 45 rfl) rfl (g := (mkF m 226 (own_T q1 q2 p3 2 ca cb cc 2 da db dc (rv b571) (rv b575) (iv (0 : Int32)) .unset .unset .unset) [])) rfl (hb hby at_226) (by decide) (by decide)
  obtain ⟨b578, g578⟩ : ∃ z, z = T574.heap.size := ⟨_, rfl⟩
  rw [← g578] at A578 D578 st578
  have g_b578 : Z.heap.size ≤ b578 := Nat.le_trans XX574.1 (Nat.le_of_eq g578.symm)
  have sz_b578 : h0.size ≤ b578 := Nat.le_trans K574.1 (Nat.le_of_eq g578.symm)
  have F_b578_written : Fld Z h578 b578 "com/example/faretally/faretally/RefundRequest$Involuntary$Reason" "written" "Ljava/lang/String;" .null := D578 (Or.inr (own_w hw 96 rfl)) (ty := (.object "java/lang/String")) (by decide)
  have K578 : Keep h0 h578 [] := K574.ext E578
  have XX578 : Ext Z.heap h578 := own_ext2 XX574 E578
  obtain ⟨_, T579, Lc579, X579, hQ579, st579⟩ := own_special (y := y_18) X578 hx hZ hown rfl (own_w hw 46 rfl) (own_w hw 47 rfl) (own_w hw 45 rfl) (own_w hw 48 rfl) (rm244 l Z a0 hw [] w_CS w_SF ca cb b571 b572 k573 b578 h578 XX578 S_w_CS S_w_SF R_w_SF A578 F_b578_written ((q570_E_b571.keep K574q).ext E578) ((q570_F_b571_coder.keep K574q nin0).ext E578) ((q570_F_b571_value.keep K574q nin0).ext E578) ((q570_V_b572.keep K574q nin0).ext E578) g_b578 hc1 hc42 hc45 hc64 hc65) e578 b578 (g := (mkF m 232 (own_T q1 q2 p3 2 ca cb cc 2 da db dc (rv b571) (rv b575) (iv (0 : Int32)) .unset .unset .unset) [(.ref b571), (.ref b578), (.ref b578)])) (argsL := [(.ref b571)]) (rest := [(.ref b578)]) (W := 1) (lenOf pd_15 rfl) (hb hby at_232) hml
  obtain ⟨rfl, N579q, K579q, q579_E_b578, q579_F_b578_written⟩ := hQ579
  have K579 : Keep h0 T579.heap [] := K578.trans K579q (allS (Or.inr sz_b578) all0)
  have XX579 : Ext Z.heap T579.heap := own_extK XX578 K579q (allS g_b578 all0)
  have N579 := Fr.app N574 N579q
  obtain ⟨T580, h580, X580, e580, E580, A580, D580, -, st580⟩ := newO X579 hx hZ hown (own_w hw 43 rfl) (own_w hw 44 rfl) (own_w hw 45 rfl) rfl (g := (mkF m 237 (own_T q1 q2 p3 2 ca cb cc 2 da db dc (rv b571) (rv b575) (iv (0 : Int32)) (rv b578) .unset .unset) [])) rfl (hb hby at_237) (by decide) (by decide)
  obtain ⟨b580, g580⟩ : ∃ z, z = T579.heap.size := ⟨_, rfl⟩
  rw [← g580] at A580 D580 st580
  have g_b580 : Z.heap.size ≤ b580 := Nat.le_trans XX579.1 (Nat.le_of_eq g580.symm)
  have sz_b580 : h0.size ≤ b580 := Nat.le_trans K579.1 (Nat.le_of_eq g580.symm)
  have F_b580_written : Fld Z h580 b580 "com/example/faretally/faretally/RefundRequest$Involuntary$Reason" "written" "Ljava/lang/String;" .null := D580 (Or.inr (own_w hw 96 rfl)) (ty := (.object "java/lang/String")) (by decide)
  have K580 : Keep h0 h580 [] := K579.ext E580
  have XX580 : Ext Z.heap h580 := own_ext2 XX579 E580
  have ne_b575_b578 : b575 ≠ b578 := Nat.ne_of_lt (Nat.lt_of_lt_of_le q574_E_b575.lt (Nat.le_of_eq g578.symm))
  have f582_F_b575_coder : Fld Z h580 b575 "java/lang/String" "coder" "B" (.int (0 : Int32)) := (((q574_F_b575_coder.ext E578).keep K579q (ninS ne_b575_b578 (nin0))).ext E580)
  have f583_F_b575_value : Fld Z h580 b575 "java/lang/String" "value" "[B" (.ref b576) := (((q574_F_b575_value.ext E578).keep K579q (ninS ne_b575_b578 (nin0))).ext E580)
  have ne_b576_b578 : b576 ≠ b578 := Nat.ne_of_lt (Nat.lt_of_lt_of_le q574_V_b576.lt (Nat.le_of_eq g578.symm))
  have f584_V_b576 : Arv Z h580 b576 k577 .byte (2 : Int32) [(.int (da.toInt8.toInt32)), (.int (db.toInt8.toInt32))] (.int (0 : Int32)) := (((q574_V_b576.ext E578).keep K579q (ninS ne_b576_b578 (nin0))).ext E580)
  obtain ⟨_, T581, Lc581, X581, hQ581, st581⟩ := own_special (y := y_18) X580 hx hZ hown rfl (own_w hw 46 rfl) (own_w hw 47 rfl) (own_w hw 45 rfl) (own_w hw 48 rfl) (rm244 l Z a0 hw [] w_CS w_SF da db b575 b576 k577 b580 h580 XX580 S_w_CS S_w_SF R_w_SF A580 F_b580_written (((q574_E_b575.ext E578).keep K579q).ext E580) f582_F_b575_coder f583_F_b575_value f584_V_b576 g_b580 hc1 hc43 hc46 hc54 hc56) e580 b580 (g := (mkF m 243 (own_T q1 q2 p3 2 ca cb cc 2 da db dc (rv b571) (rv b575) (iv (0 : Int32)) (rv b578) .unset .unset) [(.ref b575), (.ref b580), (.ref b580)])) (argsL := [(.ref b575)]) (rest := [(.ref b580)]) (W := 1) (lenOf pd_15 rfl) (hb hby at_243) hml
  obtain ⟨rfl, N581q, K581q, q581_E_b580, q581_F_b580_written⟩ := hQ581
  have K581 : Keep h0 T581.heap [] := K580.trans K581q (allS (Or.inr sz_b580) all0)
  have XX581 : Ext Z.heap T581.heap := own_extK XX580 K581q (allS g_b580 all0)
  have N581 := Fr.app N579 N581q
  have ne_b578_b580 : b578 ≠ b580 := Nat.ne_of_lt (Nat.lt_of_lt_of_le q579_E_b578.lt (Nat.le_of_eq g580.symm))
  have f610_F_b578_written : Fld Z T581.heap b578 "com/example/faretally/faretally/RefundRequest$Involuntary$Reason" "written" "Ljava/lang/String;" (.ref b571) := ((q579_F_b578_written.ext E580).keep K581q (ninS ne_b578_b580 (nin0)))
  have f611_E_b571 : Exa Z T581.heap b571 "java/lang/String" := (((((q570_E_b571.keep K574q).ext E578).keep K579q).ext E580).keep K581q)
  have ne_b571_b578 : b571 ≠ b578 := Nat.ne_of_lt (Nat.lt_of_lt_of_le (q570_E_b571.keep K574q).lt (Nat.le_of_eq g578.symm))
  have ne_b571_b580 : b571 ≠ b580 := Nat.ne_of_lt (Nat.lt_of_lt_of_le (((q570_E_b571.keep K574q).ext E578).keep K579q).lt (Nat.le_of_eq g580.symm))
  have f612_F_b571_coder : Fld Z T581.heap b571 "java/lang/String" "coder" "B" (.int (0 : Int32)) := (((((q570_F_b571_coder.keep K574q nin0).ext E578).keep K579q (ninS ne_b571_b578 (nin0))).ext E580).keep K581q (ninS ne_b571_b580 (nin0)))
  have f613_F_b571_value : Fld Z T581.heap b571 "java/lang/String" "value" "[B" (.ref b572) := (((((q570_F_b571_value.keep K574q nin0).ext E578).keep K579q (ninS ne_b571_b578 (nin0))).ext E580).keep K581q (ninS ne_b571_b580 (nin0)))
  have ne_b575_b580 : b575 ≠ b580 := Nat.ne_of_lt (Nat.lt_of_lt_of_le ((q574_E_b575.ext E578).keep K579q).lt (Nat.le_of_eq g580.symm))
  have ne_b572_b578 : b572 ≠ b578 := Nat.ne_of_lt (Nat.lt_of_lt_of_le (q570_V_b572.keep K574q nin0).lt (Nat.le_of_eq g578.symm))
  have ne_b572_b580 : b572 ≠ b580 := Nat.ne_of_lt (Nat.lt_of_lt_of_le (((q570_V_b572.keep K574q nin0).ext E578).keep K579q (ninS ne_b572_b578 (nin0))).lt (Nat.le_of_eq g580.symm))
  have f614_V_b572 : Arv Z T581.heap b572 k573 .byte (2 : Int32) [(.int (ca.toInt8.toInt32)), (.int (cb.toInt8.toInt32))] (.int (0 : Int32)) := (((((q570_V_b572.keep K574q nin0).ext E578).keep K579q (ninS ne_b572_b578 (nin0))).ext E580).keep K581q (ninS ne_b572_b580 (nin0)))
  have ne_b576_b580 : b576 ≠ b580 := Nat.ne_of_lt (Nat.lt_of_lt_of_le ((q574_V_b576.ext E578).keep K579q (ninS ne_b576_b578 (nin0))).lt (Nat.le_of_eq g580.symm))
  have ne_b571_b575 : b571 ≠ b575 := Nat.ne_of_lt (Nat.lt_of_lt_of_le q570_E_b571.lt szn_b575)
  obtain ⟨_, T609, Lc609, X609, hQ609, st609⟩ := own_virtual (y := y_21) X581 hx hZ hown (own_w hw 97 rfl) (own_w hw 98 rfl) (own_w hw 100 rfl) (own_w hw 99 rfl) (own_w hw 45 rfl) (own_w hw 101 rfl) (rm585 l Z a0 hw [] w_CS ca cb da db b571 b572 k573 b575 b576 k577 b578 b580 T581.heap XX581 S_w_CS f610_F_b578_written q581_E_b580 q581_F_b580_written f611_E_b571 f612_F_b571_coder f613_F_b571_value ((((q574_E_b575.ext E578).keep K579q).ext E580).keep K581q) (f582_F_b575_coder.keep K581q (ninS ne_b575_b580 (nin0))) (f583_F_b575_value.keep K581q (ninS ne_b575_b580 (nin0))) f614_V_b572 (f584_V_b576.keep K581q (ninS ne_b576_b580 (nin0))) ne_b571_b575 hc1 hc52 hc69) rfl ((q579_E_b578.ext E580).keep K581q) (g := (mkF m 252 (own_T q1 q2 p3 2 ca cb cc 2 da db dc (rv b571) (rv b575) (iv (0 : Int32)) (rv b578) (rv b580) .unset) [(.ref b580), (.ref b578)])) (argsL := [(.ref b580)]) (rest := []) (W := 0) (lenOf pd_17 rfl) (hb hby at_252) hml
  obtain ⟨rfl, N609q, e609⟩ := hQ609
  have N609 := Fr.app N581 N609q
  obtain ⟨_, T615, Lc615, X615, hQ615, st615⟩ := own_virtual (y := y_21) X609 hx hZ hown (own_w hw 97 rfl) (own_w hw 98 rfl) (own_w hw 100 rfl) (own_w hw 99 rfl) (own_w hw 45 rfl) (own_w hw 101 rfl) (rm585 l Z a0 hw [] w_CS da db ca cb b575 b576 k577 b571 b572 k573 b580 b578 T581.heap XX581 S_w_CS q581_F_b580_written ((q579_E_b578.ext E580).keep K581q) f610_F_b578_written ((((q574_E_b575.ext E578).keep K579q).ext E580).keep K581q) (f582_F_b575_coder.keep K581q (ninS ne_b575_b580 (nin0))) (f583_F_b575_value.keep K581q (ninS ne_b575_b580 (nin0))) f611_E_b571 f612_F_b571_coder f613_F_b571_value (f584_V_b576.keep K581q (ninS ne_b576_b580 (nin0))) f614_V_b572 (Ne.symm ne_b571_b575) hc1 hc53 hc70) e609 q581_E_b580 (g := (mkF m 276 (own_T q1 q2 p3 2 ca cb cc 2 da db dc (rv b571) (rv b575) (iv (0 : Int32)) (rv b578) (rv b580) (iv (1 : Int32))) [(.ref b578), (.ref b580)])) (argsL := [(.ref b578)]) (rest := []) (W := 0) (lenOf pd_17 rfl) (hb hby at_276) hml
  obtain ⟨rfl, N615q, e615⟩ := hQ615
  have N615 := Fr.app N609 N615q
  obtain ⟨_, T616, Lc616, X616, hQ616, st616⟩ := own_virtual (y := y_21) X615 hx hZ hown (own_w hw 97 rfl) (own_w hw 98 rfl) (own_w hw 100 rfl) (own_w hw 99 rfl) (own_w hw 45 rfl) (own_w hw 101 rfl) (rm132 l Z a0 hw [] b571 b578 T581.heap XX581 ((q579_E_b578.ext E580).keep K581q) f610_F_b578_written f611_E_b571) e615 ((q579_E_b578.ext E580).keep K581q) (g := (mkF m 300 (own_T q1 q2 p3 2 ca cb cc 2 da db dc (rv b571) (rv b575) (iv (0 : Int32)) (rv b578) (rv b580) (iv (1 : Int32))) [(.ref b578), (.ref b578)])) (argsL := [(.ref b578)]) (rest := []) (W := 0) (lenOf pd_17 rfl) (hb hby at_300) hml
  obtain ⟨rfl, N616q, e616⟩ := hQ616
  have N616 := Fr.app N615 N616q
  obtain ⟨_, T617, Lc617, X617, hQ617, st617⟩ := own_virtual (y := y_21) X616 hx hZ hown (own_w hw 97 rfl) (own_w hw 98 rfl) (own_w hw 100 rfl) (own_w hw 99 rfl) (own_w hw 45 rfl) (own_w hw 101 rfl) (rm140 l Z a0 hw [] b571 b578 T581.heap XX581 f611_E_b571) e616 ((q579_E_b578.ext E580).keep K581q) (g := (mkF m 322 (own_T q1 q2 p3 2 ca cb cc 2 da db dc (rv b571) (rv b575) (iv (0 : Int32)) (rv b578) (rv b580) (iv (1 : Int32))) [(.ref b571), (.ref b578)])) (argsL := [(.ref b571)]) (rest := []) (W := 0) (lenOf pd_17 rfl) (hb hby at_322) hml
  obtain ⟨rfl, N617q, e617⟩ := hQ617
  have N617 := Fr.app N616 N617q
  obtain ⟨_, T618, Lc618, X618, hQ618, st618⟩ := own_virtual (y := y_21) X617 hx hZ hown (own_w hw 97 rfl) (own_w hw 98 rfl) (own_w hw 100 rfl) (own_w hw 99 rfl) (own_w hw 45 rfl) (own_w hw 101 rfl) (rm143 l Z a0 hw [] b578 T581.heap XX581 ) e617 ((q579_E_b578.ext E580).keep K581q) (g := (mkF m 343 (own_T q1 q2 p3 2 ca cb cc 2 da db dc (rv b571) (rv b575) (iv (0 : Int32)) (rv b578) (rv b580) (iv (1 : Int32))) [.null, (.ref b578)])) (argsL := [.null]) (rest := []) (W := 0) (lenOf pd_17 rfl) (hb hby at_343) hml
  obtain ⟨rfl, N618q, e618⟩ := hQ618
  have N618 := Fr.app N617 N618q
  obtain ⟨fs, hr, hrun, hended, hW, hsame⟩ := X618.leave (v := some (.int (1 : Int32))) (fun h => by rw [hret] at h; cases h) hlk
  refine ⟨_, _, ?_, hrun, hended, _, _, rfl, ⟨rfl, N618⟩, ⟨_, rfl⟩, hW, hsame.mono (by decide) (by decide)⟩
  show own_S p e below T0 (mkF m 153 (own_T q1 q2 p3 2 ca cb cc 2 da db dc .unset .unset .unset .unset .unset .unset) []) _
  refine own_i X0 hx hby at_153 ?_
  refine own_i X0 hx hby at_155 ?_
  refine own_i X0 hx hby at_157 ?_
  refine own_i X0 hx hby at_159 ?_
  refine st570 _ ?_
  refine XS.astore X570.here hx rfl (hb hby at_164) rfl rfl (l' := (own_T q1 q2 p3 2 ca cb cc 2 da db dc (rv b571) .unset .unset .unset .unset .unset)) rfl ?_
  refine own_i X570 hx hby at_166 ?_
  refine own_i X570 hx hby at_168 ?_
  refine own_i X570 hx hby at_170 ?_
  refine own_i X570 hx hby at_172 ?_
  refine st574 _ ?_
  refine XS.astore X574.here hx rfl (hb hby at_177) rfl rfl (l' := (own_T q1 q2 p3 2 ca cb cc 2 da db dc (rv b571) (rv b575) .unset .unset .unset .unset)) rfl ?_
  refine own_i X574 hx hby at_179 ?_
  refine own_i X574 hx hby at_181 ?_
  refine own_cn X574 hx hby at_183 (teq (rfl : (2 : Int32) = (2 : Int32))).2 ?_
  refine own_i X574 hx hby at_186 ?_
  refine own_i X574 hx hby at_188 ?_
  refine own_cn X574 hx hby at_190 (teq hc50).2 ?_
  refine own_i X574 hx hby at_193 ?_
  refine own_k X574 hx hby at_195 ?_
  refine own_cn X574 hx hby at_196 (flt (Int32.lt_irrefl : ¬ ((2 : Int32) < (2 : Int32)))).1 ?_
  refine own_i X574 hx hby at_199 ?_
  refine own_i X574 hx hby at_201 ?_
  refine own_cy (pc := 203) X574 hx hby at_203 (feq hc67).2 223 ?_
  refine own_k X574 hx hby at_223 ?_
  refine XS.istore X574.here hx rfl (hb hby at_224) rfl (l' := (own_T q1 q2 p3 2 ca cb cc 2 da db dc (rv b571) (rv b575) (iv (0 : Int32)) .unset .unset .unset)) rfl ?_
  refine st578 _ ?_
  refine XS.dup X578.here hx rfl (hb hby at_229) rfl rfl ?_
  refine own_a X578 hx hby at_230 ?_
  refine st579 _ ?_
  refine XS.astore X579.here hx rfl (hb hby at_235) rfl rfl (l' := (own_T q1 q2 p3 2 ca cb cc 2 da db dc (rv b571) (rv b575) (iv (0 : Int32)) (rv b578) .unset .unset)) rfl ?_
  refine st580 _ ?_
  refine XS.dup X580.here hx rfl (hb hby at_240) rfl rfl ?_
  refine own_a X580 hx hby at_241 ?_
  refine st581 _ ?_
  refine XS.astore X581.here hx rfl (hb hby at_246) rfl rfl (l' := (own_T q1 q2 p3 2 ca cb cc 2 da db dc (rv b571) (rv b575) (iv (0 : Int32)) (rv b578) (rv b580) .unset)) rfl ?_
  refine own_a X581 hx hby at_248 ?_
  refine own_a X581 hx hby at_250 ?_
  refine st609 _ ?_
  refine own_i X609 hx hby at_255 ?_
  refine own_cn X609 hx hby at_257 (teq (rfl : (0 : Int32) = (0 : Int32))).2 ?_
  refine own_k X609 hx hby at_260 ?_
  refine own_go (pc := 261) X609 hx hby at_261 265 ?_
  refine XS.istore X609.here hx rfl (hb hby at_265) rfl (l' := (own_T q1 q2 p3 2 ca cb cc 2 da db dc (rv b571) (rv b575) (iv (0 : Int32)) (rv b578) (rv b580) (iv (1 : Int32)))) rfl ?_
  refine own_i X609 hx hby at_267 ?_
  refine own_in X609 hx hby at_269 (feq (by decide : ¬ ((1 : Int32) = (0 : Int32)))).1 ?_
  refine own_a X609 hx hby at_272 ?_
  refine own_a X609 hx hby at_274 ?_
  refine st615 _ ?_
  refine own_i X615 hx hby at_279 ?_
  refine own_cn X615 hx hby at_281 (teq (rfl : (0 : Int32) = (0 : Int32))).2 ?_
  refine own_k X615 hx hby at_284 ?_
  refine own_go (pc := 285) X615 hx hby at_285 289 ?_
  refine XS.istore X615.here hx rfl (hb hby at_289) rfl (l' := (own_T q1 q2 p3 2 ca cb cc 2 da db dc (rv b571) (rv b575) (iv (0 : Int32)) (rv b578) (rv b580) (iv (1 : Int32)))) rfl ?_
  refine own_i X615 hx hby at_291 ?_
  refine own_in X615 hx hby at_293 (feq (by decide : ¬ ((1 : Int32) = (0 : Int32)))).1 ?_
  refine own_a X615 hx hby at_296 ?_
  refine own_a X615 hx hby at_298 ?_
  refine st616 _ ?_
  refine own_in X616 hx hby at_303 (feq (by decide : ¬ ((1 : Int32) = (0 : Int32)))).1 ?_
  refine own_k X616 hx hby at_306 ?_
  refine own_go (pc := 307) X616 hx hby at_307 311 ?_
  refine XS.istore X616.here hx rfl (hb hby at_311) rfl (l' := (own_T q1 q2 p3 2 ca cb cc 2 da db dc (rv b571) (rv b575) (iv (0 : Int32)) (rv b578) (rv b580) (iv (1 : Int32)))) rfl ?_
  refine own_i X616 hx hby at_313 ?_
  refine own_in X616 hx hby at_315 (feq (by decide : ¬ ((1 : Int32) = (0 : Int32)))).1 ?_
  refine own_a X616 hx hby at_318 ?_
  refine own_a X616 hx hby at_320 ?_
  refine st617 _ ?_
  refine own_in X617 hx hby at_325 (teq (rfl : (0 : Int32) = (0 : Int32))).2 ?_
  refine own_k X617 hx hby at_328 ?_
  refine own_go (pc := 329) X617 hx hby at_329 333 ?_
  refine XS.istore X617.here hx rfl (hb hby at_333) rfl (l' := (own_T q1 q2 p3 2 ca cb cc 2 da db dc (rv b571) (rv b575) (iv (0 : Int32)) (rv b578) (rv b580) (iv (1 : Int32)))) rfl ?_
  refine own_i X617 hx hby at_335 ?_
  refine own_in X617 hx hby at_337 (feq (by decide : ¬ ((1 : Int32) = (0 : Int32)))).1 ?_
  refine own_a X617 hx hby at_340 ?_
  refine XS.aconstNull X617.here hx rfl (hb hby at_342) ?_
  refine st618 _ ?_
  refine own_in X618 hx hby at_346 (teq (rfl : (0 : Int32) = (0 : Int32))).2 ?_
  refine own_k X618 hx hby at_349 ?_
  refine own_go (pc := 350) X618 hx hby at_350 354 ?_
  refine XS.istore X618.here hx rfl (hb hby at_354) rfl (l' := (own_T q1 q2 p3 2 ca cb cc 2 da db dc (rv b571) (rv b575) (iv (0 : Int32)) (rv b578) (rv b580) (iv (1 : Int32)))) rfl ?_
  refine own_i X618 hx hby at_356 ?_
  exact retN X618 hx (t := .boolean) hret (by simp) (hb hby at_358) hr
def Qrm647 (Z : State) (ca cb da db : Int32) (b621 : Addr) (k622 : ClassId) (b625 : Addr) (k626 : ClassId) (h0 : Heap) (v : Option Value) (h : Heap) (L : List Loc) : Prop := v = some (.int (1 : Int32)) ∧ Fr Z.heap.size L ∧ h = h0
theorem rm647 (l : Launch) (Z : State) (a0 : Array Value) (hw : own_HW Z a0) (ws : List Jvm.Cond) (ca cb da db : Int32) (b621 : Addr) (k622 : ClassId) (b625 : Addr) (k626 : ClassId) (h0 : Heap) (Z0 : Ext Z.heap h0) (V_b621 : Arv Z h0 b621 k622 .byte (2 : Int32) [(.int (ca.toInt8.toInt32)), (.int (cb.toInt8.toInt32))] (.int (0 : Int32))) (V_b625 : Arv Z h0 b625 k626 .byte (2 : Int32) [(.int (da.toInt8.toInt32)), (.int (db.toInt8.toInt32))] (.int (0 : Int32))) (hc52 : (ca.toInt8.toInt32) = (da.toInt8.toInt32)) (hc73 : (cb.toInt8.toInt32) = (db.toInt8.toInt32)) :
    own_met l y_19 jdk_43_method_13_code 3 (some .boolean) ws ({ frames := 0, cells := 0, slots := 0, locals := 0 } : Room) Z #[(.ref b621), (.ref b625)] h0 (Qrm647 Z ca cb da db b621 k622 b625 k626 h0) := by
  refine own_start (plainFor_of_name pn_5) (fun m => ef_jdk_43_method_13_RR m b621 b625) ?_
  intro p e s m below meth c s₁ hx hby hml hown hnm X0 hZ e0 hret hlk
  have N0 := Fr.nil Z.heap.size
  obtain ⟨cl648, Ar648, q648, S648, Nn648, H648, G648⟩ := id V_b621
  obtain ⟨cl649, Ar649, q649, S649, Nn649, H649, G649⟩ := id V_b625
  obtain ⟨cl650, Ar650, q650, S650, Nn650, H650, G650⟩ := id V_b621
  obtain ⟨cl651, Ar651, q651, S651, Nn651, H651, G651⟩ := id V_b621
  have hin651 : ¬ ((0 : Int32) < 0 ∨ cl651.slots.size ≤ ((0 : Int32)).toNatClampNeg) := inb_of S651 ⟨by decide, by decide⟩
  have hat651 : cl651.slots[((0 : Int32)).toNatClampNeg]? = some (.int (ca.toInt8.toInt32)) := Has.at H651 hin651 rfl
  obtain ⟨cl652, Ar652, q652, S652, Nn652, H652, G652⟩ := id V_b625
  have hin652 : ¬ ((0 : Int32) < 0 ∨ cl652.slots.size ≤ ((0 : Int32)).toNatClampNeg) := inb_of S652 ⟨by decide, by decide⟩
  have hat652 : cl652.slots[((0 : Int32)).toNatClampNeg]? = some (.int (da.toInt8.toInt32)) := Has.at H652 hin652 rfl
  obtain ⟨cl653, Ar653, q653, S653, Nn653, H653, G653⟩ := id V_b621
  obtain ⟨cl654, Ar654, q654, S654, Nn654, H654, G654⟩ := id V_b621
  have hin654 : ¬ ((1 : Int32) < 0 ∨ cl654.slots.size ≤ ((1 : Int32)).toNatClampNeg) := inb_of S654 ⟨by decide, by decide⟩
  have hat654 : cl654.slots[((1 : Int32)).toNatClampNeg]? = some (.int (cb.toInt8.toInt32)) := Has.at H654 hin654 rfl
  obtain ⟨cl655, Ar655, q655, S655, Nn655, H655, G655⟩ := id V_b625
  have hin655 : ¬ ((1 : Int32) < 0 ∨ cl655.slots.size ≤ ((1 : Int32)).toNatClampNeg) := inb_of S655 ⟨by decide, by decide⟩
  have hat655 : cl655.slots[((1 : Int32)).toNatClampNeg]? = some (.int (db.toInt8.toInt32)) := Has.at H655 hin655 rfl
  obtain ⟨cl656, Ar656, q656, S656, Nn656, H656, G656⟩ := id V_b621
  obtain ⟨fs, hr, hrun, hended, hW, hsame⟩ := X0.leave (v := some (.int (1 : Int32))) (fun h => by rw [hret] at h; cases h) hlk
  refine ⟨_, _, ?_, hrun, hended, _, _, rfl, ?_, ⟨_, rfl⟩, hW, hsame.mono (by decide) (by decide)⟩
  · show own_S p e below s₁ (mkF m 0 #[rv b621, rv b625, .unset] []) _
    refine own_aN X0 hx hby d23_0 ?_
    refine X0.arraylength hx (by rw [e0]; exact Ar648.1) (State.isArrayOf_alike hZ.alike Ar648.2.1) (g := (mkF m 1 #[rv b621, rv b625, .unset] [(.ref b621)])) rfl rfl (hb hby d23_1) _ ?_
    rw [len_of S648 Nn648]
    refine own_aN X0 hx hby d23_2 ?_
    refine X0.arraylength hx (by rw [e0]; exact Ar649.1) (State.isArrayOf_alike hZ.alike Ar649.2.1) (g := (mkF m 3 #[rv b621, rv b625, .unset] [(.ref b625), (.int (2 : Int32))])) rfl rfl (hb hby d23_3) _ ?_
    rw [len_of S649 Nn649]
    refine own_cn X0 hx hby d23_4 (teq (rfl : (2 : Int32) = (2 : Int32))).2 ?_
    refine own_k X0 hx hby d23_7 ?_
    refine XS.istoreN X0.here hx rfl (hb hby d23_8) rfl (l' := #[rv b621, rv b625, iv (0 : Int32)]) rfl ?_
    refine own_iN X0 hx hby d23_9 ?_
    refine own_aN X0 hx hby d23_10 ?_
    refine X0.arraylength hx (by rw [e0]; exact Ar650.1) (State.isArrayOf_alike hZ.alike Ar650.2.1) (g := (mkF m 11 #[rv b621, rv b625, iv (0 : Int32)] [(.ref b621), (.int (0 : Int32))])) rfl rfl (hb hby d23_11) _ ?_
    rw [len_of S650 Nn650]
    refine own_cn X0 hx hby d23_12 (tlt (by decide : (0 : Int32) < (2 : Int32))).2.1 ?_
    refine own_aN X0 hx hby d23_15 ?_
    refine own_iN X0 hx hby d23_16 ?_
    refine X0.baloadBytes hx (j := (0 : Int32)) (v := (.int (ca.toInt8.toInt32))) (by rw [e0]; exact Ar651.1) (State.isArrayOf_alike hZ.alike Ar651.2.1) Ar651.2.2 hin651 hat651 (g := (mkF m 17 #[rv b621, rv b625, iv (0 : Int32)] [(.int (0 : Int32)), (.ref b621)])) rfl rfl (hb hby d23_17) _ ?_
    refine own_aN X0 hx hby d23_18 ?_
    refine own_iN X0 hx hby d23_19 ?_
    refine X0.baloadBytes hx (j := (0 : Int32)) (v := (.int (da.toInt8.toInt32))) (by rw [e0]; exact Ar652.1) (State.isArrayOf_alike hZ.alike Ar652.2.1) Ar652.2.2 hin652 hat652 (g := (mkF m 20 #[rv b621, rv b625, iv (0 : Int32)] [(.int (0 : Int32)), (.ref b625), (.int (ca.toInt8.toInt32))])) rfl rfl (hb hby d23_20) _ ?_
    refine own_cy (pc := 21) X0 hx hby d23_21 (teq hc52).1 26 ?_
    refine XS.iinc X0.here hx rfl (hb hby d23_26) rfl (l' := #[rv b621, rv b625, iv (1 : Int32)]) rfl ?_
    refine own_go (pc := 29) X0 hx hby d23_29 9 ?_
    refine own_iN X0 hx hby d23_9 ?_
    refine own_aN X0 hx hby d23_10 ?_
    refine X0.arraylength hx (by rw [e0]; exact Ar653.1) (State.isArrayOf_alike hZ.alike Ar653.2.1) (g := (mkF m 11 #[rv b621, rv b625, iv (1 : Int32)] [(.ref b621), (.int (1 : Int32))])) rfl rfl (hb hby d23_11) _ ?_
    rw [len_of S653 Nn653]
    refine own_cn X0 hx hby d23_12 (tlt (by decide : (1 : Int32) < (2 : Int32))).2.1 ?_
    refine own_aN X0 hx hby d23_15 ?_
    refine own_iN X0 hx hby d23_16 ?_
    refine X0.baloadBytes hx (j := (1 : Int32)) (v := (.int (cb.toInt8.toInt32))) (by rw [e0]; exact Ar654.1) (State.isArrayOf_alike hZ.alike Ar654.2.1) Ar654.2.2 hin654 hat654 (g := (mkF m 17 #[rv b621, rv b625, iv (1 : Int32)] [(.int (1 : Int32)), (.ref b621)])) rfl rfl (hb hby d23_17) _ ?_
    refine own_aN X0 hx hby d23_18 ?_
    refine own_iN X0 hx hby d23_19 ?_
    refine X0.baloadBytes hx (j := (1 : Int32)) (v := (.int (db.toInt8.toInt32))) (by rw [e0]; exact Ar655.1) (State.isArrayOf_alike hZ.alike Ar655.2.1) Ar655.2.2 hin655 hat655 (g := (mkF m 20 #[rv b621, rv b625, iv (1 : Int32)] [(.int (1 : Int32)), (.ref b625), (.int (cb.toInt8.toInt32))])) rfl rfl (hb hby d23_20) _ ?_
    refine own_cy (pc := 21) X0 hx hby d23_21 (teq hc73).1 26 ?_
    refine XS.iinc X0.here hx rfl (hb hby d23_26) rfl (l' := #[rv b621, rv b625, iv (2 : Int32)]) rfl ?_
    refine own_go (pc := 29) X0 hx hby d23_29 9 ?_
    refine own_iN X0 hx hby d23_9 ?_
    refine own_aN X0 hx hby d23_10 ?_
    refine X0.arraylength hx (by rw [e0]; exact Ar656.1) (State.isArrayOf_alike hZ.alike Ar656.2.1) (g := (mkF m 11 #[rv b621, rv b625, iv (2 : Int32)] [(.ref b621), (.int (2 : Int32))])) rfl rfl (hb hby d23_11) _ ?_
    rw [len_of S656 Nn656]
    refine own_cy (pc := 12) X0 hx hby d23_12 (flt (Int32.lt_irrefl : ¬ ((2 : Int32) < (2 : Int32)))).2.1 32 ?_
    refine own_k X0 hx hby d23_32 ?_
    exact retN X0 hx (t := .boolean) hret (by simp) (hb hby d23_33) hr
  · show Qrm647 Z ca cb da db b621 k622 b625 k626 h0 _ s₁.heap _
    rw [e0]
    exact ⟨rfl, N0, rfl⟩
def Qrm639 (Z : State) (w_CS ca cb da db : Int32) (b620 b621 : Addr) (k622 : ClassId) (b624 b625 : Addr) (k626 : ClassId) (h0 : Heap) (v : Option Value) (h : Heap) (L : List Loc) : Prop := v = some (.int (1 : Int32)) ∧ Fr Z.heap.size L ∧ h = h0
theorem rm639 (l : Launch) (Z : State) (a0 : Array Value) (hw : own_HW Z a0) (ws : List Jvm.Cond) (w_CS ca cb da db : Int32) (b620 b621 : Addr) (k622 : ClassId) (b624 b625 : Addr) (k626 : ClassId) (h0 : Heap) (Z0 : Ext Z.heap h0) (S_w_CS : own_w_CS Z w_CS) (F_b620_coder : Fld Z h0 b620 "java/lang/String" "coder" "B" (.int (0 : Int32))) (F_b620_value : Fld Z h0 b620 "java/lang/String" "value" "[B" (.ref b621)) (E_b624 : Exa Z h0 b624 "java/lang/String") (F_b624_coder : Fld Z h0 b624 "java/lang/String" "coder" "B" (.int (0 : Int32))) (F_b624_value : Fld Z h0 b624 "java/lang/String" "value" "[B" (.ref b625)) (V_b621 : Arv Z h0 b621 k622 .byte (2 : Int32) [(.int (ca.toInt8.toInt32)), (.int (cb.toInt8.toInt32))] (.int (0 : Int32))) (V_b625 : Arv Z h0 b625 k626 .byte (2 : Int32) [(.int (da.toInt8.toInt32)), (.int (db.toInt8.toInt32))] (.int (0 : Int32))) (hc72 : b620 ≠ b624) (hc1 : ¬ (w_CS = (0 : Int32))) (hc52 : (ca.toInt8.toInt32) = (da.toInt8.toInt32)) (hc73 : (cb.toInt8.toInt32) = (db.toInt8.toInt32)) :
    own_met l y_20 jdk_42_method_66_code 3 (some .boolean) ws ({ frames := 1, cells := 0, slots := 0, locals := 14 } : Room) Z #[(.ref b620), (.ref b624)] h0 (Qrm639 Z w_CS ca cb da db b620 b621 k622 b624 b625 k626 h0) := by
  refine own_start (plainFor_of_name pn_2) (fun m => ef_jdk_42_method_66_RR m b620 b624) ?_
  intro p e s m below meth c s₁ hx hby hml hown hnm X0 hZ e0 hret hlk
  have N0 := Fr.nil Z.heap.size
  obtain ⟨T640, X640, e640, st640⟩ := instY X0 hx hZ hown (own_w hw 109 rfl) e0 (Ins.self E_b624) (g := (mkF m 8 #[rv b620, rv b624, .unset] [(.ref b624)])) rfl rfl (hb hby d22_8)
  obtain ⟨T641, X641, e641, st641⟩ := castY X640 hx hZ hown (own_w hw 109 rfl) e640 (Ins.self E_b624) (g := (mkF m 15 #[rv b620, rv b624, .unset] [(.ref b624)])) rfl rfl (hb hby d22_15)
  obtain ⟨T642, X642, e642, st642⟩ := getS2 X641 hx hZ hown (host := "") (Or.inl (own_w hw 27 rfl)) Via.refl e641 (S_w_CS.ext Z0) (g := (mkF m 19 #[rv b620, rv b624, rv b624] [])) rfl (hb hby d22_19)
  obtain ⟨T643, X643, e643, st643⟩ := getF X642 hx hZ hown (host := "") (Or.inl (own_w hw 39 rfl)) Via.refl e642 F_b620_coder (g := (mkF m 26 #[rv b620, rv b624, rv b624] [(.ref b620)])) rfl rfl (hb hby d22_26)
  obtain ⟨T644, X644, e644, st644⟩ := getF X643 hx hZ hown (host := "") (Or.inl (own_w hw 39 rfl)) Via.refl e643 F_b624_coder (g := (mkF m 30 #[rv b620, rv b624, rv b624] [(.ref b624), (.int (0 : Int32))])) rfl rfl (hb hby d22_30)
  obtain ⟨T645, X645, e645, st645⟩ := getF X644 hx hZ hown (host := "") (Or.inl (own_w hw 41 rfl)) Via.refl e644 F_b620_value (g := (mkF m 37 #[rv b620, rv b624, rv b624] [(.ref b620)])) rfl rfl (hb hby d22_37)
  obtain ⟨T646, X646, e646, st646⟩ := getF X645 hx hZ hown (host := "") (Or.inl (own_w hw 41 rfl)) Via.refl e645 F_b624_value (g := (mkF m 41 #[rv b620, rv b624, rv b624] [(.ref b624), (.ref b621)])) rfl rfl (hb hby d22_41)
  obtain ⟨_, T657, Lc657, X657, hQ657, st657⟩ := own_static (y := y_19) X646 hx hZ hown (own_w hw 110 rfl) (own_w hw 111 rfl) (own_w hw 75 rfl) (own_w hw 112 rfl) (rm647 l Z a0 hw [] ca cb da db b621 k622 b625 k626 h0 Z0 V_b621 V_b625 hc52 hc73) e646 (g := (mkF m 44 #[rv b620, rv b624, rv b624] [(.ref b625), (.ref b621)])) (argsL := [(.ref b621), (.ref b625)]) (rest := []) (W := 0) (lenOf pd_16 rfl) (hb hby d22_44) hml
  obtain ⟨rfl, N657q, e657⟩ := hQ657
  have N657 := Fr.app N0 N657q
  obtain ⟨fs, hr, hrun, hended, hW, hsame⟩ := X657.leave (v := some (.int (1 : Int32))) (fun h => by rw [hret] at h; cases h) hlk
  refine ⟨_, _, ?_, hrun, hended, _, _, rfl, ?_, ⟨_, rfl⟩, hW, hsame.mono (by decide) (by decide)⟩
  · show own_S p e below s₁ (mkF m 0 #[rv b620, rv b624, .unset] []) _
    refine own_aN X0 hx hby d22_0 ?_
    refine own_aN X0 hx hby d22_1 ?_
    refine Jvm.RoadKit.acmp (g := (mkF m 2 #[rv b620, rv b624, .unset] [(.ref b624), (.ref b620)])) X0 hx rfl rfl rfl (pc0 := 2) (pc' := 7) (same := false) rfl (hb hby d22_2) rfl (decide_eq_false fun q => hc72 (Value.ref.inj q)) (by decide) (by decide) ?_
    refine own_aN X0 hx hby d22_7 ?_
    refine st640 _ ?_
    refine own_in X640 hx hby d22_11 (feq (by decide : ¬ ((1 : Int32) = (0 : Int32)))).1 ?_
    refine own_aN X640 hx hby d22_14 ?_
    refine st641 _ ?_
    refine XS.astoreN X641.here hx rfl (hb hby d22_18) rfl rfl (l' := #[rv b620, rv b624, rv b624]) rfl ?_
    refine st642 _ ?_
    refine own_in X642 hx hby d22_22 (feq hc1).1 ?_
    refine own_aN X642 hx hby d22_25 ?_
    refine st643 _ ?_
    refine own_aN X643 hx hby d22_29 ?_
    refine st644 _ ?_
    refine own_cn X644 hx hby d22_33 (teq (rfl : (0 : Int32) = (0 : Int32))).2 ?_
    refine own_aN X644 hx hby d22_36 ?_
    refine st645 _ ?_
    refine own_aN X645 hx hby d22_40 ?_
    refine st646 _ ?_
    refine st657 _ ?_
    refine own_in X657 hx hby d22_47 (feq (by decide : ¬ ((1 : Int32) = (0 : Int32)))).1 ?_
    refine own_k X657 hx hby d22_50 ?_
    refine own_go (pc := 51) X657 hx hby d22_51 55 ?_
    exact retN X657 hx (t := .boolean) hret (by simp) (hb hby d22_55) hr
  · show Qrm639 Z w_CS ca cb da db b620 b621 k622 b624 b625 k626 h0 _ T657.heap _
    rw [e657]
    exact ⟨rfl, N657, rfl⟩
def Qrm634 (Z : State) (w_CS ca cb da db : Int32) (b620 b621 : Addr) (k622 : ClassId) (b624 b625 : Addr) (k626 : ClassId) (b627 b629 : Addr) (h0 : Heap) (v : Option Value) (h : Heap) (L : List Loc) : Prop := v = some (.int (1 : Int32)) ∧ Fr Z.heap.size L ∧ h = h0
theorem rm634 (l : Launch) (Z : State) (a0 : Array Value) (hw : own_HW Z a0) (ws : List Jvm.Cond) (w_CS ca cb da db : Int32) (b620 b621 : Addr) (k622 : ClassId) (b624 b625 : Addr) (k626 : ClassId) (b627 b629 : Addr) (h0 : Heap) (Z0 : Ext Z.heap h0) (S_w_CS : own_w_CS Z w_CS) (F_b627_written : Fld Z h0 b627 "com/example/faretally/faretally/RefundRequest$Involuntary$Reason" "written" "Ljava/lang/String;" (.ref b620)) (E_b629 : Exa Z h0 b629 "com/example/faretally/faretally/RefundRequest$Involuntary$Reason") (F_b629_written : Fld Z h0 b629 "com/example/faretally/faretally/RefundRequest$Involuntary$Reason" "written" "Ljava/lang/String;" (.ref b624)) (E_b620 : Exa Z h0 b620 "java/lang/String") (F_b620_coder : Fld Z h0 b620 "java/lang/String" "coder" "B" (.int (0 : Int32))) (F_b620_value : Fld Z h0 b620 "java/lang/String" "value" "[B" (.ref b621)) (E_b624 : Exa Z h0 b624 "java/lang/String") (F_b624_coder : Fld Z h0 b624 "java/lang/String" "coder" "B" (.int (0 : Int32))) (F_b624_value : Fld Z h0 b624 "java/lang/String" "value" "[B" (.ref b625)) (V_b621 : Arv Z h0 b621 k622 .byte (2 : Int32) [(.int (ca.toInt8.toInt32)), (.int (cb.toInt8.toInt32))] (.int (0 : Int32))) (V_b625 : Arv Z h0 b625 k626 .byte (2 : Int32) [(.int (da.toInt8.toInt32)), (.int (db.toInt8.toInt32))] (.int (0 : Int32))) (hc72 : b620 ≠ b624) (hc1 : ¬ (w_CS = (0 : Int32))) (hc52 : (ca.toInt8.toInt32) = (da.toInt8.toInt32)) (hc73 : (cb.toInt8.toInt32) = (db.toInt8.toInt32)) :
    own_met l y_21 prog_97_method_3_code 3 (some .boolean) ws ({ frames := 2, cells := 0, slots := 0, locals := 28 } : Room) Z #[(.ref b627), (.ref b629)] h0 (Qrm634 Z w_CS ca cb da db b620 b621 k622 b624 b625 k626 b627 b629 h0) := by
  refine own_start (plainFor_of_name pn_6) (fun m => ef_prog_97_method_3_RR m b627 b629) ?_
  intro p e s m below meth c s₁ hx hby hml hown hnm X0 hZ e0 hret hlk
  have N0 := Fr.nil Z.heap.size
  obtain ⟨T635, X635, e635, st635⟩ := instY X0 hx hZ hown (own_w hw 102 rfl) e0 (Ins.self E_b629) (g := (mkF m 1 #[rv b627, rv b629, .unset] [(.ref b629)])) rfl rfl (hb hby d21_1)
  obtain ⟨T636, X636, e636, st636⟩ := castY X635 hx hZ hown (own_w hw 102 rfl) e635 (Ins.self E_b629) (g := (mkF m 8 #[rv b627, rv b629, .unset] [(.ref b629)])) rfl rfl (hb hby d21_8)
  obtain ⟨T637, X637, e637, st637⟩ := getF X636 hx hZ hown (host := "") (Or.inl (own_w hw 95 rfl)) Via.refl e636 F_b627_written (g := (mkF m 13 #[rv b627, rv b629, rv b629] [(.ref b627)])) rfl rfl (hb hby d21_13)
  obtain ⟨T638, X638, e638, st638⟩ := getF X637 hx hZ hown (host := "") (Or.inl (own_w hw 95 rfl)) Via.refl e637 F_b629_written (g := (mkF m 17 #[rv b627, rv b629, rv b629] [(.ref b629), (.ref b620)])) rfl rfl (hb hby d21_17)
  obtain ⟨_, T658, Lc658, X658, hQ658, st658⟩ := own_virtual (y := y_20) X638 hx hZ hown (own_w hw 104 rfl) (own_w hw 105 rfl) (own_w hw 107 rfl) (own_w hw 106 rfl) (own_w hw 15 rfl) (own_w hw 108 rfl) (rm639 l Z a0 hw [] w_CS ca cb da db b620 b621 k622 b624 b625 k626 h0 Z0 S_w_CS F_b620_coder F_b620_value E_b624 F_b624_coder F_b624_value V_b621 V_b625 hc72 hc1 hc52 hc73) e638 E_b620 (g := (mkF m 20 #[rv b627, rv b629, rv b629] [(.ref b624), (.ref b620)])) (argsL := [(.ref b624)]) (rest := []) (W := 0) (lenOf pd_17 rfl) (hb hby d21_20) hml
  obtain ⟨rfl, N658q, e658⟩ := hQ658
  have N658 := Fr.app N0 N658q
  obtain ⟨fs, hr, hrun, hended, hW, hsame⟩ := X658.leave (v := some (.int (1 : Int32))) (fun h => by rw [hret] at h; cases h) hlk
  refine ⟨_, _, ?_, hrun, hended, _, _, rfl, ?_, ⟨_, rfl⟩, hW, hsame.mono (by decide) (by decide)⟩
  · show own_S p e below s₁ (mkF m 0 #[rv b627, rv b629, .unset] []) _
    refine own_aN X0 hx hby d21_0 ?_
    refine st635 _ ?_
    refine own_in X635 hx hby d21_4 (feq (by decide : ¬ ((1 : Int32) = (0 : Int32)))).1 ?_
    refine own_aN X635 hx hby d21_7 ?_
    refine st636 _ ?_
    refine XS.astoreN X636.here hx rfl (hb hby d21_11) rfl rfl (l' := #[rv b627, rv b629, rv b629]) rfl ?_
    refine own_aN X636 hx hby d21_12 ?_
    refine st637 _ ?_
    refine own_aN X637 hx hby d21_16 ?_
    refine st638 _ ?_
    refine st658 _ ?_
    refine own_in X658 hx hby d21_23 (feq (by decide : ¬ ((1 : Int32) = (0 : Int32)))).1 ?_
    refine own_k X658 hx hby d21_26 ?_
    refine own_go (pc := 27) X658 hx hby d21_27 31 ?_
    exact retN X658 hx (t := .boolean) hret (by simp) (hb hby d21_31) hr
  · show Qrm634 Z w_CS ca cb da db b620 b621 k622 b624 b625 k626 b627 b629 h0 _ T658.heap _
    rw [e658]
    exact ⟨rfl, N658, rfl⟩
theorem own_t22_2 {p : Program} {l : Launch} {e : Env} {s : State} {m : MethodId} {args : Array Value} {below : List Frame} {meth : Method} {c : Code} {T0 : State} {locs : List Loc} (Z : State) (a0 : Array Value) (hw : own_HW Z a0) (w_CS : Int32) (w_SF : Value) (q1 q2 : Int64) (p3 ca cb cc da db dc : Int32) (h0 : Heap) (Z0 : Ext Z.heap h0) (S_w_CS : own_w_CS Z w_CS) (S_w_SF : own_w_SF Z w_SF) (R_w_SF : w_SF.isRef = true) (hc42 : own_ch ca) (hc64 : own_ch cb) (hc1 : ¬ (w_CS = (0 : Int32))) (hc43 : own_ch da) (hc54 : own_ch db) (hc50 : ca = da) (hc71 : cb = db) (hc45 : own_low ca) (hc65 : own_aln cb) (hc46 : own_low da) (hc56 : own_aln db) (hc52 : (ca.toInt8.toInt32) = (da.toInt8.toInt32)) (hc73 : (cb.toInt8.toInt32) = (db.toInt8.toInt32)) (hc53 : (da.toInt8.toInt32) = (ca.toInt8.toInt32)) (hc74 : (db.toInt8.toInt32) = (cb.toInt8.toInt32)) (X0 : Stand p l e room_1 s m args below meth c T0 locs 0 0) (hx : p.tables.exec = Jvm.exec) (hZ : Z.Warmed39 s.vm) (hby : c.code = code) (hml : c.maxLocals = 19) (hown : s.vm.findClass "com/example/faretally/faretally/ReasonEqualsPinLaw" = some m.cls) (e0 : T0.heap = h0) (N0 : Fr Z.heap.size locs) (hret : meth.sig.returnType = some .boolean) (hlk : meth.locks = false) :
    ∃ s₂ o, Steps p.tables e below (T0.setTop (mkF m 153 (own_T q1 q2 p3 2 ca cb cc 2 da db dc .unset .unset .unset .unset .unset .unset) [])) s₂ ∧ s₂.status = .running ∧ Ended s₂ below o ∧ ∃ v L, o = .returned v ∧ (v = some (.int (1 : Int32)) ∧ Fr Z.heap.size L) ∧ FrameEnd s o s₂ L room_1.cells room_1.slots := by
  obtain ⟨_, T619, Lc619, X619, hQ619, st619⟩ := own_static (y := y_7) X0 hx hZ hown (own_w hw 10 rfl) (own_w hw 11 rfl) (own_w hw 4 rfl) (own_w hw 12 rfl) (rm196 l Z a0 hw [] w_CS ca cb cc h0 Z0 S_w_CS hc42 hc64 hc1) e0 (g := (mkF m 161 (own_T q1 q2 p3 2 ca cb cc 2 da db dc .unset .unset .unset .unset .unset .unset) [(.int cc), (.int cb), (.int ca), (.int (2 : Int32))])) (argsL := [(.int (2 : Int32)), (.int ca), (.int cb), (.int cc)]) (rest := []) (W := 0) (lenOf pd_6 rfl) (hb hby at_161) hml
  obtain ⟨b620, b621, k622, rfl, N619q, K619q, szn_b620, szn_b621, q619_E_b620, q619_F_b620_coder, q619_F_b620_value, q619_V_b621⟩ := hQ619
  have g_b620 : Z.heap.size ≤ b620 := Nat.le_trans Z0.1 szn_b620
  have sz_b620 : h0.size ≤ b620 := Nat.le_trans (Keep.refl h0 []).1 szn_b620
  have g_b621 : Z.heap.size ≤ b621 := Nat.le_trans Z0.1 szn_b621
  have sz_b621 : h0.size ≤ b621 := Nat.le_trans (Keep.refl h0 []).1 szn_b621
  have K619 : Keep h0 T619.heap [] := (Keep.refl h0 []).trans K619q all0
  have XX619 : Ext Z.heap T619.heap := own_extK Z0 K619q all0
  have N619 := Fr.app N0 N619q
  obtain ⟨_, T623, Lc623, X623, hQ623, st623⟩ := own_static (y := y_7) X619 hx hZ hown (own_w hw 10 rfl) (own_w hw 11 rfl) (own_w hw 4 rfl) (own_w hw 12 rfl) (rm196 l Z a0 hw [] w_CS da db dc T619.heap XX619 S_w_CS hc43 hc54 hc1) rfl (g := (mkF m 174 (own_T q1 q2 p3 2 ca cb cc 2 da db dc (rv b620) .unset .unset .unset .unset .unset) [(.int dc), (.int db), (.int da), (.int (2 : Int32))])) (argsL := [(.int (2 : Int32)), (.int da), (.int db), (.int dc)]) (rest := []) (W := 0) (lenOf pd_6 rfl) (hb hby at_174) hml
  obtain ⟨b624, b625, k626, rfl, N623q, K623q, szn_b624, szn_b625, q623_E_b624, q623_F_b624_coder, q623_F_b624_value, q623_V_b625⟩ := hQ623
  have g_b624 : Z.heap.size ≤ b624 := Nat.le_trans XX619.1 szn_b624
  have sz_b624 : h0.size ≤ b624 := Nat.le_trans K619.1 szn_b624
  have g_b625 : Z.heap.size ≤ b625 := Nat.le_trans XX619.1 szn_b625
  have sz_b625 : h0.size ≤ b625 := Nat.le_trans K619.1 szn_b625
  have K623 : Keep h0 T623.heap [] := K619.trans K623q all0
  have XX623 : Ext Z.heap T623.heap := own_extK XX619 K623q all0
  have N623 := Fr.app N619 N623q
  obtain ⟨T627, h627, X627, e627, E627, A627, D627, -, st627⟩ := newO X623 hx hZ hown (own_w hw 43 rfl) (own_w hw 44 rfl) (own_w hw 45 rfl) rfl (g := (mkF m 226 (own_T q1 q2 p3 2 ca cb cc 2 da db dc (rv b620) (rv b624) (iv (1 : Int32)) .unset .unset .unset) [])) rfl (hb hby at_226) (by decide) (by decide)
  obtain ⟨b627, g627⟩ : ∃ z, z = T623.heap.size := ⟨_, rfl⟩
  rw [← g627] at A627 D627 st627
  have g_b627 : Z.heap.size ≤ b627 := Nat.le_trans XX623.1 (Nat.le_of_eq g627.symm)
  have sz_b627 : h0.size ≤ b627 := Nat.le_trans K623.1 (Nat.le_of_eq g627.symm)
  have F_b627_written : Fld Z h627 b627 "com/example/faretally/faretally/RefundRequest$Involuntary$Reason" "written" "Ljava/lang/String;" .null := D627 (Or.inr (own_w hw 96 rfl)) (ty := (.object "java/lang/String")) (by decide)
  have K627 : Keep h0 h627 [] := K623.ext E627
  have XX627 : Ext Z.heap h627 := own_ext2 XX623 E627
  obtain ⟨_, T628, Lc628, X628, hQ628, st628⟩ := own_special (y := y_18) X627 hx hZ hown rfl (own_w hw 46 rfl) (own_w hw 47 rfl) (own_w hw 45 rfl) (own_w hw 48 rfl) (rm244 l Z a0 hw [] w_CS w_SF ca cb b620 b621 k622 b627 h627 XX627 S_w_CS S_w_SF R_w_SF A627 F_b627_written ((q619_E_b620.keep K623q).ext E627) ((q619_F_b620_coder.keep K623q nin0).ext E627) ((q619_F_b620_value.keep K623q nin0).ext E627) ((q619_V_b621.keep K623q nin0).ext E627) g_b627 hc1 hc42 hc45 hc64 hc65) e627 b627 (g := (mkF m 232 (own_T q1 q2 p3 2 ca cb cc 2 da db dc (rv b620) (rv b624) (iv (1 : Int32)) .unset .unset .unset) [(.ref b620), (.ref b627), (.ref b627)])) (argsL := [(.ref b620)]) (rest := [(.ref b627)]) (W := 1) (lenOf pd_15 rfl) (hb hby at_232) hml
  obtain ⟨rfl, N628q, K628q, q628_E_b627, q628_F_b627_written⟩ := hQ628
  have K628 : Keep h0 T628.heap [] := K627.trans K628q (allS (Or.inr sz_b627) all0)
  have XX628 : Ext Z.heap T628.heap := own_extK XX627 K628q (allS g_b627 all0)
  have N628 := Fr.app N623 N628q
  obtain ⟨T629, h629, X629, e629, E629, A629, D629, -, st629⟩ := newO X628 hx hZ hown (own_w hw 43 rfl) (own_w hw 44 rfl) (own_w hw 45 rfl) rfl (g := (mkF m 237 (own_T q1 q2 p3 2 ca cb cc 2 da db dc (rv b620) (rv b624) (iv (1 : Int32)) (rv b627) .unset .unset) [])) rfl (hb hby at_237) (by decide) (by decide)
  obtain ⟨b629, g629⟩ : ∃ z, z = T628.heap.size := ⟨_, rfl⟩
  rw [← g629] at A629 D629 st629
  have g_b629 : Z.heap.size ≤ b629 := Nat.le_trans XX628.1 (Nat.le_of_eq g629.symm)
  have sz_b629 : h0.size ≤ b629 := Nat.le_trans K628.1 (Nat.le_of_eq g629.symm)
  have F_b629_written : Fld Z h629 b629 "com/example/faretally/faretally/RefundRequest$Involuntary$Reason" "written" "Ljava/lang/String;" .null := D629 (Or.inr (own_w hw 96 rfl)) (ty := (.object "java/lang/String")) (by decide)
  have K629 : Keep h0 h629 [] := K628.ext E629
  have XX629 : Ext Z.heap h629 := own_ext2 XX628 E629
  have ne_b624_b627 : b624 ≠ b627 := Nat.ne_of_lt (Nat.lt_of_lt_of_le q623_E_b624.lt (Nat.le_of_eq g627.symm))
  have f631_F_b624_coder : Fld Z h629 b624 "java/lang/String" "coder" "B" (.int (0 : Int32)) := (((q623_F_b624_coder.ext E627).keep K628q (ninS ne_b624_b627 (nin0))).ext E629)
  have f632_F_b624_value : Fld Z h629 b624 "java/lang/String" "value" "[B" (.ref b625) := (((q623_F_b624_value.ext E627).keep K628q (ninS ne_b624_b627 (nin0))).ext E629)
  have ne_b625_b627 : b625 ≠ b627 := Nat.ne_of_lt (Nat.lt_of_lt_of_le q623_V_b625.lt (Nat.le_of_eq g627.symm))
  have f633_V_b625 : Arv Z h629 b625 k626 .byte (2 : Int32) [(.int (da.toInt8.toInt32)), (.int (db.toInt8.toInt32))] (.int (0 : Int32)) := (((q623_V_b625.ext E627).keep K628q (ninS ne_b625_b627 (nin0))).ext E629)
  obtain ⟨_, T630, Lc630, X630, hQ630, st630⟩ := own_special (y := y_18) X629 hx hZ hown rfl (own_w hw 46 rfl) (own_w hw 47 rfl) (own_w hw 45 rfl) (own_w hw 48 rfl) (rm244 l Z a0 hw [] w_CS w_SF da db b624 b625 k626 b629 h629 XX629 S_w_CS S_w_SF R_w_SF A629 F_b629_written (((q623_E_b624.ext E627).keep K628q).ext E629) f631_F_b624_coder f632_F_b624_value f633_V_b625 g_b629 hc1 hc43 hc46 hc54 hc56) e629 b629 (g := (mkF m 243 (own_T q1 q2 p3 2 ca cb cc 2 da db dc (rv b620) (rv b624) (iv (1 : Int32)) (rv b627) .unset .unset) [(.ref b624), (.ref b629), (.ref b629)])) (argsL := [(.ref b624)]) (rest := [(.ref b629)]) (W := 1) (lenOf pd_15 rfl) (hb hby at_243) hml
  obtain ⟨rfl, N630q, K630q, q630_E_b629, q630_F_b629_written⟩ := hQ630
  have K630 : Keep h0 T630.heap [] := K629.trans K630q (allS (Or.inr sz_b629) all0)
  have XX630 : Ext Z.heap T630.heap := own_extK XX629 K630q (allS g_b629 all0)
  have N630 := Fr.app N628 N630q
  have ne_b627_b629 : b627 ≠ b629 := Nat.ne_of_lt (Nat.lt_of_lt_of_le q628_E_b627.lt (Nat.le_of_eq g629.symm))
  have f660_F_b627_written : Fld Z T630.heap b627 "com/example/faretally/faretally/RefundRequest$Involuntary$Reason" "written" "Ljava/lang/String;" (.ref b620) := ((q628_F_b627_written.ext E629).keep K630q (ninS ne_b627_b629 (nin0)))
  have f661_E_b620 : Exa Z T630.heap b620 "java/lang/String" := (((((q619_E_b620.keep K623q).ext E627).keep K628q).ext E629).keep K630q)
  have ne_b620_b627 : b620 ≠ b627 := Nat.ne_of_lt (Nat.lt_of_lt_of_le (q619_E_b620.keep K623q).lt (Nat.le_of_eq g627.symm))
  have ne_b620_b629 : b620 ≠ b629 := Nat.ne_of_lt (Nat.lt_of_lt_of_le (((q619_E_b620.keep K623q).ext E627).keep K628q).lt (Nat.le_of_eq g629.symm))
  have f662_F_b620_coder : Fld Z T630.heap b620 "java/lang/String" "coder" "B" (.int (0 : Int32)) := (((((q619_F_b620_coder.keep K623q nin0).ext E627).keep K628q (ninS ne_b620_b627 (nin0))).ext E629).keep K630q (ninS ne_b620_b629 (nin0)))
  have f663_F_b620_value : Fld Z T630.heap b620 "java/lang/String" "value" "[B" (.ref b621) := (((((q619_F_b620_value.keep K623q nin0).ext E627).keep K628q (ninS ne_b620_b627 (nin0))).ext E629).keep K630q (ninS ne_b620_b629 (nin0)))
  have ne_b624_b629 : b624 ≠ b629 := Nat.ne_of_lt (Nat.lt_of_lt_of_le ((q623_E_b624.ext E627).keep K628q).lt (Nat.le_of_eq g629.symm))
  have ne_b621_b627 : b621 ≠ b627 := Nat.ne_of_lt (Nat.lt_of_lt_of_le (q619_V_b621.keep K623q nin0).lt (Nat.le_of_eq g627.symm))
  have ne_b621_b629 : b621 ≠ b629 := Nat.ne_of_lt (Nat.lt_of_lt_of_le (((q619_V_b621.keep K623q nin0).ext E627).keep K628q (ninS ne_b621_b627 (nin0))).lt (Nat.le_of_eq g629.symm))
  have f664_V_b621 : Arv Z T630.heap b621 k622 .byte (2 : Int32) [(.int (ca.toInt8.toInt32)), (.int (cb.toInt8.toInt32))] (.int (0 : Int32)) := (((((q619_V_b621.keep K623q nin0).ext E627).keep K628q (ninS ne_b621_b627 (nin0))).ext E629).keep K630q (ninS ne_b621_b629 (nin0)))
  have ne_b625_b629 : b625 ≠ b629 := Nat.ne_of_lt (Nat.lt_of_lt_of_le ((q623_V_b625.ext E627).keep K628q (ninS ne_b625_b627 (nin0))).lt (Nat.le_of_eq g629.symm))
  have ne_b620_b624 : b620 ≠ b624 := Nat.ne_of_lt (Nat.lt_of_lt_of_le q619_E_b620.lt szn_b624)
  obtain ⟨_, T659, Lc659, X659, hQ659, st659⟩ := own_virtual (y := y_21) X630 hx hZ hown (own_w hw 97 rfl) (own_w hw 98 rfl) (own_w hw 100 rfl) (own_w hw 99 rfl) (own_w hw 45 rfl) (own_w hw 101 rfl) (rm634 l Z a0 hw [] w_CS ca cb da db b620 b621 k622 b624 b625 k626 b627 b629 T630.heap XX630 S_w_CS f660_F_b627_written q630_E_b629 q630_F_b629_written f661_E_b620 f662_F_b620_coder f663_F_b620_value ((((q623_E_b624.ext E627).keep K628q).ext E629).keep K630q) (f631_F_b624_coder.keep K630q (ninS ne_b624_b629 (nin0))) (f632_F_b624_value.keep K630q (ninS ne_b624_b629 (nin0))) f664_V_b621 (f633_V_b625.keep K630q (ninS ne_b625_b629 (nin0))) ne_b620_b624 hc1 hc52 hc73) rfl ((q628_E_b627.ext E629).keep K630q) (g := (mkF m 252 (own_T q1 q2 p3 2 ca cb cc 2 da db dc (rv b620) (rv b624) (iv (1 : Int32)) (rv b627) (rv b629) .unset) [(.ref b629), (.ref b627)])) (argsL := [(.ref b629)]) (rest := []) (W := 0) (lenOf pd_17 rfl) (hb hby at_252) hml
  obtain ⟨rfl, N659q, e659⟩ := hQ659
  have N659 := Fr.app N630 N659q
  obtain ⟨_, T665, Lc665, X665, hQ665, st665⟩ := own_virtual (y := y_21) X659 hx hZ hown (own_w hw 97 rfl) (own_w hw 98 rfl) (own_w hw 100 rfl) (own_w hw 99 rfl) (own_w hw 45 rfl) (own_w hw 101 rfl) (rm634 l Z a0 hw [] w_CS da db ca cb b624 b625 k626 b620 b621 k622 b629 b627 T630.heap XX630 S_w_CS q630_F_b629_written ((q628_E_b627.ext E629).keep K630q) f660_F_b627_written ((((q623_E_b624.ext E627).keep K628q).ext E629).keep K630q) (f631_F_b624_coder.keep K630q (ninS ne_b624_b629 (nin0))) (f632_F_b624_value.keep K630q (ninS ne_b624_b629 (nin0))) f661_E_b620 f662_F_b620_coder f663_F_b620_value (f633_V_b625.keep K630q (ninS ne_b625_b629 (nin0))) f664_V_b621 (Ne.symm ne_b620_b624) hc1 hc53 hc74) e659 q630_E_b629 (g := (mkF m 276 (own_T q1 q2 p3 2 ca cb cc 2 da db dc (rv b620) (rv b624) (iv (1 : Int32)) (rv b627) (rv b629) (iv (1 : Int32))) [(.ref b627), (.ref b629)])) (argsL := [(.ref b627)]) (rest := []) (W := 0) (lenOf pd_17 rfl) (hb hby at_276) hml
  obtain ⟨rfl, N665q, e665⟩ := hQ665
  have N665 := Fr.app N659 N665q
  obtain ⟨_, T666, Lc666, X666, hQ666, st666⟩ := own_virtual (y := y_21) X665 hx hZ hown (own_w hw 97 rfl) (own_w hw 98 rfl) (own_w hw 100 rfl) (own_w hw 99 rfl) (own_w hw 45 rfl) (own_w hw 101 rfl) (rm132 l Z a0 hw [] b620 b627 T630.heap XX630 ((q628_E_b627.ext E629).keep K630q) f660_F_b627_written f661_E_b620) e665 ((q628_E_b627.ext E629).keep K630q) (g := (mkF m 300 (own_T q1 q2 p3 2 ca cb cc 2 da db dc (rv b620) (rv b624) (iv (1 : Int32)) (rv b627) (rv b629) (iv (1 : Int32))) [(.ref b627), (.ref b627)])) (argsL := [(.ref b627)]) (rest := []) (W := 0) (lenOf pd_17 rfl) (hb hby at_300) hml
  obtain ⟨rfl, N666q, e666⟩ := hQ666
  have N666 := Fr.app N665 N666q
  obtain ⟨_, T667, Lc667, X667, hQ667, st667⟩ := own_virtual (y := y_21) X666 hx hZ hown (own_w hw 97 rfl) (own_w hw 98 rfl) (own_w hw 100 rfl) (own_w hw 99 rfl) (own_w hw 45 rfl) (own_w hw 101 rfl) (rm140 l Z a0 hw [] b620 b627 T630.heap XX630 f661_E_b620) e666 ((q628_E_b627.ext E629).keep K630q) (g := (mkF m 322 (own_T q1 q2 p3 2 ca cb cc 2 da db dc (rv b620) (rv b624) (iv (1 : Int32)) (rv b627) (rv b629) (iv (1 : Int32))) [(.ref b620), (.ref b627)])) (argsL := [(.ref b620)]) (rest := []) (W := 0) (lenOf pd_17 rfl) (hb hby at_322) hml
  obtain ⟨rfl, N667q, e667⟩ := hQ667
  have N667 := Fr.app N666 N667q
  obtain ⟨_, T668, Lc668, X668, hQ668, st668⟩ := own_virtual (y := y_21) X667 hx hZ hown (own_w hw 97 rfl) (own_w hw 98 rfl) (own_w hw 100 rfl) (own_w hw 99 rfl) (own_w hw 45 rfl) (own_w hw 101 rfl) (rm143 l Z a0 hw [] b627 T630.heap XX630 ) e667 ((q628_E_b627.ext E629).keep K630q) (g := (mkF m 343 (own_T q1 q2 p3 2 ca cb cc 2 da db dc (rv b620) (rv b624) (iv (1 : Int32)) (rv b627) (rv b629) (iv (1 : Int32))) [.null, (.ref b627)])) (argsL := [.null]) (rest := []) (W := 0) (lenOf pd_17 rfl) (hb hby at_343) hml
  obtain ⟨rfl, N668q, e668⟩ := hQ668
  have N668 := Fr.app N667 N668q
  obtain ⟨fs, hr, hrun, hended, hW, hsame⟩ := X668.leave (v := some (.int (1 : Int32))) (fun h => by rw [hret] at h; cases h) hlk
  refine ⟨_, _, ?_, hrun, hended, _, _, rfl, ⟨rfl, N668⟩, ⟨_, rfl⟩, hW, hsame.mono (by decide) (by decide)⟩
  show own_S p e below T0 (mkF m 153 (own_T q1 q2 p3 2 ca cb cc 2 da db dc .unset .unset .unset .unset .unset .unset) []) _
  refine own_i X0 hx hby at_153 ?_
  refine own_i X0 hx hby at_155 ?_
  refine own_i X0 hx hby at_157 ?_
  refine own_i X0 hx hby at_159 ?_
  refine st619 _ ?_
  refine XS.astore X619.here hx rfl (hb hby at_164) rfl rfl (l' := (own_T q1 q2 p3 2 ca cb cc 2 da db dc (rv b620) .unset .unset .unset .unset .unset)) rfl ?_
  refine own_i X619 hx hby at_166 ?_
  refine own_i X619 hx hby at_168 ?_
  refine own_i X619 hx hby at_170 ?_
  refine own_i X619 hx hby at_172 ?_
  refine st623 _ ?_
  refine XS.astore X623.here hx rfl (hb hby at_177) rfl rfl (l' := (own_T q1 q2 p3 2 ca cb cc 2 da db dc (rv b620) (rv b624) .unset .unset .unset .unset)) rfl ?_
  refine own_i X623 hx hby at_179 ?_
  refine own_i X623 hx hby at_181 ?_
  refine own_cn X623 hx hby at_183 (teq (rfl : (2 : Int32) = (2 : Int32))).2 ?_
  refine own_i X623 hx hby at_186 ?_
  refine own_i X623 hx hby at_188 ?_
  refine own_cn X623 hx hby at_190 (teq hc50).2 ?_
  refine own_i X623 hx hby at_193 ?_
  refine own_k X623 hx hby at_195 ?_
  refine own_cn X623 hx hby at_196 (flt (Int32.lt_irrefl : ¬ ((2 : Int32) < (2 : Int32)))).1 ?_
  refine own_i X623 hx hby at_199 ?_
  refine own_i X623 hx hby at_201 ?_
  refine own_cn X623 hx hby at_203 (teq hc71).2 ?_
  refine own_i X623 hx hby at_206 ?_
  refine own_k X623 hx hby at_208 ?_
  refine own_cy (pc := 209) X623 hx hby at_209 (tlt (by decide : (2 : Int32) < (3 : Int32))).1 219 ?_
  refine own_k X623 hx hby at_219 ?_
  refine own_go (pc := 220) X623 hx hby at_220 224 ?_
  refine XS.istore X623.here hx rfl (hb hby at_224) rfl (l' := (own_T q1 q2 p3 2 ca cb cc 2 da db dc (rv b620) (rv b624) (iv (1 : Int32)) .unset .unset .unset)) rfl ?_
  refine st627 _ ?_
  refine XS.dup X627.here hx rfl (hb hby at_229) rfl rfl ?_
  refine own_a X627 hx hby at_230 ?_
  refine st628 _ ?_
  refine XS.astore X628.here hx rfl (hb hby at_235) rfl rfl (l' := (own_T q1 q2 p3 2 ca cb cc 2 da db dc (rv b620) (rv b624) (iv (1 : Int32)) (rv b627) .unset .unset)) rfl ?_
  refine st629 _ ?_
  refine XS.dup X629.here hx rfl (hb hby at_240) rfl rfl ?_
  refine own_a X629 hx hby at_241 ?_
  refine st630 _ ?_
  refine XS.astore X630.here hx rfl (hb hby at_246) rfl rfl (l' := (own_T q1 q2 p3 2 ca cb cc 2 da db dc (rv b620) (rv b624) (iv (1 : Int32)) (rv b627) (rv b629) .unset)) rfl ?_
  refine own_a X630 hx hby at_248 ?_
  refine own_a X630 hx hby at_250 ?_
  refine st659 _ ?_
  refine own_i X659 hx hby at_255 ?_
  refine own_cn X659 hx hby at_257 (teq (rfl : (1 : Int32) = (1 : Int32))).2 ?_
  refine own_k X659 hx hby at_260 ?_
  refine own_go (pc := 261) X659 hx hby at_261 265 ?_
  refine XS.istore X659.here hx rfl (hb hby at_265) rfl (l' := (own_T q1 q2 p3 2 ca cb cc 2 da db dc (rv b620) (rv b624) (iv (1 : Int32)) (rv b627) (rv b629) (iv (1 : Int32)))) rfl ?_
  refine own_i X659 hx hby at_267 ?_
  refine own_in X659 hx hby at_269 (feq (by decide : ¬ ((1 : Int32) = (0 : Int32)))).1 ?_
  refine own_a X659 hx hby at_272 ?_
  refine own_a X659 hx hby at_274 ?_
  refine st665 _ ?_
  refine own_i X665 hx hby at_279 ?_
  refine own_cn X665 hx hby at_281 (teq (rfl : (1 : Int32) = (1 : Int32))).2 ?_
  refine own_k X665 hx hby at_284 ?_
  refine own_go (pc := 285) X665 hx hby at_285 289 ?_
  refine XS.istore X665.here hx rfl (hb hby at_289) rfl (l' := (own_T q1 q2 p3 2 ca cb cc 2 da db dc (rv b620) (rv b624) (iv (1 : Int32)) (rv b627) (rv b629) (iv (1 : Int32)))) rfl ?_
  refine own_i X665 hx hby at_291 ?_
  refine own_in X665 hx hby at_293 (feq (by decide : ¬ ((1 : Int32) = (0 : Int32)))).1 ?_
  refine own_a X665 hx hby at_296 ?_
  refine own_a X665 hx hby at_298 ?_
  refine st666 _ ?_
  refine own_in X666 hx hby at_303 (feq (by decide : ¬ ((1 : Int32) = (0 : Int32)))).1 ?_
  refine own_k X666 hx hby at_306 ?_
  refine own_go (pc := 307) X666 hx hby at_307 311 ?_
  refine XS.istore X666.here hx rfl (hb hby at_311) rfl (l' := (own_T q1 q2 p3 2 ca cb cc 2 da db dc (rv b620) (rv b624) (iv (1 : Int32)) (rv b627) (rv b629) (iv (1 : Int32)))) rfl ?_
  refine own_i X666 hx hby at_313 ?_
  refine own_in X666 hx hby at_315 (feq (by decide : ¬ ((1 : Int32) = (0 : Int32)))).1 ?_
  refine own_a X666 hx hby at_318 ?_
  refine own_a X666 hx hby at_320 ?_
  refine st667 _ ?_
  refine own_in X667 hx hby at_325 (teq (rfl : (0 : Int32) = (0 : Int32))).2 ?_
  refine own_k X667 hx hby at_328 ?_
  refine own_go (pc := 329) X667 hx hby at_329 333 ?_
  refine XS.istore X667.here hx rfl (hb hby at_333) rfl (l' := (own_T q1 q2 p3 2 ca cb cc 2 da db dc (rv b620) (rv b624) (iv (1 : Int32)) (rv b627) (rv b629) (iv (1 : Int32)))) rfl ?_
  refine own_i X667 hx hby at_335 ?_
  refine own_in X667 hx hby at_337 (feq (by decide : ¬ ((1 : Int32) = (0 : Int32)))).1 ?_
  refine own_a X667 hx hby at_340 ?_
  refine XS.aconstNull X667.here hx rfl (hb hby at_342) ?_
  refine st668 _ ?_
  refine own_in X668 hx hby at_346 (teq (rfl : (0 : Int32) = (0 : Int32))).2 ?_
  refine own_k X668 hx hby at_349 ?_
  refine own_go (pc := 350) X668 hx hby at_350 354 ?_
  refine XS.istore X668.here hx rfl (hb hby at_354) rfl (l' := (own_T q1 q2 p3 2 ca cb cc 2 da db dc (rv b620) (rv b624) (iv (1 : Int32)) (rv b627) (rv b629) (iv (1 : Int32)))) rfl ?_
  refine own_i X668 hx hby at_356 ?_
  exact retN X668 hx (t := .boolean) hret (by simp) (hb hby at_358) hr
def Qrm697 (Z : State) (ca cb da db dc : Int32) (b671 : Addr) (k672 : ClassId) (b675 : Addr) (k676 : ClassId) (h0 : Heap) (v : Option Value) (h : Heap) (L : List Loc) : Prop := v = some (.int (0 : Int32)) ∧ Fr Z.heap.size L ∧ h = h0
theorem rm697 (l : Launch) (Z : State) (a0 : Array Value) (hw : own_HW Z a0) (ws : List Jvm.Cond) (ca cb da db dc : Int32) (b671 : Addr) (k672 : ClassId) (b675 : Addr) (k676 : ClassId) (h0 : Heap) (Z0 : Ext Z.heap h0) (V_b671 : Arv Z h0 b671 k672 .byte (2 : Int32) [(.int (ca.toInt8.toInt32)), (.int (cb.toInt8.toInt32))] (.int (0 : Int32))) (V_b675 : Arv Z h0 b675 k676 .byte (3 : Int32) [(.int (da.toInt8.toInt32)), (.int (db.toInt8.toInt32)), (.int (dc.toInt8.toInt32))] (.int (0 : Int32))) :
    own_met l y_19 jdk_43_method_13_code 3 (some .boolean) ws ({ frames := 0, cells := 0, slots := 0, locals := 0 } : Room) Z #[(.ref b671), (.ref b675)] h0 (Qrm697 Z ca cb da db dc b671 k672 b675 k676 h0) := by
  refine own_start (plainFor_of_name pn_5) (fun m => ef_jdk_43_method_13_RR m b671 b675) ?_
  intro p e s m below meth c s₁ hx hby hml hown hnm X0 hZ e0 hret hlk
  have N0 := Fr.nil Z.heap.size
  obtain ⟨cl698, Ar698, q698, S698, Nn698, H698, G698⟩ := id V_b671
  obtain ⟨cl699, Ar699, q699, S699, Nn699, H699, G699⟩ := id V_b675
  obtain ⟨fs, hr, hrun, hended, hW, hsame⟩ := X0.leave (v := some (.int (0 : Int32))) (fun h => by rw [hret] at h; cases h) hlk
  refine ⟨_, _, ?_, hrun, hended, _, _, rfl, ?_, ⟨_, rfl⟩, hW, hsame.mono (by decide) (by decide)⟩
  · show own_S p e below s₁ (mkF m 0 #[rv b671, rv b675, .unset] []) _
    refine own_aN X0 hx hby d23_0 ?_
    refine X0.arraylength hx (by rw [e0]; exact Ar698.1) (State.isArrayOf_alike hZ.alike Ar698.2.1) (g := (mkF m 1 #[rv b671, rv b675, .unset] [(.ref b671)])) rfl rfl (hb hby d23_1) _ ?_
    rw [len_of S698 Nn698]
    refine own_aN X0 hx hby d23_2 ?_
    refine X0.arraylength hx (by rw [e0]; exact Ar699.1) (State.isArrayOf_alike hZ.alike Ar699.2.1) (g := (mkF m 3 #[rv b671, rv b675, .unset] [(.ref b675), (.int (2 : Int32))])) rfl rfl (hb hby d23_3) _ ?_
    rw [len_of S699 Nn699]
    refine own_cy (pc := 4) X0 hx hby d23_4 (feq (by decide : ¬ ((2 : Int32) = (3 : Int32)))).2 34 ?_
    refine own_k X0 hx hby d23_34 ?_
    exact retN X0 hx (t := .boolean) hret (by simp) (hb hby d23_35) hr
  · show Qrm697 Z ca cb da db dc b671 k672 b675 k676 h0 _ s₁.heap _
    rw [e0]
    exact ⟨rfl, N0, rfl⟩
def Qrm689 (Z : State) (w_CS ca cb da db dc : Int32) (b670 b671 : Addr) (k672 : ClassId) (b674 b675 : Addr) (k676 : ClassId) (h0 : Heap) (v : Option Value) (h : Heap) (L : List Loc) : Prop := v = some (.int (0 : Int32)) ∧ Fr Z.heap.size L ∧ h = h0
theorem rm689 (l : Launch) (Z : State) (a0 : Array Value) (hw : own_HW Z a0) (ws : List Jvm.Cond) (w_CS ca cb da db dc : Int32) (b670 b671 : Addr) (k672 : ClassId) (b674 b675 : Addr) (k676 : ClassId) (h0 : Heap) (Z0 : Ext Z.heap h0) (S_w_CS : own_w_CS Z w_CS) (F_b670_coder : Fld Z h0 b670 "java/lang/String" "coder" "B" (.int (0 : Int32))) (F_b670_value : Fld Z h0 b670 "java/lang/String" "value" "[B" (.ref b671)) (E_b674 : Exa Z h0 b674 "java/lang/String") (F_b674_coder : Fld Z h0 b674 "java/lang/String" "coder" "B" (.int (0 : Int32))) (F_b674_value : Fld Z h0 b674 "java/lang/String" "value" "[B" (.ref b675)) (V_b671 : Arv Z h0 b671 k672 .byte (2 : Int32) [(.int (ca.toInt8.toInt32)), (.int (cb.toInt8.toInt32))] (.int (0 : Int32))) (V_b675 : Arv Z h0 b675 k676 .byte (3 : Int32) [(.int (da.toInt8.toInt32)), (.int (db.toInt8.toInt32)), (.int (dc.toInt8.toInt32))] (.int (0 : Int32))) (hc75 : b670 ≠ b674) (hc1 : ¬ (w_CS = (0 : Int32))) :
    own_met l y_20 jdk_42_method_66_code 3 (some .boolean) ws ({ frames := 1, cells := 0, slots := 0, locals := 14 } : Room) Z #[(.ref b670), (.ref b674)] h0 (Qrm689 Z w_CS ca cb da db dc b670 b671 k672 b674 b675 k676 h0) := by
  refine own_start (plainFor_of_name pn_2) (fun m => ef_jdk_42_method_66_RR m b670 b674) ?_
  intro p e s m below meth c s₁ hx hby hml hown hnm X0 hZ e0 hret hlk
  have N0 := Fr.nil Z.heap.size
  obtain ⟨T690, X690, e690, st690⟩ := instY X0 hx hZ hown (own_w hw 109 rfl) e0 (Ins.self E_b674) (g := (mkF m 8 #[rv b670, rv b674, .unset] [(.ref b674)])) rfl rfl (hb hby d22_8)
  obtain ⟨T691, X691, e691, st691⟩ := castY X690 hx hZ hown (own_w hw 109 rfl) e690 (Ins.self E_b674) (g := (mkF m 15 #[rv b670, rv b674, .unset] [(.ref b674)])) rfl rfl (hb hby d22_15)
  obtain ⟨T692, X692, e692, st692⟩ := getS2 X691 hx hZ hown (host := "") (Or.inl (own_w hw 27 rfl)) Via.refl e691 (S_w_CS.ext Z0) (g := (mkF m 19 #[rv b670, rv b674, rv b674] [])) rfl (hb hby d22_19)
  obtain ⟨T693, X693, e693, st693⟩ := getF X692 hx hZ hown (host := "") (Or.inl (own_w hw 39 rfl)) Via.refl e692 F_b670_coder (g := (mkF m 26 #[rv b670, rv b674, rv b674] [(.ref b670)])) rfl rfl (hb hby d22_26)
  obtain ⟨T694, X694, e694, st694⟩ := getF X693 hx hZ hown (host := "") (Or.inl (own_w hw 39 rfl)) Via.refl e693 F_b674_coder (g := (mkF m 30 #[rv b670, rv b674, rv b674] [(.ref b674), (.int (0 : Int32))])) rfl rfl (hb hby d22_30)
  obtain ⟨T695, X695, e695, st695⟩ := getF X694 hx hZ hown (host := "") (Or.inl (own_w hw 41 rfl)) Via.refl e694 F_b670_value (g := (mkF m 37 #[rv b670, rv b674, rv b674] [(.ref b670)])) rfl rfl (hb hby d22_37)
  obtain ⟨T696, X696, e696, st696⟩ := getF X695 hx hZ hown (host := "") (Or.inl (own_w hw 41 rfl)) Via.refl e695 F_b674_value (g := (mkF m 41 #[rv b670, rv b674, rv b674] [(.ref b674), (.ref b671)])) rfl rfl (hb hby d22_41)
  obtain ⟨_, T700, Lc700, X700, hQ700, st700⟩ := own_static (y := y_19) X696 hx hZ hown (own_w hw 110 rfl) (own_w hw 111 rfl) (own_w hw 75 rfl) (own_w hw 112 rfl) (rm697 l Z a0 hw [] ca cb da db dc b671 k672 b675 k676 h0 Z0 V_b671 V_b675) e696 (g := (mkF m 44 #[rv b670, rv b674, rv b674] [(.ref b675), (.ref b671)])) (argsL := [(.ref b671), (.ref b675)]) (rest := []) (W := 0) (lenOf pd_16 rfl) (hb hby d22_44) hml
  obtain ⟨rfl, N700q, e700⟩ := hQ700
  have N700 := Fr.app N0 N700q
  obtain ⟨fs, hr, hrun, hended, hW, hsame⟩ := X700.leave (v := some (.int (0 : Int32))) (fun h => by rw [hret] at h; cases h) hlk
  refine ⟨_, _, ?_, hrun, hended, _, _, rfl, ?_, ⟨_, rfl⟩, hW, hsame.mono (by decide) (by decide)⟩
  · show own_S p e below s₁ (mkF m 0 #[rv b670, rv b674, .unset] []) _
    refine own_aN X0 hx hby d22_0 ?_
    refine own_aN X0 hx hby d22_1 ?_
    refine Jvm.RoadKit.acmp (g := (mkF m 2 #[rv b670, rv b674, .unset] [(.ref b674), (.ref b670)])) X0 hx rfl rfl rfl (pc0 := 2) (pc' := 7) (same := false) rfl (hb hby d22_2) rfl (decide_eq_false fun q => hc75 (Value.ref.inj q)) (by decide) (by decide) ?_
    refine own_aN X0 hx hby d22_7 ?_
    refine st690 _ ?_
    refine own_in X690 hx hby d22_11 (feq (by decide : ¬ ((1 : Int32) = (0 : Int32)))).1 ?_
    refine own_aN X690 hx hby d22_14 ?_
    refine st691 _ ?_
    refine XS.astoreN X691.here hx rfl (hb hby d22_18) rfl rfl (l' := #[rv b670, rv b674, rv b674]) rfl ?_
    refine st692 _ ?_
    refine own_in X692 hx hby d22_22 (feq hc1).1 ?_
    refine own_aN X692 hx hby d22_25 ?_
    refine st693 _ ?_
    refine own_aN X693 hx hby d22_29 ?_
    refine st694 _ ?_
    refine own_cn X694 hx hby d22_33 (teq (rfl : (0 : Int32) = (0 : Int32))).2 ?_
    refine own_aN X694 hx hby d22_36 ?_
    refine st695 _ ?_
    refine own_aN X695 hx hby d22_40 ?_
    refine st696 _ ?_
    refine st700 _ ?_
    refine own_iy (pc := 47) X700 hx hby d22_47 (teq (rfl : (0 : Int32) = (0 : Int32))).1 54 ?_
    refine own_k X700 hx hby d22_54 ?_
    exact retN X700 hx (t := .boolean) hret (by simp) (hb hby d22_55) hr
  · show Qrm689 Z w_CS ca cb da db dc b670 b671 k672 b674 b675 k676 h0 _ T700.heap _
    rw [e700]
    exact ⟨rfl, N700, rfl⟩
def Qrm684 (Z : State) (w_CS ca cb da db dc : Int32) (b670 b671 : Addr) (k672 : ClassId) (b674 b675 : Addr) (k676 : ClassId) (b677 b679 : Addr) (h0 : Heap) (v : Option Value) (h : Heap) (L : List Loc) : Prop := v = some (.int (0 : Int32)) ∧ Fr Z.heap.size L ∧ h = h0
theorem rm684 (l : Launch) (Z : State) (a0 : Array Value) (hw : own_HW Z a0) (ws : List Jvm.Cond) (w_CS ca cb da db dc : Int32) (b670 b671 : Addr) (k672 : ClassId) (b674 b675 : Addr) (k676 : ClassId) (b677 b679 : Addr) (h0 : Heap) (Z0 : Ext Z.heap h0) (S_w_CS : own_w_CS Z w_CS) (F_b677_written : Fld Z h0 b677 "com/example/faretally/faretally/RefundRequest$Involuntary$Reason" "written" "Ljava/lang/String;" (.ref b670)) (E_b679 : Exa Z h0 b679 "com/example/faretally/faretally/RefundRequest$Involuntary$Reason") (F_b679_written : Fld Z h0 b679 "com/example/faretally/faretally/RefundRequest$Involuntary$Reason" "written" "Ljava/lang/String;" (.ref b674)) (E_b670 : Exa Z h0 b670 "java/lang/String") (F_b670_coder : Fld Z h0 b670 "java/lang/String" "coder" "B" (.int (0 : Int32))) (F_b670_value : Fld Z h0 b670 "java/lang/String" "value" "[B" (.ref b671)) (E_b674 : Exa Z h0 b674 "java/lang/String") (F_b674_coder : Fld Z h0 b674 "java/lang/String" "coder" "B" (.int (0 : Int32))) (F_b674_value : Fld Z h0 b674 "java/lang/String" "value" "[B" (.ref b675)) (V_b671 : Arv Z h0 b671 k672 .byte (2 : Int32) [(.int (ca.toInt8.toInt32)), (.int (cb.toInt8.toInt32))] (.int (0 : Int32))) (V_b675 : Arv Z h0 b675 k676 .byte (3 : Int32) [(.int (da.toInt8.toInt32)), (.int (db.toInt8.toInt32)), (.int (dc.toInt8.toInt32))] (.int (0 : Int32))) (hc75 : b670 ≠ b674) (hc1 : ¬ (w_CS = (0 : Int32))) :
    own_met l y_21 prog_97_method_3_code 3 (some .boolean) ws ({ frames := 2, cells := 0, slots := 0, locals := 28 } : Room) Z #[(.ref b677), (.ref b679)] h0 (Qrm684 Z w_CS ca cb da db dc b670 b671 k672 b674 b675 k676 b677 b679 h0) := by
  refine own_start (plainFor_of_name pn_6) (fun m => ef_prog_97_method_3_RR m b677 b679) ?_
  intro p e s m below meth c s₁ hx hby hml hown hnm X0 hZ e0 hret hlk
  have N0 := Fr.nil Z.heap.size
  obtain ⟨T685, X685, e685, st685⟩ := instY X0 hx hZ hown (own_w hw 102 rfl) e0 (Ins.self E_b679) (g := (mkF m 1 #[rv b677, rv b679, .unset] [(.ref b679)])) rfl rfl (hb hby d21_1)
  obtain ⟨T686, X686, e686, st686⟩ := castY X685 hx hZ hown (own_w hw 102 rfl) e685 (Ins.self E_b679) (g := (mkF m 8 #[rv b677, rv b679, .unset] [(.ref b679)])) rfl rfl (hb hby d21_8)
  obtain ⟨T687, X687, e687, st687⟩ := getF X686 hx hZ hown (host := "") (Or.inl (own_w hw 95 rfl)) Via.refl e686 F_b677_written (g := (mkF m 13 #[rv b677, rv b679, rv b679] [(.ref b677)])) rfl rfl (hb hby d21_13)
  obtain ⟨T688, X688, e688, st688⟩ := getF X687 hx hZ hown (host := "") (Or.inl (own_w hw 95 rfl)) Via.refl e687 F_b679_written (g := (mkF m 17 #[rv b677, rv b679, rv b679] [(.ref b679), (.ref b670)])) rfl rfl (hb hby d21_17)
  obtain ⟨_, T701, Lc701, X701, hQ701, st701⟩ := own_virtual (y := y_20) X688 hx hZ hown (own_w hw 104 rfl) (own_w hw 105 rfl) (own_w hw 107 rfl) (own_w hw 106 rfl) (own_w hw 15 rfl) (own_w hw 108 rfl) (rm689 l Z a0 hw [] w_CS ca cb da db dc b670 b671 k672 b674 b675 k676 h0 Z0 S_w_CS F_b670_coder F_b670_value E_b674 F_b674_coder F_b674_value V_b671 V_b675 hc75 hc1) e688 E_b670 (g := (mkF m 20 #[rv b677, rv b679, rv b679] [(.ref b674), (.ref b670)])) (argsL := [(.ref b674)]) (rest := []) (W := 0) (lenOf pd_17 rfl) (hb hby d21_20) hml
  obtain ⟨rfl, N701q, e701⟩ := hQ701
  have N701 := Fr.app N0 N701q
  obtain ⟨fs, hr, hrun, hended, hW, hsame⟩ := X701.leave (v := some (.int (0 : Int32))) (fun h => by rw [hret] at h; cases h) hlk
  refine ⟨_, _, ?_, hrun, hended, _, _, rfl, ?_, ⟨_, rfl⟩, hW, hsame.mono (by decide) (by decide)⟩
  · show own_S p e below s₁ (mkF m 0 #[rv b677, rv b679, .unset] []) _
    refine own_aN X0 hx hby d21_0 ?_
    refine st685 _ ?_
    refine own_in X685 hx hby d21_4 (feq (by decide : ¬ ((1 : Int32) = (0 : Int32)))).1 ?_
    refine own_aN X685 hx hby d21_7 ?_
    refine st686 _ ?_
    refine XS.astoreN X686.here hx rfl (hb hby d21_11) rfl rfl (l' := #[rv b677, rv b679, rv b679]) rfl ?_
    refine own_aN X686 hx hby d21_12 ?_
    refine st687 _ ?_
    refine own_aN X687 hx hby d21_16 ?_
    refine st688 _ ?_
    refine st701 _ ?_
    refine own_iy (pc := 23) X701 hx hby d21_23 (teq (rfl : (0 : Int32) = (0 : Int32))).1 30 ?_
    refine own_k X701 hx hby d21_30 ?_
    exact retN X701 hx (t := .boolean) hret (by simp) (hb hby d21_31) hr
  · show Qrm684 Z w_CS ca cb da db dc b670 b671 k672 b674 b675 k676 b677 b679 h0 _ T701.heap _
    rw [e701]
    exact ⟨rfl, N701, rfl⟩
def Qrm721 (Z : State) (ca cb da db dc : Int32) (b671 : Addr) (k672 : ClassId) (b675 : Addr) (k676 : ClassId) (h0 : Heap) (v : Option Value) (h : Heap) (L : List Loc) : Prop := v = some (.int (0 : Int32)) ∧ Fr Z.heap.size L ∧ h = h0
theorem rm721 (l : Launch) (Z : State) (a0 : Array Value) (hw : own_HW Z a0) (ws : List Jvm.Cond) (ca cb da db dc : Int32) (b671 : Addr) (k672 : ClassId) (b675 : Addr) (k676 : ClassId) (h0 : Heap) (Z0 : Ext Z.heap h0) (V_b675 : Arv Z h0 b675 k676 .byte (3 : Int32) [(.int (da.toInt8.toInt32)), (.int (db.toInt8.toInt32)), (.int (dc.toInt8.toInt32))] (.int (0 : Int32))) (V_b671 : Arv Z h0 b671 k672 .byte (2 : Int32) [(.int (ca.toInt8.toInt32)), (.int (cb.toInt8.toInt32))] (.int (0 : Int32))) :
    own_met l y_19 jdk_43_method_13_code 3 (some .boolean) ws ({ frames := 0, cells := 0, slots := 0, locals := 0 } : Room) Z #[(.ref b675), (.ref b671)] h0 (Qrm721 Z ca cb da db dc b671 k672 b675 k676 h0) := by
  refine own_start (plainFor_of_name pn_5) (fun m => ef_jdk_43_method_13_RR m b675 b671) ?_
  intro p e s m below meth c s₁ hx hby hml hown hnm X0 hZ e0 hret hlk
  have N0 := Fr.nil Z.heap.size
  obtain ⟨cl722, Ar722, q722, S722, Nn722, H722, G722⟩ := id V_b675
  obtain ⟨cl723, Ar723, q723, S723, Nn723, H723, G723⟩ := id V_b671
  obtain ⟨fs, hr, hrun, hended, hW, hsame⟩ := X0.leave (v := some (.int (0 : Int32))) (fun h => by rw [hret] at h; cases h) hlk
  refine ⟨_, _, ?_, hrun, hended, _, _, rfl, ?_, ⟨_, rfl⟩, hW, hsame.mono (by decide) (by decide)⟩
  · show own_S p e below s₁ (mkF m 0 #[rv b675, rv b671, .unset] []) _
    refine own_aN X0 hx hby d23_0 ?_
    refine X0.arraylength hx (by rw [e0]; exact Ar722.1) (State.isArrayOf_alike hZ.alike Ar722.2.1) (g := (mkF m 1 #[rv b675, rv b671, .unset] [(.ref b675)])) rfl rfl (hb hby d23_1) _ ?_
    rw [len_of S722 Nn722]
    refine own_aN X0 hx hby d23_2 ?_
    refine X0.arraylength hx (by rw [e0]; exact Ar723.1) (State.isArrayOf_alike hZ.alike Ar723.2.1) (g := (mkF m 3 #[rv b675, rv b671, .unset] [(.ref b671), (.int (3 : Int32))])) rfl rfl (hb hby d23_3) _ ?_
    rw [len_of S723 Nn723]
    refine own_cy (pc := 4) X0 hx hby d23_4 (feq (by decide : ¬ ((3 : Int32) = (2 : Int32)))).2 34 ?_
    refine own_k X0 hx hby d23_34 ?_
    exact retN X0 hx (t := .boolean) hret (by simp) (hb hby d23_35) hr
  · show Qrm721 Z ca cb da db dc b671 k672 b675 k676 h0 _ s₁.heap _
    rw [e0]
    exact ⟨rfl, N0, rfl⟩
def Qrm713 (Z : State) (w_CS ca cb da db dc : Int32) (b670 b671 : Addr) (k672 : ClassId) (b674 b675 : Addr) (k676 : ClassId) (h0 : Heap) (v : Option Value) (h : Heap) (L : List Loc) : Prop := v = some (.int (0 : Int32)) ∧ Fr Z.heap.size L ∧ h = h0
theorem rm713 (l : Launch) (Z : State) (a0 : Array Value) (hw : own_HW Z a0) (ws : List Jvm.Cond) (w_CS ca cb da db dc : Int32) (b670 b671 : Addr) (k672 : ClassId) (b674 b675 : Addr) (k676 : ClassId) (h0 : Heap) (Z0 : Ext Z.heap h0) (S_w_CS : own_w_CS Z w_CS) (F_b674_coder : Fld Z h0 b674 "java/lang/String" "coder" "B" (.int (0 : Int32))) (F_b674_value : Fld Z h0 b674 "java/lang/String" "value" "[B" (.ref b675)) (E_b670 : Exa Z h0 b670 "java/lang/String") (F_b670_coder : Fld Z h0 b670 "java/lang/String" "coder" "B" (.int (0 : Int32))) (F_b670_value : Fld Z h0 b670 "java/lang/String" "value" "[B" (.ref b671)) (V_b675 : Arv Z h0 b675 k676 .byte (3 : Int32) [(.int (da.toInt8.toInt32)), (.int (db.toInt8.toInt32)), (.int (dc.toInt8.toInt32))] (.int (0 : Int32))) (V_b671 : Arv Z h0 b671 k672 .byte (2 : Int32) [(.int (ca.toInt8.toInt32)), (.int (cb.toInt8.toInt32))] (.int (0 : Int32))) (hc76 : b674 ≠ b670) (hc1 : ¬ (w_CS = (0 : Int32))) :
    own_met l y_20 jdk_42_method_66_code 3 (some .boolean) ws ({ frames := 1, cells := 0, slots := 0, locals := 14 } : Room) Z #[(.ref b674), (.ref b670)] h0 (Qrm713 Z w_CS ca cb da db dc b670 b671 k672 b674 b675 k676 h0) := by
  refine own_start (plainFor_of_name pn_2) (fun m => ef_jdk_42_method_66_RR m b674 b670) ?_
  intro p e s m below meth c s₁ hx hby hml hown hnm X0 hZ e0 hret hlk
  have N0 := Fr.nil Z.heap.size
  obtain ⟨T714, X714, e714, st714⟩ := instY X0 hx hZ hown (own_w hw 109 rfl) e0 (Ins.self E_b670) (g := (mkF m 8 #[rv b674, rv b670, .unset] [(.ref b670)])) rfl rfl (hb hby d22_8)
  obtain ⟨T715, X715, e715, st715⟩ := castY X714 hx hZ hown (own_w hw 109 rfl) e714 (Ins.self E_b670) (g := (mkF m 15 #[rv b674, rv b670, .unset] [(.ref b670)])) rfl rfl (hb hby d22_15)
  obtain ⟨T716, X716, e716, st716⟩ := getS2 X715 hx hZ hown (host := "") (Or.inl (own_w hw 27 rfl)) Via.refl e715 (S_w_CS.ext Z0) (g := (mkF m 19 #[rv b674, rv b670, rv b670] [])) rfl (hb hby d22_19)
  obtain ⟨T717, X717, e717, st717⟩ := getF X716 hx hZ hown (host := "") (Or.inl (own_w hw 39 rfl)) Via.refl e716 F_b674_coder (g := (mkF m 26 #[rv b674, rv b670, rv b670] [(.ref b674)])) rfl rfl (hb hby d22_26)
  obtain ⟨T718, X718, e718, st718⟩ := getF X717 hx hZ hown (host := "") (Or.inl (own_w hw 39 rfl)) Via.refl e717 F_b670_coder (g := (mkF m 30 #[rv b674, rv b670, rv b670] [(.ref b670), (.int (0 : Int32))])) rfl rfl (hb hby d22_30)
  obtain ⟨T719, X719, e719, st719⟩ := getF X718 hx hZ hown (host := "") (Or.inl (own_w hw 41 rfl)) Via.refl e718 F_b674_value (g := (mkF m 37 #[rv b674, rv b670, rv b670] [(.ref b674)])) rfl rfl (hb hby d22_37)
  obtain ⟨T720, X720, e720, st720⟩ := getF X719 hx hZ hown (host := "") (Or.inl (own_w hw 41 rfl)) Via.refl e719 F_b670_value (g := (mkF m 41 #[rv b674, rv b670, rv b670] [(.ref b670), (.ref b675)])) rfl rfl (hb hby d22_41)
  obtain ⟨_, T724, Lc724, X724, hQ724, st724⟩ := own_static (y := y_19) X720 hx hZ hown (own_w hw 110 rfl) (own_w hw 111 rfl) (own_w hw 75 rfl) (own_w hw 112 rfl) (rm721 l Z a0 hw [] ca cb da db dc b671 k672 b675 k676 h0 Z0 V_b675 V_b671) e720 (g := (mkF m 44 #[rv b674, rv b670, rv b670] [(.ref b671), (.ref b675)])) (argsL := [(.ref b675), (.ref b671)]) (rest := []) (W := 0) (lenOf pd_16 rfl) (hb hby d22_44) hml
  obtain ⟨rfl, N724q, e724⟩ := hQ724
  have N724 := Fr.app N0 N724q
  obtain ⟨fs, hr, hrun, hended, hW, hsame⟩ := X724.leave (v := some (.int (0 : Int32))) (fun h => by rw [hret] at h; cases h) hlk
  refine ⟨_, _, ?_, hrun, hended, _, _, rfl, ?_, ⟨_, rfl⟩, hW, hsame.mono (by decide) (by decide)⟩
  · show own_S p e below s₁ (mkF m 0 #[rv b674, rv b670, .unset] []) _
    refine own_aN X0 hx hby d22_0 ?_
    refine own_aN X0 hx hby d22_1 ?_
    refine Jvm.RoadKit.acmp (g := (mkF m 2 #[rv b674, rv b670, .unset] [(.ref b670), (.ref b674)])) X0 hx rfl rfl rfl (pc0 := 2) (pc' := 7) (same := false) rfl (hb hby d22_2) rfl (decide_eq_false fun q => hc76 (Value.ref.inj q)) (by decide) (by decide) ?_
    refine own_aN X0 hx hby d22_7 ?_
    refine st714 _ ?_
    refine own_in X714 hx hby d22_11 (feq (by decide : ¬ ((1 : Int32) = (0 : Int32)))).1 ?_
    refine own_aN X714 hx hby d22_14 ?_
    refine st715 _ ?_
    refine XS.astoreN X715.here hx rfl (hb hby d22_18) rfl rfl (l' := #[rv b674, rv b670, rv b670]) rfl ?_
    refine st716 _ ?_
    refine own_in X716 hx hby d22_22 (feq hc1).1 ?_
    refine own_aN X716 hx hby d22_25 ?_
    refine st717 _ ?_
    refine own_aN X717 hx hby d22_29 ?_
    refine st718 _ ?_
    refine own_cn X718 hx hby d22_33 (teq (rfl : (0 : Int32) = (0 : Int32))).2 ?_
    refine own_aN X718 hx hby d22_36 ?_
    refine st719 _ ?_
    refine own_aN X719 hx hby d22_40 ?_
    refine st720 _ ?_
    refine st724 _ ?_
    refine own_iy (pc := 47) X724 hx hby d22_47 (teq (rfl : (0 : Int32) = (0 : Int32))).1 54 ?_
    refine own_k X724 hx hby d22_54 ?_
    exact retN X724 hx (t := .boolean) hret (by simp) (hb hby d22_55) hr
  · show Qrm713 Z w_CS ca cb da db dc b670 b671 k672 b674 b675 k676 h0 _ T724.heap _
    rw [e724]
    exact ⟨rfl, N724, rfl⟩
def Qrm708 (Z : State) (w_CS ca cb da db dc : Int32) (b670 b671 : Addr) (k672 : ClassId) (b674 b675 : Addr) (k676 : ClassId) (b677 b679 : Addr) (h0 : Heap) (v : Option Value) (h : Heap) (L : List Loc) : Prop := v = some (.int (0 : Int32)) ∧ Fr Z.heap.size L ∧ h = h0
theorem rm708 (l : Launch) (Z : State) (a0 : Array Value) (hw : own_HW Z a0) (ws : List Jvm.Cond) (w_CS ca cb da db dc : Int32) (b670 b671 : Addr) (k672 : ClassId) (b674 b675 : Addr) (k676 : ClassId) (b677 b679 : Addr) (h0 : Heap) (Z0 : Ext Z.heap h0) (S_w_CS : own_w_CS Z w_CS) (F_b679_written : Fld Z h0 b679 "com/example/faretally/faretally/RefundRequest$Involuntary$Reason" "written" "Ljava/lang/String;" (.ref b674)) (E_b677 : Exa Z h0 b677 "com/example/faretally/faretally/RefundRequest$Involuntary$Reason") (F_b677_written : Fld Z h0 b677 "com/example/faretally/faretally/RefundRequest$Involuntary$Reason" "written" "Ljava/lang/String;" (.ref b670)) (E_b674 : Exa Z h0 b674 "java/lang/String") (F_b674_coder : Fld Z h0 b674 "java/lang/String" "coder" "B" (.int (0 : Int32))) (F_b674_value : Fld Z h0 b674 "java/lang/String" "value" "[B" (.ref b675)) (E_b670 : Exa Z h0 b670 "java/lang/String") (F_b670_coder : Fld Z h0 b670 "java/lang/String" "coder" "B" (.int (0 : Int32))) (F_b670_value : Fld Z h0 b670 "java/lang/String" "value" "[B" (.ref b671)) (V_b675 : Arv Z h0 b675 k676 .byte (3 : Int32) [(.int (da.toInt8.toInt32)), (.int (db.toInt8.toInt32)), (.int (dc.toInt8.toInt32))] (.int (0 : Int32))) (V_b671 : Arv Z h0 b671 k672 .byte (2 : Int32) [(.int (ca.toInt8.toInt32)), (.int (cb.toInt8.toInt32))] (.int (0 : Int32))) (hc76 : b674 ≠ b670) (hc1 : ¬ (w_CS = (0 : Int32))) :
    own_met l y_21 prog_97_method_3_code 3 (some .boolean) ws ({ frames := 2, cells := 0, slots := 0, locals := 28 } : Room) Z #[(.ref b679), (.ref b677)] h0 (Qrm708 Z w_CS ca cb da db dc b670 b671 k672 b674 b675 k676 b677 b679 h0) := by
  refine own_start (plainFor_of_name pn_6) (fun m => ef_prog_97_method_3_RR m b679 b677) ?_
  intro p e s m below meth c s₁ hx hby hml hown hnm X0 hZ e0 hret hlk
  have N0 := Fr.nil Z.heap.size
  obtain ⟨T709, X709, e709, st709⟩ := instY X0 hx hZ hown (own_w hw 102 rfl) e0 (Ins.self E_b677) (g := (mkF m 1 #[rv b679, rv b677, .unset] [(.ref b677)])) rfl rfl (hb hby d21_1)
  obtain ⟨T710, X710, e710, st710⟩ := castY X709 hx hZ hown (own_w hw 102 rfl) e709 (Ins.self E_b677) (g := (mkF m 8 #[rv b679, rv b677, .unset] [(.ref b677)])) rfl rfl (hb hby d21_8)
  obtain ⟨T711, X711, e711, st711⟩ := getF X710 hx hZ hown (host := "") (Or.inl (own_w hw 95 rfl)) Via.refl e710 F_b679_written (g := (mkF m 13 #[rv b679, rv b677, rv b677] [(.ref b679)])) rfl rfl (hb hby d21_13)
  obtain ⟨T712, X712, e712, st712⟩ := getF X711 hx hZ hown (host := "") (Or.inl (own_w hw 95 rfl)) Via.refl e711 F_b677_written (g := (mkF m 17 #[rv b679, rv b677, rv b677] [(.ref b677), (.ref b674)])) rfl rfl (hb hby d21_17)
  obtain ⟨_, T725, Lc725, X725, hQ725, st725⟩ := own_virtual (y := y_20) X712 hx hZ hown (own_w hw 104 rfl) (own_w hw 105 rfl) (own_w hw 107 rfl) (own_w hw 106 rfl) (own_w hw 15 rfl) (own_w hw 108 rfl) (rm713 l Z a0 hw [] w_CS ca cb da db dc b670 b671 k672 b674 b675 k676 h0 Z0 S_w_CS F_b674_coder F_b674_value E_b670 F_b670_coder F_b670_value V_b675 V_b671 hc76 hc1) e712 E_b674 (g := (mkF m 20 #[rv b679, rv b677, rv b677] [(.ref b670), (.ref b674)])) (argsL := [(.ref b670)]) (rest := []) (W := 0) (lenOf pd_17 rfl) (hb hby d21_20) hml
  obtain ⟨rfl, N725q, e725⟩ := hQ725
  have N725 := Fr.app N0 N725q
  obtain ⟨fs, hr, hrun, hended, hW, hsame⟩ := X725.leave (v := some (.int (0 : Int32))) (fun h => by rw [hret] at h; cases h) hlk
  refine ⟨_, _, ?_, hrun, hended, _, _, rfl, ?_, ⟨_, rfl⟩, hW, hsame.mono (by decide) (by decide)⟩
  · show own_S p e below s₁ (mkF m 0 #[rv b679, rv b677, .unset] []) _
    refine own_aN X0 hx hby d21_0 ?_
    refine st709 _ ?_
    refine own_in X709 hx hby d21_4 (feq (by decide : ¬ ((1 : Int32) = (0 : Int32)))).1 ?_
    refine own_aN X709 hx hby d21_7 ?_
    refine st710 _ ?_
    refine XS.astoreN X710.here hx rfl (hb hby d21_11) rfl rfl (l' := #[rv b679, rv b677, rv b677]) rfl ?_
    refine own_aN X710 hx hby d21_12 ?_
    refine st711 _ ?_
    refine own_aN X711 hx hby d21_16 ?_
    refine st712 _ ?_
    refine st725 _ ?_
    refine own_iy (pc := 23) X725 hx hby d21_23 (teq (rfl : (0 : Int32) = (0 : Int32))).1 30 ?_
    refine own_k X725 hx hby d21_30 ?_
    exact retN X725 hx (t := .boolean) hret (by simp) (hb hby d21_31) hr
  · show Qrm708 Z w_CS ca cb da db dc b670 b671 k672 b674 b675 k676 b677 b679 h0 _ T725.heap _
    rw [e725]
    exact ⟨rfl, N725, rfl⟩
theorem own_t23 {p : Program} {l : Launch} {e : Env} {s : State} {m : MethodId} {args : Array Value} {below : List Frame} {meth : Method} {c : Code} {T0 : State} {locs : List Loc} (Z : State) (a0 : Array Value) (hw : own_HW Z a0) (w_CS : Int32) (w_SF : Value) (q1 q2 : Int64) (p3 ca cb cc da db dc : Int32) (h0 : Heap) (Z0 : Ext Z.heap h0) (S_w_CS : own_w_CS Z w_CS) (S_w_SF : own_w_SF Z w_SF) (R_w_SF : w_SF.isRef = true) (hc42 : own_ch ca) (hc64 : own_ch cb) (hc1 : ¬ (w_CS = (0 : Int32))) (hc43 : own_ch da) (hc54 : own_ch db) (hc59 : own_ch dc) (hc45 : own_low ca) (hc65 : own_aln cb) (hc46 : own_low da) (hc56 : own_aln db) (hc61 : own_aln dc) (X0 : Stand p l e room_1 s m args below meth c T0 locs 0 0) (hx : p.tables.exec = Jvm.exec) (hZ : Z.Warmed39 s.vm) (hby : c.code = code) (hml : c.maxLocals = 19) (hown : s.vm.findClass "com/example/faretally/faretally/ReasonEqualsPinLaw" = some m.cls) (e0 : T0.heap = h0) (N0 : Fr Z.heap.size locs) (hret : meth.sig.returnType = some .boolean) (hlk : meth.locks = false) :
    ∃ s₂ o, Steps p.tables e below (T0.setTop (mkF m 153 (own_T q1 q2 p3 2 ca cb cc 3 da db dc .unset .unset .unset .unset .unset .unset) [])) s₂ ∧ s₂.status = .running ∧ Ended s₂ below o ∧ ∃ v L, o = .returned v ∧ (v = some (.int (1 : Int32)) ∧ Fr Z.heap.size L) ∧ FrameEnd s o s₂ L room_1.cells room_1.slots := by
  obtain ⟨_, T669, Lc669, X669, hQ669, st669⟩ := own_static (y := y_7) X0 hx hZ hown (own_w hw 10 rfl) (own_w hw 11 rfl) (own_w hw 4 rfl) (own_w hw 12 rfl) (rm196 l Z a0 hw [] w_CS ca cb cc h0 Z0 S_w_CS hc42 hc64 hc1) e0 (g := (mkF m 161 (own_T q1 q2 p3 2 ca cb cc 3 da db dc .unset .unset .unset .unset .unset .unset) [(.int cc), (.int cb), (.int ca), (.int (2 : Int32))])) (argsL := [(.int (2 : Int32)), (.int ca), (.int cb), (.int cc)]) (rest := []) (W := 0) (lenOf pd_6 rfl) (hb hby at_161) hml
  obtain ⟨b670, b671, k672, rfl, N669q, K669q, szn_b670, szn_b671, q669_E_b670, q669_F_b670_coder, q669_F_b670_value, q669_V_b671⟩ := hQ669
  have g_b670 : Z.heap.size ≤ b670 := Nat.le_trans Z0.1 szn_b670
  have sz_b670 : h0.size ≤ b670 := Nat.le_trans (Keep.refl h0 []).1 szn_b670
  have g_b671 : Z.heap.size ≤ b671 := Nat.le_trans Z0.1 szn_b671
  have sz_b671 : h0.size ≤ b671 := Nat.le_trans (Keep.refl h0 []).1 szn_b671
  have K669 : Keep h0 T669.heap [] := (Keep.refl h0 []).trans K669q all0
  have XX669 : Ext Z.heap T669.heap := own_extK Z0 K669q all0
  have N669 := Fr.app N0 N669q
  obtain ⟨_, T673, Lc673, X673, hQ673, st673⟩ := own_static (y := y_7) X669 hx hZ hown (own_w hw 10 rfl) (own_w hw 11 rfl) (own_w hw 4 rfl) (own_w hw 12 rfl) (rm340 l Z a0 hw [] w_CS da db dc T669.heap XX669 S_w_CS hc43 hc54 hc59 hc1) rfl (g := (mkF m 174 (own_T q1 q2 p3 2 ca cb cc 3 da db dc (rv b670) .unset .unset .unset .unset .unset) [(.int dc), (.int db), (.int da), (.int (3 : Int32))])) (argsL := [(.int (3 : Int32)), (.int da), (.int db), (.int dc)]) (rest := []) (W := 0) (lenOf pd_6 rfl) (hb hby at_174) hml
  obtain ⟨b674, b675, k676, rfl, N673q, K673q, szn_b674, szn_b675, q673_E_b674, q673_F_b674_coder, q673_F_b674_value, q673_V_b675⟩ := hQ673
  have g_b674 : Z.heap.size ≤ b674 := Nat.le_trans XX669.1 szn_b674
  have sz_b674 : h0.size ≤ b674 := Nat.le_trans K669.1 szn_b674
  have g_b675 : Z.heap.size ≤ b675 := Nat.le_trans XX669.1 szn_b675
  have sz_b675 : h0.size ≤ b675 := Nat.le_trans K669.1 szn_b675
  have K673 : Keep h0 T673.heap [] := K669.trans K673q all0
  have XX673 : Ext Z.heap T673.heap := own_extK XX669 K673q all0
  have N673 := Fr.app N669 N673q
  obtain ⟨T677, h677, X677, e677, E677, A677, D677, -, st677⟩ := newO X673 hx hZ hown (own_w hw 43 rfl) (own_w hw 44 rfl) (own_w hw 45 rfl) rfl (g := (mkF m 226 (own_T q1 q2 p3 2 ca cb cc 3 da db dc (rv b670) (rv b674) (iv (0 : Int32)) .unset .unset .unset) [])) rfl (hb hby at_226) (by decide) (by decide)
  obtain ⟨b677, g677⟩ : ∃ z, z = T673.heap.size := ⟨_, rfl⟩
  rw [← g677] at A677 D677 st677
  have g_b677 : Z.heap.size ≤ b677 := Nat.le_trans XX673.1 (Nat.le_of_eq g677.symm)
  have sz_b677 : h0.size ≤ b677 := Nat.le_trans K673.1 (Nat.le_of_eq g677.symm)
  have F_b677_written : Fld Z h677 b677 "com/example/faretally/faretally/RefundRequest$Involuntary$Reason" "written" "Ljava/lang/String;" .null := D677 (Or.inr (own_w hw 96 rfl)) (ty := (.object "java/lang/String")) (by decide)
  have K677 : Keep h0 h677 [] := K673.ext E677
  have XX677 : Ext Z.heap h677 := own_ext2 XX673 E677
  obtain ⟨_, T678, Lc678, X678, hQ678, st678⟩ := own_special (y := y_18) X677 hx hZ hown rfl (own_w hw 46 rfl) (own_w hw 47 rfl) (own_w hw 45 rfl) (own_w hw 48 rfl) (rm244 l Z a0 hw [] w_CS w_SF ca cb b670 b671 k672 b677 h677 XX677 S_w_CS S_w_SF R_w_SF A677 F_b677_written ((q669_E_b670.keep K673q).ext E677) ((q669_F_b670_coder.keep K673q nin0).ext E677) ((q669_F_b670_value.keep K673q nin0).ext E677) ((q669_V_b671.keep K673q nin0).ext E677) g_b677 hc1 hc42 hc45 hc64 hc65) e677 b677 (g := (mkF m 232 (own_T q1 q2 p3 2 ca cb cc 3 da db dc (rv b670) (rv b674) (iv (0 : Int32)) .unset .unset .unset) [(.ref b670), (.ref b677), (.ref b677)])) (argsL := [(.ref b670)]) (rest := [(.ref b677)]) (W := 1) (lenOf pd_15 rfl) (hb hby at_232) hml
  obtain ⟨rfl, N678q, K678q, q678_E_b677, q678_F_b677_written⟩ := hQ678
  have K678 : Keep h0 T678.heap [] := K677.trans K678q (allS (Or.inr sz_b677) all0)
  have XX678 : Ext Z.heap T678.heap := own_extK XX677 K678q (allS g_b677 all0)
  have N678 := Fr.app N673 N678q
  obtain ⟨T679, h679, X679, e679, E679, A679, D679, -, st679⟩ := newO X678 hx hZ hown (own_w hw 43 rfl) (own_w hw 44 rfl) (own_w hw 45 rfl) rfl (g := (mkF m 237 (own_T q1 q2 p3 2 ca cb cc 3 da db dc (rv b670) (rv b674) (iv (0 : Int32)) (rv b677) .unset .unset) [])) rfl (hb hby at_237) (by decide) (by decide)
  obtain ⟨b679, g679⟩ : ∃ z, z = T678.heap.size := ⟨_, rfl⟩
  rw [← g679] at A679 D679 st679
  have g_b679 : Z.heap.size ≤ b679 := Nat.le_trans XX678.1 (Nat.le_of_eq g679.symm)
  have sz_b679 : h0.size ≤ b679 := Nat.le_trans K678.1 (Nat.le_of_eq g679.symm)
  have F_b679_written : Fld Z h679 b679 "com/example/faretally/faretally/RefundRequest$Involuntary$Reason" "written" "Ljava/lang/String;" .null := D679 (Or.inr (own_w hw 96 rfl)) (ty := (.object "java/lang/String")) (by decide)
  have K679 : Keep h0 h679 [] := K678.ext E679
  have XX679 : Ext Z.heap h679 := own_ext2 XX678 E679
  have ne_b674_b677 : b674 ≠ b677 := Nat.ne_of_lt (Nat.lt_of_lt_of_le q673_E_b674.lt (Nat.le_of_eq g677.symm))
  have f681_F_b674_coder : Fld Z h679 b674 "java/lang/String" "coder" "B" (.int (0 : Int32)) := (((q673_F_b674_coder.ext E677).keep K678q (ninS ne_b674_b677 (nin0))).ext E679)
  have f682_F_b674_value : Fld Z h679 b674 "java/lang/String" "value" "[B" (.ref b675) := (((q673_F_b674_value.ext E677).keep K678q (ninS ne_b674_b677 (nin0))).ext E679)
  have ne_b675_b677 : b675 ≠ b677 := Nat.ne_of_lt (Nat.lt_of_lt_of_le q673_V_b675.lt (Nat.le_of_eq g677.symm))
  have f683_V_b675 : Arv Z h679 b675 k676 .byte (3 : Int32) [(.int (da.toInt8.toInt32)), (.int (db.toInt8.toInt32)), (.int (dc.toInt8.toInt32))] (.int (0 : Int32)) := (((q673_V_b675.ext E677).keep K678q (ninS ne_b675_b677 (nin0))).ext E679)
  obtain ⟨_, T680, Lc680, X680, hQ680, st680⟩ := own_special (y := y_18) X679 hx hZ hown rfl (own_w hw 46 rfl) (own_w hw 47 rfl) (own_w hw 45 rfl) (own_w hw 48 rfl) (rm393 l Z a0 hw [] w_CS w_SF da db dc b674 b675 k676 b679 h679 XX679 S_w_CS S_w_SF R_w_SF A679 F_b679_written (((q673_E_b674.ext E677).keep K678q).ext E679) f681_F_b674_coder f682_F_b674_value f683_V_b675 g_b679 hc1 hc43 hc46 hc54 hc56 hc59 hc61) e679 b679 (g := (mkF m 243 (own_T q1 q2 p3 2 ca cb cc 3 da db dc (rv b670) (rv b674) (iv (0 : Int32)) (rv b677) .unset .unset) [(.ref b674), (.ref b679), (.ref b679)])) (argsL := [(.ref b674)]) (rest := [(.ref b679)]) (W := 1) (lenOf pd_15 rfl) (hb hby at_243) hml
  obtain ⟨rfl, N680q, K680q, q680_E_b679, q680_F_b679_written⟩ := hQ680
  have K680 : Keep h0 T680.heap [] := K679.trans K680q (allS (Or.inr sz_b679) all0)
  have XX680 : Ext Z.heap T680.heap := own_extK XX679 K680q (allS g_b679 all0)
  have N680 := Fr.app N678 N680q
  have ne_b677_b679 : b677 ≠ b679 := Nat.ne_of_lt (Nat.lt_of_lt_of_le q678_E_b677.lt (Nat.le_of_eq g679.symm))
  have f703_F_b677_written : Fld Z T680.heap b677 "com/example/faretally/faretally/RefundRequest$Involuntary$Reason" "written" "Ljava/lang/String;" (.ref b670) := ((q678_F_b677_written.ext E679).keep K680q (ninS ne_b677_b679 (nin0)))
  have f704_E_b670 : Exa Z T680.heap b670 "java/lang/String" := (((((q669_E_b670.keep K673q).ext E677).keep K678q).ext E679).keep K680q)
  have ne_b670_b677 : b670 ≠ b677 := Nat.ne_of_lt (Nat.lt_of_lt_of_le (q669_E_b670.keep K673q).lt (Nat.le_of_eq g677.symm))
  have ne_b670_b679 : b670 ≠ b679 := Nat.ne_of_lt (Nat.lt_of_lt_of_le (((q669_E_b670.keep K673q).ext E677).keep K678q).lt (Nat.le_of_eq g679.symm))
  have f705_F_b670_coder : Fld Z T680.heap b670 "java/lang/String" "coder" "B" (.int (0 : Int32)) := (((((q669_F_b670_coder.keep K673q nin0).ext E677).keep K678q (ninS ne_b670_b677 (nin0))).ext E679).keep K680q (ninS ne_b670_b679 (nin0)))
  have f706_F_b670_value : Fld Z T680.heap b670 "java/lang/String" "value" "[B" (.ref b671) := (((((q669_F_b670_value.keep K673q nin0).ext E677).keep K678q (ninS ne_b670_b677 (nin0))).ext E679).keep K680q (ninS ne_b670_b679 (nin0)))
  have ne_b674_b679 : b674 ≠ b679 := Nat.ne_of_lt (Nat.lt_of_lt_of_le ((q673_E_b674.ext E677).keep K678q).lt (Nat.le_of_eq g679.symm))
  have ne_b671_b677 : b671 ≠ b677 := Nat.ne_of_lt (Nat.lt_of_lt_of_le (q669_V_b671.keep K673q nin0).lt (Nat.le_of_eq g677.symm))
  have ne_b671_b679 : b671 ≠ b679 := Nat.ne_of_lt (Nat.lt_of_lt_of_le (((q669_V_b671.keep K673q nin0).ext E677).keep K678q (ninS ne_b671_b677 (nin0))).lt (Nat.le_of_eq g679.symm))
  have f707_V_b671 : Arv Z T680.heap b671 k672 .byte (2 : Int32) [(.int (ca.toInt8.toInt32)), (.int (cb.toInt8.toInt32))] (.int (0 : Int32)) := (((((q669_V_b671.keep K673q nin0).ext E677).keep K678q (ninS ne_b671_b677 (nin0))).ext E679).keep K680q (ninS ne_b671_b679 (nin0)))
  have ne_b675_b679 : b675 ≠ b679 := Nat.ne_of_lt (Nat.lt_of_lt_of_le ((q673_V_b675.ext E677).keep K678q (ninS ne_b675_b677 (nin0))).lt (Nat.le_of_eq g679.symm))
  have ne_b670_b674 : b670 ≠ b674 := Nat.ne_of_lt (Nat.lt_of_lt_of_le q669_E_b670.lt szn_b674)
  obtain ⟨_, T702, Lc702, X702, hQ702, st702⟩ := own_virtual (y := y_21) X680 hx hZ hown (own_w hw 97 rfl) (own_w hw 98 rfl) (own_w hw 100 rfl) (own_w hw 99 rfl) (own_w hw 45 rfl) (own_w hw 101 rfl) (rm684 l Z a0 hw [] w_CS ca cb da db dc b670 b671 k672 b674 b675 k676 b677 b679 T680.heap XX680 S_w_CS f703_F_b677_written q680_E_b679 q680_F_b679_written f704_E_b670 f705_F_b670_coder f706_F_b670_value ((((q673_E_b674.ext E677).keep K678q).ext E679).keep K680q) (f681_F_b674_coder.keep K680q (ninS ne_b674_b679 (nin0))) (f682_F_b674_value.keep K680q (ninS ne_b674_b679 (nin0))) f707_V_b671 (f683_V_b675.keep K680q (ninS ne_b675_b679 (nin0))) ne_b670_b674 hc1) rfl ((q678_E_b677.ext E679).keep K680q) (g := (mkF m 252 (own_T q1 q2 p3 2 ca cb cc 3 da db dc (rv b670) (rv b674) (iv (0 : Int32)) (rv b677) (rv b679) .unset) [(.ref b679), (.ref b677)])) (argsL := [(.ref b679)]) (rest := []) (W := 0) (lenOf pd_17 rfl) (hb hby at_252) hml
  obtain ⟨rfl, N702q, e702⟩ := hQ702
  have N702 := Fr.app N680 N702q
  obtain ⟨_, T726, Lc726, X726, hQ726, st726⟩ := own_virtual (y := y_21) X702 hx hZ hown (own_w hw 97 rfl) (own_w hw 98 rfl) (own_w hw 100 rfl) (own_w hw 99 rfl) (own_w hw 45 rfl) (own_w hw 101 rfl) (rm708 l Z a0 hw [] w_CS ca cb da db dc b670 b671 k672 b674 b675 k676 b677 b679 T680.heap XX680 S_w_CS q680_F_b679_written ((q678_E_b677.ext E679).keep K680q) f703_F_b677_written ((((q673_E_b674.ext E677).keep K678q).ext E679).keep K680q) (f681_F_b674_coder.keep K680q (ninS ne_b674_b679 (nin0))) (f682_F_b674_value.keep K680q (ninS ne_b674_b679 (nin0))) f704_E_b670 f705_F_b670_coder f706_F_b670_value (f683_V_b675.keep K680q (ninS ne_b675_b679 (nin0))) f707_V_b671 (Ne.symm ne_b670_b674) hc1) e702 q680_E_b679 (g := (mkF m 276 (own_T q1 q2 p3 2 ca cb cc 3 da db dc (rv b670) (rv b674) (iv (0 : Int32)) (rv b677) (rv b679) (iv (1 : Int32))) [(.ref b677), (.ref b679)])) (argsL := [(.ref b677)]) (rest := []) (W := 0) (lenOf pd_17 rfl) (hb hby at_276) hml
  obtain ⟨rfl, N726q, e726⟩ := hQ726
  have N726 := Fr.app N702 N726q
  obtain ⟨_, T727, Lc727, X727, hQ727, st727⟩ := own_virtual (y := y_21) X726 hx hZ hown (own_w hw 97 rfl) (own_w hw 98 rfl) (own_w hw 100 rfl) (own_w hw 99 rfl) (own_w hw 45 rfl) (own_w hw 101 rfl) (rm132 l Z a0 hw [] b670 b677 T680.heap XX680 ((q678_E_b677.ext E679).keep K680q) f703_F_b677_written f704_E_b670) e726 ((q678_E_b677.ext E679).keep K680q) (g := (mkF m 300 (own_T q1 q2 p3 2 ca cb cc 3 da db dc (rv b670) (rv b674) (iv (0 : Int32)) (rv b677) (rv b679) (iv (1 : Int32))) [(.ref b677), (.ref b677)])) (argsL := [(.ref b677)]) (rest := []) (W := 0) (lenOf pd_17 rfl) (hb hby at_300) hml
  obtain ⟨rfl, N727q, e727⟩ := hQ727
  have N727 := Fr.app N726 N727q
  obtain ⟨_, T728, Lc728, X728, hQ728, st728⟩ := own_virtual (y := y_21) X727 hx hZ hown (own_w hw 97 rfl) (own_w hw 98 rfl) (own_w hw 100 rfl) (own_w hw 99 rfl) (own_w hw 45 rfl) (own_w hw 101 rfl) (rm140 l Z a0 hw [] b670 b677 T680.heap XX680 f704_E_b670) e727 ((q678_E_b677.ext E679).keep K680q) (g := (mkF m 322 (own_T q1 q2 p3 2 ca cb cc 3 da db dc (rv b670) (rv b674) (iv (0 : Int32)) (rv b677) (rv b679) (iv (1 : Int32))) [(.ref b670), (.ref b677)])) (argsL := [(.ref b670)]) (rest := []) (W := 0) (lenOf pd_17 rfl) (hb hby at_322) hml
  obtain ⟨rfl, N728q, e728⟩ := hQ728
  have N728 := Fr.app N727 N728q
  obtain ⟨_, T729, Lc729, X729, hQ729, st729⟩ := own_virtual (y := y_21) X728 hx hZ hown (own_w hw 97 rfl) (own_w hw 98 rfl) (own_w hw 100 rfl) (own_w hw 99 rfl) (own_w hw 45 rfl) (own_w hw 101 rfl) (rm143 l Z a0 hw [] b677 T680.heap XX680 ) e728 ((q678_E_b677.ext E679).keep K680q) (g := (mkF m 343 (own_T q1 q2 p3 2 ca cb cc 3 da db dc (rv b670) (rv b674) (iv (0 : Int32)) (rv b677) (rv b679) (iv (1 : Int32))) [.null, (.ref b677)])) (argsL := [.null]) (rest := []) (W := 0) (lenOf pd_17 rfl) (hb hby at_343) hml
  obtain ⟨rfl, N729q, e729⟩ := hQ729
  have N729 := Fr.app N728 N729q
  obtain ⟨fs, hr, hrun, hended, hW, hsame⟩ := X729.leave (v := some (.int (1 : Int32))) (fun h => by rw [hret] at h; cases h) hlk
  refine ⟨_, _, ?_, hrun, hended, _, _, rfl, ⟨rfl, N729⟩, ⟨_, rfl⟩, hW, hsame.mono (by decide) (by decide)⟩
  show own_S p e below T0 (mkF m 153 (own_T q1 q2 p3 2 ca cb cc 3 da db dc .unset .unset .unset .unset .unset .unset) []) _
  refine own_i X0 hx hby at_153 ?_
  refine own_i X0 hx hby at_155 ?_
  refine own_i X0 hx hby at_157 ?_
  refine own_i X0 hx hby at_159 ?_
  refine st669 _ ?_
  refine XS.astore X669.here hx rfl (hb hby at_164) rfl rfl (l' := (own_T q1 q2 p3 2 ca cb cc 3 da db dc (rv b670) .unset .unset .unset .unset .unset)) rfl ?_
  refine own_i X669 hx hby at_166 ?_
  refine own_i X669 hx hby at_168 ?_
  refine own_i X669 hx hby at_170 ?_
  refine own_i X669 hx hby at_172 ?_
  refine st673 _ ?_
  refine XS.astore X673.here hx rfl (hb hby at_177) rfl rfl (l' := (own_T q1 q2 p3 2 ca cb cc 3 da db dc (rv b670) (rv b674) .unset .unset .unset .unset)) rfl ?_
  refine own_i X673 hx hby at_179 ?_
  refine own_i X673 hx hby at_181 ?_
  refine own_cy (pc := 183) X673 hx hby at_183 (feq (by decide : ¬ ((2 : Int32) = (3 : Int32)))).2 223 ?_
  refine own_k X673 hx hby at_223 ?_
  refine XS.istore X673.here hx rfl (hb hby at_224) rfl (l' := (own_T q1 q2 p3 2 ca cb cc 3 da db dc (rv b670) (rv b674) (iv (0 : Int32)) .unset .unset .unset)) rfl ?_
  refine st677 _ ?_
  refine XS.dup X677.here hx rfl (hb hby at_229) rfl rfl ?_
  refine own_a X677 hx hby at_230 ?_
  refine st678 _ ?_
  refine XS.astore X678.here hx rfl (hb hby at_235) rfl rfl (l' := (own_T q1 q2 p3 2 ca cb cc 3 da db dc (rv b670) (rv b674) (iv (0 : Int32)) (rv b677) .unset .unset)) rfl ?_
  refine st679 _ ?_
  refine XS.dup X679.here hx rfl (hb hby at_240) rfl rfl ?_
  refine own_a X679 hx hby at_241 ?_
  refine st680 _ ?_
  refine XS.astore X680.here hx rfl (hb hby at_246) rfl rfl (l' := (own_T q1 q2 p3 2 ca cb cc 3 da db dc (rv b670) (rv b674) (iv (0 : Int32)) (rv b677) (rv b679) .unset)) rfl ?_
  refine own_a X680 hx hby at_248 ?_
  refine own_a X680 hx hby at_250 ?_
  refine st702 _ ?_
  refine own_i X702 hx hby at_255 ?_
  refine own_cn X702 hx hby at_257 (teq (rfl : (0 : Int32) = (0 : Int32))).2 ?_
  refine own_k X702 hx hby at_260 ?_
  refine own_go (pc := 261) X702 hx hby at_261 265 ?_
  refine XS.istore X702.here hx rfl (hb hby at_265) rfl (l' := (own_T q1 q2 p3 2 ca cb cc 3 da db dc (rv b670) (rv b674) (iv (0 : Int32)) (rv b677) (rv b679) (iv (1 : Int32)))) rfl ?_
  refine own_i X702 hx hby at_267 ?_
  refine own_in X702 hx hby at_269 (feq (by decide : ¬ ((1 : Int32) = (0 : Int32)))).1 ?_
  refine own_a X702 hx hby at_272 ?_
  refine own_a X702 hx hby at_274 ?_
  refine st726 _ ?_
  refine own_i X726 hx hby at_279 ?_
  refine own_cn X726 hx hby at_281 (teq (rfl : (0 : Int32) = (0 : Int32))).2 ?_
  refine own_k X726 hx hby at_284 ?_
  refine own_go (pc := 285) X726 hx hby at_285 289 ?_
  refine XS.istore X726.here hx rfl (hb hby at_289) rfl (l' := (own_T q1 q2 p3 2 ca cb cc 3 da db dc (rv b670) (rv b674) (iv (0 : Int32)) (rv b677) (rv b679) (iv (1 : Int32)))) rfl ?_
  refine own_i X726 hx hby at_291 ?_
  refine own_in X726 hx hby at_293 (feq (by decide : ¬ ((1 : Int32) = (0 : Int32)))).1 ?_
  refine own_a X726 hx hby at_296 ?_
  refine own_a X726 hx hby at_298 ?_
  refine st727 _ ?_
  refine own_in X727 hx hby at_303 (feq (by decide : ¬ ((1 : Int32) = (0 : Int32)))).1 ?_
  refine own_k X727 hx hby at_306 ?_
  refine own_go (pc := 307) X727 hx hby at_307 311 ?_
  refine XS.istore X727.here hx rfl (hb hby at_311) rfl (l' := (own_T q1 q2 p3 2 ca cb cc 3 da db dc (rv b670) (rv b674) (iv (0 : Int32)) (rv b677) (rv b679) (iv (1 : Int32)))) rfl ?_
  refine own_i X727 hx hby at_313 ?_
  refine own_in X727 hx hby at_315 (feq (by decide : ¬ ((1 : Int32) = (0 : Int32)))).1 ?_
  refine own_a X727 hx hby at_318 ?_
  refine own_a X727 hx hby at_320 ?_
  refine st728 _ ?_
  refine own_in X728 hx hby at_325 (teq (rfl : (0 : Int32) = (0 : Int32))).2 ?_
  refine own_k X728 hx hby at_328 ?_
  refine own_go (pc := 329) X728 hx hby at_329 333 ?_
  refine XS.istore X728.here hx rfl (hb hby at_333) rfl (l' := (own_T q1 q2 p3 2 ca cb cc 3 da db dc (rv b670) (rv b674) (iv (0 : Int32)) (rv b677) (rv b679) (iv (1 : Int32)))) rfl ?_
  refine own_i X728 hx hby at_335 ?_
  refine own_in X728 hx hby at_337 (feq (by decide : ¬ ((1 : Int32) = (0 : Int32)))).1 ?_
  refine own_a X728 hx hby at_340 ?_
  refine XS.aconstNull X728.here hx rfl (hb hby at_342) ?_
  refine st729 _ ?_
  refine own_in X729 hx hby at_346 (teq (rfl : (0 : Int32) = (0 : Int32))).2 ?_
  refine own_k X729 hx hby at_349 ?_
  refine own_go (pc := 350) X729 hx hby at_350 354 ?_
  refine XS.istore X729.here hx rfl (hb hby at_354) rfl (l' := (own_T q1 q2 p3 2 ca cb cc 3 da db dc (rv b670) (rv b674) (iv (0 : Int32)) (rv b677) (rv b679) (iv (1 : Int32)))) rfl ?_
  refine own_i X729 hx hby at_356 ?_
  exact retN X729 hx (t := .boolean) hret (by simp) (hb hby at_358) hr
theorem own_t31 {p : Program} {l : Launch} {e : Env} {s : State} {m : MethodId} {args : Array Value} {below : List Frame} {meth : Method} {c : Code} {T0 : State} {locs : List Loc} (Z : State) (a0 : Array Value) (hw : own_HW Z a0) (w_CS : Int32) (w_SF : Value) (q1 q2 : Int64) (p3 ca cb cc da db dc : Int32) (h0 : Heap) (Z0 : Ext Z.heap h0) (S_w_CS : own_w_CS Z w_CS) (S_w_SF : own_w_SF Z w_SF) (R_w_SF : w_SF.isRef = true) (hc42 : own_ch ca) (hc64 : own_ch cb) (hc77 : own_ch cc) (hc1 : ¬ (w_CS = (0 : Int32))) (hc43 : own_ch da) (hc45 : own_low ca) (hc65 : own_aln cb) (hc78 : own_aln cc) (hc46 : own_low da) (X0 : Stand p l e room_1 s m args below meth c T0 locs 0 0) (hx : p.tables.exec = Jvm.exec) (hZ : Z.Warmed39 s.vm) (hby : c.code = code) (hml : c.maxLocals = 19) (hown : s.vm.findClass "com/example/faretally/faretally/ReasonEqualsPinLaw" = some m.cls) (e0 : T0.heap = h0) (N0 : Fr Z.heap.size locs) (hret : meth.sig.returnType = some .boolean) (hlk : meth.locks = false) :
    ∃ s₂ o, Steps p.tables e below (T0.setTop (mkF m 153 (own_T q1 q2 p3 3 ca cb cc 1 da db dc .unset .unset .unset .unset .unset .unset) [])) s₂ ∧ s₂.status = .running ∧ Ended s₂ below o ∧ ∃ v L, o = .returned v ∧ (v = some (.int (1 : Int32)) ∧ Fr Z.heap.size L) ∧ FrameEnd s o s₂ L room_1.cells room_1.slots := by
  obtain ⟨_, T730, Lc730, X730, hQ730, st730⟩ := own_static (y := y_7) X0 hx hZ hown (own_w hw 10 rfl) (own_w hw 11 rfl) (own_w hw 4 rfl) (own_w hw 12 rfl) (rm340 l Z a0 hw [] w_CS ca cb cc h0 Z0 S_w_CS hc42 hc64 hc77 hc1) e0 (g := (mkF m 161 (own_T q1 q2 p3 3 ca cb cc 1 da db dc .unset .unset .unset .unset .unset .unset) [(.int cc), (.int cb), (.int ca), (.int (3 : Int32))])) (argsL := [(.int (3 : Int32)), (.int ca), (.int cb), (.int cc)]) (rest := []) (W := 0) (lenOf pd_6 rfl) (hb hby at_161) hml
  obtain ⟨b731, b732, k733, rfl, N730q, K730q, szn_b731, szn_b732, q730_E_b731, q730_F_b731_coder, q730_F_b731_value, q730_V_b732⟩ := hQ730
  have g_b731 : Z.heap.size ≤ b731 := Nat.le_trans Z0.1 szn_b731
  have sz_b731 : h0.size ≤ b731 := Nat.le_trans (Keep.refl h0 []).1 szn_b731
  have g_b732 : Z.heap.size ≤ b732 := Nat.le_trans Z0.1 szn_b732
  have sz_b732 : h0.size ≤ b732 := Nat.le_trans (Keep.refl h0 []).1 szn_b732
  have K730 : Keep h0 T730.heap [] := (Keep.refl h0 []).trans K730q all0
  have XX730 : Ext Z.heap T730.heap := own_extK Z0 K730q all0
  have N730 := Fr.app N0 N730q
  obtain ⟨_, T734, Lc734, X734, hQ734, st734⟩ := own_static (y := y_7) X730 hx hZ hown (own_w hw 10 rfl) (own_w hw 11 rfl) (own_w hw 4 rfl) (own_w hw 12 rfl) (rm19 l Z a0 hw [] w_CS da db dc T730.heap XX730 S_w_CS hc43 hc1) rfl (g := (mkF m 174 (own_T q1 q2 p3 3 ca cb cc 1 da db dc (rv b731) .unset .unset .unset .unset .unset) [(.int dc), (.int db), (.int da), (.int (1 : Int32))])) (argsL := [(.int (1 : Int32)), (.int da), (.int db), (.int dc)]) (rest := []) (W := 0) (lenOf pd_6 rfl) (hb hby at_174) hml
  obtain ⟨b735, b736, k737, rfl, N734q, K734q, szn_b735, szn_b736, q734_E_b735, q734_F_b735_coder, q734_F_b735_value, q734_V_b736⟩ := hQ734
  have g_b735 : Z.heap.size ≤ b735 := Nat.le_trans XX730.1 szn_b735
  have sz_b735 : h0.size ≤ b735 := Nat.le_trans K730.1 szn_b735
  have g_b736 : Z.heap.size ≤ b736 := Nat.le_trans XX730.1 szn_b736
  have sz_b736 : h0.size ≤ b736 := Nat.le_trans K730.1 szn_b736
  have K734 : Keep h0 T734.heap [] := K730.trans K734q all0
  have XX734 : Ext Z.heap T734.heap := own_extK XX730 K734q all0
  have N734 := Fr.app N730 N734q
  obtain ⟨T738, h738, X738, e738, E738, A738, D738, -, st738⟩ := newO X734 hx hZ hown (own_w hw 43 rfl) (own_w hw 44 rfl) (own_w hw 45 rfl) rfl (g := (mkF m 226 (own_T q1 q2 p3 3 ca cb cc 1 da db dc (rv b731) (rv b735) (iv (0 : Int32)) .unset .unset .unset) [])) rfl (hb hby at_226) (by decide) (by decide)
  obtain ⟨b738, g738⟩ : ∃ z, z = T734.heap.size := ⟨_, rfl⟩
  rw [← g738] at A738 D738 st738
  have g_b738 : Z.heap.size ≤ b738 := Nat.le_trans XX734.1 (Nat.le_of_eq g738.symm)
  have sz_b738 : h0.size ≤ b738 := Nat.le_trans K734.1 (Nat.le_of_eq g738.symm)
  have F_b738_written : Fld Z h738 b738 "com/example/faretally/faretally/RefundRequest$Involuntary$Reason" "written" "Ljava/lang/String;" .null := D738 (Or.inr (own_w hw 96 rfl)) (ty := (.object "java/lang/String")) (by decide)
  have K738 : Keep h0 h738 [] := K734.ext E738
  have XX738 : Ext Z.heap h738 := own_ext2 XX734 E738
  obtain ⟨_, T739, Lc739, X739, hQ739, st739⟩ := own_special (y := y_18) X738 hx hZ hown rfl (own_w hw 46 rfl) (own_w hw 47 rfl) (own_w hw 45 rfl) (own_w hw 48 rfl) (rm393 l Z a0 hw [] w_CS w_SF ca cb cc b731 b732 k733 b738 h738 XX738 S_w_CS S_w_SF R_w_SF A738 F_b738_written ((q730_E_b731.keep K734q).ext E738) ((q730_F_b731_coder.keep K734q nin0).ext E738) ((q730_F_b731_value.keep K734q nin0).ext E738) ((q730_V_b732.keep K734q nin0).ext E738) g_b738 hc1 hc42 hc45 hc64 hc65 hc77 hc78) e738 b738 (g := (mkF m 232 (own_T q1 q2 p3 3 ca cb cc 1 da db dc (rv b731) (rv b735) (iv (0 : Int32)) .unset .unset .unset) [(.ref b731), (.ref b738), (.ref b738)])) (argsL := [(.ref b731)]) (rest := [(.ref b738)]) (W := 1) (lenOf pd_15 rfl) (hb hby at_232) hml
  obtain ⟨rfl, N739q, K739q, q739_E_b738, q739_F_b738_written⟩ := hQ739
  have K739 : Keep h0 T739.heap [] := K738.trans K739q (allS (Or.inr sz_b738) all0)
  have XX739 : Ext Z.heap T739.heap := own_extK XX738 K739q (allS g_b738 all0)
  have N739 := Fr.app N734 N739q
  obtain ⟨T740, h740, X740, e740, E740, A740, D740, -, st740⟩ := newO X739 hx hZ hown (own_w hw 43 rfl) (own_w hw 44 rfl) (own_w hw 45 rfl) rfl (g := (mkF m 237 (own_T q1 q2 p3 3 ca cb cc 1 da db dc (rv b731) (rv b735) (iv (0 : Int32)) (rv b738) .unset .unset) [])) rfl (hb hby at_237) (by decide) (by decide)
  obtain ⟨b740, g740⟩ : ∃ z, z = T739.heap.size := ⟨_, rfl⟩
  rw [← g740] at A740 D740 st740
  have g_b740 : Z.heap.size ≤ b740 := Nat.le_trans XX739.1 (Nat.le_of_eq g740.symm)
  have sz_b740 : h0.size ≤ b740 := Nat.le_trans K739.1 (Nat.le_of_eq g740.symm)
  have F_b740_written : Fld Z h740 b740 "com/example/faretally/faretally/RefundRequest$Involuntary$Reason" "written" "Ljava/lang/String;" .null := D740 (Or.inr (own_w hw 96 rfl)) (ty := (.object "java/lang/String")) (by decide)
  have K740 : Keep h0 h740 [] := K739.ext E740
  have XX740 : Ext Z.heap h740 := own_ext2 XX739 E740
  have ne_b735_b738 : b735 ≠ b738 := Nat.ne_of_lt (Nat.lt_of_lt_of_le q734_E_b735.lt (Nat.le_of_eq g738.symm))
  have f742_F_b735_coder : Fld Z h740 b735 "java/lang/String" "coder" "B" (.int (0 : Int32)) := (((q734_F_b735_coder.ext E738).keep K739q (ninS ne_b735_b738 (nin0))).ext E740)
  have f743_F_b735_value : Fld Z h740 b735 "java/lang/String" "value" "[B" (.ref b736) := (((q734_F_b735_value.ext E738).keep K739q (ninS ne_b735_b738 (nin0))).ext E740)
  have ne_b736_b738 : b736 ≠ b738 := Nat.ne_of_lt (Nat.lt_of_lt_of_le q734_V_b736.lt (Nat.le_of_eq g738.symm))
  have f744_V_b736 : Arv Z h740 b736 k737 .byte (1 : Int32) [(.int (da.toInt8.toInt32))] (.int (0 : Int32)) := (((q734_V_b736.ext E738).keep K739q (ninS ne_b736_b738 (nin0))).ext E740)
  obtain ⟨_, T741, Lc741, X741, hQ741, st741⟩ := own_special (y := y_18) X740 hx hZ hown rfl (own_w hw 46 rfl) (own_w hw 47 rfl) (own_w hw 45 rfl) (own_w hw 48 rfl) (rm62 l Z a0 hw [] w_CS w_SF da b735 b736 k737 b740 h740 XX740 S_w_CS S_w_SF R_w_SF A740 F_b740_written (((q734_E_b735.ext E738).keep K739q).ext E740) f742_F_b735_coder f743_F_b735_value f744_V_b736 g_b740 hc1 hc43 hc46) e740 b740 (g := (mkF m 243 (own_T q1 q2 p3 3 ca cb cc 1 da db dc (rv b731) (rv b735) (iv (0 : Int32)) (rv b738) .unset .unset) [(.ref b735), (.ref b740), (.ref b740)])) (argsL := [(.ref b735)]) (rest := [(.ref b740)]) (W := 1) (lenOf pd_15 rfl) (hb hby at_243) hml
  obtain ⟨rfl, N741q, K741q, q741_E_b740, q741_F_b740_written⟩ := hQ741
  have K741 : Keep h0 T741.heap [] := K740.trans K741q (allS (Or.inr sz_b740) all0)
  have XX741 : Ext Z.heap T741.heap := own_extK XX740 K741q (allS g_b740 all0)
  have N741 := Fr.app N739 N741q
  have ne_b738_b740 : b738 ≠ b740 := Nat.ne_of_lt (Nat.lt_of_lt_of_le q739_E_b738.lt (Nat.le_of_eq g740.symm))
  have f746_F_b738_written : Fld Z T741.heap b738 "com/example/faretally/faretally/RefundRequest$Involuntary$Reason" "written" "Ljava/lang/String;" (.ref b731) := ((q739_F_b738_written.ext E740).keep K741q (ninS ne_b738_b740 (nin0)))
  have f747_E_b731 : Exa Z T741.heap b731 "java/lang/String" := (((((q730_E_b731.keep K734q).ext E738).keep K739q).ext E740).keep K741q)
  have ne_b731_b738 : b731 ≠ b738 := Nat.ne_of_lt (Nat.lt_of_lt_of_le (q730_E_b731.keep K734q).lt (Nat.le_of_eq g738.symm))
  have ne_b731_b740 : b731 ≠ b740 := Nat.ne_of_lt (Nat.lt_of_lt_of_le (((q730_E_b731.keep K734q).ext E738).keep K739q).lt (Nat.le_of_eq g740.symm))
  have f748_F_b731_coder : Fld Z T741.heap b731 "java/lang/String" "coder" "B" (.int (0 : Int32)) := (((((q730_F_b731_coder.keep K734q nin0).ext E738).keep K739q (ninS ne_b731_b738 (nin0))).ext E740).keep K741q (ninS ne_b731_b740 (nin0)))
  have f749_F_b731_value : Fld Z T741.heap b731 "java/lang/String" "value" "[B" (.ref b732) := (((((q730_F_b731_value.keep K734q nin0).ext E738).keep K739q (ninS ne_b731_b738 (nin0))).ext E740).keep K741q (ninS ne_b731_b740 (nin0)))
  have ne_b735_b740 : b735 ≠ b740 := Nat.ne_of_lt (Nat.lt_of_lt_of_le ((q734_E_b735.ext E738).keep K739q).lt (Nat.le_of_eq g740.symm))
  have ne_b732_b738 : b732 ≠ b738 := Nat.ne_of_lt (Nat.lt_of_lt_of_le (q730_V_b732.keep K734q nin0).lt (Nat.le_of_eq g738.symm))
  have ne_b732_b740 : b732 ≠ b740 := Nat.ne_of_lt (Nat.lt_of_lt_of_le (((q730_V_b732.keep K734q nin0).ext E738).keep K739q (ninS ne_b732_b738 (nin0))).lt (Nat.le_of_eq g740.symm))
  have f750_V_b732 : Arv Z T741.heap b732 k733 .byte (3 : Int32) [(.int (ca.toInt8.toInt32)), (.int (cb.toInt8.toInt32)), (.int (cc.toInt8.toInt32))] (.int (0 : Int32)) := (((((q730_V_b732.keep K734q nin0).ext E738).keep K739q (ninS ne_b732_b738 (nin0))).ext E740).keep K741q (ninS ne_b732_b740 (nin0)))
  have ne_b736_b740 : b736 ≠ b740 := Nat.ne_of_lt (Nat.lt_of_lt_of_le ((q734_V_b736.ext E738).keep K739q (ninS ne_b736_b738 (nin0))).lt (Nat.le_of_eq g740.symm))
  have ne_b731_b735 : b731 ≠ b735 := Nat.ne_of_lt (Nat.lt_of_lt_of_le q730_E_b731.lt szn_b735)
  obtain ⟨_, T745, Lc745, X745, hQ745, st745⟩ := own_virtual (y := y_21) X741 hx hZ hown (own_w hw 97 rfl) (own_w hw 98 rfl) (own_w hw 100 rfl) (own_w hw 99 rfl) (own_w hw 45 rfl) (own_w hw 101 rfl) (rm477 l Z a0 hw [] w_CS da ca cb cc b735 b736 k737 b731 b732 k733 b740 b738 T741.heap XX741 S_w_CS f746_F_b738_written q741_E_b740 q741_F_b740_written f747_E_b731 f748_F_b731_coder f749_F_b731_value ((((q734_E_b735.ext E738).keep K739q).ext E740).keep K741q) (f742_F_b735_coder.keep K741q (ninS ne_b735_b740 (nin0))) (f743_F_b735_value.keep K741q (ninS ne_b735_b740 (nin0))) f750_V_b732 (f744_V_b736.keep K741q (ninS ne_b736_b740 (nin0))) ne_b731_b735 hc1) rfl ((q739_E_b738.ext E740).keep K741q) (g := (mkF m 252 (own_T q1 q2 p3 3 ca cb cc 1 da db dc (rv b731) (rv b735) (iv (0 : Int32)) (rv b738) (rv b740) .unset) [(.ref b740), (.ref b738)])) (argsL := [(.ref b740)]) (rest := []) (W := 0) (lenOf pd_17 rfl) (hb hby at_252) hml
  obtain ⟨rfl, N745q, e745⟩ := hQ745
  have N745 := Fr.app N741 N745q
  obtain ⟨_, T751, Lc751, X751, hQ751, st751⟩ := own_virtual (y := y_21) X745 hx hZ hown (own_w hw 97 rfl) (own_w hw 98 rfl) (own_w hw 100 rfl) (own_w hw 99 rfl) (own_w hw 45 rfl) (own_w hw 101 rfl) (rm453 l Z a0 hw [] w_CS da ca cb cc b735 b736 k737 b731 b732 k733 b740 b738 T741.heap XX741 S_w_CS q741_F_b740_written ((q739_E_b738.ext E740).keep K741q) f746_F_b738_written ((((q734_E_b735.ext E738).keep K739q).ext E740).keep K741q) (f742_F_b735_coder.keep K741q (ninS ne_b735_b740 (nin0))) (f743_F_b735_value.keep K741q (ninS ne_b735_b740 (nin0))) f747_E_b731 f748_F_b731_coder f749_F_b731_value (f744_V_b736.keep K741q (ninS ne_b736_b740 (nin0))) f750_V_b732 (Ne.symm ne_b731_b735) hc1) e745 q741_E_b740 (g := (mkF m 276 (own_T q1 q2 p3 3 ca cb cc 1 da db dc (rv b731) (rv b735) (iv (0 : Int32)) (rv b738) (rv b740) (iv (1 : Int32))) [(.ref b738), (.ref b740)])) (argsL := [(.ref b738)]) (rest := []) (W := 0) (lenOf pd_17 rfl) (hb hby at_276) hml
  obtain ⟨rfl, N751q, e751⟩ := hQ751
  have N751 := Fr.app N745 N751q
  obtain ⟨_, T752, Lc752, X752, hQ752, st752⟩ := own_virtual (y := y_21) X751 hx hZ hown (own_w hw 97 rfl) (own_w hw 98 rfl) (own_w hw 100 rfl) (own_w hw 99 rfl) (own_w hw 45 rfl) (own_w hw 101 rfl) (rm132 l Z a0 hw [] b731 b738 T741.heap XX741 ((q739_E_b738.ext E740).keep K741q) f746_F_b738_written f747_E_b731) e751 ((q739_E_b738.ext E740).keep K741q) (g := (mkF m 300 (own_T q1 q2 p3 3 ca cb cc 1 da db dc (rv b731) (rv b735) (iv (0 : Int32)) (rv b738) (rv b740) (iv (1 : Int32))) [(.ref b738), (.ref b738)])) (argsL := [(.ref b738)]) (rest := []) (W := 0) (lenOf pd_17 rfl) (hb hby at_300) hml
  obtain ⟨rfl, N752q, e752⟩ := hQ752
  have N752 := Fr.app N751 N752q
  obtain ⟨_, T753, Lc753, X753, hQ753, st753⟩ := own_virtual (y := y_21) X752 hx hZ hown (own_w hw 97 rfl) (own_w hw 98 rfl) (own_w hw 100 rfl) (own_w hw 99 rfl) (own_w hw 45 rfl) (own_w hw 101 rfl) (rm140 l Z a0 hw [] b731 b738 T741.heap XX741 f747_E_b731) e752 ((q739_E_b738.ext E740).keep K741q) (g := (mkF m 322 (own_T q1 q2 p3 3 ca cb cc 1 da db dc (rv b731) (rv b735) (iv (0 : Int32)) (rv b738) (rv b740) (iv (1 : Int32))) [(.ref b731), (.ref b738)])) (argsL := [(.ref b731)]) (rest := []) (W := 0) (lenOf pd_17 rfl) (hb hby at_322) hml
  obtain ⟨rfl, N753q, e753⟩ := hQ753
  have N753 := Fr.app N752 N753q
  obtain ⟨_, T754, Lc754, X754, hQ754, st754⟩ := own_virtual (y := y_21) X753 hx hZ hown (own_w hw 97 rfl) (own_w hw 98 rfl) (own_w hw 100 rfl) (own_w hw 99 rfl) (own_w hw 45 rfl) (own_w hw 101 rfl) (rm143 l Z a0 hw [] b738 T741.heap XX741 ) e753 ((q739_E_b738.ext E740).keep K741q) (g := (mkF m 343 (own_T q1 q2 p3 3 ca cb cc 1 da db dc (rv b731) (rv b735) (iv (0 : Int32)) (rv b738) (rv b740) (iv (1 : Int32))) [.null, (.ref b738)])) (argsL := [.null]) (rest := []) (W := 0) (lenOf pd_17 rfl) (hb hby at_343) hml
  obtain ⟨rfl, N754q, e754⟩ := hQ754
  have N754 := Fr.app N753 N754q
  obtain ⟨fs, hr, hrun, hended, hW, hsame⟩ := X754.leave (v := some (.int (1 : Int32))) (fun h => by rw [hret] at h; cases h) hlk
  refine ⟨_, _, ?_, hrun, hended, _, _, rfl, ⟨rfl, N754⟩, ⟨_, rfl⟩, hW, hsame.mono (by decide) (by decide)⟩
  show own_S p e below T0 (mkF m 153 (own_T q1 q2 p3 3 ca cb cc 1 da db dc .unset .unset .unset .unset .unset .unset) []) _
  refine own_i X0 hx hby at_153 ?_
  refine own_i X0 hx hby at_155 ?_
  refine own_i X0 hx hby at_157 ?_
  refine own_i X0 hx hby at_159 ?_
  refine st730 _ ?_
  refine XS.astore X730.here hx rfl (hb hby at_164) rfl rfl (l' := (own_T q1 q2 p3 3 ca cb cc 1 da db dc (rv b731) .unset .unset .unset .unset .unset)) rfl ?_
  refine own_i X730 hx hby at_166 ?_
  refine own_i X730 hx hby at_168 ?_
  refine own_i X730 hx hby at_170 ?_
  refine own_i X730 hx hby at_172 ?_
  refine st734 _ ?_
  refine XS.astore X734.here hx rfl (hb hby at_177) rfl rfl (l' := (own_T q1 q2 p3 3 ca cb cc 1 da db dc (rv b731) (rv b735) .unset .unset .unset .unset)) rfl ?_
  refine own_i X734 hx hby at_179 ?_
  refine own_i X734 hx hby at_181 ?_
  refine own_cy (pc := 183) X734 hx hby at_183 (feq (by decide : ¬ ((3 : Int32) = (1 : Int32)))).2 223 ?_
  refine own_k X734 hx hby at_223 ?_
  refine XS.istore X734.here hx rfl (hb hby at_224) rfl (l' := (own_T q1 q2 p3 3 ca cb cc 1 da db dc (rv b731) (rv b735) (iv (0 : Int32)) .unset .unset .unset)) rfl ?_
  refine st738 _ ?_
  refine XS.dup X738.here hx rfl (hb hby at_229) rfl rfl ?_
  refine own_a X738 hx hby at_230 ?_
  refine st739 _ ?_
  refine XS.astore X739.here hx rfl (hb hby at_235) rfl rfl (l' := (own_T q1 q2 p3 3 ca cb cc 1 da db dc (rv b731) (rv b735) (iv (0 : Int32)) (rv b738) .unset .unset)) rfl ?_
  refine st740 _ ?_
  refine XS.dup X740.here hx rfl (hb hby at_240) rfl rfl ?_
  refine own_a X740 hx hby at_241 ?_
  refine st741 _ ?_
  refine XS.astore X741.here hx rfl (hb hby at_246) rfl rfl (l' := (own_T q1 q2 p3 3 ca cb cc 1 da db dc (rv b731) (rv b735) (iv (0 : Int32)) (rv b738) (rv b740) .unset)) rfl ?_
  refine own_a X741 hx hby at_248 ?_
  refine own_a X741 hx hby at_250 ?_
  refine st745 _ ?_
  refine own_i X745 hx hby at_255 ?_
  refine own_cn X745 hx hby at_257 (teq (rfl : (0 : Int32) = (0 : Int32))).2 ?_
  refine own_k X745 hx hby at_260 ?_
  refine own_go (pc := 261) X745 hx hby at_261 265 ?_
  refine XS.istore X745.here hx rfl (hb hby at_265) rfl (l' := (own_T q1 q2 p3 3 ca cb cc 1 da db dc (rv b731) (rv b735) (iv (0 : Int32)) (rv b738) (rv b740) (iv (1 : Int32)))) rfl ?_
  refine own_i X745 hx hby at_267 ?_
  refine own_in X745 hx hby at_269 (feq (by decide : ¬ ((1 : Int32) = (0 : Int32)))).1 ?_
  refine own_a X745 hx hby at_272 ?_
  refine own_a X745 hx hby at_274 ?_
  refine st751 _ ?_
  refine own_i X751 hx hby at_279 ?_
  refine own_cn X751 hx hby at_281 (teq (rfl : (0 : Int32) = (0 : Int32))).2 ?_
  refine own_k X751 hx hby at_284 ?_
  refine own_go (pc := 285) X751 hx hby at_285 289 ?_
  refine XS.istore X751.here hx rfl (hb hby at_289) rfl (l' := (own_T q1 q2 p3 3 ca cb cc 1 da db dc (rv b731) (rv b735) (iv (0 : Int32)) (rv b738) (rv b740) (iv (1 : Int32)))) rfl ?_
  refine own_i X751 hx hby at_291 ?_
  refine own_in X751 hx hby at_293 (feq (by decide : ¬ ((1 : Int32) = (0 : Int32)))).1 ?_
  refine own_a X751 hx hby at_296 ?_
  refine own_a X751 hx hby at_298 ?_
  refine st752 _ ?_
  refine own_in X752 hx hby at_303 (feq (by decide : ¬ ((1 : Int32) = (0 : Int32)))).1 ?_
  refine own_k X752 hx hby at_306 ?_
  refine own_go (pc := 307) X752 hx hby at_307 311 ?_
  refine XS.istore X752.here hx rfl (hb hby at_311) rfl (l' := (own_T q1 q2 p3 3 ca cb cc 1 da db dc (rv b731) (rv b735) (iv (0 : Int32)) (rv b738) (rv b740) (iv (1 : Int32)))) rfl ?_
  refine own_i X752 hx hby at_313 ?_
  refine own_in X752 hx hby at_315 (feq (by decide : ¬ ((1 : Int32) = (0 : Int32)))).1 ?_
  refine own_a X752 hx hby at_318 ?_
  refine own_a X752 hx hby at_320 ?_
  refine st753 _ ?_
  refine own_in X753 hx hby at_325 (teq (rfl : (0 : Int32) = (0 : Int32))).2 ?_
  refine own_k X753 hx hby at_328 ?_
  refine own_go (pc := 329) X753 hx hby at_329 333 ?_
  refine XS.istore X753.here hx rfl (hb hby at_333) rfl (l' := (own_T q1 q2 p3 3 ca cb cc 1 da db dc (rv b731) (rv b735) (iv (0 : Int32)) (rv b738) (rv b740) (iv (1 : Int32)))) rfl ?_
  refine own_i X753 hx hby at_335 ?_
  refine own_in X753 hx hby at_337 (feq (by decide : ¬ ((1 : Int32) = (0 : Int32)))).1 ?_
  refine own_a X753 hx hby at_340 ?_
  refine XS.aconstNull X753.here hx rfl (hb hby at_342) ?_
  refine st754 _ ?_
  refine own_in X754 hx hby at_346 (teq (rfl : (0 : Int32) = (0 : Int32))).2 ?_
  refine own_k X754 hx hby at_349 ?_
  refine own_go (pc := 350) X754 hx hby at_350 354 ?_
  refine XS.istore X754.here hx rfl (hb hby at_354) rfl (l' := (own_T q1 q2 p3 3 ca cb cc 1 da db dc (rv b731) (rv b735) (iv (0 : Int32)) (rv b738) (rv b740) (iv (1 : Int32)))) rfl ?_
  refine own_i X754 hx hby at_356 ?_
  exact retN X754 hx (t := .boolean) hret (by simp) (hb hby at_358) hr
theorem own_t32 {p : Program} {l : Launch} {e : Env} {s : State} {m : MethodId} {args : Array Value} {below : List Frame} {meth : Method} {c : Code} {T0 : State} {locs : List Loc} (Z : State) (a0 : Array Value) (hw : own_HW Z a0) (w_CS : Int32) (w_SF : Value) (q1 q2 : Int64) (p3 ca cb cc da db dc : Int32) (h0 : Heap) (Z0 : Ext Z.heap h0) (S_w_CS : own_w_CS Z w_CS) (S_w_SF : own_w_SF Z w_SF) (R_w_SF : w_SF.isRef = true) (hc42 : own_ch ca) (hc64 : own_ch cb) (hc77 : own_ch cc) (hc1 : ¬ (w_CS = (0 : Int32))) (hc43 : own_ch da) (hc54 : own_ch db) (hc45 : own_low ca) (hc65 : own_aln cb) (hc78 : own_aln cc) (hc46 : own_low da) (hc56 : own_aln db) (X0 : Stand p l e room_1 s m args below meth c T0 locs 0 0) (hx : p.tables.exec = Jvm.exec) (hZ : Z.Warmed39 s.vm) (hby : c.code = code) (hml : c.maxLocals = 19) (hown : s.vm.findClass "com/example/faretally/faretally/ReasonEqualsPinLaw" = some m.cls) (e0 : T0.heap = h0) (N0 : Fr Z.heap.size locs) (hret : meth.sig.returnType = some .boolean) (hlk : meth.locks = false) :
    ∃ s₂ o, Steps p.tables e below (T0.setTop (mkF m 153 (own_T q1 q2 p3 3 ca cb cc 2 da db dc .unset .unset .unset .unset .unset .unset) [])) s₂ ∧ s₂.status = .running ∧ Ended s₂ below o ∧ ∃ v L, o = .returned v ∧ (v = some (.int (1 : Int32)) ∧ Fr Z.heap.size L) ∧ FrameEnd s o s₂ L room_1.cells room_1.slots := by
  obtain ⟨_, T755, Lc755, X755, hQ755, st755⟩ := own_static (y := y_7) X0 hx hZ hown (own_w hw 10 rfl) (own_w hw 11 rfl) (own_w hw 4 rfl) (own_w hw 12 rfl) (rm340 l Z a0 hw [] w_CS ca cb cc h0 Z0 S_w_CS hc42 hc64 hc77 hc1) e0 (g := (mkF m 161 (own_T q1 q2 p3 3 ca cb cc 2 da db dc .unset .unset .unset .unset .unset .unset) [(.int cc), (.int cb), (.int ca), (.int (3 : Int32))])) (argsL := [(.int (3 : Int32)), (.int ca), (.int cb), (.int cc)]) (rest := []) (W := 0) (lenOf pd_6 rfl) (hb hby at_161) hml
  obtain ⟨b756, b757, k758, rfl, N755q, K755q, szn_b756, szn_b757, q755_E_b756, q755_F_b756_coder, q755_F_b756_value, q755_V_b757⟩ := hQ755
  have g_b756 : Z.heap.size ≤ b756 := Nat.le_trans Z0.1 szn_b756
  have sz_b756 : h0.size ≤ b756 := Nat.le_trans (Keep.refl h0 []).1 szn_b756
  have g_b757 : Z.heap.size ≤ b757 := Nat.le_trans Z0.1 szn_b757
  have sz_b757 : h0.size ≤ b757 := Nat.le_trans (Keep.refl h0 []).1 szn_b757
  have K755 : Keep h0 T755.heap [] := (Keep.refl h0 []).trans K755q all0
  have XX755 : Ext Z.heap T755.heap := own_extK Z0 K755q all0
  have N755 := Fr.app N0 N755q
  obtain ⟨_, T759, Lc759, X759, hQ759, st759⟩ := own_static (y := y_7) X755 hx hZ hown (own_w hw 10 rfl) (own_w hw 11 rfl) (own_w hw 4 rfl) (own_w hw 12 rfl) (rm196 l Z a0 hw [] w_CS da db dc T755.heap XX755 S_w_CS hc43 hc54 hc1) rfl (g := (mkF m 174 (own_T q1 q2 p3 3 ca cb cc 2 da db dc (rv b756) .unset .unset .unset .unset .unset) [(.int dc), (.int db), (.int da), (.int (2 : Int32))])) (argsL := [(.int (2 : Int32)), (.int da), (.int db), (.int dc)]) (rest := []) (W := 0) (lenOf pd_6 rfl) (hb hby at_174) hml
  obtain ⟨b760, b761, k762, rfl, N759q, K759q, szn_b760, szn_b761, q759_E_b760, q759_F_b760_coder, q759_F_b760_value, q759_V_b761⟩ := hQ759
  have g_b760 : Z.heap.size ≤ b760 := Nat.le_trans XX755.1 szn_b760
  have sz_b760 : h0.size ≤ b760 := Nat.le_trans K755.1 szn_b760
  have g_b761 : Z.heap.size ≤ b761 := Nat.le_trans XX755.1 szn_b761
  have sz_b761 : h0.size ≤ b761 := Nat.le_trans K755.1 szn_b761
  have K759 : Keep h0 T759.heap [] := K755.trans K759q all0
  have XX759 : Ext Z.heap T759.heap := own_extK XX755 K759q all0
  have N759 := Fr.app N755 N759q
  obtain ⟨T763, h763, X763, e763, E763, A763, D763, -, st763⟩ := newO X759 hx hZ hown (own_w hw 43 rfl) (own_w hw 44 rfl) (own_w hw 45 rfl) rfl (g := (mkF m 226 (own_T q1 q2 p3 3 ca cb cc 2 da db dc (rv b756) (rv b760) (iv (0 : Int32)) .unset .unset .unset) [])) rfl (hb hby at_226) (by decide) (by decide)
  obtain ⟨b763, g763⟩ : ∃ z, z = T759.heap.size := ⟨_, rfl⟩
  rw [← g763] at A763 D763 st763
  have g_b763 : Z.heap.size ≤ b763 := Nat.le_trans XX759.1 (Nat.le_of_eq g763.symm)
  have sz_b763 : h0.size ≤ b763 := Nat.le_trans K759.1 (Nat.le_of_eq g763.symm)
  have F_b763_written : Fld Z h763 b763 "com/example/faretally/faretally/RefundRequest$Involuntary$Reason" "written" "Ljava/lang/String;" .null := D763 (Or.inr (own_w hw 96 rfl)) (ty := (.object "java/lang/String")) (by decide)
  have K763 : Keep h0 h763 [] := K759.ext E763
  have XX763 : Ext Z.heap h763 := own_ext2 XX759 E763
  obtain ⟨_, T764, Lc764, X764, hQ764, st764⟩ := own_special (y := y_18) X763 hx hZ hown rfl (own_w hw 46 rfl) (own_w hw 47 rfl) (own_w hw 45 rfl) (own_w hw 48 rfl) (rm393 l Z a0 hw [] w_CS w_SF ca cb cc b756 b757 k758 b763 h763 XX763 S_w_CS S_w_SF R_w_SF A763 F_b763_written ((q755_E_b756.keep K759q).ext E763) ((q755_F_b756_coder.keep K759q nin0).ext E763) ((q755_F_b756_value.keep K759q nin0).ext E763) ((q755_V_b757.keep K759q nin0).ext E763) g_b763 hc1 hc42 hc45 hc64 hc65 hc77 hc78) e763 b763 (g := (mkF m 232 (own_T q1 q2 p3 3 ca cb cc 2 da db dc (rv b756) (rv b760) (iv (0 : Int32)) .unset .unset .unset) [(.ref b756), (.ref b763), (.ref b763)])) (argsL := [(.ref b756)]) (rest := [(.ref b763)]) (W := 1) (lenOf pd_15 rfl) (hb hby at_232) hml
  obtain ⟨rfl, N764q, K764q, q764_E_b763, q764_F_b763_written⟩ := hQ764
  have K764 : Keep h0 T764.heap [] := K763.trans K764q (allS (Or.inr sz_b763) all0)
  have XX764 : Ext Z.heap T764.heap := own_extK XX763 K764q (allS g_b763 all0)
  have N764 := Fr.app N759 N764q
  obtain ⟨T765, h765, X765, e765, E765, A765, D765, -, st765⟩ := newO X764 hx hZ hown (own_w hw 43 rfl) (own_w hw 44 rfl) (own_w hw 45 rfl) rfl (g := (mkF m 237 (own_T q1 q2 p3 3 ca cb cc 2 da db dc (rv b756) (rv b760) (iv (0 : Int32)) (rv b763) .unset .unset) [])) rfl (hb hby at_237) (by decide) (by decide)
  obtain ⟨b765, g765⟩ : ∃ z, z = T764.heap.size := ⟨_, rfl⟩
  rw [← g765] at A765 D765 st765
  have g_b765 : Z.heap.size ≤ b765 := Nat.le_trans XX764.1 (Nat.le_of_eq g765.symm)
  have sz_b765 : h0.size ≤ b765 := Nat.le_trans K764.1 (Nat.le_of_eq g765.symm)
  have F_b765_written : Fld Z h765 b765 "com/example/faretally/faretally/RefundRequest$Involuntary$Reason" "written" "Ljava/lang/String;" .null := D765 (Or.inr (own_w hw 96 rfl)) (ty := (.object "java/lang/String")) (by decide)
  have K765 : Keep h0 h765 [] := K764.ext E765
  have XX765 : Ext Z.heap h765 := own_ext2 XX764 E765
  have ne_b760_b763 : b760 ≠ b763 := Nat.ne_of_lt (Nat.lt_of_lt_of_le q759_E_b760.lt (Nat.le_of_eq g763.symm))
  have f767_F_b760_coder : Fld Z h765 b760 "java/lang/String" "coder" "B" (.int (0 : Int32)) := (((q759_F_b760_coder.ext E763).keep K764q (ninS ne_b760_b763 (nin0))).ext E765)
  have f768_F_b760_value : Fld Z h765 b760 "java/lang/String" "value" "[B" (.ref b761) := (((q759_F_b760_value.ext E763).keep K764q (ninS ne_b760_b763 (nin0))).ext E765)
  have ne_b761_b763 : b761 ≠ b763 := Nat.ne_of_lt (Nat.lt_of_lt_of_le q759_V_b761.lt (Nat.le_of_eq g763.symm))
  have f769_V_b761 : Arv Z h765 b761 k762 .byte (2 : Int32) [(.int (da.toInt8.toInt32)), (.int (db.toInt8.toInt32))] (.int (0 : Int32)) := (((q759_V_b761.ext E763).keep K764q (ninS ne_b761_b763 (nin0))).ext E765)
  obtain ⟨_, T766, Lc766, X766, hQ766, st766⟩ := own_special (y := y_18) X765 hx hZ hown rfl (own_w hw 46 rfl) (own_w hw 47 rfl) (own_w hw 45 rfl) (own_w hw 48 rfl) (rm244 l Z a0 hw [] w_CS w_SF da db b760 b761 k762 b765 h765 XX765 S_w_CS S_w_SF R_w_SF A765 F_b765_written (((q759_E_b760.ext E763).keep K764q).ext E765) f767_F_b760_coder f768_F_b760_value f769_V_b761 g_b765 hc1 hc43 hc46 hc54 hc56) e765 b765 (g := (mkF m 243 (own_T q1 q2 p3 3 ca cb cc 2 da db dc (rv b756) (rv b760) (iv (0 : Int32)) (rv b763) .unset .unset) [(.ref b760), (.ref b765), (.ref b765)])) (argsL := [(.ref b760)]) (rest := [(.ref b765)]) (W := 1) (lenOf pd_15 rfl) (hb hby at_243) hml
  obtain ⟨rfl, N766q, K766q, q766_E_b765, q766_F_b765_written⟩ := hQ766
  have K766 : Keep h0 T766.heap [] := K765.trans K766q (allS (Or.inr sz_b765) all0)
  have XX766 : Ext Z.heap T766.heap := own_extK XX765 K766q (allS g_b765 all0)
  have N766 := Fr.app N764 N766q
  have ne_b763_b765 : b763 ≠ b765 := Nat.ne_of_lt (Nat.lt_of_lt_of_le q764_E_b763.lt (Nat.le_of_eq g765.symm))
  have f771_F_b763_written : Fld Z T766.heap b763 "com/example/faretally/faretally/RefundRequest$Involuntary$Reason" "written" "Ljava/lang/String;" (.ref b756) := ((q764_F_b763_written.ext E765).keep K766q (ninS ne_b763_b765 (nin0)))
  have f772_E_b756 : Exa Z T766.heap b756 "java/lang/String" := (((((q755_E_b756.keep K759q).ext E763).keep K764q).ext E765).keep K766q)
  have ne_b756_b763 : b756 ≠ b763 := Nat.ne_of_lt (Nat.lt_of_lt_of_le (q755_E_b756.keep K759q).lt (Nat.le_of_eq g763.symm))
  have ne_b756_b765 : b756 ≠ b765 := Nat.ne_of_lt (Nat.lt_of_lt_of_le (((q755_E_b756.keep K759q).ext E763).keep K764q).lt (Nat.le_of_eq g765.symm))
  have f773_F_b756_coder : Fld Z T766.heap b756 "java/lang/String" "coder" "B" (.int (0 : Int32)) := (((((q755_F_b756_coder.keep K759q nin0).ext E763).keep K764q (ninS ne_b756_b763 (nin0))).ext E765).keep K766q (ninS ne_b756_b765 (nin0)))
  have f774_F_b756_value : Fld Z T766.heap b756 "java/lang/String" "value" "[B" (.ref b757) := (((((q755_F_b756_value.keep K759q nin0).ext E763).keep K764q (ninS ne_b756_b763 (nin0))).ext E765).keep K766q (ninS ne_b756_b765 (nin0)))
  have ne_b760_b765 : b760 ≠ b765 := Nat.ne_of_lt (Nat.lt_of_lt_of_le ((q759_E_b760.ext E763).keep K764q).lt (Nat.le_of_eq g765.symm))
  have ne_b757_b763 : b757 ≠ b763 := Nat.ne_of_lt (Nat.lt_of_lt_of_le (q755_V_b757.keep K759q nin0).lt (Nat.le_of_eq g763.symm))
  have ne_b757_b765 : b757 ≠ b765 := Nat.ne_of_lt (Nat.lt_of_lt_of_le (((q755_V_b757.keep K759q nin0).ext E763).keep K764q (ninS ne_b757_b763 (nin0))).lt (Nat.le_of_eq g765.symm))
  have f775_V_b757 : Arv Z T766.heap b757 k758 .byte (3 : Int32) [(.int (ca.toInt8.toInt32)), (.int (cb.toInt8.toInt32)), (.int (cc.toInt8.toInt32))] (.int (0 : Int32)) := (((((q755_V_b757.keep K759q nin0).ext E763).keep K764q (ninS ne_b757_b763 (nin0))).ext E765).keep K766q (ninS ne_b757_b765 (nin0)))
  have ne_b761_b765 : b761 ≠ b765 := Nat.ne_of_lt (Nat.lt_of_lt_of_le ((q759_V_b761.ext E763).keep K764q (ninS ne_b761_b763 (nin0))).lt (Nat.le_of_eq g765.symm))
  have ne_b756_b760 : b756 ≠ b760 := Nat.ne_of_lt (Nat.lt_of_lt_of_le q755_E_b756.lt szn_b760)
  obtain ⟨_, T770, Lc770, X770, hQ770, st770⟩ := own_virtual (y := y_21) X766 hx hZ hown (own_w hw 97 rfl) (own_w hw 98 rfl) (own_w hw 100 rfl) (own_w hw 99 rfl) (own_w hw 45 rfl) (own_w hw 101 rfl) (rm708 l Z a0 hw [] w_CS da db ca cb cc b760 b761 k762 b756 b757 k758 b765 b763 T766.heap XX766 S_w_CS f771_F_b763_written q766_E_b765 q766_F_b765_written f772_E_b756 f773_F_b756_coder f774_F_b756_value ((((q759_E_b760.ext E763).keep K764q).ext E765).keep K766q) (f767_F_b760_coder.keep K766q (ninS ne_b760_b765 (nin0))) (f768_F_b760_value.keep K766q (ninS ne_b760_b765 (nin0))) f775_V_b757 (f769_V_b761.keep K766q (ninS ne_b761_b765 (nin0))) ne_b756_b760 hc1) rfl ((q764_E_b763.ext E765).keep K766q) (g := (mkF m 252 (own_T q1 q2 p3 3 ca cb cc 2 da db dc (rv b756) (rv b760) (iv (0 : Int32)) (rv b763) (rv b765) .unset) [(.ref b765), (.ref b763)])) (argsL := [(.ref b765)]) (rest := []) (W := 0) (lenOf pd_17 rfl) (hb hby at_252) hml
  obtain ⟨rfl, N770q, e770⟩ := hQ770
  have N770 := Fr.app N766 N770q
  obtain ⟨_, T776, Lc776, X776, hQ776, st776⟩ := own_virtual (y := y_21) X770 hx hZ hown (own_w hw 97 rfl) (own_w hw 98 rfl) (own_w hw 100 rfl) (own_w hw 99 rfl) (own_w hw 45 rfl) (own_w hw 101 rfl) (rm684 l Z a0 hw [] w_CS da db ca cb cc b760 b761 k762 b756 b757 k758 b765 b763 T766.heap XX766 S_w_CS q766_F_b765_written ((q764_E_b763.ext E765).keep K766q) f771_F_b763_written ((((q759_E_b760.ext E763).keep K764q).ext E765).keep K766q) (f767_F_b760_coder.keep K766q (ninS ne_b760_b765 (nin0))) (f768_F_b760_value.keep K766q (ninS ne_b760_b765 (nin0))) f772_E_b756 f773_F_b756_coder f774_F_b756_value (f769_V_b761.keep K766q (ninS ne_b761_b765 (nin0))) f775_V_b757 (Ne.symm ne_b756_b760) hc1) e770 q766_E_b765 (g := (mkF m 276 (own_T q1 q2 p3 3 ca cb cc 2 da db dc (rv b756) (rv b760) (iv (0 : Int32)) (rv b763) (rv b765) (iv (1 : Int32))) [(.ref b763), (.ref b765)])) (argsL := [(.ref b763)]) (rest := []) (W := 0) (lenOf pd_17 rfl) (hb hby at_276) hml
  obtain ⟨rfl, N776q, e776⟩ := hQ776
  have N776 := Fr.app N770 N776q
  obtain ⟨_, T777, Lc777, X777, hQ777, st777⟩ := own_virtual (y := y_21) X776 hx hZ hown (own_w hw 97 rfl) (own_w hw 98 rfl) (own_w hw 100 rfl) (own_w hw 99 rfl) (own_w hw 45 rfl) (own_w hw 101 rfl) (rm132 l Z a0 hw [] b756 b763 T766.heap XX766 ((q764_E_b763.ext E765).keep K766q) f771_F_b763_written f772_E_b756) e776 ((q764_E_b763.ext E765).keep K766q) (g := (mkF m 300 (own_T q1 q2 p3 3 ca cb cc 2 da db dc (rv b756) (rv b760) (iv (0 : Int32)) (rv b763) (rv b765) (iv (1 : Int32))) [(.ref b763), (.ref b763)])) (argsL := [(.ref b763)]) (rest := []) (W := 0) (lenOf pd_17 rfl) (hb hby at_300) hml
  obtain ⟨rfl, N777q, e777⟩ := hQ777
  have N777 := Fr.app N776 N777q
  obtain ⟨_, T778, Lc778, X778, hQ778, st778⟩ := own_virtual (y := y_21) X777 hx hZ hown (own_w hw 97 rfl) (own_w hw 98 rfl) (own_w hw 100 rfl) (own_w hw 99 rfl) (own_w hw 45 rfl) (own_w hw 101 rfl) (rm140 l Z a0 hw [] b756 b763 T766.heap XX766 f772_E_b756) e777 ((q764_E_b763.ext E765).keep K766q) (g := (mkF m 322 (own_T q1 q2 p3 3 ca cb cc 2 da db dc (rv b756) (rv b760) (iv (0 : Int32)) (rv b763) (rv b765) (iv (1 : Int32))) [(.ref b756), (.ref b763)])) (argsL := [(.ref b756)]) (rest := []) (W := 0) (lenOf pd_17 rfl) (hb hby at_322) hml
  obtain ⟨rfl, N778q, e778⟩ := hQ778
  have N778 := Fr.app N777 N778q
  obtain ⟨_, T779, Lc779, X779, hQ779, st779⟩ := own_virtual (y := y_21) X778 hx hZ hown (own_w hw 97 rfl) (own_w hw 98 rfl) (own_w hw 100 rfl) (own_w hw 99 rfl) (own_w hw 45 rfl) (own_w hw 101 rfl) (rm143 l Z a0 hw [] b763 T766.heap XX766 ) e778 ((q764_E_b763.ext E765).keep K766q) (g := (mkF m 343 (own_T q1 q2 p3 3 ca cb cc 2 da db dc (rv b756) (rv b760) (iv (0 : Int32)) (rv b763) (rv b765) (iv (1 : Int32))) [.null, (.ref b763)])) (argsL := [.null]) (rest := []) (W := 0) (lenOf pd_17 rfl) (hb hby at_343) hml
  obtain ⟨rfl, N779q, e779⟩ := hQ779
  have N779 := Fr.app N778 N779q
  obtain ⟨fs, hr, hrun, hended, hW, hsame⟩ := X779.leave (v := some (.int (1 : Int32))) (fun h => by rw [hret] at h; cases h) hlk
  refine ⟨_, _, ?_, hrun, hended, _, _, rfl, ⟨rfl, N779⟩, ⟨_, rfl⟩, hW, hsame.mono (by decide) (by decide)⟩
  show own_S p e below T0 (mkF m 153 (own_T q1 q2 p3 3 ca cb cc 2 da db dc .unset .unset .unset .unset .unset .unset) []) _
  refine own_i X0 hx hby at_153 ?_
  refine own_i X0 hx hby at_155 ?_
  refine own_i X0 hx hby at_157 ?_
  refine own_i X0 hx hby at_159 ?_
  refine st755 _ ?_
  refine XS.astore X755.here hx rfl (hb hby at_164) rfl rfl (l' := (own_T q1 q2 p3 3 ca cb cc 2 da db dc (rv b756) .unset .unset .unset .unset .unset)) rfl ?_
  refine own_i X755 hx hby at_166 ?_
  refine own_i X755 hx hby at_168 ?_
  refine own_i X755 hx hby at_170 ?_
  refine own_i X755 hx hby at_172 ?_
  refine st759 _ ?_
  refine XS.astore X759.here hx rfl (hb hby at_177) rfl rfl (l' := (own_T q1 q2 p3 3 ca cb cc 2 da db dc (rv b756) (rv b760) .unset .unset .unset .unset)) rfl ?_
  refine own_i X759 hx hby at_179 ?_
  refine own_i X759 hx hby at_181 ?_
  refine own_cy (pc := 183) X759 hx hby at_183 (feq (by decide : ¬ ((3 : Int32) = (2 : Int32)))).2 223 ?_
  refine own_k X759 hx hby at_223 ?_
  refine XS.istore X759.here hx rfl (hb hby at_224) rfl (l' := (own_T q1 q2 p3 3 ca cb cc 2 da db dc (rv b756) (rv b760) (iv (0 : Int32)) .unset .unset .unset)) rfl ?_
  refine st763 _ ?_
  refine XS.dup X763.here hx rfl (hb hby at_229) rfl rfl ?_
  refine own_a X763 hx hby at_230 ?_
  refine st764 _ ?_
  refine XS.astore X764.here hx rfl (hb hby at_235) rfl rfl (l' := (own_T q1 q2 p3 3 ca cb cc 2 da db dc (rv b756) (rv b760) (iv (0 : Int32)) (rv b763) .unset .unset)) rfl ?_
  refine st765 _ ?_
  refine XS.dup X765.here hx rfl (hb hby at_240) rfl rfl ?_
  refine own_a X765 hx hby at_241 ?_
  refine st766 _ ?_
  refine XS.astore X766.here hx rfl (hb hby at_246) rfl rfl (l' := (own_T q1 q2 p3 3 ca cb cc 2 da db dc (rv b756) (rv b760) (iv (0 : Int32)) (rv b763) (rv b765) .unset)) rfl ?_
  refine own_a X766 hx hby at_248 ?_
  refine own_a X766 hx hby at_250 ?_
  refine st770 _ ?_
  refine own_i X770 hx hby at_255 ?_
  refine own_cn X770 hx hby at_257 (teq (rfl : (0 : Int32) = (0 : Int32))).2 ?_
  refine own_k X770 hx hby at_260 ?_
  refine own_go (pc := 261) X770 hx hby at_261 265 ?_
  refine XS.istore X770.here hx rfl (hb hby at_265) rfl (l' := (own_T q1 q2 p3 3 ca cb cc 2 da db dc (rv b756) (rv b760) (iv (0 : Int32)) (rv b763) (rv b765) (iv (1 : Int32)))) rfl ?_
  refine own_i X770 hx hby at_267 ?_
  refine own_in X770 hx hby at_269 (feq (by decide : ¬ ((1 : Int32) = (0 : Int32)))).1 ?_
  refine own_a X770 hx hby at_272 ?_
  refine own_a X770 hx hby at_274 ?_
  refine st776 _ ?_
  refine own_i X776 hx hby at_279 ?_
  refine own_cn X776 hx hby at_281 (teq (rfl : (0 : Int32) = (0 : Int32))).2 ?_
  refine own_k X776 hx hby at_284 ?_
  refine own_go (pc := 285) X776 hx hby at_285 289 ?_
  refine XS.istore X776.here hx rfl (hb hby at_289) rfl (l' := (own_T q1 q2 p3 3 ca cb cc 2 da db dc (rv b756) (rv b760) (iv (0 : Int32)) (rv b763) (rv b765) (iv (1 : Int32)))) rfl ?_
  refine own_i X776 hx hby at_291 ?_
  refine own_in X776 hx hby at_293 (feq (by decide : ¬ ((1 : Int32) = (0 : Int32)))).1 ?_
  refine own_a X776 hx hby at_296 ?_
  refine own_a X776 hx hby at_298 ?_
  refine st777 _ ?_
  refine own_in X777 hx hby at_303 (feq (by decide : ¬ ((1 : Int32) = (0 : Int32)))).1 ?_
  refine own_k X777 hx hby at_306 ?_
  refine own_go (pc := 307) X777 hx hby at_307 311 ?_
  refine XS.istore X777.here hx rfl (hb hby at_311) rfl (l' := (own_T q1 q2 p3 3 ca cb cc 2 da db dc (rv b756) (rv b760) (iv (0 : Int32)) (rv b763) (rv b765) (iv (1 : Int32)))) rfl ?_
  refine own_i X777 hx hby at_313 ?_
  refine own_in X777 hx hby at_315 (feq (by decide : ¬ ((1 : Int32) = (0 : Int32)))).1 ?_
  refine own_a X777 hx hby at_318 ?_
  refine own_a X777 hx hby at_320 ?_
  refine st778 _ ?_
  refine own_in X778 hx hby at_325 (teq (rfl : (0 : Int32) = (0 : Int32))).2 ?_
  refine own_k X778 hx hby at_328 ?_
  refine own_go (pc := 329) X778 hx hby at_329 333 ?_
  refine XS.istore X778.here hx rfl (hb hby at_333) rfl (l' := (own_T q1 q2 p3 3 ca cb cc 2 da db dc (rv b756) (rv b760) (iv (0 : Int32)) (rv b763) (rv b765) (iv (1 : Int32)))) rfl ?_
  refine own_i X778 hx hby at_335 ?_
  refine own_in X778 hx hby at_337 (feq (by decide : ¬ ((1 : Int32) = (0 : Int32)))).1 ?_
  refine own_a X778 hx hby at_340 ?_
  refine XS.aconstNull X778.here hx rfl (hb hby at_342) ?_
  refine st779 _ ?_
  refine own_in X779 hx hby at_346 (teq (rfl : (0 : Int32) = (0 : Int32))).2 ?_
  refine own_k X779 hx hby at_349 ?_
  refine own_go (pc := 350) X779 hx hby at_350 354 ?_
  refine XS.istore X779.here hx rfl (hb hby at_354) rfl (l' := (own_T q1 q2 p3 3 ca cb cc 2 da db dc (rv b756) (rv b760) (iv (0 : Int32)) (rv b763) (rv b765) (iv (1 : Int32)))) rfl ?_
  refine own_i X779 hx hby at_356 ?_
  exact retN X779 hx (t := .boolean) hret (by simp) (hb hby at_358) hr
def Qrm808 (Z : State) (ca cb cc da db dc : Int32) (b782 : Addr) (k783 : ClassId) (b786 : Addr) (k787 : ClassId) (h0 : Heap) (v : Option Value) (h : Heap) (L : List Loc) : Prop := v = some (.int (0 : Int32)) ∧ Fr Z.heap.size L ∧ h = h0
theorem rm808 (l : Launch) (Z : State) (a0 : Array Value) (hw : own_HW Z a0) (ws : List Jvm.Cond) (ca cb cc da db dc : Int32) (b782 : Addr) (k783 : ClassId) (b786 : Addr) (k787 : ClassId) (h0 : Heap) (Z0 : Ext Z.heap h0) (V_b782 : Arv Z h0 b782 k783 .byte (3 : Int32) [(.int (ca.toInt8.toInt32)), (.int (cb.toInt8.toInt32)), (.int (cc.toInt8.toInt32))] (.int (0 : Int32))) (V_b786 : Arv Z h0 b786 k787 .byte (3 : Int32) [(.int (da.toInt8.toInt32)), (.int (db.toInt8.toInt32)), (.int (dc.toInt8.toInt32))] (.int (0 : Int32))) (hc48 : ¬ ((ca.toInt8.toInt32) = (da.toInt8.toInt32))) :
    own_met l y_19 jdk_43_method_13_code 3 (some .boolean) ws ({ frames := 0, cells := 0, slots := 0, locals := 0 } : Room) Z #[(.ref b782), (.ref b786)] h0 (Qrm808 Z ca cb cc da db dc b782 k783 b786 k787 h0) := by
  refine own_start (plainFor_of_name pn_5) (fun m => ef_jdk_43_method_13_RR m b782 b786) ?_
  intro p e s m below meth c s₁ hx hby hml hown hnm X0 hZ e0 hret hlk
  have N0 := Fr.nil Z.heap.size
  obtain ⟨cl809, Ar809, q809, S809, Nn809, H809, G809⟩ := id V_b782
  obtain ⟨cl810, Ar810, q810, S810, Nn810, H810, G810⟩ := id V_b786
  obtain ⟨cl811, Ar811, q811, S811, Nn811, H811, G811⟩ := id V_b782
  obtain ⟨cl812, Ar812, q812, S812, Nn812, H812, G812⟩ := id V_b782
  have hin812 : ¬ ((0 : Int32) < 0 ∨ cl812.slots.size ≤ ((0 : Int32)).toNatClampNeg) := inb_of S812 ⟨by decide, by decide⟩
  have hat812 : cl812.slots[((0 : Int32)).toNatClampNeg]? = some (.int (ca.toInt8.toInt32)) := Has.at H812 hin812 rfl
  obtain ⟨cl813, Ar813, q813, S813, Nn813, H813, G813⟩ := id V_b786
  have hin813 : ¬ ((0 : Int32) < 0 ∨ cl813.slots.size ≤ ((0 : Int32)).toNatClampNeg) := inb_of S813 ⟨by decide, by decide⟩
  have hat813 : cl813.slots[((0 : Int32)).toNatClampNeg]? = some (.int (da.toInt8.toInt32)) := Has.at H813 hin813 rfl
  obtain ⟨fs, hr, hrun, hended, hW, hsame⟩ := X0.leave (v := some (.int (0 : Int32))) (fun h => by rw [hret] at h; cases h) hlk
  refine ⟨_, _, ?_, hrun, hended, _, _, rfl, ?_, ⟨_, rfl⟩, hW, hsame.mono (by decide) (by decide)⟩
  · show own_S p e below s₁ (mkF m 0 #[rv b782, rv b786, .unset] []) _
    refine own_aN X0 hx hby d23_0 ?_
    refine X0.arraylength hx (by rw [e0]; exact Ar809.1) (State.isArrayOf_alike hZ.alike Ar809.2.1) (g := (mkF m 1 #[rv b782, rv b786, .unset] [(.ref b782)])) rfl rfl (hb hby d23_1) _ ?_
    rw [len_of S809 Nn809]
    refine own_aN X0 hx hby d23_2 ?_
    refine X0.arraylength hx (by rw [e0]; exact Ar810.1) (State.isArrayOf_alike hZ.alike Ar810.2.1) (g := (mkF m 3 #[rv b782, rv b786, .unset] [(.ref b786), (.int (3 : Int32))])) rfl rfl (hb hby d23_3) _ ?_
    rw [len_of S810 Nn810]
    refine own_cn X0 hx hby d23_4 (teq (rfl : (3 : Int32) = (3 : Int32))).2 ?_
    refine own_k X0 hx hby d23_7 ?_
    refine XS.istoreN X0.here hx rfl (hb hby d23_8) rfl (l' := #[rv b782, rv b786, iv (0 : Int32)]) rfl ?_
    refine own_iN X0 hx hby d23_9 ?_
    refine own_aN X0 hx hby d23_10 ?_
    refine X0.arraylength hx (by rw [e0]; exact Ar811.1) (State.isArrayOf_alike hZ.alike Ar811.2.1) (g := (mkF m 11 #[rv b782, rv b786, iv (0 : Int32)] [(.ref b782), (.int (0 : Int32))])) rfl rfl (hb hby d23_11) _ ?_
    rw [len_of S811 Nn811]
    refine own_cn X0 hx hby d23_12 (tlt (by decide : (0 : Int32) < (3 : Int32))).2.1 ?_
    refine own_aN X0 hx hby d23_15 ?_
    refine own_iN X0 hx hby d23_16 ?_
    refine X0.baloadBytes hx (j := (0 : Int32)) (v := (.int (ca.toInt8.toInt32))) (by rw [e0]; exact Ar812.1) (State.isArrayOf_alike hZ.alike Ar812.2.1) Ar812.2.2 hin812 hat812 (g := (mkF m 17 #[rv b782, rv b786, iv (0 : Int32)] [(.int (0 : Int32)), (.ref b782)])) rfl rfl (hb hby d23_17) _ ?_
    refine own_aN X0 hx hby d23_18 ?_
    refine own_iN X0 hx hby d23_19 ?_
    refine X0.baloadBytes hx (j := (0 : Int32)) (v := (.int (da.toInt8.toInt32))) (by rw [e0]; exact Ar813.1) (State.isArrayOf_alike hZ.alike Ar813.2.1) Ar813.2.2 hin813 hat813 (g := (mkF m 20 #[rv b782, rv b786, iv (0 : Int32)] [(.int (0 : Int32)), (.ref b786), (.int (ca.toInt8.toInt32))])) rfl rfl (hb hby d23_20) _ ?_
    refine own_cn X0 hx hby d23_21 (feq hc48).1 ?_
    refine own_k X0 hx hby d23_24 ?_
    exact retN X0 hx (t := .boolean) hret (by simp) (hb hby d23_25) hr
  · show Qrm808 Z ca cb cc da db dc b782 k783 b786 k787 h0 _ s₁.heap _
    rw [e0]
    exact ⟨rfl, N0, rfl⟩
def Qrm800 (Z : State) (w_CS ca cb cc da db dc : Int32) (b781 b782 : Addr) (k783 : ClassId) (b785 b786 : Addr) (k787 : ClassId) (h0 : Heap) (v : Option Value) (h : Heap) (L : List Loc) : Prop := v = some (.int (0 : Int32)) ∧ Fr Z.heap.size L ∧ h = h0
theorem rm800 (l : Launch) (Z : State) (a0 : Array Value) (hw : own_HW Z a0) (ws : List Jvm.Cond) (w_CS ca cb cc da db dc : Int32) (b781 b782 : Addr) (k783 : ClassId) (b785 b786 : Addr) (k787 : ClassId) (h0 : Heap) (Z0 : Ext Z.heap h0) (S_w_CS : own_w_CS Z w_CS) (F_b781_coder : Fld Z h0 b781 "java/lang/String" "coder" "B" (.int (0 : Int32))) (F_b781_value : Fld Z h0 b781 "java/lang/String" "value" "[B" (.ref b782)) (E_b785 : Exa Z h0 b785 "java/lang/String") (F_b785_coder : Fld Z h0 b785 "java/lang/String" "coder" "B" (.int (0 : Int32))) (F_b785_value : Fld Z h0 b785 "java/lang/String" "value" "[B" (.ref b786)) (V_b782 : Arv Z h0 b782 k783 .byte (3 : Int32) [(.int (ca.toInt8.toInt32)), (.int (cb.toInt8.toInt32)), (.int (cc.toInt8.toInt32))] (.int (0 : Int32))) (V_b786 : Arv Z h0 b786 k787 .byte (3 : Int32) [(.int (da.toInt8.toInt32)), (.int (db.toInt8.toInt32)), (.int (dc.toInt8.toInt32))] (.int (0 : Int32))) (hc79 : b781 ≠ b785) (hc1 : ¬ (w_CS = (0 : Int32))) (hc48 : ¬ ((ca.toInt8.toInt32) = (da.toInt8.toInt32))) :
    own_met l y_20 jdk_42_method_66_code 3 (some .boolean) ws ({ frames := 1, cells := 0, slots := 0, locals := 14 } : Room) Z #[(.ref b781), (.ref b785)] h0 (Qrm800 Z w_CS ca cb cc da db dc b781 b782 k783 b785 b786 k787 h0) := by
  refine own_start (plainFor_of_name pn_2) (fun m => ef_jdk_42_method_66_RR m b781 b785) ?_
  intro p e s m below meth c s₁ hx hby hml hown hnm X0 hZ e0 hret hlk
  have N0 := Fr.nil Z.heap.size
  obtain ⟨T801, X801, e801, st801⟩ := instY X0 hx hZ hown (own_w hw 109 rfl) e0 (Ins.self E_b785) (g := (mkF m 8 #[rv b781, rv b785, .unset] [(.ref b785)])) rfl rfl (hb hby d22_8)
  obtain ⟨T802, X802, e802, st802⟩ := castY X801 hx hZ hown (own_w hw 109 rfl) e801 (Ins.self E_b785) (g := (mkF m 15 #[rv b781, rv b785, .unset] [(.ref b785)])) rfl rfl (hb hby d22_15)
  obtain ⟨T803, X803, e803, st803⟩ := getS2 X802 hx hZ hown (host := "") (Or.inl (own_w hw 27 rfl)) Via.refl e802 (S_w_CS.ext Z0) (g := (mkF m 19 #[rv b781, rv b785, rv b785] [])) rfl (hb hby d22_19)
  obtain ⟨T804, X804, e804, st804⟩ := getF X803 hx hZ hown (host := "") (Or.inl (own_w hw 39 rfl)) Via.refl e803 F_b781_coder (g := (mkF m 26 #[rv b781, rv b785, rv b785] [(.ref b781)])) rfl rfl (hb hby d22_26)
  obtain ⟨T805, X805, e805, st805⟩ := getF X804 hx hZ hown (host := "") (Or.inl (own_w hw 39 rfl)) Via.refl e804 F_b785_coder (g := (mkF m 30 #[rv b781, rv b785, rv b785] [(.ref b785), (.int (0 : Int32))])) rfl rfl (hb hby d22_30)
  obtain ⟨T806, X806, e806, st806⟩ := getF X805 hx hZ hown (host := "") (Or.inl (own_w hw 41 rfl)) Via.refl e805 F_b781_value (g := (mkF m 37 #[rv b781, rv b785, rv b785] [(.ref b781)])) rfl rfl (hb hby d22_37)
  obtain ⟨T807, X807, e807, st807⟩ := getF X806 hx hZ hown (host := "") (Or.inl (own_w hw 41 rfl)) Via.refl e806 F_b785_value (g := (mkF m 41 #[rv b781, rv b785, rv b785] [(.ref b785), (.ref b782)])) rfl rfl (hb hby d22_41)
  obtain ⟨_, T814, Lc814, X814, hQ814, st814⟩ := own_static (y := y_19) X807 hx hZ hown (own_w hw 110 rfl) (own_w hw 111 rfl) (own_w hw 75 rfl) (own_w hw 112 rfl) (rm808 l Z a0 hw [] ca cb cc da db dc b782 k783 b786 k787 h0 Z0 V_b782 V_b786 hc48) e807 (g := (mkF m 44 #[rv b781, rv b785, rv b785] [(.ref b786), (.ref b782)])) (argsL := [(.ref b782), (.ref b786)]) (rest := []) (W := 0) (lenOf pd_16 rfl) (hb hby d22_44) hml
  obtain ⟨rfl, N814q, e814⟩ := hQ814
  have N814 := Fr.app N0 N814q
  obtain ⟨fs, hr, hrun, hended, hW, hsame⟩ := X814.leave (v := some (.int (0 : Int32))) (fun h => by rw [hret] at h; cases h) hlk
  refine ⟨_, _, ?_, hrun, hended, _, _, rfl, ?_, ⟨_, rfl⟩, hW, hsame.mono (by decide) (by decide)⟩
  · show own_S p e below s₁ (mkF m 0 #[rv b781, rv b785, .unset] []) _
    refine own_aN X0 hx hby d22_0 ?_
    refine own_aN X0 hx hby d22_1 ?_
    refine Jvm.RoadKit.acmp (g := (mkF m 2 #[rv b781, rv b785, .unset] [(.ref b785), (.ref b781)])) X0 hx rfl rfl rfl (pc0 := 2) (pc' := 7) (same := false) rfl (hb hby d22_2) rfl (decide_eq_false fun q => hc79 (Value.ref.inj q)) (by decide) (by decide) ?_
    refine own_aN X0 hx hby d22_7 ?_
    refine st801 _ ?_
    refine own_in X801 hx hby d22_11 (feq (by decide : ¬ ((1 : Int32) = (0 : Int32)))).1 ?_
    refine own_aN X801 hx hby d22_14 ?_
    refine st802 _ ?_
    refine XS.astoreN X802.here hx rfl (hb hby d22_18) rfl rfl (l' := #[rv b781, rv b785, rv b785]) rfl ?_
    refine st803 _ ?_
    refine own_in X803 hx hby d22_22 (feq hc1).1 ?_
    refine own_aN X803 hx hby d22_25 ?_
    refine st804 _ ?_
    refine own_aN X804 hx hby d22_29 ?_
    refine st805 _ ?_
    refine own_cn X805 hx hby d22_33 (teq (rfl : (0 : Int32) = (0 : Int32))).2 ?_
    refine own_aN X805 hx hby d22_36 ?_
    refine st806 _ ?_
    refine own_aN X806 hx hby d22_40 ?_
    refine st807 _ ?_
    refine st814 _ ?_
    refine own_iy (pc := 47) X814 hx hby d22_47 (teq (rfl : (0 : Int32) = (0 : Int32))).1 54 ?_
    refine own_k X814 hx hby d22_54 ?_
    exact retN X814 hx (t := .boolean) hret (by simp) (hb hby d22_55) hr
  · show Qrm800 Z w_CS ca cb cc da db dc b781 b782 k783 b785 b786 k787 h0 _ T814.heap _
    rw [e814]
    exact ⟨rfl, N814, rfl⟩
def Qrm795 (Z : State) (w_CS ca cb cc da db dc : Int32) (b781 b782 : Addr) (k783 : ClassId) (b785 b786 : Addr) (k787 : ClassId) (b788 b790 : Addr) (h0 : Heap) (v : Option Value) (h : Heap) (L : List Loc) : Prop := v = some (.int (0 : Int32)) ∧ Fr Z.heap.size L ∧ h = h0
theorem rm795 (l : Launch) (Z : State) (a0 : Array Value) (hw : own_HW Z a0) (ws : List Jvm.Cond) (w_CS ca cb cc da db dc : Int32) (b781 b782 : Addr) (k783 : ClassId) (b785 b786 : Addr) (k787 : ClassId) (b788 b790 : Addr) (h0 : Heap) (Z0 : Ext Z.heap h0) (S_w_CS : own_w_CS Z w_CS) (F_b788_written : Fld Z h0 b788 "com/example/faretally/faretally/RefundRequest$Involuntary$Reason" "written" "Ljava/lang/String;" (.ref b781)) (E_b790 : Exa Z h0 b790 "com/example/faretally/faretally/RefundRequest$Involuntary$Reason") (F_b790_written : Fld Z h0 b790 "com/example/faretally/faretally/RefundRequest$Involuntary$Reason" "written" "Ljava/lang/String;" (.ref b785)) (E_b781 : Exa Z h0 b781 "java/lang/String") (F_b781_coder : Fld Z h0 b781 "java/lang/String" "coder" "B" (.int (0 : Int32))) (F_b781_value : Fld Z h0 b781 "java/lang/String" "value" "[B" (.ref b782)) (E_b785 : Exa Z h0 b785 "java/lang/String") (F_b785_coder : Fld Z h0 b785 "java/lang/String" "coder" "B" (.int (0 : Int32))) (F_b785_value : Fld Z h0 b785 "java/lang/String" "value" "[B" (.ref b786)) (V_b782 : Arv Z h0 b782 k783 .byte (3 : Int32) [(.int (ca.toInt8.toInt32)), (.int (cb.toInt8.toInt32)), (.int (cc.toInt8.toInt32))] (.int (0 : Int32))) (V_b786 : Arv Z h0 b786 k787 .byte (3 : Int32) [(.int (da.toInt8.toInt32)), (.int (db.toInt8.toInt32)), (.int (dc.toInt8.toInt32))] (.int (0 : Int32))) (hc79 : b781 ≠ b785) (hc1 : ¬ (w_CS = (0 : Int32))) (hc48 : ¬ ((ca.toInt8.toInt32) = (da.toInt8.toInt32))) :
    own_met l y_21 prog_97_method_3_code 3 (some .boolean) ws ({ frames := 2, cells := 0, slots := 0, locals := 28 } : Room) Z #[(.ref b788), (.ref b790)] h0 (Qrm795 Z w_CS ca cb cc da db dc b781 b782 k783 b785 b786 k787 b788 b790 h0) := by
  refine own_start (plainFor_of_name pn_6) (fun m => ef_prog_97_method_3_RR m b788 b790) ?_
  intro p e s m below meth c s₁ hx hby hml hown hnm X0 hZ e0 hret hlk
  have N0 := Fr.nil Z.heap.size
  obtain ⟨T796, X796, e796, st796⟩ := instY X0 hx hZ hown (own_w hw 102 rfl) e0 (Ins.self E_b790) (g := (mkF m 1 #[rv b788, rv b790, .unset] [(.ref b790)])) rfl rfl (hb hby d21_1)
  obtain ⟨T797, X797, e797, st797⟩ := castY X796 hx hZ hown (own_w hw 102 rfl) e796 (Ins.self E_b790) (g := (mkF m 8 #[rv b788, rv b790, .unset] [(.ref b790)])) rfl rfl (hb hby d21_8)
  obtain ⟨T798, X798, e798, st798⟩ := getF X797 hx hZ hown (host := "") (Or.inl (own_w hw 95 rfl)) Via.refl e797 F_b788_written (g := (mkF m 13 #[rv b788, rv b790, rv b790] [(.ref b788)])) rfl rfl (hb hby d21_13)
  obtain ⟨T799, X799, e799, st799⟩ := getF X798 hx hZ hown (host := "") (Or.inl (own_w hw 95 rfl)) Via.refl e798 F_b790_written (g := (mkF m 17 #[rv b788, rv b790, rv b790] [(.ref b790), (.ref b781)])) rfl rfl (hb hby d21_17)
  obtain ⟨_, T815, Lc815, X815, hQ815, st815⟩ := own_virtual (y := y_20) X799 hx hZ hown (own_w hw 104 rfl) (own_w hw 105 rfl) (own_w hw 107 rfl) (own_w hw 106 rfl) (own_w hw 15 rfl) (own_w hw 108 rfl) (rm800 l Z a0 hw [] w_CS ca cb cc da db dc b781 b782 k783 b785 b786 k787 h0 Z0 S_w_CS F_b781_coder F_b781_value E_b785 F_b785_coder F_b785_value V_b782 V_b786 hc79 hc1 hc48) e799 E_b781 (g := (mkF m 20 #[rv b788, rv b790, rv b790] [(.ref b785), (.ref b781)])) (argsL := [(.ref b785)]) (rest := []) (W := 0) (lenOf pd_17 rfl) (hb hby d21_20) hml
  obtain ⟨rfl, N815q, e815⟩ := hQ815
  have N815 := Fr.app N0 N815q
  obtain ⟨fs, hr, hrun, hended, hW, hsame⟩ := X815.leave (v := some (.int (0 : Int32))) (fun h => by rw [hret] at h; cases h) hlk
  refine ⟨_, _, ?_, hrun, hended, _, _, rfl, ?_, ⟨_, rfl⟩, hW, hsame.mono (by decide) (by decide)⟩
  · show own_S p e below s₁ (mkF m 0 #[rv b788, rv b790, .unset] []) _
    refine own_aN X0 hx hby d21_0 ?_
    refine st796 _ ?_
    refine own_in X796 hx hby d21_4 (feq (by decide : ¬ ((1 : Int32) = (0 : Int32)))).1 ?_
    refine own_aN X796 hx hby d21_7 ?_
    refine st797 _ ?_
    refine XS.astoreN X797.here hx rfl (hb hby d21_11) rfl rfl (l' := #[rv b788, rv b790, rv b790]) rfl ?_
    refine own_aN X797 hx hby d21_12 ?_
    refine st798 _ ?_
    refine own_aN X798 hx hby d21_16 ?_
    refine st799 _ ?_
    refine st815 _ ?_
    refine own_iy (pc := 23) X815 hx hby d21_23 (teq (rfl : (0 : Int32) = (0 : Int32))).1 30 ?_
    refine own_k X815 hx hby d21_30 ?_
    exact retN X815 hx (t := .boolean) hret (by simp) (hb hby d21_31) hr
  · show Qrm795 Z w_CS ca cb cc da db dc b781 b782 k783 b785 b786 k787 b788 b790 h0 _ T815.heap _
    rw [e815]
    exact ⟨rfl, N815, rfl⟩
theorem own_t33_0 {p : Program} {l : Launch} {e : Env} {s : State} {m : MethodId} {args : Array Value} {below : List Frame} {meth : Method} {c : Code} {T0 : State} {locs : List Loc} (Z : State) (a0 : Array Value) (hw : own_HW Z a0) (w_CS : Int32) (w_SF : Value) (q1 q2 : Int64) (p3 ca cb cc da db dc : Int32) (h0 : Heap) (Z0 : Ext Z.heap h0) (S_w_CS : own_w_CS Z w_CS) (S_w_SF : own_w_SF Z w_SF) (R_w_SF : w_SF.isRef = true) (hc42 : own_ch ca) (hc64 : own_ch cb) (hc77 : own_ch cc) (hc1 : ¬ (w_CS = (0 : Int32))) (hc43 : own_ch da) (hc54 : own_ch db) (hc59 : own_ch dc) (hc44 : ¬ (ca = da)) (hc45 : own_low ca) (hc65 : own_aln cb) (hc78 : own_aln cc) (hc46 : own_low da) (hc56 : own_aln db) (hc61 : own_aln dc) (hc48 : ¬ ((ca.toInt8.toInt32) = (da.toInt8.toInt32))) (hc49 : ¬ ((da.toInt8.toInt32) = (ca.toInt8.toInt32))) (X0 : Stand p l e room_1 s m args below meth c T0 locs 0 0) (hx : p.tables.exec = Jvm.exec) (hZ : Z.Warmed39 s.vm) (hby : c.code = code) (hml : c.maxLocals = 19) (hown : s.vm.findClass "com/example/faretally/faretally/ReasonEqualsPinLaw" = some m.cls) (e0 : T0.heap = h0) (N0 : Fr Z.heap.size locs) (hret : meth.sig.returnType = some .boolean) (hlk : meth.locks = false) :
    ∃ s₂ o, Steps p.tables e below (T0.setTop (mkF m 153 (own_T q1 q2 p3 3 ca cb cc 3 da db dc .unset .unset .unset .unset .unset .unset) [])) s₂ ∧ s₂.status = .running ∧ Ended s₂ below o ∧ ∃ v L, o = .returned v ∧ (v = some (.int (1 : Int32)) ∧ Fr Z.heap.size L) ∧ FrameEnd s o s₂ L room_1.cells room_1.slots := by
  obtain ⟨_, T780, Lc780, X780, hQ780, st780⟩ := own_static (y := y_7) X0 hx hZ hown (own_w hw 10 rfl) (own_w hw 11 rfl) (own_w hw 4 rfl) (own_w hw 12 rfl) (rm340 l Z a0 hw [] w_CS ca cb cc h0 Z0 S_w_CS hc42 hc64 hc77 hc1) e0 (g := (mkF m 161 (own_T q1 q2 p3 3 ca cb cc 3 da db dc .unset .unset .unset .unset .unset .unset) [(.int cc), (.int cb), (.int ca), (.int (3 : Int32))])) (argsL := [(.int (3 : Int32)), (.int ca), (.int cb), (.int cc)]) (rest := []) (W := 0) (lenOf pd_6 rfl) (hb hby at_161) hml
  obtain ⟨b781, b782, k783, rfl, N780q, K780q, szn_b781, szn_b782, q780_E_b781, q780_F_b781_coder, q780_F_b781_value, q780_V_b782⟩ := hQ780
  have g_b781 : Z.heap.size ≤ b781 := Nat.le_trans Z0.1 szn_b781
  have sz_b781 : h0.size ≤ b781 := Nat.le_trans (Keep.refl h0 []).1 szn_b781
  have g_b782 : Z.heap.size ≤ b782 := Nat.le_trans Z0.1 szn_b782
  have sz_b782 : h0.size ≤ b782 := Nat.le_trans (Keep.refl h0 []).1 szn_b782
  have K780 : Keep h0 T780.heap [] := (Keep.refl h0 []).trans K780q all0
  have XX780 : Ext Z.heap T780.heap := own_extK Z0 K780q all0
  have N780 := Fr.app N0 N780q
  obtain ⟨_, T784, Lc784, X784, hQ784, st784⟩ := own_static (y := y_7) X780 hx hZ hown (own_w hw 10 rfl) (own_w hw 11 rfl) (own_w hw 4 rfl) (own_w hw 12 rfl) (rm340 l Z a0 hw [] w_CS da db dc T780.heap XX780 S_w_CS hc43 hc54 hc59 hc1) rfl (g := (mkF m 174 (own_T q1 q2 p3 3 ca cb cc 3 da db dc (rv b781) .unset .unset .unset .unset .unset) [(.int dc), (.int db), (.int da), (.int (3 : Int32))])) (argsL := [(.int (3 : Int32)), (.int da), (.int db), (.int dc)]) (rest := []) (W := 0) (lenOf pd_6 rfl) (hb hby at_174) hml
  obtain ⟨b785, b786, k787, rfl, N784q, K784q, szn_b785, szn_b786, q784_E_b785, q784_F_b785_coder, q784_F_b785_value, q784_V_b786⟩ := hQ784
  have g_b785 : Z.heap.size ≤ b785 := Nat.le_trans XX780.1 szn_b785
  have sz_b785 : h0.size ≤ b785 := Nat.le_trans K780.1 szn_b785
  have g_b786 : Z.heap.size ≤ b786 := Nat.le_trans XX780.1 szn_b786
  have sz_b786 : h0.size ≤ b786 := Nat.le_trans K780.1 szn_b786
  have K784 : Keep h0 T784.heap [] := K780.trans K784q all0
  have XX784 : Ext Z.heap T784.heap := own_extK XX780 K784q all0
  have N784 := Fr.app N780 N784q
  obtain ⟨T788, h788, X788, e788, E788, A788, D788, -, st788⟩ := newO X784 hx hZ hown (own_w hw 43 rfl) (own_w hw 44 rfl) (own_w hw 45 rfl) rfl (g := (mkF m 226 (own_T q1 q2 p3 3 ca cb cc 3 da db dc (rv b781) (rv b785) (iv (0 : Int32)) .unset .unset .unset) [])) rfl (hb hby at_226) (by decide) (by decide)
  obtain ⟨b788, g788⟩ : ∃ z, z = T784.heap.size := ⟨_, rfl⟩
  rw [← g788] at A788 D788 st788
  have g_b788 : Z.heap.size ≤ b788 := Nat.le_trans XX784.1 (Nat.le_of_eq g788.symm)
  have sz_b788 : h0.size ≤ b788 := Nat.le_trans K784.1 (Nat.le_of_eq g788.symm)
  have F_b788_written : Fld Z h788 b788 "com/example/faretally/faretally/RefundRequest$Involuntary$Reason" "written" "Ljava/lang/String;" .null := D788 (Or.inr (own_w hw 96 rfl)) (ty := (.object "java/lang/String")) (by decide)
  have K788 : Keep h0 h788 [] := K784.ext E788
  have XX788 : Ext Z.heap h788 := own_ext2 XX784 E788
  obtain ⟨_, T789, Lc789, X789, hQ789, st789⟩ := own_special (y := y_18) X788 hx hZ hown rfl (own_w hw 46 rfl) (own_w hw 47 rfl) (own_w hw 45 rfl) (own_w hw 48 rfl) (rm393 l Z a0 hw [] w_CS w_SF ca cb cc b781 b782 k783 b788 h788 XX788 S_w_CS S_w_SF R_w_SF A788 F_b788_written ((q780_E_b781.keep K784q).ext E788) ((q780_F_b781_coder.keep K784q nin0).ext E788) ((q780_F_b781_value.keep K784q nin0).ext E788) ((q780_V_b782.keep K784q nin0).ext E788) g_b788 hc1 hc42 hc45 hc64 hc65 hc77 hc78) e788 b788 (g := (mkF m 232 (own_T q1 q2 p3 3 ca cb cc 3 da db dc (rv b781) (rv b785) (iv (0 : Int32)) .unset .unset .unset) [(.ref b781), (.ref b788), (.ref b788)])) (argsL := [(.ref b781)]) (rest := [(.ref b788)]) (W := 1) (lenOf pd_15 rfl) (hb hby at_232) hml
  obtain ⟨rfl, N789q, K789q, q789_E_b788, q789_F_b788_written⟩ := hQ789
  have K789 : Keep h0 T789.heap [] := K788.trans K789q (allS (Or.inr sz_b788) all0)
  have XX789 : Ext Z.heap T789.heap := own_extK XX788 K789q (allS g_b788 all0)
  have N789 := Fr.app N784 N789q
  obtain ⟨T790, h790, X790, e790, E790, A790, D790, -, st790⟩ := newO X789 hx hZ hown (own_w hw 43 rfl) (own_w hw 44 rfl) (own_w hw 45 rfl) rfl (g := (mkF m 237 (own_T q1 q2 p3 3 ca cb cc 3 da db dc (rv b781) (rv b785) (iv (0 : Int32)) (rv b788) .unset .unset) [])) rfl (hb hby at_237) (by decide) (by decide)
  obtain ⟨b790, g790⟩ : ∃ z, z = T789.heap.size := ⟨_, rfl⟩
  rw [← g790] at A790 D790 st790
  have g_b790 : Z.heap.size ≤ b790 := Nat.le_trans XX789.1 (Nat.le_of_eq g790.symm)
  have sz_b790 : h0.size ≤ b790 := Nat.le_trans K789.1 (Nat.le_of_eq g790.symm)
  have F_b790_written : Fld Z h790 b790 "com/example/faretally/faretally/RefundRequest$Involuntary$Reason" "written" "Ljava/lang/String;" .null := D790 (Or.inr (own_w hw 96 rfl)) (ty := (.object "java/lang/String")) (by decide)
  have K790 : Keep h0 h790 [] := K789.ext E790
  have XX790 : Ext Z.heap h790 := own_ext2 XX789 E790
  have ne_b785_b788 : b785 ≠ b788 := Nat.ne_of_lt (Nat.lt_of_lt_of_le q784_E_b785.lt (Nat.le_of_eq g788.symm))
  have f792_F_b785_coder : Fld Z h790 b785 "java/lang/String" "coder" "B" (.int (0 : Int32)) := (((q784_F_b785_coder.ext E788).keep K789q (ninS ne_b785_b788 (nin0))).ext E790)
  have f793_F_b785_value : Fld Z h790 b785 "java/lang/String" "value" "[B" (.ref b786) := (((q784_F_b785_value.ext E788).keep K789q (ninS ne_b785_b788 (nin0))).ext E790)
  have ne_b786_b788 : b786 ≠ b788 := Nat.ne_of_lt (Nat.lt_of_lt_of_le q784_V_b786.lt (Nat.le_of_eq g788.symm))
  have f794_V_b786 : Arv Z h790 b786 k787 .byte (3 : Int32) [(.int (da.toInt8.toInt32)), (.int (db.toInt8.toInt32)), (.int (dc.toInt8.toInt32))] (.int (0 : Int32)) := (((q784_V_b786.ext E788).keep K789q (ninS ne_b786_b788 (nin0))).ext E790)
  obtain ⟨_, T791, Lc791, X791, hQ791, st791⟩ := own_special (y := y_18) X790 hx hZ hown rfl (own_w hw 46 rfl) (own_w hw 47 rfl) (own_w hw 45 rfl) (own_w hw 48 rfl) (rm393 l Z a0 hw [] w_CS w_SF da db dc b785 b786 k787 b790 h790 XX790 S_w_CS S_w_SF R_w_SF A790 F_b790_written (((q784_E_b785.ext E788).keep K789q).ext E790) f792_F_b785_coder f793_F_b785_value f794_V_b786 g_b790 hc1 hc43 hc46 hc54 hc56 hc59 hc61) e790 b790 (g := (mkF m 243 (own_T q1 q2 p3 3 ca cb cc 3 da db dc (rv b781) (rv b785) (iv (0 : Int32)) (rv b788) .unset .unset) [(.ref b785), (.ref b790), (.ref b790)])) (argsL := [(.ref b785)]) (rest := [(.ref b790)]) (W := 1) (lenOf pd_15 rfl) (hb hby at_243) hml
  obtain ⟨rfl, N791q, K791q, q791_E_b790, q791_F_b790_written⟩ := hQ791
  have K791 : Keep h0 T791.heap [] := K790.trans K791q (allS (Or.inr sz_b790) all0)
  have XX791 : Ext Z.heap T791.heap := own_extK XX790 K791q (allS g_b790 all0)
  have N791 := Fr.app N789 N791q
  have ne_b788_b790 : b788 ≠ b790 := Nat.ne_of_lt (Nat.lt_of_lt_of_le q789_E_b788.lt (Nat.le_of_eq g790.symm))
  have f817_F_b788_written : Fld Z T791.heap b788 "com/example/faretally/faretally/RefundRequest$Involuntary$Reason" "written" "Ljava/lang/String;" (.ref b781) := ((q789_F_b788_written.ext E790).keep K791q (ninS ne_b788_b790 (nin0)))
  have f818_E_b781 : Exa Z T791.heap b781 "java/lang/String" := (((((q780_E_b781.keep K784q).ext E788).keep K789q).ext E790).keep K791q)
  have ne_b781_b788 : b781 ≠ b788 := Nat.ne_of_lt (Nat.lt_of_lt_of_le (q780_E_b781.keep K784q).lt (Nat.le_of_eq g788.symm))
  have ne_b781_b790 : b781 ≠ b790 := Nat.ne_of_lt (Nat.lt_of_lt_of_le (((q780_E_b781.keep K784q).ext E788).keep K789q).lt (Nat.le_of_eq g790.symm))
  have f819_F_b781_coder : Fld Z T791.heap b781 "java/lang/String" "coder" "B" (.int (0 : Int32)) := (((((q780_F_b781_coder.keep K784q nin0).ext E788).keep K789q (ninS ne_b781_b788 (nin0))).ext E790).keep K791q (ninS ne_b781_b790 (nin0)))
  have f820_F_b781_value : Fld Z T791.heap b781 "java/lang/String" "value" "[B" (.ref b782) := (((((q780_F_b781_value.keep K784q nin0).ext E788).keep K789q (ninS ne_b781_b788 (nin0))).ext E790).keep K791q (ninS ne_b781_b790 (nin0)))
  have ne_b785_b790 : b785 ≠ b790 := Nat.ne_of_lt (Nat.lt_of_lt_of_le ((q784_E_b785.ext E788).keep K789q).lt (Nat.le_of_eq g790.symm))
  have ne_b782_b788 : b782 ≠ b788 := Nat.ne_of_lt (Nat.lt_of_lt_of_le (q780_V_b782.keep K784q nin0).lt (Nat.le_of_eq g788.symm))
  have ne_b782_b790 : b782 ≠ b790 := Nat.ne_of_lt (Nat.lt_of_lt_of_le (((q780_V_b782.keep K784q nin0).ext E788).keep K789q (ninS ne_b782_b788 (nin0))).lt (Nat.le_of_eq g790.symm))
  have f821_V_b782 : Arv Z T791.heap b782 k783 .byte (3 : Int32) [(.int (ca.toInt8.toInt32)), (.int (cb.toInt8.toInt32)), (.int (cc.toInt8.toInt32))] (.int (0 : Int32)) := (((((q780_V_b782.keep K784q nin0).ext E788).keep K789q (ninS ne_b782_b788 (nin0))).ext E790).keep K791q (ninS ne_b782_b790 (nin0)))
  have ne_b786_b790 : b786 ≠ b790 := Nat.ne_of_lt (Nat.lt_of_lt_of_le ((q784_V_b786.ext E788).keep K789q (ninS ne_b786_b788 (nin0))).lt (Nat.le_of_eq g790.symm))
  have ne_b781_b785 : b781 ≠ b785 := Nat.ne_of_lt (Nat.lt_of_lt_of_le q780_E_b781.lt szn_b785)
  obtain ⟨_, T816, Lc816, X816, hQ816, st816⟩ := own_virtual (y := y_21) X791 hx hZ hown (own_w hw 97 rfl) (own_w hw 98 rfl) (own_w hw 100 rfl) (own_w hw 99 rfl) (own_w hw 45 rfl) (own_w hw 101 rfl) (rm795 l Z a0 hw [] w_CS ca cb cc da db dc b781 b782 k783 b785 b786 k787 b788 b790 T791.heap XX791 S_w_CS f817_F_b788_written q791_E_b790 q791_F_b790_written f818_E_b781 f819_F_b781_coder f820_F_b781_value ((((q784_E_b785.ext E788).keep K789q).ext E790).keep K791q) (f792_F_b785_coder.keep K791q (ninS ne_b785_b790 (nin0))) (f793_F_b785_value.keep K791q (ninS ne_b785_b790 (nin0))) f821_V_b782 (f794_V_b786.keep K791q (ninS ne_b786_b790 (nin0))) ne_b781_b785 hc1 hc48) rfl ((q789_E_b788.ext E790).keep K791q) (g := (mkF m 252 (own_T q1 q2 p3 3 ca cb cc 3 da db dc (rv b781) (rv b785) (iv (0 : Int32)) (rv b788) (rv b790) .unset) [(.ref b790), (.ref b788)])) (argsL := [(.ref b790)]) (rest := []) (W := 0) (lenOf pd_17 rfl) (hb hby at_252) hml
  obtain ⟨rfl, N816q, e816⟩ := hQ816
  have N816 := Fr.app N791 N816q
  obtain ⟨_, T822, Lc822, X822, hQ822, st822⟩ := own_virtual (y := y_21) X816 hx hZ hown (own_w hw 97 rfl) (own_w hw 98 rfl) (own_w hw 100 rfl) (own_w hw 99 rfl) (own_w hw 45 rfl) (own_w hw 101 rfl) (rm795 l Z a0 hw [] w_CS da db dc ca cb cc b785 b786 k787 b781 b782 k783 b790 b788 T791.heap XX791 S_w_CS q791_F_b790_written ((q789_E_b788.ext E790).keep K791q) f817_F_b788_written ((((q784_E_b785.ext E788).keep K789q).ext E790).keep K791q) (f792_F_b785_coder.keep K791q (ninS ne_b785_b790 (nin0))) (f793_F_b785_value.keep K791q (ninS ne_b785_b790 (nin0))) f818_E_b781 f819_F_b781_coder f820_F_b781_value (f794_V_b786.keep K791q (ninS ne_b786_b790 (nin0))) f821_V_b782 (Ne.symm ne_b781_b785) hc1 hc49) e816 q791_E_b790 (g := (mkF m 276 (own_T q1 q2 p3 3 ca cb cc 3 da db dc (rv b781) (rv b785) (iv (0 : Int32)) (rv b788) (rv b790) (iv (1 : Int32))) [(.ref b788), (.ref b790)])) (argsL := [(.ref b788)]) (rest := []) (W := 0) (lenOf pd_17 rfl) (hb hby at_276) hml
  obtain ⟨rfl, N822q, e822⟩ := hQ822
  have N822 := Fr.app N816 N822q
  obtain ⟨_, T823, Lc823, X823, hQ823, st823⟩ := own_virtual (y := y_21) X822 hx hZ hown (own_w hw 97 rfl) (own_w hw 98 rfl) (own_w hw 100 rfl) (own_w hw 99 rfl) (own_w hw 45 rfl) (own_w hw 101 rfl) (rm132 l Z a0 hw [] b781 b788 T791.heap XX791 ((q789_E_b788.ext E790).keep K791q) f817_F_b788_written f818_E_b781) e822 ((q789_E_b788.ext E790).keep K791q) (g := (mkF m 300 (own_T q1 q2 p3 3 ca cb cc 3 da db dc (rv b781) (rv b785) (iv (0 : Int32)) (rv b788) (rv b790) (iv (1 : Int32))) [(.ref b788), (.ref b788)])) (argsL := [(.ref b788)]) (rest := []) (W := 0) (lenOf pd_17 rfl) (hb hby at_300) hml
  obtain ⟨rfl, N823q, e823⟩ := hQ823
  have N823 := Fr.app N822 N823q
  obtain ⟨_, T824, Lc824, X824, hQ824, st824⟩ := own_virtual (y := y_21) X823 hx hZ hown (own_w hw 97 rfl) (own_w hw 98 rfl) (own_w hw 100 rfl) (own_w hw 99 rfl) (own_w hw 45 rfl) (own_w hw 101 rfl) (rm140 l Z a0 hw [] b781 b788 T791.heap XX791 f818_E_b781) e823 ((q789_E_b788.ext E790).keep K791q) (g := (mkF m 322 (own_T q1 q2 p3 3 ca cb cc 3 da db dc (rv b781) (rv b785) (iv (0 : Int32)) (rv b788) (rv b790) (iv (1 : Int32))) [(.ref b781), (.ref b788)])) (argsL := [(.ref b781)]) (rest := []) (W := 0) (lenOf pd_17 rfl) (hb hby at_322) hml
  obtain ⟨rfl, N824q, e824⟩ := hQ824
  have N824 := Fr.app N823 N824q
  obtain ⟨_, T825, Lc825, X825, hQ825, st825⟩ := own_virtual (y := y_21) X824 hx hZ hown (own_w hw 97 rfl) (own_w hw 98 rfl) (own_w hw 100 rfl) (own_w hw 99 rfl) (own_w hw 45 rfl) (own_w hw 101 rfl) (rm143 l Z a0 hw [] b788 T791.heap XX791 ) e824 ((q789_E_b788.ext E790).keep K791q) (g := (mkF m 343 (own_T q1 q2 p3 3 ca cb cc 3 da db dc (rv b781) (rv b785) (iv (0 : Int32)) (rv b788) (rv b790) (iv (1 : Int32))) [.null, (.ref b788)])) (argsL := [.null]) (rest := []) (W := 0) (lenOf pd_17 rfl) (hb hby at_343) hml
  obtain ⟨rfl, N825q, e825⟩ := hQ825
  have N825 := Fr.app N824 N825q
  obtain ⟨fs, hr, hrun, hended, hW, hsame⟩ := X825.leave (v := some (.int (1 : Int32))) (fun h => by rw [hret] at h; cases h) hlk
  refine ⟨_, _, ?_, hrun, hended, _, _, rfl, ⟨rfl, N825⟩, ⟨_, rfl⟩, hW, hsame.mono (by decide) (by decide)⟩
  show own_S p e below T0 (mkF m 153 (own_T q1 q2 p3 3 ca cb cc 3 da db dc .unset .unset .unset .unset .unset .unset) []) _
  refine own_i X0 hx hby at_153 ?_
  refine own_i X0 hx hby at_155 ?_
  refine own_i X0 hx hby at_157 ?_
  refine own_i X0 hx hby at_159 ?_
  refine st780 _ ?_
  refine XS.astore X780.here hx rfl (hb hby at_164) rfl rfl (l' := (own_T q1 q2 p3 3 ca cb cc 3 da db dc (rv b781) .unset .unset .unset .unset .unset)) rfl ?_
  refine own_i X780 hx hby at_166 ?_
  refine own_i X780 hx hby at_168 ?_
  refine own_i X780 hx hby at_170 ?_
  refine own_i X780 hx hby at_172 ?_
  refine st784 _ ?_
  refine XS.astore X784.here hx rfl (hb hby at_177) rfl rfl (l' := (own_T q1 q2 p3 3 ca cb cc 3 da db dc (rv b781) (rv b785) .unset .unset .unset .unset)) rfl ?_
  refine own_i X784 hx hby at_179 ?_
  refine own_i X784 hx hby at_181 ?_
  refine own_cn X784 hx hby at_183 (teq (rfl : (3 : Int32) = (3 : Int32))).2 ?_
  refine own_i X784 hx hby at_186 ?_
  refine own_i X784 hx hby at_188 ?_
  refine own_cy (pc := 190) X784 hx hby at_190 (feq hc44).2 223 ?_
  refine own_k X784 hx hby at_223 ?_
  refine XS.istore X784.here hx rfl (hb hby at_224) rfl (l' := (own_T q1 q2 p3 3 ca cb cc 3 da db dc (rv b781) (rv b785) (iv (0 : Int32)) .unset .unset .unset)) rfl ?_
  refine st788 _ ?_
  refine XS.dup X788.here hx rfl (hb hby at_229) rfl rfl ?_
  refine own_a X788 hx hby at_230 ?_
  refine st789 _ ?_
  refine XS.astore X789.here hx rfl (hb hby at_235) rfl rfl (l' := (own_T q1 q2 p3 3 ca cb cc 3 da db dc (rv b781) (rv b785) (iv (0 : Int32)) (rv b788) .unset .unset)) rfl ?_
  refine st790 _ ?_
  refine XS.dup X790.here hx rfl (hb hby at_240) rfl rfl ?_
  refine own_a X790 hx hby at_241 ?_
  refine st791 _ ?_
  refine XS.astore X791.here hx rfl (hb hby at_246) rfl rfl (l' := (own_T q1 q2 p3 3 ca cb cc 3 da db dc (rv b781) (rv b785) (iv (0 : Int32)) (rv b788) (rv b790) .unset)) rfl ?_
  refine own_a X791 hx hby at_248 ?_
  refine own_a X791 hx hby at_250 ?_
  refine st816 _ ?_
  refine own_i X816 hx hby at_255 ?_
  refine own_cn X816 hx hby at_257 (teq (rfl : (0 : Int32) = (0 : Int32))).2 ?_
  refine own_k X816 hx hby at_260 ?_
  refine own_go (pc := 261) X816 hx hby at_261 265 ?_
  refine XS.istore X816.here hx rfl (hb hby at_265) rfl (l' := (own_T q1 q2 p3 3 ca cb cc 3 da db dc (rv b781) (rv b785) (iv (0 : Int32)) (rv b788) (rv b790) (iv (1 : Int32)))) rfl ?_
  refine own_i X816 hx hby at_267 ?_
  refine own_in X816 hx hby at_269 (feq (by decide : ¬ ((1 : Int32) = (0 : Int32)))).1 ?_
  refine own_a X816 hx hby at_272 ?_
  refine own_a X816 hx hby at_274 ?_
  refine st822 _ ?_
  refine own_i X822 hx hby at_279 ?_
  refine own_cn X822 hx hby at_281 (teq (rfl : (0 : Int32) = (0 : Int32))).2 ?_
  refine own_k X822 hx hby at_284 ?_
  refine own_go (pc := 285) X822 hx hby at_285 289 ?_
  refine XS.istore X822.here hx rfl (hb hby at_289) rfl (l' := (own_T q1 q2 p3 3 ca cb cc 3 da db dc (rv b781) (rv b785) (iv (0 : Int32)) (rv b788) (rv b790) (iv (1 : Int32)))) rfl ?_
  refine own_i X822 hx hby at_291 ?_
  refine own_in X822 hx hby at_293 (feq (by decide : ¬ ((1 : Int32) = (0 : Int32)))).1 ?_
  refine own_a X822 hx hby at_296 ?_
  refine own_a X822 hx hby at_298 ?_
  refine st823 _ ?_
  refine own_in X823 hx hby at_303 (feq (by decide : ¬ ((1 : Int32) = (0 : Int32)))).1 ?_
  refine own_k X823 hx hby at_306 ?_
  refine own_go (pc := 307) X823 hx hby at_307 311 ?_
  refine XS.istore X823.here hx rfl (hb hby at_311) rfl (l' := (own_T q1 q2 p3 3 ca cb cc 3 da db dc (rv b781) (rv b785) (iv (0 : Int32)) (rv b788) (rv b790) (iv (1 : Int32)))) rfl ?_
  refine own_i X823 hx hby at_313 ?_
  refine own_in X823 hx hby at_315 (feq (by decide : ¬ ((1 : Int32) = (0 : Int32)))).1 ?_
  refine own_a X823 hx hby at_318 ?_
  refine own_a X823 hx hby at_320 ?_
  refine st824 _ ?_
  refine own_in X824 hx hby at_325 (teq (rfl : (0 : Int32) = (0 : Int32))).2 ?_
  refine own_k X824 hx hby at_328 ?_
  refine own_go (pc := 329) X824 hx hby at_329 333 ?_
  refine XS.istore X824.here hx rfl (hb hby at_333) rfl (l' := (own_T q1 q2 p3 3 ca cb cc 3 da db dc (rv b781) (rv b785) (iv (0 : Int32)) (rv b788) (rv b790) (iv (1 : Int32)))) rfl ?_
  refine own_i X824 hx hby at_335 ?_
  refine own_in X824 hx hby at_337 (feq (by decide : ¬ ((1 : Int32) = (0 : Int32)))).1 ?_
  refine own_a X824 hx hby at_340 ?_
  refine XS.aconstNull X824.here hx rfl (hb hby at_342) ?_
  refine st825 _ ?_
  refine own_in X825 hx hby at_346 (teq (rfl : (0 : Int32) = (0 : Int32))).2 ?_
  refine own_k X825 hx hby at_349 ?_
  refine own_go (pc := 350) X825 hx hby at_350 354 ?_
  refine XS.istore X825.here hx rfl (hb hby at_354) rfl (l' := (own_T q1 q2 p3 3 ca cb cc 3 da db dc (rv b781) (rv b785) (iv (0 : Int32)) (rv b788) (rv b790) (iv (1 : Int32)))) rfl ?_
  refine own_i X825 hx hby at_356 ?_
  exact retN X825 hx (t := .boolean) hret (by simp) (hb hby at_358) hr
def Qrm854 (Z : State) (ca cb cc da db dc : Int32) (b828 : Addr) (k829 : ClassId) (b832 : Addr) (k833 : ClassId) (h0 : Heap) (v : Option Value) (h : Heap) (L : List Loc) : Prop := v = some (.int (0 : Int32)) ∧ Fr Z.heap.size L ∧ h = h0
theorem rm854 (l : Launch) (Z : State) (a0 : Array Value) (hw : own_HW Z a0) (ws : List Jvm.Cond) (ca cb cc da db dc : Int32) (b828 : Addr) (k829 : ClassId) (b832 : Addr) (k833 : ClassId) (h0 : Heap) (Z0 : Ext Z.heap h0) (V_b828 : Arv Z h0 b828 k829 .byte (3 : Int32) [(.int (ca.toInt8.toInt32)), (.int (cb.toInt8.toInt32)), (.int (cc.toInt8.toInt32))] (.int (0 : Int32))) (V_b832 : Arv Z h0 b832 k833 .byte (3 : Int32) [(.int (da.toInt8.toInt32)), (.int (db.toInt8.toInt32)), (.int (dc.toInt8.toInt32))] (.int (0 : Int32))) (hc52 : (ca.toInt8.toInt32) = (da.toInt8.toInt32)) (hc69 : ¬ ((cb.toInt8.toInt32) = (db.toInt8.toInt32))) :
    own_met l y_19 jdk_43_method_13_code 3 (some .boolean) ws ({ frames := 0, cells := 0, slots := 0, locals := 0 } : Room) Z #[(.ref b828), (.ref b832)] h0 (Qrm854 Z ca cb cc da db dc b828 k829 b832 k833 h0) := by
  refine own_start (plainFor_of_name pn_5) (fun m => ef_jdk_43_method_13_RR m b828 b832) ?_
  intro p e s m below meth c s₁ hx hby hml hown hnm X0 hZ e0 hret hlk
  have N0 := Fr.nil Z.heap.size
  obtain ⟨cl855, Ar855, q855, S855, Nn855, H855, G855⟩ := id V_b828
  obtain ⟨cl856, Ar856, q856, S856, Nn856, H856, G856⟩ := id V_b832
  obtain ⟨cl857, Ar857, q857, S857, Nn857, H857, G857⟩ := id V_b828
  obtain ⟨cl858, Ar858, q858, S858, Nn858, H858, G858⟩ := id V_b828
  have hin858 : ¬ ((0 : Int32) < 0 ∨ cl858.slots.size ≤ ((0 : Int32)).toNatClampNeg) := inb_of S858 ⟨by decide, by decide⟩
  have hat858 : cl858.slots[((0 : Int32)).toNatClampNeg]? = some (.int (ca.toInt8.toInt32)) := Has.at H858 hin858 rfl
  obtain ⟨cl859, Ar859, q859, S859, Nn859, H859, G859⟩ := id V_b832
  have hin859 : ¬ ((0 : Int32) < 0 ∨ cl859.slots.size ≤ ((0 : Int32)).toNatClampNeg) := inb_of S859 ⟨by decide, by decide⟩
  have hat859 : cl859.slots[((0 : Int32)).toNatClampNeg]? = some (.int (da.toInt8.toInt32)) := Has.at H859 hin859 rfl
  obtain ⟨cl860, Ar860, q860, S860, Nn860, H860, G860⟩ := id V_b828
  obtain ⟨cl861, Ar861, q861, S861, Nn861, H861, G861⟩ := id V_b828
  have hin861 : ¬ ((1 : Int32) < 0 ∨ cl861.slots.size ≤ ((1 : Int32)).toNatClampNeg) := inb_of S861 ⟨by decide, by decide⟩
  have hat861 : cl861.slots[((1 : Int32)).toNatClampNeg]? = some (.int (cb.toInt8.toInt32)) := Has.at H861 hin861 rfl
  obtain ⟨cl862, Ar862, q862, S862, Nn862, H862, G862⟩ := id V_b832
  have hin862 : ¬ ((1 : Int32) < 0 ∨ cl862.slots.size ≤ ((1 : Int32)).toNatClampNeg) := inb_of S862 ⟨by decide, by decide⟩
  have hat862 : cl862.slots[((1 : Int32)).toNatClampNeg]? = some (.int (db.toInt8.toInt32)) := Has.at H862 hin862 rfl
  obtain ⟨fs, hr, hrun, hended, hW, hsame⟩ := X0.leave (v := some (.int (0 : Int32))) (fun h => by rw [hret] at h; cases h) hlk
  refine ⟨_, _, ?_, hrun, hended, _, _, rfl, ?_, ⟨_, rfl⟩, hW, hsame.mono (by decide) (by decide)⟩
  · show own_S p e below s₁ (mkF m 0 #[rv b828, rv b832, .unset] []) _
    refine own_aN X0 hx hby d23_0 ?_
    refine X0.arraylength hx (by rw [e0]; exact Ar855.1) (State.isArrayOf_alike hZ.alike Ar855.2.1) (g := (mkF m 1 #[rv b828, rv b832, .unset] [(.ref b828)])) rfl rfl (hb hby d23_1) _ ?_
    rw [len_of S855 Nn855]
    refine own_aN X0 hx hby d23_2 ?_
    refine X0.arraylength hx (by rw [e0]; exact Ar856.1) (State.isArrayOf_alike hZ.alike Ar856.2.1) (g := (mkF m 3 #[rv b828, rv b832, .unset] [(.ref b832), (.int (3 : Int32))])) rfl rfl (hb hby d23_3) _ ?_
    rw [len_of S856 Nn856]
    refine own_cn X0 hx hby d23_4 (teq (rfl : (3 : Int32) = (3 : Int32))).2 ?_
    refine own_k X0 hx hby d23_7 ?_
    refine XS.istoreN X0.here hx rfl (hb hby d23_8) rfl (l' := #[rv b828, rv b832, iv (0 : Int32)]) rfl ?_
    refine own_iN X0 hx hby d23_9 ?_
    refine own_aN X0 hx hby d23_10 ?_
    refine X0.arraylength hx (by rw [e0]; exact Ar857.1) (State.isArrayOf_alike hZ.alike Ar857.2.1) (g := (mkF m 11 #[rv b828, rv b832, iv (0 : Int32)] [(.ref b828), (.int (0 : Int32))])) rfl rfl (hb hby d23_11) _ ?_
    rw [len_of S857 Nn857]
    refine own_cn X0 hx hby d23_12 (tlt (by decide : (0 : Int32) < (3 : Int32))).2.1 ?_
    refine own_aN X0 hx hby d23_15 ?_
    refine own_iN X0 hx hby d23_16 ?_
    refine X0.baloadBytes hx (j := (0 : Int32)) (v := (.int (ca.toInt8.toInt32))) (by rw [e0]; exact Ar858.1) (State.isArrayOf_alike hZ.alike Ar858.2.1) Ar858.2.2 hin858 hat858 (g := (mkF m 17 #[rv b828, rv b832, iv (0 : Int32)] [(.int (0 : Int32)), (.ref b828)])) rfl rfl (hb hby d23_17) _ ?_
    refine own_aN X0 hx hby d23_18 ?_
    refine own_iN X0 hx hby d23_19 ?_
    refine X0.baloadBytes hx (j := (0 : Int32)) (v := (.int (da.toInt8.toInt32))) (by rw [e0]; exact Ar859.1) (State.isArrayOf_alike hZ.alike Ar859.2.1) Ar859.2.2 hin859 hat859 (g := (mkF m 20 #[rv b828, rv b832, iv (0 : Int32)] [(.int (0 : Int32)), (.ref b832), (.int (ca.toInt8.toInt32))])) rfl rfl (hb hby d23_20) _ ?_
    refine own_cy (pc := 21) X0 hx hby d23_21 (teq hc52).1 26 ?_
    refine XS.iinc X0.here hx rfl (hb hby d23_26) rfl (l' := #[rv b828, rv b832, iv (1 : Int32)]) rfl ?_
    refine own_go (pc := 29) X0 hx hby d23_29 9 ?_
    refine own_iN X0 hx hby d23_9 ?_
    refine own_aN X0 hx hby d23_10 ?_
    refine X0.arraylength hx (by rw [e0]; exact Ar860.1) (State.isArrayOf_alike hZ.alike Ar860.2.1) (g := (mkF m 11 #[rv b828, rv b832, iv (1 : Int32)] [(.ref b828), (.int (1 : Int32))])) rfl rfl (hb hby d23_11) _ ?_
    rw [len_of S860 Nn860]
    refine own_cn X0 hx hby d23_12 (tlt (by decide : (1 : Int32) < (3 : Int32))).2.1 ?_
    refine own_aN X0 hx hby d23_15 ?_
    refine own_iN X0 hx hby d23_16 ?_
    refine X0.baloadBytes hx (j := (1 : Int32)) (v := (.int (cb.toInt8.toInt32))) (by rw [e0]; exact Ar861.1) (State.isArrayOf_alike hZ.alike Ar861.2.1) Ar861.2.2 hin861 hat861 (g := (mkF m 17 #[rv b828, rv b832, iv (1 : Int32)] [(.int (1 : Int32)), (.ref b828)])) rfl rfl (hb hby d23_17) _ ?_
    refine own_aN X0 hx hby d23_18 ?_
    refine own_iN X0 hx hby d23_19 ?_
    refine X0.baloadBytes hx (j := (1 : Int32)) (v := (.int (db.toInt8.toInt32))) (by rw [e0]; exact Ar862.1) (State.isArrayOf_alike hZ.alike Ar862.2.1) Ar862.2.2 hin862 hat862 (g := (mkF m 20 #[rv b828, rv b832, iv (1 : Int32)] [(.int (1 : Int32)), (.ref b832), (.int (cb.toInt8.toInt32))])) rfl rfl (hb hby d23_20) _ ?_
    refine own_cn X0 hx hby d23_21 (feq hc69).1 ?_
    refine own_k X0 hx hby d23_24 ?_
    exact retN X0 hx (t := .boolean) hret (by simp) (hb hby d23_25) hr
  · show Qrm854 Z ca cb cc da db dc b828 k829 b832 k833 h0 _ s₁.heap _
    rw [e0]
    exact ⟨rfl, N0, rfl⟩
def Qrm846 (Z : State) (w_CS ca cb cc da db dc : Int32) (b827 b828 : Addr) (k829 : ClassId) (b831 b832 : Addr) (k833 : ClassId) (h0 : Heap) (v : Option Value) (h : Heap) (L : List Loc) : Prop := v = some (.int (0 : Int32)) ∧ Fr Z.heap.size L ∧ h = h0
theorem rm846 (l : Launch) (Z : State) (a0 : Array Value) (hw : own_HW Z a0) (ws : List Jvm.Cond) (w_CS ca cb cc da db dc : Int32) (b827 b828 : Addr) (k829 : ClassId) (b831 b832 : Addr) (k833 : ClassId) (h0 : Heap) (Z0 : Ext Z.heap h0) (S_w_CS : own_w_CS Z w_CS) (F_b827_coder : Fld Z h0 b827 "java/lang/String" "coder" "B" (.int (0 : Int32))) (F_b827_value : Fld Z h0 b827 "java/lang/String" "value" "[B" (.ref b828)) (E_b831 : Exa Z h0 b831 "java/lang/String") (F_b831_coder : Fld Z h0 b831 "java/lang/String" "coder" "B" (.int (0 : Int32))) (F_b831_value : Fld Z h0 b831 "java/lang/String" "value" "[B" (.ref b832)) (V_b828 : Arv Z h0 b828 k829 .byte (3 : Int32) [(.int (ca.toInt8.toInt32)), (.int (cb.toInt8.toInt32)), (.int (cc.toInt8.toInt32))] (.int (0 : Int32))) (V_b832 : Arv Z h0 b832 k833 .byte (3 : Int32) [(.int (da.toInt8.toInt32)), (.int (db.toInt8.toInt32)), (.int (dc.toInt8.toInt32))] (.int (0 : Int32))) (hc80 : b827 ≠ b831) (hc1 : ¬ (w_CS = (0 : Int32))) (hc52 : (ca.toInt8.toInt32) = (da.toInt8.toInt32)) (hc69 : ¬ ((cb.toInt8.toInt32) = (db.toInt8.toInt32))) :
    own_met l y_20 jdk_42_method_66_code 3 (some .boolean) ws ({ frames := 1, cells := 0, slots := 0, locals := 14 } : Room) Z #[(.ref b827), (.ref b831)] h0 (Qrm846 Z w_CS ca cb cc da db dc b827 b828 k829 b831 b832 k833 h0) := by
  refine own_start (plainFor_of_name pn_2) (fun m => ef_jdk_42_method_66_RR m b827 b831) ?_
  intro p e s m below meth c s₁ hx hby hml hown hnm X0 hZ e0 hret hlk
  have N0 := Fr.nil Z.heap.size
  obtain ⟨T847, X847, e847, st847⟩ := instY X0 hx hZ hown (own_w hw 109 rfl) e0 (Ins.self E_b831) (g := (mkF m 8 #[rv b827, rv b831, .unset] [(.ref b831)])) rfl rfl (hb hby d22_8)
  obtain ⟨T848, X848, e848, st848⟩ := castY X847 hx hZ hown (own_w hw 109 rfl) e847 (Ins.self E_b831) (g := (mkF m 15 #[rv b827, rv b831, .unset] [(.ref b831)])) rfl rfl (hb hby d22_15)
  obtain ⟨T849, X849, e849, st849⟩ := getS2 X848 hx hZ hown (host := "") (Or.inl (own_w hw 27 rfl)) Via.refl e848 (S_w_CS.ext Z0) (g := (mkF m 19 #[rv b827, rv b831, rv b831] [])) rfl (hb hby d22_19)
  obtain ⟨T850, X850, e850, st850⟩ := getF X849 hx hZ hown (host := "") (Or.inl (own_w hw 39 rfl)) Via.refl e849 F_b827_coder (g := (mkF m 26 #[rv b827, rv b831, rv b831] [(.ref b827)])) rfl rfl (hb hby d22_26)
  obtain ⟨T851, X851, e851, st851⟩ := getF X850 hx hZ hown (host := "") (Or.inl (own_w hw 39 rfl)) Via.refl e850 F_b831_coder (g := (mkF m 30 #[rv b827, rv b831, rv b831] [(.ref b831), (.int (0 : Int32))])) rfl rfl (hb hby d22_30)
  obtain ⟨T852, X852, e852, st852⟩ := getF X851 hx hZ hown (host := "") (Or.inl (own_w hw 41 rfl)) Via.refl e851 F_b827_value (g := (mkF m 37 #[rv b827, rv b831, rv b831] [(.ref b827)])) rfl rfl (hb hby d22_37)
  obtain ⟨T853, X853, e853, st853⟩ := getF X852 hx hZ hown (host := "") (Or.inl (own_w hw 41 rfl)) Via.refl e852 F_b831_value (g := (mkF m 41 #[rv b827, rv b831, rv b831] [(.ref b831), (.ref b828)])) rfl rfl (hb hby d22_41)
  obtain ⟨_, T863, Lc863, X863, hQ863, st863⟩ := own_static (y := y_19) X853 hx hZ hown (own_w hw 110 rfl) (own_w hw 111 rfl) (own_w hw 75 rfl) (own_w hw 112 rfl) (rm854 l Z a0 hw [] ca cb cc da db dc b828 k829 b832 k833 h0 Z0 V_b828 V_b832 hc52 hc69) e853 (g := (mkF m 44 #[rv b827, rv b831, rv b831] [(.ref b832), (.ref b828)])) (argsL := [(.ref b828), (.ref b832)]) (rest := []) (W := 0) (lenOf pd_16 rfl) (hb hby d22_44) hml
  obtain ⟨rfl, N863q, e863⟩ := hQ863
  have N863 := Fr.app N0 N863q
  obtain ⟨fs, hr, hrun, hended, hW, hsame⟩ := X863.leave (v := some (.int (0 : Int32))) (fun h => by rw [hret] at h; cases h) hlk
  refine ⟨_, _, ?_, hrun, hended, _, _, rfl, ?_, ⟨_, rfl⟩, hW, hsame.mono (by decide) (by decide)⟩
  · show own_S p e below s₁ (mkF m 0 #[rv b827, rv b831, .unset] []) _
    refine own_aN X0 hx hby d22_0 ?_
    refine own_aN X0 hx hby d22_1 ?_
    refine Jvm.RoadKit.acmp (g := (mkF m 2 #[rv b827, rv b831, .unset] [(.ref b831), (.ref b827)])) X0 hx rfl rfl rfl (pc0 := 2) (pc' := 7) (same := false) rfl (hb hby d22_2) rfl (decide_eq_false fun q => hc80 (Value.ref.inj q)) (by decide) (by decide) ?_
    refine own_aN X0 hx hby d22_7 ?_
    refine st847 _ ?_
    refine own_in X847 hx hby d22_11 (feq (by decide : ¬ ((1 : Int32) = (0 : Int32)))).1 ?_
    refine own_aN X847 hx hby d22_14 ?_
    refine st848 _ ?_
    refine XS.astoreN X848.here hx rfl (hb hby d22_18) rfl rfl (l' := #[rv b827, rv b831, rv b831]) rfl ?_
    refine st849 _ ?_
    refine own_in X849 hx hby d22_22 (feq hc1).1 ?_
    refine own_aN X849 hx hby d22_25 ?_
    refine st850 _ ?_
    refine own_aN X850 hx hby d22_29 ?_
    refine st851 _ ?_
    refine own_cn X851 hx hby d22_33 (teq (rfl : (0 : Int32) = (0 : Int32))).2 ?_
    refine own_aN X851 hx hby d22_36 ?_
    refine st852 _ ?_
    refine own_aN X852 hx hby d22_40 ?_
    refine st853 _ ?_
    refine st863 _ ?_
    refine own_iy (pc := 47) X863 hx hby d22_47 (teq (rfl : (0 : Int32) = (0 : Int32))).1 54 ?_
    refine own_k X863 hx hby d22_54 ?_
    exact retN X863 hx (t := .boolean) hret (by simp) (hb hby d22_55) hr
  · show Qrm846 Z w_CS ca cb cc da db dc b827 b828 k829 b831 b832 k833 h0 _ T863.heap _
    rw [e863]
    exact ⟨rfl, N863, rfl⟩
def Qrm841 (Z : State) (w_CS ca cb cc da db dc : Int32) (b827 b828 : Addr) (k829 : ClassId) (b831 b832 : Addr) (k833 : ClassId) (b834 b836 : Addr) (h0 : Heap) (v : Option Value) (h : Heap) (L : List Loc) : Prop := v = some (.int (0 : Int32)) ∧ Fr Z.heap.size L ∧ h = h0
theorem rm841 (l : Launch) (Z : State) (a0 : Array Value) (hw : own_HW Z a0) (ws : List Jvm.Cond) (w_CS ca cb cc da db dc : Int32) (b827 b828 : Addr) (k829 : ClassId) (b831 b832 : Addr) (k833 : ClassId) (b834 b836 : Addr) (h0 : Heap) (Z0 : Ext Z.heap h0) (S_w_CS : own_w_CS Z w_CS) (F_b834_written : Fld Z h0 b834 "com/example/faretally/faretally/RefundRequest$Involuntary$Reason" "written" "Ljava/lang/String;" (.ref b827)) (E_b836 : Exa Z h0 b836 "com/example/faretally/faretally/RefundRequest$Involuntary$Reason") (F_b836_written : Fld Z h0 b836 "com/example/faretally/faretally/RefundRequest$Involuntary$Reason" "written" "Ljava/lang/String;" (.ref b831)) (E_b827 : Exa Z h0 b827 "java/lang/String") (F_b827_coder : Fld Z h0 b827 "java/lang/String" "coder" "B" (.int (0 : Int32))) (F_b827_value : Fld Z h0 b827 "java/lang/String" "value" "[B" (.ref b828)) (E_b831 : Exa Z h0 b831 "java/lang/String") (F_b831_coder : Fld Z h0 b831 "java/lang/String" "coder" "B" (.int (0 : Int32))) (F_b831_value : Fld Z h0 b831 "java/lang/String" "value" "[B" (.ref b832)) (V_b828 : Arv Z h0 b828 k829 .byte (3 : Int32) [(.int (ca.toInt8.toInt32)), (.int (cb.toInt8.toInt32)), (.int (cc.toInt8.toInt32))] (.int (0 : Int32))) (V_b832 : Arv Z h0 b832 k833 .byte (3 : Int32) [(.int (da.toInt8.toInt32)), (.int (db.toInt8.toInt32)), (.int (dc.toInt8.toInt32))] (.int (0 : Int32))) (hc80 : b827 ≠ b831) (hc1 : ¬ (w_CS = (0 : Int32))) (hc52 : (ca.toInt8.toInt32) = (da.toInt8.toInt32)) (hc69 : ¬ ((cb.toInt8.toInt32) = (db.toInt8.toInt32))) :
    own_met l y_21 prog_97_method_3_code 3 (some .boolean) ws ({ frames := 2, cells := 0, slots := 0, locals := 28 } : Room) Z #[(.ref b834), (.ref b836)] h0 (Qrm841 Z w_CS ca cb cc da db dc b827 b828 k829 b831 b832 k833 b834 b836 h0) := by
  refine own_start (plainFor_of_name pn_6) (fun m => ef_prog_97_method_3_RR m b834 b836) ?_
  intro p e s m below meth c s₁ hx hby hml hown hnm X0 hZ e0 hret hlk
  have N0 := Fr.nil Z.heap.size
  obtain ⟨T842, X842, e842, st842⟩ := instY X0 hx hZ hown (own_w hw 102 rfl) e0 (Ins.self E_b836) (g := (mkF m 1 #[rv b834, rv b836, .unset] [(.ref b836)])) rfl rfl (hb hby d21_1)
  obtain ⟨T843, X843, e843, st843⟩ := castY X842 hx hZ hown (own_w hw 102 rfl) e842 (Ins.self E_b836) (g := (mkF m 8 #[rv b834, rv b836, .unset] [(.ref b836)])) rfl rfl (hb hby d21_8)
  obtain ⟨T844, X844, e844, st844⟩ := getF X843 hx hZ hown (host := "") (Or.inl (own_w hw 95 rfl)) Via.refl e843 F_b834_written (g := (mkF m 13 #[rv b834, rv b836, rv b836] [(.ref b834)])) rfl rfl (hb hby d21_13)
  obtain ⟨T845, X845, e845, st845⟩ := getF X844 hx hZ hown (host := "") (Or.inl (own_w hw 95 rfl)) Via.refl e844 F_b836_written (g := (mkF m 17 #[rv b834, rv b836, rv b836] [(.ref b836), (.ref b827)])) rfl rfl (hb hby d21_17)
  obtain ⟨_, T864, Lc864, X864, hQ864, st864⟩ := own_virtual (y := y_20) X845 hx hZ hown (own_w hw 104 rfl) (own_w hw 105 rfl) (own_w hw 107 rfl) (own_w hw 106 rfl) (own_w hw 15 rfl) (own_w hw 108 rfl) (rm846 l Z a0 hw [] w_CS ca cb cc da db dc b827 b828 k829 b831 b832 k833 h0 Z0 S_w_CS F_b827_coder F_b827_value E_b831 F_b831_coder F_b831_value V_b828 V_b832 hc80 hc1 hc52 hc69) e845 E_b827 (g := (mkF m 20 #[rv b834, rv b836, rv b836] [(.ref b831), (.ref b827)])) (argsL := [(.ref b831)]) (rest := []) (W := 0) (lenOf pd_17 rfl) (hb hby d21_20) hml
  obtain ⟨rfl, N864q, e864⟩ := hQ864
  have N864 := Fr.app N0 N864q
  obtain ⟨fs, hr, hrun, hended, hW, hsame⟩ := X864.leave (v := some (.int (0 : Int32))) (fun h => by rw [hret] at h; cases h) hlk
  refine ⟨_, _, ?_, hrun, hended, _, _, rfl, ?_, ⟨_, rfl⟩, hW, hsame.mono (by decide) (by decide)⟩
  · show own_S p e below s₁ (mkF m 0 #[rv b834, rv b836, .unset] []) _
    refine own_aN X0 hx hby d21_0 ?_
    refine st842 _ ?_
    refine own_in X842 hx hby d21_4 (feq (by decide : ¬ ((1 : Int32) = (0 : Int32)))).1 ?_
    refine own_aN X842 hx hby d21_7 ?_
    refine st843 _ ?_
    refine XS.astoreN X843.here hx rfl (hb hby d21_11) rfl rfl (l' := #[rv b834, rv b836, rv b836]) rfl ?_
    refine own_aN X843 hx hby d21_12 ?_
    refine st844 _ ?_
    refine own_aN X844 hx hby d21_16 ?_
    refine st845 _ ?_
    refine st864 _ ?_
    refine own_iy (pc := 23) X864 hx hby d21_23 (teq (rfl : (0 : Int32) = (0 : Int32))).1 30 ?_
    refine own_k X864 hx hby d21_30 ?_
    exact retN X864 hx (t := .boolean) hret (by simp) (hb hby d21_31) hr
  · show Qrm841 Z w_CS ca cb cc da db dc b827 b828 k829 b831 b832 k833 b834 b836 h0 _ T864.heap _
    rw [e864]
    exact ⟨rfl, N864, rfl⟩
theorem own_t33_1 {p : Program} {l : Launch} {e : Env} {s : State} {m : MethodId} {args : Array Value} {below : List Frame} {meth : Method} {c : Code} {T0 : State} {locs : List Loc} (Z : State) (a0 : Array Value) (hw : own_HW Z a0) (w_CS : Int32) (w_SF : Value) (q1 q2 : Int64) (p3 ca cb cc da db dc : Int32) (h0 : Heap) (Z0 : Ext Z.heap h0) (S_w_CS : own_w_CS Z w_CS) (S_w_SF : own_w_SF Z w_SF) (R_w_SF : w_SF.isRef = true) (hc42 : own_ch ca) (hc64 : own_ch cb) (hc77 : own_ch cc) (hc1 : ¬ (w_CS = (0 : Int32))) (hc43 : own_ch da) (hc54 : own_ch db) (hc59 : own_ch dc) (hc50 : ca = da) (hc67 : ¬ (cb = db)) (hc45 : own_low ca) (hc65 : own_aln cb) (hc78 : own_aln cc) (hc46 : own_low da) (hc56 : own_aln db) (hc61 : own_aln dc) (hc52 : (ca.toInt8.toInt32) = (da.toInt8.toInt32)) (hc69 : ¬ ((cb.toInt8.toInt32) = (db.toInt8.toInt32))) (hc53 : (da.toInt8.toInt32) = (ca.toInt8.toInt32)) (hc70 : ¬ ((db.toInt8.toInt32) = (cb.toInt8.toInt32))) (X0 : Stand p l e room_1 s m args below meth c T0 locs 0 0) (hx : p.tables.exec = Jvm.exec) (hZ : Z.Warmed39 s.vm) (hby : c.code = code) (hml : c.maxLocals = 19) (hown : s.vm.findClass "com/example/faretally/faretally/ReasonEqualsPinLaw" = some m.cls) (e0 : T0.heap = h0) (N0 : Fr Z.heap.size locs) (hret : meth.sig.returnType = some .boolean) (hlk : meth.locks = false) :
    ∃ s₂ o, Steps p.tables e below (T0.setTop (mkF m 153 (own_T q1 q2 p3 3 ca cb cc 3 da db dc .unset .unset .unset .unset .unset .unset) [])) s₂ ∧ s₂.status = .running ∧ Ended s₂ below o ∧ ∃ v L, o = .returned v ∧ (v = some (.int (1 : Int32)) ∧ Fr Z.heap.size L) ∧ FrameEnd s o s₂ L room_1.cells room_1.slots := by
  obtain ⟨_, T826, Lc826, X826, hQ826, st826⟩ := own_static (y := y_7) X0 hx hZ hown (own_w hw 10 rfl) (own_w hw 11 rfl) (own_w hw 4 rfl) (own_w hw 12 rfl) (rm340 l Z a0 hw [] w_CS ca cb cc h0 Z0 S_w_CS hc42 hc64 hc77 hc1) e0 (g := (mkF m 161 (own_T q1 q2 p3 3 ca cb cc 3 da db dc .unset .unset .unset .unset .unset .unset) [(.int cc), (.int cb), (.int ca), (.int (3 : Int32))])) (argsL := [(.int (3 : Int32)), (.int ca), (.int cb), (.int cc)]) (rest := []) (W := 0) (lenOf pd_6 rfl) (hb hby at_161) hml
  obtain ⟨b827, b828, k829, rfl, N826q, K826q, szn_b827, szn_b828, q826_E_b827, q826_F_b827_coder, q826_F_b827_value, q826_V_b828⟩ := hQ826
  have g_b827 : Z.heap.size ≤ b827 := Nat.le_trans Z0.1 szn_b827
  have sz_b827 : h0.size ≤ b827 := Nat.le_trans (Keep.refl h0 []).1 szn_b827
  have g_b828 : Z.heap.size ≤ b828 := Nat.le_trans Z0.1 szn_b828
  have sz_b828 : h0.size ≤ b828 := Nat.le_trans (Keep.refl h0 []).1 szn_b828
  have K826 : Keep h0 T826.heap [] := (Keep.refl h0 []).trans K826q all0
  have XX826 : Ext Z.heap T826.heap := own_extK Z0 K826q all0
  have N826 := Fr.app N0 N826q
  obtain ⟨_, T830, Lc830, X830, hQ830, st830⟩ := own_static (y := y_7) X826 hx hZ hown (own_w hw 10 rfl) (own_w hw 11 rfl) (own_w hw 4 rfl) (own_w hw 12 rfl) (rm340 l Z a0 hw [] w_CS da db dc T826.heap XX826 S_w_CS hc43 hc54 hc59 hc1) rfl (g := (mkF m 174 (own_T q1 q2 p3 3 ca cb cc 3 da db dc (rv b827) .unset .unset .unset .unset .unset) [(.int dc), (.int db), (.int da), (.int (3 : Int32))])) (argsL := [(.int (3 : Int32)), (.int da), (.int db), (.int dc)]) (rest := []) (W := 0) (lenOf pd_6 rfl) (hb hby at_174) hml
  obtain ⟨b831, b832, k833, rfl, N830q, K830q, szn_b831, szn_b832, q830_E_b831, q830_F_b831_coder, q830_F_b831_value, q830_V_b832⟩ := hQ830
  have g_b831 : Z.heap.size ≤ b831 := Nat.le_trans XX826.1 szn_b831
  have sz_b831 : h0.size ≤ b831 := Nat.le_trans K826.1 szn_b831
  have g_b832 : Z.heap.size ≤ b832 := Nat.le_trans XX826.1 szn_b832
  have sz_b832 : h0.size ≤ b832 := Nat.le_trans K826.1 szn_b832
  have K830 : Keep h0 T830.heap [] := K826.trans K830q all0
  have XX830 : Ext Z.heap T830.heap := own_extK XX826 K830q all0
  have N830 := Fr.app N826 N830q
  obtain ⟨T834, h834, X834, e834, E834, A834, D834, -, st834⟩ := newO X830 hx hZ hown (own_w hw 43 rfl) (own_w hw 44 rfl) (own_w hw 45 rfl) rfl (g := (mkF m 226 (own_T q1 q2 p3 3 ca cb cc 3 da db dc (rv b827) (rv b831) (iv (0 : Int32)) .unset .unset .unset) [])) rfl (hb hby at_226) (by decide) (by decide)
  obtain ⟨b834, g834⟩ : ∃ z, z = T830.heap.size := ⟨_, rfl⟩
  rw [← g834] at A834 D834 st834
  have g_b834 : Z.heap.size ≤ b834 := Nat.le_trans XX830.1 (Nat.le_of_eq g834.symm)
  have sz_b834 : h0.size ≤ b834 := Nat.le_trans K830.1 (Nat.le_of_eq g834.symm)
  have F_b834_written : Fld Z h834 b834 "com/example/faretally/faretally/RefundRequest$Involuntary$Reason" "written" "Ljava/lang/String;" .null := D834 (Or.inr (own_w hw 96 rfl)) (ty := (.object "java/lang/String")) (by decide)
  have K834 : Keep h0 h834 [] := K830.ext E834
  have XX834 : Ext Z.heap h834 := own_ext2 XX830 E834
  obtain ⟨_, T835, Lc835, X835, hQ835, st835⟩ := own_special (y := y_18) X834 hx hZ hown rfl (own_w hw 46 rfl) (own_w hw 47 rfl) (own_w hw 45 rfl) (own_w hw 48 rfl) (rm393 l Z a0 hw [] w_CS w_SF ca cb cc b827 b828 k829 b834 h834 XX834 S_w_CS S_w_SF R_w_SF A834 F_b834_written ((q826_E_b827.keep K830q).ext E834) ((q826_F_b827_coder.keep K830q nin0).ext E834) ((q826_F_b827_value.keep K830q nin0).ext E834) ((q826_V_b828.keep K830q nin0).ext E834) g_b834 hc1 hc42 hc45 hc64 hc65 hc77 hc78) e834 b834 (g := (mkF m 232 (own_T q1 q2 p3 3 ca cb cc 3 da db dc (rv b827) (rv b831) (iv (0 : Int32)) .unset .unset .unset) [(.ref b827), (.ref b834), (.ref b834)])) (argsL := [(.ref b827)]) (rest := [(.ref b834)]) (W := 1) (lenOf pd_15 rfl) (hb hby at_232) hml
  obtain ⟨rfl, N835q, K835q, q835_E_b834, q835_F_b834_written⟩ := hQ835
  have K835 : Keep h0 T835.heap [] := K834.trans K835q (allS (Or.inr sz_b834) all0)
  have XX835 : Ext Z.heap T835.heap := own_extK XX834 K835q (allS g_b834 all0)
  have N835 := Fr.app N830 N835q
  obtain ⟨T836, h836, X836, e836, E836, A836, D836, -, st836⟩ := newO X835 hx hZ hown (own_w hw 43 rfl) (own_w hw 44 rfl) (own_w hw 45 rfl) rfl (g := (mkF m 237 (own_T q1 q2 p3 3 ca cb cc 3 da db dc (rv b827) (rv b831) (iv (0 : Int32)) (rv b834) .unset .unset) [])) rfl (hb hby at_237) (by decide) (by decide)
  obtain ⟨b836, g836⟩ : ∃ z, z = T835.heap.size := ⟨_, rfl⟩
  rw [← g836] at A836 D836 st836
  have g_b836 : Z.heap.size ≤ b836 := Nat.le_trans XX835.1 (Nat.le_of_eq g836.symm)
  have sz_b836 : h0.size ≤ b836 := Nat.le_trans K835.1 (Nat.le_of_eq g836.symm)
  have F_b836_written : Fld Z h836 b836 "com/example/faretally/faretally/RefundRequest$Involuntary$Reason" "written" "Ljava/lang/String;" .null := D836 (Or.inr (own_w hw 96 rfl)) (ty := (.object "java/lang/String")) (by decide)
  have K836 : Keep h0 h836 [] := K835.ext E836
  have XX836 : Ext Z.heap h836 := own_ext2 XX835 E836
  have ne_b831_b834 : b831 ≠ b834 := Nat.ne_of_lt (Nat.lt_of_lt_of_le q830_E_b831.lt (Nat.le_of_eq g834.symm))
  have f838_F_b831_coder : Fld Z h836 b831 "java/lang/String" "coder" "B" (.int (0 : Int32)) := (((q830_F_b831_coder.ext E834).keep K835q (ninS ne_b831_b834 (nin0))).ext E836)
  have f839_F_b831_value : Fld Z h836 b831 "java/lang/String" "value" "[B" (.ref b832) := (((q830_F_b831_value.ext E834).keep K835q (ninS ne_b831_b834 (nin0))).ext E836)
  have ne_b832_b834 : b832 ≠ b834 := Nat.ne_of_lt (Nat.lt_of_lt_of_le q830_V_b832.lt (Nat.le_of_eq g834.symm))
  have f840_V_b832 : Arv Z h836 b832 k833 .byte (3 : Int32) [(.int (da.toInt8.toInt32)), (.int (db.toInt8.toInt32)), (.int (dc.toInt8.toInt32))] (.int (0 : Int32)) := (((q830_V_b832.ext E834).keep K835q (ninS ne_b832_b834 (nin0))).ext E836)
  obtain ⟨_, T837, Lc837, X837, hQ837, st837⟩ := own_special (y := y_18) X836 hx hZ hown rfl (own_w hw 46 rfl) (own_w hw 47 rfl) (own_w hw 45 rfl) (own_w hw 48 rfl) (rm393 l Z a0 hw [] w_CS w_SF da db dc b831 b832 k833 b836 h836 XX836 S_w_CS S_w_SF R_w_SF A836 F_b836_written (((q830_E_b831.ext E834).keep K835q).ext E836) f838_F_b831_coder f839_F_b831_value f840_V_b832 g_b836 hc1 hc43 hc46 hc54 hc56 hc59 hc61) e836 b836 (g := (mkF m 243 (own_T q1 q2 p3 3 ca cb cc 3 da db dc (rv b827) (rv b831) (iv (0 : Int32)) (rv b834) .unset .unset) [(.ref b831), (.ref b836), (.ref b836)])) (argsL := [(.ref b831)]) (rest := [(.ref b836)]) (W := 1) (lenOf pd_15 rfl) (hb hby at_243) hml
  obtain ⟨rfl, N837q, K837q, q837_E_b836, q837_F_b836_written⟩ := hQ837
  have K837 : Keep h0 T837.heap [] := K836.trans K837q (allS (Or.inr sz_b836) all0)
  have XX837 : Ext Z.heap T837.heap := own_extK XX836 K837q (allS g_b836 all0)
  have N837 := Fr.app N835 N837q
  have ne_b834_b836 : b834 ≠ b836 := Nat.ne_of_lt (Nat.lt_of_lt_of_le q835_E_b834.lt (Nat.le_of_eq g836.symm))
  have f866_F_b834_written : Fld Z T837.heap b834 "com/example/faretally/faretally/RefundRequest$Involuntary$Reason" "written" "Ljava/lang/String;" (.ref b827) := ((q835_F_b834_written.ext E836).keep K837q (ninS ne_b834_b836 (nin0)))
  have f867_E_b827 : Exa Z T837.heap b827 "java/lang/String" := (((((q826_E_b827.keep K830q).ext E834).keep K835q).ext E836).keep K837q)
  have ne_b827_b834 : b827 ≠ b834 := Nat.ne_of_lt (Nat.lt_of_lt_of_le (q826_E_b827.keep K830q).lt (Nat.le_of_eq g834.symm))
  have ne_b827_b836 : b827 ≠ b836 := Nat.ne_of_lt (Nat.lt_of_lt_of_le (((q826_E_b827.keep K830q).ext E834).keep K835q).lt (Nat.le_of_eq g836.symm))
  have f868_F_b827_coder : Fld Z T837.heap b827 "java/lang/String" "coder" "B" (.int (0 : Int32)) := (((((q826_F_b827_coder.keep K830q nin0).ext E834).keep K835q (ninS ne_b827_b834 (nin0))).ext E836).keep K837q (ninS ne_b827_b836 (nin0)))
  have f869_F_b827_value : Fld Z T837.heap b827 "java/lang/String" "value" "[B" (.ref b828) := (((((q826_F_b827_value.keep K830q nin0).ext E834).keep K835q (ninS ne_b827_b834 (nin0))).ext E836).keep K837q (ninS ne_b827_b836 (nin0)))
  have ne_b831_b836 : b831 ≠ b836 := Nat.ne_of_lt (Nat.lt_of_lt_of_le ((q830_E_b831.ext E834).keep K835q).lt (Nat.le_of_eq g836.symm))
  have ne_b828_b834 : b828 ≠ b834 := Nat.ne_of_lt (Nat.lt_of_lt_of_le (q826_V_b828.keep K830q nin0).lt (Nat.le_of_eq g834.symm))
  have ne_b828_b836 : b828 ≠ b836 := Nat.ne_of_lt (Nat.lt_of_lt_of_le (((q826_V_b828.keep K830q nin0).ext E834).keep K835q (ninS ne_b828_b834 (nin0))).lt (Nat.le_of_eq g836.symm))
  have f870_V_b828 : Arv Z T837.heap b828 k829 .byte (3 : Int32) [(.int (ca.toInt8.toInt32)), (.int (cb.toInt8.toInt32)), (.int (cc.toInt8.toInt32))] (.int (0 : Int32)) := (((((q826_V_b828.keep K830q nin0).ext E834).keep K835q (ninS ne_b828_b834 (nin0))).ext E836).keep K837q (ninS ne_b828_b836 (nin0)))
  have ne_b832_b836 : b832 ≠ b836 := Nat.ne_of_lt (Nat.lt_of_lt_of_le ((q830_V_b832.ext E834).keep K835q (ninS ne_b832_b834 (nin0))).lt (Nat.le_of_eq g836.symm))
  have ne_b827_b831 : b827 ≠ b831 := Nat.ne_of_lt (Nat.lt_of_lt_of_le q826_E_b827.lt szn_b831)
  obtain ⟨_, T865, Lc865, X865, hQ865, st865⟩ := own_virtual (y := y_21) X837 hx hZ hown (own_w hw 97 rfl) (own_w hw 98 rfl) (own_w hw 100 rfl) (own_w hw 99 rfl) (own_w hw 45 rfl) (own_w hw 101 rfl) (rm841 l Z a0 hw [] w_CS ca cb cc da db dc b827 b828 k829 b831 b832 k833 b834 b836 T837.heap XX837 S_w_CS f866_F_b834_written q837_E_b836 q837_F_b836_written f867_E_b827 f868_F_b827_coder f869_F_b827_value ((((q830_E_b831.ext E834).keep K835q).ext E836).keep K837q) (f838_F_b831_coder.keep K837q (ninS ne_b831_b836 (nin0))) (f839_F_b831_value.keep K837q (ninS ne_b831_b836 (nin0))) f870_V_b828 (f840_V_b832.keep K837q (ninS ne_b832_b836 (nin0))) ne_b827_b831 hc1 hc52 hc69) rfl ((q835_E_b834.ext E836).keep K837q) (g := (mkF m 252 (own_T q1 q2 p3 3 ca cb cc 3 da db dc (rv b827) (rv b831) (iv (0 : Int32)) (rv b834) (rv b836) .unset) [(.ref b836), (.ref b834)])) (argsL := [(.ref b836)]) (rest := []) (W := 0) (lenOf pd_17 rfl) (hb hby at_252) hml
  obtain ⟨rfl, N865q, e865⟩ := hQ865
  have N865 := Fr.app N837 N865q
  obtain ⟨_, T871, Lc871, X871, hQ871, st871⟩ := own_virtual (y := y_21) X865 hx hZ hown (own_w hw 97 rfl) (own_w hw 98 rfl) (own_w hw 100 rfl) (own_w hw 99 rfl) (own_w hw 45 rfl) (own_w hw 101 rfl) (rm841 l Z a0 hw [] w_CS da db dc ca cb cc b831 b832 k833 b827 b828 k829 b836 b834 T837.heap XX837 S_w_CS q837_F_b836_written ((q835_E_b834.ext E836).keep K837q) f866_F_b834_written ((((q830_E_b831.ext E834).keep K835q).ext E836).keep K837q) (f838_F_b831_coder.keep K837q (ninS ne_b831_b836 (nin0))) (f839_F_b831_value.keep K837q (ninS ne_b831_b836 (nin0))) f867_E_b827 f868_F_b827_coder f869_F_b827_value (f840_V_b832.keep K837q (ninS ne_b832_b836 (nin0))) f870_V_b828 (Ne.symm ne_b827_b831) hc1 hc53 hc70) e865 q837_E_b836 (g := (mkF m 276 (own_T q1 q2 p3 3 ca cb cc 3 da db dc (rv b827) (rv b831) (iv (0 : Int32)) (rv b834) (rv b836) (iv (1 : Int32))) [(.ref b834), (.ref b836)])) (argsL := [(.ref b834)]) (rest := []) (W := 0) (lenOf pd_17 rfl) (hb hby at_276) hml
  obtain ⟨rfl, N871q, e871⟩ := hQ871
  have N871 := Fr.app N865 N871q
  obtain ⟨_, T872, Lc872, X872, hQ872, st872⟩ := own_virtual (y := y_21) X871 hx hZ hown (own_w hw 97 rfl) (own_w hw 98 rfl) (own_w hw 100 rfl) (own_w hw 99 rfl) (own_w hw 45 rfl) (own_w hw 101 rfl) (rm132 l Z a0 hw [] b827 b834 T837.heap XX837 ((q835_E_b834.ext E836).keep K837q) f866_F_b834_written f867_E_b827) e871 ((q835_E_b834.ext E836).keep K837q) (g := (mkF m 300 (own_T q1 q2 p3 3 ca cb cc 3 da db dc (rv b827) (rv b831) (iv (0 : Int32)) (rv b834) (rv b836) (iv (1 : Int32))) [(.ref b834), (.ref b834)])) (argsL := [(.ref b834)]) (rest := []) (W := 0) (lenOf pd_17 rfl) (hb hby at_300) hml
  obtain ⟨rfl, N872q, e872⟩ := hQ872
  have N872 := Fr.app N871 N872q
  obtain ⟨_, T873, Lc873, X873, hQ873, st873⟩ := own_virtual (y := y_21) X872 hx hZ hown (own_w hw 97 rfl) (own_w hw 98 rfl) (own_w hw 100 rfl) (own_w hw 99 rfl) (own_w hw 45 rfl) (own_w hw 101 rfl) (rm140 l Z a0 hw [] b827 b834 T837.heap XX837 f867_E_b827) e872 ((q835_E_b834.ext E836).keep K837q) (g := (mkF m 322 (own_T q1 q2 p3 3 ca cb cc 3 da db dc (rv b827) (rv b831) (iv (0 : Int32)) (rv b834) (rv b836) (iv (1 : Int32))) [(.ref b827), (.ref b834)])) (argsL := [(.ref b827)]) (rest := []) (W := 0) (lenOf pd_17 rfl) (hb hby at_322) hml
  obtain ⟨rfl, N873q, e873⟩ := hQ873
  have N873 := Fr.app N872 N873q
  obtain ⟨_, T874, Lc874, X874, hQ874, st874⟩ := own_virtual (y := y_21) X873 hx hZ hown (own_w hw 97 rfl) (own_w hw 98 rfl) (own_w hw 100 rfl) (own_w hw 99 rfl) (own_w hw 45 rfl) (own_w hw 101 rfl) (rm143 l Z a0 hw [] b834 T837.heap XX837 ) e873 ((q835_E_b834.ext E836).keep K837q) (g := (mkF m 343 (own_T q1 q2 p3 3 ca cb cc 3 da db dc (rv b827) (rv b831) (iv (0 : Int32)) (rv b834) (rv b836) (iv (1 : Int32))) [.null, (.ref b834)])) (argsL := [.null]) (rest := []) (W := 0) (lenOf pd_17 rfl) (hb hby at_343) hml
  obtain ⟨rfl, N874q, e874⟩ := hQ874
  have N874 := Fr.app N873 N874q
  obtain ⟨fs, hr, hrun, hended, hW, hsame⟩ := X874.leave (v := some (.int (1 : Int32))) (fun h => by rw [hret] at h; cases h) hlk
  refine ⟨_, _, ?_, hrun, hended, _, _, rfl, ⟨rfl, N874⟩, ⟨_, rfl⟩, hW, hsame.mono (by decide) (by decide)⟩
  show own_S p e below T0 (mkF m 153 (own_T q1 q2 p3 3 ca cb cc 3 da db dc .unset .unset .unset .unset .unset .unset) []) _
  refine own_i X0 hx hby at_153 ?_
  refine own_i X0 hx hby at_155 ?_
  refine own_i X0 hx hby at_157 ?_
  refine own_i X0 hx hby at_159 ?_
  refine st826 _ ?_
  refine XS.astore X826.here hx rfl (hb hby at_164) rfl rfl (l' := (own_T q1 q2 p3 3 ca cb cc 3 da db dc (rv b827) .unset .unset .unset .unset .unset)) rfl ?_
  refine own_i X826 hx hby at_166 ?_
  refine own_i X826 hx hby at_168 ?_
  refine own_i X826 hx hby at_170 ?_
  refine own_i X826 hx hby at_172 ?_
  refine st830 _ ?_
  refine XS.astore X830.here hx rfl (hb hby at_177) rfl rfl (l' := (own_T q1 q2 p3 3 ca cb cc 3 da db dc (rv b827) (rv b831) .unset .unset .unset .unset)) rfl ?_
  refine own_i X830 hx hby at_179 ?_
  refine own_i X830 hx hby at_181 ?_
  refine own_cn X830 hx hby at_183 (teq (rfl : (3 : Int32) = (3 : Int32))).2 ?_
  refine own_i X830 hx hby at_186 ?_
  refine own_i X830 hx hby at_188 ?_
  refine own_cn X830 hx hby at_190 (teq hc50).2 ?_
  refine own_i X830 hx hby at_193 ?_
  refine own_k X830 hx hby at_195 ?_
  refine own_cn X830 hx hby at_196 (flt (by decide : ¬ ((3 : Int32) < (2 : Int32)))).1 ?_
  refine own_i X830 hx hby at_199 ?_
  refine own_i X830 hx hby at_201 ?_
  refine own_cy (pc := 203) X830 hx hby at_203 (feq hc67).2 223 ?_
  refine own_k X830 hx hby at_223 ?_
  refine XS.istore X830.here hx rfl (hb hby at_224) rfl (l' := (own_T q1 q2 p3 3 ca cb cc 3 da db dc (rv b827) (rv b831) (iv (0 : Int32)) .unset .unset .unset)) rfl ?_
  refine st834 _ ?_
  refine XS.dup X834.here hx rfl (hb hby at_229) rfl rfl ?_
  refine own_a X834 hx hby at_230 ?_
  refine st835 _ ?_
  refine XS.astore X835.here hx rfl (hb hby at_235) rfl rfl (l' := (own_T q1 q2 p3 3 ca cb cc 3 da db dc (rv b827) (rv b831) (iv (0 : Int32)) (rv b834) .unset .unset)) rfl ?_
  refine st836 _ ?_
  refine XS.dup X836.here hx rfl (hb hby at_240) rfl rfl ?_
  refine own_a X836 hx hby at_241 ?_
  refine st837 _ ?_
  refine XS.astore X837.here hx rfl (hb hby at_246) rfl rfl (l' := (own_T q1 q2 p3 3 ca cb cc 3 da db dc (rv b827) (rv b831) (iv (0 : Int32)) (rv b834) (rv b836) .unset)) rfl ?_
  refine own_a X837 hx hby at_248 ?_
  refine own_a X837 hx hby at_250 ?_
  refine st865 _ ?_
  refine own_i X865 hx hby at_255 ?_
  refine own_cn X865 hx hby at_257 (teq (rfl : (0 : Int32) = (0 : Int32))).2 ?_
  refine own_k X865 hx hby at_260 ?_
  refine own_go (pc := 261) X865 hx hby at_261 265 ?_
  refine XS.istore X865.here hx rfl (hb hby at_265) rfl (l' := (own_T q1 q2 p3 3 ca cb cc 3 da db dc (rv b827) (rv b831) (iv (0 : Int32)) (rv b834) (rv b836) (iv (1 : Int32)))) rfl ?_
  refine own_i X865 hx hby at_267 ?_
  refine own_in X865 hx hby at_269 (feq (by decide : ¬ ((1 : Int32) = (0 : Int32)))).1 ?_
  refine own_a X865 hx hby at_272 ?_
  refine own_a X865 hx hby at_274 ?_
  refine st871 _ ?_
  refine own_i X871 hx hby at_279 ?_
  refine own_cn X871 hx hby at_281 (teq (rfl : (0 : Int32) = (0 : Int32))).2 ?_
  refine own_k X871 hx hby at_284 ?_
  refine own_go (pc := 285) X871 hx hby at_285 289 ?_
  refine XS.istore X871.here hx rfl (hb hby at_289) rfl (l' := (own_T q1 q2 p3 3 ca cb cc 3 da db dc (rv b827) (rv b831) (iv (0 : Int32)) (rv b834) (rv b836) (iv (1 : Int32)))) rfl ?_
  refine own_i X871 hx hby at_291 ?_
  refine own_in X871 hx hby at_293 (feq (by decide : ¬ ((1 : Int32) = (0 : Int32)))).1 ?_
  refine own_a X871 hx hby at_296 ?_
  refine own_a X871 hx hby at_298 ?_
  refine st872 _ ?_
  refine own_in X872 hx hby at_303 (feq (by decide : ¬ ((1 : Int32) = (0 : Int32)))).1 ?_
  refine own_k X872 hx hby at_306 ?_
  refine own_go (pc := 307) X872 hx hby at_307 311 ?_
  refine XS.istore X872.here hx rfl (hb hby at_311) rfl (l' := (own_T q1 q2 p3 3 ca cb cc 3 da db dc (rv b827) (rv b831) (iv (0 : Int32)) (rv b834) (rv b836) (iv (1 : Int32)))) rfl ?_
  refine own_i X872 hx hby at_313 ?_
  refine own_in X872 hx hby at_315 (feq (by decide : ¬ ((1 : Int32) = (0 : Int32)))).1 ?_
  refine own_a X872 hx hby at_318 ?_
  refine own_a X872 hx hby at_320 ?_
  refine st873 _ ?_
  refine own_in X873 hx hby at_325 (teq (rfl : (0 : Int32) = (0 : Int32))).2 ?_
  refine own_k X873 hx hby at_328 ?_
  refine own_go (pc := 329) X873 hx hby at_329 333 ?_
  refine XS.istore X873.here hx rfl (hb hby at_333) rfl (l' := (own_T q1 q2 p3 3 ca cb cc 3 da db dc (rv b827) (rv b831) (iv (0 : Int32)) (rv b834) (rv b836) (iv (1 : Int32)))) rfl ?_
  refine own_i X873 hx hby at_335 ?_
  refine own_in X873 hx hby at_337 (feq (by decide : ¬ ((1 : Int32) = (0 : Int32)))).1 ?_
  refine own_a X873 hx hby at_340 ?_
  refine XS.aconstNull X873.here hx rfl (hb hby at_342) ?_
  refine st874 _ ?_
  refine own_in X874 hx hby at_346 (teq (rfl : (0 : Int32) = (0 : Int32))).2 ?_
  refine own_k X874 hx hby at_349 ?_
  refine own_go (pc := 350) X874 hx hby at_350 354 ?_
  refine XS.istore X874.here hx rfl (hb hby at_354) rfl (l' := (own_T q1 q2 p3 3 ca cb cc 3 da db dc (rv b827) (rv b831) (iv (0 : Int32)) (rv b834) (rv b836) (iv (1 : Int32)))) rfl ?_
  refine own_i X874 hx hby at_356 ?_
  exact retN X874 hx (t := .boolean) hret (by simp) (hb hby at_358) hr
def Qrm903 (Z : State) (ca cb cc da db dc : Int32) (b877 : Addr) (k878 : ClassId) (b881 : Addr) (k882 : ClassId) (h0 : Heap) (v : Option Value) (h : Heap) (L : List Loc) : Prop := v = some (.int (0 : Int32)) ∧ Fr Z.heap.size L ∧ h = h0
theorem rm903 (l : Launch) (Z : State) (a0 : Array Value) (hw : own_HW Z a0) (ws : List Jvm.Cond) (ca cb cc da db dc : Int32) (b877 : Addr) (k878 : ClassId) (b881 : Addr) (k882 : ClassId) (h0 : Heap) (Z0 : Ext Z.heap h0) (V_b877 : Arv Z h0 b877 k878 .byte (3 : Int32) [(.int (ca.toInt8.toInt32)), (.int (cb.toInt8.toInt32)), (.int (cc.toInt8.toInt32))] (.int (0 : Int32))) (V_b881 : Arv Z h0 b881 k882 .byte (3 : Int32) [(.int (da.toInt8.toInt32)), (.int (db.toInt8.toInt32)), (.int (dc.toInt8.toInt32))] (.int (0 : Int32))) (hc52 : (ca.toInt8.toInt32) = (da.toInt8.toInt32)) (hc73 : (cb.toInt8.toInt32) = (db.toInt8.toInt32)) (hc83 : ¬ ((cc.toInt8.toInt32) = (dc.toInt8.toInt32))) :
    own_met l y_19 jdk_43_method_13_code 3 (some .boolean) ws ({ frames := 0, cells := 0, slots := 0, locals := 0 } : Room) Z #[(.ref b877), (.ref b881)] h0 (Qrm903 Z ca cb cc da db dc b877 k878 b881 k882 h0) := by
  refine own_start (plainFor_of_name pn_5) (fun m => ef_jdk_43_method_13_RR m b877 b881) ?_
  intro p e s m below meth c s₁ hx hby hml hown hnm X0 hZ e0 hret hlk
  have N0 := Fr.nil Z.heap.size
  obtain ⟨cl904, Ar904, q904, S904, Nn904, H904, G904⟩ := id V_b877
  obtain ⟨cl905, Ar905, q905, S905, Nn905, H905, G905⟩ := id V_b881
  obtain ⟨cl906, Ar906, q906, S906, Nn906, H906, G906⟩ := id V_b877
  obtain ⟨cl907, Ar907, q907, S907, Nn907, H907, G907⟩ := id V_b877
  have hin907 : ¬ ((0 : Int32) < 0 ∨ cl907.slots.size ≤ ((0 : Int32)).toNatClampNeg) := inb_of S907 ⟨by decide, by decide⟩
  have hat907 : cl907.slots[((0 : Int32)).toNatClampNeg]? = some (.int (ca.toInt8.toInt32)) := Has.at H907 hin907 rfl
  obtain ⟨cl908, Ar908, q908, S908, Nn908, H908, G908⟩ := id V_b881
  have hin908 : ¬ ((0 : Int32) < 0 ∨ cl908.slots.size ≤ ((0 : Int32)).toNatClampNeg) := inb_of S908 ⟨by decide, by decide⟩
  have hat908 : cl908.slots[((0 : Int32)).toNatClampNeg]? = some (.int (da.toInt8.toInt32)) := Has.at H908 hin908 rfl
  obtain ⟨cl909, Ar909, q909, S909, Nn909, H909, G909⟩ := id V_b877
  obtain ⟨cl910, Ar910, q910, S910, Nn910, H910, G910⟩ := id V_b877
  have hin910 : ¬ ((1 : Int32) < 0 ∨ cl910.slots.size ≤ ((1 : Int32)).toNatClampNeg) := inb_of S910 ⟨by decide, by decide⟩
  have hat910 : cl910.slots[((1 : Int32)).toNatClampNeg]? = some (.int (cb.toInt8.toInt32)) := Has.at H910 hin910 rfl
  obtain ⟨cl911, Ar911, q911, S911, Nn911, H911, G911⟩ := id V_b881
  have hin911 : ¬ ((1 : Int32) < 0 ∨ cl911.slots.size ≤ ((1 : Int32)).toNatClampNeg) := inb_of S911 ⟨by decide, by decide⟩
  have hat911 : cl911.slots[((1 : Int32)).toNatClampNeg]? = some (.int (db.toInt8.toInt32)) := Has.at H911 hin911 rfl
  obtain ⟨cl912, Ar912, q912, S912, Nn912, H912, G912⟩ := id V_b877
  obtain ⟨cl913, Ar913, q913, S913, Nn913, H913, G913⟩ := id V_b877
  have hin913 : ¬ ((2 : Int32) < 0 ∨ cl913.slots.size ≤ ((2 : Int32)).toNatClampNeg) := inb_of S913 ⟨by decide, by decide⟩
  have hat913 : cl913.slots[((2 : Int32)).toNatClampNeg]? = some (.int (cc.toInt8.toInt32)) := Has.at H913 hin913 rfl
  obtain ⟨cl914, Ar914, q914, S914, Nn914, H914, G914⟩ := id V_b881
  have hin914 : ¬ ((2 : Int32) < 0 ∨ cl914.slots.size ≤ ((2 : Int32)).toNatClampNeg) := inb_of S914 ⟨by decide, by decide⟩
  have hat914 : cl914.slots[((2 : Int32)).toNatClampNeg]? = some (.int (dc.toInt8.toInt32)) := Has.at H914 hin914 rfl
  obtain ⟨fs, hr, hrun, hended, hW, hsame⟩ := X0.leave (v := some (.int (0 : Int32))) (fun h => by rw [hret] at h; cases h) hlk
  refine ⟨_, _, ?_, hrun, hended, _, _, rfl, ?_, ⟨_, rfl⟩, hW, hsame.mono (by decide) (by decide)⟩
  · show own_S p e below s₁ (mkF m 0 #[rv b877, rv b881, .unset] []) _
    refine own_aN X0 hx hby d23_0 ?_
    refine X0.arraylength hx (by rw [e0]; exact Ar904.1) (State.isArrayOf_alike hZ.alike Ar904.2.1) (g := (mkF m 1 #[rv b877, rv b881, .unset] [(.ref b877)])) rfl rfl (hb hby d23_1) _ ?_
    rw [len_of S904 Nn904]
    refine own_aN X0 hx hby d23_2 ?_
    refine X0.arraylength hx (by rw [e0]; exact Ar905.1) (State.isArrayOf_alike hZ.alike Ar905.2.1) (g := (mkF m 3 #[rv b877, rv b881, .unset] [(.ref b881), (.int (3 : Int32))])) rfl rfl (hb hby d23_3) _ ?_
    rw [len_of S905 Nn905]
    refine own_cn X0 hx hby d23_4 (teq (rfl : (3 : Int32) = (3 : Int32))).2 ?_
    refine own_k X0 hx hby d23_7 ?_
    refine XS.istoreN X0.here hx rfl (hb hby d23_8) rfl (l' := #[rv b877, rv b881, iv (0 : Int32)]) rfl ?_
    refine own_iN X0 hx hby d23_9 ?_
    refine own_aN X0 hx hby d23_10 ?_
    refine X0.arraylength hx (by rw [e0]; exact Ar906.1) (State.isArrayOf_alike hZ.alike Ar906.2.1) (g := (mkF m 11 #[rv b877, rv b881, iv (0 : Int32)] [(.ref b877), (.int (0 : Int32))])) rfl rfl (hb hby d23_11) _ ?_
    rw [len_of S906 Nn906]
    refine own_cn X0 hx hby d23_12 (tlt (by decide : (0 : Int32) < (3 : Int32))).2.1 ?_
    refine own_aN X0 hx hby d23_15 ?_
    refine own_iN X0 hx hby d23_16 ?_
    refine X0.baloadBytes hx (j := (0 : Int32)) (v := (.int (ca.toInt8.toInt32))) (by rw [e0]; exact Ar907.1) (State.isArrayOf_alike hZ.alike Ar907.2.1) Ar907.2.2 hin907 hat907 (g := (mkF m 17 #[rv b877, rv b881, iv (0 : Int32)] [(.int (0 : Int32)), (.ref b877)])) rfl rfl (hb hby d23_17) _ ?_
    refine own_aN X0 hx hby d23_18 ?_
    refine own_iN X0 hx hby d23_19 ?_
    refine X0.baloadBytes hx (j := (0 : Int32)) (v := (.int (da.toInt8.toInt32))) (by rw [e0]; exact Ar908.1) (State.isArrayOf_alike hZ.alike Ar908.2.1) Ar908.2.2 hin908 hat908 (g := (mkF m 20 #[rv b877, rv b881, iv (0 : Int32)] [(.int (0 : Int32)), (.ref b881), (.int (ca.toInt8.toInt32))])) rfl rfl (hb hby d23_20) _ ?_
    refine own_cy (pc := 21) X0 hx hby d23_21 (teq hc52).1 26 ?_
    refine XS.iinc X0.here hx rfl (hb hby d23_26) rfl (l' := #[rv b877, rv b881, iv (1 : Int32)]) rfl ?_
    refine own_go (pc := 29) X0 hx hby d23_29 9 ?_
    refine own_iN X0 hx hby d23_9 ?_
    refine own_aN X0 hx hby d23_10 ?_
    refine X0.arraylength hx (by rw [e0]; exact Ar909.1) (State.isArrayOf_alike hZ.alike Ar909.2.1) (g := (mkF m 11 #[rv b877, rv b881, iv (1 : Int32)] [(.ref b877), (.int (1 : Int32))])) rfl rfl (hb hby d23_11) _ ?_
    rw [len_of S909 Nn909]
    refine own_cn X0 hx hby d23_12 (tlt (by decide : (1 : Int32) < (3 : Int32))).2.1 ?_
    refine own_aN X0 hx hby d23_15 ?_
    refine own_iN X0 hx hby d23_16 ?_
    refine X0.baloadBytes hx (j := (1 : Int32)) (v := (.int (cb.toInt8.toInt32))) (by rw [e0]; exact Ar910.1) (State.isArrayOf_alike hZ.alike Ar910.2.1) Ar910.2.2 hin910 hat910 (g := (mkF m 17 #[rv b877, rv b881, iv (1 : Int32)] [(.int (1 : Int32)), (.ref b877)])) rfl rfl (hb hby d23_17) _ ?_
    refine own_aN X0 hx hby d23_18 ?_
    refine own_iN X0 hx hby d23_19 ?_
    refine X0.baloadBytes hx (j := (1 : Int32)) (v := (.int (db.toInt8.toInt32))) (by rw [e0]; exact Ar911.1) (State.isArrayOf_alike hZ.alike Ar911.2.1) Ar911.2.2 hin911 hat911 (g := (mkF m 20 #[rv b877, rv b881, iv (1 : Int32)] [(.int (1 : Int32)), (.ref b881), (.int (cb.toInt8.toInt32))])) rfl rfl (hb hby d23_20) _ ?_
    refine own_cy (pc := 21) X0 hx hby d23_21 (teq hc73).1 26 ?_
    refine XS.iinc X0.here hx rfl (hb hby d23_26) rfl (l' := #[rv b877, rv b881, iv (2 : Int32)]) rfl ?_
    refine own_go (pc := 29) X0 hx hby d23_29 9 ?_
    refine own_iN X0 hx hby d23_9 ?_
    refine own_aN X0 hx hby d23_10 ?_
    refine X0.arraylength hx (by rw [e0]; exact Ar912.1) (State.isArrayOf_alike hZ.alike Ar912.2.1) (g := (mkF m 11 #[rv b877, rv b881, iv (2 : Int32)] [(.ref b877), (.int (2 : Int32))])) rfl rfl (hb hby d23_11) _ ?_
    rw [len_of S912 Nn912]
    refine own_cn X0 hx hby d23_12 (tlt (by decide : (2 : Int32) < (3 : Int32))).2.1 ?_
    refine own_aN X0 hx hby d23_15 ?_
    refine own_iN X0 hx hby d23_16 ?_
    refine X0.baloadBytes hx (j := (2 : Int32)) (v := (.int (cc.toInt8.toInt32))) (by rw [e0]; exact Ar913.1) (State.isArrayOf_alike hZ.alike Ar913.2.1) Ar913.2.2 hin913 hat913 (g := (mkF m 17 #[rv b877, rv b881, iv (2 : Int32)] [(.int (2 : Int32)), (.ref b877)])) rfl rfl (hb hby d23_17) _ ?_
    refine own_aN X0 hx hby d23_18 ?_
    refine own_iN X0 hx hby d23_19 ?_
    refine X0.baloadBytes hx (j := (2 : Int32)) (v := (.int (dc.toInt8.toInt32))) (by rw [e0]; exact Ar914.1) (State.isArrayOf_alike hZ.alike Ar914.2.1) Ar914.2.2 hin914 hat914 (g := (mkF m 20 #[rv b877, rv b881, iv (2 : Int32)] [(.int (2 : Int32)), (.ref b881), (.int (cc.toInt8.toInt32))])) rfl rfl (hb hby d23_20) _ ?_
    refine own_cn X0 hx hby d23_21 (feq hc83).1 ?_
    refine own_k X0 hx hby d23_24 ?_
    exact retN X0 hx (t := .boolean) hret (by simp) (hb hby d23_25) hr
  · show Qrm903 Z ca cb cc da db dc b877 k878 b881 k882 h0 _ s₁.heap _
    rw [e0]
    exact ⟨rfl, N0, rfl⟩
def Qrm895 (Z : State) (w_CS ca cb cc da db dc : Int32) (b876 b877 : Addr) (k878 : ClassId) (b880 b881 : Addr) (k882 : ClassId) (h0 : Heap) (v : Option Value) (h : Heap) (L : List Loc) : Prop := v = some (.int (0 : Int32)) ∧ Fr Z.heap.size L ∧ h = h0
theorem rm895 (l : Launch) (Z : State) (a0 : Array Value) (hw : own_HW Z a0) (ws : List Jvm.Cond) (w_CS ca cb cc da db dc : Int32) (b876 b877 : Addr) (k878 : ClassId) (b880 b881 : Addr) (k882 : ClassId) (h0 : Heap) (Z0 : Ext Z.heap h0) (S_w_CS : own_w_CS Z w_CS) (F_b876_coder : Fld Z h0 b876 "java/lang/String" "coder" "B" (.int (0 : Int32))) (F_b876_value : Fld Z h0 b876 "java/lang/String" "value" "[B" (.ref b877)) (E_b880 : Exa Z h0 b880 "java/lang/String") (F_b880_coder : Fld Z h0 b880 "java/lang/String" "coder" "B" (.int (0 : Int32))) (F_b880_value : Fld Z h0 b880 "java/lang/String" "value" "[B" (.ref b881)) (V_b877 : Arv Z h0 b877 k878 .byte (3 : Int32) [(.int (ca.toInt8.toInt32)), (.int (cb.toInt8.toInt32)), (.int (cc.toInt8.toInt32))] (.int (0 : Int32))) (V_b881 : Arv Z h0 b881 k882 .byte (3 : Int32) [(.int (da.toInt8.toInt32)), (.int (db.toInt8.toInt32)), (.int (dc.toInt8.toInt32))] (.int (0 : Int32))) (hc82 : b876 ≠ b880) (hc1 : ¬ (w_CS = (0 : Int32))) (hc52 : (ca.toInt8.toInt32) = (da.toInt8.toInt32)) (hc73 : (cb.toInt8.toInt32) = (db.toInt8.toInt32)) (hc83 : ¬ ((cc.toInt8.toInt32) = (dc.toInt8.toInt32))) :
    own_met l y_20 jdk_42_method_66_code 3 (some .boolean) ws ({ frames := 1, cells := 0, slots := 0, locals := 14 } : Room) Z #[(.ref b876), (.ref b880)] h0 (Qrm895 Z w_CS ca cb cc da db dc b876 b877 k878 b880 b881 k882 h0) := by
  refine own_start (plainFor_of_name pn_2) (fun m => ef_jdk_42_method_66_RR m b876 b880) ?_
  intro p e s m below meth c s₁ hx hby hml hown hnm X0 hZ e0 hret hlk
  have N0 := Fr.nil Z.heap.size
  obtain ⟨T896, X896, e896, st896⟩ := instY X0 hx hZ hown (own_w hw 109 rfl) e0 (Ins.self E_b880) (g := (mkF m 8 #[rv b876, rv b880, .unset] [(.ref b880)])) rfl rfl (hb hby d22_8)
  obtain ⟨T897, X897, e897, st897⟩ := castY X896 hx hZ hown (own_w hw 109 rfl) e896 (Ins.self E_b880) (g := (mkF m 15 #[rv b876, rv b880, .unset] [(.ref b880)])) rfl rfl (hb hby d22_15)
  obtain ⟨T898, X898, e898, st898⟩ := getS2 X897 hx hZ hown (host := "") (Or.inl (own_w hw 27 rfl)) Via.refl e897 (S_w_CS.ext Z0) (g := (mkF m 19 #[rv b876, rv b880, rv b880] [])) rfl (hb hby d22_19)
  obtain ⟨T899, X899, e899, st899⟩ := getF X898 hx hZ hown (host := "") (Or.inl (own_w hw 39 rfl)) Via.refl e898 F_b876_coder (g := (mkF m 26 #[rv b876, rv b880, rv b880] [(.ref b876)])) rfl rfl (hb hby d22_26)
  obtain ⟨T900, X900, e900, st900⟩ := getF X899 hx hZ hown (host := "") (Or.inl (own_w hw 39 rfl)) Via.refl e899 F_b880_coder (g := (mkF m 30 #[rv b876, rv b880, rv b880] [(.ref b880), (.int (0 : Int32))])) rfl rfl (hb hby d22_30)
  obtain ⟨T901, X901, e901, st901⟩ := getF X900 hx hZ hown (host := "") (Or.inl (own_w hw 41 rfl)) Via.refl e900 F_b876_value (g := (mkF m 37 #[rv b876, rv b880, rv b880] [(.ref b876)])) rfl rfl (hb hby d22_37)
  obtain ⟨T902, X902, e902, st902⟩ := getF X901 hx hZ hown (host := "") (Or.inl (own_w hw 41 rfl)) Via.refl e901 F_b880_value (g := (mkF m 41 #[rv b876, rv b880, rv b880] [(.ref b880), (.ref b877)])) rfl rfl (hb hby d22_41)
  obtain ⟨_, T915, Lc915, X915, hQ915, st915⟩ := own_static (y := y_19) X902 hx hZ hown (own_w hw 110 rfl) (own_w hw 111 rfl) (own_w hw 75 rfl) (own_w hw 112 rfl) (rm903 l Z a0 hw [] ca cb cc da db dc b877 k878 b881 k882 h0 Z0 V_b877 V_b881 hc52 hc73 hc83) e902 (g := (mkF m 44 #[rv b876, rv b880, rv b880] [(.ref b881), (.ref b877)])) (argsL := [(.ref b877), (.ref b881)]) (rest := []) (W := 0) (lenOf pd_16 rfl) (hb hby d22_44) hml
  obtain ⟨rfl, N915q, e915⟩ := hQ915
  have N915 := Fr.app N0 N915q
  obtain ⟨fs, hr, hrun, hended, hW, hsame⟩ := X915.leave (v := some (.int (0 : Int32))) (fun h => by rw [hret] at h; cases h) hlk
  refine ⟨_, _, ?_, hrun, hended, _, _, rfl, ?_, ⟨_, rfl⟩, hW, hsame.mono (by decide) (by decide)⟩
  · show own_S p e below s₁ (mkF m 0 #[rv b876, rv b880, .unset] []) _
    refine own_aN X0 hx hby d22_0 ?_
    refine own_aN X0 hx hby d22_1 ?_
    refine Jvm.RoadKit.acmp (g := (mkF m 2 #[rv b876, rv b880, .unset] [(.ref b880), (.ref b876)])) X0 hx rfl rfl rfl (pc0 := 2) (pc' := 7) (same := false) rfl (hb hby d22_2) rfl (decide_eq_false fun q => hc82 (Value.ref.inj q)) (by decide) (by decide) ?_
    refine own_aN X0 hx hby d22_7 ?_
    refine st896 _ ?_
    refine own_in X896 hx hby d22_11 (feq (by decide : ¬ ((1 : Int32) = (0 : Int32)))).1 ?_
    refine own_aN X896 hx hby d22_14 ?_
    refine st897 _ ?_
    refine XS.astoreN X897.here hx rfl (hb hby d22_18) rfl rfl (l' := #[rv b876, rv b880, rv b880]) rfl ?_
    refine st898 _ ?_
    refine own_in X898 hx hby d22_22 (feq hc1).1 ?_
    refine own_aN X898 hx hby d22_25 ?_
    refine st899 _ ?_
    refine own_aN X899 hx hby d22_29 ?_
    refine st900 _ ?_
    refine own_cn X900 hx hby d22_33 (teq (rfl : (0 : Int32) = (0 : Int32))).2 ?_
    refine own_aN X900 hx hby d22_36 ?_
    refine st901 _ ?_
    refine own_aN X901 hx hby d22_40 ?_
    refine st902 _ ?_
    refine st915 _ ?_
    refine own_iy (pc := 47) X915 hx hby d22_47 (teq (rfl : (0 : Int32) = (0 : Int32))).1 54 ?_
    refine own_k X915 hx hby d22_54 ?_
    exact retN X915 hx (t := .boolean) hret (by simp) (hb hby d22_55) hr
  · show Qrm895 Z w_CS ca cb cc da db dc b876 b877 k878 b880 b881 k882 h0 _ T915.heap _
    rw [e915]
    exact ⟨rfl, N915, rfl⟩
def Qrm890 (Z : State) (w_CS ca cb cc da db dc : Int32) (b876 b877 : Addr) (k878 : ClassId) (b880 b881 : Addr) (k882 : ClassId) (b883 b885 : Addr) (h0 : Heap) (v : Option Value) (h : Heap) (L : List Loc) : Prop := v = some (.int (0 : Int32)) ∧ Fr Z.heap.size L ∧ h = h0
theorem rm890 (l : Launch) (Z : State) (a0 : Array Value) (hw : own_HW Z a0) (ws : List Jvm.Cond) (w_CS ca cb cc da db dc : Int32) (b876 b877 : Addr) (k878 : ClassId) (b880 b881 : Addr) (k882 : ClassId) (b883 b885 : Addr) (h0 : Heap) (Z0 : Ext Z.heap h0) (S_w_CS : own_w_CS Z w_CS) (F_b883_written : Fld Z h0 b883 "com/example/faretally/faretally/RefundRequest$Involuntary$Reason" "written" "Ljava/lang/String;" (.ref b876)) (E_b885 : Exa Z h0 b885 "com/example/faretally/faretally/RefundRequest$Involuntary$Reason") (F_b885_written : Fld Z h0 b885 "com/example/faretally/faretally/RefundRequest$Involuntary$Reason" "written" "Ljava/lang/String;" (.ref b880)) (E_b876 : Exa Z h0 b876 "java/lang/String") (F_b876_coder : Fld Z h0 b876 "java/lang/String" "coder" "B" (.int (0 : Int32))) (F_b876_value : Fld Z h0 b876 "java/lang/String" "value" "[B" (.ref b877)) (E_b880 : Exa Z h0 b880 "java/lang/String") (F_b880_coder : Fld Z h0 b880 "java/lang/String" "coder" "B" (.int (0 : Int32))) (F_b880_value : Fld Z h0 b880 "java/lang/String" "value" "[B" (.ref b881)) (V_b877 : Arv Z h0 b877 k878 .byte (3 : Int32) [(.int (ca.toInt8.toInt32)), (.int (cb.toInt8.toInt32)), (.int (cc.toInt8.toInt32))] (.int (0 : Int32))) (V_b881 : Arv Z h0 b881 k882 .byte (3 : Int32) [(.int (da.toInt8.toInt32)), (.int (db.toInt8.toInt32)), (.int (dc.toInt8.toInt32))] (.int (0 : Int32))) (hc82 : b876 ≠ b880) (hc1 : ¬ (w_CS = (0 : Int32))) (hc52 : (ca.toInt8.toInt32) = (da.toInt8.toInt32)) (hc73 : (cb.toInt8.toInt32) = (db.toInt8.toInt32)) (hc83 : ¬ ((cc.toInt8.toInt32) = (dc.toInt8.toInt32))) :
    own_met l y_21 prog_97_method_3_code 3 (some .boolean) ws ({ frames := 2, cells := 0, slots := 0, locals := 28 } : Room) Z #[(.ref b883), (.ref b885)] h0 (Qrm890 Z w_CS ca cb cc da db dc b876 b877 k878 b880 b881 k882 b883 b885 h0) := by
  refine own_start (plainFor_of_name pn_6) (fun m => ef_prog_97_method_3_RR m b883 b885) ?_
  intro p e s m below meth c s₁ hx hby hml hown hnm X0 hZ e0 hret hlk
  have N0 := Fr.nil Z.heap.size
  obtain ⟨T891, X891, e891, st891⟩ := instY X0 hx hZ hown (own_w hw 102 rfl) e0 (Ins.self E_b885) (g := (mkF m 1 #[rv b883, rv b885, .unset] [(.ref b885)])) rfl rfl (hb hby d21_1)
  obtain ⟨T892, X892, e892, st892⟩ := castY X891 hx hZ hown (own_w hw 102 rfl) e891 (Ins.self E_b885) (g := (mkF m 8 #[rv b883, rv b885, .unset] [(.ref b885)])) rfl rfl (hb hby d21_8)
  obtain ⟨T893, X893, e893, st893⟩ := getF X892 hx hZ hown (host := "") (Or.inl (own_w hw 95 rfl)) Via.refl e892 F_b883_written (g := (mkF m 13 #[rv b883, rv b885, rv b885] [(.ref b883)])) rfl rfl (hb hby d21_13)
  obtain ⟨T894, X894, e894, st894⟩ := getF X893 hx hZ hown (host := "") (Or.inl (own_w hw 95 rfl)) Via.refl e893 F_b885_written (g := (mkF m 17 #[rv b883, rv b885, rv b885] [(.ref b885), (.ref b876)])) rfl rfl (hb hby d21_17)
  obtain ⟨_, T916, Lc916, X916, hQ916, st916⟩ := own_virtual (y := y_20) X894 hx hZ hown (own_w hw 104 rfl) (own_w hw 105 rfl) (own_w hw 107 rfl) (own_w hw 106 rfl) (own_w hw 15 rfl) (own_w hw 108 rfl) (rm895 l Z a0 hw [] w_CS ca cb cc da db dc b876 b877 k878 b880 b881 k882 h0 Z0 S_w_CS F_b876_coder F_b876_value E_b880 F_b880_coder F_b880_value V_b877 V_b881 hc82 hc1 hc52 hc73 hc83) e894 E_b876 (g := (mkF m 20 #[rv b883, rv b885, rv b885] [(.ref b880), (.ref b876)])) (argsL := [(.ref b880)]) (rest := []) (W := 0) (lenOf pd_17 rfl) (hb hby d21_20) hml
  obtain ⟨rfl, N916q, e916⟩ := hQ916
  have N916 := Fr.app N0 N916q
  obtain ⟨fs, hr, hrun, hended, hW, hsame⟩ := X916.leave (v := some (.int (0 : Int32))) (fun h => by rw [hret] at h; cases h) hlk
  refine ⟨_, _, ?_, hrun, hended, _, _, rfl, ?_, ⟨_, rfl⟩, hW, hsame.mono (by decide) (by decide)⟩
  · show own_S p e below s₁ (mkF m 0 #[rv b883, rv b885, .unset] []) _
    refine own_aN X0 hx hby d21_0 ?_
    refine st891 _ ?_
    refine own_in X891 hx hby d21_4 (feq (by decide : ¬ ((1 : Int32) = (0 : Int32)))).1 ?_
    refine own_aN X891 hx hby d21_7 ?_
    refine st892 _ ?_
    refine XS.astoreN X892.here hx rfl (hb hby d21_11) rfl rfl (l' := #[rv b883, rv b885, rv b885]) rfl ?_
    refine own_aN X892 hx hby d21_12 ?_
    refine st893 _ ?_
    refine own_aN X893 hx hby d21_16 ?_
    refine st894 _ ?_
    refine st916 _ ?_
    refine own_iy (pc := 23) X916 hx hby d21_23 (teq (rfl : (0 : Int32) = (0 : Int32))).1 30 ?_
    refine own_k X916 hx hby d21_30 ?_
    exact retN X916 hx (t := .boolean) hret (by simp) (hb hby d21_31) hr
  · show Qrm890 Z w_CS ca cb cc da db dc b876 b877 k878 b880 b881 k882 b883 b885 h0 _ T916.heap _
    rw [e916]
    exact ⟨rfl, N916, rfl⟩
theorem own_t33_2 {p : Program} {l : Launch} {e : Env} {s : State} {m : MethodId} {args : Array Value} {below : List Frame} {meth : Method} {c : Code} {T0 : State} {locs : List Loc} (Z : State) (a0 : Array Value) (hw : own_HW Z a0) (w_CS : Int32) (w_SF : Value) (q1 q2 : Int64) (p3 ca cb cc da db dc : Int32) (h0 : Heap) (Z0 : Ext Z.heap h0) (S_w_CS : own_w_CS Z w_CS) (S_w_SF : own_w_SF Z w_SF) (R_w_SF : w_SF.isRef = true) (hc42 : own_ch ca) (hc64 : own_ch cb) (hc77 : own_ch cc) (hc1 : ¬ (w_CS = (0 : Int32))) (hc43 : own_ch da) (hc54 : own_ch db) (hc59 : own_ch dc) (hc50 : ca = da) (hc71 : cb = db) (hc81 : ¬ (cc = dc)) (hc45 : own_low ca) (hc65 : own_aln cb) (hc78 : own_aln cc) (hc46 : own_low da) (hc56 : own_aln db) (hc61 : own_aln dc) (hc52 : (ca.toInt8.toInt32) = (da.toInt8.toInt32)) (hc73 : (cb.toInt8.toInt32) = (db.toInt8.toInt32)) (hc83 : ¬ ((cc.toInt8.toInt32) = (dc.toInt8.toInt32))) (hc53 : (da.toInt8.toInt32) = (ca.toInt8.toInt32)) (hc74 : (db.toInt8.toInt32) = (cb.toInt8.toInt32)) (hc84 : ¬ ((dc.toInt8.toInt32) = (cc.toInt8.toInt32))) (X0 : Stand p l e room_1 s m args below meth c T0 locs 0 0) (hx : p.tables.exec = Jvm.exec) (hZ : Z.Warmed39 s.vm) (hby : c.code = code) (hml : c.maxLocals = 19) (hown : s.vm.findClass "com/example/faretally/faretally/ReasonEqualsPinLaw" = some m.cls) (e0 : T0.heap = h0) (N0 : Fr Z.heap.size locs) (hret : meth.sig.returnType = some .boolean) (hlk : meth.locks = false) :
    ∃ s₂ o, Steps p.tables e below (T0.setTop (mkF m 153 (own_T q1 q2 p3 3 ca cb cc 3 da db dc .unset .unset .unset .unset .unset .unset) [])) s₂ ∧ s₂.status = .running ∧ Ended s₂ below o ∧ ∃ v L, o = .returned v ∧ (v = some (.int (1 : Int32)) ∧ Fr Z.heap.size L) ∧ FrameEnd s o s₂ L room_1.cells room_1.slots := by
  obtain ⟨_, T875, Lc875, X875, hQ875, st875⟩ := own_static (y := y_7) X0 hx hZ hown (own_w hw 10 rfl) (own_w hw 11 rfl) (own_w hw 4 rfl) (own_w hw 12 rfl) (rm340 l Z a0 hw [] w_CS ca cb cc h0 Z0 S_w_CS hc42 hc64 hc77 hc1) e0 (g := (mkF m 161 (own_T q1 q2 p3 3 ca cb cc 3 da db dc .unset .unset .unset .unset .unset .unset) [(.int cc), (.int cb), (.int ca), (.int (3 : Int32))])) (argsL := [(.int (3 : Int32)), (.int ca), (.int cb), (.int cc)]) (rest := []) (W := 0) (lenOf pd_6 rfl) (hb hby at_161) hml
  obtain ⟨b876, b877, k878, rfl, N875q, K875q, szn_b876, szn_b877, q875_E_b876, q875_F_b876_coder, q875_F_b876_value, q875_V_b877⟩ := hQ875
  have g_b876 : Z.heap.size ≤ b876 := Nat.le_trans Z0.1 szn_b876
  have sz_b876 : h0.size ≤ b876 := Nat.le_trans (Keep.refl h0 []).1 szn_b876
  have g_b877 : Z.heap.size ≤ b877 := Nat.le_trans Z0.1 szn_b877
  have sz_b877 : h0.size ≤ b877 := Nat.le_trans (Keep.refl h0 []).1 szn_b877
  have K875 : Keep h0 T875.heap [] := (Keep.refl h0 []).trans K875q all0
  have XX875 : Ext Z.heap T875.heap := own_extK Z0 K875q all0
  have N875 := Fr.app N0 N875q
  obtain ⟨_, T879, Lc879, X879, hQ879, st879⟩ := own_static (y := y_7) X875 hx hZ hown (own_w hw 10 rfl) (own_w hw 11 rfl) (own_w hw 4 rfl) (own_w hw 12 rfl) (rm340 l Z a0 hw [] w_CS da db dc T875.heap XX875 S_w_CS hc43 hc54 hc59 hc1) rfl (g := (mkF m 174 (own_T q1 q2 p3 3 ca cb cc 3 da db dc (rv b876) .unset .unset .unset .unset .unset) [(.int dc), (.int db), (.int da), (.int (3 : Int32))])) (argsL := [(.int (3 : Int32)), (.int da), (.int db), (.int dc)]) (rest := []) (W := 0) (lenOf pd_6 rfl) (hb hby at_174) hml
  obtain ⟨b880, b881, k882, rfl, N879q, K879q, szn_b880, szn_b881, q879_E_b880, q879_F_b880_coder, q879_F_b880_value, q879_V_b881⟩ := hQ879
  have g_b880 : Z.heap.size ≤ b880 := Nat.le_trans XX875.1 szn_b880
  have sz_b880 : h0.size ≤ b880 := Nat.le_trans K875.1 szn_b880
  have g_b881 : Z.heap.size ≤ b881 := Nat.le_trans XX875.1 szn_b881
  have sz_b881 : h0.size ≤ b881 := Nat.le_trans K875.1 szn_b881
  have K879 : Keep h0 T879.heap [] := K875.trans K879q all0
  have XX879 : Ext Z.heap T879.heap := own_extK XX875 K879q all0
  have N879 := Fr.app N875 N879q
  obtain ⟨T883, h883, X883, e883, E883, A883, D883, -, st883⟩ := newO X879 hx hZ hown (own_w hw 43 rfl) (own_w hw 44 rfl) (own_w hw 45 rfl) rfl (g := (mkF m 226 (own_T q1 q2 p3 3 ca cb cc 3 da db dc (rv b876) (rv b880) (iv (0 : Int32)) .unset .unset .unset) [])) rfl (hb hby at_226) (by decide) (by decide)
  obtain ⟨b883, g883⟩ : ∃ z, z = T879.heap.size := ⟨_, rfl⟩
  rw [← g883] at A883 D883 st883
  have g_b883 : Z.heap.size ≤ b883 := Nat.le_trans XX879.1 (Nat.le_of_eq g883.symm)
  have sz_b883 : h0.size ≤ b883 := Nat.le_trans K879.1 (Nat.le_of_eq g883.symm)
  have F_b883_written : Fld Z h883 b883 "com/example/faretally/faretally/RefundRequest$Involuntary$Reason" "written" "Ljava/lang/String;" .null := D883 (Or.inr (own_w hw 96 rfl)) (ty := (.object "java/lang/String")) (by decide)
  have K883 : Keep h0 h883 [] := K879.ext E883
  have XX883 : Ext Z.heap h883 := own_ext2 XX879 E883
  obtain ⟨_, T884, Lc884, X884, hQ884, st884⟩ := own_special (y := y_18) X883 hx hZ hown rfl (own_w hw 46 rfl) (own_w hw 47 rfl) (own_w hw 45 rfl) (own_w hw 48 rfl) (rm393 l Z a0 hw [] w_CS w_SF ca cb cc b876 b877 k878 b883 h883 XX883 S_w_CS S_w_SF R_w_SF A883 F_b883_written ((q875_E_b876.keep K879q).ext E883) ((q875_F_b876_coder.keep K879q nin0).ext E883) ((q875_F_b876_value.keep K879q nin0).ext E883) ((q875_V_b877.keep K879q nin0).ext E883) g_b883 hc1 hc42 hc45 hc64 hc65 hc77 hc78) e883 b883 (g := (mkF m 232 (own_T q1 q2 p3 3 ca cb cc 3 da db dc (rv b876) (rv b880) (iv (0 : Int32)) .unset .unset .unset) [(.ref b876), (.ref b883), (.ref b883)])) (argsL := [(.ref b876)]) (rest := [(.ref b883)]) (W := 1) (lenOf pd_15 rfl) (hb hby at_232) hml
  obtain ⟨rfl, N884q, K884q, q884_E_b883, q884_F_b883_written⟩ := hQ884
  have K884 : Keep h0 T884.heap [] := K883.trans K884q (allS (Or.inr sz_b883) all0)
  have XX884 : Ext Z.heap T884.heap := own_extK XX883 K884q (allS g_b883 all0)
  have N884 := Fr.app N879 N884q
  obtain ⟨T885, h885, X885, e885, E885, A885, D885, -, st885⟩ := newO X884 hx hZ hown (own_w hw 43 rfl) (own_w hw 44 rfl) (own_w hw 45 rfl) rfl (g := (mkF m 237 (own_T q1 q2 p3 3 ca cb cc 3 da db dc (rv b876) (rv b880) (iv (0 : Int32)) (rv b883) .unset .unset) [])) rfl (hb hby at_237) (by decide) (by decide)
  obtain ⟨b885, g885⟩ : ∃ z, z = T884.heap.size := ⟨_, rfl⟩
  rw [← g885] at A885 D885 st885
  have g_b885 : Z.heap.size ≤ b885 := Nat.le_trans XX884.1 (Nat.le_of_eq g885.symm)
  have sz_b885 : h0.size ≤ b885 := Nat.le_trans K884.1 (Nat.le_of_eq g885.symm)
  have F_b885_written : Fld Z h885 b885 "com/example/faretally/faretally/RefundRequest$Involuntary$Reason" "written" "Ljava/lang/String;" .null := D885 (Or.inr (own_w hw 96 rfl)) (ty := (.object "java/lang/String")) (by decide)
  have K885 : Keep h0 h885 [] := K884.ext E885
  have XX885 : Ext Z.heap h885 := own_ext2 XX884 E885
  have ne_b880_b883 : b880 ≠ b883 := Nat.ne_of_lt (Nat.lt_of_lt_of_le q879_E_b880.lt (Nat.le_of_eq g883.symm))
  have f887_F_b880_coder : Fld Z h885 b880 "java/lang/String" "coder" "B" (.int (0 : Int32)) := (((q879_F_b880_coder.ext E883).keep K884q (ninS ne_b880_b883 (nin0))).ext E885)
  have f888_F_b880_value : Fld Z h885 b880 "java/lang/String" "value" "[B" (.ref b881) := (((q879_F_b880_value.ext E883).keep K884q (ninS ne_b880_b883 (nin0))).ext E885)
  have ne_b881_b883 : b881 ≠ b883 := Nat.ne_of_lt (Nat.lt_of_lt_of_le q879_V_b881.lt (Nat.le_of_eq g883.symm))
  have f889_V_b881 : Arv Z h885 b881 k882 .byte (3 : Int32) [(.int (da.toInt8.toInt32)), (.int (db.toInt8.toInt32)), (.int (dc.toInt8.toInt32))] (.int (0 : Int32)) := (((q879_V_b881.ext E883).keep K884q (ninS ne_b881_b883 (nin0))).ext E885)
  obtain ⟨_, T886, Lc886, X886, hQ886, st886⟩ := own_special (y := y_18) X885 hx hZ hown rfl (own_w hw 46 rfl) (own_w hw 47 rfl) (own_w hw 45 rfl) (own_w hw 48 rfl) (rm393 l Z a0 hw [] w_CS w_SF da db dc b880 b881 k882 b885 h885 XX885 S_w_CS S_w_SF R_w_SF A885 F_b885_written (((q879_E_b880.ext E883).keep K884q).ext E885) f887_F_b880_coder f888_F_b880_value f889_V_b881 g_b885 hc1 hc43 hc46 hc54 hc56 hc59 hc61) e885 b885 (g := (mkF m 243 (own_T q1 q2 p3 3 ca cb cc 3 da db dc (rv b876) (rv b880) (iv (0 : Int32)) (rv b883) .unset .unset) [(.ref b880), (.ref b885), (.ref b885)])) (argsL := [(.ref b880)]) (rest := [(.ref b885)]) (W := 1) (lenOf pd_15 rfl) (hb hby at_243) hml
  obtain ⟨rfl, N886q, K886q, q886_E_b885, q886_F_b885_written⟩ := hQ886
  have K886 : Keep h0 T886.heap [] := K885.trans K886q (allS (Or.inr sz_b885) all0)
  have XX886 : Ext Z.heap T886.heap := own_extK XX885 K886q (allS g_b885 all0)
  have N886 := Fr.app N884 N886q
  have ne_b883_b885 : b883 ≠ b885 := Nat.ne_of_lt (Nat.lt_of_lt_of_le q884_E_b883.lt (Nat.le_of_eq g885.symm))
  have f918_F_b883_written : Fld Z T886.heap b883 "com/example/faretally/faretally/RefundRequest$Involuntary$Reason" "written" "Ljava/lang/String;" (.ref b876) := ((q884_F_b883_written.ext E885).keep K886q (ninS ne_b883_b885 (nin0)))
  have f919_E_b876 : Exa Z T886.heap b876 "java/lang/String" := (((((q875_E_b876.keep K879q).ext E883).keep K884q).ext E885).keep K886q)
  have ne_b876_b883 : b876 ≠ b883 := Nat.ne_of_lt (Nat.lt_of_lt_of_le (q875_E_b876.keep K879q).lt (Nat.le_of_eq g883.symm))
  have ne_b876_b885 : b876 ≠ b885 := Nat.ne_of_lt (Nat.lt_of_lt_of_le (((q875_E_b876.keep K879q).ext E883).keep K884q).lt (Nat.le_of_eq g885.symm))
  have f920_F_b876_coder : Fld Z T886.heap b876 "java/lang/String" "coder" "B" (.int (0 : Int32)) := (((((q875_F_b876_coder.keep K879q nin0).ext E883).keep K884q (ninS ne_b876_b883 (nin0))).ext E885).keep K886q (ninS ne_b876_b885 (nin0)))
  have f921_F_b876_value : Fld Z T886.heap b876 "java/lang/String" "value" "[B" (.ref b877) := (((((q875_F_b876_value.keep K879q nin0).ext E883).keep K884q (ninS ne_b876_b883 (nin0))).ext E885).keep K886q (ninS ne_b876_b885 (nin0)))
  have ne_b880_b885 : b880 ≠ b885 := Nat.ne_of_lt (Nat.lt_of_lt_of_le ((q879_E_b880.ext E883).keep K884q).lt (Nat.le_of_eq g885.symm))
  have ne_b877_b883 : b877 ≠ b883 := Nat.ne_of_lt (Nat.lt_of_lt_of_le (q875_V_b877.keep K879q nin0).lt (Nat.le_of_eq g883.symm))
  have ne_b877_b885 : b877 ≠ b885 := Nat.ne_of_lt (Nat.lt_of_lt_of_le (((q875_V_b877.keep K879q nin0).ext E883).keep K884q (ninS ne_b877_b883 (nin0))).lt (Nat.le_of_eq g885.symm))
  have f922_V_b877 : Arv Z T886.heap b877 k878 .byte (3 : Int32) [(.int (ca.toInt8.toInt32)), (.int (cb.toInt8.toInt32)), (.int (cc.toInt8.toInt32))] (.int (0 : Int32)) := (((((q875_V_b877.keep K879q nin0).ext E883).keep K884q (ninS ne_b877_b883 (nin0))).ext E885).keep K886q (ninS ne_b877_b885 (nin0)))
  have ne_b881_b885 : b881 ≠ b885 := Nat.ne_of_lt (Nat.lt_of_lt_of_le ((q879_V_b881.ext E883).keep K884q (ninS ne_b881_b883 (nin0))).lt (Nat.le_of_eq g885.symm))
  have ne_b876_b880 : b876 ≠ b880 := Nat.ne_of_lt (Nat.lt_of_lt_of_le q875_E_b876.lt szn_b880)
  obtain ⟨_, T917, Lc917, X917, hQ917, st917⟩ := own_virtual (y := y_21) X886 hx hZ hown (own_w hw 97 rfl) (own_w hw 98 rfl) (own_w hw 100 rfl) (own_w hw 99 rfl) (own_w hw 45 rfl) (own_w hw 101 rfl) (rm890 l Z a0 hw [] w_CS ca cb cc da db dc b876 b877 k878 b880 b881 k882 b883 b885 T886.heap XX886 S_w_CS f918_F_b883_written q886_E_b885 q886_F_b885_written f919_E_b876 f920_F_b876_coder f921_F_b876_value ((((q879_E_b880.ext E883).keep K884q).ext E885).keep K886q) (f887_F_b880_coder.keep K886q (ninS ne_b880_b885 (nin0))) (f888_F_b880_value.keep K886q (ninS ne_b880_b885 (nin0))) f922_V_b877 (f889_V_b881.keep K886q (ninS ne_b881_b885 (nin0))) ne_b876_b880 hc1 hc52 hc73 hc83) rfl ((q884_E_b883.ext E885).keep K886q) (g := (mkF m 252 (own_T q1 q2 p3 3 ca cb cc 3 da db dc (rv b876) (rv b880) (iv (0 : Int32)) (rv b883) (rv b885) .unset) [(.ref b885), (.ref b883)])) (argsL := [(.ref b885)]) (rest := []) (W := 0) (lenOf pd_17 rfl) (hb hby at_252) hml
  obtain ⟨rfl, N917q, e917⟩ := hQ917
  have N917 := Fr.app N886 N917q
  obtain ⟨_, T923, Lc923, X923, hQ923, st923⟩ := own_virtual (y := y_21) X917 hx hZ hown (own_w hw 97 rfl) (own_w hw 98 rfl) (own_w hw 100 rfl) (own_w hw 99 rfl) (own_w hw 45 rfl) (own_w hw 101 rfl) (rm890 l Z a0 hw [] w_CS da db dc ca cb cc b880 b881 k882 b876 b877 k878 b885 b883 T886.heap XX886 S_w_CS q886_F_b885_written ((q884_E_b883.ext E885).keep K886q) f918_F_b883_written ((((q879_E_b880.ext E883).keep K884q).ext E885).keep K886q) (f887_F_b880_coder.keep K886q (ninS ne_b880_b885 (nin0))) (f888_F_b880_value.keep K886q (ninS ne_b880_b885 (nin0))) f919_E_b876 f920_F_b876_coder f921_F_b876_value (f889_V_b881.keep K886q (ninS ne_b881_b885 (nin0))) f922_V_b877 (Ne.symm ne_b876_b880) hc1 hc53 hc74 hc84) e917 q886_E_b885 (g := (mkF m 276 (own_T q1 q2 p3 3 ca cb cc 3 da db dc (rv b876) (rv b880) (iv (0 : Int32)) (rv b883) (rv b885) (iv (1 : Int32))) [(.ref b883), (.ref b885)])) (argsL := [(.ref b883)]) (rest := []) (W := 0) (lenOf pd_17 rfl) (hb hby at_276) hml
  obtain ⟨rfl, N923q, e923⟩ := hQ923
  have N923 := Fr.app N917 N923q
  obtain ⟨_, T924, Lc924, X924, hQ924, st924⟩ := own_virtual (y := y_21) X923 hx hZ hown (own_w hw 97 rfl) (own_w hw 98 rfl) (own_w hw 100 rfl) (own_w hw 99 rfl) (own_w hw 45 rfl) (own_w hw 101 rfl) (rm132 l Z a0 hw [] b876 b883 T886.heap XX886 ((q884_E_b883.ext E885).keep K886q) f918_F_b883_written f919_E_b876) e923 ((q884_E_b883.ext E885).keep K886q) (g := (mkF m 300 (own_T q1 q2 p3 3 ca cb cc 3 da db dc (rv b876) (rv b880) (iv (0 : Int32)) (rv b883) (rv b885) (iv (1 : Int32))) [(.ref b883), (.ref b883)])) (argsL := [(.ref b883)]) (rest := []) (W := 0) (lenOf pd_17 rfl) (hb hby at_300) hml
  obtain ⟨rfl, N924q, e924⟩ := hQ924
  have N924 := Fr.app N923 N924q
  obtain ⟨_, T925, Lc925, X925, hQ925, st925⟩ := own_virtual (y := y_21) X924 hx hZ hown (own_w hw 97 rfl) (own_w hw 98 rfl) (own_w hw 100 rfl) (own_w hw 99 rfl) (own_w hw 45 rfl) (own_w hw 101 rfl) (rm140 l Z a0 hw [] b876 b883 T886.heap XX886 f919_E_b876) e924 ((q884_E_b883.ext E885).keep K886q) (g := (mkF m 322 (own_T q1 q2 p3 3 ca cb cc 3 da db dc (rv b876) (rv b880) (iv (0 : Int32)) (rv b883) (rv b885) (iv (1 : Int32))) [(.ref b876), (.ref b883)])) (argsL := [(.ref b876)]) (rest := []) (W := 0) (lenOf pd_17 rfl) (hb hby at_322) hml
  obtain ⟨rfl, N925q, e925⟩ := hQ925
  have N925 := Fr.app N924 N925q
  obtain ⟨_, T926, Lc926, X926, hQ926, st926⟩ := own_virtual (y := y_21) X925 hx hZ hown (own_w hw 97 rfl) (own_w hw 98 rfl) (own_w hw 100 rfl) (own_w hw 99 rfl) (own_w hw 45 rfl) (own_w hw 101 rfl) (rm143 l Z a0 hw [] b883 T886.heap XX886 ) e925 ((q884_E_b883.ext E885).keep K886q) (g := (mkF m 343 (own_T q1 q2 p3 3 ca cb cc 3 da db dc (rv b876) (rv b880) (iv (0 : Int32)) (rv b883) (rv b885) (iv (1 : Int32))) [.null, (.ref b883)])) (argsL := [.null]) (rest := []) (W := 0) (lenOf pd_17 rfl) (hb hby at_343) hml
  obtain ⟨rfl, N926q, e926⟩ := hQ926
  have N926 := Fr.app N925 N926q
  obtain ⟨fs, hr, hrun, hended, hW, hsame⟩ := X926.leave (v := some (.int (1 : Int32))) (fun h => by rw [hret] at h; cases h) hlk
  refine ⟨_, _, ?_, hrun, hended, _, _, rfl, ⟨rfl, N926⟩, ⟨_, rfl⟩, hW, hsame.mono (by decide) (by decide)⟩
  show own_S p e below T0 (mkF m 153 (own_T q1 q2 p3 3 ca cb cc 3 da db dc .unset .unset .unset .unset .unset .unset) []) _
  refine own_i X0 hx hby at_153 ?_
  refine own_i X0 hx hby at_155 ?_
  refine own_i X0 hx hby at_157 ?_
  refine own_i X0 hx hby at_159 ?_
  refine st875 _ ?_
  refine XS.astore X875.here hx rfl (hb hby at_164) rfl rfl (l' := (own_T q1 q2 p3 3 ca cb cc 3 da db dc (rv b876) .unset .unset .unset .unset .unset)) rfl ?_
  refine own_i X875 hx hby at_166 ?_
  refine own_i X875 hx hby at_168 ?_
  refine own_i X875 hx hby at_170 ?_
  refine own_i X875 hx hby at_172 ?_
  refine st879 _ ?_
  refine XS.astore X879.here hx rfl (hb hby at_177) rfl rfl (l' := (own_T q1 q2 p3 3 ca cb cc 3 da db dc (rv b876) (rv b880) .unset .unset .unset .unset)) rfl ?_
  refine own_i X879 hx hby at_179 ?_
  refine own_i X879 hx hby at_181 ?_
  refine own_cn X879 hx hby at_183 (teq (rfl : (3 : Int32) = (3 : Int32))).2 ?_
  refine own_i X879 hx hby at_186 ?_
  refine own_i X879 hx hby at_188 ?_
  refine own_cn X879 hx hby at_190 (teq hc50).2 ?_
  refine own_i X879 hx hby at_193 ?_
  refine own_k X879 hx hby at_195 ?_
  refine own_cn X879 hx hby at_196 (flt (by decide : ¬ ((3 : Int32) < (2 : Int32)))).1 ?_
  refine own_i X879 hx hby at_199 ?_
  refine own_i X879 hx hby at_201 ?_
  refine own_cn X879 hx hby at_203 (teq hc71).2 ?_
  refine own_i X879 hx hby at_206 ?_
  refine own_k X879 hx hby at_208 ?_
  refine own_cn X879 hx hby at_209 (flt (Int32.lt_irrefl : ¬ ((3 : Int32) < (3 : Int32)))).1 ?_
  refine own_i X879 hx hby at_212 ?_
  refine own_i X879 hx hby at_214 ?_
  refine own_cy (pc := 216) X879 hx hby at_216 (feq hc81).2 223 ?_
  refine own_k X879 hx hby at_223 ?_
  refine XS.istore X879.here hx rfl (hb hby at_224) rfl (l' := (own_T q1 q2 p3 3 ca cb cc 3 da db dc (rv b876) (rv b880) (iv (0 : Int32)) .unset .unset .unset)) rfl ?_
  refine st883 _ ?_
  refine XS.dup X883.here hx rfl (hb hby at_229) rfl rfl ?_
  refine own_a X883 hx hby at_230 ?_
  refine st884 _ ?_
  refine XS.astore X884.here hx rfl (hb hby at_235) rfl rfl (l' := (own_T q1 q2 p3 3 ca cb cc 3 da db dc (rv b876) (rv b880) (iv (0 : Int32)) (rv b883) .unset .unset)) rfl ?_
  refine st885 _ ?_
  refine XS.dup X885.here hx rfl (hb hby at_240) rfl rfl ?_
  refine own_a X885 hx hby at_241 ?_
  refine st886 _ ?_
  refine XS.astore X886.here hx rfl (hb hby at_246) rfl rfl (l' := (own_T q1 q2 p3 3 ca cb cc 3 da db dc (rv b876) (rv b880) (iv (0 : Int32)) (rv b883) (rv b885) .unset)) rfl ?_
  refine own_a X886 hx hby at_248 ?_
  refine own_a X886 hx hby at_250 ?_
  refine st917 _ ?_
  refine own_i X917 hx hby at_255 ?_
  refine own_cn X917 hx hby at_257 (teq (rfl : (0 : Int32) = (0 : Int32))).2 ?_
  refine own_k X917 hx hby at_260 ?_
  refine own_go (pc := 261) X917 hx hby at_261 265 ?_
  refine XS.istore X917.here hx rfl (hb hby at_265) rfl (l' := (own_T q1 q2 p3 3 ca cb cc 3 da db dc (rv b876) (rv b880) (iv (0 : Int32)) (rv b883) (rv b885) (iv (1 : Int32)))) rfl ?_
  refine own_i X917 hx hby at_267 ?_
  refine own_in X917 hx hby at_269 (feq (by decide : ¬ ((1 : Int32) = (0 : Int32)))).1 ?_
  refine own_a X917 hx hby at_272 ?_
  refine own_a X917 hx hby at_274 ?_
  refine st923 _ ?_
  refine own_i X923 hx hby at_279 ?_
  refine own_cn X923 hx hby at_281 (teq (rfl : (0 : Int32) = (0 : Int32))).2 ?_
  refine own_k X923 hx hby at_284 ?_
  refine own_go (pc := 285) X923 hx hby at_285 289 ?_
  refine XS.istore X923.here hx rfl (hb hby at_289) rfl (l' := (own_T q1 q2 p3 3 ca cb cc 3 da db dc (rv b876) (rv b880) (iv (0 : Int32)) (rv b883) (rv b885) (iv (1 : Int32)))) rfl ?_
  refine own_i X923 hx hby at_291 ?_
  refine own_in X923 hx hby at_293 (feq (by decide : ¬ ((1 : Int32) = (0 : Int32)))).1 ?_
  refine own_a X923 hx hby at_296 ?_
  refine own_a X923 hx hby at_298 ?_
  refine st924 _ ?_
  refine own_in X924 hx hby at_303 (feq (by decide : ¬ ((1 : Int32) = (0 : Int32)))).1 ?_
  refine own_k X924 hx hby at_306 ?_
  refine own_go (pc := 307) X924 hx hby at_307 311 ?_
  refine XS.istore X924.here hx rfl (hb hby at_311) rfl (l' := (own_T q1 q2 p3 3 ca cb cc 3 da db dc (rv b876) (rv b880) (iv (0 : Int32)) (rv b883) (rv b885) (iv (1 : Int32)))) rfl ?_
  refine own_i X924 hx hby at_313 ?_
  refine own_in X924 hx hby at_315 (feq (by decide : ¬ ((1 : Int32) = (0 : Int32)))).1 ?_
  refine own_a X924 hx hby at_318 ?_
  refine own_a X924 hx hby at_320 ?_
  refine st925 _ ?_
  refine own_in X925 hx hby at_325 (teq (rfl : (0 : Int32) = (0 : Int32))).2 ?_
  refine own_k X925 hx hby at_328 ?_
  refine own_go (pc := 329) X925 hx hby at_329 333 ?_
  refine XS.istore X925.here hx rfl (hb hby at_333) rfl (l' := (own_T q1 q2 p3 3 ca cb cc 3 da db dc (rv b876) (rv b880) (iv (0 : Int32)) (rv b883) (rv b885) (iv (1 : Int32)))) rfl ?_
  refine own_i X925 hx hby at_335 ?_
  refine own_in X925 hx hby at_337 (feq (by decide : ¬ ((1 : Int32) = (0 : Int32)))).1 ?_
  refine own_a X925 hx hby at_340 ?_
  refine XS.aconstNull X925.here hx rfl (hb hby at_342) ?_
  refine st926 _ ?_
  refine own_in X926 hx hby at_346 (teq (rfl : (0 : Int32) = (0 : Int32))).2 ?_
  refine own_k X926 hx hby at_349 ?_
  refine own_go (pc := 350) X926 hx hby at_350 354 ?_
  refine XS.istore X926.here hx rfl (hb hby at_354) rfl (l' := (own_T q1 q2 p3 3 ca cb cc 3 da db dc (rv b876) (rv b880) (iv (0 : Int32)) (rv b883) (rv b885) (iv (1 : Int32)))) rfl ?_
  refine own_i X926 hx hby at_356 ?_
  exact retN X926 hx (t := .boolean) hret (by simp) (hb hby at_358) hr
def Qrm955 (Z : State) (ca cb cc da db dc : Int32) (b929 : Addr) (k930 : ClassId) (b933 : Addr) (k934 : ClassId) (h0 : Heap) (v : Option Value) (h : Heap) (L : List Loc) : Prop := v = some (.int (1 : Int32)) ∧ Fr Z.heap.size L ∧ h = h0
theorem rm955 (l : Launch) (Z : State) (a0 : Array Value) (hw : own_HW Z a0) (ws : List Jvm.Cond) (ca cb cc da db dc : Int32) (b929 : Addr) (k930 : ClassId) (b933 : Addr) (k934 : ClassId) (h0 : Heap) (Z0 : Ext Z.heap h0) (V_b929 : Arv Z h0 b929 k930 .byte (3 : Int32) [(.int (ca.toInt8.toInt32)), (.int (cb.toInt8.toInt32)), (.int (cc.toInt8.toInt32))] (.int (0 : Int32))) (V_b933 : Arv Z h0 b933 k934 .byte (3 : Int32) [(.int (da.toInt8.toInt32)), (.int (db.toInt8.toInt32)), (.int (dc.toInt8.toInt32))] (.int (0 : Int32))) (hc52 : (ca.toInt8.toInt32) = (da.toInt8.toInt32)) (hc73 : (cb.toInt8.toInt32) = (db.toInt8.toInt32)) (hc87 : (cc.toInt8.toInt32) = (dc.toInt8.toInt32)) :
    own_met l y_19 jdk_43_method_13_code 3 (some .boolean) ws ({ frames := 0, cells := 0, slots := 0, locals := 0 } : Room) Z #[(.ref b929), (.ref b933)] h0 (Qrm955 Z ca cb cc da db dc b929 k930 b933 k934 h0) := by
  refine own_start (plainFor_of_name pn_5) (fun m => ef_jdk_43_method_13_RR m b929 b933) ?_
  intro p e s m below meth c s₁ hx hby hml hown hnm X0 hZ e0 hret hlk
  have N0 := Fr.nil Z.heap.size
  obtain ⟨cl956, Ar956, q956, S956, Nn956, H956, G956⟩ := id V_b929
  obtain ⟨cl957, Ar957, q957, S957, Nn957, H957, G957⟩ := id V_b933
  obtain ⟨cl958, Ar958, q958, S958, Nn958, H958, G958⟩ := id V_b929
  obtain ⟨cl959, Ar959, q959, S959, Nn959, H959, G959⟩ := id V_b929
  have hin959 : ¬ ((0 : Int32) < 0 ∨ cl959.slots.size ≤ ((0 : Int32)).toNatClampNeg) := inb_of S959 ⟨by decide, by decide⟩
  have hat959 : cl959.slots[((0 : Int32)).toNatClampNeg]? = some (.int (ca.toInt8.toInt32)) := Has.at H959 hin959 rfl
  obtain ⟨cl960, Ar960, q960, S960, Nn960, H960, G960⟩ := id V_b933
  have hin960 : ¬ ((0 : Int32) < 0 ∨ cl960.slots.size ≤ ((0 : Int32)).toNatClampNeg) := inb_of S960 ⟨by decide, by decide⟩
  have hat960 : cl960.slots[((0 : Int32)).toNatClampNeg]? = some (.int (da.toInt8.toInt32)) := Has.at H960 hin960 rfl
  obtain ⟨cl961, Ar961, q961, S961, Nn961, H961, G961⟩ := id V_b929
  obtain ⟨cl962, Ar962, q962, S962, Nn962, H962, G962⟩ := id V_b929
  have hin962 : ¬ ((1 : Int32) < 0 ∨ cl962.slots.size ≤ ((1 : Int32)).toNatClampNeg) := inb_of S962 ⟨by decide, by decide⟩
  have hat962 : cl962.slots[((1 : Int32)).toNatClampNeg]? = some (.int (cb.toInt8.toInt32)) := Has.at H962 hin962 rfl
  obtain ⟨cl963, Ar963, q963, S963, Nn963, H963, G963⟩ := id V_b933
  have hin963 : ¬ ((1 : Int32) < 0 ∨ cl963.slots.size ≤ ((1 : Int32)).toNatClampNeg) := inb_of S963 ⟨by decide, by decide⟩
  have hat963 : cl963.slots[((1 : Int32)).toNatClampNeg]? = some (.int (db.toInt8.toInt32)) := Has.at H963 hin963 rfl
  obtain ⟨cl964, Ar964, q964, S964, Nn964, H964, G964⟩ := id V_b929
  obtain ⟨cl965, Ar965, q965, S965, Nn965, H965, G965⟩ := id V_b929
  have hin965 : ¬ ((2 : Int32) < 0 ∨ cl965.slots.size ≤ ((2 : Int32)).toNatClampNeg) := inb_of S965 ⟨by decide, by decide⟩
  have hat965 : cl965.slots[((2 : Int32)).toNatClampNeg]? = some (.int (cc.toInt8.toInt32)) := Has.at H965 hin965 rfl
  obtain ⟨cl966, Ar966, q966, S966, Nn966, H966, G966⟩ := id V_b933
  have hin966 : ¬ ((2 : Int32) < 0 ∨ cl966.slots.size ≤ ((2 : Int32)).toNatClampNeg) := inb_of S966 ⟨by decide, by decide⟩
  have hat966 : cl966.slots[((2 : Int32)).toNatClampNeg]? = some (.int (dc.toInt8.toInt32)) := Has.at H966 hin966 rfl
  obtain ⟨cl967, Ar967, q967, S967, Nn967, H967, G967⟩ := id V_b929
  obtain ⟨fs, hr, hrun, hended, hW, hsame⟩ := X0.leave (v := some (.int (1 : Int32))) (fun h => by rw [hret] at h; cases h) hlk
  refine ⟨_, _, ?_, hrun, hended, _, _, rfl, ?_, ⟨_, rfl⟩, hW, hsame.mono (by decide) (by decide)⟩
  · show own_S p e below s₁ (mkF m 0 #[rv b929, rv b933, .unset] []) _
    refine own_aN X0 hx hby d23_0 ?_
    refine X0.arraylength hx (by rw [e0]; exact Ar956.1) (State.isArrayOf_alike hZ.alike Ar956.2.1) (g := (mkF m 1 #[rv b929, rv b933, .unset] [(.ref b929)])) rfl rfl (hb hby d23_1) _ ?_
    rw [len_of S956 Nn956]
    refine own_aN X0 hx hby d23_2 ?_
    refine X0.arraylength hx (by rw [e0]; exact Ar957.1) (State.isArrayOf_alike hZ.alike Ar957.2.1) (g := (mkF m 3 #[rv b929, rv b933, .unset] [(.ref b933), (.int (3 : Int32))])) rfl rfl (hb hby d23_3) _ ?_
    rw [len_of S957 Nn957]
    refine own_cn X0 hx hby d23_4 (teq (rfl : (3 : Int32) = (3 : Int32))).2 ?_
    refine own_k X0 hx hby d23_7 ?_
    refine XS.istoreN X0.here hx rfl (hb hby d23_8) rfl (l' := #[rv b929, rv b933, iv (0 : Int32)]) rfl ?_
    refine own_iN X0 hx hby d23_9 ?_
    refine own_aN X0 hx hby d23_10 ?_
    refine X0.arraylength hx (by rw [e0]; exact Ar958.1) (State.isArrayOf_alike hZ.alike Ar958.2.1) (g := (mkF m 11 #[rv b929, rv b933, iv (0 : Int32)] [(.ref b929), (.int (0 : Int32))])) rfl rfl (hb hby d23_11) _ ?_
    rw [len_of S958 Nn958]
    refine own_cn X0 hx hby d23_12 (tlt (by decide : (0 : Int32) < (3 : Int32))).2.1 ?_
    refine own_aN X0 hx hby d23_15 ?_
    refine own_iN X0 hx hby d23_16 ?_
    refine X0.baloadBytes hx (j := (0 : Int32)) (v := (.int (ca.toInt8.toInt32))) (by rw [e0]; exact Ar959.1) (State.isArrayOf_alike hZ.alike Ar959.2.1) Ar959.2.2 hin959 hat959 (g := (mkF m 17 #[rv b929, rv b933, iv (0 : Int32)] [(.int (0 : Int32)), (.ref b929)])) rfl rfl (hb hby d23_17) _ ?_
    refine own_aN X0 hx hby d23_18 ?_
    refine own_iN X0 hx hby d23_19 ?_
    refine X0.baloadBytes hx (j := (0 : Int32)) (v := (.int (da.toInt8.toInt32))) (by rw [e0]; exact Ar960.1) (State.isArrayOf_alike hZ.alike Ar960.2.1) Ar960.2.2 hin960 hat960 (g := (mkF m 20 #[rv b929, rv b933, iv (0 : Int32)] [(.int (0 : Int32)), (.ref b933), (.int (ca.toInt8.toInt32))])) rfl rfl (hb hby d23_20) _ ?_
    refine own_cy (pc := 21) X0 hx hby d23_21 (teq hc52).1 26 ?_
    refine XS.iinc X0.here hx rfl (hb hby d23_26) rfl (l' := #[rv b929, rv b933, iv (1 : Int32)]) rfl ?_
    refine own_go (pc := 29) X0 hx hby d23_29 9 ?_
    refine own_iN X0 hx hby d23_9 ?_
    refine own_aN X0 hx hby d23_10 ?_
    refine X0.arraylength hx (by rw [e0]; exact Ar961.1) (State.isArrayOf_alike hZ.alike Ar961.2.1) (g := (mkF m 11 #[rv b929, rv b933, iv (1 : Int32)] [(.ref b929), (.int (1 : Int32))])) rfl rfl (hb hby d23_11) _ ?_
    rw [len_of S961 Nn961]
    refine own_cn X0 hx hby d23_12 (tlt (by decide : (1 : Int32) < (3 : Int32))).2.1 ?_
    refine own_aN X0 hx hby d23_15 ?_
    refine own_iN X0 hx hby d23_16 ?_
    refine X0.baloadBytes hx (j := (1 : Int32)) (v := (.int (cb.toInt8.toInt32))) (by rw [e0]; exact Ar962.1) (State.isArrayOf_alike hZ.alike Ar962.2.1) Ar962.2.2 hin962 hat962 (g := (mkF m 17 #[rv b929, rv b933, iv (1 : Int32)] [(.int (1 : Int32)), (.ref b929)])) rfl rfl (hb hby d23_17) _ ?_
    refine own_aN X0 hx hby d23_18 ?_
    refine own_iN X0 hx hby d23_19 ?_
    refine X0.baloadBytes hx (j := (1 : Int32)) (v := (.int (db.toInt8.toInt32))) (by rw [e0]; exact Ar963.1) (State.isArrayOf_alike hZ.alike Ar963.2.1) Ar963.2.2 hin963 hat963 (g := (mkF m 20 #[rv b929, rv b933, iv (1 : Int32)] [(.int (1 : Int32)), (.ref b933), (.int (cb.toInt8.toInt32))])) rfl rfl (hb hby d23_20) _ ?_
    refine own_cy (pc := 21) X0 hx hby d23_21 (teq hc73).1 26 ?_
    refine XS.iinc X0.here hx rfl (hb hby d23_26) rfl (l' := #[rv b929, rv b933, iv (2 : Int32)]) rfl ?_
    refine own_go (pc := 29) X0 hx hby d23_29 9 ?_
    refine own_iN X0 hx hby d23_9 ?_
    refine own_aN X0 hx hby d23_10 ?_
    refine X0.arraylength hx (by rw [e0]; exact Ar964.1) (State.isArrayOf_alike hZ.alike Ar964.2.1) (g := (mkF m 11 #[rv b929, rv b933, iv (2 : Int32)] [(.ref b929), (.int (2 : Int32))])) rfl rfl (hb hby d23_11) _ ?_
    rw [len_of S964 Nn964]
    refine own_cn X0 hx hby d23_12 (tlt (by decide : (2 : Int32) < (3 : Int32))).2.1 ?_
    refine own_aN X0 hx hby d23_15 ?_
    refine own_iN X0 hx hby d23_16 ?_
    refine X0.baloadBytes hx (j := (2 : Int32)) (v := (.int (cc.toInt8.toInt32))) (by rw [e0]; exact Ar965.1) (State.isArrayOf_alike hZ.alike Ar965.2.1) Ar965.2.2 hin965 hat965 (g := (mkF m 17 #[rv b929, rv b933, iv (2 : Int32)] [(.int (2 : Int32)), (.ref b929)])) rfl rfl (hb hby d23_17) _ ?_
    refine own_aN X0 hx hby d23_18 ?_
    refine own_iN X0 hx hby d23_19 ?_
    refine X0.baloadBytes hx (j := (2 : Int32)) (v := (.int (dc.toInt8.toInt32))) (by rw [e0]; exact Ar966.1) (State.isArrayOf_alike hZ.alike Ar966.2.1) Ar966.2.2 hin966 hat966 (g := (mkF m 20 #[rv b929, rv b933, iv (2 : Int32)] [(.int (2 : Int32)), (.ref b933), (.int (cc.toInt8.toInt32))])) rfl rfl (hb hby d23_20) _ ?_
    refine own_cy (pc := 21) X0 hx hby d23_21 (teq hc87).1 26 ?_
    refine XS.iinc X0.here hx rfl (hb hby d23_26) rfl (l' := #[rv b929, rv b933, iv (3 : Int32)]) rfl ?_
    refine own_go (pc := 29) X0 hx hby d23_29 9 ?_
    refine own_iN X0 hx hby d23_9 ?_
    refine own_aN X0 hx hby d23_10 ?_
    refine X0.arraylength hx (by rw [e0]; exact Ar967.1) (State.isArrayOf_alike hZ.alike Ar967.2.1) (g := (mkF m 11 #[rv b929, rv b933, iv (3 : Int32)] [(.ref b929), (.int (3 : Int32))])) rfl rfl (hb hby d23_11) _ ?_
    rw [len_of S967 Nn967]
    refine own_cy (pc := 12) X0 hx hby d23_12 (flt (Int32.lt_irrefl : ¬ ((3 : Int32) < (3 : Int32)))).2.1 32 ?_
    refine own_k X0 hx hby d23_32 ?_
    exact retN X0 hx (t := .boolean) hret (by simp) (hb hby d23_33) hr
  · show Qrm955 Z ca cb cc da db dc b929 k930 b933 k934 h0 _ s₁.heap _
    rw [e0]
    exact ⟨rfl, N0, rfl⟩
def Qrm947 (Z : State) (w_CS ca cb cc da db dc : Int32) (b928 b929 : Addr) (k930 : ClassId) (b932 b933 : Addr) (k934 : ClassId) (h0 : Heap) (v : Option Value) (h : Heap) (L : List Loc) : Prop := v = some (.int (1 : Int32)) ∧ Fr Z.heap.size L ∧ h = h0
theorem rm947 (l : Launch) (Z : State) (a0 : Array Value) (hw : own_HW Z a0) (ws : List Jvm.Cond) (w_CS ca cb cc da db dc : Int32) (b928 b929 : Addr) (k930 : ClassId) (b932 b933 : Addr) (k934 : ClassId) (h0 : Heap) (Z0 : Ext Z.heap h0) (S_w_CS : own_w_CS Z w_CS) (F_b928_coder : Fld Z h0 b928 "java/lang/String" "coder" "B" (.int (0 : Int32))) (F_b928_value : Fld Z h0 b928 "java/lang/String" "value" "[B" (.ref b929)) (E_b932 : Exa Z h0 b932 "java/lang/String") (F_b932_coder : Fld Z h0 b932 "java/lang/String" "coder" "B" (.int (0 : Int32))) (F_b932_value : Fld Z h0 b932 "java/lang/String" "value" "[B" (.ref b933)) (V_b929 : Arv Z h0 b929 k930 .byte (3 : Int32) [(.int (ca.toInt8.toInt32)), (.int (cb.toInt8.toInt32)), (.int (cc.toInt8.toInt32))] (.int (0 : Int32))) (V_b933 : Arv Z h0 b933 k934 .byte (3 : Int32) [(.int (da.toInt8.toInt32)), (.int (db.toInt8.toInt32)), (.int (dc.toInt8.toInt32))] (.int (0 : Int32))) (hc86 : b928 ≠ b932) (hc1 : ¬ (w_CS = (0 : Int32))) (hc52 : (ca.toInt8.toInt32) = (da.toInt8.toInt32)) (hc73 : (cb.toInt8.toInt32) = (db.toInt8.toInt32)) (hc87 : (cc.toInt8.toInt32) = (dc.toInt8.toInt32)) :
    own_met l y_20 jdk_42_method_66_code 3 (some .boolean) ws ({ frames := 1, cells := 0, slots := 0, locals := 14 } : Room) Z #[(.ref b928), (.ref b932)] h0 (Qrm947 Z w_CS ca cb cc da db dc b928 b929 k930 b932 b933 k934 h0) := by
  refine own_start (plainFor_of_name pn_2) (fun m => ef_jdk_42_method_66_RR m b928 b932) ?_
  intro p e s m below meth c s₁ hx hby hml hown hnm X0 hZ e0 hret hlk
  have N0 := Fr.nil Z.heap.size
  obtain ⟨T948, X948, e948, st948⟩ := instY X0 hx hZ hown (own_w hw 109 rfl) e0 (Ins.self E_b932) (g := (mkF m 8 #[rv b928, rv b932, .unset] [(.ref b932)])) rfl rfl (hb hby d22_8)
  obtain ⟨T949, X949, e949, st949⟩ := castY X948 hx hZ hown (own_w hw 109 rfl) e948 (Ins.self E_b932) (g := (mkF m 15 #[rv b928, rv b932, .unset] [(.ref b932)])) rfl rfl (hb hby d22_15)
  obtain ⟨T950, X950, e950, st950⟩ := getS2 X949 hx hZ hown (host := "") (Or.inl (own_w hw 27 rfl)) Via.refl e949 (S_w_CS.ext Z0) (g := (mkF m 19 #[rv b928, rv b932, rv b932] [])) rfl (hb hby d22_19)
  obtain ⟨T951, X951, e951, st951⟩ := getF X950 hx hZ hown (host := "") (Or.inl (own_w hw 39 rfl)) Via.refl e950 F_b928_coder (g := (mkF m 26 #[rv b928, rv b932, rv b932] [(.ref b928)])) rfl rfl (hb hby d22_26)
  obtain ⟨T952, X952, e952, st952⟩ := getF X951 hx hZ hown (host := "") (Or.inl (own_w hw 39 rfl)) Via.refl e951 F_b932_coder (g := (mkF m 30 #[rv b928, rv b932, rv b932] [(.ref b932), (.int (0 : Int32))])) rfl rfl (hb hby d22_30)
  obtain ⟨T953, X953, e953, st953⟩ := getF X952 hx hZ hown (host := "") (Or.inl (own_w hw 41 rfl)) Via.refl e952 F_b928_value (g := (mkF m 37 #[rv b928, rv b932, rv b932] [(.ref b928)])) rfl rfl (hb hby d22_37)
  obtain ⟨T954, X954, e954, st954⟩ := getF X953 hx hZ hown (host := "") (Or.inl (own_w hw 41 rfl)) Via.refl e953 F_b932_value (g := (mkF m 41 #[rv b928, rv b932, rv b932] [(.ref b932), (.ref b929)])) rfl rfl (hb hby d22_41)
  obtain ⟨_, T968, Lc968, X968, hQ968, st968⟩ := own_static (y := y_19) X954 hx hZ hown (own_w hw 110 rfl) (own_w hw 111 rfl) (own_w hw 75 rfl) (own_w hw 112 rfl) (rm955 l Z a0 hw [] ca cb cc da db dc b929 k930 b933 k934 h0 Z0 V_b929 V_b933 hc52 hc73 hc87) e954 (g := (mkF m 44 #[rv b928, rv b932, rv b932] [(.ref b933), (.ref b929)])) (argsL := [(.ref b929), (.ref b933)]) (rest := []) (W := 0) (lenOf pd_16 rfl) (hb hby d22_44) hml
  obtain ⟨rfl, N968q, e968⟩ := hQ968
  have N968 := Fr.app N0 N968q
  obtain ⟨fs, hr, hrun, hended, hW, hsame⟩ := X968.leave (v := some (.int (1 : Int32))) (fun h => by rw [hret] at h; cases h) hlk
  refine ⟨_, _, ?_, hrun, hended, _, _, rfl, ?_, ⟨_, rfl⟩, hW, hsame.mono (by decide) (by decide)⟩
  · show own_S p e below s₁ (mkF m 0 #[rv b928, rv b932, .unset] []) _
    refine own_aN X0 hx hby d22_0 ?_
    refine own_aN X0 hx hby d22_1 ?_
    refine Jvm.RoadKit.acmp (g := (mkF m 2 #[rv b928, rv b932, .unset] [(.ref b932), (.ref b928)])) X0 hx rfl rfl rfl (pc0 := 2) (pc' := 7) (same := false) rfl (hb hby d22_2) rfl (decide_eq_false fun q => hc86 (Value.ref.inj q)) (by decide) (by decide) ?_
    refine own_aN X0 hx hby d22_7 ?_
    refine st948 _ ?_
    refine own_in X948 hx hby d22_11 (feq (by decide : ¬ ((1 : Int32) = (0 : Int32)))).1 ?_
    refine own_aN X948 hx hby d22_14 ?_
    refine st949 _ ?_
    refine XS.astoreN X949.here hx rfl (hb hby d22_18) rfl rfl (l' := #[rv b928, rv b932, rv b932]) rfl ?_
    refine st950 _ ?_
    refine own_in X950 hx hby d22_22 (feq hc1).1 ?_
    refine own_aN X950 hx hby d22_25 ?_
    refine st951 _ ?_
    refine own_aN X951 hx hby d22_29 ?_
    refine st952 _ ?_
    refine own_cn X952 hx hby d22_33 (teq (rfl : (0 : Int32) = (0 : Int32))).2 ?_
    refine own_aN X952 hx hby d22_36 ?_
    refine st953 _ ?_
    refine own_aN X953 hx hby d22_40 ?_
    refine st954 _ ?_
    refine st968 _ ?_
    refine own_in X968 hx hby d22_47 (feq (by decide : ¬ ((1 : Int32) = (0 : Int32)))).1 ?_
    refine own_k X968 hx hby d22_50 ?_
    refine own_go (pc := 51) X968 hx hby d22_51 55 ?_
    exact retN X968 hx (t := .boolean) hret (by simp) (hb hby d22_55) hr
  · show Qrm947 Z w_CS ca cb cc da db dc b928 b929 k930 b932 b933 k934 h0 _ T968.heap _
    rw [e968]
    exact ⟨rfl, N968, rfl⟩
def Qrm942 (Z : State) (w_CS ca cb cc da db dc : Int32) (b928 b929 : Addr) (k930 : ClassId) (b932 b933 : Addr) (k934 : ClassId) (b935 b937 : Addr) (h0 : Heap) (v : Option Value) (h : Heap) (L : List Loc) : Prop := v = some (.int (1 : Int32)) ∧ Fr Z.heap.size L ∧ h = h0
theorem rm942 (l : Launch) (Z : State) (a0 : Array Value) (hw : own_HW Z a0) (ws : List Jvm.Cond) (w_CS ca cb cc da db dc : Int32) (b928 b929 : Addr) (k930 : ClassId) (b932 b933 : Addr) (k934 : ClassId) (b935 b937 : Addr) (h0 : Heap) (Z0 : Ext Z.heap h0) (S_w_CS : own_w_CS Z w_CS) (F_b935_written : Fld Z h0 b935 "com/example/faretally/faretally/RefundRequest$Involuntary$Reason" "written" "Ljava/lang/String;" (.ref b928)) (E_b937 : Exa Z h0 b937 "com/example/faretally/faretally/RefundRequest$Involuntary$Reason") (F_b937_written : Fld Z h0 b937 "com/example/faretally/faretally/RefundRequest$Involuntary$Reason" "written" "Ljava/lang/String;" (.ref b932)) (E_b928 : Exa Z h0 b928 "java/lang/String") (F_b928_coder : Fld Z h0 b928 "java/lang/String" "coder" "B" (.int (0 : Int32))) (F_b928_value : Fld Z h0 b928 "java/lang/String" "value" "[B" (.ref b929)) (E_b932 : Exa Z h0 b932 "java/lang/String") (F_b932_coder : Fld Z h0 b932 "java/lang/String" "coder" "B" (.int (0 : Int32))) (F_b932_value : Fld Z h0 b932 "java/lang/String" "value" "[B" (.ref b933)) (V_b929 : Arv Z h0 b929 k930 .byte (3 : Int32) [(.int (ca.toInt8.toInt32)), (.int (cb.toInt8.toInt32)), (.int (cc.toInt8.toInt32))] (.int (0 : Int32))) (V_b933 : Arv Z h0 b933 k934 .byte (3 : Int32) [(.int (da.toInt8.toInt32)), (.int (db.toInt8.toInt32)), (.int (dc.toInt8.toInt32))] (.int (0 : Int32))) (hc86 : b928 ≠ b932) (hc1 : ¬ (w_CS = (0 : Int32))) (hc52 : (ca.toInt8.toInt32) = (da.toInt8.toInt32)) (hc73 : (cb.toInt8.toInt32) = (db.toInt8.toInt32)) (hc87 : (cc.toInt8.toInt32) = (dc.toInt8.toInt32)) :
    own_met l y_21 prog_97_method_3_code 3 (some .boolean) ws ({ frames := 2, cells := 0, slots := 0, locals := 28 } : Room) Z #[(.ref b935), (.ref b937)] h0 (Qrm942 Z w_CS ca cb cc da db dc b928 b929 k930 b932 b933 k934 b935 b937 h0) := by
  refine own_start (plainFor_of_name pn_6) (fun m => ef_prog_97_method_3_RR m b935 b937) ?_
  intro p e s m below meth c s₁ hx hby hml hown hnm X0 hZ e0 hret hlk
  have N0 := Fr.nil Z.heap.size
  obtain ⟨T943, X943, e943, st943⟩ := instY X0 hx hZ hown (own_w hw 102 rfl) e0 (Ins.self E_b937) (g := (mkF m 1 #[rv b935, rv b937, .unset] [(.ref b937)])) rfl rfl (hb hby d21_1)
  obtain ⟨T944, X944, e944, st944⟩ := castY X943 hx hZ hown (own_w hw 102 rfl) e943 (Ins.self E_b937) (g := (mkF m 8 #[rv b935, rv b937, .unset] [(.ref b937)])) rfl rfl (hb hby d21_8)
  obtain ⟨T945, X945, e945, st945⟩ := getF X944 hx hZ hown (host := "") (Or.inl (own_w hw 95 rfl)) Via.refl e944 F_b935_written (g := (mkF m 13 #[rv b935, rv b937, rv b937] [(.ref b935)])) rfl rfl (hb hby d21_13)
  obtain ⟨T946, X946, e946, st946⟩ := getF X945 hx hZ hown (host := "") (Or.inl (own_w hw 95 rfl)) Via.refl e945 F_b937_written (g := (mkF m 17 #[rv b935, rv b937, rv b937] [(.ref b937), (.ref b928)])) rfl rfl (hb hby d21_17)
  obtain ⟨_, T969, Lc969, X969, hQ969, st969⟩ := own_virtual (y := y_20) X946 hx hZ hown (own_w hw 104 rfl) (own_w hw 105 rfl) (own_w hw 107 rfl) (own_w hw 106 rfl) (own_w hw 15 rfl) (own_w hw 108 rfl) (rm947 l Z a0 hw [] w_CS ca cb cc da db dc b928 b929 k930 b932 b933 k934 h0 Z0 S_w_CS F_b928_coder F_b928_value E_b932 F_b932_coder F_b932_value V_b929 V_b933 hc86 hc1 hc52 hc73 hc87) e946 E_b928 (g := (mkF m 20 #[rv b935, rv b937, rv b937] [(.ref b932), (.ref b928)])) (argsL := [(.ref b932)]) (rest := []) (W := 0) (lenOf pd_17 rfl) (hb hby d21_20) hml
  obtain ⟨rfl, N969q, e969⟩ := hQ969
  have N969 := Fr.app N0 N969q
  obtain ⟨fs, hr, hrun, hended, hW, hsame⟩ := X969.leave (v := some (.int (1 : Int32))) (fun h => by rw [hret] at h; cases h) hlk
  refine ⟨_, _, ?_, hrun, hended, _, _, rfl, ?_, ⟨_, rfl⟩, hW, hsame.mono (by decide) (by decide)⟩
  · show own_S p e below s₁ (mkF m 0 #[rv b935, rv b937, .unset] []) _
    refine own_aN X0 hx hby d21_0 ?_
    refine st943 _ ?_
    refine own_in X943 hx hby d21_4 (feq (by decide : ¬ ((1 : Int32) = (0 : Int32)))).1 ?_
    refine own_aN X943 hx hby d21_7 ?_
    refine st944 _ ?_
    refine XS.astoreN X944.here hx rfl (hb hby d21_11) rfl rfl (l' := #[rv b935, rv b937, rv b937]) rfl ?_
    refine own_aN X944 hx hby d21_12 ?_
    refine st945 _ ?_
    refine own_aN X945 hx hby d21_16 ?_
    refine st946 _ ?_
    refine st969 _ ?_
    refine own_in X969 hx hby d21_23 (feq (by decide : ¬ ((1 : Int32) = (0 : Int32)))).1 ?_
    refine own_k X969 hx hby d21_26 ?_
    refine own_go (pc := 27) X969 hx hby d21_27 31 ?_
    exact retN X969 hx (t := .boolean) hret (by simp) (hb hby d21_31) hr
  · show Qrm942 Z w_CS ca cb cc da db dc b928 b929 k930 b932 b933 k934 b935 b937 h0 _ T969.heap _
    rw [e969]
    exact ⟨rfl, N969, rfl⟩
theorem own_t33_3 {p : Program} {l : Launch} {e : Env} {s : State} {m : MethodId} {args : Array Value} {below : List Frame} {meth : Method} {c : Code} {T0 : State} {locs : List Loc} (Z : State) (a0 : Array Value) (hw : own_HW Z a0) (w_CS : Int32) (w_SF : Value) (q1 q2 : Int64) (p3 ca cb cc da db dc : Int32) (h0 : Heap) (Z0 : Ext Z.heap h0) (S_w_CS : own_w_CS Z w_CS) (S_w_SF : own_w_SF Z w_SF) (R_w_SF : w_SF.isRef = true) (hc42 : own_ch ca) (hc64 : own_ch cb) (hc77 : own_ch cc) (hc1 : ¬ (w_CS = (0 : Int32))) (hc43 : own_ch da) (hc54 : own_ch db) (hc59 : own_ch dc) (hc50 : ca = da) (hc71 : cb = db) (hc85 : cc = dc) (hc45 : own_low ca) (hc65 : own_aln cb) (hc78 : own_aln cc) (hc46 : own_low da) (hc56 : own_aln db) (hc61 : own_aln dc) (hc52 : (ca.toInt8.toInt32) = (da.toInt8.toInt32)) (hc73 : (cb.toInt8.toInt32) = (db.toInt8.toInt32)) (hc87 : (cc.toInt8.toInt32) = (dc.toInt8.toInt32)) (hc53 : (da.toInt8.toInt32) = (ca.toInt8.toInt32)) (hc74 : (db.toInt8.toInt32) = (cb.toInt8.toInt32)) (hc88 : (dc.toInt8.toInt32) = (cc.toInt8.toInt32)) (X0 : Stand p l e room_1 s m args below meth c T0 locs 0 0) (hx : p.tables.exec = Jvm.exec) (hZ : Z.Warmed39 s.vm) (hby : c.code = code) (hml : c.maxLocals = 19) (hown : s.vm.findClass "com/example/faretally/faretally/ReasonEqualsPinLaw" = some m.cls) (e0 : T0.heap = h0) (N0 : Fr Z.heap.size locs) (hret : meth.sig.returnType = some .boolean) (hlk : meth.locks = false) :
    ∃ s₂ o, Steps p.tables e below (T0.setTop (mkF m 153 (own_T q1 q2 p3 3 ca cb cc 3 da db dc .unset .unset .unset .unset .unset .unset) [])) s₂ ∧ s₂.status = .running ∧ Ended s₂ below o ∧ ∃ v L, o = .returned v ∧ (v = some (.int (1 : Int32)) ∧ Fr Z.heap.size L) ∧ FrameEnd s o s₂ L room_1.cells room_1.slots := by
  obtain ⟨_, T927, Lc927, X927, hQ927, st927⟩ := own_static (y := y_7) X0 hx hZ hown (own_w hw 10 rfl) (own_w hw 11 rfl) (own_w hw 4 rfl) (own_w hw 12 rfl) (rm340 l Z a0 hw [] w_CS ca cb cc h0 Z0 S_w_CS hc42 hc64 hc77 hc1) e0 (g := (mkF m 161 (own_T q1 q2 p3 3 ca cb cc 3 da db dc .unset .unset .unset .unset .unset .unset) [(.int cc), (.int cb), (.int ca), (.int (3 : Int32))])) (argsL := [(.int (3 : Int32)), (.int ca), (.int cb), (.int cc)]) (rest := []) (W := 0) (lenOf pd_6 rfl) (hb hby at_161) hml
  obtain ⟨b928, b929, k930, rfl, N927q, K927q, szn_b928, szn_b929, q927_E_b928, q927_F_b928_coder, q927_F_b928_value, q927_V_b929⟩ := hQ927
  have g_b928 : Z.heap.size ≤ b928 := Nat.le_trans Z0.1 szn_b928
  have sz_b928 : h0.size ≤ b928 := Nat.le_trans (Keep.refl h0 []).1 szn_b928
  have g_b929 : Z.heap.size ≤ b929 := Nat.le_trans Z0.1 szn_b929
  have sz_b929 : h0.size ≤ b929 := Nat.le_trans (Keep.refl h0 []).1 szn_b929
  have K927 : Keep h0 T927.heap [] := (Keep.refl h0 []).trans K927q all0
  have XX927 : Ext Z.heap T927.heap := own_extK Z0 K927q all0
  have N927 := Fr.app N0 N927q
  obtain ⟨_, T931, Lc931, X931, hQ931, st931⟩ := own_static (y := y_7) X927 hx hZ hown (own_w hw 10 rfl) (own_w hw 11 rfl) (own_w hw 4 rfl) (own_w hw 12 rfl) (rm340 l Z a0 hw [] w_CS da db dc T927.heap XX927 S_w_CS hc43 hc54 hc59 hc1) rfl (g := (mkF m 174 (own_T q1 q2 p3 3 ca cb cc 3 da db dc (rv b928) .unset .unset .unset .unset .unset) [(.int dc), (.int db), (.int da), (.int (3 : Int32))])) (argsL := [(.int (3 : Int32)), (.int da), (.int db), (.int dc)]) (rest := []) (W := 0) (lenOf pd_6 rfl) (hb hby at_174) hml
  obtain ⟨b932, b933, k934, rfl, N931q, K931q, szn_b932, szn_b933, q931_E_b932, q931_F_b932_coder, q931_F_b932_value, q931_V_b933⟩ := hQ931
  have g_b932 : Z.heap.size ≤ b932 := Nat.le_trans XX927.1 szn_b932
  have sz_b932 : h0.size ≤ b932 := Nat.le_trans K927.1 szn_b932
  have g_b933 : Z.heap.size ≤ b933 := Nat.le_trans XX927.1 szn_b933
  have sz_b933 : h0.size ≤ b933 := Nat.le_trans K927.1 szn_b933
  have K931 : Keep h0 T931.heap [] := K927.trans K931q all0
  have XX931 : Ext Z.heap T931.heap := own_extK XX927 K931q all0
  have N931 := Fr.app N927 N931q
  obtain ⟨T935, h935, X935, e935, E935, A935, D935, -, st935⟩ := newO X931 hx hZ hown (own_w hw 43 rfl) (own_w hw 44 rfl) (own_w hw 45 rfl) rfl (g := (mkF m 226 (own_T q1 q2 p3 3 ca cb cc 3 da db dc (rv b928) (rv b932) (iv (1 : Int32)) .unset .unset .unset) [])) rfl (hb hby at_226) (by decide) (by decide)
  obtain ⟨b935, g935⟩ : ∃ z, z = T931.heap.size := ⟨_, rfl⟩
  rw [← g935] at A935 D935 st935
  have g_b935 : Z.heap.size ≤ b935 := Nat.le_trans XX931.1 (Nat.le_of_eq g935.symm)
  have sz_b935 : h0.size ≤ b935 := Nat.le_trans K931.1 (Nat.le_of_eq g935.symm)
  have F_b935_written : Fld Z h935 b935 "com/example/faretally/faretally/RefundRequest$Involuntary$Reason" "written" "Ljava/lang/String;" .null := D935 (Or.inr (own_w hw 96 rfl)) (ty := (.object "java/lang/String")) (by decide)
  have K935 : Keep h0 h935 [] := K931.ext E935
  have XX935 : Ext Z.heap h935 := own_ext2 XX931 E935
  obtain ⟨_, T936, Lc936, X936, hQ936, st936⟩ := own_special (y := y_18) X935 hx hZ hown rfl (own_w hw 46 rfl) (own_w hw 47 rfl) (own_w hw 45 rfl) (own_w hw 48 rfl) (rm393 l Z a0 hw [] w_CS w_SF ca cb cc b928 b929 k930 b935 h935 XX935 S_w_CS S_w_SF R_w_SF A935 F_b935_written ((q927_E_b928.keep K931q).ext E935) ((q927_F_b928_coder.keep K931q nin0).ext E935) ((q927_F_b928_value.keep K931q nin0).ext E935) ((q927_V_b929.keep K931q nin0).ext E935) g_b935 hc1 hc42 hc45 hc64 hc65 hc77 hc78) e935 b935 (g := (mkF m 232 (own_T q1 q2 p3 3 ca cb cc 3 da db dc (rv b928) (rv b932) (iv (1 : Int32)) .unset .unset .unset) [(.ref b928), (.ref b935), (.ref b935)])) (argsL := [(.ref b928)]) (rest := [(.ref b935)]) (W := 1) (lenOf pd_15 rfl) (hb hby at_232) hml
  obtain ⟨rfl, N936q, K936q, q936_E_b935, q936_F_b935_written⟩ := hQ936
  have K936 : Keep h0 T936.heap [] := K935.trans K936q (allS (Or.inr sz_b935) all0)
  have XX936 : Ext Z.heap T936.heap := own_extK XX935 K936q (allS g_b935 all0)
  have N936 := Fr.app N931 N936q
  obtain ⟨T937, h937, X937, e937, E937, A937, D937, -, st937⟩ := newO X936 hx hZ hown (own_w hw 43 rfl) (own_w hw 44 rfl) (own_w hw 45 rfl) rfl (g := (mkF m 237 (own_T q1 q2 p3 3 ca cb cc 3 da db dc (rv b928) (rv b932) (iv (1 : Int32)) (rv b935) .unset .unset) [])) rfl (hb hby at_237) (by decide) (by decide)
  obtain ⟨b937, g937⟩ : ∃ z, z = T936.heap.size := ⟨_, rfl⟩
  rw [← g937] at A937 D937 st937
  have g_b937 : Z.heap.size ≤ b937 := Nat.le_trans XX936.1 (Nat.le_of_eq g937.symm)
  have sz_b937 : h0.size ≤ b937 := Nat.le_trans K936.1 (Nat.le_of_eq g937.symm)
  have F_b937_written : Fld Z h937 b937 "com/example/faretally/faretally/RefundRequest$Involuntary$Reason" "written" "Ljava/lang/String;" .null := D937 (Or.inr (own_w hw 96 rfl)) (ty := (.object "java/lang/String")) (by decide)
  have K937 : Keep h0 h937 [] := K936.ext E937
  have XX937 : Ext Z.heap h937 := own_ext2 XX936 E937
  have ne_b932_b935 : b932 ≠ b935 := Nat.ne_of_lt (Nat.lt_of_lt_of_le q931_E_b932.lt (Nat.le_of_eq g935.symm))
  have f939_F_b932_coder : Fld Z h937 b932 "java/lang/String" "coder" "B" (.int (0 : Int32)) := (((q931_F_b932_coder.ext E935).keep K936q (ninS ne_b932_b935 (nin0))).ext E937)
  have f940_F_b932_value : Fld Z h937 b932 "java/lang/String" "value" "[B" (.ref b933) := (((q931_F_b932_value.ext E935).keep K936q (ninS ne_b932_b935 (nin0))).ext E937)
  have ne_b933_b935 : b933 ≠ b935 := Nat.ne_of_lt (Nat.lt_of_lt_of_le q931_V_b933.lt (Nat.le_of_eq g935.symm))
  have f941_V_b933 : Arv Z h937 b933 k934 .byte (3 : Int32) [(.int (da.toInt8.toInt32)), (.int (db.toInt8.toInt32)), (.int (dc.toInt8.toInt32))] (.int (0 : Int32)) := (((q931_V_b933.ext E935).keep K936q (ninS ne_b933_b935 (nin0))).ext E937)
  obtain ⟨_, T938, Lc938, X938, hQ938, st938⟩ := own_special (y := y_18) X937 hx hZ hown rfl (own_w hw 46 rfl) (own_w hw 47 rfl) (own_w hw 45 rfl) (own_w hw 48 rfl) (rm393 l Z a0 hw [] w_CS w_SF da db dc b932 b933 k934 b937 h937 XX937 S_w_CS S_w_SF R_w_SF A937 F_b937_written (((q931_E_b932.ext E935).keep K936q).ext E937) f939_F_b932_coder f940_F_b932_value f941_V_b933 g_b937 hc1 hc43 hc46 hc54 hc56 hc59 hc61) e937 b937 (g := (mkF m 243 (own_T q1 q2 p3 3 ca cb cc 3 da db dc (rv b928) (rv b932) (iv (1 : Int32)) (rv b935) .unset .unset) [(.ref b932), (.ref b937), (.ref b937)])) (argsL := [(.ref b932)]) (rest := [(.ref b937)]) (W := 1) (lenOf pd_15 rfl) (hb hby at_243) hml
  obtain ⟨rfl, N938q, K938q, q938_E_b937, q938_F_b937_written⟩ := hQ938
  have K938 : Keep h0 T938.heap [] := K937.trans K938q (allS (Or.inr sz_b937) all0)
  have XX938 : Ext Z.heap T938.heap := own_extK XX937 K938q (allS g_b937 all0)
  have N938 := Fr.app N936 N938q
  have ne_b935_b937 : b935 ≠ b937 := Nat.ne_of_lt (Nat.lt_of_lt_of_le q936_E_b935.lt (Nat.le_of_eq g937.symm))
  have f971_F_b935_written : Fld Z T938.heap b935 "com/example/faretally/faretally/RefundRequest$Involuntary$Reason" "written" "Ljava/lang/String;" (.ref b928) := ((q936_F_b935_written.ext E937).keep K938q (ninS ne_b935_b937 (nin0)))
  have f972_E_b928 : Exa Z T938.heap b928 "java/lang/String" := (((((q927_E_b928.keep K931q).ext E935).keep K936q).ext E937).keep K938q)
  have ne_b928_b935 : b928 ≠ b935 := Nat.ne_of_lt (Nat.lt_of_lt_of_le (q927_E_b928.keep K931q).lt (Nat.le_of_eq g935.symm))
  have ne_b928_b937 : b928 ≠ b937 := Nat.ne_of_lt (Nat.lt_of_lt_of_le (((q927_E_b928.keep K931q).ext E935).keep K936q).lt (Nat.le_of_eq g937.symm))
  have f973_F_b928_coder : Fld Z T938.heap b928 "java/lang/String" "coder" "B" (.int (0 : Int32)) := (((((q927_F_b928_coder.keep K931q nin0).ext E935).keep K936q (ninS ne_b928_b935 (nin0))).ext E937).keep K938q (ninS ne_b928_b937 (nin0)))
  have f974_F_b928_value : Fld Z T938.heap b928 "java/lang/String" "value" "[B" (.ref b929) := (((((q927_F_b928_value.keep K931q nin0).ext E935).keep K936q (ninS ne_b928_b935 (nin0))).ext E937).keep K938q (ninS ne_b928_b937 (nin0)))
  have ne_b932_b937 : b932 ≠ b937 := Nat.ne_of_lt (Nat.lt_of_lt_of_le ((q931_E_b932.ext E935).keep K936q).lt (Nat.le_of_eq g937.symm))
  have ne_b929_b935 : b929 ≠ b935 := Nat.ne_of_lt (Nat.lt_of_lt_of_le (q927_V_b929.keep K931q nin0).lt (Nat.le_of_eq g935.symm))
  have ne_b929_b937 : b929 ≠ b937 := Nat.ne_of_lt (Nat.lt_of_lt_of_le (((q927_V_b929.keep K931q nin0).ext E935).keep K936q (ninS ne_b929_b935 (nin0))).lt (Nat.le_of_eq g937.symm))
  have f975_V_b929 : Arv Z T938.heap b929 k930 .byte (3 : Int32) [(.int (ca.toInt8.toInt32)), (.int (cb.toInt8.toInt32)), (.int (cc.toInt8.toInt32))] (.int (0 : Int32)) := (((((q927_V_b929.keep K931q nin0).ext E935).keep K936q (ninS ne_b929_b935 (nin0))).ext E937).keep K938q (ninS ne_b929_b937 (nin0)))
  have ne_b933_b937 : b933 ≠ b937 := Nat.ne_of_lt (Nat.lt_of_lt_of_le ((q931_V_b933.ext E935).keep K936q (ninS ne_b933_b935 (nin0))).lt (Nat.le_of_eq g937.symm))
  have ne_b928_b932 : b928 ≠ b932 := Nat.ne_of_lt (Nat.lt_of_lt_of_le q927_E_b928.lt szn_b932)
  obtain ⟨_, T970, Lc970, X970, hQ970, st970⟩ := own_virtual (y := y_21) X938 hx hZ hown (own_w hw 97 rfl) (own_w hw 98 rfl) (own_w hw 100 rfl) (own_w hw 99 rfl) (own_w hw 45 rfl) (own_w hw 101 rfl) (rm942 l Z a0 hw [] w_CS ca cb cc da db dc b928 b929 k930 b932 b933 k934 b935 b937 T938.heap XX938 S_w_CS f971_F_b935_written q938_E_b937 q938_F_b937_written f972_E_b928 f973_F_b928_coder f974_F_b928_value ((((q931_E_b932.ext E935).keep K936q).ext E937).keep K938q) (f939_F_b932_coder.keep K938q (ninS ne_b932_b937 (nin0))) (f940_F_b932_value.keep K938q (ninS ne_b932_b937 (nin0))) f975_V_b929 (f941_V_b933.keep K938q (ninS ne_b933_b937 (nin0))) ne_b928_b932 hc1 hc52 hc73 hc87) rfl ((q936_E_b935.ext E937).keep K938q) (g := (mkF m 252 (own_T q1 q2 p3 3 ca cb cc 3 da db dc (rv b928) (rv b932) (iv (1 : Int32)) (rv b935) (rv b937) .unset) [(.ref b937), (.ref b935)])) (argsL := [(.ref b937)]) (rest := []) (W := 0) (lenOf pd_17 rfl) (hb hby at_252) hml
  obtain ⟨rfl, N970q, e970⟩ := hQ970
  have N970 := Fr.app N938 N970q
  obtain ⟨_, T976, Lc976, X976, hQ976, st976⟩ := own_virtual (y := y_21) X970 hx hZ hown (own_w hw 97 rfl) (own_w hw 98 rfl) (own_w hw 100 rfl) (own_w hw 99 rfl) (own_w hw 45 rfl) (own_w hw 101 rfl) (rm942 l Z a0 hw [] w_CS da db dc ca cb cc b932 b933 k934 b928 b929 k930 b937 b935 T938.heap XX938 S_w_CS q938_F_b937_written ((q936_E_b935.ext E937).keep K938q) f971_F_b935_written ((((q931_E_b932.ext E935).keep K936q).ext E937).keep K938q) (f939_F_b932_coder.keep K938q (ninS ne_b932_b937 (nin0))) (f940_F_b932_value.keep K938q (ninS ne_b932_b937 (nin0))) f972_E_b928 f973_F_b928_coder f974_F_b928_value (f941_V_b933.keep K938q (ninS ne_b933_b937 (nin0))) f975_V_b929 (Ne.symm ne_b928_b932) hc1 hc53 hc74 hc88) e970 q938_E_b937 (g := (mkF m 276 (own_T q1 q2 p3 3 ca cb cc 3 da db dc (rv b928) (rv b932) (iv (1 : Int32)) (rv b935) (rv b937) (iv (1 : Int32))) [(.ref b935), (.ref b937)])) (argsL := [(.ref b935)]) (rest := []) (W := 0) (lenOf pd_17 rfl) (hb hby at_276) hml
  obtain ⟨rfl, N976q, e976⟩ := hQ976
  have N976 := Fr.app N970 N976q
  obtain ⟨_, T977, Lc977, X977, hQ977, st977⟩ := own_virtual (y := y_21) X976 hx hZ hown (own_w hw 97 rfl) (own_w hw 98 rfl) (own_w hw 100 rfl) (own_w hw 99 rfl) (own_w hw 45 rfl) (own_w hw 101 rfl) (rm132 l Z a0 hw [] b928 b935 T938.heap XX938 ((q936_E_b935.ext E937).keep K938q) f971_F_b935_written f972_E_b928) e976 ((q936_E_b935.ext E937).keep K938q) (g := (mkF m 300 (own_T q1 q2 p3 3 ca cb cc 3 da db dc (rv b928) (rv b932) (iv (1 : Int32)) (rv b935) (rv b937) (iv (1 : Int32))) [(.ref b935), (.ref b935)])) (argsL := [(.ref b935)]) (rest := []) (W := 0) (lenOf pd_17 rfl) (hb hby at_300) hml
  obtain ⟨rfl, N977q, e977⟩ := hQ977
  have N977 := Fr.app N976 N977q
  obtain ⟨_, T978, Lc978, X978, hQ978, st978⟩ := own_virtual (y := y_21) X977 hx hZ hown (own_w hw 97 rfl) (own_w hw 98 rfl) (own_w hw 100 rfl) (own_w hw 99 rfl) (own_w hw 45 rfl) (own_w hw 101 rfl) (rm140 l Z a0 hw [] b928 b935 T938.heap XX938 f972_E_b928) e977 ((q936_E_b935.ext E937).keep K938q) (g := (mkF m 322 (own_T q1 q2 p3 3 ca cb cc 3 da db dc (rv b928) (rv b932) (iv (1 : Int32)) (rv b935) (rv b937) (iv (1 : Int32))) [(.ref b928), (.ref b935)])) (argsL := [(.ref b928)]) (rest := []) (W := 0) (lenOf pd_17 rfl) (hb hby at_322) hml
  obtain ⟨rfl, N978q, e978⟩ := hQ978
  have N978 := Fr.app N977 N978q
  obtain ⟨_, T979, Lc979, X979, hQ979, st979⟩ := own_virtual (y := y_21) X978 hx hZ hown (own_w hw 97 rfl) (own_w hw 98 rfl) (own_w hw 100 rfl) (own_w hw 99 rfl) (own_w hw 45 rfl) (own_w hw 101 rfl) (rm143 l Z a0 hw [] b935 T938.heap XX938 ) e978 ((q936_E_b935.ext E937).keep K938q) (g := (mkF m 343 (own_T q1 q2 p3 3 ca cb cc 3 da db dc (rv b928) (rv b932) (iv (1 : Int32)) (rv b935) (rv b937) (iv (1 : Int32))) [.null, (.ref b935)])) (argsL := [.null]) (rest := []) (W := 0) (lenOf pd_17 rfl) (hb hby at_343) hml
  obtain ⟨rfl, N979q, e979⟩ := hQ979
  have N979 := Fr.app N978 N979q
  obtain ⟨fs, hr, hrun, hended, hW, hsame⟩ := X979.leave (v := some (.int (1 : Int32))) (fun h => by rw [hret] at h; cases h) hlk
  refine ⟨_, _, ?_, hrun, hended, _, _, rfl, ⟨rfl, N979⟩, ⟨_, rfl⟩, hW, hsame.mono (by decide) (by decide)⟩
  show own_S p e below T0 (mkF m 153 (own_T q1 q2 p3 3 ca cb cc 3 da db dc .unset .unset .unset .unset .unset .unset) []) _
  refine own_i X0 hx hby at_153 ?_
  refine own_i X0 hx hby at_155 ?_
  refine own_i X0 hx hby at_157 ?_
  refine own_i X0 hx hby at_159 ?_
  refine st927 _ ?_
  refine XS.astore X927.here hx rfl (hb hby at_164) rfl rfl (l' := (own_T q1 q2 p3 3 ca cb cc 3 da db dc (rv b928) .unset .unset .unset .unset .unset)) rfl ?_
  refine own_i X927 hx hby at_166 ?_
  refine own_i X927 hx hby at_168 ?_
  refine own_i X927 hx hby at_170 ?_
  refine own_i X927 hx hby at_172 ?_
  refine st931 _ ?_
  refine XS.astore X931.here hx rfl (hb hby at_177) rfl rfl (l' := (own_T q1 q2 p3 3 ca cb cc 3 da db dc (rv b928) (rv b932) .unset .unset .unset .unset)) rfl ?_
  refine own_i X931 hx hby at_179 ?_
  refine own_i X931 hx hby at_181 ?_
  refine own_cn X931 hx hby at_183 (teq (rfl : (3 : Int32) = (3 : Int32))).2 ?_
  refine own_i X931 hx hby at_186 ?_
  refine own_i X931 hx hby at_188 ?_
  refine own_cn X931 hx hby at_190 (teq hc50).2 ?_
  refine own_i X931 hx hby at_193 ?_
  refine own_k X931 hx hby at_195 ?_
  refine own_cn X931 hx hby at_196 (flt (by decide : ¬ ((3 : Int32) < (2 : Int32)))).1 ?_
  refine own_i X931 hx hby at_199 ?_
  refine own_i X931 hx hby at_201 ?_
  refine own_cn X931 hx hby at_203 (teq hc71).2 ?_
  refine own_i X931 hx hby at_206 ?_
  refine own_k X931 hx hby at_208 ?_
  refine own_cn X931 hx hby at_209 (flt (Int32.lt_irrefl : ¬ ((3 : Int32) < (3 : Int32)))).1 ?_
  refine own_i X931 hx hby at_212 ?_
  refine own_i X931 hx hby at_214 ?_
  refine own_cn X931 hx hby at_216 (teq hc85).2 ?_
  refine own_k X931 hx hby at_219 ?_
  refine own_go (pc := 220) X931 hx hby at_220 224 ?_
  refine XS.istore X931.here hx rfl (hb hby at_224) rfl (l' := (own_T q1 q2 p3 3 ca cb cc 3 da db dc (rv b928) (rv b932) (iv (1 : Int32)) .unset .unset .unset)) rfl ?_
  refine st935 _ ?_
  refine XS.dup X935.here hx rfl (hb hby at_229) rfl rfl ?_
  refine own_a X935 hx hby at_230 ?_
  refine st936 _ ?_
  refine XS.astore X936.here hx rfl (hb hby at_235) rfl rfl (l' := (own_T q1 q2 p3 3 ca cb cc 3 da db dc (rv b928) (rv b932) (iv (1 : Int32)) (rv b935) .unset .unset)) rfl ?_
  refine st937 _ ?_
  refine XS.dup X937.here hx rfl (hb hby at_240) rfl rfl ?_
  refine own_a X937 hx hby at_241 ?_
  refine st938 _ ?_
  refine XS.astore X938.here hx rfl (hb hby at_246) rfl rfl (l' := (own_T q1 q2 p3 3 ca cb cc 3 da db dc (rv b928) (rv b932) (iv (1 : Int32)) (rv b935) (rv b937) .unset)) rfl ?_
  refine own_a X938 hx hby at_248 ?_
  refine own_a X938 hx hby at_250 ?_
  refine st970 _ ?_
  refine own_i X970 hx hby at_255 ?_
  refine own_cn X970 hx hby at_257 (teq (rfl : (1 : Int32) = (1 : Int32))).2 ?_
  refine own_k X970 hx hby at_260 ?_
  refine own_go (pc := 261) X970 hx hby at_261 265 ?_
  refine XS.istore X970.here hx rfl (hb hby at_265) rfl (l' := (own_T q1 q2 p3 3 ca cb cc 3 da db dc (rv b928) (rv b932) (iv (1 : Int32)) (rv b935) (rv b937) (iv (1 : Int32)))) rfl ?_
  refine own_i X970 hx hby at_267 ?_
  refine own_in X970 hx hby at_269 (feq (by decide : ¬ ((1 : Int32) = (0 : Int32)))).1 ?_
  refine own_a X970 hx hby at_272 ?_
  refine own_a X970 hx hby at_274 ?_
  refine st976 _ ?_
  refine own_i X976 hx hby at_279 ?_
  refine own_cn X976 hx hby at_281 (teq (rfl : (1 : Int32) = (1 : Int32))).2 ?_
  refine own_k X976 hx hby at_284 ?_
  refine own_go (pc := 285) X976 hx hby at_285 289 ?_
  refine XS.istore X976.here hx rfl (hb hby at_289) rfl (l' := (own_T q1 q2 p3 3 ca cb cc 3 da db dc (rv b928) (rv b932) (iv (1 : Int32)) (rv b935) (rv b937) (iv (1 : Int32)))) rfl ?_
  refine own_i X976 hx hby at_291 ?_
  refine own_in X976 hx hby at_293 (feq (by decide : ¬ ((1 : Int32) = (0 : Int32)))).1 ?_
  refine own_a X976 hx hby at_296 ?_
  refine own_a X976 hx hby at_298 ?_
  refine st977 _ ?_
  refine own_in X977 hx hby at_303 (feq (by decide : ¬ ((1 : Int32) = (0 : Int32)))).1 ?_
  refine own_k X977 hx hby at_306 ?_
  refine own_go (pc := 307) X977 hx hby at_307 311 ?_
  refine XS.istore X977.here hx rfl (hb hby at_311) rfl (l' := (own_T q1 q2 p3 3 ca cb cc 3 da db dc (rv b928) (rv b932) (iv (1 : Int32)) (rv b935) (rv b937) (iv (1 : Int32)))) rfl ?_
  refine own_i X977 hx hby at_313 ?_
  refine own_in X977 hx hby at_315 (feq (by decide : ¬ ((1 : Int32) = (0 : Int32)))).1 ?_
  refine own_a X977 hx hby at_318 ?_
  refine own_a X977 hx hby at_320 ?_
  refine st978 _ ?_
  refine own_in X978 hx hby at_325 (teq (rfl : (0 : Int32) = (0 : Int32))).2 ?_
  refine own_k X978 hx hby at_328 ?_
  refine own_go (pc := 329) X978 hx hby at_329 333 ?_
  refine XS.istore X978.here hx rfl (hb hby at_333) rfl (l' := (own_T q1 q2 p3 3 ca cb cc 3 da db dc (rv b928) (rv b932) (iv (1 : Int32)) (rv b935) (rv b937) (iv (1 : Int32)))) rfl ?_
  refine own_i X978 hx hby at_335 ?_
  refine own_in X978 hx hby at_337 (feq (by decide : ¬ ((1 : Int32) = (0 : Int32)))).1 ?_
  refine own_a X978 hx hby at_340 ?_
  refine XS.aconstNull X978.here hx rfl (hb hby at_342) ?_
  refine st979 _ ?_
  refine own_in X979 hx hby at_346 (teq (rfl : (0 : Int32) = (0 : Int32))).2 ?_
  refine own_k X979 hx hby at_349 ?_
  refine own_go (pc := 350) X979 hx hby at_350 354 ?_
  refine XS.istore X979.here hx rfl (hb hby at_354) rfl (l' := (own_T q1 q2 p3 3 ca cb cc 3 da db dc (rv b928) (rv b932) (iv (1 : Int32)) (rv b935) (rv b937) (iv (1 : Int32)))) rfl ?_
  refine own_i X979 hx hby at_356 ?_
  exact retN X979 hx (t := .boolean) hret (by simp) (hb hby at_358) hr
theorem rm0 (l : Launch) (Z : State) (a0 : Array Value) (hw : own_HW Z a0) (ws : List Jvm.Cond) (w_CS : Int32) (w_SF : Value) (q1 q2 : Int64) (p3 : Int32) (h0 : Heap) (Z0 : Ext Z.heap h0) (S_w_CS : own_w_CS Z w_CS) (R_w_SF : w_SF.isRef = true) (S_w_SF : own_w_SF Z w_SF) (hc1 : ¬ (w_CS = (0 : Int32))) :
    own_met l x code maxLocals ret ws room_1 Z #[(.long q1), (.long q2), (.int p3)] h0 (fun v _ L => v = some (.int 1) ∧ Fr Z.heap.size L) := by
  refine own_start (plainFor_of_name pn_0) (fun m => ef_code_JJI m q1 q2 p3) ?_
  intro p e s m below meth c s₁ hx hby hml hown hnm X0 hZ e0 hret hlk
  have N0 := Fr.nil Z.heap.size
  obtain ⟨la, T1, L1, P_la, X1, e1, N1, k1⟩ := own_p1 Z a0 hw q1 q2 p3  h0 Z0 X0 hx hZ hby hml hown e0 N0 
  obtain ⟨ca, T2, L2, P_ca, X2, e2, N2, k2⟩ := own_p2 Z a0 hw q1 q2 p3 la h0 Z0 X1 hx hZ hby hml hown e1 N1 P_la
  obtain ⟨cb, T3, L3, P_cb, X3, e3, N3, k3⟩ := own_p3 Z a0 hw q1 q2 p3 la ca h0 Z0 X2 hx hZ hby hml hown e2 N2 P_la P_ca
  obtain ⟨cc, T4, L4, P_cc, X4, e4, N4, k4⟩ := own_p4 Z a0 hw q1 q2 p3 la ca cb h0 Z0 X3 hx hZ hby hml hown e3 N3 P_la P_ca P_cb
  obtain ⟨lb, T5, L5, P_lb, X5, e5, N5, k5⟩ := own_p5 Z a0 hw q1 q2 p3 la ca cb cc h0 Z0 X4 hx hZ hby hml hown e4 N4 P_la P_ca P_cb P_cc
  obtain ⟨da, T6, L6, P_da, X6, e6, N6, k6⟩ := own_p6 Z a0 hw q1 q2 p3 la ca cb cc lb h0 Z0 X5 hx hZ hby hml hown e5 N5 P_la P_ca P_cb P_cc P_lb
  obtain ⟨db, T7, L7, P_db, X7, e7, N7, k7⟩ := own_p7 Z a0 hw q1 q2 p3 la ca cb cc lb da h0 Z0 X6 hx hZ hby hml hown e6 N6 P_la P_ca P_cb P_cc P_lb P_da
  obtain ⟨dc, T8, L8, P_dc, X8, e8, N8, k8⟩ := own_p8 Z a0 hw q1 q2 p3 la ca cb cc lb da db h0 Z0 X7 hx hZ hby hml hown e7 N7 P_la P_ca P_cb P_cc P_lb P_da P_db
  have ch_ca := own_low_ch P_ca
  have ch_cb := own_aln_ch P_cb
  have ch_cc := own_aln_ch P_cc
  have ch_da := own_low_ch P_da
  have ch_db := own_aln_ch P_db
  have ch_dc := own_aln_ch P_dc
  have fin : ∃ s₂ o, Steps p.tables e below (T8.setTop (mkF m 153 (own_T q1 q2 p3 la ca cb cc lb da db dc .unset .unset .unset .unset .unset .unset) [])) s₂ ∧ s₂.status = .running ∧ Ended s₂ below o ∧ ∃ v L, o = .returned v ∧ (v = some (.int (1 : Int32)) ∧ Fr Z.heap.size L) ∧ FrameEnd s o s₂ L room_1.cells room_1.slots := by
    rcases P_la with rfl | rfl | rfl
    · rcases P_lb with rfl | rfl | rfl
      · by_cases hca : ca = da
        · exact own_t11_1 Z a0 hw w_CS w_SF q1 q2 p3 ca cb cc da db dc h0 Z0 S_w_CS S_w_SF R_w_SF ch_ca hc1 ch_da hca P_ca P_da (congrArg (fun z : Int32 => z.toInt8.toInt32) hca) (congrArg (fun z : Int32 => z.toInt8.toInt32) hca.symm) X8 hx hZ hby hml hown e8 N8 hret hlk
        · exact own_t11_0 Z a0 hw w_CS w_SF q1 q2 p3 ca cb cc da db dc h0 Z0 S_w_CS S_w_SF R_w_SF ch_ca hc1 ch_da hca P_ca P_da (own_bne ch_ca ch_da hca) (own_bne ch_da ch_ca (fun z => hca z.symm)) X8 hx hZ hby hml hown e8 N8 hret hlk
      · exact own_t12 Z a0 hw w_CS w_SF q1 q2 p3 ca cb cc da db dc h0 Z0 S_w_CS S_w_SF R_w_SF ch_ca hc1 ch_da ch_db P_ca P_da P_db X8 hx hZ hby hml hown e8 N8 hret hlk
      · exact own_t13 Z a0 hw w_CS w_SF q1 q2 p3 ca cb cc da db dc h0 Z0 S_w_CS S_w_SF R_w_SF ch_ca hc1 ch_da ch_db ch_dc P_ca P_da P_db P_dc X8 hx hZ hby hml hown e8 N8 hret hlk
    · rcases P_lb with rfl | rfl | rfl
      · exact own_t21 Z a0 hw w_CS w_SF q1 q2 p3 ca cb cc da db dc h0 Z0 S_w_CS S_w_SF R_w_SF ch_ca ch_cb hc1 ch_da P_ca P_cb P_da X8 hx hZ hby hml hown e8 N8 hret hlk
      · by_cases hca : ca = da
        · by_cases hcb : cb = db
          · exact own_t22_2 Z a0 hw w_CS w_SF q1 q2 p3 ca cb cc da db dc h0 Z0 S_w_CS S_w_SF R_w_SF ch_ca ch_cb hc1 ch_da ch_db hca hcb P_ca P_cb P_da P_db (congrArg (fun z : Int32 => z.toInt8.toInt32) hca) (congrArg (fun z : Int32 => z.toInt8.toInt32) hcb) (congrArg (fun z : Int32 => z.toInt8.toInt32) hca.symm) (congrArg (fun z : Int32 => z.toInt8.toInt32) hcb.symm) X8 hx hZ hby hml hown e8 N8 hret hlk
          · exact own_t22_1 Z a0 hw w_CS w_SF q1 q2 p3 ca cb cc da db dc h0 Z0 S_w_CS S_w_SF R_w_SF ch_ca ch_cb hc1 ch_da ch_db hca hcb P_ca P_cb P_da P_db (congrArg (fun z : Int32 => z.toInt8.toInt32) hca) (own_bne ch_cb ch_db hcb) (congrArg (fun z : Int32 => z.toInt8.toInt32) hca.symm) (own_bne ch_db ch_cb (fun z => hcb z.symm)) X8 hx hZ hby hml hown e8 N8 hret hlk
        · exact own_t22_0 Z a0 hw w_CS w_SF q1 q2 p3 ca cb cc da db dc h0 Z0 S_w_CS S_w_SF R_w_SF ch_ca ch_cb hc1 ch_da ch_db hca P_ca P_cb P_da P_db (own_bne ch_ca ch_da hca) (own_bne ch_da ch_ca (fun z => hca z.symm)) X8 hx hZ hby hml hown e8 N8 hret hlk
      · exact own_t23 Z a0 hw w_CS w_SF q1 q2 p3 ca cb cc da db dc h0 Z0 S_w_CS S_w_SF R_w_SF ch_ca ch_cb hc1 ch_da ch_db ch_dc P_ca P_cb P_da P_db P_dc X8 hx hZ hby hml hown e8 N8 hret hlk
    · rcases P_lb with rfl | rfl | rfl
      · exact own_t31 Z a0 hw w_CS w_SF q1 q2 p3 ca cb cc da db dc h0 Z0 S_w_CS S_w_SF R_w_SF ch_ca ch_cb ch_cc hc1 ch_da P_ca P_cb P_cc P_da X8 hx hZ hby hml hown e8 N8 hret hlk
      · exact own_t32 Z a0 hw w_CS w_SF q1 q2 p3 ca cb cc da db dc h0 Z0 S_w_CS S_w_SF R_w_SF ch_ca ch_cb ch_cc hc1 ch_da ch_db P_ca P_cb P_cc P_da P_db X8 hx hZ hby hml hown e8 N8 hret hlk
      · by_cases hca : ca = da
        · by_cases hcb : cb = db
          · by_cases hcc : cc = dc
            · exact own_t33_3 Z a0 hw w_CS w_SF q1 q2 p3 ca cb cc da db dc h0 Z0 S_w_CS S_w_SF R_w_SF ch_ca ch_cb ch_cc hc1 ch_da ch_db ch_dc hca hcb hcc P_ca P_cb P_cc P_da P_db P_dc (congrArg (fun z : Int32 => z.toInt8.toInt32) hca) (congrArg (fun z : Int32 => z.toInt8.toInt32) hcb) (congrArg (fun z : Int32 => z.toInt8.toInt32) hcc) (congrArg (fun z : Int32 => z.toInt8.toInt32) hca.symm) (congrArg (fun z : Int32 => z.toInt8.toInt32) hcb.symm) (congrArg (fun z : Int32 => z.toInt8.toInt32) hcc.symm) X8 hx hZ hby hml hown e8 N8 hret hlk
            · exact own_t33_2 Z a0 hw w_CS w_SF q1 q2 p3 ca cb cc da db dc h0 Z0 S_w_CS S_w_SF R_w_SF ch_ca ch_cb ch_cc hc1 ch_da ch_db ch_dc hca hcb hcc P_ca P_cb P_cc P_da P_db P_dc (congrArg (fun z : Int32 => z.toInt8.toInt32) hca) (congrArg (fun z : Int32 => z.toInt8.toInt32) hcb) (own_bne ch_cc ch_dc hcc) (congrArg (fun z : Int32 => z.toInt8.toInt32) hca.symm) (congrArg (fun z : Int32 => z.toInt8.toInt32) hcb.symm) (own_bne ch_dc ch_cc (fun z => hcc z.symm)) X8 hx hZ hby hml hown e8 N8 hret hlk
          · exact own_t33_1 Z a0 hw w_CS w_SF q1 q2 p3 ca cb cc da db dc h0 Z0 S_w_CS S_w_SF R_w_SF ch_ca ch_cb ch_cc hc1 ch_da ch_db ch_dc hca hcb P_ca P_cb P_cc P_da P_db P_dc (congrArg (fun z : Int32 => z.toInt8.toInt32) hca) (own_bne ch_cb ch_db hcb) (congrArg (fun z : Int32 => z.toInt8.toInt32) hca.symm) (own_bne ch_db ch_cb (fun z => hcb z.symm)) X8 hx hZ hby hml hown e8 N8 hret hlk
        · exact own_t33_0 Z a0 hw w_CS w_SF q1 q2 p3 ca cb cc da db dc h0 Z0 S_w_CS S_w_SF R_w_SF ch_ca ch_cb ch_cc hc1 ch_da ch_db ch_dc hca P_ca P_cb P_cc P_da P_db P_dc (own_bne ch_ca ch_da hca) (own_bne ch_da ch_ca (fun z => hca z.symm)) X8 hx hZ hby hml hown e8 N8 hret hlk
  obtain ⟨s₂, o, kk, r⟩ := fin
  exact ⟨s₂, o, k1 _ (k2 _ (k3 _ (k4 _ (k5 _ (k6 _ (k7 _ (k8 _ kk))))))), r⟩
set_option maxRecDepth 65536 in
set_option maxHeartbeats 40000000 in
theorem comes_1 {Post : Tables → Env → Array Value → State → Outcome → State → Prop} (hpost : ∀ tb e args s v u, (limb_1_1.after args s (.returned v) u = true ∧ limb_1_2.after args s (.returned v) u = true ∧ True) → FrameEnd s (.returned v) u (Jvm.fieldLocs frame_1_writes args s ++ Jvm.arrayLocs frame_1_arrays args s ++ Jvm.staticLocs frame_1_statics s) 24 128 → Post tb e args s (.returned v) u) :
    ArmFor flags0 classFile x code maxLocals ret World_1 tables_1 room_1 Calls_1 rest_1 Pre_1 Post := by
  intro l hfl _ _ p e ha hc hk s m args below hf hA hF happ hP
  obtain ⟨hcalls, hrest, hpre⟩ := hP
  obtain ⟨-, -, -, hnamed, -, -, -, hat⟩ := (Spec.applies_iff hf).mp happ
  obtain ⟨hg, hn⟩ := and_e (Cond.before_iff.mp (show (Jvm.Cond.and given_1 narrow_1).before args s = true from hpre))
  obtain ⟨hcount, hG0⟩ := and_e hg
  obtain ⟨hA0, hG1⟩ := and_e hG0
  obtain ⟨hA1, hG2⟩ := and_e hG1
  have hA2 := hG2
  obtain ⟨v0, v1, v2, rfl⟩ : ∃ v0 v1 v2 : Value, args = #[v0, v1, v2] := by
    have hs : args.size = 3 := by simpa [Cond.value, given_1] using hcount
    obtain ⟨L⟩ := args
    match L, hs with
    | [v0, v1, v2], _ => exact ⟨v0, v1, v2, rfl⟩
  have hw := fun d (hd : d ∈ tables_1) => atoms_spec (ws := Jvm.Cond.code x code maxLocals ret :: tables_1) hat d (List.mem_cons_of_mem _ hd)
  obtain ⟨q1, ei0⟩ := isL_v hA0
  obtain rfl : v0 = (.long q1) := Option.some.inj ei0
  obtain ⟨q2, ei1⟩ := isL_v hA1
  obtain rfl : v1 = (.long q2) := Option.some.inj ei1
  obtain ⟨p3, ei2⟩ := is_v hA2
  obtain rfl : v2 = (.int p3) := Option.some.inj ei2
  obtain ⟨hsets, hown0⟩ := atoms_of _ (rest_1_c_eq ▸ (show rest_1_c.before _ s = true from hrest))
  obtain ⟨w_CS, ev_w_CS⟩ := is_v (Cond.before_iff.mp (hsets _ (List.mem_of_getElem? (i := 1) rfl)))
  have S_w_CS : Sta s s.heap "java/lang/String" "COMPACT_STRINGS" "Z" (.int w_CS) := Sta.start ev_w_CS (Or.inl (hsets _ (List.mem_of_getElem? (i := 0) rfl)))
  have hc1 : ¬ (w_CS = (0 : Int32)) := own_neI (not_v (Cond.before_iff.mp (hsets _ (List.mem_of_getElem? (i := 2) rfl)))) ev_w_CS
  obtain ⟨w_SF, ev_w_SF, R_w_SF⟩ := isR_v (Cond.before_iff.mp (hsets _ (List.mem_of_getElem? (i := 8) rfl)))
  have S_w_SF : Sta s s.heap "jdk/internal/util/Preconditions" "SIOOBE_FORMATTER" "Ljava/util/function/BiFunction;" w_SF := Sta.start ev_w_SF (Or.inl (hsets _ (List.mem_of_getElem? (i := 7) rfl)))
  have hX0 : Ext s.heap s.heap := ⟨Nat.le_refl _, fun _ _ q => q⟩
  have key : MetFree l x (head1 (Jvm.Cond.code x code maxLocals ret :: tables_1) room_1) (fun a U => a = #[(.long q1), (.long q2), (.int p3)] ∧ s.Warmed39 U.vm ∧ U.heap = s.heap) (fun _ _ _ _ _ => True) (fun _ U o U' => ∃ v L, o = .returned v ∧ (v = some (.int 1) ∧ Fr s.heap.size L) ∧ FrameEnd U o U' L room_1.cells room_1.slots) := by
    exact rm0 l s _ hw tables_1 w_CS w_SF q1 q2 p3 s.heap hX0 S_w_CS R_w_SF S_w_SF hc1
  obtain ⟨n, o, h1, h2, h3, _, L, rfl, ⟨rfl, N⟩, hq⟩ := key p e ha hc hk s m _ below hf ((Spec.applies_iff_loose hf).mp happ).1 ⟨rfl, State.Warmed39.refl s, rfl⟩ trivial
  refine ⟨n, _, h1, h2, h3, hpost _ _ _ _ _ _ ⟨Cond.after_iff.mpr rfl, Cond.after_iff.mpr (eq_i res_at (Term.int_eval (1)) rfl), trivial⟩ ⟨hq.1, hq.2.1, (hq.2.2.sift fun y hy => Or.inr (N y hy)).mono (by decide) (by decide)⟩⟩
theorem main_1_1 : Claimed_1_1 := comes_1 fun _ _ _ _ _ _ h hF => ⟨h.1, hF⟩
theorem main_1_2 : Claimed_1_2 := comes_1 fun _ _ _ _ _ _ h hF => ⟨h.2.1, hF⟩
end Jvm.Pilot.@@N@@
namespace Jvm.Pilot.@@N@@
open Jvm Jvm.ClassFile Sem Op Lib Jvm.Free Jvm.Stand Jvm.Pilot.@@N@@.Jvm.D
/-! MADE BY PROGRAM (witnessworld.py) out of the Statement's table words and the real class files: 21 classes; the members and pool entries that the words name. The judged class is class 1, her method 4. -/
namespace start1
open Jvm.ClassFile
def u (s : String) : CpInfo := .utf8 (stringToUtf16 s)
/-- a pool by its gaps: so many unusable entries, then the entry; so many at the end -/
def gap : Nat → List CpInfo → List CpInfo
  | 0, r => r
  | n + 1, r => .unusable :: gap n r
def poolList (es : List (Nat × CpInfo)) (last : Nat) : List CpInfo := es.foldr (fun e r => gap e.1 (e.2 :: r)) (gap last [])
def pool (es : List (Nat × CpInfo)) (last : Nat) : Array CpInfo := ⟨poolList es last⟩
def fileOf (pool : Array CpInfo) (this : Nat) (attrs : Array Attribute := #[]) (ms : Array MethodInfo := #[]) (fl : Nat := 33) (sup : Nat := 0) (ifs : Array Nat := #[]) (fds : Array FieldInfo := #[]) : ClassFile where
  minorVersion := 0
  majorVersion := 65
  constantPool := pool
  accessFlags := fl
  thisClass := this
  superClass := sup
  interfaces := ifs
  fields := fds
  methods := ms
  attributes := attrs
def plain (name : String) (sup : Option ClassId) : Class where
  name := name
  kind := .ordinary
  loader := none
  accessFlags := 33
  super := sup
  interfaces := #[]
  cf := none
  fields := #[]
  methods := #[]
  instanceTypes := #[]
  staticTypes := #[]
  resolved := #[]
  callSites := []
  init := .initialized
  statics := none
  mirror := none

def pool0 : Array CpInfo := pool [(5, u "<init>"), (0, u "()V"), (1, .class_ 10), (1, u "java/lang/Object")] 113

def k0c0 : Code := { maxStack := 0, maxLocals := 1, code := object_method_1_code, exceptionTable := #[], attributes := #[] }
def k0m0 : Method := { name := "<init>", desc := "()V", sig := { parameters := [], returnType := none }, accessFlags := 1, code := some k0c0 }
/-- java/lang/Object -/
def k0 : Class := { plain "java/lang/Object" none with
  accessFlags := 33
  interfaces := #[]
  cf := some (fileOf pool0 8 #[] #[{ accessFlags := 1, nameIndex := 5, descriptorIndex := 6, attributes := #[] }] 33 0 #[] #[])
  fields := #[]
  methods := #[k0m0]
  instanceTypes := #[]
  staticTypes := #[]
  resolved := Array.replicate 124 none
  statics := none }

def pool1 : Array CpInfo := pool [(2, .class_ 4), (1, u "java/lang/Object"), (0, u "<init>"), (0, u "()V"), (0, .integer 2147483647), (0, .class_ 9), (0, u "java/lang/String"), (0, .methodref 8 11), (0, .nameAndType 5 12), (0, u "([C)V"), (0, .long 3), (1, .long 65535), (1, .methodref 18 19), (0, .class_ 20), (0, .nameAndType 21 22), (0, u "com/example/faretally/faretally/ReasonEqualsPinLaw"), (0, u "first"), (0, u "(I)C"), (0, .methodref 18 24), (0, .nameAndType 25 22), (0, u "rest"), (0, .methodref 18 27), (0, .nameAndType 28 29), (0, u "str"), (0, u "(ICCC)Ljava/lang/String;"), (0, .class_ 31), (0, u "com/example/faretally/faretally/RefundRequest$Involuntary$Reason"), (0, .methodref 30 33), (0, .nameAndType 5 34), (0, u "(Ljava/lang/String;)V"), (0, .methodref 30 36), (0, .nameAndType 37 38), (0, u "equals"), (0, u "(Ljava/lang/Object;)Z"), (3, u "law"), (0, u "(JJI)Z")] 9

def k1m0 : Method := { name := "<init>", desc := "()V", sig := { parameters := [], returnType := none }, accessFlags := 2, code := none }
def k1c1 : Code := { maxStack := 3, maxLocals := 1, code := method_2_code, exceptionTable := #[], attributes := #[] }
def k1m1 : Method := { name := "first", desc := "(I)C", sig := { parameters := [.int], returnType := some .char }, accessFlags := 10, code := some k1c1 }
def k1c2 : Code := { maxStack := 3, maxLocals := 2, code := method_3_code, exceptionTable := #[], attributes := #[] }
def k1m2 : Method := { name := "rest", desc := "(I)C", sig := { parameters := [.int], returnType := some .char }, accessFlags := 10, code := some k1c2 }
def k1c3 : Code := { maxStack := 6, maxLocals := 4, code := method_4_code, exceptionTable := #[], attributes := #[] }
def k1m3 : Method := { name := "str", desc := "(ICCC)Ljava/lang/String;", sig := { parameters := [.int, .char, .char, .char], returnType := some (.object "java/lang/String") }, accessFlags := 10, code := some k1c3 }
def k1c4 : Code := { maxStack := 5, maxLocals := 19, code := code, exceptionTable := #[], attributes := #[] }
def k1m4 : Method := { name := "law", desc := "(JJI)Z", sig := { parameters := [.long, .long, .int], returnType := some .boolean }, accessFlags := 9, code := some k1c4 }
/-- com/example/faretally/faretally/ReasonEqualsPinLaw -/
def k1 : Class := { plain "com/example/faretally/faretally/ReasonEqualsPinLaw" (some 0) with
  accessFlags := 49
  interfaces := #[]
  cf := some (fileOf pool1 18 #[] #[{ accessFlags := 2, nameIndex := 5, descriptorIndex := 6, attributes := #[] }, { accessFlags := 10, nameIndex := 21, descriptorIndex := 22, attributes := #[] }, { accessFlags := 10, nameIndex := 25, descriptorIndex := 22, attributes := #[] }, { accessFlags := 10, nameIndex := 28, descriptorIndex := 29, attributes := #[] }, { accessFlags := 9, nameIndex := 42, descriptorIndex := 43, attributes := #[] }] 49 2 #[] #[])
  fields := #[]
  methods := #[k1m0, k1m1, k1m2, k1m3, k1m4]
  instanceTypes := #[]
  staticTypes := #[]
  resolved := Array.replicate 53 none
  statics := none }

def pool2 : Array CpInfo := pool [(1, .class_ 2), (0, u "java/io/Serializable"), (0, .class_ 4), (0, u "java/lang/Object")] 2

/-- java/io/Serializable -/
def k2 : Class := { plain "java/io/Serializable" (some 0) with
  accessFlags := 1537
  interfaces := #[]
  cf := some (fileOf pool2 1 #[] #[] 1537 3 #[] #[])
  fields := #[]
  methods := #[]
  instanceTypes := #[]
  staticTypes := #[]
  resolved := Array.replicate 7 none
  statics := none }

def pool3 : Array CpInfo := pool [(1, .class_ 2), (0, u "java/lang/Comparable"), (0, .class_ 4), (0, u "java/lang/Object")] 7

/-- java/lang/Comparable -/
def k3 : Class := { plain "java/lang/Comparable" (some 0) with
  accessFlags := 1537
  interfaces := #[]
  cf := some (fileOf pool3 1 #[] #[] 1537 3 #[] #[])
  fields := #[]
  methods := #[]
  instanceTypes := #[]
  staticTypes := #[]
  resolved := Array.replicate 12 none
  statics := none }

def pool4 : Array CpInfo := pool [(2, .class_ 4), (1, u "java/lang/CharSequence"), (42, .class_ 48), (0, u "java/lang/CharSequence$1CodePointIterator"), (10, .class_ 60), (0, u "java/lang/CharSequence$1CharIterator"), (5, .class_ 67), (0, u "java/lang/Object")] 63

/-- java/lang/CharSequence -/
def k4 : Class := { plain "java/lang/CharSequence" (some 0) with
  accessFlags := 1537
  interfaces := #[]
  cf := some (fileOf pool4 2 #[.nestMembers #[47, 59]] #[] 1537 66 #[] #[])
  fields := #[]
  methods := #[]
  instanceTypes := #[]
  staticTypes := #[]
  resolved := Array.replicate 131 none
  statics := none }

def pool5 : Array CpInfo := pool [(1, .class_ 2), (0, u "java/lang/constant/Constable"), (0, .class_ 4), (0, u "java/lang/Object")] 6

/-- java/lang/constant/Constable -/
def k5 : Class := { plain "java/lang/constant/Constable" (some 0) with
  accessFlags := 1537
  interfaces := #[]
  cf := some (fileOf pool5 1 #[] #[] 1537 3 #[] #[])
  fields := #[]
  methods := #[]
  instanceTypes := #[]
  staticTypes := #[]
  resolved := Array.replicate 11 none
  statics := none }

def pool6 : Array CpInfo := pool [(1, .class_ 2), (0, u "java/lang/constant/ConstantDesc"), (0, .class_ 4), (0, u "java/lang/Object")] 32

/-- java/lang/constant/ConstantDesc -/
def k6 : Class := { plain "java/lang/constant/ConstantDesc" (some 0) with
  accessFlags := 1537
  interfaces := #[]
  cf := some (fileOf pool6 1 #[] #[] 1537 3 #[] #[])
  fields := #[]
  methods := #[]
  instanceTypes := #[]
  staticTypes := #[]
  resolved := Array.replicate 37 none
  statics := none }

def pool7 : Array CpInfo := pool [(1, .methodref 2 3), (0, .class_ 4), (0, .nameAndType 5 6), (0, u "java/lang/Object"), (0, u "<init>"), (0, u "()V"), (2, .fieldref 10 11), (0, .class_ 12), (0, .nameAndType 13 14), (0, u "java/lang/String"), (0, u "value"), (0, u "[B"), (0, .fieldref 10 16), (0, .nameAndType 17 18), (0, u "coder"), (0, u "B"), (2, u "hash"), (0, u "I"), (2, u "hashIsZero"), (0, u "Z"), (0, .methodref 10 28), (0, .nameAndType 5 29), (0, u "([CIILjava/lang/Void;)V"), (8, .fieldref 10 39), (0, .nameAndType 40 26), (0, u "COMPACT_STRINGS"), (1, .class_ 44), (1, u "java/lang/StringUTF16"), (0, u "compress"), (1, .methodref 42 48), (0, .nameAndType 49 50), (0, u "coderFromArrayLen"), (0, u "([BI)B"), (56, .class_ 109), (1, u "java/lang/StringLatin1"), (32, u "()Z"), (34, .methodref 42 178), (0, .nameAndType 45 179), (0, u "([CII)[B"), (154, u "()I"), (0, .methodref 10 336), (0, .nameAndType 17 337), (0, u "()B"), (25, u "([BI)C"), (27, u "(II)V"), (35, u "(I)C"), (64, .methodref 10 493), (0, .nameAndType 494 142), (0, u "isLatin1"), (0, .methodref 107 496), (0, .nameAndType 497 363), (0, u "charAt"), (3, u "checkIndex"), (5, u "length"), (33, .methodref 107 542), (0, .nameAndType 543 544), (0, u "equals"), (0, u "([B[B)Z"), (28, u "(Ljava/lang/Object;)Z"), (1, .class_ 576), (0, u "java/lang/CharSequence"), (22, u "CASE_INSENSITIVE_ORDER"), (0, u "Ljava/util/Comparator;"), (91, u "isEmpty"), (317, u "([C)V"), (42, .fieldref 1054 1055), (0, .class_ 1056), (0, .nameAndType 1057 1058), (0, u "jdk/internal/util/Preconditions"), (0, u "SIOOBE_FORMATTER"), (0, u "Ljava/util/function/BiFunction;"), (0, .methodref 1054 1060), (0, .nameAndType 501 1061), (0, u "(IILjava/util/function/BiFunction;)I"), (39, u "serialPersistentFields"), (0, u "[Ljava/io/ObjectStreamField;"), (0, .class_ 1104), (0, u "java/lang/String$CaseInsensitiveComparator"), (1, .class_ 1107), (0, u "java/io/Serializable"), (0, .class_ 1109), (0, u "java/lang/Comparable"), (0, .class_ 1111), (0, u "java/lang/constant/Constable"), (0, .class_ 1113), (0, u "java/lang/constant/ConstantDesc"), (2, u "serialVersionUID"), (0, u "J"), (3, u "REPL"), (0, u "C"), (2, u "LATIN1"), (1, u "UTF16")] 323

def k7m0 : Method := { name := "<init>", desc := "()V", sig := { parameters := [], returnType := none }, accessFlags := 1, code := none }
def k7c1 : Code := { maxStack := 5, maxLocals := 2, code := jdk_42_method_3_code, exceptionTable := #[], attributes := #[] }
def k7m1 : Method := { name := "<init>", desc := "([C)V", sig := { parameters := [(.array .char)], returnType := none }, accessFlags := 1, code := some k7c1 }
def k7c2 : Code := { maxStack := 2, maxLocals := 1, code := jdk_42_method_54_code, exceptionTable := #[], attributes := #[] }
def k7m2 : Method := { name := "length", desc := "()I", sig := { parameters := [], returnType := some .int }, accessFlags := 1, code := some k7c2 }
def k7c3 : Code := { maxStack := 1, maxLocals := 1, code := jdk_42_method_55_code, exceptionTable := #[], attributes := #[] }
def k7m3 : Method := { name := "isEmpty", desc := "()Z", sig := { parameters := [], returnType := some .boolean }, accessFlags := 1, code := some k7c3 }
def k7c4 : Code := { maxStack := 2, maxLocals := 2, code := jdk_42_method_56_code, exceptionTable := #[], attributes := #[] }
def k7m4 : Method := { name := "charAt", desc := "(I)C", sig := { parameters := [.int], returnType := some .char }, accessFlags := 1, code := some k7c4 }
def k7c5 : Code := { maxStack := 2, maxLocals := 3, code := jdk_42_method_66_code, exceptionTable := #[], attributes := #[] }
def k7m5 : Method := { name := "equals", desc := "(Ljava/lang/Object;)Z", sig := { parameters := [(.object "java/lang/Object")], returnType := some .boolean }, accessFlags := 1, code := some k7c5 }
def k7c6 : Code := { maxStack := 4, maxLocals := 6, code := jdk_42_method_149_code, exceptionTable := #[], attributes := #[] }
def k7m6 : Method := { name := "<init>", desc := "([CIILjava/lang/Void;)V", sig := { parameters := [(.array .char), .int, .int, (.object "java/lang/Void")], returnType := none }, accessFlags := 2, code := some k7c6 }
def k7c7 : Code := { maxStack := 1, maxLocals := 1, code := jdk_42_method_152_code, exceptionTable := #[], attributes := #[] }
def k7m7 : Method := { name := "coder", desc := "()B", sig := { parameters := [], returnType := some .byte }, accessFlags := 0, code := some k7c7 }
def k7c8 : Code := { maxStack := 1, maxLocals := 1, code := jdk_42_method_154_code, exceptionTable := #[], attributes := #[] }
def k7m8 : Method := { name := "isLatin1", desc := "()Z", sig := { parameters := [], returnType := some .boolean }, accessFlags := 0, code := some k7c8 }
def k7c9 : Code := { maxStack := 3, maxLocals := 2, code := jdk_42_method_155_code, exceptionTable := #[], attributes := #[] }
def k7m9 : Method := { name := "checkIndex", desc := "(II)V", sig := { parameters := [.int, .int], returnType := none }, accessFlags := 8, code := some k7c9 }
/-- java/lang/String -/
def k7 : Class := { plain "java/lang/String" (some 0) with
  accessFlags := 49
  interfaces := #[2, 3, 4, 5, 6]
  cf := some (fileOf pool7 10 #[.nestMembers #[1103]] #[{ accessFlags := 1, nameIndex := 5, descriptorIndex := 6, attributes := #[] }, { accessFlags := 1, nameIndex := 5, descriptorIndex := 1010, attributes := #[] }, { accessFlags := 1, nameIndex := 507, descriptorIndex := 334, attributes := #[] }, { accessFlags := 1, nameIndex := 692, descriptorIndex := 142, attributes := #[] }, { accessFlags := 1, nameIndex := 497, descriptorIndex := 427, attributes := #[] }, { accessFlags := 1, nameIndex := 543, descriptorIndex := 573, attributes := #[] }, { accessFlags := 2, nameIndex := 5, descriptorIndex := 29, attributes := #[] }, { accessFlags := 0, nameIndex := 17, descriptorIndex := 337, attributes := #[] }, { accessFlags := 0, nameIndex := 494, descriptorIndex := 142, attributes := #[] }, { accessFlags := 8, nameIndex := 501, descriptorIndex := 391, attributes := #[] }] 49 2 #[1106, 1108, 575, 1110, 1112] #[{ accessFlags := 18, nameIndex := 13, descriptorIndex := 14, attributes := #[] }, { accessFlags := 18, nameIndex := 17, descriptorIndex := 18, attributes := #[] }, { accessFlags := 2, nameIndex := 21, descriptorIndex := 22, attributes := #[] }, { accessFlags := 2, nameIndex := 25, descriptorIndex := 26, attributes := #[] }, { accessFlags := 26, nameIndex := 1116, descriptorIndex := 1117, attributes := #[] }, { accessFlags := 24, nameIndex := 40, descriptorIndex := 26, attributes := #[] }, { accessFlags := 26, nameIndex := 1101, descriptorIndex := 1102, attributes := #[] }, { accessFlags := 26, nameIndex := 1121, descriptorIndex := 1122, attributes := #[] }, { accessFlags := 25, nameIndex := 599, descriptorIndex := 600, attributes := #[] }, { accessFlags := 24, nameIndex := 1125, descriptorIndex := 18, attributes := #[] }, { accessFlags := 24, nameIndex := 1127, descriptorIndex := 18, attributes := #[] }])
  fields := #[{ name := "value", type := (.array .byte), accessFlags := 18, slot := 0, constantValue := 0 }, { name := "coder", type := .byte, accessFlags := 18, slot := 1, constantValue := 0 }, { name := "hash", type := .int, accessFlags := 2, slot := 2, constantValue := 0 }, { name := "hashIsZero", type := .boolean, accessFlags := 2, slot := 3, constantValue := 0 }, { name := "serialVersionUID", type := .long, accessFlags := 26, slot := 0, constantValue := 0 }, { name := "COMPACT_STRINGS", type := .boolean, accessFlags := 24, slot := 1, constantValue := 0 }, { name := "serialPersistentFields", type := (.array (.object "java/io/ObjectStreamField")), accessFlags := 26, slot := 2, constantValue := 0 }, { name := "REPL", type := .char, accessFlags := 26, slot := 3, constantValue := 0 }, { name := "CASE_INSENSITIVE_ORDER", type := (.object "java/util/Comparator"), accessFlags := 25, slot := 4, constantValue := 0 }, { name := "LATIN1", type := .byte, accessFlags := 24, slot := 5, constantValue := 0 }, { name := "UTF16", type := .byte, accessFlags := 24, slot := 6, constantValue := 0 }]
  methods := #[k7m0, k7m1, k7m2, k7m3, k7m4, k7m5, k7m6, k7m7, k7m8, k7m9]
  instanceTypes := #[(.array .byte), .byte, .int, .boolean]
  staticTypes := #[.long, .boolean, (.array (.object "java/io/ObjectStreamField")), .char, (.object "java/util/Comparator"), .byte, .byte]
  resolved := Array.replicate 1451 none
  statics := some 0 }

def pool8 : Array CpInfo := pool [(6, .class_ 8), (1, u "java/lang/Object"), (0, u "<init>"), (0, u "()V"), (1, .class_ 14), (1, u "java/lang/StringUTF16"), (31, u "$assertionsDisabled"), (0, u "Z"), (13, u "HI_BYTE_SHIFT"), (0, u "I"), (2, u "LO_BYTE_SHIFT"), (49, .methodref 12 116), (0, .nameAndType 117 118), (0, u "compress"), (0, u "([CI[BII)I"), (3, u "([CII)[B"), (138, u "coderFromArrayLen"), (0, u "([BI)B"), (106, .class_ 371), (1, u "java/lang/StringUTF16$LinesSpliterator"), (58, u "MAX_LENGTH"), (196, .class_ 628), (0, u "java/lang/StringUTF16$CodePointsSpliterator"), (0, .class_ 630), (0, u "java/lang/StringUTF16$CharsSpliterator")] 4

def k8m0 : Method := { name := "<init>", desc := "()V", sig := { parameters := [], returnType := none }, accessFlags := 0, code := none }
def k8c1 : Code := { maxStack := 2, maxLocals := 2, code := jdk_52_method_15_code, exceptionTable := #[], attributes := #[] }
def k8m1 : Method := { name := "coderFromArrayLen", desc := "([BI)B", sig := { parameters := [(.array .byte), .int], returnType := some .byte }, accessFlags := 8, code := some k8c1 }
def k8c2 : Code := { maxStack := 5, maxLocals := 6, code := jdk_52_method_16_code, exceptionTable := #[], attributes := #[] }
def k8m2 : Method := { name := "compress", desc := "([CII)[B", sig := { parameters := [(.array .char), .int, .int], returnType := some (.array .byte) }, accessFlags := 9, code := some k8c2 }
def k8c3 : Code := { maxStack := 3, maxLocals := 7, code := jdk_52_method_21_code, exceptionTable := #[], attributes := #[] }
def k8m3 : Method := { name := "compress", desc := "([CI[BII)I", sig := { parameters := [(.array .char), .int, (.array .byte), .int, .int], returnType := some .int }, accessFlags := 9, code := some k8c3 }
/-- java/lang/StringUTF16 -/
def k8 : Class := { plain "java/lang/StringUTF16" (some 0) with
  accessFlags := 48
  interfaces := #[]
  cf := some (fileOf pool8 12 #[.nestMembers #[627, 629, 369]] #[{ accessFlags := 0, nameIndex := 9, descriptorIndex := 10, attributes := #[] }, { accessFlags := 8, nameIndex := 261, descriptorIndex := 262, attributes := #[] }, { accessFlags := 9, nameIndex := 117, descriptorIndex := 122, attributes := #[] }, { accessFlags := 9, nameIndex := 117, descriptorIndex := 118, attributes := #[] }] 48 6 #[] #[{ accessFlags := 26, nameIndex := 61, descriptorIndex := 62, attributes := #[] }, { accessFlags := 26, nameIndex := 65, descriptorIndex := 62, attributes := #[] }, { accessFlags := 24, nameIndex := 430, descriptorIndex := 62, attributes := #[] }, { accessFlags := 4120, nameIndex := 46, descriptorIndex := 47, attributes := #[] }])
  fields := #[{ name := "HI_BYTE_SHIFT", type := .int, accessFlags := 26, slot := 0, constantValue := 0 }, { name := "LO_BYTE_SHIFT", type := .int, accessFlags := 26, slot := 1, constantValue := 0 }, { name := "MAX_LENGTH", type := .int, accessFlags := 24, slot := 2, constantValue := 0 }, { name := "$assertionsDisabled", type := .boolean, accessFlags := 4120, slot := 3, constantValue := 0 }]
  methods := #[k8m0, k8m1, k8m2, k8m3]
  instanceTypes := #[]
  staticTypes := #[.int, .int, .int, .boolean]
  resolved := Array.replicate 635 none
  statics := none }

def pool9 : Array CpInfo := pool [(1, .methodref 2 3), (0, .class_ 4), (0, .nameAndType 5 6), (0, u "java/lang/Object"), (0, u "<init>"), (0, u "()V"), (0, .class_ 8), (0, u "java/lang/Record")] 13

def k9c0 : Code := { maxStack := 1, maxLocals := 1, code := jdk_30_method_1_code, exceptionTable := #[], attributes := #[] }
def k9m0 : Method := { name := "<init>", desc := "()V", sig := { parameters := [], returnType := none }, accessFlags := 4, code := some k9c0 }
/-- java/lang/Record -/
def k9 : Class := { plain "java/lang/Record" (some 0) with
  accessFlags := 1057
  interfaces := #[]
  cf := some (fileOf pool9 7 #[] #[{ accessFlags := 4, nameIndex := 5, descriptorIndex := 6, attributes := #[] }] 1057 2 #[] #[])
  fields := #[]
  methods := #[k9m0]
  instanceTypes := #[]
  staticTypes := #[]
  resolved := Array.replicate 22 none
  statics := none }

def pool10 : Array CpInfo := pool [(1, .methodref 2 3), (0, .class_ 4), (0, .nameAndType 5 6), (0, u "java/lang/Record"), (0, u "<init>"), (0, u "()V"), (0, .methodref 8 9), (0, .class_ 10), (0, .nameAndType 11 12), (0, u "com/example/faretally/faretally/RefundRequest$Involuntary$Reason"), (0, u "isName"), (0, u "(Ljava/lang/String;)Z"), (13, u "(Ljava/lang/String;)V"), (0, .fieldref 8 28), (0, .nameAndType 29 30), (0, u "written"), (0, u "Ljava/lang/String;"), (0, .methodref 32 33), (0, .class_ 34), (0, .nameAndType 35 36), (0, u "java/lang/String"), (0, u "isEmpty"), (0, u "()Z"), (0, .methodref 32 38), (0, .nameAndType 39 40), (0, u "charAt"), (0, u "(I)C"), (0, .methodref 32 42), (0, .nameAndType 43 44), (0, u "length"), (0, u "()I"), (0, .methodref 32 46), (0, .nameAndType 47 48), (0, u "equals"), (0, u "(Ljava/lang/Object;)Z"), (7, u "STANDARD"), (0, u "Ljava/util/Map;"), (29, u "DELAY"), (0, u "Lcom/example/faretally/faretally/RefundRequest$Involuntary$Reason;"), (3, u "SCHEDULE_CHANGE"), (9, u "CANCELLED"), (8, u "MISSED_CONNECTION"), (4, u "AIRPORT_CHANGE"), (4, u "CARRIER_CHANGE"), (4, u "EQUIPMENT_CHANGE"), (4, u "DEATH"), (4, u "ILLNESS"), (12, u "NAME_EXPECTED"), (17, .class_ 168), (0, u "com/example/faretally/faretally/RefundRequest")] 42

def k10c0 : Code := { maxStack := 3, maxLocals := 2, code := prog_97_method_1_code, exceptionTable := #[], attributes := #[] }
def k10m0 : Method := { name := "<init>", desc := "(Ljava/lang/String;)V", sig := { parameters := [(.object "java/lang/String")], returnType := none }, accessFlags := 1, code := some k10c0 }
def k10c1 : Code := { maxStack := 2, maxLocals := 4, code := prog_97_method_2_code, exceptionTable := #[], attributes := #[] }
def k10m1 : Method := { name := "isName", desc := "(Ljava/lang/String;)Z", sig := { parameters := [(.object "java/lang/String")], returnType := some .boolean }, accessFlags := 8, code := some k10c1 }
def k10c2 : Code := { maxStack := 2, maxLocals := 3, code := prog_97_method_3_code, exceptionTable := #[], attributes := #[] }
def k10m2 : Method := { name := "equals", desc := "(Ljava/lang/Object;)Z", sig := { parameters := [(.object "java/lang/Object")], returnType := some .boolean }, accessFlags := 1, code := some k10c2 }
/-- com/example/faretally/faretally/RefundRequest$Involuntary$Reason -/
def k10 : Class := { plain "com/example/faretally/faretally/RefundRequest$Involuntary$Reason" (some 9) with
  accessFlags := 49
  interfaces := #[]
  cf := some (fileOf pool10 8 #[.nestHost 167] #[{ accessFlags := 1, nameIndex := 5, descriptorIndex := 26, attributes := #[] }, { accessFlags := 8, nameIndex := 11, descriptorIndex := 12, attributes := #[] }, { accessFlags := 1, nameIndex := 47, descriptorIndex := 48, attributes := #[] }] 49 2 #[] #[{ accessFlags := 18, nameIndex := 29, descriptorIndex := 30, attributes := #[] }, { accessFlags := 25, nameIndex := 102, descriptorIndex := 88, attributes := #[] }, { accessFlags := 25, nameIndex := 87, descriptorIndex := 88, attributes := #[] }, { accessFlags := 25, nameIndex := 92, descriptorIndex := 88, attributes := #[] }, { accessFlags := 25, nameIndex := 111, descriptorIndex := 88, attributes := #[] }, { accessFlags := 25, nameIndex := 116, descriptorIndex := 88, attributes := #[] }, { accessFlags := 25, nameIndex := 121, descriptorIndex := 88, attributes := #[] }, { accessFlags := 25, nameIndex := 126, descriptorIndex := 88, attributes := #[] }, { accessFlags := 25, nameIndex := 131, descriptorIndex := 88, attributes := #[] }, { accessFlags := 25, nameIndex := 136, descriptorIndex := 88, attributes := #[] }, { accessFlags := 24, nameIndex := 56, descriptorIndex := 57, attributes := #[] }, { accessFlags := 24, nameIndex := 149, descriptorIndex := 30, attributes := #[] }])
  fields := #[{ name := "written", type := (.object "java/lang/String"), accessFlags := 18, slot := 0, constantValue := 0 }, { name := "CANCELLED", type := (.object "com/example/faretally/faretally/RefundRequest$Involuntary$Reason"), accessFlags := 25, slot := 0, constantValue := 0 }, { name := "DELAY", type := (.object "com/example/faretally/faretally/RefundRequest$Involuntary$Reason"), accessFlags := 25, slot := 1, constantValue := 0 }, { name := "SCHEDULE_CHANGE", type := (.object "com/example/faretally/faretally/RefundRequest$Involuntary$Reason"), accessFlags := 25, slot := 2, constantValue := 0 }, { name := "MISSED_CONNECTION", type := (.object "com/example/faretally/faretally/RefundRequest$Involuntary$Reason"), accessFlags := 25, slot := 3, constantValue := 0 }, { name := "AIRPORT_CHANGE", type := (.object "com/example/faretally/faretally/RefundRequest$Involuntary$Reason"), accessFlags := 25, slot := 4, constantValue := 0 }, { name := "CARRIER_CHANGE", type := (.object "com/example/faretally/faretally/RefundRequest$Involuntary$Reason"), accessFlags := 25, slot := 5, constantValue := 0 }, { name := "EQUIPMENT_CHANGE", type := (.object "com/example/faretally/faretally/RefundRequest$Involuntary$Reason"), accessFlags := 25, slot := 6, constantValue := 0 }, { name := "DEATH", type := (.object "com/example/faretally/faretally/RefundRequest$Involuntary$Reason"), accessFlags := 25, slot := 7, constantValue := 0 }, { name := "ILLNESS", type := (.object "com/example/faretally/faretally/RefundRequest$Involuntary$Reason"), accessFlags := 25, slot := 8, constantValue := 0 }, { name := "STANDARD", type := (.object "java/util/Map"), accessFlags := 24, slot := 9, constantValue := 0 }, { name := "NAME_EXPECTED", type := (.object "java/lang/String"), accessFlags := 24, slot := 10, constantValue := 0 }]
  methods := #[k10m0, k10m1, k10m2]
  instanceTypes := #[(.object "java/lang/String")]
  staticTypes := #[(.object "com/example/faretally/faretally/RefundRequest$Involuntary$Reason"), (.object "com/example/faretally/faretally/RefundRequest$Involuntary$Reason"), (.object "com/example/faretally/faretally/RefundRequest$Involuntary$Reason"), (.object "com/example/faretally/faretally/RefundRequest$Involuntary$Reason"), (.object "com/example/faretally/faretally/RefundRequest$Involuntary$Reason"), (.object "com/example/faretally/faretally/RefundRequest$Involuntary$Reason"), (.object "com/example/faretally/faretally/RefundRequest$Involuntary$Reason"), (.object "com/example/faretally/faretally/RefundRequest$Involuntary$Reason"), (.object "com/example/faretally/faretally/RefundRequest$Involuntary$Reason"), (.object "java/util/Map"), (.object "java/lang/String")]
  resolved := Array.replicate 211 none
  statics := none }

def pool11 : Array CpInfo := pool [(1, .class_ 2), (0, u "java/lang/String"), (1, .class_ 6), (1, u "java/lang/Object"), (0, u "<init>"), (0, u "()V"), (0, .methodref 1 10), (0, .nameAndType 11 12), (0, u "checkIndex"), (0, u "(II)V"), (1, .class_ 16), (1, u "java/lang/StringLatin1"), (36, u "([BI)C"), (67, u "$assertionsDisabled"), (0, u "Z"), (98, .class_ 223), (1, u "java/lang/StringLatin1$LinesSpliterator"), (28, u "charAt"), (28, u "equals"), (0, u "([B[B)Z"), (107, .class_ 391), (0, u "java/lang/StringLatin1$CharsSpliterator")] 3

def k11m0 : Method := { name := "<init>", desc := "()V", sig := { parameters := [], returnType := none }, accessFlags := 0, code := none }
def k11c1 : Code := { maxStack := 2, maxLocals := 2, code := jdk_43_method_2_code, exceptionTable := #[], attributes := #[] }
def k11m1 : Method := { name := "charAt", desc := "([BI)C", sig := { parameters := [(.array .byte), .int], returnType := some .char }, accessFlags := 9, code := some k11c1 }
def k11c2 : Code := { maxStack := 3, maxLocals := 3, code := jdk_43_method_13_code, exceptionTable := #[], attributes := #[] }
def k11m2 : Method := { name := "equals", desc := "([B[B)Z", sig := { parameters := [(.array .byte), (.array .byte)], returnType := some .boolean }, accessFlags := 9, code := some k11c2 }
/-- java/lang/StringLatin1 -/
def k11 : Class := { plain "java/lang/StringLatin1" (some 0) with
  accessFlags := 48
  interfaces := #[]
  cf := some (fileOf pool11 14 #[.nestMembers #[390, 221]] #[{ accessFlags := 0, nameIndex := 7, descriptorIndex := 8, attributes := #[] }, { accessFlags := 9, nameIndex := 252, descriptorIndex := 53, attributes := #[] }, { accessFlags := 9, nameIndex := 281, descriptorIndex := 282, attributes := #[] }] 48 4 #[] #[{ accessFlags := 4120, nameIndex := 121, descriptorIndex := 122, attributes := #[] }])
  fields := #[{ name := "$assertionsDisabled", type := .boolean, accessFlags := 4120, slot := 0, constantValue := 0 }]
  methods := #[k11m0, k11m1, k11m2]
  instanceTypes := #[]
  staticTypes := #[.boolean]
  resolved := Array.replicate 395 none
  statics := none }

def pool12 : Array CpInfo := pool [(2, .class_ 4), (1, u "java/lang/Object"), (0, u "<init>"), (0, u "()V"), (17, .class_ 26), (1, u "jdk/internal/util/Preconditions"), (6, u "checkIndex"), (21, .class_ 56), (0, u "jdk/internal/util/Preconditions$4"), (57, .class_ 115), (0, u "jdk/internal/util/Preconditions$1"), (7, u "SIOOBE_FORMATTER"), (0, u "Ljava/util/function/BiFunction;"), (0, .class_ 126), (0, u "jdk/internal/util/Preconditions$2"), (3, u "AIOOBE_FORMATTER"), (0, .class_ 132), (0, u "jdk/internal/util/Preconditions$3"), (3, u "IOOBE_FORMATTER"), (41, u "(IILjava/util/function/BiFunction;)I")] 15

def k12m0 : Method := { name := "<init>", desc := "()V", sig := { parameters := [], returnType := none }, accessFlags := 1, code := none }
def k12c1 : Code := { maxStack := 3, maxLocals := 3, code := jdk_41_method_11_code, exceptionTable := #[], attributes := #[] }
def k12m1 : Method := { name := "checkIndex", desc := "(IILjava/util/function/BiFunction;)I", sig := { parameters := [.int, .int, (.object "java/util/function/BiFunction")], returnType := some .int }, accessFlags := 9, code := some k12c1 }
/-- jdk/internal/util/Preconditions -/
def k12 : Class := { plain "jdk/internal/util/Preconditions" (some 0) with
  accessFlags := 33
  interfaces := #[]
  cf := some (fileOf pool12 24 #[.nestMembers #[55, 131, 125, 114]] #[{ accessFlags := 1, nameIndex := 5, descriptorIndex := 6, attributes := #[] }, { accessFlags := 9, nameIndex := 33, descriptorIndex := 178, attributes := #[] }] 33 2 #[] #[{ accessFlags := 25, nameIndex := 123, descriptorIndex := 124, attributes := #[] }, { accessFlags := 25, nameIndex := 130, descriptorIndex := 124, attributes := #[] }, { accessFlags := 25, nameIndex := 136, descriptorIndex := 124, attributes := #[] }])
  fields := #[{ name := "SIOOBE_FORMATTER", type := (.object "java/util/function/BiFunction"), accessFlags := 25, slot := 0, constantValue := 0 }, { name := "AIOOBE_FORMATTER", type := (.object "java/util/function/BiFunction"), accessFlags := 25, slot := 1, constantValue := 0 }, { name := "IOOBE_FORMATTER", type := (.object "java/util/function/BiFunction"), accessFlags := 25, slot := 2, constantValue := 0 }]
  methods := #[k12m0, k12m1]
  instanceTypes := #[]
  staticTypes := #[(.object "java/util/function/BiFunction"), (.object "java/util/function/BiFunction"), (.object "java/util/function/BiFunction")]
  resolved := Array.replicate 194 none
  statics := some 1 }

def pool13 : Array CpInfo := pool [(9, u "<init>"), (6, .class_ 18), (1, u "java/lang/Object"), (0, u "()V"), (1, .class_ 23), (1, u "jdk/internal/util/ArraysSupport"), (0, u "LOG2_ARRAY_LONG_INDEX_SCALE"), (0, u "I"), (2, u "U"), (0, u "Ljdk/internal/misc/Unsafe;"), (8, u "BIG_ENDIAN"), (0, u "Z"), (8, u "LOG2_BYTE_BIT_SIZE"), (4, u "LOG2_ARRAY_INT_INDEX_SCALE"), (54, u "JLA"), (0, u "Ljdk/internal/access/JavaLangAccess;"), (11, u "LOG2_ARRAY_BOOLEAN_INDEX_SCALE"), (9, u "LOG2_ARRAY_BYTE_INDEX_SCALE"), (5, u "LOG2_ARRAY_CHAR_INDEX_SCALE"), (5, u "LOG2_ARRAY_SHORT_INDEX_SCALE"), (18, u "LOG2_ARRAY_FLOAT_INDEX_SCALE"), (24, u "LOG2_ARRAY_DOUBLE_INDEX_SCALE"), (89, u "T_BOOLEAN"), (2, u "T_CHAR"), (1, u "T_FLOAT"), (1, u "T_DOUBLE"), (1, u "T_BYTE"), (1, u "T_SHORT"), (1, u "T_INT"), (1, u "T_LONG"), (1, u "SOFT_MAX_ARRAY_LENGTH")] 83

def k13m0 : Method := { name := "<init>", desc := "()V", sig := { parameters := [], returnType := none }, accessFlags := 2, code := none }
/-- jdk/internal/util/ArraysSupport -/
def k13 : Class := { plain "jdk/internal/util/ArraysSupport" (some 0) with
  accessFlags := 33
  interfaces := #[]
  cf := some (fileOf pool13 21 #[] #[{ accessFlags := 2, nameIndex := 9, descriptorIndex := 19, attributes := #[] }] 33 16 #[] #[{ accessFlags := 24, nameIndex := 28, descriptorIndex := 29, attributes := #[] }, { accessFlags := 26, nameIndex := 38, descriptorIndex := 39, attributes := #[] }, { accessFlags := 25, nameIndex := 121, descriptorIndex := 25, attributes := #[] }, { accessFlags := 25, nameIndex := 131, descriptorIndex := 25, attributes := #[] }, { accessFlags := 25, nameIndex := 137, descriptorIndex := 25, attributes := #[] }, { accessFlags := 25, nameIndex := 143, descriptorIndex := 25, attributes := #[] }, { accessFlags := 25, nameIndex := 53, descriptorIndex := 25, attributes := #[] }, { accessFlags := 25, nameIndex := 24, descriptorIndex := 25, attributes := #[] }, { accessFlags := 25, nameIndex := 162, descriptorIndex := 25, attributes := #[] }, { accessFlags := 25, nameIndex := 187, descriptorIndex := 25, attributes := #[] }, { accessFlags := 26, nameIndex := 48, descriptorIndex := 25, attributes := #[] }, { accessFlags := 25, nameIndex := 277, descriptorIndex := 25, attributes := #[] }, { accessFlags := 25, nameIndex := 280, descriptorIndex := 25, attributes := #[] }, { accessFlags := 25, nameIndex := 282, descriptorIndex := 25, attributes := #[] }, { accessFlags := 25, nameIndex := 284, descriptorIndex := 25, attributes := #[] }, { accessFlags := 25, nameIndex := 286, descriptorIndex := 25, attributes := #[] }, { accessFlags := 25, nameIndex := 288, descriptorIndex := 25, attributes := #[] }, { accessFlags := 25, nameIndex := 290, descriptorIndex := 25, attributes := #[] }, { accessFlags := 25, nameIndex := 292, descriptorIndex := 25, attributes := #[] }, { accessFlags := 26, nameIndex := 108, descriptorIndex := 109, attributes := #[] }, { accessFlags := 25, nameIndex := 294, descriptorIndex := 25, attributes := #[] }])
  fields := #[{ name := "U", type := (.object "jdk/internal/misc/Unsafe"), accessFlags := 24, slot := 0, constantValue := 0 }, { name := "BIG_ENDIAN", type := .boolean, accessFlags := 26, slot := 1, constantValue := 0 }, { name := "LOG2_ARRAY_BOOLEAN_INDEX_SCALE", type := .int, accessFlags := 25, slot := 2, constantValue := 0 }, { name := "LOG2_ARRAY_BYTE_INDEX_SCALE", type := .int, accessFlags := 25, slot := 3, constantValue := 0 }, { name := "LOG2_ARRAY_CHAR_INDEX_SCALE", type := .int, accessFlags := 25, slot := 4, constantValue := 0 }, { name := "LOG2_ARRAY_SHORT_INDEX_SCALE", type := .int, accessFlags := 25, slot := 5, constantValue := 0 }, { name := "LOG2_ARRAY_INT_INDEX_SCALE", type := .int, accessFlags := 25, slot := 6, constantValue := 0 }, { name := "LOG2_ARRAY_LONG_INDEX_SCALE", type := .int, accessFlags := 25, slot := 7, constantValue := 0 }, { name := "LOG2_ARRAY_FLOAT_INDEX_SCALE", type := .int, accessFlags := 25, slot := 8, constantValue := 0 }, { name := "LOG2_ARRAY_DOUBLE_INDEX_SCALE", type := .int, accessFlags := 25, slot := 9, constantValue := 0 }, { name := "LOG2_BYTE_BIT_SIZE", type := .int, accessFlags := 26, slot := 10, constantValue := 0 }, { name := "T_BOOLEAN", type := .int, accessFlags := 25, slot := 11, constantValue := 0 }, { name := "T_CHAR", type := .int, accessFlags := 25, slot := 12, constantValue := 0 }, { name := "T_FLOAT", type := .int, accessFlags := 25, slot := 13, constantValue := 0 }, { name := "T_DOUBLE", type := .int, accessFlags := 25, slot := 14, constantValue := 0 }, { name := "T_BYTE", type := .int, accessFlags := 25, slot := 15, constantValue := 0 }, { name := "T_SHORT", type := .int, accessFlags := 25, slot := 16, constantValue := 0 }, { name := "T_INT", type := .int, accessFlags := 25, slot := 17, constantValue := 0 }, { name := "T_LONG", type := .int, accessFlags := 25, slot := 18, constantValue := 0 }, { name := "JLA", type := (.object "jdk/internal/access/JavaLangAccess"), accessFlags := 26, slot := 19, constantValue := 0 }, { name := "SOFT_MAX_ARRAY_LENGTH", type := .int, accessFlags := 25, slot := 20, constantValue := 0 }]
  methods := #[k13m0]
  instanceTypes := #[]
  staticTypes := #[(.object "jdk/internal/misc/Unsafe"), .boolean, .int, .int, .int, .int, .int, .int, .int, .int, .int, .int, .int, .int, .int, .int, .int, .int, .int, (.object "jdk/internal/access/JavaLangAccess"), .int]
  resolved := Array.replicate 378 none
  statics := none }

def pool14 : Array CpInfo := pool [(1, u "java/lang/Cloneable"), (0, .class_ 1), (0, u "java/lang/Object"), (0, .class_ 3)] 3

/-- java/lang/Cloneable -/
def k14 : Class := { plain "java/lang/Cloneable" (some 0) with
  accessFlags := 1537
  interfaces := #[]
  cf := some (fileOf pool14 2 #[] #[] 1537 4 #[] #[])
  fields := #[]
  methods := #[]
  instanceTypes := #[]
  staticTypes := #[]
  resolved := Array.replicate 8 none
  statics := none }

/-- the primitive byte -/
def k15 : Class := { plain "byte" none with kind := .primitive 'B', accessFlags := 0x411 }
/-- [B -/
def k16 : Class := { plain "[B" (some 0) with kind := .array 15 .byte, interfaces := #[14, 2], accessFlags := 1041 }

/-- the primitive char -/
def k17 : Class := { plain "char" none with kind := .primitive 'C', accessFlags := 0x411 }
/-- [C -/
def k18 : Class := { plain "[C" (some 0) with kind := .array 17 .char, interfaces := #[14, 2], accessFlags := 1041 }

/-- the primitive int -/
def k19 : Class := { plain "int" none with kind := .primitive 'I', accessFlags := 0x411 }
/-- [I -/
def k20 : Class := { plain "[I" (some 0) with kind := .array 19 .int, interfaces := #[14, 2], accessFlags := 1041 }

def heap : Heap := #[{ cls := 7, slots := #[.long 0, .int 1, .null, .int 0, .null, .int 0, .int 0], vm := .statics 7 },
  { cls := 12, slots := #[.null, .null, .null], vm := .statics 12 }]
def classes : Array Class := #[k0, k1, k2, k3, k4, k5, k6, k7, k8, k9, k10, k11, k12, k13, k14, k15, k16, k17, k18, k19, k20]
def interned : List (Array UInt16 × Addr) := []
def slotsUsed : Nat := 10
def theMethod : MethodId := ⟨1, 4⟩
def args0 : Array Value := #[.long 5, .long 7, .int 3]
def aboutOver (below : List Frame) : State where
  vm := { classes := classes, interned := interned.toArray }
  heap := heap
  slotsUsed := slotsUsed
  threads := #[{ frames := .invoking theMethod args0 :: below }]
def below0 : List Frame := [.native { method := ⟨0, 0⟩, args := #[] }]
def about1 : State := aboutOver below0
def p0 : Program := .bare "" "" ""
def e0 : Env := launch0.env 0 0 0
theorem w_frames : about1.frames = Frame.invoking theMethod args0 :: below0 := rfl
set_option maxRecDepth 65536 in
theorem w_args : argsFit about1.vm theMethod args0 = true := by decide +kernel
set_option maxRecDepth 65536 in
theorem w_heap : heapFits about1 = true := by decide +kernel
set_option maxRecDepth 65536 in
theorem w_runnable : about1.curStatus? = some .runnable := by decide +kernel
set_option maxRecDepth 65536 in
theorem w_alone : about1.alone = true := by decide +kernel
set_option maxRecDepth 65536 in
theorem w_named : about1.methodNamed? x = some theMethod := by decide +kernel
set_option maxRecDepth 65536 in
theorem w_hears : about1.hears theMethod below0 = true := by decide +kernel
set_option maxRecDepth 65536 in
theorem w_ripe : about1.ripe theMethod args0 below0 = true := by decide +kernel
theorem w_running : about1.status = .running := rfl
set_option maxRecDepth 65536 in
theorem w_room : about1.hasRoom e0.platform room_1 = true :=
  launch0.hasRoom_least _ room_1 (by decide +kernel) (by decide +kernel) (by decide +kernel) (by decide +kernel) (by decide +kernel) (by decide +kernel)
theorem allAtoms_all (ts : List Jvm.Cond) (a : Array Jvm.Value) (st : Jvm.State) : (allAtoms ts).before a st = ts.all (fun c => c.before a st) := by
  induction ts with
  | nil => rfl
  | cons c t ih =>
    show (Jvm.Cond.and c (allAtoms t)).before a st = _
    rw [Jvm.Cond.before_and, ih, List.all_cons]
def words1 : List Jvm.Cond := Jvm.Cond.code x code maxLocals ret :: tables_1
/-- a 'code' word, met by the world's own term for the bytes: nothing is compared byte by byte -/
theorem code_word {y : MethodName} {bytes : ByteArray} {mx : Nat} {rt : Option FieldType} {a : Array Value} {s : State} {m : MethodId} {meth : Method} {c : Code} (h1 : s.methodNamed? y = some m) (h2 : s.vm.method? m = some meth) (h3 : meth.code = some c) (h4 : c.code = bytes)
    (h5 : (c.maxLocals == mx && c.exceptionTable.isEmpty && decide (c.maxStack ≤ mostOperands) && decide (meth.sig.returnType = rt) && !meth.locks && decide (parseMethodDescriptor y.desc = some meth.sig)) = true) : (Jvm.Cond.code y bytes mx rt).before a s = true := by
  simp only [Bool.and_eq_true, beq_iff_eq, Bool.not_eq_true', decide_eq_true_eq] at h5
  obtain ⟨⟨⟨⟨⟨g1, g2⟩, g3⟩, g4⟩, g5⟩, g6⟩ := h5
  simp [Cond.before, Cond.holds, Cond.value, h1, h2, h3, h4, g1, g2, g3, g4, g5, g6]
def isCode : Jvm.Cond → Bool
  | .code _ _ _ _ => true
  | _ => false
theorem all_split {L : List Jvm.Cond} {P : Jvm.Cond → Bool} (h1 : L.all (fun c => isCode c || P c) = true) (h2 : ∀ c ∈ L.filter isCode, P c = true) : L.all P = true := by
  refine List.all_eq_true.mpr fun c hc => ?_
  have h := List.all_eq_true.mp h1 c hc
  rcases Bool.eq_false_or_eq_true (isCode c) with hi | hi
  · exact h2 c (List.mem_filter.mpr ⟨hc, hi⟩)
  · simpa [hi] using h
set_option maxRecDepth 65536 in
theorem w_c0 : (Jvm.Cond.code x code maxLocals ret).before args0 about1 = true := code_word (m := ⟨1, 4⟩) (meth := k1m4) (c := k1c4) (by decide +kernel) rfl rfl rfl (by decide +kernel)
set_option maxRecDepth 65536 in
theorem w_c1 : (Jvm.Cond.code ({ cls := "com/example/faretally/faretally/ReasonEqualsPinLaw", name := "first", desc := "(I)C" } : Jvm.MethodName) method_2_code (1 : Nat) (Option.some Jvm.ClassFile.FieldType.char)).before args0 about1 = true := code_word (m := ⟨1, 1⟩) (meth := k1m1) (c := k1c1) (by decide +kernel) rfl rfl rfl (by decide +kernel)
set_option maxRecDepth 65536 in
theorem w_c2 : (Jvm.Cond.code ({ cls := "com/example/faretally/faretally/ReasonEqualsPinLaw", name := "rest", desc := "(I)C" } : Jvm.MethodName) method_3_code (2 : Nat) (Option.some Jvm.ClassFile.FieldType.char)).before args0 about1 = true := code_word (m := ⟨1, 2⟩) (meth := k1m2) (c := k1c2) (by decide +kernel) rfl rfl rfl (by decide +kernel)
set_option maxRecDepth 65536 in
theorem w_c3 : (Jvm.Cond.code ({ cls := "com/example/faretally/faretally/ReasonEqualsPinLaw", name := "str", desc := "(ICCC)Ljava/lang/String;" } : Jvm.MethodName) method_4_code (4 : Nat) (Option.some (Jvm.ClassFile.FieldType.object "java/lang/String"))).before args0 about1 = true := code_word (m := ⟨1, 3⟩) (meth := k1m3) (c := k1c3) (by decide +kernel) rfl rfl rfl (by decide +kernel)
set_option maxRecDepth 65536 in
theorem w_c4 : (Jvm.Cond.code ({ cls := "java/lang/String", name := "<init>", desc := "([C)V" } : Jvm.MethodName) jdk_42_method_3_code (2 : Nat) (Option.none : Option Jvm.ClassFile.FieldType)).before args0 about1 = true := code_word (m := ⟨7, 1⟩) (meth := k7m1) (c := k7c1) (by decide +kernel) rfl rfl rfl (by decide +kernel)
set_option maxRecDepth 65536 in
theorem w_c5 : (Jvm.Cond.code ({ cls := "java/lang/String", name := "<init>", desc := "([CIILjava/lang/Void;)V" } : Jvm.MethodName) jdk_42_method_149_code (6 : Nat) (Option.none : Option Jvm.ClassFile.FieldType)).before args0 about1 = true := code_word (m := ⟨7, 6⟩) (meth := k7m6) (c := k7c6) (by decide +kernel) rfl rfl rfl (by decide +kernel)
set_option maxRecDepth 65536 in
theorem w_c6 : (Jvm.Cond.code ({ cls := "java/lang/Object", name := "<init>", desc := "()V" } : Jvm.MethodName) object_method_1_code (1 : Nat) (Option.none : Option Jvm.ClassFile.FieldType)).before args0 about1 = true := code_word (m := ⟨0, 0⟩) (meth := k0m0) (c := k0c0) (by decide +kernel) rfl rfl rfl (by decide +kernel)
set_option maxRecDepth 65536 in
theorem w_c7 : (Jvm.Cond.code ({ cls := "java/lang/StringUTF16", name := "compress", desc := "([CII)[B" } : Jvm.MethodName) jdk_52_method_16_code (6 : Nat) (Option.some (Jvm.ClassFile.FieldType.array Jvm.ClassFile.FieldType.byte))).before args0 about1 = true := code_word (m := ⟨8, 2⟩) (meth := k8m2) (c := k8c2) (by decide +kernel) rfl rfl rfl (by decide +kernel)
set_option maxRecDepth 65536 in
theorem w_c8 : (Jvm.Cond.code ({ cls := "java/lang/StringUTF16", name := "compress", desc := "([CI[BII)I" } : Jvm.MethodName) jdk_52_method_21_code (7 : Nat) (Option.some Jvm.ClassFile.FieldType.int)).before args0 about1 = true := code_word (m := ⟨8, 3⟩) (meth := k8m3) (c := k8c3) (by decide +kernel) rfl rfl rfl (by decide +kernel)
set_option maxRecDepth 65536 in
theorem w_c9 : (Jvm.Cond.code ({ cls := "java/lang/StringUTF16", name := "coderFromArrayLen", desc := "([BI)B" } : Jvm.MethodName) jdk_52_method_15_code (2 : Nat) (Option.some Jvm.ClassFile.FieldType.byte)).before args0 about1 = true := code_word (m := ⟨8, 1⟩) (meth := k8m1) (c := k8c1) (by decide +kernel) rfl rfl rfl (by decide +kernel)
set_option maxRecDepth 65536 in
theorem w_c10 : (Jvm.Cond.code ({ cls := "com/example/faretally/faretally/RefundRequest$Involuntary$Reason", name := "<init>", desc := "(Ljava/lang/String;)V" } : Jvm.MethodName) prog_97_method_1_code (2 : Nat) (Option.none : Option Jvm.ClassFile.FieldType)).before args0 about1 = true := code_word (m := ⟨10, 0⟩) (meth := k10m0) (c := k10c0) (by decide +kernel) rfl rfl rfl (by decide +kernel)
set_option maxRecDepth 65536 in
theorem w_c11 : (Jvm.Cond.code ({ cls := "java/lang/Record", name := "<init>", desc := "()V" } : Jvm.MethodName) jdk_30_method_1_code (1 : Nat) (Option.none : Option Jvm.ClassFile.FieldType)).before args0 about1 = true := code_word (m := ⟨9, 0⟩) (meth := k9m0) (c := k9c0) (by decide +kernel) rfl rfl rfl (by decide +kernel)
set_option maxRecDepth 65536 in
theorem w_c12 : (Jvm.Cond.code ({ cls := "com/example/faretally/faretally/RefundRequest$Involuntary$Reason", name := "isName", desc := "(Ljava/lang/String;)Z" } : Jvm.MethodName) prog_97_method_2_code (4 : Nat) (Option.some Jvm.ClassFile.FieldType.boolean)).before args0 about1 = true := code_word (m := ⟨10, 1⟩) (meth := k10m1) (c := k10c1) (by decide +kernel) rfl rfl rfl (by decide +kernel)
set_option maxRecDepth 65536 in
theorem w_c13 : (Jvm.Cond.code ({ cls := "java/lang/String", name := "isEmpty", desc := "()Z" } : Jvm.MethodName) jdk_42_method_55_code (1 : Nat) (Option.some Jvm.ClassFile.FieldType.boolean)).before args0 about1 = true := code_word (m := ⟨7, 3⟩) (meth := k7m3) (c := k7c3) (by decide +kernel) rfl rfl rfl (by decide +kernel)
set_option maxRecDepth 65536 in
theorem w_c14 : (Jvm.Cond.code ({ cls := "java/lang/String", name := "charAt", desc := "(I)C" } : Jvm.MethodName) jdk_42_method_56_code (2 : Nat) (Option.some Jvm.ClassFile.FieldType.char)).before args0 about1 = true := code_word (m := ⟨7, 4⟩) (meth := k7m4) (c := k7c4) (by decide +kernel) rfl rfl rfl (by decide +kernel)
set_option maxRecDepth 65536 in
theorem w_c15 : (Jvm.Cond.code ({ cls := "java/lang/String", name := "isLatin1", desc := "()Z" } : Jvm.MethodName) jdk_42_method_154_code (1 : Nat) (Option.some Jvm.ClassFile.FieldType.boolean)).before args0 about1 = true := code_word (m := ⟨7, 8⟩) (meth := k7m8) (c := k7c8) (by decide +kernel) rfl rfl rfl (by decide +kernel)
set_option maxRecDepth 65536 in
theorem w_c16 : (Jvm.Cond.code ({ cls := "java/lang/StringLatin1", name := "charAt", desc := "([BI)C" } : Jvm.MethodName) jdk_43_method_2_code (2 : Nat) (Option.some Jvm.ClassFile.FieldType.char)).before args0 about1 = true := code_word (m := ⟨11, 1⟩) (meth := k11m1) (c := k11c1) (by decide +kernel) rfl rfl rfl (by decide +kernel)
set_option maxRecDepth 65536 in
theorem w_c17 : (Jvm.Cond.code ({ cls := "java/lang/String", name := "checkIndex", desc := "(II)V" } : Jvm.MethodName) jdk_42_method_155_code (2 : Nat) (Option.none : Option Jvm.ClassFile.FieldType)).before args0 about1 = true := code_word (m := ⟨7, 9⟩) (meth := k7m9) (c := k7c9) (by decide +kernel) rfl rfl rfl (by decide +kernel)
set_option maxRecDepth 65536 in
theorem w_c18 : (Jvm.Cond.code ({ cls := "jdk/internal/util/Preconditions", name := "checkIndex", desc := "(IILjava/util/function/BiFunction;)I" } : Jvm.MethodName) jdk_41_method_11_code (3 : Nat) (Option.some Jvm.ClassFile.FieldType.int)).before args0 about1 = true := code_word (m := ⟨12, 1⟩) (meth := k12m1) (c := k12c1) (by decide +kernel) rfl rfl rfl (by decide +kernel)
set_option maxRecDepth 65536 in
theorem w_c19 : (Jvm.Cond.code ({ cls := "java/lang/String", name := "length", desc := "()I" } : Jvm.MethodName) jdk_42_method_54_code (1 : Nat) (Option.some Jvm.ClassFile.FieldType.int)).before args0 about1 = true := code_word (m := ⟨7, 2⟩) (meth := k7m2) (c := k7c2) (by decide +kernel) rfl rfl rfl (by decide +kernel)
set_option maxRecDepth 65536 in
theorem w_c20 : (Jvm.Cond.code ({ cls := "java/lang/String", name := "coder", desc := "()B" } : Jvm.MethodName) jdk_42_method_152_code (1 : Nat) (Option.some Jvm.ClassFile.FieldType.byte)).before args0 about1 = true := code_word (m := ⟨7, 7⟩) (meth := k7m7) (c := k7c7) (by decide +kernel) rfl rfl rfl (by decide +kernel)
set_option maxRecDepth 65536 in
theorem w_c21 : (Jvm.Cond.code ({ cls := "com/example/faretally/faretally/RefundRequest$Involuntary$Reason", name := "equals", desc := "(Ljava/lang/Object;)Z" } : Jvm.MethodName) prog_97_method_3_code (3 : Nat) (Option.some Jvm.ClassFile.FieldType.boolean)).before args0 about1 = true := code_word (m := ⟨10, 2⟩) (meth := k10m2) (c := k10c2) (by decide +kernel) rfl rfl rfl (by decide +kernel)
set_option maxRecDepth 65536 in
theorem w_c22 : (Jvm.Cond.code ({ cls := "java/lang/String", name := "equals", desc := "(Ljava/lang/Object;)Z" } : Jvm.MethodName) jdk_42_method_66_code (3 : Nat) (Option.some Jvm.ClassFile.FieldType.boolean)).before args0 about1 = true := code_word (m := ⟨7, 5⟩) (meth := k7m5) (c := k7c5) (by decide +kernel) rfl rfl rfl (by decide +kernel)
set_option maxRecDepth 65536 in
theorem w_c23 : (Jvm.Cond.code ({ cls := "java/lang/StringLatin1", name := "equals", desc := "([B[B)Z" } : Jvm.MethodName) jdk_43_method_13_code (3 : Nat) (Option.some Jvm.ClassFile.FieldType.boolean)).before args0 about1 = true := code_word (m := ⟨11, 2⟩) (meth := k11m2) (c := k11c2) (by decide +kernel) rfl rfl rfl (by decide +kernel)
def codes1 : List Jvm.Cond := [Jvm.Cond.code x code maxLocals ret, Jvm.Cond.code ({ cls := "com/example/faretally/faretally/ReasonEqualsPinLaw", name := "first", desc := "(I)C" } : Jvm.MethodName) method_2_code (1 : Nat) (Option.some Jvm.ClassFile.FieldType.char), Jvm.Cond.code ({ cls := "com/example/faretally/faretally/ReasonEqualsPinLaw", name := "rest", desc := "(I)C" } : Jvm.MethodName) method_3_code (2 : Nat) (Option.some Jvm.ClassFile.FieldType.char), Jvm.Cond.code ({ cls := "com/example/faretally/faretally/ReasonEqualsPinLaw", name := "str", desc := "(ICCC)Ljava/lang/String;" } : Jvm.MethodName) method_4_code (4 : Nat) (Option.some (Jvm.ClassFile.FieldType.object "java/lang/String")), Jvm.Cond.code ({ cls := "java/lang/String", name := "<init>", desc := "([C)V" } : Jvm.MethodName) jdk_42_method_3_code (2 : Nat) (Option.none : Option Jvm.ClassFile.FieldType), Jvm.Cond.code ({ cls := "java/lang/String", name := "<init>", desc := "([CIILjava/lang/Void;)V" } : Jvm.MethodName) jdk_42_method_149_code (6 : Nat) (Option.none : Option Jvm.ClassFile.FieldType), Jvm.Cond.code ({ cls := "java/lang/Object", name := "<init>", desc := "()V" } : Jvm.MethodName) object_method_1_code (1 : Nat) (Option.none : Option Jvm.ClassFile.FieldType), Jvm.Cond.code ({ cls := "java/lang/StringUTF16", name := "compress", desc := "([CII)[B" } : Jvm.MethodName) jdk_52_method_16_code (6 : Nat) (Option.some (Jvm.ClassFile.FieldType.array Jvm.ClassFile.FieldType.byte)), Jvm.Cond.code ({ cls := "java/lang/StringUTF16", name := "compress", desc := "([CI[BII)I" } : Jvm.MethodName) jdk_52_method_21_code (7 : Nat) (Option.some Jvm.ClassFile.FieldType.int), Jvm.Cond.code ({ cls := "java/lang/StringUTF16", name := "coderFromArrayLen", desc := "([BI)B" } : Jvm.MethodName) jdk_52_method_15_code (2 : Nat) (Option.some Jvm.ClassFile.FieldType.byte), Jvm.Cond.code ({ cls := "com/example/faretally/faretally/RefundRequest$Involuntary$Reason", name := "<init>", desc := "(Ljava/lang/String;)V" } : Jvm.MethodName) prog_97_method_1_code (2 : Nat) (Option.none : Option Jvm.ClassFile.FieldType), Jvm.Cond.code ({ cls := "java/lang/Record", name := "<init>", desc := "()V" } : Jvm.MethodName) jdk_30_method_1_code (1 : Nat) (Option.none : Option Jvm.ClassFile.FieldType), Jvm.Cond.code ({ cls := "com/example/faretally/faretally/RefundRequest$Involuntary$Reason", name := "isName", desc := "(Ljava/lang/String;)Z" } : Jvm.MethodName) prog_97_method_2_code (4 : Nat) (Option.some Jvm.ClassFile.FieldType.boolean), Jvm.Cond.code ({ cls := "java/lang/String", name := "isEmpty", desc := "()Z" } : Jvm.MethodName) jdk_42_method_55_code (1 : Nat) (Option.some Jvm.ClassFile.FieldType.boolean), Jvm.Cond.code ({ cls := "java/lang/String", name := "charAt", desc := "(I)C" } : Jvm.MethodName) jdk_42_method_56_code (2 : Nat) (Option.some Jvm.ClassFile.FieldType.char), Jvm.Cond.code ({ cls := "java/lang/String", name := "isLatin1", desc := "()Z" } : Jvm.MethodName) jdk_42_method_154_code (1 : Nat) (Option.some Jvm.ClassFile.FieldType.boolean), Jvm.Cond.code ({ cls := "java/lang/StringLatin1", name := "charAt", desc := "([BI)C" } : Jvm.MethodName) jdk_43_method_2_code (2 : Nat) (Option.some Jvm.ClassFile.FieldType.char), Jvm.Cond.code ({ cls := "java/lang/String", name := "checkIndex", desc := "(II)V" } : Jvm.MethodName) jdk_42_method_155_code (2 : Nat) (Option.none : Option Jvm.ClassFile.FieldType), Jvm.Cond.code ({ cls := "jdk/internal/util/Preconditions", name := "checkIndex", desc := "(IILjava/util/function/BiFunction;)I" } : Jvm.MethodName) jdk_41_method_11_code (3 : Nat) (Option.some Jvm.ClassFile.FieldType.int), Jvm.Cond.code ({ cls := "java/lang/String", name := "length", desc := "()I" } : Jvm.MethodName) jdk_42_method_54_code (1 : Nat) (Option.some Jvm.ClassFile.FieldType.int), Jvm.Cond.code ({ cls := "java/lang/String", name := "coder", desc := "()B" } : Jvm.MethodName) jdk_42_method_152_code (1 : Nat) (Option.some Jvm.ClassFile.FieldType.byte), Jvm.Cond.code ({ cls := "com/example/faretally/faretally/RefundRequest$Involuntary$Reason", name := "equals", desc := "(Ljava/lang/Object;)Z" } : Jvm.MethodName) prog_97_method_3_code (3 : Nat) (Option.some Jvm.ClassFile.FieldType.boolean), Jvm.Cond.code ({ cls := "java/lang/String", name := "equals", desc := "(Ljava/lang/Object;)Z" } : Jvm.MethodName) jdk_42_method_66_code (3 : Nat) (Option.some Jvm.ClassFile.FieldType.boolean), Jvm.Cond.code ({ cls := "java/lang/StringLatin1", name := "equals", desc := "([B[B)Z" } : Jvm.MethodName) jdk_43_method_13_code (3 : Nat) (Option.some Jvm.ClassFile.FieldType.boolean)]
set_option maxRecDepth 65536 in
theorem codes_eq : words1.filter isCode = codes1 := rfl
theorem w_codes : ∀ c ∈ words1.filter isCode, c.before args0 about1 = true := by
  rw [codes_eq]
  intro c hc
  simp only [codes1, List.mem_cons, List.not_mem_nil, or_false] at hc
  rcases hc with rfl | rfl | rfl | rfl | rfl | rfl | rfl | rfl | rfl | rfl | rfl | rfl | rfl | rfl | rfl | rfl | rfl | rfl | rfl | rfl | rfl | rfl | rfl | rfl
  · exact w_c0
  · exact w_c1
  · exact w_c2
  · exact w_c3
  · exact w_c4
  · exact w_c5
  · exact w_c6
  · exact w_c7
  · exact w_c8
  · exact w_c9
  · exact w_c10
  · exact w_c11
  · exact w_c12
  · exact w_c13
  · exact w_c14
  · exact w_c15
  · exact w_c16
  · exact w_c17
  · exact w_c18
  · exact w_c19
  · exact w_c20
  · exact w_c21
  · exact w_c22
  · exact w_c23
set_option maxRecDepth 65536 in
theorem w_t1 : (words1.take 24).all (fun c => isCode c || c.before args0 about1) = true := by decide +kernel
set_option maxRecDepth 65536 in
theorem w_t2 : ((words1.drop 24).take 24).all (fun c => isCode c || c.before args0 about1) = true := by decide +kernel
set_option maxRecDepth 65536 in
theorem w_t3 : (((words1.drop 24).drop 24).take 24).all (fun c => isCode c || c.before args0 about1) = true := by decide +kernel
set_option maxRecDepth 65536 in
theorem w_t4 : ((((words1.drop 24).drop 24).drop 24).take 24).all (fun c => isCode c || c.before args0 about1) = true := by decide +kernel
set_option maxRecDepth 65536 in
theorem w_t5 : ((((words1.drop 24).drop 24).drop 24).drop 24).all (fun c => isCode c || c.before args0 about1) = true := by decide +kernel
theorem w_tables : (allAtoms (Jvm.Cond.code x code maxLocals ret :: tables_1)).before args0 about1 = true := by
  rw [allAtoms_all]
  show words1.all (fun c => c.before args0 about1) = true
  refine all_split ?_ w_codes
  rw [← List.take_append_drop 24 words1, List.all_append, w_t1, ← List.take_append_drop 24 (words1.drop 24), List.all_append, w_t2, ← List.take_append_drop 24 ((words1.drop 24).drop 24), List.all_append, w_t3, ← List.take_append_drop 24 (((words1.drop 24).drop 24).drop 24), List.all_append, w_t4, w_t5]
  rfl
set_option maxRecDepth 65536 in
theorem w_rest : rest_1_c.before args0 about1 = true := by decide +kernel
set_option maxRecDepth 65536 in
theorem w_case : (Jvm.Cond.and given_1 narrow_1).before args0 about1 = true := by decide +kernel
theorem w_applies : (headSpec (Jvm.Cond.code x code maxLocals ret :: tables_1) room_1).applies x e0.platform about1 = true :=
  (Spec.applies_iff w_frames).mpr ⟨w_running, w_runnable, w_alone, w_named, w_hears, w_ripe, w_room, w_tables⟩
theorem atStart : AtStart classFile x code maxLocals ret World_1 tables_1 room_1 Calls_1 rest_1 Pre_1 launch0 p0 e0 about1 theMethod args0 below0 :=
  ⟨lists_1, trivial, launch0.admits_env _ _ _, launch0.least_env, fairChoices_fair.cas, fairChoices_fair.clock, w_frames, w_args, w_heap, w_applies, trivial, w_rest, w_case⟩
end start1
theorem witness_1 : WitnessClaimed_1 := ⟨start1.p0, start1.e0, start1.about1, start1.theMethod, start1.args0, start1.below0, start1.atStart⟩
end Jvm.Pilot.@@N@@
