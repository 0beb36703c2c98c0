import JvmDerived
import JvmDerived.Pilot.@@N@@Statement
import JvmDerived.Pilot.@@N@@Code
set_option linter.unusedVariables false
set_option linter.unusedSimpArgs false
namespace Jvm.RoadKit
open Sem ClassFile Op Lib Jvm.Stand Jvm.Free Jvm.LawKit
section New
variable {p : Program} {l : Launch} {e : Env} {R : Room} {s : State} {m : MethodId} {args : Array Value} {below : List Frame} {meth : Method} {c : Code} {T : State} {locs : List Loc} {cells slots : Nat}
theorem retI (X : Stand p l e R s m args below meth c T locs cells slots) (hx : p.tables.exec = Jvm.exec) {pc : Nat} {Ls : Array Slot} {z : Int32} {rest : List Value} (hret : meth.sig.returnType = some .int) (hd : decode c.code pc = .ok (.ireturn, 1)) {fs : List Frame}
    (hl : ∀ (f : JFrame) (acts : List Action), f.method = m → f.locked = none → f.entered = [] → (doReturn e (T.setTop f) acts (some (.int z))).1 = T.setFrames fs) : Steps p.tables e below (T.setTop (mkF m pc Ls (.int z :: rest))) (T.setFrames fs) := by
  have hm' : T.vm.method? m = some meth := X.method'
  have hn : narrow .int (.int z) = .int z := rfl
  show Steps p.tables e below (T.setTop { method := m, pc := pc, locals := Ls, stack := _ :: rest, locked := none }) _
  jvm_step X.here [X.here.top, hx, hd, hm', hret, hn]
  first | (intro acts; rw [hl _ acts rfl rfl rfl]) | rw [hl _ _ rfl rfl rfl]
  exact Steps.refl _
end New
end Jvm.RoadKit
namespace Jvm.Pilot.@@N@@
open Jvm Jvm.ClassFile Sem Op Lib Jvm.Free Jvm.Stand Jvm.LawKit Jvm.RoadKit Bundle Jvm.Pilot.@@N@@.Jvm.D
theorem own_eqI {t : Term} {n : Int32} {args : Array Value} {s : State} (h : (Jvm.Cond.eq t (.int n)).value args s none s [] = some true) : t.eval args s none [] s = some (.int n) := by
  simp only [Cond.value, Term.eval] at h
  cases ht : t.eval args s none [] s with
  | none => simp [ht] at h
  | some x => cases x <;> simp [ht] at h ⊢; exact h
theorem own_eqJ {t : Term} {n : Int64} {args : Array Value} {s : State} (h : (Jvm.Cond.eq t (.long n)).value args s none s [] = some true) : t.eval args s none [] s = some (.long n) := by
  simp only [Cond.value, Term.eval] at h
  cases ht : t.eval args s none [] s with
  | none => simp [ht] at h
  | some x => cases x <;> simp [ht] at h ⊢; exact h
theorem own_eqR {t u : Term} {a : Addr} {args : Array Value} {s : State} (h : (Jvm.Cond.eq t u).value args s none s [] = some true) (hu : u.eval args s none [] s = some (.ref a)) : t.eval args s none [] s = some (.ref a) := by
  simp only [Cond.value, hu] at h
  cases ht : t.eval args s none [] s with
  | none => simp [ht] at h
  | some x => cases x <;> simp [ht] at h ⊢; exact h
theorem own_len {t : Term} {w : Addr} {c : Cell} {ty : FieldType} {n : Int32} {args : Array Value} {s : State} (ev : t.eval args s none [] s = some (.ref w)) (A : Arr s s.heap w c ty) (h : (Term.length t).eval args s none [] s = some (.int n)) (hn : ¬ n < 0) : c.slots.size = n.toNatClampNeg := by
  simp only [Term.eval, ev, A.fin (Vm.Alike.refl _), Option.bind_eq_bind, Option.bind_some] at h
  split at h
  · rename_i hl
    have q : c.slots.size.toInt32 = n := by simpa using h
    rw [← q]
    have q2 : c.slots.size.toInt32.toInt = (c.slots.size : Int) := len_toInt hl
    have q3 := nat_of (j := c.slots.size.toInt32) (by rw [q]; exact hn)
    omega
  · simp at h
theorem own_extW {Z : State} {h h' : Heap} {a : Addr} {sl : Nat} {v : Value} (X : Ext Z.heap h) (W : Wr h h' a sl v) (q : Z.heap.size ≤ a) : Ext Z.heap h' := (Old.wr (Z := Z) ⟨rfl, X⟩ W q).2
theorem own_ext2 {h h' h'' : Heap} (X : Ext h h') (E : Ext h' h'') : Ext h h'' := ⟨Nat.le_trans X.1 E.1, fun x c q => E.2 x c (X.2 x c q)⟩
theorem own_extK {Z : State} {h h' : Heap} {ws : List Addr} (X : Ext Z.heap h) (K : Keep h h' ws) (q : ∀ x ∈ ws, Z.heap.size ≤ x) : Ext Z.heap h' := (Old.keep (Z := Z) ⟨rfl, X⟩ K q).2
theorem own_neI {t : Term} {n x : Int32} {args : Array Value} {s : State} (h : (Jvm.Cond.eq t (.int n)).value args s none s [] = some (!true)) (ev : t.eval args s none [] s = some (.int x)) : ¬ (x = n) := by
  intro q
  subst q
  simp [Cond.value, Term.eval, ev] at h
theorem own_nsRoot {Z : State} {a0 : Array Value} {O K : String} {n : Nat} (w : (Jvm.Cond.noSuperclass O).before a0 Z = true) (wk : (Jvm.Cond.instantiable K n).before a0 Z = true) (hn : O ≠ K) : NS Z O K := by
  obtain ⟨c, k, h1, h2, h3, -, -⟩ := Cond.noSuperclass_spec w
  obtain ⟨t, k', g1, -⟩ := Cond.instantiable_spec wk
  have ne := ids_ne h1 g1 hn
  refine ⟨c, t, h1, g1, fun fuel => ?_⟩
  cases fuel with
  | zero => rfl
  | succ f => simp [Vm.isSubclassAux, ne, h2, h3]
theorem own_nsNo {Z : State} {a0 : Array Value} {C S K : String} {n : Nat} (w : (Jvm.Cond.superclass C S).before a0 Z = true) (wk : (Jvm.Cond.instantiable K n).before a0 Z = true) (N : NS Z C K) (hn : C ≠ K) : ∃ c t, Z.vm.findClass C = some c ∧ Z.vm.findClass K = some t ∧ Z.vm.assignable c t = false := by
  obtain ⟨c, t, h0, g0, n3⟩ := N
  obtain ⟨p, k, kp, h1, h2, h3, h4, h5, -, h7⟩ := Cond.superclass_spec h0 w
  obtain ⟨q, k', g1, g2, g5, g7, -, -⟩ := Cond.instantiable_spec wk
  cases g0.symm.trans g1
  have ne := ids_ne h0 g0 hn
  have gi : k'.isInterface = false := by cases hi : k'.isInterface <;> simp [hi] at g7 ⊢
  refine ⟨c, t, h0, g0, ?_⟩
  show Z.vm.assignableAux (255 + 1) c t = false
  simp [Vm.assignableAux, ne, h2, g2, h5, g5, gi, Vm.isSubclass, n3]
theorem own_nb (x : Int32) : nar .byte (x.toInt8.toInt32) = x.toInt8.toInt32 := by simp [nar]
set_option maxRecDepth 65536
set_option maxHeartbeats 40000000
abbrev own_HW (Z : State) (a0 : Array Value) : Prop := ∀ d ∈ tables_1, d.before a0 Z = true
abbrev own_S (p : Program) (e : Env) (below : List Frame) (T : State) (g : JFrame) (t : State) : Prop := Steps p.tables e below (T.setTop g) t
theorem own_w {Z : State} {a0 : Array Value} (hw : ∀ d ∈ tables_1, d.before a0 Z = true) {d : Jvm.Cond} (i : Nat) (h : tables_1[i]? = some d) : d.before a0 Z = true := hw _ (List.mem_of_getElem? h)
/-- a body's contract: what it returns and leaves -/
abbrev own_met (l : Launch) (y : MethodName) (b : ByteArray) (ml : Nat) (rt : Option FieldType) (ws : List Jvm.Cond) (R : Room) (Z : State) (A : Array Value) (h0 : Heap) (Q : Option Value → Heap → List Loc → Prop) : Prop :=
  MetFree l y (head1 (Jvm.Cond.code y b ml rt :: ws) R) (fun a U => a = A ∧ Z.Warmed39 U.vm ∧ U.heap = h0) (fun _ _ _ _ _ => True) (fun _ U o U' => ∃ v L, o = .returned v ∧ Q v U'.heap L ∧ FrameEnd U o U' L R.cells R.slots)
theorem own_start {l : Launch} {y : MethodName} {b : ByteArray} {ml : Nat} {rt : Option FieldType} {ws : List Jvm.Cond} {R : Room} {Z : State} {A : Array Value} {h0 : Heap} {Q : Option Value → Heap → List Loc → Prop} {Ls : Array Slot}
    (hpl : plainFor y = true) (hef : ∀ m, entryFrame m A ml = mkF m 0 Ls [])
    (body : ∀ p e s m below meth c s₁, p.tables.exec = Jvm.exec → c.code = b → c.maxLocals = ml → s.vm.findClass y.cls = some m.cls → meth.name = y.name → Stand p l e R s m A below meth c s₁ [] 0 0 → Z.Warmed39 s.vm → s₁.heap = h0 → meth.sig.returnType = rt → meth.locks = false →
      ∃ s₂ o, Steps p.tables e below (s₁.setTop (mkF m 0 Ls [])) s₂ ∧ s₂.status = .running ∧ Ended s₂ below o ∧ ∃ v L, o = .returned v ∧ Q v s₂.heap L ∧ FrameEnd s o s₂ L R.cells R.slots) : own_met l y b ml rt ws R Z A h0 Q := by
  refine MetFree.of_bodySF hpl hisR ?_
  intro p e s m args below meth c s₁ Bd hml0 hP hK
  obtain ⟨rfl, hZ, hh⟩ := hP
  obtain ⟨s₂, o, k, r⟩ := body p e s m below meth c s₁ Bd.exec Bd.bytes hml0 (findClass_of_methodNamed Bd.named) (name_of_methodNamed Bd.named Bd.method).1 (Stand.of_body Bd) hZ (by rw [← hh, Bd.state]; rfl) Bd.returns Bd.notSynchronized
  exact ⟨s₂, o, castTop (hef m) k, r⟩
section OwnCalls
variable {p : Program} {l : Launch} {e : Env} {R : Room} {s : State} {m : MethodId} {args : Array Value} {below : List Frame} {meth : Method} {c : Code} {T : State} {locs : List Loc} {cells slots : Nat} {Z : State} {a0 : Array Value} {h : Heap} {own : String} {index : Nat} {y z : MethodName} {b : ByteArray} {ml : Nat} {rt : Option FieldType} {rm : Room} {as' : Array Value} {Q : Option Value → Heap → List Loc → Prop} {W : Nat} {g : JFrame} {argsL rest : List Value}
theorem own_static (X : Stand p l e R s m args below meth c T locs cells slots) (hx : p.tables.exec = Jvm.exec) (hZ : Z.Warmed39 s.vm) (hown : s.vm.findClass own = some m.cls) (w1 : (Jvm.Cond.methodLink own index y).before a0 Z = true) (w2 : (Jvm.Cond.static y).before a0 Z = true) (w3 : (Jvm.Cond.initialized y.cls).before a0 Z = true) (w4 : (Jvm.Cond.code y b ml rt).before a0 Z = true)
    (hM : own_met l y b ml rt [] rm Z as' h Q) (eT : T.heap = h) (hlen : ∀ sig, parseMethodDescriptor y.desc = some sig → argsL.length = sig.parameters.length)     (hd : decode c.code g.pc = .ok (.invokestatic index, 3)) {ML : Nat} (hml : c.maxLocals = ML) (hy : y.cls ≠ "java/lang/invoke/MethodHandle" ∧ y.cls ≠ "java/lang/invoke/VarHandle" := by decide) (hf : rm.frames + 1 ≤ R.frames := by decide) (hl : W + (ml + 11) + rm.locals ≤ R.locals := by decide) (hg : g.method = m := by rfl) (hsz : g.locals.size = ML := by rfl) (ha : argsL.toArray = as' := by rfl) (hs : g.stack = argsL.reverse ++ rest := by rfl) (hW : 2 * g.monitorRoom + (rest.map fun v => v.category).sum ≤ W := by (show 2 * 0 + _ ≤ _; exact Nat.le_of_eq rfl)) (hc : cells + rm.cells ≤ R.cells := by decide) (hsl : slots + rm.slots ≤ R.slots := by decide) :
    ∃ v T' L, Stand p l e R s m args below meth c T' (locs ++ L) (cells + rm.cells) (slots + rm.slots) ∧ Q v T'.heap L ∧ ∀ target, Steps p.tables e below (T'.setTop { g with pc := g.pc + 3, stack := v.toList ++ rest }) target → Steps p.tables e below (T.setTop g) target := by
  obtain ⟨v, _, ⟨T', L', k', n'⟩, -, X', ⟨Lc, hQ, l1, y1, z1⟩, st⟩ := Jvm.LawKit.callS X hx (y := y) hown (mvT hZ w1) (mvT hZ w2) (mvT hZ w3) (mvT hZ w4) hy (backOf (W := W) hM hZ w4 w3 hf hl) (g := g) hg (hsz.trans hml.symm) (argsL := argsL) (rest := rest) hlen hs hW hd (fun _ _ => ⟨ha, eT, hc, hsl⟩)
  dsimp only [Pt.U, Pt.locs, Pt.cells, Pt.slots] at X' l1 y1 z1 st hQ
  subst l1 y1 z1
  exact ⟨v, T', Lc, X', hQ, st⟩
theorem own_special (X : Stand p l e R s m args below meth c T locs cells slots) (hx : p.tables.exec = Jvm.exec) (hZ : Z.Warmed39 s.vm) (hown : s.vm.findClass own = some m.cls) (hn : y.name = "<init>") (w1 : (Jvm.Cond.methodLink own index y).before a0 Z = true) (w2 : (Jvm.Cond.instanceMethod y).before a0 Z = true) (w3 : (Jvm.Cond.initialized y.cls).before a0 Z = true) (w4 : (Jvm.Cond.code y b ml none).before a0 Z = true)
    (hM : own_met l y b ml none [] rm Z as' h Q) (eT : T.heap = h) (a : Addr) (hlen : ∀ sig, parseMethodDescriptor y.desc = some sig → argsL.length = sig.parameters.length)     (hd : decode c.code g.pc = .ok (.invokespecial index, 3)) {ML : Nat} (hml : c.maxLocals = ML) (hy : y.cls ≠ "java/lang/invoke/MethodHandle" ∧ y.cls ≠ "java/lang/invoke/VarHandle" := by decide) (hf : rm.frames + 1 ≤ R.frames := by decide) (hl : W + (ml + 11) + rm.locals ≤ R.locals := by decide) (hg : g.method = m := by rfl) (hsz : g.locals.size = ML := by rfl) (ha : (Value.ref a :: argsL).toArray = as' := by rfl) (hs : g.stack = argsL.reverse ++ .ref a :: rest := by rfl) (hW : 2 * g.monitorRoom + (rest.map fun v => v.category).sum ≤ W := by (show 2 * 0 + _ ≤ _; exact Nat.le_of_eq rfl)) (hc : cells + rm.cells ≤ R.cells := by decide) (hsl : slots + rm.slots ≤ R.slots := by decide) :
    ∃ v T' L, Stand p l e R s m args below meth c T' (locs ++ L) (cells + rm.cells) (slots + rm.slots) ∧ Q v T'.heap L ∧ ∀ target, Steps p.tables e below (T'.setTop { g with pc := g.pc + 3, stack := v.toList ++ rest }) target → Steps p.tables e below (T.setTop g) target := by
  obtain ⟨v, _, ⟨T', L', k', n'⟩, -, X', ⟨Lc, hQ, l1, y1, z1⟩, st⟩ := X.specialBack hx (y := y) hn hown (mvT hZ w1) (mvT hZ w2) (mvT hZ w4) hy (backOf (W := W) hM hZ w4 w3 hf hl) (g := g) hg (hsz.trans hml.symm) (Steps.refl _) (a := a) (argsL := argsL) (rest := rest) hlen hs hW hd (fun _ _ => ⟨ha, eT, hc, hsl⟩)
  dsimp only [Pt.U, Pt.locs, Pt.cells, Pt.slots] at X' l1 y1 z1 st hQ
  subst l1 y1 z1
  exact ⟨v, T', Lc, X', hQ, fun _ k => st.trans k⟩
theorem own_virtual (X : Stand p l e R s m args below meth c T locs cells slots) (hx : p.tables.exec = Jvm.exec) (hZ : Z.Warmed39 s.vm) (hown : s.vm.findClass own = some m.cls) {C : String} (w1 : (Jvm.Cond.methodLink own index y).before a0 Z = true) (w5 : (Jvm.Cond.declares y).before a0 Z = true) (w6 : (Jvm.Cond.selects C y y).before a0 Z = true) (w2 : (Jvm.Cond.instanceMethod y).before a0 Z = true) (w3 : (Jvm.Cond.initialized y.cls).before a0 Z = true) (w4 : (Jvm.Cond.code y b ml rt).before a0 Z = true)
    (hM : own_met l y b ml rt [] rm Z as' h Q) (eT : T.heap = h) {a : Addr} (E : Exa Z h a C) (hlen : ∀ sig, parseMethodDescriptor y.desc = some sig → argsL.length = sig.parameters.length)     (hd : decode c.code g.pc = .ok (.invokevirtual index, 3)) {ML : Nat} (hml : c.maxLocals = ML) (hy : y.cls ≠ "java/lang/invoke/MethodHandle" ∧ y.cls ≠ "java/lang/invoke/VarHandle" := by decide) (hf : rm.frames + 1 ≤ R.frames := by decide) (hl : W + (ml + 11) + rm.locals ≤ R.locals := by decide) (hg : g.method = m := by rfl) (hsz : g.locals.size = ML := by rfl) (ha : (Value.ref a :: argsL).toArray = as' := by rfl) (hs : g.stack = argsL.reverse ++ .ref a :: rest := by rfl) (hW : 2 * g.monitorRoom + (rest.map fun v => v.category).sum ≤ W := by (show 2 * 0 + _ ≤ _; exact Nat.le_of_eq rfl)) (hc : cells + rm.cells ≤ R.cells := by decide) (hsl : slots + rm.slots ≤ R.slots := by decide) :
    ∃ v T' L, Stand p l e R s m args below meth c T' (locs ++ L) (cells + rm.cells) (slots + rm.slots) ∧ Q v T'.heap L ∧ ∀ target, Steps p.tables e below (T'.setTop { g with pc := g.pc + 3, stack := v.toList ++ rest }) target → Steps p.tables e below (T.setTop g) target := by
  obtain ⟨cq, kq, qa, qb, qc⟩ := isOf hZ eT E
  obtain ⟨v, _, ⟨T', L', k', n'⟩, -, X', ⟨Lc, hQ, l1, y1, z1⟩, st⟩ := X.virtualBack hx (y := y) (z := y) hown (mvT hZ w1) (mvT hZ w5) (notFace_of_selects (args := #[]) (mvT hZ w6)) (mvT hZ w6) (mvT hZ w2) hy (backOf (W := W) hM hZ w4 w3 hf hl) qa qc (g := g) hg (hsz.trans hml.symm) (Steps.refl _) (argsL := argsL) (rest := rest) hlen hs hW hd (fun _ _ => ⟨ha, eT, hc, hsl⟩)
  dsimp only [Pt.U, Pt.locs, Pt.cells, Pt.slots] at X' l1 y1 z1 st hQ
  subst l1 y1 z1
  exact ⟨v, T', Lc, X', hQ, fun _ k => st.trans k⟩
theorem own_virtualUp (X : Stand p l e R s m args below meth c T locs cells slots) (hx : p.tables.exec = Jvm.exec) (hZ : Z.Warmed39 s.vm) (hown : s.vm.findClass own = some m.cls) {C owner : String} (w1 : (Jvm.Cond.methodLink own index z).before a0 Z = true) (w7 : (Jvm.Cond.sameMethod z.cls owner z.name z.desc).before a0 Z = true) (w5 : (Jvm.Cond.declares ⟨owner, z.name, z.desc⟩).before a0 Z = true) (w6 : (Jvm.Cond.selects C z y).before a0 Z = true) (w2 : (Jvm.Cond.instanceMethod y).before a0 Z = true) (w3 : (Jvm.Cond.initialized y.cls).before a0 Z = true) (w4 : (Jvm.Cond.code y b ml rt).before a0 Z = true)
    (hM : own_met l y b ml rt [] rm Z as' h Q) (eT : T.heap = h) {a : Addr} (E : Exa Z h a C) (hlen : ∀ sig, parseMethodDescriptor z.desc = some sig → argsL.length = sig.parameters.length)     (hd : decode c.code g.pc = .ok (.invokevirtual index, 3)) {ML : Nat} (hml : c.maxLocals = ML) (hy : owner ≠ "java/lang/invoke/MethodHandle" ∧ owner ≠ "java/lang/invoke/VarHandle" := by decide) (hf : rm.frames + 1 ≤ R.frames := by decide) (hl : W + (ml + 11) + rm.locals ≤ R.locals := by decide) (hg : g.method = m := by rfl) (hsz : g.locals.size = ML := by rfl) (ha : (Value.ref a :: argsL).toArray = as' := by rfl) (hs : g.stack = argsL.reverse ++ .ref a :: rest := by rfl) (hW : 2 * g.monitorRoom + (rest.map fun v => v.category).sum ≤ W := by (show 2 * 0 + _ ≤ _; exact Nat.le_of_eq rfl)) (hc : cells + rm.cells ≤ R.cells := by decide) (hsl : slots + rm.slots ≤ R.slots := by decide) :
    ∃ v T' L, Stand p l e R s m args below meth c T' (locs ++ L) (cells + rm.cells) (slots + rm.slots) ∧ Q v T'.heap L ∧ ∀ target, Steps p.tables e below (T'.setTop { g with pc := g.pc + 3, stack := v.toList ++ rest }) target → Steps p.tables e below (T.setTop g) target := by
  obtain ⟨cq, kq, qa, qb, qc⟩ := isOf hZ eT E
  obtain ⟨v, _, ⟨T', L', k', n'⟩, -, X', ⟨Lc, hQ, l1, y1, z1⟩, st⟩ := X.virtualBackUp hx (x := z) (y := y) (owner := owner) hown (mvT hZ w1) (mvT hZ w7) (mvT hZ w5) hy (mvT hZ w6) (mvT hZ w2) (backOf (W := W) hM hZ w4 w3 hf hl) qa qc (g := g) hg (hsz.trans hml.symm) (Steps.refl _) (argsL := argsL) (rest := rest) hlen hs hW hd (fun _ _ => ⟨ha, eT, hc, hsl⟩)
  dsimp only [Pt.U, Pt.locs, Pt.cells, Pt.slots] at X' l1 y1 z1 st hQ
  subst l1 y1 z1
  exact ⟨v, T', Lc, X', hQ, fun _ k => st.trans k⟩
end OwnCalls
section OwnSteps
variable {p : Program} {l : Launch} {e : Env} {R : Room} {s : State} {m : MethodId} {args : Array Value} {below : List Frame} {meth : Method} {c : Code} {T target : State} {locs : List Loc} {cells slots : Nat} {b : ByteArray} {pc : Nat} {Ls : Array Slot} {St : List Value}
theorem own_aN (X : Stand p l e R s m args below meth c T locs cells slots) (hx : p.tables.exec = Jvm.exec) (hby : c.code = b) {k : Fin 4} {v : Value} (hd : decode b pc = .ok (.aload_n k, 1)) (hr : own_S p e below T (mkF m (pc + 1) Ls (v :: St)) target) (hl : Ls[k.val]? = some (.val v) := by rfl) (hv : v.isRef = true := by rfl) : own_S p e below T (mkF m pc Ls St) target := XS.aloadN X.here hx rfl (hb hby hd) hl hv hr
theorem own_a (X : Stand p l e R s m args below meth c T locs cells slots) (hx : p.tables.exec = Jvm.exec) (hby : c.code = b) {k : Nat} {v : Value} (hd : decode b pc = .ok (.aload k, 2)) (hr : own_S p e below T (mkF m (pc + 2) Ls (v :: St)) target) (hl : Ls[k]? = some (.val v) := by rfl) (hv : v.isRef = true := by rfl) : own_S p e below T (mkF m pc Ls St) target := XS.aload X.here hx rfl (hb hby hd) hl hv hr
theorem own_iN (X : Stand p l e R s m args below meth c T locs cells slots) (hx : p.tables.exec = Jvm.exec) (hby : c.code = b) {k : Fin 4} {v : Int32} (hd : decode b pc = .ok (.iload_n k, 1)) (hr : own_S p e below T (mkF m (pc + 1) Ls (.int v :: St)) target) (hl : Ls[k.val]? = some (.val (.int v)) := by rfl) : own_S p e below T (mkF m pc Ls St) target := XS.iloadN X.here hx rfl (hb hby hd) hl hr
theorem own_i (X : Stand p l e R s m args below meth c T locs cells slots) (hx : p.tables.exec = Jvm.exec) (hby : c.code = b) {k : Nat} {v : Int32} (hd : decode b pc = .ok (.iload k, 2)) (hr : own_S p e below T (mkF m (pc + 2) Ls (.int v :: St)) target) (hl : Ls[k]? = some (.val (.int v)) := by rfl) : own_S p e below T (mkF m pc Ls St) target := XS.iload X.here hx rfl (hb hby hd) hl hr
theorem own_k (X : Stand p l e R s m args below meth c T locs cells slots) (hx : p.tables.exec = Jvm.exec) (hby : c.code = b) {k : Int} (hd : decode b pc = .ok (.iconst k, 1)) (hr : own_S p e below T (mkF m (pc + 1) Ls (.int (Int32.ofInt k) :: St)) target) : own_S p e below T (mkF m pc Ls St) target := XS.iconst X.here hx rfl (hb hby hd) hr
theorem own_go (X : Stand p l e R s m args below meth c T locs cells slots) (hx : p.tables.exec = Jvm.exec) (hby : c.code = b) {o : Int} (hd : decode b pc = .ok (.goto o, 3)) (pc' : Nat) (hr : own_S p e below T (mkF m pc' Ls St) target) (h1 : 0 ≤ (pc : Int) + o := by decide) (h2 : ((pc : Int) + o).toNat = pc' := by decide) : own_S p e below T (mkF m pc Ls St) target := XS.goto X.here hx rfl (pc0 := pc) (pc' := pc') rfl (hb hby hd) h1 h2 hr
theorem own_in (X : Stand p l e R s m args below meth c T locs cells slots) (hx : p.tables.exec = Jvm.exec) (hby : c.code = b) {cd : ClassFile.Cond} {o : Int} {v : Int32} (hd : decode b pc = .ok (.ifCond cd o, 3)) (hq : if_icmp.holds cd v 0 = false) (hr : own_S p e below T (mkF m (pc + 3) Ls St) target) : own_S p e below T (mkF m pc Ls (.int v :: St)) target := XS.ifNo X.here hx rfl (hb hby hd) rfl ((if0 _ _).trans hq) hr
theorem own_iy (X : Stand p l e R s m args below meth c T locs cells slots) (hx : p.tables.exec = Jvm.exec) (hby : c.code = b) {cd : ClassFile.Cond} {o : Int} {v : Int32} (hd : decode b pc = .ok (.ifCond cd o, 3)) (hq : if_icmp.holds cd v 0 = true) (pc' : Nat) (hr : own_S p e below T (mkF m pc' Ls St) target) (h1 : 0 ≤ (pc : Int) + o := by decide) (h2 : ((pc : Int) + o).toNat = pc' := by decide) : own_S p e below T (mkF m pc Ls (.int v :: St)) target := XS.ifYes X.here hx rfl (pc0 := pc) (pc' := pc') rfl (hb hby hd) rfl ((if0 _ _).trans hq) h1 h2 hr
theorem own_cn (X : Stand p l e R s m args below meth c T locs cells slots) (hx : p.tables.exec = Jvm.exec) (hby : c.code = b) {cd : ClassFile.Cond} {o : Int} {v w : Int32} (hd : decode b pc = .ok (.if_icmp cd o, 3)) (hq : if_icmp.holds cd v w = false) (hr : own_S p e below T (mkF m (pc + 3) Ls St) target) : own_S p e below T (mkF m pc Ls (.int w :: .int v :: St)) target := XS.icmpNo X.here hx rfl (hb hby hd) rfl hq hr
theorem own_cy (X : Stand p l e R s m args below meth c T locs cells slots) (hx : p.tables.exec = Jvm.exec) (hby : c.code = b) {cd : ClassFile.Cond} {o : Int} {v w : Int32} (hd : decode b pc = .ok (.if_icmp cd o, 3)) (hq : if_icmp.holds cd v w = true) (pc' : Nat) (hr : own_S p e below T (mkF m pc' Ls St) target) (h1 : 0 ≤ (pc : Int) + o := by decide) (h2 : ((pc : Int) + o).toNat = pc' := by decide) : own_S p e below T (mkF m pc Ls (.int w :: .int v :: St)) target := XS.icmpYes X.here hx rfl (pc0 := pc) (pc' := pc') rfl (hb hby hd) rfl hq h1 h2 hr
end OwnSteps

def own_u16 (c : Int32) : Prop := 0 ≤ c.toInt ∧ c.toInt ≤ 65535
def own_l8 (c : Int32) : Prop := 0 ≤ c.toInt ∧ c.toInt ≤ 255
def own_lo (c : Int32) : Int32 := if 65 ≤ c.toInt ∧ c.toInt ≤ 90 then c + 32 else c
def own_ib (j n : Int32) : Prop := ¬ j < 0 ∧ j < n
def own_get (vs : List Value) (j : Int32) (d v : Value) : Prop := vs.getD j.toNatClampNeg d = v
def own_cap (n : Int32) (k : Nat) : Prop := n.toNatClampNeg ≤ k
def own_qp (Z : State) (r : Option Value) (h0 : Heap) (v : Option Value) (h : Heap) (L : List Loc) : Prop := v = r ∧ Fr Z.heap.size L ∧ h = h0
def own_ch (cs : List Int32) : List Value := cs.map fun c => Value.int c
def own_lat (cs : List Int32) : List Value := cs.map fun c => Value.int (c.toInt8.toInt32)
def own_wid : List Int32 → List Value
  | [] => []
  | c :: r => Value.int (c.toInt8.toInt32) :: Value.int ((c >>> ((8 : Int32) &&& 31)).toInt8.toInt32) :: own_wid r
def own_sz (cs : List Int32) : Prop := cs.length ≤ 4
def own_at (cs : List Int32) (ii cc : Int32) : Prop := ¬ ii < 0 ∧ ii < Int32.ofNat cs.length ∧ cs[ii.toNatClampNeg]? = some cc ∧ cs.length ≤ 4
/-- the String b holds the chars cs -/
def own_rep (Z : State) (h : Heap) (b : Addr) (cs : List Int32) : Prop :=
  ∃ (a : Addr) (k : ClassId), Fld Z h b "java/lang/String" "value" "[B" (.ref a) ∧
    ((Fld Z h b "java/lang/String" "coder" "B" (.int (0 : Int32)) ∧ Arv Z h a k .byte (Int32.ofNat cs.length) (own_lat cs) (.int (0 : Int32)) ∧ ∀ c ∈ cs, own_l8 c) ∨
     (Fld Z h b "java/lang/String" "coder" "B" (.int (1 : Int32)) ∧ Arv Z h a k .byte (Int32.ofNat (2 * cs.length)) (own_wid cs) (.int (0 : Int32))))
theorem own_rep.ext {Z : State} {h h' : Heap} {b : Addr} {cs : List Int32} (T : own_rep Z h b cs) (E : Ext h h') : own_rep Z h' b cs := by
  obtain ⟨a, k, V, ⟨C, A, q⟩ | ⟨C, A⟩⟩ := T
  · exact ⟨a, k, V.ext E, Or.inl ⟨C.ext E, A.ext E, q⟩⟩
  · exact ⟨a, k, V.ext E, Or.inr ⟨C.ext E, A.ext E⟩⟩
theorem own_rep.keep0 {Z : State} {h h' : Heap} {b : Addr} {cs : List Int32} (T : own_rep Z h b cs) (K : Keep h h' []) : own_rep Z h' b cs := by
  obtain ⟨a, k, V, ⟨C, A, q⟩ | ⟨C, A⟩⟩ := T
  · exact ⟨a, k, V.keep K nin0, Or.inl ⟨C.keep K nin0, A.keep K nin0, q⟩⟩
  · exact ⟨a, k, V.keep K nin0, Or.inr ⟨C.keep K nin0, A.keep K nin0⟩⟩
theorem own_lt {a b : Int32} {x y : Int} (ha : a.toInt = x) (hb : b.toInt = y) (h : x < y) : a < b := by rw [Int32.lt_iff_toInt_lt, ha, hb]; exact h
theorem own_nlt {a b : Int32} {x y : Int} (ha : a.toInt = x) (hb : b.toInt = y) (h : ¬ x < y) : ¬ a < b := by rw [Int32.lt_iff_toInt_lt, ha, hb]; exact h
theorem own_ltI {a b : Int32} (h : a < b) : a.toInt < b.toInt := Int32.lt_iff_toInt_lt.mp h
theorem own_nltI {a b : Int32} (h : ¬ a < b) : b.toInt ≤ a.toInt := Int.not_lt.mp fun q => h (Int32.lt_iff_toInt_lt.mpr q)
theorem own_i2c {c : Int32} (h : own_u16 c) : c.toUInt32.toUInt16.toUInt32.toInt32 = c := by
  obtain ⟨a, b, d⟩ := c_i2c c
  have h1 := h.1; have h2 := h.2
  exact Int32.toInt_inj.mp (by omega)
theorem own_nc {c : Int32} (h : own_u16 c) : nar .char c = c := own_i2c h
theorem own_u16_i2c (c : Int32) : own_u16 (c.toUInt32.toUInt16.toUInt32.toInt32) := by
  obtain ⟨a, b, d⟩ := c_i2c c
  exact ⟨by omega, by omega⟩
theorem own_l8_u16 {c : Int32} (h : own_l8 c) : own_u16 c := ⟨h.1, by have := h.2; omega⟩
theorem own_n255 {c : Int32} (h : own_l8 c) : ¬ ((255 : Int32) < c) := own_nlt (by decide : (255 : Int32).toInt = 255) rfl (by have := h.2; omega)
theorem own_l8_of {c : Int32} (h : own_u16 c) (n : ¬ ((255 : Int32) < c)) : own_l8 c := ⟨h.1, by have q := own_nltI n; rw [(by decide : (255 : Int32).toInt = 255)] at q; exact q⟩
theorem own_b255 {c : Int32} (h : own_l8 c) : (c.toInt8.toInt32 &&& (255 : Int32)) = c := by
  obtain ⟨h1, h2⟩ := h
  obtain ⟨a, b, d⟩ := c_i2b c
  have q := c_mask (c.toInt8.toInt32) (255 : Int32) 8 (by decide) (by decide)
  have hk : ((2 ^ 8 : Nat) : Int) = 256 := by decide
  rw [hk] at q
  exact Int32.toInt_inj.mp (by omega)
theorem own_sh0 (c : Int32) : (c >>> ((0 : Int32) &&& 31)) = c := by
  have q := c_ishr c (0 : Int32) 0 (by decide)
  have hk : ((2 ^ 0 : Nat) : Int) = 1 := by decide
  rw [hk] at q
  exact Int32.toInt_inj.mp (by omega)
theorem own_orw {c : Int32} (h : own_u16 c) : (((c.toInt8.toInt32 &&& (255 : Int32)) <<< ((0 : Int32) &&& 31)) ||| ((((c >>> ((8 : Int32) &&& 31)).toInt8.toInt32) &&& (255 : Int32)) <<< ((8 : Int32) &&& 31))) = c := by
  obtain ⟨h1, h2⟩ := h
  obtain ⟨a, b, d⟩ := c_i2b c
  have q := c_mask (c.toInt8.toInt32) (255 : Int32) 8 (by decide) (by decide)
  have r := c_ishr c (8 : Int32) 8 (by decide)
  have hk : ((2 ^ 8 : Nat) : Int) = 256 := by decide
  rw [hk] at q r
  generalize c >>> ((8 : Int32) &&& 31) = w at *
  obtain ⟨a', b', d'⟩ := c_i2b w
  have q' := c_mask (w.toInt8.toInt32) (255 : Int32) 8 (by decide) (by decide)
  rw [hk] at q'
  generalize (c.toInt8.toInt32 &&& (255 : Int32)) = x at *
  generalize (w.toInt8.toInt32 &&& (255 : Int32)) = y at *
  have s0 := c_ishl x (0 : Int32) 0 (by decide)
  have s8 := c_ishl y (8 : Int32) 8 (by decide)
  have hk0 : ((2 ^ 0 : Nat) : Int) = 1 := by decide
  rw [hk0] at s0
  rw [hk] at s8
  have r0 := rng32 (x <<< ((0 : Int32) &&& 31))
  have r8 := rng32 (y <<< ((8 : Int32) &&& 31))
  generalize x <<< ((0 : Int32) &&& 31) = x' at *
  generalize y <<< ((8 : Int32) &&& 31) = y' at *
  have o := c_or' x' y' 8 (by decide) 256 (by decide) (by omega) (by omega) (by omega)
  have ro := rng32 (x' ||| y')
  exact Int32.toInt_inj.mp (by omega)
theorem own_lo_a {c : Int32} (h : c < (65 : Int32)) : own_lo c = c := by
  have q := own_ltI h
  rw [(by decide : (65 : Int32).toInt = 65)] at q
  exact if_neg (by omega)
theorem own_lo_b {c : Int32} (h : (90 : Int32) < c) : own_lo c = c := by
  have q := own_ltI h
  rw [(by decide : (90 : Int32).toInt = 90)] at q
  exact if_neg (by omega)
theorem own_lo_y {c : Int32} (h1 : 65 ≤ c.toInt) (h2 : c.toInt ≤ 90) : own_lo c = c + 32 ∧ (own_lo c).toInt = c.toInt + 32 := by
  have e : own_lo c = c + 32 := if_pos ⟨h1, h2⟩
  refine ⟨e, ?_⟩
  rw [e]
  have q := c_iadd c (32 : Int32)
  have r := rng32 (c + (32 : Int32))
  rw [(by decide : (32 : Int32).toInt = 32)] at q
  omega
theorem own_lo_ne {c : Int32} (h : ¬ own_lo c = c) : 65 ≤ c.toInt ∧ c.toInt ≤ 90 := by
  by_cases q : 65 ≤ c.toInt ∧ c.toInt ≤ 90
  · exact q
  · exact absurd (if_neg q) h
theorem own_lo_nn {c : Int32} (h1 : 65 ≤ c.toInt) (h2 : c.toInt ≤ 90) : ¬ own_lo c = c := by
  intro q
  have := (own_lo_y h1 h2).2
  rw [q] at this
  omega
theorem own_cap_a {c : Int32} (h : ¬ own_lo c = c) : ¬ (c < (65 : Int32)) := own_nlt rfl (by decide : (65 : Int32).toInt = 65) (by have := (own_lo_ne h).1; omega)
theorem own_cap_b {c : Int32} (h : ¬ own_lo c = c) : ¬ ((90 : Int32) < c) := own_nlt (by decide : (90 : Int32).toInt = 90) rfl (by have := (own_lo_ne h).2; omega)
theorem own_cap_c {c : Int32} (h1 : ¬ (c < (65 : Int32))) (h : own_lo c = c) : (90 : Int32) < c := by
  refine own_lt (by decide : (90 : Int32).toInt = 90) rfl ?_
  have q := own_nltI h1
  rw [(by decide : (65 : Int32).toInt = 65)] at q
  by_cases r : c.toInt ≤ 90
  · exact absurd h (own_lo_nn q r)
  · omega
theorem own_u16_lo {c : Int32} (h : own_u16 c) : own_u16 (own_lo c) := by
  by_cases q : 65 ≤ c.toInt ∧ c.toInt ≤ 90
  · have := (own_lo_y q.1 q.2).2
    exact ⟨by omega, by omega⟩
  · rw [show own_lo c = c from if_neg q]; exact h
theorem own_mono {l : Launch} {y : MethodName} {b : ByteArray} {ml : Nat} {rt : Option FieldType} {ws : List Jvm.Cond} {R : Room} {Z : State} {A : Array Value} {h0 : Heap} {Q Q' : Option Value → Heap → List Loc → Prop} (M : own_met l y b ml rt ws R Z A h0 Q) (q : ∀ v h L, Q v h L → Q' v h L) : own_met l y b ml rt ws R Z A h0 Q' :=
  M.mono (fun _ _ h => h) (fun _ _ _ _ _ h => h) (fun _ _ _ _ _ r => by obtain ⟨v, L, a, b, c⟩ := r; exact ⟨v, L, a, q _ _ _ b, c⟩)
theorem own_get_of {vs : List Value} {j : Int32} {d v : Value} (i : Nat) (h : j.toNatClampNeg = i) (q : vs.getD i d = v) : own_get vs j d v := by unfold own_get; rw [h]; exact q
theorem own_n4 {P : Nat → Prop} (h : ∀ n, n < 5 → P n) {n : Nat} (q : n ≤ 4) : P n := h n (Nat.lt_succ_of_le q)
theorem own_back {n : Nat} (h : n < 1000) : (Int32.ofNat n).toNatClampNeg = n ∧ ¬ (Int32.ofNat n < 0) := by
  have q : (Int32.ofNat n).toInt = n := Int32.toInt_ofNat_of_lt (by omega)
  have z : ¬ (Int32.ofNat n < 0) := own_nlt q (by decide : (0 : Int32).toInt = 0) (by omega)
  exact ⟨by have := nat_of z; omega, z⟩
theorem own_ofNat_lt {a b : Nat} (h : a < b) (hb : b < 1000) : Int32.ofNat a < Int32.ofNat b := own_lt (Int32.toInt_ofNat_of_lt (by omega)) (Int32.toInt_ofNat_of_lt (by omega)) (by omega)
theorem own_succ (i : Nat) : Int32.ofNat i + (1 : Int32) = Int32.ofNat (i + 1) := (Int32.ofNat_add i 1).symm
theorem own_at_ix {cs : List Int32} {ii cc : Int32} (h : own_at cs ii cc) : ii = Int32.ofNat ii.toNatClampNeg ∧ ii.toNatClampNeg < cs.length ∧ cs.length ≤ 4 ∧ cs.getD ii.toNatClampNeg 0 = cc := by
  obtain ⟨h1, h2, h3, h4⟩ := h
  refine ⟨((back32 h1).1).symm, (List.getElem?_eq_some_iff.mp h3).1, h4, ?_⟩
  rw [List.getD_eq_getElem?_getD, h3]; rfl
theorem own_g_sh0 {cs : List Int32} (h : own_sz cs) : (Int32.ofNat cs.length >>> ((0 : Int32) &&& 31)) = Int32.ofNat cs.length := own_sh0 _
theorem own_g_half {cs : List Int32} (h : own_sz cs) : (Int32.ofNat (2 * cs.length) >>> ((1 : Int32) &&& 31)) = Int32.ofNat cs.length := own_n4 (P := fun n => (Int32.ofNat (2 * n) >>> ((1 : Int32) &&& 31)) = Int32.ofNat n) (by decide) h
theorem own_g_in {cs : List Int32} {ii cc : Int32} (h : own_at cs ii cc) : own_ib ii (Int32.ofNat cs.length) := ⟨h.1, h.2.1⟩
theorem own_g_inj {cs : List Int32} {ii cc : Int32} (h : own_at cs ii cc) : own_ib (Int32.ofNat (2 * ii.toNatClampNeg)) (Int32.ofNat (2 * cs.length)) := by
  obtain ⟨-, h2, h3, -⟩ := own_at_ix h
  exact ⟨(own_back (by omega)).2, own_ofNat_lt (by omega) (by omega)⟩
theorem own_g_inl {cs : List Int32} {ii cc : Int32} (h : own_at cs ii cc) : own_ib (Int32.ofNat (2 * ii.toNatClampNeg) + (1 : Int32)) (Int32.ofNat (2 * cs.length)) := by
  obtain ⟨-, h2, h3, -⟩ := own_at_ix h
  rw [own_succ]
  exact ⟨(own_back (by omega)).2, own_ofNat_lt (by omega) (by omega)⟩
theorem own_g_dbl {cs : List Int32} {ii cc : Int32} (h : own_at cs ii cc) : (ii <<< ((1 : Int32) &&& 31)) = Int32.ofNat (2 * ii.toNatClampNeg) := by
  obtain ⟨h1, h2, h3, -⟩ := own_at_ix h
  generalize ii.toNatClampNeg = i at *
  subst h1
  exact own_n4 (P := fun i => (Int32.ofNat i <<< ((1 : Int32) &&& 31)) = Int32.ofNat (2 * i)) (by decide) (by omega)
theorem own_g_nn {cs : List Int32} {ii cc : Int32} (h : own_at cs ii cc) : ¬ (ii < (0 : Int32)) := h.1
theorem own_g_lt {cs : List Int32} {ii cc : Int32} (h : own_at cs ii cc) : ii < Int32.ofNat cs.length := h.2.1
theorem own_g_l8 {cs : List Int32} {ii cc : Int32} (h8 : ∀ c ∈ cs, own_l8 c) (h : own_at cs ii cc) : own_l8 cc := h8 _ (List.mem_of_getElem? h.2.2.1)
theorem own_lat_get (cs : List Int32) (i : Nat) (h : i < cs.length) : (own_lat cs).getD i (.int (0 : Int32)) = .int ((cs.getD i 0).toInt8.toInt32) := by
  simp [own_lat, List.getD_eq_getElem?_getD, h]
theorem own_ch_get (cs : List Int32) (i : Nat) (h : i < cs.length) : (own_ch cs).getD i (.int (0 : Int32)) = .int (cs.getD i 0) := by
  simp [own_ch, List.getD_eq_getElem?_getD, h]
theorem own_wid_len (cs : List Int32) : (own_wid cs).length = 2 * cs.length := by
  induction cs with
  | nil => rfl
  | cons c r ih => simp only [own_wid, List.length_cons, ih]; omega
theorem own_wid_get (cs : List Int32) (i : Nat) (h : i < cs.length) : (own_wid cs).getD (2 * i) (.int (0 : Int32)) = .int ((cs.getD i 0).toInt8.toInt32) ∧ (own_wid cs).getD (2 * i + 1) (.int (0 : Int32)) = .int (((cs.getD i 0) >>> ((8 : Int32) &&& 31)).toInt8.toInt32) := by
  induction cs generalizing i with
  | nil => simp at h
  | cons c r ih =>
    cases i with
    | zero => exact ⟨rfl, rfl⟩
    | succ i => exact ih i (by simpa using h)
theorem own_g_get {cs : List Int32} {ii cc : Int32} (h : own_at cs ii cc) : own_get (own_lat cs) ii (.int (0 : Int32)) (.int (cc.toInt8.toInt32)) := by
  obtain ⟨-, h2, -, h4⟩ := own_at_ix h
  exact (own_lat_get cs _ h2).trans (by rw [h4])
theorem own_g_getj {cs : List Int32} {ii cc : Int32} (h : own_at cs ii cc) : own_get (own_wid cs) (Int32.ofNat (2 * ii.toNatClampNeg)) (.int (0 : Int32)) (.int (cc.toInt8.toInt32)) := by
  obtain ⟨-, h2, h3, h4⟩ := own_at_ix h
  exact own_get_of _ (own_back (by omega)).1 ((own_wid_get cs _ h2).1.trans (by rw [h4]))
theorem own_g_getl {cs : List Int32} {ii cc : Int32} (h : own_at cs ii cc) : own_get (own_wid cs) (Int32.ofNat (2 * ii.toNatClampNeg) + (1 : Int32)) (.int (0 : Int32)) (.int ((cc >>> ((8 : Int32) &&& 31)).toInt8.toInt32)) := by
  obtain ⟨-, h2, h3, h4⟩ := own_at_ix h
  rw [own_succ]
  exact own_get_of _ (own_back (by omega)).1 ((own_wid_get cs _ h2).2.trans (by rw [h4]))
/-- the first i of xs, then us -/
def own_mix (i : Nat) (xs us : List Value) : List Value := xs.take i ++ us.drop i
theorem own_mix_len {i : Nat} {xs us : List Value} (h : xs.length = us.length) : (own_mix i xs us).length = us.length := by
  simp only [own_mix, List.length_append, List.length_take, List.length_drop]; omega
theorem own_mix_set {i : Nat} {xs us : List Value} {v : Value} (h : xs.length = us.length) (hi : i < us.length) (hv : xs.getD i (.int (0 : Int32)) = v) : (own_mix i xs us).set i v = own_mix (i + 1) xs us := by
  apply List.ext_getElem?
  intro k
  have e : xs[i]? = some v := by
    rw [← hv, List.getD_eq_getElem?_getD, List.getElem?_eq_getElem (by omega)]; rfl
  simp only [own_mix, List.getElem?_set, List.getElem?_append, List.getElem?_take, List.getElem?_drop, List.length_append, List.length_take, List.length_drop]
  by_cases q1 : i = k
  · subst q1
    simp only [if_true]
    rw [if_pos (by omega), if_pos (by omega), if_pos (by omega)]; exact e.symm
  · rw [if_neg q1]
    by_cases q2 : k < i
    · rw [if_pos (by omega), if_pos q2, if_pos (by omega), if_pos (by omega)]
    · rw [if_neg (by omega), if_neg (by omega)]
      congr 1; omega
theorem own_mix_all {xs us : List Value} (n : Nat) (h : xs.length = n) (k : us.length = n) : own_mix n xs us = xs := by
  simp only [own_mix]
  rw [List.take_of_length_le (by omega), List.drop_eq_nil_of_le (by omega), List.append_nil]
theorem own_lo_c {c : Int32} (u : own_u16 c) (h1 : ¬ (c < (65 : Int32))) (h2 : ¬ ((90 : Int32) < c)) : own_lo c = nar .char (((c - (65 : Int32)) + (97 : Int32)).toUInt32.toUInt16.toUInt32.toInt32) := by
  have q1 := own_nltI h1
  have q2 := own_nltI h2
  rw [(by decide : (65 : Int32).toInt = 65)] at q1
  rw [(by decide : (90 : Int32).toInt = 90)] at q2
  obtain ⟨e, f⟩ := own_lo_y q1 q2
  have g : (c - (65 : Int32)) + (97 : Int32) = own_lo c := by
    have a := c_isub c (65 : Int32)
    have ra := rng32 (c - (65 : Int32))
    generalize c - (65 : Int32) = x at *
    have b := c_iadd x (97 : Int32)
    have rb := rng32 (x + (97 : Int32))
    rw [(by decide : (65 : Int32).toInt = 65)] at a
    rw [(by decide : (97 : Int32).toInt = 97)] at b
    exact Int32.toInt_inj.mp (by omega)
  rw [g, own_i2c (own_u16_lo u), own_nc (own_u16_lo u)]
theorem own_lo_d {c : Int32} (u : own_u16 c) (h : ¬ own_lo c = c) : own_lo c = nar .char ((c ||| (32 : Int32)).toUInt32.toUInt16.toUInt32.toInt32) := by
  obtain ⟨h1, h2⟩ := own_lo_ne h
  have g : (c ||| (32 : Int32)) = own_lo c := by
    rw [(own_lo_y h1 h2).1]
    have z : ¬ c < 0 := own_nlt rfl (by decide : (0 : Int32).toInt = 0) (by omega)
    have n := nat_of z
    have e := (back32 z).1
    generalize c.toNatClampNeg = k at *
    subst e
    exact (by decide : ∀ k, k < 91 → 65 ≤ k → (Int32.ofNat k ||| (32 : Int32)) = Int32.ofNat k + 32) k (by omega) (by omega)
  rw [g, own_i2c (own_u16_lo u), own_nc (own_u16_lo u)]
def own_s1 (cs : List Int32) : Prop := 0 < cs.length ∧ cs.length ≤ 4
def own_all8 (cs : List Int32) : Prop := ∀ c ∈ cs, own_l8 c
/-- ff is the first place of a char above 255, cc that char -/
def own_fw (cs : List Int32) (ff : Nat) (cc : Int32) : Prop := ff < cs.length ∧ cs.getD ff 0 = cc ∧ (255 : Int32) < cc ∧ (∀ i, i < ff → own_l8 (cs.getD i 0)) ∧ cs.length ≤ 4
theorem own_all8_ix {cs : List Int32} (h : own_all8 cs) : ∀ i, i < cs.length → own_l8 (cs.getD i 0) := fun i q => h _ (by rw [List.getD_eq_getElem?_getD, List.getElem?_eq_getElem q]; exact List.getElem_mem _)
theorem own_fw_lt {cs : List Int32} {ff : Nat} {cc : Int32} (h : own_fw cs ff cc) : Int32.ofNat ff < Int32.ofNat cs.length := own_ofNat_lt h.1 (by have := h.2.2.2.2; omega)
theorem own_fw_ib {cs : List Int32} {ff : Nat} {cc : Int32} (h : own_fw cs ff cc) : own_ib (Int32.ofNat ff) (Int32.ofNat cs.length) := ⟨(own_back (by have := h.1; have := h.2.2.2.2; omega)).2, own_fw_lt h⟩
theorem own_fw_get {cs : List Int32} {ff : Nat} {cc : Int32} (h : own_fw cs ff cc) : own_get (own_ch cs) (Int32.ofNat ff) (.int (0 : Int32)) (.int cc) := own_get_of ff (own_back (by have := h.1; have := h.2.2.2.2; omega)).1 ((own_ch_get cs ff h.1).trans (by rw [h.2.1]))
theorem own_fw_255 {cs : List Int32} {ff : Nat} {cc : Int32} (h : own_fw cs ff cc) : (255 : Int32) < cc := h.2.2.1
theorem own_fw_ne {cs : List Int32} {ff : Nat} {cc : Int32} (h : own_fw cs ff cc) : ¬ (Int32.ofNat ff = Int32.ofNat cs.length) := fun q => by
  have z := own_fw_lt h
  rw [q] at z
  exact Int32.lt_irrefl z
theorem own_z_nn {cs : List Int32} (h : own_s1 cs) : ¬ (Int32.ofNat cs.length < (0 : Int32)) := (own_back (by have := h.2; omega)).2
theorem own_z_nn2 {cs : List Int32} (h : own_s1 cs) : ¬ (Int32.ofNat (2 * cs.length) < (0 : Int32)) := (own_back (by have := h.2; omega)).2
theorem own_z_cap {cs : List Int32} (h : own_s1 cs) : own_cap (Int32.ofNat cs.length) 4 := by unfold own_cap; rw [(own_back (by have := h.2; omega)).1]; exact h.2
theorem own_z_cap2 {cs : List Int32} (h : own_s1 cs) : own_cap (Int32.ofNat (2 * cs.length)) 8 := by unfold own_cap; rw [(own_back (by have := h.2; omega)).1]; have := h.2; omega
theorem own_z_ne {cs : List Int32} (h : own_s1 cs) : ¬ (Int32.ofNat cs.length = (0 : Int32)) := fun q => by
  have z := (own_back (n := cs.length) (by have := h.2; omega)).1
  rw [q] at z
  have : (0 : Int32).toNatClampNeg = 0 := by decide
  have := h.1
  omega
theorem own_z_lt {cs : List Int32} {K : Int32} (k : ∀ n, n < 5 → Int32.ofNat n < K) (h : own_s1 cs) : Int32.ofNat cs.length < K := k _ (by have := h.2; omega)
theorem own_z_dbl {cs : List Int32} (h : own_s1 cs) : (Int32.ofNat cs.length <<< ((1 : Int32) &&& 31)) = Int32.ofNat (2 * cs.length) := own_n4 (P := fun i => (Int32.ofNat i <<< ((1 : Int32) &&& 31)) = Int32.ofNat (2 * i)) (by decide) h.2
def own_slot (o : Option Int32) : Slot := match o with
  | none => .unset
  | some v => .val (.int v)
theorem own_lat_len (cs : List Int32) : (own_lat cs).length = cs.length := List.length_map _
theorem own_ch_len (cs : List Int32) : (own_ch cs).length = cs.length := List.length_map _
theorem own_fw_dbl {cs : List Int32} {ff : Nat} {cc : Int32} (h : own_fw cs ff cc) : (Int32.ofNat ff <<< ((1 : Int32) &&& 31)) = Int32.ofNat (2 * ff) := own_n4 (P := fun i => (Int32.ofNat i <<< ((1 : Int32) &&& 31)) = Int32.ofNat (2 * i)) (by decide) (by have := h.1; have := h.2.2.2.2; omega)
theorem own_fw_ib2 {cs : List Int32} {ff : Nat} {cc : Int32} (h : own_fw cs ff cc) : own_ib (Int32.ofNat (2 * ff)) (Int32.ofNat (2 * cs.length)) := by
  have h1 := h.1; have h2 := h.2.2.2.2
  exact ⟨(own_back (by omega)).2, own_ofNat_lt (by omega) (by omega)⟩
theorem own_fw_ib3 {cs : List Int32} {ff : Nat} {cc : Int32} (h : own_fw cs ff cc) : own_ib (Int32.ofNat (2 * ff) + (1 : Int32)) (Int32.ofNat (2 * cs.length)) := by
  have h1 := h.1; have h2 := h.2.2.2.2
  rw [own_succ]
  exact ⟨(own_back (by omega)).2, own_ofNat_lt (by omega) (by omega)⟩
theorem own_fw_get2 {cs : List Int32} {ff : Nat} {cc : Int32} (h : own_fw cs ff cc) : own_get (own_wid cs) (Int32.ofNat (2 * ff)) (.int (0 : Int32)) (.int (cc.toInt8.toInt32)) := by
  have h1 := h.1; have h2 := h.2.2.2.2
  exact own_get_of _ (own_back (by omega)).1 ((own_wid_get cs ff h1).1.trans (by rw [h.2.1]))
theorem own_fw_get3 {cs : List Int32} {ff : Nat} {cc : Int32} (h : own_fw cs ff cc) : own_get (own_wid cs) (Int32.ofNat (2 * ff) + (1 : Int32)) (.int (0 : Int32)) (.int ((cc >>> ((8 : Int32) &&& 31)).toInt8.toInt32)) := by
  have h1 := h.1; have h2 := h.2.2.2.2
  rw [own_succ]
  exact own_get_of _ (own_back (by omega)).1 ((own_wid_get cs ff h1).2.trans (by rw [h.2.1]))
theorem own_z_c0 {cs : List Int32} (h : own_s1 cs) : ((((Int32.ofNat cs.length) - (Int32.ofNat cs.length)).toUInt32 >>> ((31 : Int32) &&& 31).toUInt32).toInt32) = (0 : Int32) := own_n4 (P := fun n => ((((Int32.ofNat n) - (Int32.ofNat n)).toUInt32 >>> ((31 : Int32) &&& 31).toUInt32).toInt32) = (0 : Int32)) (by decide) h.2
theorem own_z_c1 {cs : List Int32} (h : own_s1 cs) : ((((Int32.ofNat cs.length) - (Int32.ofNat (2 * cs.length))).toUInt32 >>> ((31 : Int32) &&& 31).toUInt32).toInt32) = (1 : Int32) := own_n4 (P := fun n => 0 < n → ((((Int32.ofNat n) - (Int32.ofNat (2 * n))).toUInt32 >>> ((31 : Int32) &&& 31).toUInt32).toInt32) = (1 : Int32)) (by decide) h.2 h.1
def own_a16 (cs : List Int32) : Prop := ∀ c ∈ cs, own_u16 c
theorem own_a16_0 : own_a16 [] := fun c h => nomatch h
theorem own_a16_s {c : Int32} {cs : List Int32} (h : own_u16 c) (t : own_a16 cs) : own_a16 (c :: cs) := fun x q => (List.mem_cons.mp q).elim (fun e => e ▸ h) (t x)
/-- all chars up to 255, or a first one that is not -/
theorem own_split (cs : List Int32) (u : own_a16 cs) (n : cs.length ≤ 4) : own_all8 cs ∨ ∃ ff cc, own_fw cs ff cc ∧ own_u16 cc := by
  have key : ∀ k, k ≤ cs.length → (∀ i, i < k → own_l8 (cs.getD i 0)) ∨ ∃ ff cc, own_fw cs ff cc ∧ own_u16 cc := by
    intro k
    induction k with
    | zero => intro _; exact Or.inl fun i h => absurd h (Nat.not_lt_zero _)
    | succ k ih =>
      intro hk
      rcases ih (by omega) with h | h
      · have hm : cs.getD k 0 ∈ cs := by rw [List.getD_eq_getElem?_getD, List.getElem?_eq_getElem (by omega)]; exact List.getElem_mem _
        by_cases q : (255 : Int32) < cs.getD k 0
        · exact Or.inr ⟨k, _, ⟨by omega, rfl, q, h, n⟩, u _ hm⟩
        · refine Or.inl fun i hi => ?_
          by_cases e : i = k
          · subst e; exact own_l8_of (u _ hm) q
          · exact h i (by omega)
      · exact Or.inr h
  rcases key cs.length (Nat.le_refl _) with h | h
  · refine Or.inl fun c hc => ?_
    obtain ⟨i, hi, e⟩ := List.mem_iff_getElem.mp hc
    have := h i hi
    rw [List.getD_eq_getElem?_getD, List.getElem?_eq_getElem hi] at this
    exact e ▸ this
  · exact Or.inr h
theorem own_z_or {cs : List Int32} (h : own_s1 cs) : ¬ (((Int32.ofNat cs.length ||| (0 : Int32)) ||| Int32.ofNat cs.length) < (0 : Int32)) := own_n4 (P := fun n => ¬ (((Int32.ofNat n ||| (0 : Int32)) ||| Int32.ofNat n) < (0 : Int32))) (by decide) h.2
theorem own_z_pos {cs : List Int32} (h : own_s1 cs) : (0 : Int32) < Int32.ofNat cs.length := own_n4 (P := fun n => 0 < n → (0 : Int32) < Int32.ofNat n) (by decide) h.2 h.1
theorem own_sub0 (x : Int32) : x - (0 : Int32) = x := by
  have q := c_isub x (0 : Int32)
  have r := rng32 (x - (0 : Int32))
  have r' := rng32 x
  rw [(by decide : (0 : Int32).toInt = 0)] at q
  exact Int32.toInt_inj.mp (by omega)
/-- ff is the first place of a capital letter, cc that letter -/
def own_fc (cs : List Int32) (ff : Nat) (cc : Int32) : Prop := ff < cs.length ∧ cs.getD ff 0 = cc ∧ ¬ (own_lo cc = cc) ∧ (∀ i, i < ff → own_lo (cs.getD i 0) = cs.getD i 0) ∧ cs.length ≤ 4
def own_nocap (cs : List Int32) : Prop := ∀ c ∈ cs, own_lo c = c
def own_acap (cs : List Int32) : Prop := ∃ c ∈ cs, ¬ (own_lo c = c)
theorem own_nocap_0 : own_nocap [] := fun c h => nomatch h
theorem own_nocap_s {c : Int32} {cs : List Int32} (h : own_lo c = c) (t : own_nocap cs) : own_nocap (c :: cs) := fun x q => (List.mem_cons.mp q).elim (fun e => e ▸ h) (t x)
theorem own_get_mem {cs : List Int32} {i : Nat} (q : i < cs.length) : cs.getD i 0 ∈ cs := by rw [List.getD_eq_getElem?_getD, List.getElem?_eq_getElem q]; exact List.getElem_mem _
theorem own_nocap_ix {cs : List Int32} (h : own_nocap cs) : ∀ i, i < cs.length → own_lo (cs.getD i 0) = cs.getD i 0 := fun i q => h _ (own_get_mem q)
theorem own_a16_ix {cs : List Int32} (h : own_a16 cs) : ∀ i, i < cs.length → own_u16 (cs.getD i 0) := fun i q => h _ (own_get_mem q)
theorem own_fc_ex {cs : List Int32} (n : cs.length ≤ 4) (h : own_acap cs) : ∃ ff cc, own_fc cs ff cc := by
  have key : ∀ k, k ≤ cs.length → (∀ i, i < k → own_lo (cs.getD i 0) = cs.getD i 0) ∨ ∃ ff cc, own_fc cs ff cc := by
    intro k
    induction k with
    | zero => intro _; exact Or.inl fun i h => absurd h (Nat.not_lt_zero _)
    | succ k ih =>
      intro hk
      rcases ih (by omega) with h | h
      · by_cases q : own_lo (cs.getD k 0) = cs.getD k 0
        · refine Or.inl fun i hi => ?_
          by_cases e : i = k
          · subst e; exact q
          · exact h i (by omega)
        · exact Or.inr ⟨k, _, by omega, rfl, q, h, n⟩
      · exact Or.inr h
  rcases key cs.length (Nat.le_refl _) with q | q
  · obtain ⟨c, hc, hn⟩ := h
    obtain ⟨i, hi, e⟩ := List.mem_iff_getElem.mp hc
    have := q i hi
    rw [List.getD_eq_getElem?_getD, List.getElem?_eq_getElem hi] at this
    exact absurd (e ▸ this) hn
  · exact q
theorem own_fc_lt {cs : List Int32} {ff : Nat} {cc : Int32} (h : own_fc cs ff cc) : Int32.ofNat ff < Int32.ofNat cs.length := own_ofNat_lt h.1 (by have := h.2.2.2.2; omega)
theorem own_fc_at {cs : List Int32} {ff : Nat} {cc : Int32} (h : own_fc cs ff cc) : own_at cs (Int32.ofNat ff) cc := by
  have h1 := h.1; have h2 := h.2.2.2.2
  have b := own_back (n := ff) (by omega)
  refine ⟨b.2, own_fc_lt h, ?_, h2⟩
  rw [b.1, ← h.2.1, List.getD_eq_getElem?_getD, List.getElem?_eq_getElem h1]; rfl
theorem own_fc_u {cs : List Int32} {ff : Nat} {cc : Int32} (h : own_fc cs ff cc) (u : own_a16 cs) : own_u16 cc := h.2.1 ▸ own_a16_ix u ff h.1
theorem own_fc_n {cs : List Int32} {ff : Nat} {cc : Int32} (h : own_fc cs ff cc) : ¬ (own_lo cc = cc) := h.2.2.1
theorem own_fc_s1 {cs : List Int32} {ff : Nat} {cc : Int32} (h : own_fc cs ff cc) : own_s1 cs := ⟨by have := h.1; omega, h.2.2.2.2⟩
theorem own_mix_get {i : Nat} {xs us : List Value} {d : Value} (h : xs.length = us.length) (hi : i < us.length) : (own_mix i xs us).getD i d = us.getD i d := by
  simp only [own_mix, List.getD_eq_getElem?_getD, List.getElem?_append, List.length_take, List.getElem?_drop]
  rw [if_neg (by omega), show i + (i - min i xs.length) = i by omega]
theorem own_mix_pre {cs : List Int32} {ff : Nat} (hf : ff ≤ cs.length) (h : ∀ i, i < ff → own_lo (cs.getD i 0) = cs.getD i 0) : own_mix ff (own_ch (cs.map own_lo)) (own_ch cs) = own_ch cs := by
  apply List.ext_getElem?
  intro k
  simp only [own_mix, own_ch, List.getElem?_append, List.getElem?_take, List.getElem?_drop, List.getElem?_map, List.length_map, List.length_take]
  by_cases q : k < ff
  · rw [if_pos (by omega), if_pos q]
    have := h k q
    rw [List.getD_eq_getElem?_getD, List.getElem?_eq_getElem (by omega)] at this
    rw [List.getElem?_eq_getElem (by omega)]
    simp only [Option.map_some]
    exact congrArg (fun x => some (Value.int x)) this
  · rw [if_neg (by omega), show ff + (k - min ff cs.length) = k by omega]
theorem own_vlo {Z : State} {h : Heap} {a : Addr} {k : ClassId} {cs : List Int32} {d : Value} (V : Arv Z h a k .char (Int32.ofNat cs.length) (own_ch (cs.map own_lo)) d) : Arv Z h a k .char (Int32.ofNat (cs.map own_lo).length) (own_ch (cs.map own_lo)) d := by rw [List.length_map]; exact V
theorem own_a16_lo {cs : List Int32} (u : own_a16 cs) : own_a16 (cs.map own_lo) := fun c h => by
  obtain ⟨x, hx, rfl⟩ := List.mem_map.mp h
  exact own_u16_lo (u x hx)
theorem own_s1_lo {cs : List Int32} (h : own_s1 cs) : own_s1 (cs.map own_lo) := by unfold own_s1; rw [List.length_map]; exact h
theorem own_lo_get (cs : List Int32) (i : Nat) (h : i < cs.length) : (own_ch (cs.map own_lo)).getD i (.int (0 : Int32)) = .int (own_lo (cs.getD i 0)) := by
  simp [own_ch, List.getD_eq_getElem?_getD, h]
theorem own_at_i {cs : List Int32} {i : Nat} (h : i < cs.length) (n : cs.length ≤ 4) : own_at cs (Int32.ofNat i) (cs.getD i 0) := by
  have b := own_back (n := i) (by omega)
  refine ⟨b.2, own_ofNat_lt h (by omega), ?_, n⟩
  rw [b.1, List.getD_eq_getElem?_getD, List.getElem?_eq_getElem h]; rfl
theorem own_n5 (p : Int32) : ((p &&& (7 : Int32)) % (5 : Int32)) = (0 : Int32) ∨ ((p &&& (7 : Int32)) % (5 : Int32)) = (1 : Int32) ∨ ((p &&& (7 : Int32)) % (5 : Int32)) = (2 : Int32) ∨ ((p &&& (7 : Int32)) % (5 : Int32)) = (3 : Int32) ∨ ((p &&& (7 : Int32)) % (5 : Int32)) = (4 : Int32) := by
  have h := c_mask p (7 : Int32) 3 (by decide) (by decide)
  have hk : ((2 ^ 3 : Nat) : Int) = 8 := by decide
  rw [hk] at h
  have h2 := (c_irem (p &&& (7 : Int32)) (5 : Int32) 5 (by decide)).1 (by omega)
  generalize ((p &&& (7 : Int32)) % (5 : Int32)) = w at *
  have q : w.toInt = 0 ∨ w.toInt = 1 ∨ w.toInt = 2 ∨ w.toInt = 3 ∨ w.toInt = 4 := by omega
  rcases q with q | q | q | q | q
  · exact Or.inl (Int32.toInt_inj.mp (q.trans (by decide)))
  · exact Or.inr (Or.inl (Int32.toInt_inj.mp (q.trans (by decide))))
  · exact Or.inr (Or.inr (Or.inl (Int32.toInt_inj.mp (q.trans (by decide)))))
  · exact Or.inr (Or.inr (Or.inr (Or.inl (Int32.toInt_inj.mp (q.trans (by decide))))))
  · exact Or.inr (Or.inr (Or.inr (Or.inr (Int32.toInt_inj.mp (q.trans (by decide))))))
/-- a body's contract where a String constant may be loaded -/
abbrev own_metW (l : Launch) (y : MethodName) (b : ByteArray) (ml : Nat) (rt : Option FieldType) (ws : List Jvm.Cond) (R : Room) (Z : State) (A : Array Value) (h0 : Heap) (Q : Option Value → Heap → List Loc → Prop) : Prop :=
  MetFree l y (head1 (Jvm.Cond.code y b ml rt :: ws) R) (fun a U => a = A ∧ Z.Warmed39 U.vm ∧ U.heap = h0 ∧ CHv Z consts_1 U.vm h0) (fun _ _ _ _ _ => True) (fun _ U o U' => ∃ v L, o = .returned v ∧ Q v U'.heap L ∧ CHr Z consts_1 U.vm U.heap U'.vm U'.heap ∧ ReturnedEndW U o U' L R.cells R.slots)
theorem own_startW {l : Launch} {y : MethodName} {b : ByteArray} {ml : Nat} {rt : Option FieldType} {ws : List Jvm.Cond} {R : Room} {Z : State} {A : Array Value} {h0 : Heap} {Q : Option Value → Heap → List Loc → Prop} {Ls : Array Slot}
    (hpl : plainFor y = true) (hef : ∀ m, entryFrame m A ml = mkF m 0 Ls [])
    (body : ∀ p e s m below meth c s₁, p.tables.exec = Jvm.exec → c.code = b → c.maxLocals = ml → s.vm.findClass y.cls = some m.cls → meth.name = y.name → Stand p l e R s m A below meth c s₁ [] 0 0 → Z.Warmed39 s.vm → s₁.heap = h0 → meth.sig.returnType = rt → meth.locks = false → s.heap = h0 → CHv Z consts_1 s.vm h0 →
      ∃ s₂ o, Steps p.tables e below (s₁.setTop (mkF m 0 Ls [])) s₂ ∧ s₂.status = .running ∧ Ended s₂ below o ∧ ∃ v L, o = .returned v ∧ Q v s₂.heap L ∧ CHr Z consts_1 s.vm s.heap s₂.vm s₂.heap ∧ ReturnedEndW s o s₂ L R.cells R.slots) : own_metW l y b ml rt ws R Z A h0 Q := by
  refine MetFree.of_bodySF hpl hisR ?_
  intro p e s m args below meth c s₁ Bd hml0 hP hK
  obtain ⟨rfl, hZ, hh, hC⟩ := hP
  obtain ⟨s₂, o, k, r⟩ := body p e s m below meth c s₁ Bd.exec Bd.bytes hml0 (findClass_of_methodNamed Bd.named) (name_of_methodNamed Bd.named Bd.method).1 (Stand.of_body Bd) hZ (by rw [← hh, Bd.state]; rfl) Bd.returns Bd.notSynchronized hh hC
  exact ⟨s₂, o, castTop (hef m) k, r⟩
theorem own_safe {Z : State} {a0 : Array Value} {EL : List (String × Nat)} {vm : Vm} {h : Heap} {x : Addr} {n : Nat} (hal : Z.vm.Alike vm) (E : Exa Z h x "java/lang/String") (w : (Jvm.Cond.instantiable "java/lang/String" n).before a0 Z = true) (F : Fld Z h x "java/lang/String" "value" "[B" .null) : Safe Z EL vm h x := fun B => by
  obtain ⟨p, -, u, a, -, q, -, F', rfl | rfl⟩ := B
  · obtain ⟨cS, ⟨⟨s1, s2, s3, ⟨cv, kv, iv, s4, s4'⟩, -, s6, s7, s8, -⟩, -⟩, -⟩ := F'
    obtain ⟨kv', z4⟩ := ff_back (U := Wst Z vm h) hal s4
    have G : Fld Z h q.sa "java/lang/String" "value" "[B" (.ref q.sd) := ⟨q.sC, cv, kv', iv, q.fSV, s1, z4, s6, s2, s3, by rw [← hal.assignable]; exact s4', s8⟩
    exact Fld.ne F G (fun q => nomatch q) rfl
  · obtain ⟨cS, ⟨⟨-, -, -, -, -, -, -, -, -, s10, ⟨hst, kB, hkB, compB, hkindB⟩, -⟩, -⟩, -⟩ := F'
    obtain ⟨c1, k1, e1, f1, g1, -⟩ := E
    cases (show h[q.sd]? = some q.SA from s10).symm.trans e1
    simp only [Cond.before, Cond.holds, Cond.value, f1, Option.bind_some, g1, Option.map_some] at w
    have ho : k1.kind = .ordinary := by
      simp only [beq_iff_eq, Option.some.injEq, Bool.and_eq_true, decide_eq_true_eq] at w; exact w.1.1.1
    obtain ⟨k1', hk1', ek1⟩ := hal.2.2 _ _ g1
    cases (show vm.classes[q.SA.cls]? = some kB from hkB).symm.trans hk1'
    rw [ek1] at hkindB
    have := hkindB.symm.trans ho
    cases this
section OwnCallsW
variable {p : Program} {l : Launch} {e : Env} {R : Room} {s : State} {m : MethodId} {args : Array Value} {below : List Frame} {meth : Method} {c : Code} {T : State} {locs : List Loc} {cells slots : Nat} {Z : State} {a0 : Array Value} {h : Heap} {own : String} {index : Nat} {y z : MethodName} {b : ByteArray} {ml : Nat} {rt : Option FieldType} {rm : Room} {as' : Array Value} {Q : Option Value → Heap → List Loc → Prop} {W : Nat} {g : JFrame} {argsL rest : List Value} {vm0 : Vm} {k0 : Nat}
theorem own_staticW (X : Stand p l e R (s.setVm vm0) m args below meth c T locs cells slots) (hx : p.tables.exec = Jvm.exec) (hZ : Z.Warmed39 vm0) (hown : vm0.findClass own = some m.cls) (w1 : (Jvm.Cond.methodLink own index y).before a0 Z = true) (w2 : (Jvm.Cond.static y).before a0 Z = true) (w3 : (Jvm.Cond.initialized y.cls).before a0 Z = true) (w4 : (Jvm.Cond.code y b ml rt).before a0 Z = true)
    (hM : own_metW l y b ml rt [] rm Z as' h Q) (eT : T.heap = h) (hEL : EW Z a0 consts_1) (H : CHv Z consts_1 vm0 h) (hS : s.Since vm0 k0) (hk : k0 ≤ h.size) (hlen : ∀ sig, parseMethodDescriptor y.desc = some sig → argsL.length = sig.parameters.length) (hd : decode c.code g.pc = .ok (.invokestatic index, 3)) {ML : Nat} (hml : c.maxLocals = ML) (hy : y.cls ≠ "java/lang/invoke/MethodHandle" ∧ y.cls ≠ "java/lang/invoke/VarHandle" := by decide) (hf : rm.frames + 1 ≤ R.frames := by decide) (hl : W + (ml + 11) + rm.locals ≤ R.locals := by decide) (hg : g.method = m := by rfl) (hsz : g.locals.size = ML := by rfl) (ha : argsL.toArray = as' := by rfl) (hs : g.stack = argsL.reverse ++ rest := by rfl) (hW : 2 * g.monitorRoom + (rest.map fun v => v.category).sum ≤ W := by (show 2 * 0 + _ ≤ _; exact Nat.le_of_eq rfl)) (hc : cells + rm.cells ≤ R.cells := by decide) (hsl : slots + rm.slots ≤ R.slots := by decide) :
    ∃ v T' L, Stand p l e R (s.setVm T'.vm) m args below meth c T' (locs ++ L) (cells + rm.cells) (slots + rm.slots) ∧ Q v T'.heap L ∧ s.Since T'.vm T'.heap.size ∧ Z.Warmed39 (s.setVm T'.vm).vm ∧ (s.setVm T'.vm).vm.findClass own = some m.cls ∧ CHr Z consts_1 vm0 h T'.vm T'.heap ∧ ∀ target, Steps p.tables e below (T'.setTop { g with pc := g.pc + 3, stack := v.toList ++ rest }) target → Steps p.tables e below (T.setTop g) target := by
  obtain ⟨v, _, ⟨T', L', k', n'⟩, -, X', h2, hgr, ⟨Lc, hQ, l1, y1, z1, hC⟩, st⟩ := callSS X hx (y := y) hown (mvT (s := s.setVm vm0) hZ w1) (mvT (s := s.setVm vm0) hZ w2) (mvT (s := s.setVm vm0) hZ w3) (mvT (s := s.setVm vm0) hZ w4) hy (backOfSH (W := W) hM hZ w4 w3 hf hl hEL H) (g := g) hg (hsz.trans hml.symm) (argsL := argsL) (rest := rest) hlen hs hW hd (fun _ _ => ⟨ha, eT, hc, hsl⟩)
  dsimp only [Pt.U, Pt.locs, Pt.cells, Pt.slots] at X' h2 hgr l1 y1 z1 st hQ hC
  subst l1 y1 z1
  obtain ⟨Y, a, b', d⟩ := rebS hS hk X' h2 (by rw [← eT]; exact hgr) hZ hown
  exact ⟨v, T', Lc, Y, hQ, a, b', d, hC, fun _ k => st.trans k⟩
theorem own_specialW (X : Stand p l e R (s.setVm vm0) m args below meth c T locs cells slots) (hx : p.tables.exec = Jvm.exec) (hZ : Z.Warmed39 vm0) (hown : vm0.findClass own = some m.cls) (hn : y.name = "<init>") (w1 : (Jvm.Cond.methodLink own index y).before a0 Z = true) (w2 : (Jvm.Cond.instanceMethod y).before a0 Z = true) (w3 : (Jvm.Cond.initialized y.cls).before a0 Z = true) (w4 : (Jvm.Cond.code y b ml none).before a0 Z = true)
    (hM : own_metW l y b ml none [] rm Z as' h Q) (eT : T.heap = h) (hEL : EW Z a0 consts_1) (H : CHv Z consts_1 vm0 h) (hS : s.Since vm0 k0) (hk : k0 ≤ h.size) (a : Addr) (hlen : ∀ sig, parseMethodDescriptor y.desc = some sig → argsL.length = sig.parameters.length) (hd : decode c.code g.pc = .ok (.invokespecial index, 3)) {ML : Nat} (hml : c.maxLocals = ML) (hy : y.cls ≠ "java/lang/invoke/MethodHandle" ∧ y.cls ≠ "java/lang/invoke/VarHandle" := by decide) (hf : rm.frames + 1 ≤ R.frames := by decide) (hl : W + (ml + 11) + rm.locals ≤ R.locals := by decide) (hg : g.method = m := by rfl) (hsz : g.locals.size = ML := by rfl) (ha : (Value.ref a :: argsL).toArray = as' := by rfl) (hs : g.stack = argsL.reverse ++ .ref a :: rest := by rfl) (hW : 2 * g.monitorRoom + (rest.map fun v => v.category).sum ≤ W := by (show 2 * 0 + _ ≤ _; exact Nat.le_of_eq rfl)) (hc : cells + rm.cells ≤ R.cells := by decide) (hsl : slots + rm.slots ≤ R.slots := by decide) :
    ∃ v T' L, Stand p l e R (s.setVm T'.vm) m args below meth c T' (locs ++ L) (cells + rm.cells) (slots + rm.slots) ∧ Q v T'.heap L ∧ s.Since T'.vm T'.heap.size ∧ Z.Warmed39 (s.setVm T'.vm).vm ∧ (s.setVm T'.vm).vm.findClass own = some m.cls ∧ CHr Z consts_1 vm0 h T'.vm T'.heap ∧ ∀ target, Steps p.tables e below (T'.setTop { g with pc := g.pc + 3, stack := v.toList ++ rest }) target → Steps p.tables e below (T.setTop g) target := by
  obtain ⟨v, _, ⟨T', L', k', n'⟩, -, X', h2, hgr, ⟨Lc, hQ, l1, y1, z1, hC⟩, st⟩ := X.specialBackS hx (y := y) hn hown (mvT (s := s.setVm vm0) hZ w1) (mvT (s := s.setVm vm0) hZ w2) (mvT (s := s.setVm vm0) hZ w4) hy (backOfSH (W := W) hM hZ w4 w3 hf hl hEL H) (g := g) hg (hsz.trans hml.symm) (Steps.refl _) (a := a) (argsL := argsL) (rest := rest) hlen hs hW hd (fun _ _ => ⟨ha, eT, hc, hsl⟩)
  dsimp only [Pt.U, Pt.locs, Pt.cells, Pt.slots] at X' h2 hgr l1 y1 z1 st hQ hC
  subst l1 y1 z1
  obtain ⟨Y, a', b', d⟩ := rebS hS hk X' h2 (by rw [← eT]; exact hgr) hZ hown
  exact ⟨v, T', Lc, Y, hQ, a', b', d, hC, fun _ k => st.trans k⟩
end OwnCallsW
/-- a contract without constants, as one with -/
theorem own_metW_of {l : Launch} {y : MethodName} {b : ByteArray} {ml : Nat} {rt : Option FieldType} {ws : List Jvm.Cond} {R : Room} {Z : State} {A : Array Value} {h0 : Heap} {Q : Option Value → Heap → List Loc → Prop} (M : own_met l y b ml rt ws R Z A h0 Q) : MetFree l y (head1 (Jvm.Cond.code y b ml rt :: ws) R) (fun a U => a = A ∧ Z.Warmed39 U.vm ∧ U.heap = h0 ∧ CHv Z consts_1 U.vm h0) (fun _ _ _ _ _ => True) (fun _ U o U' => ∃ v L, o = .returned v ∧ Q v U'.heap L ∧ ReturnedEndW U o U' L R.cells R.slots) :=
  M.mono (fun _ _ h => ⟨h.1, h.2.1, h.2.2.1⟩) (fun _ _ _ _ _ h => h) (fun _ _ _ _ _ r => by obtain ⟨v, L, a, b, c⟩ := r; exact ⟨v, L, a, b, ReturnedEndW.of_narrow c.1 c.2.1 c.2.2⟩)
theorem own_metW_drop {l : Launch} {y : MethodName} {b : ByteArray} {ml : Nat} {rt : Option FieldType} {ws : List Jvm.Cond} {R : Room} {Z : State} {A : Array Value} {h0 : Heap} {Q : Option Value → Heap → List Loc → Prop} (M : own_metW l y b ml rt ws R Z A h0 Q) : MetFree l y (head1 (Jvm.Cond.code y b ml rt :: ws) R) (fun a U => a = A ∧ Z.Warmed39 U.vm ∧ U.heap = h0 ∧ CHv Z consts_1 U.vm h0) (fun _ _ _ _ _ => True) (fun _ U o U' => ∃ v L, o = .returned v ∧ Q v U'.heap L ∧ ReturnedEndW U o U' L R.cells R.slots) :=
  M.mono (fun _ _ h => h) (fun _ _ _ _ _ h => h) (fun _ _ _ _ _ r => by obtain ⟨v, L, a, b, c, d⟩ := r; exact ⟨v, L, a, b, d⟩)

abbrev own_w_CS (Z : State) (w_CS : Int32) : Prop := Sta Z Z.heap "java/lang/String" "COMPACT_STRINGS" "Z" (.int w_CS)
abbrev own_w_SF (Z : State) (w_SF : Value) : Prop := Sta Z Z.heap "jdk/internal/util/Preconditions" "SIOOBE_FORMATTER" "Ljava/util/function/BiFunction;" w_SF
abbrev own_s__assertionsDisabled (Z : State) : Prop := Sta Z Z.heap "java/lang/StringUTF16" "$assertionsDisabled" "Z" (.int (1 : Int32))
abbrev own_s_HI_BYTE_SHIFT (Z : State) : Prop := Sta Z Z.heap "java/lang/StringUTF16" "HI_BYTE_SHIFT" "I" (.int (0 : Int32))
abbrev own_s_LO_BYTE_SHIFT (Z : State) : Prop := Sta Z Z.heap "java/lang/StringUTF16" "LO_BYTE_SHIFT" "I" (.int (8 : Int32))
theorem pn_0 : plainName "com/example/zia_tally/ziatally/tabulation/WordLowerCasePinLaw" = true := by first | (simp [plainName, overriddenIn]; done) | decide +kernel
theorem pn_1 : plainName "com/example/zia_tally/ziatally/tabulation/Word" = true := by first | (simp [plainName, overriddenIn]; done) | decide +kernel
theorem pn_2 : plainName "java/lang/String" = true := by first | (simp [plainName, overriddenIn]; done) | decide +kernel
theorem pn_3 : plainName "jdk/internal/util/Preconditions" = true := by first | (simp [plainName, overriddenIn]; done) | decide +kernel
theorem pn_4 : plainName "java/lang/StringLatin1" = true := by first | (simp [plainName, overriddenIn]; done) | decide +kernel
theorem pn_5 : plainName "java/lang/StringUTF16" = true := by first | (simp [plainName, overriddenIn]; done) | decide +kernel
theorem pd_0 : parseMethodDescriptor "(C)Z" = some ⟨[.char], some .boolean⟩ := by decide +kernel
theorem pd_1 : parseMethodDescriptor "()B" = some ⟨[], some .byte⟩ := by decide +kernel
theorem pd_2 : parseMethodDescriptor "()Z" = some ⟨[], some .boolean⟩ := by decide +kernel
theorem pd_3 : parseMethodDescriptor "(IILjava/util/function/BiFunction;)I" = some ⟨[.int, .int, (.object "java/util/function/BiFunction")], some .int⟩ := by decide +kernel
theorem pd_4 : parseMethodDescriptor "(II)V" = some ⟨[.int, .int], none⟩ := by decide +kernel
theorem pd_5 : parseMethodDescriptor "([BI)C" = some ⟨[(.array .byte), .int], some .char⟩ := by decide +kernel
theorem pd_6 : parseMethodDescriptor "([B)I" = some ⟨[(.array .byte)], some .int⟩ := by decide +kernel
theorem pd_7 : parseMethodDescriptor "(I[B)V" = some ⟨[.int, (.array .byte)], none⟩ := by decide +kernel
theorem pd_8 : parseMethodDescriptor "([BII)V" = some ⟨[(.array .byte), .int, .int], none⟩ := by decide +kernel
theorem pd_9 : parseMethodDescriptor "(I)I" = some ⟨[.int], some .int⟩ := by decide +kernel
theorem pd_10 : parseMethodDescriptor "(I)[B" = some ⟨[.int], some (.array .byte)⟩ := by decide +kernel
theorem pd_11 : parseMethodDescriptor "([CI[BII)I" = some ⟨[(.array .char), .int, (.array .byte), .int, .int], some .int⟩ := by decide +kernel
theorem pd_12 : parseMethodDescriptor "([CII)[B" = some ⟨[(.array .char), .int, .int], some (.array .byte)⟩ := by decide +kernel
theorem pd_13 : parseMethodDescriptor "([BI)B" = some ⟨[(.array .byte), .int], some .byte⟩ := by decide +kernel
theorem pd_14 : parseMethodDescriptor "([CIILjava/lang/Void;)V" = some ⟨[(.array .char), .int, .int, (.object "java/lang/Void")], none⟩ := by decide +kernel
theorem pd_15 : parseMethodDescriptor "(IIILjava/util/function/BiFunction;)I" = some ⟨[.int, .int, .int, (.object "java/util/function/BiFunction")], some .int⟩ := by decide +kernel
theorem pd_16 : parseMethodDescriptor "(III)I" = some ⟨[.int, .int, .int], some .int⟩ := by decide +kernel
theorem pd_17 : parseMethodDescriptor "(II[B)V" = some ⟨[.int, .int, (.array .byte)], none⟩ := by decide +kernel
theorem pd_18 : parseMethodDescriptor "([BI[CII)V" = some ⟨[(.array .byte), .int, (.array .char), .int, .int], none⟩ := by decide +kernel
theorem pd_19 : parseMethodDescriptor "([B)[C" = some ⟨[(.array .byte)], some (.array .char)⟩ := by decide +kernel
theorem pd_20 : parseMethodDescriptor "([BII[CI)V" = some ⟨[(.array .byte), .int, .int, (.array .char), .int], none⟩ := by decide +kernel
theorem pd_21 : parseMethodDescriptor "()I" = some ⟨[], some .int⟩ := by decide +kernel
theorem pd_22 : parseMethodDescriptor "(I)C" = some ⟨[.int], some .char⟩ := by decide +kernel
theorem pd_23 : parseMethodDescriptor "(C)C" = some ⟨[.char], some .char⟩ := by decide +kernel
theorem pd_24 : parseMethodDescriptor "()[C" = some ⟨[], some (.array .char)⟩ := by decide +kernel
theorem pd_25 : parseMethodDescriptor "([C)V" = some ⟨[(.array .char)], none⟩ := by decide +kernel
theorem pd_26 : parseMethodDescriptor "(ICCCC)Ljava/lang/String;" = some ⟨[.int, .char, .char, .char, .char], some (.object "java/lang/String")⟩ := by decide +kernel
theorem pd_27 : parseMethodDescriptor "(Ljava/lang/String;)Ljava/lang/String;" = some ⟨[(.object "java/lang/String")], some (.object "java/lang/String")⟩ := by decide +kernel
abbrev y_0 : MethodName := ⟨"com/example/zia_tally/ziatally/tabulation/WordLowerCasePinLaw", "isCap", "(C)Z"⟩
abbrev y_1 : MethodName := ⟨"com/example/zia_tally/ziatally/tabulation/Word", "lowerCase", "(C)C"⟩
abbrev y_2 : MethodName := ⟨"com/example/zia_tally/ziatally/tabulation/WordLowerCasePinLaw", "ref", "(C)C"⟩
abbrev y_3 : MethodName := ⟨"java/lang/String", "coder", "()B"⟩
abbrev y_4 : MethodName := ⟨"java/lang/String", "length", "()I"⟩
abbrev y_5 : MethodName := ⟨"java/lang/String", "isLatin1", "()Z"⟩
abbrev y_6 : MethodName := ⟨"jdk/internal/util/Preconditions", "checkIndex", "(IILjava/util/function/BiFunction;)I"⟩
abbrev y_7 : MethodName := ⟨"java/lang/String", "checkIndex", "(II)V"⟩
abbrev y_8 : MethodName := ⟨"java/lang/StringLatin1", "charAt", "([BI)C"⟩
abbrev y_9 : MethodName := ⟨"java/lang/String", "charAt", "(I)C"⟩
abbrev y_10 : MethodName := ⟨"java/lang/StringUTF16", "length", "([B)I"⟩
abbrev y_11 : MethodName := ⟨"java/lang/StringUTF16", "checkIndex", "(I[B)V"⟩
abbrev y_12 : MethodName := ⟨"java/lang/StringUTF16", "getChar", "([BI)C"⟩
abbrev y_13 : MethodName := ⟨"java/lang/StringUTF16", "charAt", "([BI)C"⟩
abbrev y_14 : MethodName := ⟨"java/lang/StringUTF16", "compress", "([CI[BII)I"⟩
abbrev y_15 : MethodName := ⟨"java/lang/StringUTF16", "putChar", "([BII)V"⟩
abbrev y_16 : MethodName := ⟨"java/lang/StringUTF16", "newBytesLength", "(I)I"⟩
abbrev y_17 : MethodName := ⟨"java/lang/StringUTF16", "newBytesFor", "(I)[B"⟩
abbrev y_18 : MethodName := ⟨"java/lang/StringUTF16", "toBytes", "([CII)[B"⟩
abbrev y_19 : MethodName := ⟨"java/lang/StringUTF16", "compress", "([CII)[B"⟩
abbrev y_20 : MethodName := ⟨"java/lang/StringUTF16", "coderFromArrayLen", "([BI)B"⟩
abbrev y_21 : MethodName := ⟨"java/lang/String", "<init>", "([CIILjava/lang/Void;)V"⟩
abbrev y_22 : MethodName := ⟨"java/lang/String", "<init>", "([C)V"⟩
abbrev y_23 : MethodName := ⟨"java/lang/StringLatin1", "inflate", "([BI[CII)V"⟩
abbrev y_24 : MethodName := ⟨"jdk/internal/util/Preconditions", "checkFromIndexSize", "(IIILjava/util/function/BiFunction;)I"⟩
abbrev y_25 : MethodName := ⟨"java/lang/String", "checkBoundsOffCount", "(III)I"⟩
abbrev y_26 : MethodName := ⟨"java/lang/StringUTF16", "checkBoundsOffCount", "(II[B)V"⟩
abbrev y_27 : MethodName := ⟨"java/lang/StringUTF16", "getChars", "([BII[CI)V"⟩
abbrev y_28 : MethodName := ⟨"java/lang/StringLatin1", "toChars", "([B)[C"⟩
abbrev y_29 : MethodName := ⟨"java/lang/String", "toCharArray", "()[C"⟩
abbrev y_30 : MethodName := ⟨"java/lang/StringUTF16", "toChars", "([B)[C"⟩
abbrev y_31 : MethodName := ⟨"com/example/zia_tally/ziatally/tabulation/Word", "lowerCase", "(Ljava/lang/String;)Ljava/lang/String;"⟩
abbrev y_32 : MethodName := ⟨"com/example/zia_tally/ziatally/tabulation/WordLowerCasePinLaw", "make", "(ICCCC)Ljava/lang/String;"⟩
theorem d18_0 : decode method_2_code 0 = .ok (.iload_n 0, 1) := by decide +kernel
theorem d18_1 : decode method_2_code 1 = .ok (.bipush 65, 2) := by decide +kernel
theorem d18_3 : decode method_2_code 3 = .ok (.if_icmp .lt 13, 3) := by decide +kernel
theorem d18_16 : decode method_2_code 16 = .ok (.iconst 0, 1) := by decide +kernel
theorem d18_17 : decode method_2_code 17 = .ok (.ireturn, 1) := by decide +kernel
theorem d18_6 : decode method_2_code 6 = .ok (.iload_n 0, 1) := by decide +kernel
theorem d18_7 : decode method_2_code 7 = .ok (.bipush 90, 2) := by decide +kernel
theorem d18_9 : decode method_2_code 9 = .ok (.if_icmp .gt 7, 3) := by decide +kernel
theorem d18_12 : decode method_2_code 12 = .ok (.iconst 1, 1) := by decide +kernel
theorem d18_13 : decode method_2_code 13 = .ok (.goto 4, 3) := by decide +kernel
theorem d16_0 : decode prog_38_method_4_code 0 = .ok (.iload_n 0, 1) := by decide +kernel
theorem d16_1 : decode prog_38_method_4_code 1 = .ok (.bipush 65, 2) := by decide +kernel
theorem d16_3 : decode prog_38_method_4_code 3 = .ok (.if_icmp .lt 20, 3) := by decide +kernel
theorem d16_23 : decode prog_38_method_4_code 23 = .ok (.iload_n 0, 1) := by decide +kernel
theorem d16_24 : decode prog_38_method_4_code 24 = .ok (.ireturn, 1) := by decide +kernel
theorem d16_6 : decode prog_38_method_4_code 6 = .ok (.iload_n 0, 1) := by decide +kernel
theorem d16_7 : decode prog_38_method_4_code 7 = .ok (.bipush 90, 2) := by decide +kernel
theorem d16_9 : decode prog_38_method_4_code 9 = .ok (.if_icmp .gt 14, 3) := by decide +kernel
theorem d16_12 : decode prog_38_method_4_code 12 = .ok (.iload_n 0, 1) := by decide +kernel
theorem d16_13 : decode prog_38_method_4_code 13 = .ok (.bipush 65, 2) := by decide +kernel
theorem d16_15 : decode prog_38_method_4_code 15 = .ok (.isub, 1) := by decide +kernel
theorem d16_16 : decode prog_38_method_4_code 16 = .ok (.bipush 97, 2) := by decide +kernel
theorem d16_18 : decode prog_38_method_4_code 18 = .ok (.iadd, 1) := by decide +kernel
theorem d16_19 : decode prog_38_method_4_code 19 = .ok (.i2c, 1) := by decide +kernel
theorem d16_20 : decode prog_38_method_4_code 20 = .ok (.goto 4, 3) := by decide +kernel
theorem d17_0 : decode method_3_code 0 = .ok (.iload_n 0, 1) := by decide +kernel
theorem d17_1 : decode method_3_code 1 = .ok (.invokestatic 7, 3) := by decide +kernel
theorem d17_4 : decode method_3_code 4 = .ok (.ifCond .eq 9, 3) := by decide +kernel
theorem d17_13 : decode method_3_code 13 = .ok (.iload_n 0, 1) := by decide +kernel
theorem d17_14 : decode method_3_code 14 = .ok (.ireturn, 1) := by decide +kernel
theorem d17_7 : decode method_3_code 7 = .ok (.iload_n 0, 1) := by decide +kernel
theorem d17_8 : decode method_3_code 8 = .ok (.bipush 32, 2) := by decide +kernel
theorem d17_10 : decode method_3_code 10 = .ok (.ior, 1) := by decide +kernel
theorem d17_11 : decode method_3_code 11 = .ok (.i2c, 1) := by decide +kernel
theorem d17_12 : decode method_3_code 12 = .ok (.ireturn, 1) := by decide +kernel
theorem d6_0 : decode jdk_42_method_54_code 0 = .ok (.aload_n 0, 1) := by decide +kernel
theorem d6_1 : decode jdk_42_method_54_code 1 = .ok (.getfield 9, 3) := by decide +kernel
theorem d6_4 : decode jdk_42_method_54_code 4 = .ok (.arraylength, 1) := by decide +kernel
theorem d6_5 : decode jdk_42_method_54_code 5 = .ok (.aload_n 0, 1) := by decide +kernel
theorem d6_6 : decode jdk_42_method_54_code 6 = .ok (.invokevirtual 335, 3) := by decide +kernel
theorem d7_0 : decode jdk_42_method_152_code 0 = .ok (.getstatic 38, 3) := by decide +kernel
theorem d7_3 : decode jdk_42_method_152_code 3 = .ok (.ifCond .eq 10, 3) := by decide +kernel
theorem d7_6 : decode jdk_42_method_152_code 6 = .ok (.aload_n 0, 1) := by decide +kernel
theorem d7_7 : decode jdk_42_method_152_code 7 = .ok (.getfield 15, 3) := by decide +kernel
theorem d7_10 : decode jdk_42_method_152_code 10 = .ok (.goto 4, 3) := by decide +kernel
theorem d7_14 : decode jdk_42_method_152_code 14 = .ok (.ireturn, 1) := by decide +kernel
theorem d6_9 : decode jdk_42_method_54_code 9 = .ok (.ishr, 1) := by decide +kernel
theorem d6_10 : decode jdk_42_method_54_code 10 = .ok (.ireturn, 1) := by decide +kernel
theorem d11_0 : decode jdk_42_method_56_code 0 = .ok (.aload_n 0, 1) := by decide +kernel
theorem d11_1 : decode jdk_42_method_56_code 1 = .ok (.invokevirtual 492, 3) := by decide +kernel
theorem d12_0 : decode jdk_42_method_154_code 0 = .ok (.getstatic 38, 3) := by decide +kernel
theorem d12_3 : decode jdk_42_method_154_code 3 = .ok (.ifCond .eq 14, 3) := by decide +kernel
theorem d12_6 : decode jdk_42_method_154_code 6 = .ok (.aload_n 0, 1) := by decide +kernel
theorem d12_7 : decode jdk_42_method_154_code 7 = .ok (.getfield 15, 3) := by decide +kernel
theorem d12_10 : decode jdk_42_method_154_code 10 = .ok (.ifCond .ne 7, 3) := by decide +kernel
theorem d12_13 : decode jdk_42_method_154_code 13 = .ok (.iconst 1, 1) := by decide +kernel
theorem d12_14 : decode jdk_42_method_154_code 14 = .ok (.goto 4, 3) := by decide +kernel
theorem d12_18 : decode jdk_42_method_154_code 18 = .ok (.ireturn, 1) := by decide +kernel
theorem d11_4 : decode jdk_42_method_56_code 4 = .ok (.ifCond .eq 12, 3) := by decide +kernel
theorem d11_7 : decode jdk_42_method_56_code 7 = .ok (.aload_n 0, 1) := by decide +kernel
theorem d11_8 : decode jdk_42_method_56_code 8 = .ok (.getfield 9, 3) := by decide +kernel
theorem d11_11 : decode jdk_42_method_56_code 11 = .ok (.iload_n 1, 1) := by decide +kernel
theorem d11_12 : decode jdk_42_method_56_code 12 = .ok (.invokestatic 495, 3) := by decide +kernel
theorem d13_0 : decode jdk_43_method_2_code 0 = .ok (.iload_n 1, 1) := by decide +kernel
theorem d13_1 : decode jdk_43_method_2_code 1 = .ok (.aload_n 0, 1) := by decide +kernel
theorem d13_2 : decode jdk_43_method_2_code 2 = .ok (.arraylength, 1) := by decide +kernel
theorem d13_3 : decode jdk_43_method_2_code 3 = .ok (.invokestatic 9, 3) := by decide +kernel
theorem d14_0 : decode jdk_42_method_155_code 0 = .ok (.iload_n 0, 1) := by decide +kernel
theorem d14_1 : decode jdk_42_method_155_code 1 = .ok (.iload_n 1, 1) := by decide +kernel
theorem d14_2 : decode jdk_42_method_155_code 2 = .ok (.getstatic 1053, 3) := by decide +kernel
theorem d14_5 : decode jdk_42_method_155_code 5 = .ok (.invokestatic 1059, 3) := by decide +kernel
theorem d15_0 : decode jdk_41_method_11_code 0 = .ok (.iload_n 0, 1) := by decide +kernel
theorem d15_1 : decode jdk_41_method_11_code 1 = .ok (.ifCond .lt 8, 3) := by decide +kernel
theorem d15_4 : decode jdk_41_method_11_code 4 = .ok (.iload_n 0, 1) := by decide +kernel
theorem d15_5 : decode jdk_41_method_11_code 5 = .ok (.iload_n 1, 1) := by decide +kernel
theorem d15_6 : decode jdk_41_method_11_code 6 = .ok (.if_icmp .lt 10, 3) := by decide +kernel
theorem d15_16 : decode jdk_41_method_11_code 16 = .ok (.iload_n 0, 1) := by decide +kernel
theorem d15_17 : decode jdk_41_method_11_code 17 = .ok (.ireturn, 1) := by decide +kernel
theorem d14_8 : decode jdk_42_method_155_code 8 = .ok (.pop, 1) := by decide +kernel
theorem d14_9 : decode jdk_42_method_155_code 9 = .ok (.return_, 1) := by decide +kernel
theorem d13_6 : decode jdk_43_method_2_code 6 = .ok (.aload_n 0, 1) := by decide +kernel
theorem d13_7 : decode jdk_43_method_2_code 7 = .ok (.iload_n 1, 1) := by decide +kernel
theorem d13_8 : decode jdk_43_method_2_code 8 = .ok (.baload, 1) := by decide +kernel
theorem d13_9 : decode jdk_43_method_2_code 9 = .ok (.sipush 255, 3) := by decide +kernel
theorem d13_12 : decode jdk_43_method_2_code 12 = .ok (.iand, 1) := by decide +kernel
theorem d13_13 : decode jdk_43_method_2_code 13 = .ok (.i2c, 1) := by decide +kernel
theorem d13_14 : decode jdk_43_method_2_code 14 = .ok (.ireturn, 1) := by decide +kernel
theorem d11_15 : decode jdk_42_method_56_code 15 = .ok (.ireturn, 1) := by decide +kernel
theorem d12_17 : decode jdk_42_method_154_code 17 = .ok (.iconst 0, 1) := by decide +kernel
theorem d11_16 : decode jdk_42_method_56_code 16 = .ok (.aload_n 0, 1) := by decide +kernel
theorem d11_17 : decode jdk_42_method_56_code 17 = .ok (.getfield 9, 3) := by decide +kernel
theorem d11_20 : decode jdk_42_method_56_code 20 = .ok (.iload_n 1, 1) := by decide +kernel
theorem d11_21 : decode jdk_42_method_56_code 21 = .ok (.invokestatic 498, 3) := by decide +kernel
theorem d24_0 : decode jdk_52_method_83_code 0 = .ok (.iload_n 1, 1) := by decide +kernel
theorem d24_1 : decode jdk_52_method_83_code 1 = .ok (.aload_n 0, 1) := by decide +kernel
theorem d24_2 : decode jdk_52_method_83_code 2 = .ok (.invokestatic 67, 3) := by decide +kernel
theorem d25_0 : decode jdk_52_method_91_code 0 = .ok (.iload_n 0, 1) := by decide +kernel
theorem d25_1 : decode jdk_52_method_91_code 1 = .ok (.aload_n 1, 1) := by decide +kernel
theorem d25_2 : decode jdk_52_method_91_code 2 = .ok (.invokestatic 48, 3) := by decide +kernel
theorem d26_0 : decode jdk_52_method_6_code 0 = .ok (.aload_n 0, 1) := by decide +kernel
theorem d26_1 : decode jdk_52_method_6_code 1 = .ok (.arraylength, 1) := by decide +kernel
theorem d26_2 : decode jdk_52_method_6_code 2 = .ok (.iconst 1, 1) := by decide +kernel
theorem d26_3 : decode jdk_52_method_6_code 3 = .ok (.ishr, 1) := by decide +kernel
theorem d26_4 : decode jdk_52_method_6_code 4 = .ok (.ireturn, 1) := by decide +kernel
theorem d25_5 : decode jdk_52_method_91_code 5 = .ok (.invokestatic 414, 3) := by decide +kernel
theorem d25_8 : decode jdk_52_method_91_code 8 = .ok (.return_, 1) := by decide +kernel
theorem d24_5 : decode jdk_52_method_83_code 5 = .ok (.aload_n 0, 1) := by decide +kernel
theorem d24_6 : decode jdk_52_method_83_code 6 = .ok (.iload_n 1, 1) := by decide +kernel
theorem d24_7 : decode jdk_52_method_83_code 7 = .ok (.invokestatic 71, 3) := by decide +kernel
theorem d23_0 : decode jdk_52_method_5_code 0 = .ok (.getstatic 44, 3) := by decide +kernel
theorem d23_3 : decode jdk_52_method_5_code 3 = .ok (.ifCond .ne 25, 3) := by decide +kernel
theorem d23_28 : decode jdk_52_method_5_code 28 = .ok (.iload_n 1, 1) := by decide +kernel
theorem d23_29 : decode jdk_52_method_5_code 29 = .ok (.iconst 1, 1) := by decide +kernel
theorem d23_30 : decode jdk_52_method_5_code 30 = .ok (.ishl, 1) := by decide +kernel
theorem d23_31 : decode jdk_52_method_5_code 31 = .ok (.istore_n 1, 1) := by decide +kernel
theorem d23_32 : decode jdk_52_method_5_code 32 = .ok (.aload_n 0, 1) := by decide +kernel
theorem d23_33 : decode jdk_52_method_5_code 33 = .ok (.iload_n 1, 1) := by decide +kernel
theorem d23_34 : decode jdk_52_method_5_code 34 = .ok (.iinc 1 1, 3) := by decide +kernel
theorem d23_37 : decode jdk_52_method_5_code 37 = .ok (.baload, 1) := by decide +kernel
theorem d23_38 : decode jdk_52_method_5_code 38 = .ok (.sipush 255, 3) := by decide +kernel
theorem d23_41 : decode jdk_52_method_5_code 41 = .ok (.iand, 1) := by decide +kernel
theorem d23_42 : decode jdk_52_method_5_code 42 = .ok (.getstatic 59, 3) := by decide +kernel
theorem d23_45 : decode jdk_52_method_5_code 45 = .ok (.ishl, 1) := by decide +kernel
theorem d23_46 : decode jdk_52_method_5_code 46 = .ok (.aload_n 0, 1) := by decide +kernel
theorem d23_47 : decode jdk_52_method_5_code 47 = .ok (.iload_n 1, 1) := by decide +kernel
theorem d23_48 : decode jdk_52_method_5_code 48 = .ok (.baload, 1) := by decide +kernel
theorem d23_49 : decode jdk_52_method_5_code 49 = .ok (.sipush 255, 3) := by decide +kernel
theorem d23_52 : decode jdk_52_method_5_code 52 = .ok (.iand, 1) := by decide +kernel
theorem d23_53 : decode jdk_52_method_5_code 53 = .ok (.getstatic 63, 3) := by decide +kernel
theorem d23_56 : decode jdk_52_method_5_code 56 = .ok (.ishl, 1) := by decide +kernel
theorem d23_57 : decode jdk_52_method_5_code 57 = .ok (.ior, 1) := by decide +kernel
theorem d23_58 : decode jdk_52_method_5_code 58 = .ok (.i2c, 1) := by decide +kernel
theorem d23_59 : decode jdk_52_method_5_code 59 = .ok (.ireturn, 1) := by decide +kernel
theorem d24_10 : decode jdk_52_method_83_code 10 = .ok (.ireturn, 1) := by decide +kernel
theorem d11_24 : decode jdk_42_method_56_code 24 = .ok (.ireturn, 1) := by decide +kernel
theorem d9_3 : decode jdk_52_method_21_code 3 = .ok (.iload 5, 2) := by decide +kernel
theorem d9_5 : decode jdk_52_method_21_code 5 = .ok (.iload 4, 2) := by decide +kernel
theorem d9_7 : decode jdk_52_method_21_code 7 = .ok (.if_icmp .ge 37, 3) := by decide +kernel
theorem d9_10 : decode jdk_52_method_21_code 10 = .ok (.aload_n 0, 1) := by decide +kernel
theorem d9_11 : decode jdk_52_method_21_code 11 = .ok (.iload_n 1, 1) := by decide +kernel
theorem d9_12 : decode jdk_52_method_21_code 12 = .ok (.caload, 1) := by decide +kernel
theorem d9_13 : decode jdk_52_method_21_code 13 = .ok (.istore 6, 2) := by decide +kernel
theorem d9_15 : decode jdk_52_method_21_code 15 = .ok (.iload 6, 2) := by decide +kernel
theorem d9_17 : decode jdk_52_method_21_code 17 = .ok (.sipush 255, 3) := by decide +kernel
theorem d9_20 : decode jdk_52_method_21_code 20 = .ok (.if_icmp .le 6, 3) := by decide +kernel
theorem d9_26 : decode jdk_52_method_21_code 26 = .ok (.aload_n 2, 1) := by decide +kernel
theorem d9_27 : decode jdk_52_method_21_code 27 = .ok (.iload_n 3, 1) := by decide +kernel
theorem d9_28 : decode jdk_52_method_21_code 28 = .ok (.iload 6, 2) := by decide +kernel
theorem d9_30 : decode jdk_52_method_21_code 30 = .ok (.i2b, 1) := by decide +kernel
theorem d9_31 : decode jdk_52_method_21_code 31 = .ok (.bastore, 1) := by decide +kernel
theorem d9_32 : decode jdk_52_method_21_code 32 = .ok (.iinc 1 1, 3) := by decide +kernel
theorem d9_35 : decode jdk_52_method_21_code 35 = .ok (.iinc 3 1, 3) := by decide +kernel
theorem d9_38 : decode jdk_52_method_21_code 38 = .ok (.iinc 5 1, 3) := by decide +kernel
theorem d9_41 : decode jdk_52_method_21_code 41 = .ok (.goto (-38), 3) := by decide +kernel
theorem d9_0 : decode jdk_52_method_21_code 0 = .ok (.iconst 0, 1) := by decide +kernel
theorem d9_1 : decode jdk_52_method_21_code 1 = .ok (.istore 5, 2) := by decide +kernel
theorem d9_44 : decode jdk_52_method_21_code 44 = .ok (.iload 4, 2) := by decide +kernel
theorem d9_46 : decode jdk_52_method_21_code 46 = .ok (.ireturn, 1) := by decide +kernel
theorem d9_23 : decode jdk_52_method_21_code 23 = .ok (.iload 5, 2) := by decide +kernel
theorem d9_25 : decode jdk_52_method_21_code 25 = .ok (.ireturn, 1) := by decide +kernel
theorem d19_8 : decode jdk_52_method_14_code 8 = .ok (.iload 4, 2) := by decide +kernel
theorem d19_10 : decode jdk_52_method_14_code 10 = .ok (.iload_n 2, 1) := by decide +kernel
theorem d19_11 : decode jdk_52_method_14_code 11 = .ok (.if_icmp .ge 21, 3) := by decide +kernel
theorem d19_14 : decode jdk_52_method_14_code 14 = .ok (.aload_n 3, 1) := by decide +kernel
theorem d19_15 : decode jdk_52_method_14_code 15 = .ok (.iload 4, 2) := by decide +kernel
theorem d19_17 : decode jdk_52_method_14_code 17 = .ok (.aload_n 0, 1) := by decide +kernel
theorem d19_18 : decode jdk_52_method_14_code 18 = .ok (.iload_n 1, 1) := by decide +kernel
theorem d19_19 : decode jdk_52_method_14_code 19 = .ok (.caload, 1) := by decide +kernel
theorem d19_20 : decode jdk_52_method_14_code 20 = .ok (.invokestatic 111, 3) := by decide +kernel
theorem d22_0 : decode jdk_52_method_4_code 0 = .ok (.getstatic 44, 3) := by decide +kernel
theorem d22_3 : decode jdk_52_method_4_code 3 = .ok (.ifCond .ne 25, 3) := by decide +kernel
theorem d22_28 : decode jdk_52_method_4_code 28 = .ok (.iload_n 1, 1) := by decide +kernel
theorem d22_29 : decode jdk_52_method_4_code 29 = .ok (.iconst 1, 1) := by decide +kernel
theorem d22_30 : decode jdk_52_method_4_code 30 = .ok (.ishl, 1) := by decide +kernel
theorem d22_31 : decode jdk_52_method_4_code 31 = .ok (.istore_n 1, 1) := by decide +kernel
theorem d22_32 : decode jdk_52_method_4_code 32 = .ok (.aload_n 0, 1) := by decide +kernel
theorem d22_33 : decode jdk_52_method_4_code 33 = .ok (.iload_n 1, 1) := by decide +kernel
theorem d22_34 : decode jdk_52_method_4_code 34 = .ok (.iinc 1 1, 3) := by decide +kernel
theorem d22_37 : decode jdk_52_method_4_code 37 = .ok (.iload_n 2, 1) := by decide +kernel
theorem d22_38 : decode jdk_52_method_4_code 38 = .ok (.getstatic 59, 3) := by decide +kernel
theorem d22_41 : decode jdk_52_method_4_code 41 = .ok (.ishr, 1) := by decide +kernel
theorem d22_42 : decode jdk_52_method_4_code 42 = .ok (.i2b, 1) := by decide +kernel
theorem d22_43 : decode jdk_52_method_4_code 43 = .ok (.bastore, 1) := by decide +kernel
theorem d22_44 : decode jdk_52_method_4_code 44 = .ok (.aload_n 0, 1) := by decide +kernel
theorem d22_45 : decode jdk_52_method_4_code 45 = .ok (.iload_n 1, 1) := by decide +kernel
theorem d22_46 : decode jdk_52_method_4_code 46 = .ok (.iload_n 2, 1) := by decide +kernel
theorem d22_47 : decode jdk_52_method_4_code 47 = .ok (.getstatic 63, 3) := by decide +kernel
theorem d22_50 : decode jdk_52_method_4_code 50 = .ok (.ishr, 1) := by decide +kernel
theorem d22_51 : decode jdk_52_method_4_code 51 = .ok (.i2b, 1) := by decide +kernel
theorem d22_52 : decode jdk_52_method_4_code 52 = .ok (.bastore, 1) := by decide +kernel
theorem d22_53 : decode jdk_52_method_4_code 53 = .ok (.return_, 1) := by decide +kernel
theorem d19_23 : decode jdk_52_method_14_code 23 = .ok (.iinc 1 1, 3) := by decide +kernel
theorem d19_26 : decode jdk_52_method_14_code 26 = .ok (.iinc 4 1, 3) := by decide +kernel
theorem d19_29 : decode jdk_52_method_14_code 29 = .ok (.goto (-21), 3) := by decide +kernel
theorem d19_0 : decode jdk_52_method_14_code 0 = .ok (.iload_n 2, 1) := by decide +kernel
theorem d19_1 : decode jdk_52_method_14_code 1 = .ok (.invokestatic 107, 3) := by decide +kernel
theorem d20_0 : decode jdk_52_method_2_code 0 = .ok (.iload_n 0, 1) := by decide +kernel
theorem d20_1 : decode jdk_52_method_2_code 1 = .ok (.invokestatic 11, 3) := by decide +kernel
theorem d21_0 : decode jdk_52_method_3_code 0 = .ok (.iload_n 0, 1) := by decide +kernel
theorem d21_1 : decode jdk_52_method_3_code 1 = .ok (.ifCond .ge 11, 3) := by decide +kernel
theorem d21_12 : decode jdk_52_method_3_code 12 = .ok (.iload_n 0, 1) := by decide +kernel
theorem d21_13 : decode jdk_52_method_3_code 13 = .ok (.ldc 20, 2) := by decide +kernel
theorem d21_15 : decode jdk_52_method_3_code 15 = .ok (.if_icmp .lt 40, 3) := by decide +kernel
theorem d21_55 : decode jdk_52_method_3_code 55 = .ok (.iload_n 0, 1) := by decide +kernel
theorem d21_56 : decode jdk_52_method_3_code 56 = .ok (.iconst 1, 1) := by decide +kernel
theorem d21_57 : decode jdk_52_method_3_code 57 = .ok (.ishl, 1) := by decide +kernel
theorem d21_58 : decode jdk_52_method_3_code 58 = .ok (.ireturn, 1) := by decide +kernel
theorem d20_4 : decode jdk_52_method_2_code 4 = .ok (.newarray .byte, 2) := by decide +kernel
theorem d20_6 : decode jdk_52_method_2_code 6 = .ok (.areturn, 1) := by decide +kernel
theorem d19_4 : decode jdk_52_method_14_code 4 = .ok (.astore_n 3, 1) := by decide +kernel
theorem d19_5 : decode jdk_52_method_14_code 5 = .ok (.iconst 0, 1) := by decide +kernel
theorem d19_6 : decode jdk_52_method_14_code 6 = .ok (.istore 4, 2) := by decide +kernel
theorem d19_32 : decode jdk_52_method_14_code 32 = .ok (.aload_n 3, 1) := by decide +kernel
theorem d19_33 : decode jdk_52_method_14_code 33 = .ok (.areturn, 1) := by decide +kernel
theorem d2_0 : decode jdk_42_method_3_code 0 = .ok (.aload_n 0, 1) := by decide +kernel
theorem d2_1 : decode jdk_42_method_3_code 1 = .ok (.aload_n 1, 1) := by decide +kernel
theorem d2_2 : decode jdk_42_method_3_code 2 = .ok (.iconst 0, 1) := by decide +kernel
theorem d2_3 : decode jdk_42_method_3_code 3 = .ok (.aload_n 1, 1) := by decide +kernel
theorem d2_4 : decode jdk_42_method_3_code 4 = .ok (.arraylength, 1) := by decide +kernel
theorem d2_5 : decode jdk_42_method_3_code 5 = .ok (.aconst_null, 1) := by decide +kernel
theorem d2_6 : decode jdk_42_method_3_code 6 = .ok (.invokespecial 27, 3) := by decide +kernel
theorem d3_0 : decode jdk_42_method_149_code 0 = .ok (.aload_n 0, 1) := by decide +kernel
theorem d3_1 : decode jdk_42_method_149_code 1 = .ok (.invokespecial 1, 3) := by decide +kernel
theorem d3_4 : decode jdk_42_method_149_code 4 = .ok (.iload_n 3, 1) := by decide +kernel
theorem d3_5 : decode jdk_42_method_149_code 5 = .ok (.ifCond .ne 22, 3) := by decide +kernel
theorem d3_27 : decode jdk_42_method_149_code 27 = .ok (.getstatic 38, 3) := by decide +kernel
theorem d3_30 : decode jdk_42_method_149_code 30 = .ok (.ifCond .eq 28, 3) := by decide +kernel
theorem d3_33 : decode jdk_42_method_149_code 33 = .ok (.aload_n 1, 1) := by decide +kernel
theorem d3_34 : decode jdk_42_method_149_code 34 = .ok (.iload_n 2, 1) := by decide +kernel
theorem d3_35 : decode jdk_42_method_149_code 35 = .ok (.iload_n 3, 1) := by decide +kernel
theorem d3_36 : decode jdk_42_method_149_code 36 = .ok (.invokestatic 177, 3) := by decide +kernel
theorem d8_0 : decode jdk_52_method_16_code 0 = .ok (.iload_n 2, 1) := by decide +kernel
theorem d8_1 : decode jdk_52_method_16_code 1 = .ok (.newarray .byte, 2) := by decide +kernel
theorem d8_3 : decode jdk_52_method_16_code 3 = .ok (.astore_n 3, 1) := by decide +kernel
theorem d8_4 : decode jdk_52_method_16_code 4 = .ok (.aload_n 0, 1) := by decide +kernel
theorem d8_5 : decode jdk_52_method_16_code 5 = .ok (.iload_n 1, 1) := by decide +kernel
theorem d8_6 : decode jdk_52_method_16_code 6 = .ok (.aload_n 3, 1) := by decide +kernel
theorem d8_7 : decode jdk_52_method_16_code 7 = .ok (.iconst 0, 1) := by decide +kernel
theorem d8_8 : decode jdk_52_method_16_code 8 = .ok (.iload_n 2, 1) := by decide +kernel
theorem d8_9 : decode jdk_52_method_16_code 9 = .ok (.invokestatic 115, 3) := by decide +kernel
theorem d8_12 : decode jdk_52_method_16_code 12 = .ok (.istore 4, 2) := by decide +kernel
theorem d8_14 : decode jdk_52_method_16_code 14 = .ok (.iload 4, 2) := by decide +kernel
theorem d8_16 : decode jdk_52_method_16_code 16 = .ok (.iload_n 2, 1) := by decide +kernel
theorem d8_17 : decode jdk_52_method_16_code 17 = .ok (.if_icmp .eq 40, 3) := by decide +kernel
theorem d8_57 : decode jdk_52_method_16_code 57 = .ok (.aload_n 3, 1) := by decide +kernel
theorem d8_58 : decode jdk_52_method_16_code 58 = .ok (.areturn, 1) := by decide +kernel
theorem d3_39 : decode jdk_42_method_149_code 39 = .ok (.astore 5, 2) := by decide +kernel
theorem d3_41 : decode jdk_42_method_149_code 41 = .ok (.aload_n 0, 1) := by decide +kernel
theorem d3_42 : decode jdk_42_method_149_code 42 = .ok (.aload 5, 2) := by decide +kernel
theorem d3_44 : decode jdk_42_method_149_code 44 = .ok (.iload_n 3, 1) := by decide +kernel
theorem d3_45 : decode jdk_42_method_149_code 45 = .ok (.invokestatic 47, 3) := by decide +kernel
theorem d10_0 : decode jdk_52_method_15_code 0 = .ok (.iload_n 1, 1) := by decide +kernel
theorem d10_1 : decode jdk_52_method_15_code 1 = .ok (.aload_n 0, 1) := by decide +kernel
theorem d10_2 : decode jdk_52_method_15_code 2 = .ok (.arraylength, 1) := by decide +kernel
theorem d10_3 : decode jdk_52_method_15_code 3 = .ok (.isub, 1) := by decide +kernel
theorem d10_4 : decode jdk_52_method_15_code 4 = .ok (.bipush 31, 2) := by decide +kernel
theorem d10_6 : decode jdk_52_method_15_code 6 = .ok (.iushr, 1) := by decide +kernel
theorem d10_7 : decode jdk_52_method_15_code 7 = .ok (.i2b, 1) := by decide +kernel
theorem d10_8 : decode jdk_52_method_15_code 8 = .ok (.ireturn, 1) := by decide +kernel
theorem d3_48 : decode jdk_42_method_149_code 48 = .ok (.putfield 15, 3) := by decide +kernel
theorem d3_51 : decode jdk_42_method_149_code 51 = .ok (.aload_n 0, 1) := by decide +kernel
theorem d3_52 : decode jdk_42_method_149_code 52 = .ok (.aload 5, 2) := by decide +kernel
theorem d3_54 : decode jdk_42_method_149_code 54 = .ok (.putfield 9, 3) := by decide +kernel
theorem d3_57 : decode jdk_42_method_149_code 57 = .ok (.return_, 1) := by decide +kernel
theorem d2_9 : decode jdk_42_method_3_code 9 = .ok (.return_, 1) := by decide +kernel
theorem d8_20 : decode jdk_52_method_16_code 20 = .ok (.aload_n 0, 1) := by decide +kernel
theorem d8_21 : decode jdk_52_method_16_code 21 = .ok (.iload_n 1, 1) := by decide +kernel
theorem d8_22 : decode jdk_52_method_16_code 22 = .ok (.iload_n 2, 1) := by decide +kernel
theorem d8_23 : decode jdk_52_method_16_code 23 = .ok (.invokestatic 119, 3) := by decide +kernel
theorem d8_26 : decode jdk_52_method_16_code 26 = .ok (.astore 5, 2) := by decide +kernel
theorem d8_28 : decode jdk_52_method_16_code 28 = .ok (.aload 5, 2) := by decide +kernel
theorem d8_30 : decode jdk_52_method_16_code 30 = .ok (.iload 4, 2) := by decide +kernel
theorem d8_32 : decode jdk_52_method_16_code 32 = .ok (.invokestatic 71, 3) := by decide +kernel
theorem d8_35 : decode jdk_52_method_16_code 35 = .ok (.sipush 255, 3) := by decide +kernel
theorem d8_38 : decode jdk_52_method_16_code 38 = .ok (.if_icmp .gt 16, 3) := by decide +kernel
theorem d8_54 : decode jdk_52_method_16_code 54 = .ok (.aload 5, 2) := by decide +kernel
theorem d8_56 : decode jdk_52_method_16_code 56 = .ok (.areturn, 1) := by decide +kernel
theorem d29_3 : decode jdk_43_method_49_code 3 = .ok (.iload 5, 2) := by decide +kernel
theorem d29_5 : decode jdk_43_method_49_code 5 = .ok (.iload 4, 2) := by decide +kernel
theorem d29_7 : decode jdk_43_method_49_code 7 = .ok (.if_icmp .ge 26, 3) := by decide +kernel
theorem d29_10 : decode jdk_43_method_49_code 10 = .ok (.aload_n 2, 1) := by decide +kernel
theorem d29_11 : decode jdk_43_method_49_code 11 = .ok (.iload_n 3, 1) := by decide +kernel
theorem d29_12 : decode jdk_43_method_49_code 12 = .ok (.iinc 3 1, 3) := by decide +kernel
theorem d29_15 : decode jdk_43_method_49_code 15 = .ok (.aload_n 0, 1) := by decide +kernel
theorem d29_16 : decode jdk_43_method_49_code 16 = .ok (.iload_n 1, 1) := by decide +kernel
theorem d29_17 : decode jdk_43_method_49_code 17 = .ok (.iinc 1 1, 3) := by decide +kernel
theorem d29_20 : decode jdk_43_method_49_code 20 = .ok (.baload, 1) := by decide +kernel
theorem d29_21 : decode jdk_43_method_49_code 21 = .ok (.sipush 255, 3) := by decide +kernel
theorem d29_24 : decode jdk_43_method_49_code 24 = .ok (.iand, 1) := by decide +kernel
theorem d29_25 : decode jdk_43_method_49_code 25 = .ok (.i2c, 1) := by decide +kernel
theorem d29_26 : decode jdk_43_method_49_code 26 = .ok (.castore, 1) := by decide +kernel
theorem d29_27 : decode jdk_43_method_49_code 27 = .ok (.iinc 5 1, 3) := by decide +kernel
theorem d29_30 : decode jdk_43_method_49_code 30 = .ok (.goto (-27), 3) := by decide +kernel
theorem d29_0 : decode jdk_43_method_49_code 0 = .ok (.iconst 0, 1) := by decide +kernel
theorem d29_1 : decode jdk_43_method_49_code 1 = .ok (.istore 5, 2) := by decide +kernel
theorem d29_33 : decode jdk_43_method_49_code 33 = .ok (.return_, 1) := by decide +kernel
theorem d31_16 : decode jdk_52_method_26_code 16 = .ok (.iload 5, 2) := by decide +kernel
theorem d31_18 : decode jdk_52_method_26_code 18 = .ok (.iload_n 2, 1) := by decide +kernel
theorem d31_19 : decode jdk_52_method_26_code 19 = .ok (.if_icmp .ge 22, 3) := by decide +kernel
theorem d31_22 : decode jdk_52_method_26_code 22 = .ok (.aload_n 3, 1) := by decide +kernel
theorem d31_23 : decode jdk_52_method_26_code 23 = .ok (.iload 4, 2) := by decide +kernel
theorem d31_25 : decode jdk_52_method_26_code 25 = .ok (.iinc 4 1, 3) := by decide +kernel
theorem d31_28 : decode jdk_52_method_26_code 28 = .ok (.aload_n 0, 1) := by decide +kernel
theorem d31_29 : decode jdk_52_method_26_code 29 = .ok (.iload 5, 2) := by decide +kernel
theorem d31_31 : decode jdk_52_method_26_code 31 = .ok (.invokestatic 71, 3) := by decide +kernel
theorem d31_34 : decode jdk_52_method_26_code 34 = .ok (.castore, 1) := by decide +kernel
theorem d31_35 : decode jdk_52_method_26_code 35 = .ok (.iinc 5 1, 3) := by decide +kernel
theorem d31_38 : decode jdk_52_method_26_code 38 = .ok (.goto (-22), 3) := by decide +kernel
theorem d31_0 : decode jdk_52_method_26_code 0 = .ok (.iload_n 1, 1) := by decide +kernel
theorem d31_1 : decode jdk_52_method_26_code 1 = .ok (.iload_n 2, 1) := by decide +kernel
theorem d31_2 : decode jdk_52_method_26_code 2 = .ok (.if_icmp .ge 11, 3) := by decide +kernel
theorem d31_5 : decode jdk_52_method_26_code 5 = .ok (.iload_n 1, 1) := by decide +kernel
theorem d31_6 : decode jdk_52_method_26_code 6 = .ok (.iload_n 2, 1) := by decide +kernel
theorem d31_7 : decode jdk_52_method_26_code 7 = .ok (.iload_n 1, 1) := by decide +kernel
theorem d31_8 : decode jdk_52_method_26_code 8 = .ok (.isub, 1) := by decide +kernel
theorem d31_9 : decode jdk_52_method_26_code 9 = .ok (.aload_n 0, 1) := by decide +kernel
theorem d31_10 : decode jdk_52_method_26_code 10 = .ok (.invokestatic 173, 3) := by decide +kernel
theorem d32_0 : decode jdk_52_method_94_code 0 = .ok (.iload_n 0, 1) := by decide +kernel
theorem d32_1 : decode jdk_52_method_94_code 1 = .ok (.iload_n 1, 1) := by decide +kernel
theorem d32_2 : decode jdk_52_method_94_code 2 = .ok (.aload_n 2, 1) := by decide +kernel
theorem d32_3 : decode jdk_52_method_94_code 3 = .ok (.invokestatic 48, 3) := by decide +kernel
theorem d32_6 : decode jdk_52_method_94_code 6 = .ok (.invokestatic 419, 3) := by decide +kernel
theorem d33_0 : decode jdk_42_method_157_code 0 = .ok (.iload_n 0, 1) := by decide +kernel
theorem d33_1 : decode jdk_42_method_157_code 1 = .ok (.iload_n 1, 1) := by decide +kernel
theorem d33_2 : decode jdk_42_method_157_code 2 = .ok (.iload_n 2, 1) := by decide +kernel
theorem d33_3 : decode jdk_42_method_157_code 3 = .ok (.getstatic 1053, 3) := by decide +kernel
theorem d33_6 : decode jdk_42_method_157_code 6 = .ok (.invokestatic 1065, 3) := by decide +kernel
theorem d34_0 : decode jdk_41_method_13_code 0 = .ok (.iload_n 2, 1) := by decide +kernel
theorem d34_1 : decode jdk_41_method_13_code 1 = .ok (.iload_n 0, 1) := by decide +kernel
theorem d34_2 : decode jdk_41_method_13_code 2 = .ok (.ior, 1) := by decide +kernel
theorem d34_3 : decode jdk_41_method_13_code 3 = .ok (.iload_n 1, 1) := by decide +kernel
theorem d34_4 : decode jdk_41_method_13_code 4 = .ok (.ior, 1) := by decide +kernel
theorem d34_5 : decode jdk_41_method_13_code 5 = .ok (.ifCond .lt 10, 3) := by decide +kernel
theorem d34_8 : decode jdk_41_method_13_code 8 = .ok (.iload_n 1, 1) := by decide +kernel
theorem d34_9 : decode jdk_41_method_13_code 9 = .ok (.iload_n 2, 1) := by decide +kernel
theorem d34_10 : decode jdk_41_method_13_code 10 = .ok (.iload_n 0, 1) := by decide +kernel
theorem d34_11 : decode jdk_41_method_13_code 11 = .ok (.isub, 1) := by decide +kernel
theorem d34_12 : decode jdk_41_method_13_code 12 = .ok (.if_icmp .le 11, 3) := by decide +kernel
theorem d34_23 : decode jdk_41_method_13_code 23 = .ok (.iload_n 0, 1) := by decide +kernel
theorem d34_24 : decode jdk_41_method_13_code 24 = .ok (.ireturn, 1) := by decide +kernel
theorem d33_9 : decode jdk_42_method_157_code 9 = .ok (.ireturn, 1) := by decide +kernel
theorem d32_9 : decode jdk_52_method_94_code 9 = .ok (.pop, 1) := by decide +kernel
theorem d32_10 : decode jdk_52_method_94_code 10 = .ok (.return_, 1) := by decide +kernel
theorem d31_13 : decode jdk_52_method_26_code 13 = .ok (.iload_n 1, 1) := by decide +kernel
theorem d31_14 : decode jdk_52_method_26_code 14 = .ok (.istore 5, 2) := by decide +kernel
theorem d31_41 : decode jdk_52_method_26_code 41 = .ok (.return_, 1) := by decide +kernel
theorem d27_0 : decode jdk_42_method_129_code 0 = .ok (.aload_n 0, 1) := by decide +kernel
theorem d27_1 : decode jdk_42_method_129_code 1 = .ok (.invokevirtual 492, 3) := by decide +kernel
theorem d27_4 : decode jdk_42_method_129_code 4 = .ok (.ifCond .eq 13, 3) := by decide +kernel
theorem d27_7 : decode jdk_42_method_129_code 7 = .ok (.aload_n 0, 1) := by decide +kernel
theorem d27_8 : decode jdk_42_method_129_code 8 = .ok (.getfield 9, 3) := by decide +kernel
theorem d27_11 : decode jdk_42_method_129_code 11 = .ok (.invokestatic 299, 3) := by decide +kernel
theorem d28_0 : decode jdk_43_method_9_code 0 = .ok (.aload_n 0, 1) := by decide +kernel
theorem d28_1 : decode jdk_43_method_9_code 1 = .ok (.arraylength, 1) := by decide +kernel
theorem d28_2 : decode jdk_43_method_9_code 2 = .ok (.newarray .char, 2) := by decide +kernel
theorem d28_4 : decode jdk_43_method_9_code 4 = .ok (.astore_n 1, 1) := by decide +kernel
theorem d28_5 : decode jdk_43_method_9_code 5 = .ok (.aload_n 0, 1) := by decide +kernel
theorem d28_6 : decode jdk_43_method_9_code 6 = .ok (.iconst 0, 1) := by decide +kernel
theorem d28_7 : decode jdk_43_method_9_code 7 = .ok (.aload_n 1, 1) := by decide +kernel
theorem d28_8 : decode jdk_43_method_9_code 8 = .ok (.iconst 0, 1) := by decide +kernel
theorem d28_9 : decode jdk_43_method_9_code 9 = .ok (.aload_n 0, 1) := by decide +kernel
theorem d28_10 : decode jdk_43_method_9_code 10 = .ok (.arraylength, 1) := by decide +kernel
theorem d28_11 : decode jdk_43_method_9_code 11 = .ok (.invokestatic 13, 3) := by decide +kernel
theorem d28_14 : decode jdk_43_method_9_code 14 = .ok (.aload_n 1, 1) := by decide +kernel
theorem d28_15 : decode jdk_43_method_9_code 15 = .ok (.areturn, 1) := by decide +kernel
theorem d27_14 : decode jdk_42_method_129_code 14 = .ok (.goto 10, 3) := by decide +kernel
theorem d27_24 : decode jdk_42_method_129_code 24 = .ok (.areturn, 1) := by decide +kernel
theorem d27_17 : decode jdk_42_method_129_code 17 = .ok (.aload_n 0, 1) := by decide +kernel
theorem d27_18 : decode jdk_42_method_129_code 18 = .ok (.getfield 9, 3) := by decide +kernel
theorem d27_21 : decode jdk_42_method_129_code 21 = .ok (.invokestatic 303, 3) := by decide +kernel
theorem d30_0 : decode jdk_52_method_13_code 0 = .ok (.aload_n 0, 1) := by decide +kernel
theorem d30_1 : decode jdk_52_method_13_code 1 = .ok (.arraylength, 1) := by decide +kernel
theorem d30_2 : decode jdk_52_method_13_code 2 = .ok (.iconst 1, 1) := by decide +kernel
theorem d30_3 : decode jdk_52_method_13_code 3 = .ok (.ishr, 1) := by decide +kernel
theorem d30_4 : decode jdk_52_method_13_code 4 = .ok (.newarray .char, 2) := by decide +kernel
theorem d30_6 : decode jdk_52_method_13_code 6 = .ok (.astore_n 1, 1) := by decide +kernel
theorem d30_7 : decode jdk_52_method_13_code 7 = .ok (.aload_n 0, 1) := by decide +kernel
theorem d30_8 : decode jdk_52_method_13_code 8 = .ok (.iconst 0, 1) := by decide +kernel
theorem d30_9 : decode jdk_52_method_13_code 9 = .ok (.aload_n 1, 1) := by decide +kernel
theorem d30_10 : decode jdk_52_method_13_code 10 = .ok (.arraylength, 1) := by decide +kernel
theorem d30_11 : decode jdk_52_method_13_code 11 = .ok (.aload_n 1, 1) := by decide +kernel
theorem d30_12 : decode jdk_52_method_13_code 12 = .ok (.iconst 0, 1) := by decide +kernel
theorem d30_13 : decode jdk_52_method_13_code 13 = .ok (.invokestatic 103, 3) := by decide +kernel
theorem d30_16 : decode jdk_52_method_13_code 16 = .ok (.aload_n 1, 1) := by decide +kernel
theorem d30_17 : decode jdk_52_method_13_code 17 = .ok (.areturn, 1) := by decide +kernel
theorem d5_2 : decode prog_38_method_3_code 2 = .ok (.iload_n 1, 1) := by decide +kernel
theorem d5_3 : decode prog_38_method_3_code 3 = .ok (.aload_n 0, 1) := by decide +kernel
theorem d5_4 : decode prog_38_method_3_code 4 = .ok (.invokevirtual 7, 3) := by decide +kernel
theorem d5_7 : decode prog_38_method_3_code 7 = .ok (.if_icmp .ge 62, 3) := by decide +kernel
theorem d5_10 : decode prog_38_method_3_code 10 = .ok (.aload_n 0, 1) := by decide +kernel
theorem d5_11 : decode prog_38_method_3_code 11 = .ok (.iload_n 1, 1) := by decide +kernel
theorem d5_12 : decode prog_38_method_3_code 12 = .ok (.invokevirtual 13, 3) := by decide +kernel
theorem d5_15 : decode prog_38_method_3_code 15 = .ok (.invokestatic 17, 3) := by decide +kernel
theorem d5_18 : decode prog_38_method_3_code 18 = .ok (.aload_n 0, 1) := by decide +kernel
theorem d5_19 : decode prog_38_method_3_code 19 = .ok (.iload_n 1, 1) := by decide +kernel
theorem d5_20 : decode prog_38_method_3_code 20 = .ok (.invokevirtual 13, 3) := by decide +kernel
theorem d5_23 : decode prog_38_method_3_code 23 = .ok (.if_icmp .eq 40, 3) := by decide +kernel
theorem d5_63 : decode prog_38_method_3_code 63 = .ok (.iinc 1 1, 3) := by decide +kernel
theorem d5_66 : decode prog_38_method_3_code 66 = .ok (.goto (-64), 3) := by decide +kernel
theorem d5_33 : decode prog_38_method_3_code 33 = .ok (.iload_n 3, 1) := by decide +kernel
theorem d5_34 : decode prog_38_method_3_code 34 = .ok (.aload_n 2, 1) := by decide +kernel
theorem d5_35 : decode prog_38_method_3_code 35 = .ok (.arraylength, 1) := by decide +kernel
theorem d5_36 : decode prog_38_method_3_code 36 = .ok (.if_icmp .ge 18, 3) := by decide +kernel
theorem d5_39 : decode prog_38_method_3_code 39 = .ok (.aload_n 2, 1) := by decide +kernel
theorem d5_40 : decode prog_38_method_3_code 40 = .ok (.iload_n 3, 1) := by decide +kernel
theorem d5_41 : decode prog_38_method_3_code 41 = .ok (.aload_n 2, 1) := by decide +kernel
theorem d5_42 : decode prog_38_method_3_code 42 = .ok (.iload_n 3, 1) := by decide +kernel
theorem d5_43 : decode prog_38_method_3_code 43 = .ok (.caload, 1) := by decide +kernel
theorem d5_44 : decode prog_38_method_3_code 44 = .ok (.invokestatic 17, 3) := by decide +kernel
theorem d5_47 : decode prog_38_method_3_code 47 = .ok (.castore, 1) := by decide +kernel
theorem d5_48 : decode prog_38_method_3_code 48 = .ok (.iinc 3 1, 3) := by decide +kernel
theorem d5_51 : decode prog_38_method_3_code 51 = .ok (.goto (-18), 3) := by decide +kernel
theorem d5_0 : decode prog_38_method_3_code 0 = .ok (.iconst 0, 1) := by decide +kernel
theorem d5_1 : decode prog_38_method_3_code 1 = .ok (.istore_n 1, 1) := by decide +kernel
theorem d5_69 : decode prog_38_method_3_code 69 = .ok (.aload_n 0, 1) := by decide +kernel
theorem d5_70 : decode prog_38_method_3_code 70 = .ok (.areturn, 1) := by decide +kernel
theorem d5_26 : decode prog_38_method_3_code 26 = .ok (.aload_n 0, 1) := by decide +kernel
theorem d5_27 : decode prog_38_method_3_code 27 = .ok (.invokevirtual 23, 3) := by decide +kernel
theorem d5_30 : decode prog_38_method_3_code 30 = .ok (.astore_n 2, 1) := by decide +kernel
theorem d5_31 : decode prog_38_method_3_code 31 = .ok (.iload_n 1, 1) := by decide +kernel
theorem d5_32 : decode prog_38_method_3_code 32 = .ok (.istore_n 3, 1) := by decide +kernel
theorem d5_54 : decode prog_38_method_3_code 54 = .ok (.new 8, 3) := by decide +kernel
theorem d5_57 : decode prog_38_method_3_code 57 = .ok (.dup, 1) := by decide +kernel
theorem d5_58 : decode prog_38_method_3_code 58 = .ok (.aload_n 2, 1) := by decide +kernel
theorem d5_59 : decode prog_38_method_3_code 59 = .ok (.invokespecial 27, 3) := by decide +kernel
theorem d5_62 : decode prog_38_method_3_code 62 = .ok (.areturn, 1) := by decide +kernel
theorem d3_8 : decode jdk_42_method_149_code 8 = .ok (.aload_n 0, 1) := by decide +kernel
theorem d3_9 : decode jdk_42_method_149_code 9 = .ok (.ldc 7, 2) := by decide +kernel
theorem d3_11 : decode jdk_42_method_149_code 11 = .ok (.getfield 9, 3) := by decide +kernel
theorem d3_14 : decode jdk_42_method_149_code 14 = .ok (.putfield 9, 3) := by decide +kernel
theorem d3_17 : decode jdk_42_method_149_code 17 = .ok (.aload_n 0, 1) := by decide +kernel
theorem d3_18 : decode jdk_42_method_149_code 18 = .ok (.ldc 7, 2) := by decide +kernel
theorem d3_20 : decode jdk_42_method_149_code 20 = .ok (.getfield 15, 3) := by decide +kernel
theorem d3_23 : decode jdk_42_method_149_code 23 = .ok (.putfield 15, 3) := by decide +kernel
theorem d3_26 : decode jdk_42_method_149_code 26 = .ok (.return_, 1) := by decide +kernel
theorem d1_0 : decode method_4_code 0 = .ok (.iload_n 0, 1) := by decide +kernel
theorem d1_1 : decode method_4_code 1 = .ok (.ifCond .ne 14, 3) := by decide +kernel
theorem d1_4 : decode method_4_code 4 = .ok (.new 13, 3) := by decide +kernel
theorem d1_7 : decode method_4_code 7 = .ok (.dup, 1) := by decide +kernel
theorem d1_8 : decode method_4_code 8 = .ok (.iconst 0, 1) := by decide +kernel
theorem d1_9 : decode method_4_code 9 = .ok (.newarray .char, 2) := by decide +kernel
theorem d1_11 : decode method_4_code 11 = .ok (.invokespecial 15, 3) := by decide +kernel
theorem d1_14 : decode method_4_code 14 = .ok (.areturn, 1) := by decide +kernel
theorem d1_15 : decode method_4_code 15 = .ok (.iload_n 0, 1) := by decide +kernel
theorem d1_16 : decode method_4_code 16 = .ok (.iconst 1, 1) := by decide +kernel
theorem d1_17 : decode method_4_code 17 = .ok (.if_icmp .ne 18, 3) := by decide +kernel
theorem d1_20 : decode method_4_code 20 = .ok (.new 13, 3) := by decide +kernel
theorem d1_23 : decode method_4_code 23 = .ok (.dup, 1) := by decide +kernel
theorem d1_24 : decode method_4_code 24 = .ok (.iconst 1, 1) := by decide +kernel
theorem d1_25 : decode method_4_code 25 = .ok (.newarray .char, 2) := by decide +kernel
theorem d1_27 : decode method_4_code 27 = .ok (.dup, 1) := by decide +kernel
theorem d1_28 : decode method_4_code 28 = .ok (.iconst 0, 1) := by decide +kernel
theorem d1_29 : decode method_4_code 29 = .ok (.iload_n 1, 1) := by decide +kernel
theorem d1_30 : decode method_4_code 30 = .ok (.castore, 1) := by decide +kernel
theorem d1_31 : decode method_4_code 31 = .ok (.invokespecial 15, 3) := by decide +kernel
theorem d1_34 : decode method_4_code 34 = .ok (.areturn, 1) := by decide +kernel
theorem d1_35 : decode method_4_code 35 = .ok (.iload_n 0, 1) := by decide +kernel
theorem d1_36 : decode method_4_code 36 = .ok (.iconst 2, 1) := by decide +kernel
theorem d1_37 : decode method_4_code 37 = .ok (.if_icmp .ne 22, 3) := by decide +kernel
theorem d1_40 : decode method_4_code 40 = .ok (.new 13, 3) := by decide +kernel
theorem d1_43 : decode method_4_code 43 = .ok (.dup, 1) := by decide +kernel
theorem d1_44 : decode method_4_code 44 = .ok (.iconst 2, 1) := by decide +kernel
theorem d1_45 : decode method_4_code 45 = .ok (.newarray .char, 2) := by decide +kernel
theorem d1_47 : decode method_4_code 47 = .ok (.dup, 1) := by decide +kernel
theorem d1_48 : decode method_4_code 48 = .ok (.iconst 0, 1) := by decide +kernel
theorem d1_49 : decode method_4_code 49 = .ok (.iload_n 1, 1) := by decide +kernel
theorem d1_50 : decode method_4_code 50 = .ok (.castore, 1) := by decide +kernel
theorem d1_51 : decode method_4_code 51 = .ok (.dup, 1) := by decide +kernel
theorem d1_52 : decode method_4_code 52 = .ok (.iconst 1, 1) := by decide +kernel
theorem d1_53 : decode method_4_code 53 = .ok (.iload_n 2, 1) := by decide +kernel
theorem d1_54 : decode method_4_code 54 = .ok (.castore, 1) := by decide +kernel
theorem d1_55 : decode method_4_code 55 = .ok (.invokespecial 15, 3) := by decide +kernel
theorem d1_58 : decode method_4_code 58 = .ok (.areturn, 1) := by decide +kernel
theorem d1_59 : decode method_4_code 59 = .ok (.iload_n 0, 1) := by decide +kernel
theorem d1_60 : decode method_4_code 60 = .ok (.iconst 3, 1) := by decide +kernel
theorem d1_61 : decode method_4_code 61 = .ok (.if_icmp .ne 26, 3) := by decide +kernel
theorem d1_64 : decode method_4_code 64 = .ok (.new 13, 3) := by decide +kernel
theorem d1_67 : decode method_4_code 67 = .ok (.dup, 1) := by decide +kernel
theorem d1_68 : decode method_4_code 68 = .ok (.iconst 3, 1) := by decide +kernel
theorem d1_69 : decode method_4_code 69 = .ok (.newarray .char, 2) := by decide +kernel
theorem d1_71 : decode method_4_code 71 = .ok (.dup, 1) := by decide +kernel
theorem d1_72 : decode method_4_code 72 = .ok (.iconst 0, 1) := by decide +kernel
theorem d1_73 : decode method_4_code 73 = .ok (.iload_n 1, 1) := by decide +kernel
theorem d1_74 : decode method_4_code 74 = .ok (.castore, 1) := by decide +kernel
theorem d1_75 : decode method_4_code 75 = .ok (.dup, 1) := by decide +kernel
theorem d1_76 : decode method_4_code 76 = .ok (.iconst 1, 1) := by decide +kernel
theorem d1_77 : decode method_4_code 77 = .ok (.iload_n 2, 1) := by decide +kernel
theorem d1_78 : decode method_4_code 78 = .ok (.castore, 1) := by decide +kernel
theorem d1_79 : decode method_4_code 79 = .ok (.dup, 1) := by decide +kernel
theorem d1_80 : decode method_4_code 80 = .ok (.iconst 2, 1) := by decide +kernel
theorem d1_81 : decode method_4_code 81 = .ok (.iload_n 3, 1) := by decide +kernel
theorem d1_82 : decode method_4_code 82 = .ok (.castore, 1) := by decide +kernel
theorem d1_83 : decode method_4_code 83 = .ok (.invokespecial 15, 3) := by decide +kernel
theorem d1_86 : decode method_4_code 86 = .ok (.areturn, 1) := by decide +kernel
theorem d1_87 : decode method_4_code 87 = .ok (.new 13, 3) := by decide +kernel
theorem d1_90 : decode method_4_code 90 = .ok (.dup, 1) := by decide +kernel
theorem d1_91 : decode method_4_code 91 = .ok (.iconst 4, 1) := by decide +kernel
theorem d1_92 : decode method_4_code 92 = .ok (.newarray .char, 2) := by decide +kernel
theorem d1_94 : decode method_4_code 94 = .ok (.dup, 1) := by decide +kernel
theorem d1_95 : decode method_4_code 95 = .ok (.iconst 0, 1) := by decide +kernel
theorem d1_96 : decode method_4_code 96 = .ok (.iload_n 1, 1) := by decide +kernel
theorem d1_97 : decode method_4_code 97 = .ok (.castore, 1) := by decide +kernel
theorem d1_98 : decode method_4_code 98 = .ok (.dup, 1) := by decide +kernel
theorem d1_99 : decode method_4_code 99 = .ok (.iconst 1, 1) := by decide +kernel
theorem d1_100 : decode method_4_code 100 = .ok (.iload_n 2, 1) := by decide +kernel
theorem d1_101 : decode method_4_code 101 = .ok (.castore, 1) := by decide +kernel
theorem d1_102 : decode method_4_code 102 = .ok (.dup, 1) := by decide +kernel
theorem d1_103 : decode method_4_code 103 = .ok (.iconst 2, 1) := by decide +kernel
theorem d1_104 : decode method_4_code 104 = .ok (.iload_n 3, 1) := by decide +kernel
theorem d1_105 : decode method_4_code 105 = .ok (.castore, 1) := by decide +kernel
theorem d1_106 : decode method_4_code 106 = .ok (.dup, 1) := by decide +kernel
theorem d1_107 : decode method_4_code 107 = .ok (.iconst 3, 1) := by decide +kernel
theorem d1_108 : decode method_4_code 108 = .ok (.iload 4, 2) := by decide +kernel
theorem d1_110 : decode method_4_code 110 = .ok (.castore, 1) := by decide +kernel
theorem d1_111 : decode method_4_code 111 = .ok (.invokespecial 15, 3) := by decide +kernel
theorem d1_114 : decode method_4_code 114 = .ok (.areturn, 1) := by decide +kernel
theorem ef_method_2_I (m : MethodId) (x0 : Int32) : entryFrame m #[(.int x0)] 1 = mkF m 0 #[.val (.int x0)] [] := by first | (simp [entryFrame, mkF, argsToLocals, Value.category]; done) | rfl
theorem ef_prog_38_method_4_I (m : MethodId) (x0 : Int32) : entryFrame m #[(.int x0)] 1 = mkF m 0 #[.val (.int x0)] [] := by first | (simp [entryFrame, mkF, argsToLocals, Value.category]; done) | rfl
theorem ef_method_3_I (m : MethodId) (x0 : Int32) : entryFrame m #[(.int x0)] 1 = mkF m 0 #[.val (.int x0)] [] := by first | (simp [entryFrame, mkF, argsToLocals, Value.category]; done) | rfl
theorem ef_jdk_42_method_152_R (m : MethodId) (x0 : Addr) : entryFrame m #[(.ref x0)] 1 = mkF m 0 #[.val (.ref x0)] [] := by first | (simp [entryFrame, mkF, argsToLocals, Value.category]; done) | rfl
theorem ef_jdk_42_method_54_R (m : MethodId) (x0 : Addr) : entryFrame m #[(.ref x0)] 1 = mkF m 0 #[.val (.ref x0)] [] := by first | (simp [entryFrame, mkF, argsToLocals, Value.category]; done) | rfl
theorem ef_jdk_42_method_154_R (m : MethodId) (x0 : Addr) : entryFrame m #[(.ref x0)] 1 = mkF m 0 #[.val (.ref x0)] [] := by first | (simp [entryFrame, mkF, argsToLocals, Value.category]; done) | rfl
theorem ef_jdk_41_method_11_IIX (m : MethodId) (x0 : Int32) (x1 : Int32) (x2 : Value) (y2 : x2.isRef = true) : entryFrame m #[(.int x0), (.int x1), x2] 3 = mkF m 0 #[.val (.int x0), .val (.int x1), .val x2] [] := by rcases ref_cases y2 with rfl | ⟨y2', rfl⟩ <;> first | (simp [entryFrame, mkF, argsToLocals, Value.category]; done) | rfl
theorem ef_jdk_42_method_155_II (m : MethodId) (x0 : Int32) (x1 : Int32) : entryFrame m #[(.int x0), (.int x1)] 2 = mkF m 0 #[.val (.int x0), .val (.int x1)] [] := by first | (simp [entryFrame, mkF, argsToLocals, Value.category]; done) | rfl
theorem ef_jdk_43_method_2_RI (m : MethodId) (x0 : Addr) (x1 : Int32) : entryFrame m #[(.ref x0), (.int x1)] 2 = mkF m 0 #[.val (.ref x0), .val (.int x1)] [] := by first | (simp [entryFrame, mkF, argsToLocals, Value.category]; done) | rfl
theorem ef_jdk_42_method_56_RI (m : MethodId) (x0 : Addr) (x1 : Int32) : entryFrame m #[(.ref x0), (.int x1)] 2 = mkF m 0 #[.val (.ref x0), .val (.int x1)] [] := by first | (simp [entryFrame, mkF, argsToLocals, Value.category]; done) | rfl
theorem ef_jdk_52_method_6_R (m : MethodId) (x0 : Addr) : entryFrame m #[(.ref x0)] 1 = mkF m 0 #[.val (.ref x0)] [] := by first | (simp [entryFrame, mkF, argsToLocals, Value.category]; done) | rfl
theorem ef_jdk_52_method_91_IR (m : MethodId) (x0 : Int32) (x1 : Addr) : entryFrame m #[(.int x0), (.ref x1)] 2 = mkF m 0 #[.val (.int x0), .val (.ref x1)] [] := by first | (simp [entryFrame, mkF, argsToLocals, Value.category]; done) | rfl
theorem ef_jdk_52_method_5_RI (m : MethodId) (x0 : Addr) (x1 : Int32) : entryFrame m #[(.ref x0), (.int x1)] 2 = mkF m 0 #[.val (.ref x0), .val (.int x1)] [] := by first | (simp [entryFrame, mkF, argsToLocals, Value.category]; done) | rfl
theorem ef_jdk_52_method_83_RI (m : MethodId) (x0 : Addr) (x1 : Int32) : entryFrame m #[(.ref x0), (.int x1)] 2 = mkF m 0 #[.val (.ref x0), .val (.int x1)] [] := by first | (simp [entryFrame, mkF, argsToLocals, Value.category]; done) | rfl
theorem ef_jdk_52_method_21_RIRII (m : MethodId) (x0 : Addr) (x1 : Int32) (x2 : Addr) (x3 : Int32) (x4 : Int32) : entryFrame m #[(.ref x0), (.int x1), (.ref x2), (.int x3), (.int x4)] 7 = mkF m 0 #[.val (.ref x0), .val (.int x1), .val (.ref x2), .val (.int x3), .val (.int x4), .unset, .unset] [] := by first | (simp [entryFrame, mkF, argsToLocals, Value.category]; done) | rfl
theorem ef_jdk_52_method_4_RII (m : MethodId) (x0 : Addr) (x1 : Int32) (x2 : Int32) : entryFrame m #[(.ref x0), (.int x1), (.int x2)] 3 = mkF m 0 #[.val (.ref x0), .val (.int x1), .val (.int x2)] [] := by first | (simp [entryFrame, mkF, argsToLocals, Value.category]; done) | rfl
theorem ef_jdk_52_method_3_I (m : MethodId) (x0 : Int32) : entryFrame m #[(.int x0)] 1 = mkF m 0 #[.val (.int x0)] [] := by first | (simp [entryFrame, mkF, argsToLocals, Value.category]; done) | rfl
theorem ef_jdk_52_method_2_I (m : MethodId) (x0 : Int32) : entryFrame m #[(.int x0)] 1 = mkF m 0 #[.val (.int x0)] [] := by first | (simp [entryFrame, mkF, argsToLocals, Value.category]; done) | rfl
theorem ef_jdk_52_method_14_RII (m : MethodId) (x0 : Addr) (x1 : Int32) (x2 : Int32) : entryFrame m #[(.ref x0), (.int x1), (.int x2)] 5 = mkF m 0 #[.val (.ref x0), .val (.int x1), .val (.int x2), .unset, .unset] [] := by first | (simp [entryFrame, mkF, argsToLocals, Value.category]; done) | rfl
theorem ef_jdk_52_method_16_RII (m : MethodId) (x0 : Addr) (x1 : Int32) (x2 : Int32) : entryFrame m #[(.ref x0), (.int x1), (.int x2)] 6 = mkF m 0 #[.val (.ref x0), .val (.int x1), .val (.int x2), .unset, .unset, .unset] [] := by first | (simp [entryFrame, mkF, argsToLocals, Value.category]; done) | rfl
theorem ef_jdk_52_method_15_RI (m : MethodId) (x0 : Addr) (x1 : Int32) : entryFrame m #[(.ref x0), (.int x1)] 2 = mkF m 0 #[.val (.ref x0), .val (.int x1)] [] := by first | (simp [entryFrame, mkF, argsToLocals, Value.category]; done) | rfl
theorem ef_jdk_42_method_149_RRIIn (m : MethodId) (x0 : Addr) (x1 : Addr) (x2 : Int32) (x3 : Int32) : entryFrame m #[(.ref x0), (.ref x1), (.int x2), (.int x3), .null] 6 = mkF m 0 #[.val (.ref x0), .val (.ref x1), .val (.int x2), .val (.int x3), .val .null, .unset] [] := by first | (simp [entryFrame, mkF, argsToLocals, Value.category]; done) | rfl
theorem ef_jdk_42_method_3_RR (m : MethodId) (x0 : Addr) (x1 : Addr) : entryFrame m #[(.ref x0), (.ref x1)] 2 = mkF m 0 #[.val (.ref x0), .val (.ref x1)] [] := by first | (simp [entryFrame, mkF, argsToLocals, Value.category]; done) | rfl
theorem ef_jdk_43_method_49_RIRII (m : MethodId) (x0 : Addr) (x1 : Int32) (x2 : Addr) (x3 : Int32) (x4 : Int32) : entryFrame m #[(.ref x0), (.int x1), (.ref x2), (.int x3), (.int x4)] 6 = mkF m 0 #[.val (.ref x0), .val (.int x1), .val (.ref x2), .val (.int x3), .val (.int x4), .unset] [] := by first | (simp [entryFrame, mkF, argsToLocals, Value.category]; done) | rfl
theorem ef_jdk_41_method_13_IIIX (m : MethodId) (x0 : Int32) (x1 : Int32) (x2 : Int32) (x3 : Value) (y3 : x3.isRef = true) : entryFrame m #[(.int x0), (.int x1), (.int x2), x3] 4 = mkF m 0 #[.val (.int x0), .val (.int x1), .val (.int x2), .val x3] [] := by rcases ref_cases y3 with rfl | ⟨y3', rfl⟩ <;> first | (simp [entryFrame, mkF, argsToLocals, Value.category]; done) | rfl
theorem ef_jdk_42_method_157_III (m : MethodId) (x0 : Int32) (x1 : Int32) (x2 : Int32) : entryFrame m #[(.int x0), (.int x1), (.int x2)] 3 = mkF m 0 #[.val (.int x0), .val (.int x1), .val (.int x2)] [] := by first | (simp [entryFrame, mkF, argsToLocals, Value.category]; done) | rfl
theorem ef_jdk_52_method_94_IIR (m : MethodId) (x0 : Int32) (x1 : Int32) (x2 : Addr) : entryFrame m #[(.int x0), (.int x1), (.ref x2)] 3 = mkF m 0 #[.val (.int x0), .val (.int x1), .val (.ref x2)] [] := by first | (simp [entryFrame, mkF, argsToLocals, Value.category]; done) | rfl
theorem ef_jdk_52_method_26_RIIRI (m : MethodId) (x0 : Addr) (x1 : Int32) (x2 : Int32) (x3 : Addr) (x4 : Int32) : entryFrame m #[(.ref x0), (.int x1), (.int x2), (.ref x3), (.int x4)] 6 = mkF m 0 #[.val (.ref x0), .val (.int x1), .val (.int x2), .val (.ref x3), .val (.int x4), .unset] [] := by first | (simp [entryFrame, mkF, argsToLocals, Value.category]; done) | rfl
theorem ef_jdk_43_method_9_R (m : MethodId) (x0 : Addr) : entryFrame m #[(.ref x0)] 2 = mkF m 0 #[.val (.ref x0), .unset] [] := by first | (simp [entryFrame, mkF, argsToLocals, Value.category]; done) | rfl
theorem ef_jdk_42_method_129_R (m : MethodId) (x0 : Addr) : entryFrame m #[(.ref x0)] 1 = mkF m 0 #[.val (.ref x0)] [] := by first | (simp [entryFrame, mkF, argsToLocals, Value.category]; done) | rfl
theorem ef_jdk_52_method_13_R (m : MethodId) (x0 : Addr) : entryFrame m #[(.ref x0)] 2 = mkF m 0 #[.val (.ref x0), .unset] [] := by first | (simp [entryFrame, mkF, argsToLocals, Value.category]; done) | rfl
theorem ef_prog_38_method_3_R (m : MethodId) (x0 : Addr) : entryFrame m #[(.ref x0)] 4 = mkF m 0 #[.val (.ref x0), .unset, .unset, .unset] [] := by first | (simp [entryFrame, mkF, argsToLocals, Value.category]; done) | rfl
theorem ef_method_4_IIIII (m : MethodId) (x0 : Int32) (x1 : Int32) (x2 : Int32) (x3 : Int32) (x4 : Int32) : entryFrame m #[(.int x0), (.int x1), (.int x2), (.int x3), (.int x4)] 5 = mkF m 0 #[.val (.int x0), .val (.int x1), .val (.int x2), .val (.int x3), .val (.int x4)] [] := by first | (simp [entryFrame, mkF, argsToLocals, Value.category]; done) | rfl
theorem ef_code_IIIII (m : MethodId) (x0 : Int32) (x1 : Int32) (x2 : Int32) (x3 : Int32) (x4 : Int32) : entryFrame m #[(.int x0), (.int x1), (.int x2), (.int x3), (.int x4)] maxLocals = mkF m 0 #[.val (.int x0), .val (.int x1), .val (.int x2), .val (.int x3), .val (.int x4), .unset, .unset, .unset, .unset, .unset, .unset, .unset, .unset] [] := by first | (simp [entryFrame, mkF, argsToLocals, Value.category, maxLocals]; done) | rfl
def Qrm4 (Z : State) (xx : Int32) (h0 : Heap) (v : Option Value) (h : Heap) (L : List Loc) : Prop := v = some (.int (0 : Int32)) ∧ Fr Z.heap.size L ∧ h = h0
theorem rm4 (l : Launch) (Z : State) (a0 : Array Value) (hw : own_HW Z a0) (ws : List Jvm.Cond) (xx : Int32) (h0 : Heap) (Z0 : Ext Z.heap h0) (hc2 : xx < (65 : Int32)) :
    own_met l y_0 method_2_code 1 (some .boolean) ws ({ frames := 0, cells := 0, slots := 0, locals := 0 } : Room) Z #[(.int xx)] h0 (Qrm4 Z xx h0) := by
  refine own_start (plainFor_of_name pn_0) (fun m => ef_method_2_I m xx) ?_
  intro p e s m below meth c s₁ hx hby hml hown hnm X0 hZ e0 hret hlk
  have N0 := Fr.nil Z.heap.size
  obtain ⟨fs, hr, hrun, hended, hW, hsame⟩ := X0.leave (v := some (.int (0 : Int32))) (fun h => by rw [hret] at h; cases h) hlk
  refine ⟨_, _, ?_, hrun, hended, _, _, rfl, ?_, ⟨_, rfl⟩, hW, hsame.mono (by decide) (by decide)⟩
  · show own_S p e below s₁ (mkF m 0 #[iv xx] []) _
    refine own_iN X0 hx hby d18_0 ?_
    refine XS.bipush X0.here hx rfl (hb hby d18_1) ?_
    refine own_cy (pc := 3) X0 hx hby d18_3 (tlt hc2).1 16 ?_
    refine own_k X0 hx hby d18_16 ?_
    exact retN X0 hx (t := .boolean) hret (by simp) (hb hby d18_17) hr
  · show Qrm4 Z xx h0 _ s₁.heap _
    rw [e0]
    exact ⟨rfl, N0, rfl⟩
def Qrm5 (Z : State) (xx : Int32) (h0 : Heap) (v : Option Value) (h : Heap) (L : List Loc) : Prop := v = some (.int (0 : Int32)) ∧ Fr Z.heap.size L ∧ h = h0
theorem rm5 (l : Launch) (Z : State) (a0 : Array Value) (hw : own_HW Z a0) (ws : List Jvm.Cond) (xx : Int32) (h0 : Heap) (Z0 : Ext Z.heap h0) (hc3 : ¬ (xx < (65 : Int32))) (hc4 : (90 : Int32) < xx) :
    own_met l y_0 method_2_code 1 (some .boolean) ws ({ frames := 0, cells := 0, slots := 0, locals := 0 } : Room) Z #[(.int xx)] h0 (Qrm5 Z xx h0) := by
  refine own_start (plainFor_of_name pn_0) (fun m => ef_method_2_I m xx) ?_
  intro p e s m below meth c s₁ hx hby hml hown hnm X0 hZ e0 hret hlk
  have N0 := Fr.nil Z.heap.size
  obtain ⟨fs, hr, hrun, hended, hW, hsame⟩ := X0.leave (v := some (.int (0 : Int32))) (fun h => by rw [hret] at h; cases h) hlk
  refine ⟨_, _, ?_, hrun, hended, _, _, rfl, ?_, ⟨_, rfl⟩, hW, hsame.mono (by decide) (by decide)⟩
  · show own_S p e below s₁ (mkF m 0 #[iv xx] []) _
    refine own_iN X0 hx hby d18_0 ?_
    refine XS.bipush X0.here hx rfl (hb hby d18_1) ?_
    refine own_cn X0 hx hby d18_3 (flt hc3).1 ?_
    refine own_iN X0 hx hby d18_6 ?_
    refine XS.bipush X0.here hx rfl (hb hby d18_7) ?_
    refine own_cy (pc := 9) X0 hx hby d18_9 (tlt hc4).2.2.1 16 ?_
    refine own_k X0 hx hby d18_16 ?_
    exact retN X0 hx (t := .boolean) hret (by simp) (hb hby d18_17) hr
  · show Qrm5 Z xx h0 _ s₁.heap _
    rw [e0]
    exact ⟨rfl, N0, rfl⟩
def Qrm6 (Z : State) (xx : Int32) (h0 : Heap) (v : Option Value) (h : Heap) (L : List Loc) : Prop := v = some (.int (1 : Int32)) ∧ Fr Z.heap.size L ∧ h = h0
theorem rm6 (l : Launch) (Z : State) (a0 : Array Value) (hw : own_HW Z a0) (ws : List Jvm.Cond) (xx : Int32) (h0 : Heap) (Z0 : Ext Z.heap h0) (hc3 : ¬ (xx < (65 : Int32))) (hc5 : ¬ ((90 : Int32) < xx)) :
    own_met l y_0 method_2_code 1 (some .boolean) ws ({ frames := 0, cells := 0, slots := 0, locals := 0 } : Room) Z #[(.int xx)] h0 (Qrm6 Z xx h0) := by
  refine own_start (plainFor_of_name pn_0) (fun m => ef_method_2_I m xx) ?_
  intro p e s m below meth c s₁ hx hby hml hown hnm X0 hZ e0 hret hlk
  have N0 := Fr.nil Z.heap.size
  obtain ⟨fs, hr, hrun, hended, hW, hsame⟩ := X0.leave (v := some (.int (1 : Int32))) (fun h => by rw [hret] at h; cases h) hlk
  refine ⟨_, _, ?_, hrun, hended, _, _, rfl, ?_, ⟨_, rfl⟩, hW, hsame.mono (by decide) (by decide)⟩
  · show own_S p e below s₁ (mkF m 0 #[iv xx] []) _
    refine own_iN X0 hx hby d18_0 ?_
    refine XS.bipush X0.here hx rfl (hb hby d18_1) ?_
    refine own_cn X0 hx hby d18_3 (flt hc3).1 ?_
    refine own_iN X0 hx hby d18_6 ?_
    refine XS.bipush X0.here hx rfl (hb hby d18_7) ?_
    refine own_cn X0 hx hby d18_9 (flt hc5).2.2.1 ?_
    refine own_k X0 hx hby d18_12 ?_
    refine own_go (pc := 13) X0 hx hby d18_13 17 ?_
    exact retN X0 hx (t := .boolean) hret (by simp) (hb hby d18_17) hr
  · show Qrm6 Z xx h0 _ s₁.heap _
    rw [e0]
    exact ⟨rfl, N0, rfl⟩
theorem own_cap1 (l : Launch) (Z : State) (a0 : Array Value) (hw : own_HW Z a0) (ws : List Jvm.Cond) (xx : Int32) (h0 : Heap) (Z0 : Ext Z.heap h0) (hc6 : ¬ ((own_lo xx) = xx)) :
    own_met l y_0 method_2_code 1 (some .boolean) ws ({ frames := 0, cells := 0, slots := 0, locals := 0 } : Room) Z #[(.int xx)] h0 (fun v h L => v = some (.int (1 : Int32)) ∧ Fr Z.heap.size L ∧ h = h0) := by
  exact rm6 l Z a0 hw ws xx h0 Z0 (own_cap_a hc6) (own_cap_b hc6)
theorem own_cap0 (l : Launch) (Z : State) (a0 : Array Value) (hw : own_HW Z a0) (ws : List Jvm.Cond) (xx : Int32) (h0 : Heap) (Z0 : Ext Z.heap h0) (hc7 : (own_lo xx) = xx) :
    own_met l y_0 method_2_code 1 (some .boolean) ws ({ frames := 0, cells := 0, slots := 0, locals := 0 } : Room) Z #[(.int xx)] h0 (fun v h L => v = some (.int (0 : Int32)) ∧ Fr Z.heap.size L ∧ h = h0) := by
  by_cases h1 : xx < (65 : Int32)
  · exact rm4 l Z a0 hw ws xx h0 Z0 h1
  · exact rm5 l Z a0 hw ws xx h0 Z0 h1 (own_cap_c h1 hc7)
def Qrm10 (Z : State) (xx : Int32) (h0 : Heap) (v : Option Value) (h : Heap) (L : List Loc) : Prop := v = some (.int xx) ∧ Fr Z.heap.size L ∧ h = h0
theorem rm10 (l : Launch) (Z : State) (a0 : Array Value) (hw : own_HW Z a0) (ws : List Jvm.Cond) (xx : Int32) (h0 : Heap) (Z0 : Ext Z.heap h0) (hc2 : xx < (65 : Int32)) (hc8 : own_u16 xx) :
    own_met l y_1 prog_38_method_4_code 1 (some .char) ws ({ frames := 0, cells := 0, slots := 0, locals := 0 } : Room) Z #[(.int xx)] h0 (Qrm10 Z xx h0) := by
  refine own_start (plainFor_of_name pn_1) (fun m => ef_prog_38_method_4_I m xx) ?_
  intro p e s m below meth c s₁ hx hby hml hown hnm X0 hZ e0 hret hlk
  have N0 := Fr.nil Z.heap.size
  obtain ⟨fs, hr, hrun, hended, hW, hsame⟩ := X0.leave (v := some (.int xx)) (fun h => by rw [hret] at h; cases h) hlk
  refine ⟨_, _, ?_, hrun, hended, _, _, rfl, ?_, ⟨_, rfl⟩, hW, hsame.mono (by decide) (by decide)⟩
  · show own_S p e below s₁ (mkF m 0 #[iv xx] []) _
    refine own_iN X0 hx hby d16_0 ?_
    refine XS.bipush X0.here hx rfl (hb hby d16_1) ?_
    refine own_cy (pc := 3) X0 hx hby d16_3 (tlt hc2).1 23 ?_
    refine own_iN X0 hx hby d16_23 ?_
    rw [← (own_nc hc8)] at hr
    exact retN X0 hx (t := .char) hret (by simp) (hb hby d16_24) hr
  · show Qrm10 Z xx h0 _ s₁.heap _
    rw [e0]
    exact ⟨rfl, N0, rfl⟩
def Qrm11 (Z : State) (xx : Int32) (h0 : Heap) (v : Option Value) (h : Heap) (L : List Loc) : Prop := v = some (.int xx) ∧ Fr Z.heap.size L ∧ h = h0
theorem rm11 (l : Launch) (Z : State) (a0 : Array Value) (hw : own_HW Z a0) (ws : List Jvm.Cond) (xx : Int32) (h0 : Heap) (Z0 : Ext Z.heap h0) (hc3 : ¬ (xx < (65 : Int32))) (hc4 : (90 : Int32) < xx) (hc8 : own_u16 xx) :
    own_met l y_1 prog_38_method_4_code 1 (some .char) ws ({ frames := 0, cells := 0, slots := 0, locals := 0 } : Room) Z #[(.int xx)] h0 (Qrm11 Z xx h0) := by
  refine own_start (plainFor_of_name pn_1) (fun m => ef_prog_38_method_4_I m xx) ?_
  intro p e s m below meth c s₁ hx hby hml hown hnm X0 hZ e0 hret hlk
  have N0 := Fr.nil Z.heap.size
  obtain ⟨fs, hr, hrun, hended, hW, hsame⟩ := X0.leave (v := some (.int xx)) (fun h => by rw [hret] at h; cases h) hlk
  refine ⟨_, _, ?_, hrun, hended, _, _, rfl, ?_, ⟨_, rfl⟩, hW, hsame.mono (by decide) (by decide)⟩
  · show own_S p e below s₁ (mkF m 0 #[iv xx] []) _
    refine own_iN X0 hx hby d16_0 ?_
    refine XS.bipush X0.here hx rfl (hb hby d16_1) ?_
    refine own_cn X0 hx hby d16_3 (flt hc3).1 ?_
    refine own_iN X0 hx hby d16_6 ?_
    refine XS.bipush X0.here hx rfl (hb hby d16_7) ?_
    refine own_cy (pc := 9) X0 hx hby d16_9 (tlt hc4).2.2.1 23 ?_
    refine own_iN X0 hx hby d16_23 ?_
    rw [← (own_nc hc8)] at hr
    exact retN X0 hx (t := .char) hret (by simp) (hb hby d16_24) hr
  · show Qrm11 Z xx h0 _ s₁.heap _
    rw [e0]
    exact ⟨rfl, N0, rfl⟩
def Qrm12 (Z : State) (xx : Int32) (h0 : Heap) (v : Option Value) (h : Heap) (L : List Loc) : Prop := v = some (.int (nar .char (((xx - (65 : Int32)) + (97 : Int32)).toUInt32.toUInt16.toUInt32.toInt32))) ∧ Fr Z.heap.size L ∧ h = h0
theorem rm12 (l : Launch) (Z : State) (a0 : Array Value) (hw : own_HW Z a0) (ws : List Jvm.Cond) (xx : Int32) (h0 : Heap) (Z0 : Ext Z.heap h0) (hc3 : ¬ (xx < (65 : Int32))) (hc5 : ¬ ((90 : Int32) < xx)) :
    own_met l y_1 prog_38_method_4_code 1 (some .char) ws ({ frames := 0, cells := 0, slots := 0, locals := 0 } : Room) Z #[(.int xx)] h0 (Qrm12 Z xx h0) := by
  refine own_start (plainFor_of_name pn_1) (fun m => ef_prog_38_method_4_I m xx) ?_
  intro p e s m below meth c s₁ hx hby hml hown hnm X0 hZ e0 hret hlk
  have N0 := Fr.nil Z.heap.size
  obtain ⟨fs, hr, hrun, hended, hW, hsame⟩ := X0.leave (v := some (.int (nar .char (((xx - (65 : Int32)) + (97 : Int32)).toUInt32.toUInt16.toUInt32.toInt32)))) (fun h => by rw [hret] at h; cases h) hlk
  refine ⟨_, _, ?_, hrun, hended, _, _, rfl, ?_, ⟨_, rfl⟩, hW, hsame.mono (by decide) (by decide)⟩
  · show own_S p e below s₁ (mkF m 0 #[iv xx] []) _
    refine own_iN X0 hx hby d16_0 ?_
    refine XS.bipush X0.here hx rfl (hb hby d16_1) ?_
    refine own_cn X0 hx hby d16_3 (flt hc3).1 ?_
    refine own_iN X0 hx hby d16_6 ?_
    refine XS.bipush X0.here hx rfl (hb hby d16_7) ?_
    refine own_cn X0 hx hby d16_9 (flt hc5).2.2.1 ?_
    refine own_iN X0 hx hby d16_12 ?_
    refine XS.bipush X0.here hx rfl (hb hby d16_13) ?_
    refine XS.isub X0.here hx rfl (hb hby d16_15) rfl ?_
    refine XS.bipush X0.here hx rfl (hb hby d16_16) ?_
    refine XS.iadd X0.here hx rfl (hb hby d16_18) rfl ?_
    refine XS.i2c X0.here hx rfl (hb hby d16_19) rfl ?_
    refine own_go (pc := 20) X0 hx hby d16_20 24 ?_
    exact retN X0 hx (t := .char) hret (by simp) (hb hby d16_24) hr
  · show Qrm12 Z xx h0 _ s₁.heap _
    rw [e0]
    exact ⟨rfl, N0, rfl⟩
theorem own_lowJ (l : Launch) (Z : State) (a0 : Array Value) (hw : own_HW Z a0) (ws : List Jvm.Cond) (xx : Int32) (h0 : Heap) (Z0 : Ext Z.heap h0) (hc8 : own_u16 xx) :
    own_met l y_1 prog_38_method_4_code 1 (some .char) ws ({ frames := 0, cells := 0, slots := 0, locals := 0 } : Room) Z #[(.int xx)] h0 (fun v h L => v = some (.int (own_lo xx)) ∧ Fr Z.heap.size L ∧ h = h0) := by
  by_cases h1 : xx < (65 : Int32)
  · exact own_mono (rm10 l Z a0 hw ws xx h0 Z0 h1 hc8) fun v h L q => ⟨q.1.trans (by rw [own_lo_a h1]), q.2⟩
  · by_cases h2 : (90 : Int32) < xx
    · exact own_mono (rm11 l Z a0 hw ws xx h0 Z0 h1 h2 hc8) fun v h L q => ⟨q.1.trans (by rw [own_lo_b h2]), q.2⟩
    · exact own_mono (rm12 l Z a0 hw ws xx h0 Z0 h1 h2) fun v h L q => ⟨q.1.trans (by rw [own_lo_c hc8 h1 h2]), q.2⟩
def Qrm17 (Z : State) (xx : Int32) (h0 : Heap) (v : Option Value) (h : Heap) (L : List Loc) : Prop := v = some (.int xx) ∧ Fr Z.heap.size L ∧ h = h0
theorem rm17 (l : Launch) (Z : State) (a0 : Array Value) (hw : own_HW Z a0) (ws : List Jvm.Cond) (xx : Int32) (h0 : Heap) (Z0 : Ext Z.heap h0) (hc7 : (own_lo xx) = xx) (hc8 : own_u16 xx) :
    own_met l y_2 method_3_code 1 (some .char) ws ({ frames := 1, cells := 0, slots := 0, locals := 12 } : Room) Z #[(.int xx)] h0 (Qrm17 Z xx h0) := by
  refine own_start (plainFor_of_name pn_0) (fun m => ef_method_3_I m xx) ?_
  intro p e s m below meth c s₁ hx hby hml hown hnm X0 hZ e0 hret hlk
  have N0 := Fr.nil Z.heap.size
  obtain ⟨_, T18, Lc18, X18, hQ18, st18⟩ := own_static (y := y_0) X0 hx hZ hown (own_w hw 82 rfl) (own_w hw 83 rfl) (own_w hw 3 rfl) (own_w hw 84 rfl) (own_cap0 l Z a0 hw [] xx h0 Z0 hc7) e0 (g := (mkF m 1 #[iv xx] [(.int xx)])) (argsL := [(.int xx)]) (rest := []) (W := 0) (lenOf pd_0 rfl) (hb hby d17_1) hml
  obtain ⟨rfl, N18q, e18⟩ := hQ18
  have N18 := Fr.app N0 N18q
  obtain ⟨fs, hr, hrun, hended, hW, hsame⟩ := X18.leave (v := some (.int xx)) (fun h => by rw [hret] at h; cases h) hlk
  refine ⟨_, _, ?_, hrun, hended, _, _, rfl, ?_, ⟨_, rfl⟩, hW, hsame.mono (by decide) (by decide)⟩
  · show own_S p e below s₁ (mkF m 0 #[iv xx] []) _
    refine own_iN X0 hx hby d17_0 ?_
    refine st18 _ ?_
    refine own_iy (pc := 4) X18 hx hby d17_4 (teq (rfl : (0 : Int32) = (0 : Int32))).1 13 ?_
    refine own_iN X18 hx hby d17_13 ?_
    rw [← (own_nc hc8)] at hr
    exact retN X18 hx (t := .char) hret (by simp) (hb hby d17_14) hr
  · show Qrm17 Z xx h0 _ T18.heap _
    rw [e18]
    exact ⟨rfl, N18, rfl⟩
def Qrm19 (Z : State) (xx : Int32) (h0 : Heap) (v : Option Value) (h : Heap) (L : List Loc) : Prop := v = some (.int (nar .char ((xx ||| (32 : Int32)).toUInt32.toUInt16.toUInt32.toInt32))) ∧ Fr Z.heap.size L ∧ h = h0
theorem rm19 (l : Launch) (Z : State) (a0 : Array Value) (hw : own_HW Z a0) (ws : List Jvm.Cond) (xx : Int32) (h0 : Heap) (Z0 : Ext Z.heap h0) (hc6 : ¬ ((own_lo xx) = xx)) :
    own_met l y_2 method_3_code 1 (some .char) ws ({ frames := 1, cells := 0, slots := 0, locals := 12 } : Room) Z #[(.int xx)] h0 (Qrm19 Z xx h0) := by
  refine own_start (plainFor_of_name pn_0) (fun m => ef_method_3_I m xx) ?_
  intro p e s m below meth c s₁ hx hby hml hown hnm X0 hZ e0 hret hlk
  have N0 := Fr.nil Z.heap.size
  obtain ⟨_, T20, Lc20, X20, hQ20, st20⟩ := own_static (y := y_0) X0 hx hZ hown (own_w hw 82 rfl) (own_w hw 83 rfl) (own_w hw 3 rfl) (own_w hw 84 rfl) (own_cap1 l Z a0 hw [] xx h0 Z0 hc6) e0 (g := (mkF m 1 #[iv xx] [(.int xx)])) (argsL := [(.int xx)]) (rest := []) (W := 0) (lenOf pd_0 rfl) (hb hby d17_1) hml
  obtain ⟨rfl, N20q, e20⟩ := hQ20
  have N20 := Fr.app N0 N20q
  obtain ⟨fs, hr, hrun, hended, hW, hsame⟩ := X20.leave (v := some (.int (nar .char ((xx ||| (32 : Int32)).toUInt32.toUInt16.toUInt32.toInt32)))) (fun h => by rw [hret] at h; cases h) hlk
  refine ⟨_, _, ?_, hrun, hended, _, _, rfl, ?_, ⟨_, rfl⟩, hW, hsame.mono (by decide) (by decide)⟩
  · show own_S p e below s₁ (mkF m 0 #[iv xx] []) _
    refine own_iN X0 hx hby d17_0 ?_
    refine st20 _ ?_
    refine own_in X20 hx hby d17_4 (feq (by decide : ¬ ((1 : Int32) = (0 : Int32)))).1 ?_
    refine own_iN X20 hx hby d17_7 ?_
    refine XS.bipush X20.here hx rfl (hb hby d17_8) ?_
    refine XS.ior X20.here hx rfl (hb hby d17_10) rfl ?_
    refine XS.i2c X20.here hx rfl (hb hby d17_11) rfl ?_
    exact retN X20 hx (t := .char) hret (by simp) (hb hby d17_12) hr
  · show Qrm19 Z xx h0 _ T20.heap _
    rw [e20]
    exact ⟨rfl, N20, rfl⟩
theorem own_refJ (l : Launch) (Z : State) (a0 : Array Value) (hw : own_HW Z a0) (ws : List Jvm.Cond) (xx : Int32) (h0 : Heap) (Z0 : Ext Z.heap h0) (hc8 : own_u16 xx) :
    own_met l y_2 method_3_code 1 (some .char) ws ({ frames := 1, cells := 0, slots := 0, locals := 12 } : Room) Z #[(.int xx)] h0 (fun v h L => v = some (.int (own_lo xx)) ∧ Fr Z.heap.size L ∧ h = h0) := by
  by_cases h1 : (own_lo xx) = xx
  · exact own_mono (rm17 l Z a0 hw ws xx h0 Z0 h1 hc8) fun v h L q => ⟨q.1.trans (by rw [h1]), q.2⟩
  · exact own_mono (rm19 l Z a0 hw ws xx h0 Z0 h1) fun v h L q => ⟨q.1.trans (by rw [own_lo_d hc8 h1]), q.2⟩
def Qrm24 (Z : State) (w_CS : Int32) (bb : Addr) (h0 : Heap) (v : Option Value) (h : Heap) (L : List Loc) : Prop := v = some (.int (0 : Int32)) ∧ Fr Z.heap.size L ∧ h = h0
theorem rm24 (l : Launch) (Z : State) (a0 : Array Value) (hw : own_HW Z a0) (ws : List Jvm.Cond) (w_CS : Int32) (bb : Addr) (h0 : Heap) (Z0 : Ext Z.heap h0) (S_w_CS : own_w_CS Z w_CS) (F_bb_coder : Fld Z h0 bb "java/lang/String" "coder" "B" (.int (0 : Int32))) (hc1 : ¬ (w_CS = (0 : Int32))) :
    own_met l y_3 jdk_42_method_152_code 1 (some .byte) ws ({ frames := 0, cells := 0, slots := 0, locals := 0 } : Room) Z #[(.ref bb)] h0 (Qrm24 Z w_CS bb h0) := by
  refine own_start (plainFor_of_name pn_2) (fun m => ef_jdk_42_method_152_R m bb) ?_
  intro p e s m below meth c s₁ hx hby hml hown hnm X0 hZ e0 hret hlk
  have N0 := Fr.nil Z.heap.size
  obtain ⟨T25, X25, e25, st25⟩ := getS2 X0 hx hZ hown (host := "") (Or.inl (own_w hw 41 rfl)) Via.refl e0 (S_w_CS.ext Z0) (g := (mkF m 0 #[rv bb] [])) rfl (hb hby d7_0)
  obtain ⟨T26, X26, e26, st26⟩ := getF X25 hx hZ hown (host := "") (Or.inl (own_w hw 26 rfl)) Via.refl e25 F_bb_coder (g := (mkF m 7 #[rv bb] [(.ref bb)])) rfl rfl (hb hby d7_7)
  obtain ⟨fs, hr, hrun, hended, hW, hsame⟩ := X26.leave (v := some (.int (0 : Int32))) (fun h => by rw [hret] at h; cases h) hlk
  refine ⟨_, _, ?_, hrun, hended, _, _, rfl, ?_, ⟨_, rfl⟩, hW, hsame.mono (by decide) (by decide)⟩
  · show own_S p e below s₁ (mkF m 0 #[rv bb] []) _
    refine st25 _ ?_
    refine own_in X25 hx hby d7_3 (feq hc1).1 ?_
    refine own_aN X25 hx hby d7_6 ?_
    refine st26 _ ?_
    refine own_go (pc := 10) X26 hx hby d7_10 14 ?_
    exact retN X26 hx (t := .byte) hret (by simp) (hb hby d7_14) hr
  · show Qrm24 Z w_CS bb h0 _ T26.heap _
    rw [e26]
    exact ⟨rfl, N0, rfl⟩
def Qrm31 (Z : State) (w_CS : Int32) (bb : Addr) (h0 : Heap) (v : Option Value) (h : Heap) (L : List Loc) : Prop := v = some (.int (1 : Int32)) ∧ Fr Z.heap.size L ∧ h = h0
theorem rm31 (l : Launch) (Z : State) (a0 : Array Value) (hw : own_HW Z a0) (ws : List Jvm.Cond) (w_CS : Int32) (bb : Addr) (h0 : Heap) (Z0 : Ext Z.heap h0) (S_w_CS : own_w_CS Z w_CS) (F_bb_coder : Fld Z h0 bb "java/lang/String" "coder" "B" (.int (1 : Int32))) (hc1 : ¬ (w_CS = (0 : Int32))) :
    own_met l y_3 jdk_42_method_152_code 1 (some .byte) ws ({ frames := 0, cells := 0, slots := 0, locals := 0 } : Room) Z #[(.ref bb)] h0 (Qrm31 Z w_CS bb h0) := by
  refine own_start (plainFor_of_name pn_2) (fun m => ef_jdk_42_method_152_R m bb) ?_
  intro p e s m below meth c s₁ hx hby hml hown hnm X0 hZ e0 hret hlk
  have N0 := Fr.nil Z.heap.size
  obtain ⟨T32, X32, e32, st32⟩ := getS2 X0 hx hZ hown (host := "") (Or.inl (own_w hw 41 rfl)) Via.refl e0 (S_w_CS.ext Z0) (g := (mkF m 0 #[rv bb] [])) rfl (hb hby d7_0)
  obtain ⟨T33, X33, e33, st33⟩ := getF X32 hx hZ hown (host := "") (Or.inl (own_w hw 26 rfl)) Via.refl e32 F_bb_coder (g := (mkF m 7 #[rv bb] [(.ref bb)])) rfl rfl (hb hby d7_7)
  obtain ⟨fs, hr, hrun, hended, hW, hsame⟩ := X33.leave (v := some (.int (1 : Int32))) (fun h => by rw [hret] at h; cases h) hlk
  refine ⟨_, _, ?_, hrun, hended, _, _, rfl, ?_, ⟨_, rfl⟩, hW, hsame.mono (by decide) (by decide)⟩
  · show own_S p e below s₁ (mkF m 0 #[rv bb] []) _
    refine st32 _ ?_
    refine own_in X32 hx hby d7_3 (feq hc1).1 ?_
    refine own_aN X32 hx hby d7_6 ?_
    refine st33 _ ?_
    refine own_go (pc := 10) X33 hx hby d7_10 14 ?_
    exact retN X33 hx (t := .byte) hret (by simp) (hb hby d7_14) hr
  · show Qrm31 Z w_CS bb h0 _ T33.heap _
    rw [e33]
    exact ⟨rfl, N0, rfl⟩
def Qrm35 (Z : State) (w_CS : Int32) (bb ba : Addr) (vs : List Value) (nn : Int32) (kk : ClassId) (h0 : Heap) (v : Option Value) (h : Heap) (L : List Loc) : Prop := v = some (.int nn) ∧ Fr Z.heap.size L ∧ h = h0
theorem rm35 (l : Launch) (Z : State) (a0 : Array Value) (hw : own_HW Z a0) (ws : List Jvm.Cond) (w_CS : Int32) (bb ba : Addr) (vs : List Value) (nn : Int32) (kk : ClassId) (h0 : Heap) (Z0 : Ext Z.heap h0) (S_w_CS : own_w_CS Z w_CS) (E_bb : Exa Z h0 bb "java/lang/String") (F_bb_coder : Fld Z h0 bb "java/lang/String" "coder" "B" (.int (0 : Int32))) (F_bb_value : Fld Z h0 bb "java/lang/String" "value" "[B" (.ref ba)) (V_ba : Arv Z h0 ba kk .byte nn vs (.int (0 : Int32))) (hc1 : ¬ (w_CS = (0 : Int32))) :
    own_met l y_4 jdk_42_method_54_code 1 (some .int) ws ({ frames := 1, cells := 0, slots := 0, locals := 13 } : Room) Z #[(.ref bb)] h0 (Qrm35 Z w_CS bb ba vs nn kk h0) := by
  refine own_start (plainFor_of_name pn_2) (fun m => ef_jdk_42_method_54_R m bb) ?_
  intro p e s m below meth c s₁ hx hby hml hown hnm X0 hZ e0 hret hlk
  have N0 := Fr.nil Z.heap.size
  obtain ⟨T36, X36, e36, st36⟩ := getF X0 hx hZ hown (host := "") (Or.inl (own_w hw 25 rfl)) Via.refl e0 F_bb_value (g := (mkF m 1 #[rv bb] [(.ref bb)])) rfl rfl (hb hby d6_1)
  obtain ⟨cl37, Ar37, q37, S37, Nn37, H37, G37⟩ := id V_ba
  obtain ⟨_, T38, Lc38, X38, hQ38, st38⟩ := own_virtual (y := y_3) X36 hx hZ hown (own_w hw 36 rfl) (own_w hw 37 rfl) (own_w hw 39 rfl) (own_w hw 38 rfl) (own_w hw 7 rfl) (own_w hw 40 rfl) (rm24 l Z a0 hw [] w_CS bb h0 Z0 S_w_CS F_bb_coder hc1) e36 E_bb (g := (mkF m 6 #[rv bb] [(.ref bb), (.int nn)])) (argsL := []) (rest := [(.int nn)]) (W := 1) (lenOf pd_1 rfl) (hb hby d6_6) hml
  obtain ⟨rfl, N38q, e38⟩ := hQ38
  have N38 := Fr.app N0 N38q
  obtain ⟨fs, hr, hrun, hended, hW, hsame⟩ := X38.leave (v := some (.int nn)) (fun h => by rw [hret] at h; cases h) hlk
  refine ⟨_, _, ?_, hrun, hended, _, _, rfl, ?_, ⟨_, rfl⟩, hW, hsame.mono (by decide) (by decide)⟩
  · show own_S p e below s₁ (mkF m 0 #[rv bb] []) _
    refine own_aN X0 hx hby d6_0 ?_
    refine st36 _ ?_
    refine X36.arraylength hx (by rw [e36]; exact Ar37.1) (State.isArrayOf_alike hZ.alike Ar37.2.1) (g := (mkF m 4 #[rv bb] [(.ref ba)])) rfl rfl (hb hby d6_4) _ ?_
    rw [len_of S37 Nn37]
    refine own_aN X36 hx hby d6_5 ?_
    refine st38 _ ?_
    refine XS.ishr X38.here hx rfl (hb hby d6_9) rfl ?_
    show own_S p e below T38 (mkF m 10 #[rv bb] [(.int (nn >>> ((0 : Int32) &&& 31)))]) _
    rw [(own_sh0 nn)]
    exact retI X38 hx hret (hb hby d6_10) hr
  · show Qrm35 Z w_CS bb ba vs nn kk h0 _ T38.heap _
    rw [e38]
    exact ⟨rfl, N38, rfl⟩
def Qrm39 (Z : State) (w_CS : Int32) (bb ba : Addr) (vs : List Value) (nn mm : Int32) (kk : ClassId) (h0 : Heap) (v : Option Value) (h : Heap) (L : List Loc) : Prop := v = some (.int nn) ∧ Fr Z.heap.size L ∧ h = h0
theorem rm39 (l : Launch) (Z : State) (a0 : Array Value) (hw : own_HW Z a0) (ws : List Jvm.Cond) (w_CS : Int32) (bb ba : Addr) (vs : List Value) (nn mm : Int32) (kk : ClassId) (h0 : Heap) (Z0 : Ext Z.heap h0) (S_w_CS : own_w_CS Z w_CS) (E_bb : Exa Z h0 bb "java/lang/String") (F_bb_coder : Fld Z h0 bb "java/lang/String" "coder" "B" (.int (1 : Int32))) (F_bb_value : Fld Z h0 bb "java/lang/String" "value" "[B" (.ref ba)) (V_ba : Arv Z h0 ba kk .byte mm vs (.int (0 : Int32))) (hc1 : ¬ (w_CS = (0 : Int32))) (hc10 : (mm >>> ((1 : Int32) &&& 31)) = nn) :
    own_met l y_4 jdk_42_method_54_code 1 (some .int) ws ({ frames := 1, cells := 0, slots := 0, locals := 13 } : Room) Z #[(.ref bb)] h0 (Qrm39 Z w_CS bb ba vs nn mm kk h0) := by
  refine own_start (plainFor_of_name pn_2) (fun m => ef_jdk_42_method_54_R m bb) ?_
  intro p e s m below meth c s₁ hx hby hml hown hnm X0 hZ e0 hret hlk
  have N0 := Fr.nil Z.heap.size
  obtain ⟨T40, X40, e40, st40⟩ := getF X0 hx hZ hown (host := "") (Or.inl (own_w hw 25 rfl)) Via.refl e0 F_bb_value (g := (mkF m 1 #[rv bb] [(.ref bb)])) rfl rfl (hb hby d6_1)
  obtain ⟨cl41, Ar41, q41, S41, Nn41, H41, G41⟩ := id V_ba
  obtain ⟨_, T42, Lc42, X42, hQ42, st42⟩ := own_virtual (y := y_3) X40 hx hZ hown (own_w hw 36 rfl) (own_w hw 37 rfl) (own_w hw 39 rfl) (own_w hw 38 rfl) (own_w hw 7 rfl) (own_w hw 40 rfl) (rm31 l Z a0 hw [] w_CS bb h0 Z0 S_w_CS F_bb_coder hc1) e40 E_bb (g := (mkF m 6 #[rv bb] [(.ref bb), (.int mm)])) (argsL := []) (rest := [(.int mm)]) (W := 1) (lenOf pd_1 rfl) (hb hby d6_6) hml
  obtain ⟨rfl, N42q, e42⟩ := hQ42
  have N42 := Fr.app N0 N42q
  obtain ⟨fs, hr, hrun, hended, hW, hsame⟩ := X42.leave (v := some (.int nn)) (fun h => by rw [hret] at h; cases h) hlk
  refine ⟨_, _, ?_, hrun, hended, _, _, rfl, ?_, ⟨_, rfl⟩, hW, hsame.mono (by decide) (by decide)⟩
  · show own_S p e below s₁ (mkF m 0 #[rv bb] []) _
    refine own_aN X0 hx hby d6_0 ?_
    refine st40 _ ?_
    refine X40.arraylength hx (by rw [e40]; exact Ar41.1) (State.isArrayOf_alike hZ.alike Ar41.2.1) (g := (mkF m 4 #[rv bb] [(.ref ba)])) rfl rfl (hb hby d6_4) _ ?_
    rw [len_of S41 Nn41]
    refine own_aN X40 hx hby d6_5 ?_
    refine st42 _ ?_
    refine XS.ishr X42.here hx rfl (hb hby d6_9) rfl ?_
    show own_S p e below T42 (mkF m 10 #[rv bb] [(.int (mm >>> ((1 : Int32) &&& 31)))]) _
    rw [hc10]
    exact retI X42 hx hret (hb hby d6_10) hr
  · show Qrm39 Z w_CS bb ba vs nn mm kk h0 _ T42.heap _
    rw [e42]
    exact ⟨rfl, N42, rfl⟩
theorem own_lenG (l : Launch) (Z : State) (a0 : Array Value) (hw : own_HW Z a0) (ws : List Jvm.Cond) (w_CS : Int32) (bb : Addr) (cs : List Int32) (h0 : Heap) (Z0 : Ext Z.heap h0) (S_w_CS : own_w_CS Z w_CS) (E_bb : Exa Z h0 bb "java/lang/String") (T_bb : own_rep Z h0 bb cs) (hc1 : ¬ (w_CS = (0 : Int32))) (hc9 : own_sz cs) :
    own_met l y_4 jdk_42_method_54_code 1 (some .int) ws ({ frames := 1, cells := 0, slots := 0, locals := 13 } : Room) Z #[(.ref bb)] h0 (own_qp Z (some (.int (Int32.ofNat cs.length))) h0) := by
  obtain ⟨ba, kk, hV, ⟨hC, hA, h8⟩ | ⟨hC, hA⟩⟩ := T_bb
  · exact rm35 l Z a0 hw ws w_CS bb ba (own_lat cs) (Int32.ofNat cs.length) kk h0 Z0 S_w_CS E_bb hC hV hA hc1
  · exact rm39 l Z a0 hw ws w_CS bb ba (own_wid cs) (Int32.ofNat cs.length) (Int32.ofNat (2 * cs.length)) kk h0 Z0 S_w_CS E_bb hC hV hA hc1 (own_g_half hc9)
def Qrm44 (Z : State) (w_CS : Int32) (bb : Addr) (h0 : Heap) (v : Option Value) (h : Heap) (L : List Loc) : Prop := v = some (.int (1 : Int32)) ∧ Fr Z.heap.size L ∧ h = h0
theorem rm44 (l : Launch) (Z : State) (a0 : Array Value) (hw : own_HW Z a0) (ws : List Jvm.Cond) (w_CS : Int32) (bb : Addr) (h0 : Heap) (Z0 : Ext Z.heap h0) (S_w_CS : own_w_CS Z w_CS) (F_bb_coder : Fld Z h0 bb "java/lang/String" "coder" "B" (.int (0 : Int32))) (hc1 : ¬ (w_CS = (0 : Int32))) :
    own_met l y_5 jdk_42_method_154_code 1 (some .boolean) ws ({ frames := 0, cells := 0, slots := 0, locals := 0 } : Room) Z #[(.ref bb)] h0 (Qrm44 Z w_CS bb h0) := by
  refine own_start (plainFor_of_name pn_2) (fun m => ef_jdk_42_method_154_R m bb) ?_
  intro p e s m below meth c s₁ hx hby hml hown hnm X0 hZ e0 hret hlk
  have N0 := Fr.nil Z.heap.size
  obtain ⟨T45, X45, e45, st45⟩ := getS2 X0 hx hZ hown (host := "") (Or.inl (own_w hw 41 rfl)) Via.refl e0 (S_w_CS.ext Z0) (g := (mkF m 0 #[rv bb] [])) rfl (hb hby d12_0)
  obtain ⟨T46, X46, e46, st46⟩ := getF X45 hx hZ hown (host := "") (Or.inl (own_w hw 26 rfl)) Via.refl e45 F_bb_coder (g := (mkF m 7 #[rv bb] [(.ref bb)])) rfl rfl (hb hby d12_7)
  obtain ⟨fs, hr, hrun, hended, hW, hsame⟩ := X46.leave (v := some (.int (1 : Int32))) (fun h => by rw [hret] at h; cases h) hlk
  refine ⟨_, _, ?_, hrun, hended, _, _, rfl, ?_, ⟨_, rfl⟩, hW, hsame.mono (by decide) (by decide)⟩
  · show own_S p e below s₁ (mkF m 0 #[rv bb] []) _
    refine st45 _ ?_
    refine own_in X45 hx hby d12_3 (feq hc1).1 ?_
    refine own_aN X45 hx hby d12_6 ?_
    refine st46 _ ?_
    refine own_in X46 hx hby d12_10 (teq (rfl : (0 : Int32) = (0 : Int32))).2 ?_
    refine own_k X46 hx hby d12_13 ?_
    refine own_go (pc := 14) X46 hx hby d12_14 18 ?_
    exact retN X46 hx (t := .boolean) hret (by simp) (hb hby d12_18) hr
  · show Qrm44 Z w_CS bb h0 _ T46.heap _
    rw [e46]
    exact ⟨rfl, N0, rfl⟩
def Qrm53 (Z : State) (w_SF : Value) (nn ii : Int32) (h0 : Heap) (v : Option Value) (h : Heap) (L : List Loc) : Prop := v = some (.int ii) ∧ Fr Z.heap.size L ∧ h = h0
theorem rm53 (l : Launch) (Z : State) (a0 : Array Value) (hw : own_HW Z a0) (ws : List Jvm.Cond) (w_SF : Value) (nn ii : Int32) (h0 : Heap) (Z0 : Ext Z.heap h0) (R_w_SF : w_SF.isRef = true) (hc12 : ¬ (ii < (0 : Int32))) (hc13 : ii < nn) :
    own_met l y_6 jdk_41_method_11_code 3 (some .int) ws ({ frames := 0, cells := 0, slots := 0, locals := 0 } : Room) Z #[(.int ii), (.int nn), w_SF] h0 (Qrm53 Z w_SF nn ii h0) := by
  refine own_start (plainFor_of_name pn_3) (fun m => ef_jdk_41_method_11_IIX m ii nn w_SF R_w_SF) ?_
  intro p e s m below meth c s₁ hx hby hml hown hnm X0 hZ e0 hret hlk
  have N0 := Fr.nil Z.heap.size
  obtain ⟨fs, hr, hrun, hended, hW, hsame⟩ := X0.leave (v := some (.int ii)) (fun h => by rw [hret] at h; cases h) hlk
  refine ⟨_, _, ?_, hrun, hended, _, _, rfl, ?_, ⟨_, rfl⟩, hW, hsame.mono (by decide) (by decide)⟩
  · show own_S p e below s₁ (mkF m 0 #[iv ii, iv nn, .val w_SF] []) _
    refine own_iN X0 hx hby d15_0 ?_
    refine own_in X0 hx hby d15_1 (flt hc12).1 ?_
    refine own_iN X0 hx hby d15_4 ?_
    refine own_iN X0 hx hby d15_5 ?_
    refine own_cy (pc := 6) X0 hx hby d15_6 (tlt hc13).1 16 ?_
    refine own_iN X0 hx hby d15_16 ?_
    exact retI X0 hx hret (hb hby d15_17) hr
  · show Qrm53 Z w_SF nn ii h0 _ s₁.heap _
    rw [e0]
    exact ⟨rfl, N0, rfl⟩
def Qrm51 (Z : State) (w_SF : Value) (nn ii : Int32) (h0 : Heap) (v : Option Value) (h : Heap) (L : List Loc) : Prop := v = none ∧ Fr Z.heap.size L ∧ h = h0
theorem rm51 (l : Launch) (Z : State) (a0 : Array Value) (hw : own_HW Z a0) (ws : List Jvm.Cond) (w_SF : Value) (nn ii : Int32) (h0 : Heap) (Z0 : Ext Z.heap h0) (S_w_SF : own_w_SF Z w_SF) (R_w_SF : w_SF.isRef = true) (hc12 : ¬ (ii < (0 : Int32))) (hc13 : ii < nn) :
    own_met l y_7 jdk_42_method_155_code 2 none ws ({ frames := 1, cells := 0, slots := 0, locals := 14 } : Room) Z #[(.int ii), (.int nn)] h0 (Qrm51 Z w_SF nn ii h0) := by
  refine own_start (plainFor_of_name pn_2) (fun m => ef_jdk_42_method_155_II m ii nn) ?_
  intro p e s m below meth c s₁ hx hby hml hown hnm X0 hZ e0 hret hlk
  have N0 := Fr.nil Z.heap.size
  obtain ⟨T52, X52, e52, st52⟩ := getS2 X0 hx hZ hown (host := "") (Or.inl (own_w hw 70 rfl)) Via.refl e0 (S_w_SF.ext Z0) (g := (mkF m 2 #[iv ii, iv nn] [(.int nn), (.int ii)])) rfl (hb hby d14_2)
  obtain ⟨_, T54, Lc54, X54, hQ54, st54⟩ := own_static (y := y_6) X52 hx hZ hown (own_w hw 72 rfl) (own_w hw 73 rfl) (own_w hw 71 rfl) (own_w hw 74 rfl) (rm53 l Z a0 hw [] w_SF nn ii h0 Z0 R_w_SF hc12 hc13) e52 (g := (mkF m 5 #[iv ii, iv nn] [w_SF, (.int nn), (.int ii)])) (argsL := [(.int ii), (.int nn), w_SF]) (rest := []) (W := 0) (lenOf pd_3 rfl) (hb hby d14_5) hml
  obtain ⟨rfl, N54q, e54⟩ := hQ54
  have N54 := Fr.app N0 N54q
  obtain ⟨fs, hr, hrun, hended, hW, hsame⟩ := X54.leave (v := none) (fun _ => rfl) hlk
  refine ⟨_, _, ?_, hrun, hended, _, _, rfl, ?_, ⟨_, rfl⟩, hW, hsame.mono (by decide) (by decide)⟩
  · show own_S p e below s₁ (mkF m 0 #[iv ii, iv nn] []) _
    refine own_iN X0 hx hby d14_0 ?_
    refine own_iN X0 hx hby d14_1 ?_
    refine st52 _ ?_
    refine st54 _ ?_
    refine XS.pop X54.here hx rfl (hb hby d14_8) rfl rfl ?_
    exact X54.returnOut hx hret (hb hby d14_9) hr
  · show Qrm51 Z w_SF nn ii h0 _ T54.heap _
    rw [e54]
    exact ⟨rfl, N54, rfl⟩
def Qrm49 (Z : State) (w_SF : Value) (cc : Int32) (ba : Addr) (vs : List Value) (nn ii : Int32) (kk : ClassId) (h0 : Heap) (v : Option Value) (h : Heap) (L : List Loc) : Prop := v = some (.int cc) ∧ Fr Z.heap.size L ∧ h = h0
theorem rm49 (l : Launch) (Z : State) (a0 : Array Value) (hw : own_HW Z a0) (ws : List Jvm.Cond) (w_SF : Value) (cc : Int32) (ba : Addr) (vs : List Value) (nn ii : Int32) (kk : ClassId) (h0 : Heap) (Z0 : Ext Z.heap h0) (S_w_SF : own_w_SF Z w_SF) (R_w_SF : w_SF.isRef = true) (V_ba : Arv Z h0 ba kk .byte nn vs (.int (0 : Int32))) (hc12 : ¬ (ii < (0 : Int32))) (hc13 : ii < nn) (hc14 : own_ib ii nn) (hc15 : own_get vs ii (.int (0 : Int32)) (.int (cc.toInt8.toInt32))) (hc16 : own_l8 cc) (hc17 : own_u16 cc) :
    own_met l y_8 jdk_43_method_2_code 2 (some .char) ws ({ frames := 2, cells := 0, slots := 0, locals := 27 } : Room) Z #[(.ref ba), (.int ii)] h0 (Qrm49 Z w_SF cc ba vs nn ii kk h0) := by
  refine own_start (plainFor_of_name pn_4) (fun m => ef_jdk_43_method_2_RI m ba ii) ?_
  intro p e s m below meth c s₁ hx hby hml hown hnm X0 hZ e0 hret hlk
  have N0 := Fr.nil Z.heap.size
  obtain ⟨cl50, Ar50, q50, S50, Nn50, H50, G50⟩ := id V_ba
  obtain ⟨_, T55, Lc55, X55, hQ55, st55⟩ := own_static (y := y_7) X0 hx hZ hown (own_w hw 67 rfl) (own_w hw 68 rfl) (own_w hw 7 rfl) (own_w hw 69 rfl) (rm51 l Z a0 hw [] w_SF nn ii h0 Z0 S_w_SF R_w_SF hc12 hc13) e0 (g := (mkF m 3 #[rv ba, iv ii] [(.int nn), (.int ii)])) (argsL := [(.int ii), (.int nn)]) (rest := []) (W := 0) (lenOf pd_4 rfl) (hb hby d13_3) hml
  obtain ⟨rfl, N55q, e55⟩ := hQ55
  have N55 := Fr.app N0 N55q
  obtain ⟨cl56, Ar56, q56, S56, Nn56, H56, G56⟩ := id V_ba
  have hin56 : ¬ (ii < 0 ∨ cl56.slots.size ≤ (ii).toNatClampNeg) := inb_of S56 hc14
  have hat56 : cl56.slots[(ii).toNatClampNeg]? = some (.int (cc.toInt8.toInt32)) := Has.at H56 hin56 hc15
  obtain ⟨fs, hr, hrun, hended, hW, hsame⟩ := X55.leave (v := some (.int cc)) (fun h => by rw [hret] at h; cases h) hlk
  refine ⟨_, _, ?_, hrun, hended, _, _, rfl, ?_, ⟨_, rfl⟩, hW, hsame.mono (by decide) (by decide)⟩
  · show own_S p e below s₁ (mkF m 0 #[rv ba, iv ii] []) _
    refine own_iN X0 hx hby d13_0 ?_
    refine own_aN X0 hx hby d13_1 ?_
    refine X0.arraylength hx (by rw [e0]; exact Ar50.1) (State.isArrayOf_alike hZ.alike Ar50.2.1) (g := (mkF m 2 #[rv ba, iv ii] [(.ref ba), (.int ii)])) rfl rfl (hb hby d13_2) _ ?_
    rw [len_of S50 Nn50]
    refine st55 _ ?_
    refine own_aN X55 hx hby d13_6 ?_
    refine own_iN X55 hx hby d13_7 ?_
    refine X55.baloadBytes hx (j := ii) (v := (.int (cc.toInt8.toInt32))) (by rw [e55]; exact Ar56.1) (State.isArrayOf_alike hZ.alike Ar56.2.1) Ar56.2.2 hin56 hat56 (g := (mkF m 8 #[rv ba, iv ii] [(.int ii), (.ref ba)])) rfl rfl (hb hby d13_8) _ ?_
    refine XS.sipush X55.here hx rfl (hb hby d13_9) ?_
    refine XS.iand X55.here hx rfl (hb hby d13_12) rfl ?_
    show own_S p e below T55 (mkF m 13 #[rv ba, iv ii] [(.int ((cc.toInt8.toInt32) &&& (255 : Int32)))]) _
    rw [(own_b255 hc16)]
    refine XS.i2c X55.here hx rfl (hb hby d13_13) rfl ?_
    show own_S p e below T55 (mkF m 14 #[rv ba, iv ii] [(.int (cc.toUInt32.toUInt16.toUInt32.toInt32))]) _
    rw [(own_i2c hc17)]
    rw [← (own_nc hc17)] at hr
    exact retN X55 hx (t := .char) hret (by simp) (hb hby d13_14) hr
  · show Qrm49 Z w_SF cc ba vs nn ii kk h0 _ T55.heap _
    rw [e55]
    exact ⟨rfl, N55, rfl⟩
def Qrm59 (Z : State) (w_CS : Int32) (bb : Addr) (h0 : Heap) (v : Option Value) (h : Heap) (L : List Loc) : Prop := v = some (.int (0 : Int32)) ∧ Fr Z.heap.size L ∧ h = h0
theorem rm59 (l : Launch) (Z : State) (a0 : Array Value) (hw : own_HW Z a0) (ws : List Jvm.Cond) (w_CS : Int32) (bb : Addr) (h0 : Heap) (Z0 : Ext Z.heap h0) (S_w_CS : own_w_CS Z w_CS) (F_bb_coder : Fld Z h0 bb "java/lang/String" "coder" "B" (.int (1 : Int32))) (hc1 : ¬ (w_CS = (0 : Int32))) :
    own_met l y_5 jdk_42_method_154_code 1 (some .boolean) ws ({ frames := 0, cells := 0, slots := 0, locals := 0 } : Room) Z #[(.ref bb)] h0 (Qrm59 Z w_CS bb h0) := by
  refine own_start (plainFor_of_name pn_2) (fun m => ef_jdk_42_method_154_R m bb) ?_
  intro p e s m below meth c s₁ hx hby hml hown hnm X0 hZ e0 hret hlk
  have N0 := Fr.nil Z.heap.size
  obtain ⟨T60, X60, e60, st60⟩ := getS2 X0 hx hZ hown (host := "") (Or.inl (own_w hw 41 rfl)) Via.refl e0 (S_w_CS.ext Z0) (g := (mkF m 0 #[rv bb] [])) rfl (hb hby d12_0)
  obtain ⟨T61, X61, e61, st61⟩ := getF X60 hx hZ hown (host := "") (Or.inl (own_w hw 26 rfl)) Via.refl e60 F_bb_coder (g := (mkF m 7 #[rv bb] [(.ref bb)])) rfl rfl (hb hby d12_7)
  obtain ⟨fs, hr, hrun, hended, hW, hsame⟩ := X61.leave (v := some (.int (0 : Int32))) (fun h => by rw [hret] at h; cases h) hlk
  refine ⟨_, _, ?_, hrun, hended, _, _, rfl, ?_, ⟨_, rfl⟩, hW, hsame.mono (by decide) (by decide)⟩
  · show own_S p e below s₁ (mkF m 0 #[rv bb] []) _
    refine st60 _ ?_
    refine own_in X60 hx hby d12_3 (feq hc1).1 ?_
    refine own_aN X60 hx hby d12_6 ?_
    refine st61 _ ?_
    refine own_iy (pc := 10) X61 hx hby d12_10 (feq (by decide : ¬ ((1 : Int32) = (0 : Int32)))).2 17 ?_
    refine own_k X61 hx hby d12_17 ?_
    exact retN X61 hx (t := .boolean) hret (by simp) (hb hby d12_18) hr
  · show Qrm59 Z w_CS bb h0 _ T61.heap _
    rw [e61]
    exact ⟨rfl, N0, rfl⟩
def Qrm66 (Z : State) (ba : Addr) (vs : List Value) (nn mm : Int32) (kk : ClassId) (h0 : Heap) (v : Option Value) (h : Heap) (L : List Loc) : Prop := v = some (.int nn) ∧ Fr Z.heap.size L ∧ h = h0
theorem rm66 (l : Launch) (Z : State) (a0 : Array Value) (hw : own_HW Z a0) (ws : List Jvm.Cond) (ba : Addr) (vs : List Value) (nn mm : Int32) (kk : ClassId) (h0 : Heap) (Z0 : Ext Z.heap h0) (V_ba : Arv Z h0 ba kk .byte mm vs (.int (0 : Int32))) (hc10 : (mm >>> ((1 : Int32) &&& 31)) = nn) :
    own_met l y_10 jdk_52_method_6_code 1 (some .int) ws ({ frames := 0, cells := 0, slots := 0, locals := 0 } : Room) Z #[(.ref ba)] h0 (Qrm66 Z ba vs nn mm kk h0) := by
  refine own_start (plainFor_of_name pn_5) (fun m => ef_jdk_52_method_6_R m ba) ?_
  intro p e s m below meth c s₁ hx hby hml hown hnm X0 hZ e0 hret hlk
  have N0 := Fr.nil Z.heap.size
  obtain ⟨cl67, Ar67, q67, S67, Nn67, H67, G67⟩ := id V_ba
  obtain ⟨fs, hr, hrun, hended, hW, hsame⟩ := X0.leave (v := some (.int nn)) (fun h => by rw [hret] at h; cases h) hlk
  refine ⟨_, _, ?_, hrun, hended, _, _, rfl, ?_, ⟨_, rfl⟩, hW, hsame.mono (by decide) (by decide)⟩
  · show own_S p e below s₁ (mkF m 0 #[rv ba] []) _
    refine own_aN X0 hx hby d26_0 ?_
    refine X0.arraylength hx (by rw [e0]; exact Ar67.1) (State.isArrayOf_alike hZ.alike Ar67.2.1) (g := (mkF m 1 #[rv ba] [(.ref ba)])) rfl rfl (hb hby d26_1) _ ?_
    rw [len_of S67 Nn67]
    refine own_k X0 hx hby d26_2 ?_
    refine XS.ishr X0.here hx rfl (hb hby d26_3) rfl ?_
    show own_S p e below s₁ (mkF m 4 #[rv ba] [(.int (mm >>> ((1 : Int32) &&& 31)))]) _
    rw [hc10]
    exact retI X0 hx hret (hb hby d26_4) hr
  · show Qrm66 Z ba vs nn mm kk h0 _ s₁.heap _
    rw [e0]
    exact ⟨rfl, N0, rfl⟩
def Qrm65 (Z : State) (w_SF : Value) (ba : Addr) (vs : List Value) (nn mm ii : Int32) (kk : ClassId) (h0 : Heap) (v : Option Value) (h : Heap) (L : List Loc) : Prop := v = none ∧ Fr Z.heap.size L ∧ h = h0
theorem rm65 (l : Launch) (Z : State) (a0 : Array Value) (hw : own_HW Z a0) (ws : List Jvm.Cond) (w_SF : Value) (ba : Addr) (vs : List Value) (nn mm ii : Int32) (kk : ClassId) (h0 : Heap) (Z0 : Ext Z.heap h0) (S_w_SF : own_w_SF Z w_SF) (R_w_SF : w_SF.isRef = true) (V_ba : Arv Z h0 ba kk .byte mm vs (.int (0 : Int32))) (hc10 : (mm >>> ((1 : Int32) &&& 31)) = nn) (hc12 : ¬ (ii < (0 : Int32))) (hc13 : ii < nn) :
    own_met l y_11 jdk_52_method_91_code 2 none ws ({ frames := 2, cells := 0, slots := 0, locals := 27 } : Room) Z #[(.int ii), (.ref ba)] h0 (Qrm65 Z w_SF ba vs nn mm ii kk h0) := by
  refine own_start (plainFor_of_name pn_5) (fun m => ef_jdk_52_method_91_IR m ii ba) ?_
  intro p e s m below meth c s₁ hx hby hml hown hnm X0 hZ e0 hret hlk
  have N0 := Fr.nil Z.heap.size
  obtain ⟨_, T68, Lc68, X68, hQ68, st68⟩ := own_static (y := y_10) X0 hx hZ hown (own_w hw 110 rfl) (own_w hw 111 rfl) (own_w hw 45 rfl) (own_w hw 112 rfl) (rm66 l Z a0 hw [] ba vs nn mm kk h0 Z0 V_ba hc10) e0 (g := (mkF m 2 #[iv ii, rv ba] [(.ref ba), (.int ii)])) (argsL := [(.ref ba)]) (rest := [(.int ii)]) (W := 1) (lenOf pd_6 rfl) (hb hby d25_2) hml
  obtain ⟨rfl, N68q, e68⟩ := hQ68
  have N68 := Fr.app N0 N68q
  obtain ⟨_, T69, Lc69, X69, hQ69, st69⟩ := own_static (y := y_7) X68 hx hZ hown (own_w hw 113 rfl) (own_w hw 68 rfl) (own_w hw 7 rfl) (own_w hw 69 rfl) (rm51 l Z a0 hw [] w_SF nn ii h0 Z0 S_w_SF R_w_SF hc12 hc13) e68 (g := (mkF m 5 #[iv ii, rv ba] [(.int nn), (.int ii)])) (argsL := [(.int ii), (.int nn)]) (rest := []) (W := 0) (lenOf pd_4 rfl) (hb hby d25_5) hml
  obtain ⟨rfl, N69q, e69⟩ := hQ69
  have N69 := Fr.app N68 N69q
  obtain ⟨fs, hr, hrun, hended, hW, hsame⟩ := X69.leave (v := none) (fun _ => rfl) hlk
  refine ⟨_, _, ?_, hrun, hended, _, _, rfl, ?_, ⟨_, rfl⟩, hW, hsame.mono (by decide) (by decide)⟩
  · show own_S p e below s₁ (mkF m 0 #[iv ii, rv ba] []) _
    refine own_iN X0 hx hby d25_0 ?_
    refine own_aN X0 hx hby d25_1 ?_
    refine st68 _ ?_
    refine st69 _ ?_
    exact X69.returnOut hx hret (hb hby d25_8) hr
  · show Qrm65 Z w_SF ba vs nn mm ii kk h0 _ T69.heap _
    rw [e69]
    exact ⟨rfl, N69, rfl⟩
def Qrm71 (Z : State) (cc : Int32) (ba : Addr) (vs : List Value) (mm ii jj : Int32) (kk : ClassId) (h0 : Heap) (v : Option Value) (h : Heap) (L : List Loc) : Prop := v = some (.int cc) ∧ Fr Z.heap.size L ∧ h = h0
theorem rm71 (l : Launch) (Z : State) (a0 : Array Value) (hw : own_HW Z a0) (ws : List Jvm.Cond) (cc : Int32) (ba : Addr) (vs : List Value) (mm ii jj : Int32) (kk : ClassId) (h0 : Heap) (Z0 : Ext Z.heap h0) (S_s__assertionsDisabled : own_s__assertionsDisabled Z) (S_s_HI_BYTE_SHIFT : own_s_HI_BYTE_SHIFT Z) (S_s_LO_BYTE_SHIFT : own_s_LO_BYTE_SHIFT Z) (V_ba : Arv Z h0 ba kk .byte mm vs (.int (0 : Int32))) (hc18 : (ii <<< ((1 : Int32) &&& 31)) = jj) (hc19 : own_ib jj mm) (hc20 : own_get vs jj (.int (0 : Int32)) (.int (cc.toInt8.toInt32))) (hc21 : own_ib (jj + (1 : Int32)) mm) (hc22 : own_get vs (jj + (1 : Int32)) (.int (0 : Int32)) (.int ((cc >>> ((8 : Int32) &&& 31)).toInt8.toInt32))) (hc17 : own_u16 cc) :
    own_met l y_12 jdk_52_method_5_code 2 (some .char) ws ({ frames := 0, cells := 0, slots := 0, locals := 0 } : Room) Z #[(.ref ba), (.int ii)] h0 (Qrm71 Z cc ba vs mm ii jj kk h0) := by
  refine own_start (plainFor_of_name pn_5) (fun m => ef_jdk_52_method_5_RI m ba ii) ?_
  intro p e s m below meth c s₁ hx hby hml hown hnm X0 hZ e0 hret hlk
  have N0 := Fr.nil Z.heap.size
  obtain ⟨T72, X72, e72, st72⟩ := getS2 X0 hx hZ hown (host := "") (Or.inl (own_w hw 98 rfl)) Via.refl e0 (S_s__assertionsDisabled.ext Z0) (g := (mkF m 0 #[rv ba, iv ii] [])) rfl (hb hby d23_0)
  obtain ⟨cl73, Ar73, q73, S73, Nn73, H73, G73⟩ := id V_ba
  have hin73 : ¬ (jj < 0 ∨ cl73.slots.size ≤ (jj).toNatClampNeg) := inb_of S73 hc19
  have hat73 : cl73.slots[(jj).toNatClampNeg]? = some (.int (cc.toInt8.toInt32)) := Has.at H73 hin73 hc20
  obtain ⟨T74, X74, e74, st74⟩ := getS2 X72 hx hZ hown (host := "") (Or.inl (own_w hw 99 rfl)) Via.refl e72 (S_s_HI_BYTE_SHIFT.ext Z0) (g := (mkF m 42 #[rv ba, iv (jj + (1 : Int32))] [(.int ((cc.toInt8.toInt32) &&& (255 : Int32)))])) rfl (hb hby d23_42)
  obtain ⟨cl75, Ar75, q75, S75, Nn75, H75, G75⟩ := id V_ba
  have hin75 : ¬ ((jj + (1 : Int32)) < 0 ∨ cl75.slots.size ≤ ((jj + (1 : Int32))).toNatClampNeg) := inb_of S75 hc21
  have hat75 : cl75.slots[((jj + (1 : Int32))).toNatClampNeg]? = some (.int ((cc >>> ((8 : Int32) &&& 31)).toInt8.toInt32)) := Has.at H75 hin75 hc22
  obtain ⟨T76, X76, e76, st76⟩ := getS2 X74 hx hZ hown (host := "") (Or.inl (own_w hw 100 rfl)) Via.refl e74 (S_s_LO_BYTE_SHIFT.ext Z0) (g := (mkF m 53 #[rv ba, iv (jj + (1 : Int32))] [(.int (((cc >>> ((8 : Int32) &&& 31)).toInt8.toInt32) &&& (255 : Int32))), (.int (((cc.toInt8.toInt32) &&& (255 : Int32)) <<< ((0 : Int32) &&& 31)))])) rfl (hb hby d23_53)
  obtain ⟨fs, hr, hrun, hended, hW, hsame⟩ := X76.leave (v := some (.int cc)) (fun h => by rw [hret] at h; cases h) hlk
  refine ⟨_, _, ?_, hrun, hended, _, _, rfl, ?_, ⟨_, rfl⟩, hW, hsame.mono (by decide) (by decide)⟩
  · show own_S p e below s₁ (mkF m 0 #[rv ba, iv ii] []) _
    refine st72 _ ?_
    refine own_iy (pc := 3) X72 hx hby d23_3 (feq (by decide : ¬ ((1 : Int32) = (0 : Int32)))).2 28 ?_
    refine own_iN X72 hx hby d23_28 ?_
    refine own_k X72 hx hby d23_29 ?_
    refine XS.ishl X72.here hx rfl (hb hby d23_30) rfl ?_
    show own_S p e below T72 (mkF m 31 #[rv ba, iv ii] [(.int (ii <<< ((1 : Int32) &&& 31)))]) _
    rw [hc18]
    refine XS.istoreN X72.here hx rfl (hb hby d23_31) rfl (l' := #[rv ba, iv jj]) rfl ?_
    refine own_aN X72 hx hby d23_32 ?_
    refine own_iN X72 hx hby d23_33 ?_
    refine XS.iinc X72.here hx rfl (hb hby d23_34) rfl (l' := #[rv ba, iv (jj + (1 : Int32))]) rfl ?_
    refine X72.baloadBytes hx (j := jj) (v := (.int (cc.toInt8.toInt32))) (by rw [e72]; exact Ar73.1) (State.isArrayOf_alike hZ.alike Ar73.2.1) Ar73.2.2 hin73 hat73 (g := (mkF m 37 #[rv ba, iv (jj + (1 : Int32))] [(.int jj), (.ref ba)])) rfl rfl (hb hby d23_37) _ ?_
    refine XS.sipush X72.here hx rfl (hb hby d23_38) ?_
    refine XS.iand X72.here hx rfl (hb hby d23_41) rfl ?_
    refine st74 _ ?_
    refine XS.ishl X74.here hx rfl (hb hby d23_45) rfl ?_
    refine own_aN X74 hx hby d23_46 ?_
    refine own_iN X74 hx hby d23_47 ?_
    refine X74.baloadBytes hx (j := (jj + (1 : Int32))) (v := (.int ((cc >>> ((8 : Int32) &&& 31)).toInt8.toInt32))) (by rw [e74]; exact Ar75.1) (State.isArrayOf_alike hZ.alike Ar75.2.1) Ar75.2.2 hin75 hat75 (g := (mkF m 48 #[rv ba, iv (jj + (1 : Int32))] [(.int (jj + (1 : Int32))), (.ref ba), (.int (((cc.toInt8.toInt32) &&& (255 : Int32)) <<< ((0 : Int32) &&& 31)))])) rfl rfl (hb hby d23_48) _ ?_
    refine XS.sipush X74.here hx rfl (hb hby d23_49) ?_
    refine XS.iand X74.here hx rfl (hb hby d23_52) rfl ?_
    refine st76 _ ?_
    refine XS.ishl X76.here hx rfl (hb hby d23_56) rfl ?_
    refine XS.ior X76.here hx rfl (hb hby d23_57) rfl ?_
    show own_S p e below T76 (mkF m 58 #[rv ba, iv (jj + (1 : Int32))] [(.int ((((cc.toInt8.toInt32) &&& (255 : Int32)) <<< ((0 : Int32) &&& 31)) ||| ((((cc >>> ((8 : Int32) &&& 31)).toInt8.toInt32) &&& (255 : Int32)) <<< ((8 : Int32) &&& 31))))]) _
    rw [(own_orw hc17)]
    refine XS.i2c X76.here hx rfl (hb hby d23_58) rfl ?_
    show own_S p e below T76 (mkF m 59 #[rv ba, iv (jj + (1 : Int32))] [(.int (cc.toUInt32.toUInt16.toUInt32.toInt32))]) _
    rw [(own_i2c hc17)]
    rw [← (own_nc hc17)] at hr
    exact retN X76 hx (t := .char) hret (by simp) (hb hby d23_59) hr
  · show Qrm71 Z cc ba vs mm ii jj kk h0 _ T76.heap _
    rw [e76]
    exact ⟨rfl, N0, rfl⟩
def Qrm64 (Z : State) (w_SF : Value) (cc : Int32) (ba : Addr) (vs : List Value) (nn mm ii jj : Int32) (kk : ClassId) (h0 : Heap) (v : Option Value) (h : Heap) (L : List Loc) : Prop := v = some (.int cc) ∧ Fr Z.heap.size L ∧ h = h0
theorem rm64 (l : Launch) (Z : State) (a0 : Array Value) (hw : own_HW Z a0) (ws : List Jvm.Cond) (w_SF : Value) (cc : Int32) (ba : Addr) (vs : List Value) (nn mm ii jj : Int32) (kk : ClassId) (h0 : Heap) (Z0 : Ext Z.heap h0) (S_w_SF : own_w_SF Z w_SF) (R_w_SF : w_SF.isRef = true) (S_s__assertionsDisabled : own_s__assertionsDisabled Z) (S_s_HI_BYTE_SHIFT : own_s_HI_BYTE_SHIFT Z) (S_s_LO_BYTE_SHIFT : own_s_LO_BYTE_SHIFT Z) (V_ba : Arv Z h0 ba kk .byte mm vs (.int (0 : Int32))) (hc10 : (mm >>> ((1 : Int32) &&& 31)) = nn) (hc12 : ¬ (ii < (0 : Int32))) (hc13 : ii < nn) (hc18 : (ii <<< ((1 : Int32) &&& 31)) = jj) (hc19 : own_ib jj mm) (hc20 : own_get vs jj (.int (0 : Int32)) (.int (cc.toInt8.toInt32))) (hc21 : own_ib (jj + (1 : Int32)) mm) (hc22 : own_get vs (jj + (1 : Int32)) (.int (0 : Int32)) (.int ((cc >>> ((8 : Int32) &&& 31)).toInt8.toInt32))) (hc17 : own_u16 cc) :
    own_met l y_13 jdk_52_method_83_code 2 (some .char) ws ({ frames := 3, cells := 0, slots := 0, locals := 40 } : Room) Z #[(.ref ba), (.int ii)] h0 (Qrm64 Z w_SF cc ba vs nn mm ii jj kk h0) := by
  refine own_start (plainFor_of_name pn_5) (fun m => ef_jdk_52_method_83_RI m ba ii) ?_
  intro p e s m below meth c s₁ hx hby hml hown hnm X0 hZ e0 hret hlk
  have N0 := Fr.nil Z.heap.size
  obtain ⟨_, T70, Lc70, X70, hQ70, st70⟩ := own_static (y := y_11) X0 hx hZ hown (own_w hw 107 rfl) (own_w hw 108 rfl) (own_w hw 45 rfl) (own_w hw 109 rfl) (rm65 l Z a0 hw [] w_SF ba vs nn mm ii kk h0 Z0 S_w_SF R_w_SF V_ba hc10 hc12 hc13) e0 (g := (mkF m 2 #[rv ba, iv ii] [(.ref ba), (.int ii)])) (argsL := [(.int ii), (.ref ba)]) (rest := []) (W := 0) (lenOf pd_7 rfl) (hb hby d24_2) hml
  obtain ⟨rfl, N70q, e70⟩ := hQ70
  have N70 := Fr.app N0 N70q
  obtain ⟨_, T77, Lc77, X77, hQ77, st77⟩ := own_static (y := y_12) X70 hx hZ hown (own_w hw 101 rfl) (own_w hw 102 rfl) (own_w hw 45 rfl) (own_w hw 103 rfl) (rm71 l Z a0 hw [] cc ba vs mm ii jj kk h0 Z0 S_s__assertionsDisabled S_s_HI_BYTE_SHIFT S_s_LO_BYTE_SHIFT V_ba hc18 hc19 hc20 hc21 hc22 hc17) e70 (g := (mkF m 7 #[rv ba, iv ii] [(.int ii), (.ref ba)])) (argsL := [(.ref ba), (.int ii)]) (rest := []) (W := 0) (lenOf pd_5 rfl) (hb hby d24_7) hml
  obtain ⟨rfl, N77q, e77⟩ := hQ77
  have N77 := Fr.app N70 N77q
  obtain ⟨fs, hr, hrun, hended, hW, hsame⟩ := X77.leave (v := some (.int cc)) (fun h => by rw [hret] at h; cases h) hlk
  refine ⟨_, _, ?_, hrun, hended, _, _, rfl, ?_, ⟨_, rfl⟩, hW, hsame.mono (by decide) (by decide)⟩
  · show own_S p e below s₁ (mkF m 0 #[rv ba, iv ii] []) _
    refine own_iN X0 hx hby d24_0 ?_
    refine own_aN X0 hx hby d24_1 ?_
    refine st70 _ ?_
    refine own_aN X70 hx hby d24_5 ?_
    refine own_iN X70 hx hby d24_6 ?_
    refine st77 _ ?_
    rw [← (own_nc hc17)] at hr
    exact retN X77 hx (t := .char) hret (by simp) (hb hby d24_10) hr
  · show Qrm64 Z w_SF cc ba vs nn mm ii jj kk h0 _ T77.heap _
    rw [e77]
    exact ⟨rfl, N77, rfl⟩
def Qrm82 (Z : State) (w_SF : Value) (cc : Int32) (ba : Addr) (vs : List Value) (nn ii : Int32) (kk : ClassId) (h0 : Heap) (v : Option Value) (h : Heap) (L : List Loc) : Prop := v = some (.int cc) ∧ Fr Z.heap.size L ∧ h = h0
theorem rm82 (l : Launch) (Z : State) (a0 : Array Value) (hw : own_HW Z a0) (ws : List Jvm.Cond) (w_SF : Value) (cc : Int32) (ba : Addr) (vs : List Value) (nn ii : Int32) (kk : ClassId) (h0 : Heap) (Z0 : Ext Z.heap h0) (S_w_SF : own_w_SF Z w_SF) (R_w_SF : w_SF.isRef = true) (V_ba : Arv Z h0 ba kk .byte nn vs (.int (0 : Int32))) (hc12 : ¬ (ii < (0 : Int32))) (hc13 : ii < nn) (hc14 : own_ib ii nn) (hc15 : own_get vs ii (.int (0 : Int32)) (.int (cc.toInt8.toInt32))) (hc16 : own_l8 cc) (hc17 : own_u16 cc) :
    own_met l y_8 jdk_43_method_2_code 2 (some .char) ws ({ frames := 2, cells := 0, slots := 0, locals := 27 } : Room) Z #[(.ref ba), (.int ii)] h0 (Qrm82 Z w_SF cc ba vs nn ii kk h0) := by
  refine own_start (plainFor_of_name pn_4) (fun m => ef_jdk_43_method_2_RI m ba ii) ?_
  intro p e s m below meth c s₁ hx hby hml hown hnm X0 hZ e0 hret hlk
  have N0 := Fr.nil Z.heap.size
  obtain ⟨cl83, Ar83, q83, S83, Nn83, H83, G83⟩ := id V_ba
  obtain ⟨_, T84, Lc84, X84, hQ84, st84⟩ := own_static (y := y_7) X0 hx hZ hown (own_w hw 67 rfl) (own_w hw 68 rfl) (own_w hw 7 rfl) (own_w hw 69 rfl) (rm51 l Z a0 hw [] w_SF nn ii h0 Z0 S_w_SF R_w_SF hc12 hc13) e0 (g := (mkF m 3 #[rv ba, iv ii] [(.int nn), (.int ii)])) (argsL := [(.int ii), (.int nn)]) (rest := []) (W := 0) (lenOf pd_4 rfl) (hb hby d13_3) hml
  obtain ⟨rfl, N84q, e84⟩ := hQ84
  have N84 := Fr.app N0 N84q
  obtain ⟨cl85, Ar85, q85, S85, Nn85, H85, G85⟩ := id V_ba
  have hin85 : ¬ (ii < 0 ∨ cl85.slots.size ≤ (ii).toNatClampNeg) := inb_of S85 hc14
  have hat85 : cl85.slots[(ii).toNatClampNeg]? = some (.int (cc.toInt8.toInt32)) := Has.at H85 hin85 hc15
  obtain ⟨fs, hr, hrun, hended, hW, hsame⟩ := X84.leave (v := some (.int cc)) (fun h => by rw [hret] at h; cases h) hlk
  refine ⟨_, _, ?_, hrun, hended, _, _, rfl, ?_, ⟨_, rfl⟩, hW, hsame.mono (by decide) (by decide)⟩
  · show own_S p e below s₁ (mkF m 0 #[rv ba, iv ii] []) _
    refine own_iN X0 hx hby d13_0 ?_
    refine own_aN X0 hx hby d13_1 ?_
    refine X0.arraylength hx (by rw [e0]; exact Ar83.1) (State.isArrayOf_alike hZ.alike Ar83.2.1) (g := (mkF m 2 #[rv ba, iv ii] [(.ref ba), (.int ii)])) rfl rfl (hb hby d13_2) _ ?_
    rw [len_of S83 Nn83]
    refine st84 _ ?_
    refine own_aN X84 hx hby d13_6 ?_
    refine own_iN X84 hx hby d13_7 ?_
    refine X84.baloadBytes hx (j := ii) (v := (.int (cc.toInt8.toInt32))) (by rw [e84]; exact Ar85.1) (State.isArrayOf_alike hZ.alike Ar85.2.1) Ar85.2.2 hin85 hat85 (g := (mkF m 8 #[rv ba, iv ii] [(.int ii), (.ref ba)])) rfl rfl (hb hby d13_8) _ ?_
    refine XS.sipush X84.here hx rfl (hb hby d13_9) ?_
    refine XS.iand X84.here hx rfl (hb hby d13_12) rfl ?_
    show own_S p e below T84 (mkF m 13 #[rv ba, iv ii] [(.int ((cc.toInt8.toInt32) &&& (255 : Int32)))]) _
    rw [(own_b255 hc16)]
    refine XS.i2c X84.here hx rfl (hb hby d13_13) rfl ?_
    show own_S p e below T84 (mkF m 14 #[rv ba, iv ii] [(.int (cc.toUInt32.toUInt16.toUInt32.toInt32))]) _
    rw [(own_i2c hc17)]
    rw [← (own_nc hc17)] at hr
    exact retN X84 hx (t := .char) hret (by simp) (hb hby d13_14) hr
  · show Qrm82 Z w_SF cc ba vs nn ii kk h0 _ T84.heap _
    rw [e84]
    exact ⟨rfl, N84, rfl⟩
def Qrm79 (Z : State) (w_CS : Int32) (w_SF : Value) (cc : Int32) (bb ba : Addr) (vs : List Value) (nn ii : Int32) (kk : ClassId) (h0 : Heap) (v : Option Value) (h : Heap) (L : List Loc) : Prop := v = some (.int cc) ∧ Fr Z.heap.size L ∧ h = h0
theorem rm79 (l : Launch) (Z : State) (a0 : Array Value) (hw : own_HW Z a0) (ws : List Jvm.Cond) (w_CS : Int32) (w_SF : Value) (cc : Int32) (bb ba : Addr) (vs : List Value) (nn ii : Int32) (kk : ClassId) (h0 : Heap) (Z0 : Ext Z.heap h0) (S_w_CS : own_w_CS Z w_CS) (S_w_SF : own_w_SF Z w_SF) (R_w_SF : w_SF.isRef = true) (E_bb : Exa Z h0 bb "java/lang/String") (F_bb_coder : Fld Z h0 bb "java/lang/String" "coder" "B" (.int (0 : Int32))) (F_bb_value : Fld Z h0 bb "java/lang/String" "value" "[B" (.ref ba)) (V_ba : Arv Z h0 ba kk .byte nn vs (.int (0 : Int32))) (hc1 : ¬ (w_CS = (0 : Int32))) (hc12 : ¬ (ii < (0 : Int32))) (hc13 : ii < nn) (hc14 : own_ib ii nn) (hc15 : own_get vs ii (.int (0 : Int32)) (.int (cc.toInt8.toInt32))) (hc16 : own_l8 cc) (hc17 : own_u16 cc) :
    own_met l y_9 jdk_42_method_56_code 2 (some .char) ws ({ frames := 4, cells := 0, slots := 0, locals := 53 } : Room) Z #[(.ref bb), (.int ii)] h0 (Qrm79 Z w_CS w_SF cc bb ba vs nn ii kk h0) := by
  refine own_start (plainFor_of_name pn_2) (fun m => ef_jdk_42_method_56_RI m bb ii) ?_
  intro p e s m below meth c s₁ hx hby hml hown hnm X0 hZ e0 hret hlk
  have N0 := Fr.nil Z.heap.size
  obtain ⟨_, T80, Lc80, X80, hQ80, st80⟩ := own_virtual (y := y_5) X0 hx hZ hown (own_w hw 58 rfl) (own_w hw 59 rfl) (own_w hw 61 rfl) (own_w hw 60 rfl) (own_w hw 7 rfl) (own_w hw 62 rfl) (rm44 l Z a0 hw [] w_CS bb h0 Z0 S_w_CS F_bb_coder hc1) e0 E_bb (g := (mkF m 1 #[rv bb, iv ii] [(.ref bb)])) (argsL := []) (rest := []) (W := 0) (lenOf pd_2 rfl) (hb hby d11_1) hml
  obtain ⟨rfl, N80q, e80⟩ := hQ80
  have N80 := Fr.app N0 N80q
  obtain ⟨T81, X81, e81, st81⟩ := getF X80 hx hZ hown (host := "") (Or.inl (own_w hw 25 rfl)) Via.refl e80 F_bb_value (g := (mkF m 8 #[rv bb, iv ii] [(.ref bb)])) rfl rfl (hb hby d11_8)
  obtain ⟨_, T86, Lc86, X86, hQ86, st86⟩ := own_static (y := y_8) X81 hx hZ hown (own_w hw 63 rfl) (own_w hw 64 rfl) (own_w hw 65 rfl) (own_w hw 66 rfl) (rm82 l Z a0 hw [] w_SF cc ba vs nn ii kk h0 Z0 S_w_SF R_w_SF V_ba hc12 hc13 hc14 hc15 hc16 hc17) e81 (g := (mkF m 12 #[rv bb, iv ii] [(.int ii), (.ref ba)])) (argsL := [(.ref ba), (.int ii)]) (rest := []) (W := 0) (lenOf pd_5 rfl) (hb hby d11_12) hml
  obtain ⟨rfl, N86q, e86⟩ := hQ86
  have N86 := Fr.app N80 N86q
  obtain ⟨fs, hr, hrun, hended, hW, hsame⟩ := X86.leave (v := some (.int cc)) (fun h => by rw [hret] at h; cases h) hlk
  refine ⟨_, _, ?_, hrun, hended, _, _, rfl, ?_, ⟨_, rfl⟩, hW, hsame.mono (by decide) (by decide)⟩
  · show own_S p e below s₁ (mkF m 0 #[rv bb, iv ii] []) _
    refine own_aN X0 hx hby d11_0 ?_
    refine st80 _ ?_
    refine own_in X80 hx hby d11_4 (feq (by decide : ¬ ((1 : Int32) = (0 : Int32)))).1 ?_
    refine own_aN X80 hx hby d11_7 ?_
    refine st81 _ ?_
    refine own_iN X81 hx hby d11_11 ?_
    refine st86 _ ?_
    rw [← (own_nc hc17)] at hr
    exact retN X86 hx (t := .char) hret (by simp) (hb hby d11_15) hr
  · show Qrm79 Z w_CS w_SF cc bb ba vs nn ii kk h0 _ T86.heap _
    rw [e86]
    exact ⟨rfl, N86, rfl⟩
def Qrm92 (Z : State) (cc : Int32) (ba : Addr) (vs : List Value) (mm ii jj : Int32) (kk : ClassId) (h0 : Heap) (v : Option Value) (h : Heap) (L : List Loc) : Prop := v = some (.int cc) ∧ Fr Z.heap.size L ∧ h = h0
theorem rm92 (l : Launch) (Z : State) (a0 : Array Value) (hw : own_HW Z a0) (ws : List Jvm.Cond) (cc : Int32) (ba : Addr) (vs : List Value) (mm ii jj : Int32) (kk : ClassId) (h0 : Heap) (Z0 : Ext Z.heap h0) (S_s__assertionsDisabled : own_s__assertionsDisabled Z) (S_s_HI_BYTE_SHIFT : own_s_HI_BYTE_SHIFT Z) (S_s_LO_BYTE_SHIFT : own_s_LO_BYTE_SHIFT Z) (V_ba : Arv Z h0 ba kk .byte mm vs (.int (0 : Int32))) (hc18 : (ii <<< ((1 : Int32) &&& 31)) = jj) (hc19 : own_ib jj mm) (hc20 : own_get vs jj (.int (0 : Int32)) (.int (cc.toInt8.toInt32))) (hc21 : own_ib (jj + (1 : Int32)) mm) (hc22 : own_get vs (jj + (1 : Int32)) (.int (0 : Int32)) (.int ((cc >>> ((8 : Int32) &&& 31)).toInt8.toInt32))) (hc17 : own_u16 cc) :
    own_met l y_12 jdk_52_method_5_code 2 (some .char) ws ({ frames := 0, cells := 0, slots := 0, locals := 0 } : Room) Z #[(.ref ba), (.int ii)] h0 (Qrm92 Z cc ba vs mm ii jj kk h0) := by
  refine own_start (plainFor_of_name pn_5) (fun m => ef_jdk_52_method_5_RI m ba ii) ?_
  intro p e s m below meth c s₁ hx hby hml hown hnm X0 hZ e0 hret hlk
  have N0 := Fr.nil Z.heap.size
  obtain ⟨T93, X93, e93, st93⟩ := getS2 X0 hx hZ hown (host := "") (Or.inl (own_w hw 98 rfl)) Via.refl e0 (S_s__assertionsDisabled.ext Z0) (g := (mkF m 0 #[rv ba, iv ii] [])) rfl (hb hby d23_0)
  obtain ⟨cl94, Ar94, q94, S94, Nn94, H94, G94⟩ := id V_ba
  have hin94 : ¬ (jj < 0 ∨ cl94.slots.size ≤ (jj).toNatClampNeg) := inb_of S94 hc19
  have hat94 : cl94.slots[(jj).toNatClampNeg]? = some (.int (cc.toInt8.toInt32)) := Has.at H94 hin94 hc20
  obtain ⟨T95, X95, e95, st95⟩ := getS2 X93 hx hZ hown (host := "") (Or.inl (own_w hw 99 rfl)) Via.refl e93 (S_s_HI_BYTE_SHIFT.ext Z0) (g := (mkF m 42 #[rv ba, iv (jj + (1 : Int32))] [(.int ((cc.toInt8.toInt32) &&& (255 : Int32)))])) rfl (hb hby d23_42)
  obtain ⟨cl96, Ar96, q96, S96, Nn96, H96, G96⟩ := id V_ba
  have hin96 : ¬ ((jj + (1 : Int32)) < 0 ∨ cl96.slots.size ≤ ((jj + (1 : Int32))).toNatClampNeg) := inb_of S96 hc21
  have hat96 : cl96.slots[((jj + (1 : Int32))).toNatClampNeg]? = some (.int ((cc >>> ((8 : Int32) &&& 31)).toInt8.toInt32)) := Has.at H96 hin96 hc22
  obtain ⟨T97, X97, e97, st97⟩ := getS2 X95 hx hZ hown (host := "") (Or.inl (own_w hw 100 rfl)) Via.refl e95 (S_s_LO_BYTE_SHIFT.ext Z0) (g := (mkF m 53 #[rv ba, iv (jj + (1 : Int32))] [(.int (((cc >>> ((8 : Int32) &&& 31)).toInt8.toInt32) &&& (255 : Int32))), (.int (((cc.toInt8.toInt32) &&& (255 : Int32)) <<< ((0 : Int32) &&& 31)))])) rfl (hb hby d23_53)
  obtain ⟨fs, hr, hrun, hended, hW, hsame⟩ := X97.leave (v := some (.int cc)) (fun h => by rw [hret] at h; cases h) hlk
  refine ⟨_, _, ?_, hrun, hended, _, _, rfl, ?_, ⟨_, rfl⟩, hW, hsame.mono (by decide) (by decide)⟩
  · show own_S p e below s₁ (mkF m 0 #[rv ba, iv ii] []) _
    refine st93 _ ?_
    refine own_iy (pc := 3) X93 hx hby d23_3 (feq (by decide : ¬ ((1 : Int32) = (0 : Int32)))).2 28 ?_
    refine own_iN X93 hx hby d23_28 ?_
    refine own_k X93 hx hby d23_29 ?_
    refine XS.ishl X93.here hx rfl (hb hby d23_30) rfl ?_
    show own_S p e below T93 (mkF m 31 #[rv ba, iv ii] [(.int (ii <<< ((1 : Int32) &&& 31)))]) _
    rw [hc18]
    refine XS.istoreN X93.here hx rfl (hb hby d23_31) rfl (l' := #[rv ba, iv jj]) rfl ?_
    refine own_aN X93 hx hby d23_32 ?_
    refine own_iN X93 hx hby d23_33 ?_
    refine XS.iinc X93.here hx rfl (hb hby d23_34) rfl (l' := #[rv ba, iv (jj + (1 : Int32))]) rfl ?_
    refine X93.baloadBytes hx (j := jj) (v := (.int (cc.toInt8.toInt32))) (by rw [e93]; exact Ar94.1) (State.isArrayOf_alike hZ.alike Ar94.2.1) Ar94.2.2 hin94 hat94 (g := (mkF m 37 #[rv ba, iv (jj + (1 : Int32))] [(.int jj), (.ref ba)])) rfl rfl (hb hby d23_37) _ ?_
    refine XS.sipush X93.here hx rfl (hb hby d23_38) ?_
    refine XS.iand X93.here hx rfl (hb hby d23_41) rfl ?_
    refine st95 _ ?_
    refine XS.ishl X95.here hx rfl (hb hby d23_45) rfl ?_
    refine own_aN X95 hx hby d23_46 ?_
    refine own_iN X95 hx hby d23_47 ?_
    refine X95.baloadBytes hx (j := (jj + (1 : Int32))) (v := (.int ((cc >>> ((8 : Int32) &&& 31)).toInt8.toInt32))) (by rw [e95]; exact Ar96.1) (State.isArrayOf_alike hZ.alike Ar96.2.1) Ar96.2.2 hin96 hat96 (g := (mkF m 48 #[rv ba, iv (jj + (1 : Int32))] [(.int (jj + (1 : Int32))), (.ref ba), (.int (((cc.toInt8.toInt32) &&& (255 : Int32)) <<< ((0 : Int32) &&& 31)))])) rfl rfl (hb hby d23_48) _ ?_
    refine XS.sipush X95.here hx rfl (hb hby d23_49) ?_
    refine XS.iand X95.here hx rfl (hb hby d23_52) rfl ?_
    refine st97 _ ?_
    refine XS.ishl X97.here hx rfl (hb hby d23_56) rfl ?_
    refine XS.ior X97.here hx rfl (hb hby d23_57) rfl ?_
    show own_S p e below T97 (mkF m 58 #[rv ba, iv (jj + (1 : Int32))] [(.int ((((cc.toInt8.toInt32) &&& (255 : Int32)) <<< ((0 : Int32) &&& 31)) ||| ((((cc >>> ((8 : Int32) &&& 31)).toInt8.toInt32) &&& (255 : Int32)) <<< ((8 : Int32) &&& 31))))]) _
    rw [(own_orw hc17)]
    refine XS.i2c X97.here hx rfl (hb hby d23_58) rfl ?_
    show own_S p e below T97 (mkF m 59 #[rv ba, iv (jj + (1 : Int32))] [(.int (cc.toUInt32.toUInt16.toUInt32.toInt32))]) _
    rw [(own_i2c hc17)]
    rw [← (own_nc hc17)] at hr
    exact retN X97 hx (t := .char) hret (by simp) (hb hby d23_59) hr
  · show Qrm92 Z cc ba vs mm ii jj kk h0 _ T97.heap _
    rw [e97]
    exact ⟨rfl, N0, rfl⟩
def Qrm90 (Z : State) (w_SF : Value) (cc : Int32) (ba : Addr) (vs : List Value) (nn mm ii jj : Int32) (kk : ClassId) (h0 : Heap) (v : Option Value) (h : Heap) (L : List Loc) : Prop := v = some (.int cc) ∧ Fr Z.heap.size L ∧ h = h0
theorem rm90 (l : Launch) (Z : State) (a0 : Array Value) (hw : own_HW Z a0) (ws : List Jvm.Cond) (w_SF : Value) (cc : Int32) (ba : Addr) (vs : List Value) (nn mm ii jj : Int32) (kk : ClassId) (h0 : Heap) (Z0 : Ext Z.heap h0) (S_w_SF : own_w_SF Z w_SF) (R_w_SF : w_SF.isRef = true) (S_s__assertionsDisabled : own_s__assertionsDisabled Z) (S_s_HI_BYTE_SHIFT : own_s_HI_BYTE_SHIFT Z) (S_s_LO_BYTE_SHIFT : own_s_LO_BYTE_SHIFT Z) (V_ba : Arv Z h0 ba kk .byte mm vs (.int (0 : Int32))) (hc10 : (mm >>> ((1 : Int32) &&& 31)) = nn) (hc12 : ¬ (ii < (0 : Int32))) (hc13 : ii < nn) (hc18 : (ii <<< ((1 : Int32) &&& 31)) = jj) (hc19 : own_ib jj mm) (hc20 : own_get vs jj (.int (0 : Int32)) (.int (cc.toInt8.toInt32))) (hc21 : own_ib (jj + (1 : Int32)) mm) (hc22 : own_get vs (jj + (1 : Int32)) (.int (0 : Int32)) (.int ((cc >>> ((8 : Int32) &&& 31)).toInt8.toInt32))) (hc17 : own_u16 cc) :
    own_met l y_13 jdk_52_method_83_code 2 (some .char) ws ({ frames := 3, cells := 0, slots := 0, locals := 40 } : Room) Z #[(.ref ba), (.int ii)] h0 (Qrm90 Z w_SF cc ba vs nn mm ii jj kk h0) := by
  refine own_start (plainFor_of_name pn_5) (fun m => ef_jdk_52_method_83_RI m ba ii) ?_
  intro p e s m below meth c s₁ hx hby hml hown hnm X0 hZ e0 hret hlk
  have N0 := Fr.nil Z.heap.size
  obtain ⟨_, T91, Lc91, X91, hQ91, st91⟩ := own_static (y := y_11) X0 hx hZ hown (own_w hw 107 rfl) (own_w hw 108 rfl) (own_w hw 45 rfl) (own_w hw 109 rfl) (rm65 l Z a0 hw [] w_SF ba vs nn mm ii kk h0 Z0 S_w_SF R_w_SF V_ba hc10 hc12 hc13) e0 (g := (mkF m 2 #[rv ba, iv ii] [(.ref ba), (.int ii)])) (argsL := [(.int ii), (.ref ba)]) (rest := []) (W := 0) (lenOf pd_7 rfl) (hb hby d24_2) hml
  obtain ⟨rfl, N91q, e91⟩ := hQ91
  have N91 := Fr.app N0 N91q
  obtain ⟨_, T98, Lc98, X98, hQ98, st98⟩ := own_static (y := y_12) X91 hx hZ hown (own_w hw 101 rfl) (own_w hw 102 rfl) (own_w hw 45 rfl) (own_w hw 103 rfl) (rm92 l Z a0 hw [] cc ba vs mm ii jj kk h0 Z0 S_s__assertionsDisabled S_s_HI_BYTE_SHIFT S_s_LO_BYTE_SHIFT V_ba hc18 hc19 hc20 hc21 hc22 hc17) e91 (g := (mkF m 7 #[rv ba, iv ii] [(.int ii), (.ref ba)])) (argsL := [(.ref ba), (.int ii)]) (rest := []) (W := 0) (lenOf pd_5 rfl) (hb hby d24_7) hml
  obtain ⟨rfl, N98q, e98⟩ := hQ98
  have N98 := Fr.app N91 N98q
  obtain ⟨fs, hr, hrun, hended, hW, hsame⟩ := X98.leave (v := some (.int cc)) (fun h => by rw [hret] at h; cases h) hlk
  refine ⟨_, _, ?_, hrun, hended, _, _, rfl, ?_, ⟨_, rfl⟩, hW, hsame.mono (by decide) (by decide)⟩
  · show own_S p e below s₁ (mkF m 0 #[rv ba, iv ii] []) _
    refine own_iN X0 hx hby d24_0 ?_
    refine own_aN X0 hx hby d24_1 ?_
    refine st91 _ ?_
    refine own_aN X91 hx hby d24_5 ?_
    refine own_iN X91 hx hby d24_6 ?_
    refine st98 _ ?_
    rw [← (own_nc hc17)] at hr
    exact retN X98 hx (t := .char) hret (by simp) (hb hby d24_10) hr
  · show Qrm90 Z w_SF cc ba vs nn mm ii jj kk h0 _ T98.heap _
    rw [e98]
    exact ⟨rfl, N98, rfl⟩
def Qrm87 (Z : State) (w_CS : Int32) (w_SF : Value) (cc : Int32) (bb ba : Addr) (vs : List Value) (nn mm ii jj : Int32) (kk : ClassId) (h0 : Heap) (v : Option Value) (h : Heap) (L : List Loc) : Prop := v = some (.int cc) ∧ Fr Z.heap.size L ∧ h = h0
theorem rm87 (l : Launch) (Z : State) (a0 : Array Value) (hw : own_HW Z a0) (ws : List Jvm.Cond) (w_CS : Int32) (w_SF : Value) (cc : Int32) (bb ba : Addr) (vs : List Value) (nn mm ii jj : Int32) (kk : ClassId) (h0 : Heap) (Z0 : Ext Z.heap h0) (S_w_CS : own_w_CS Z w_CS) (S_w_SF : own_w_SF Z w_SF) (R_w_SF : w_SF.isRef = true) (S_s__assertionsDisabled : own_s__assertionsDisabled Z) (S_s_HI_BYTE_SHIFT : own_s_HI_BYTE_SHIFT Z) (S_s_LO_BYTE_SHIFT : own_s_LO_BYTE_SHIFT Z) (E_bb : Exa Z h0 bb "java/lang/String") (F_bb_coder : Fld Z h0 bb "java/lang/String" "coder" "B" (.int (1 : Int32))) (F_bb_value : Fld Z h0 bb "java/lang/String" "value" "[B" (.ref ba)) (V_ba : Arv Z h0 ba kk .byte mm vs (.int (0 : Int32))) (hc1 : ¬ (w_CS = (0 : Int32))) (hc10 : (mm >>> ((1 : Int32) &&& 31)) = nn) (hc12 : ¬ (ii < (0 : Int32))) (hc13 : ii < nn) (hc18 : (ii <<< ((1 : Int32) &&& 31)) = jj) (hc19 : own_ib jj mm) (hc20 : own_get vs jj (.int (0 : Int32)) (.int (cc.toInt8.toInt32))) (hc21 : own_ib (jj + (1 : Int32)) mm) (hc22 : own_get vs (jj + (1 : Int32)) (.int (0 : Int32)) (.int ((cc >>> ((8 : Int32) &&& 31)).toInt8.toInt32))) (hc17 : own_u16 cc) :
    own_met l y_9 jdk_42_method_56_code 2 (some .char) ws ({ frames := 4, cells := 0, slots := 0, locals := 53 } : Room) Z #[(.ref bb), (.int ii)] h0 (Qrm87 Z w_CS w_SF cc bb ba vs nn mm ii jj kk h0) := by
  refine own_start (plainFor_of_name pn_2) (fun m => ef_jdk_42_method_56_RI m bb ii) ?_
  intro p e s m below meth c s₁ hx hby hml hown hnm X0 hZ e0 hret hlk
  have N0 := Fr.nil Z.heap.size
  obtain ⟨_, T88, Lc88, X88, hQ88, st88⟩ := own_virtual (y := y_5) X0 hx hZ hown (own_w hw 58 rfl) (own_w hw 59 rfl) (own_w hw 61 rfl) (own_w hw 60 rfl) (own_w hw 7 rfl) (own_w hw 62 rfl) (rm59 l Z a0 hw [] w_CS bb h0 Z0 S_w_CS F_bb_coder hc1) e0 E_bb (g := (mkF m 1 #[rv bb, iv ii] [(.ref bb)])) (argsL := []) (rest := []) (W := 0) (lenOf pd_2 rfl) (hb hby d11_1) hml
  obtain ⟨rfl, N88q, e88⟩ := hQ88
  have N88 := Fr.app N0 N88q
  obtain ⟨T89, X89, e89, st89⟩ := getF X88 hx hZ hown (host := "") (Or.inl (own_w hw 25 rfl)) Via.refl e88 F_bb_value (g := (mkF m 17 #[rv bb, iv ii] [(.ref bb)])) rfl rfl (hb hby d11_17)
  obtain ⟨_, T99, Lc99, X99, hQ99, st99⟩ := own_static (y := y_13) X89 hx hZ hown (own_w hw 104 rfl) (own_w hw 105 rfl) (own_w hw 45 rfl) (own_w hw 106 rfl) (rm90 l Z a0 hw [] w_SF cc ba vs nn mm ii jj kk h0 Z0 S_w_SF R_w_SF S_s__assertionsDisabled S_s_HI_BYTE_SHIFT S_s_LO_BYTE_SHIFT V_ba hc10 hc12 hc13 hc18 hc19 hc20 hc21 hc22 hc17) e89 (g := (mkF m 21 #[rv bb, iv ii] [(.int ii), (.ref ba)])) (argsL := [(.ref ba), (.int ii)]) (rest := []) (W := 0) (lenOf pd_5 rfl) (hb hby d11_21) hml
  obtain ⟨rfl, N99q, e99⟩ := hQ99
  have N99 := Fr.app N88 N99q
  obtain ⟨fs, hr, hrun, hended, hW, hsame⟩ := X99.leave (v := some (.int cc)) (fun h => by rw [hret] at h; cases h) hlk
  refine ⟨_, _, ?_, hrun, hended, _, _, rfl, ?_, ⟨_, rfl⟩, hW, hsame.mono (by decide) (by decide)⟩
  · show own_S p e below s₁ (mkF m 0 #[rv bb, iv ii] []) _
    refine own_aN X0 hx hby d11_0 ?_
    refine st88 _ ?_
    refine own_iy (pc := 4) X88 hx hby d11_4 (teq (rfl : (0 : Int32) = (0 : Int32))).1 16 ?_
    refine own_aN X88 hx hby d11_16 ?_
    refine st89 _ ?_
    refine own_iN X89 hx hby d11_20 ?_
    refine st99 _ ?_
    rw [← (own_nc hc17)] at hr
    exact retN X99 hx (t := .char) hret (by simp) (hb hby d11_24) hr
  · show Qrm87 Z w_CS w_SF cc bb ba vs nn mm ii jj kk h0 _ T99.heap _
    rw [e99]
    exact ⟨rfl, N99, rfl⟩
theorem own_chG (l : Launch) (Z : State) (a0 : Array Value) (hw : own_HW Z a0) (ws : List Jvm.Cond) (w_CS : Int32) (w_SF : Value) (cc : Int32) (bb : Addr) (cs : List Int32) (ii : Int32) (h0 : Heap) (Z0 : Ext Z.heap h0) (S_w_CS : own_w_CS Z w_CS) (R_w_SF : w_SF.isRef = true) (S_w_SF : own_w_SF Z w_SF) (S_s__assertionsDisabled : own_s__assertionsDisabled Z) (S_s_HI_BYTE_SHIFT : own_s_HI_BYTE_SHIFT Z) (S_s_LO_BYTE_SHIFT : own_s_LO_BYTE_SHIFT Z) (E_bb : Exa Z h0 bb "java/lang/String") (T_bb : own_rep Z h0 bb cs) (hc1 : ¬ (w_CS = (0 : Int32))) (hc17 : own_u16 cc) (hc11 : own_at cs ii cc) :
    own_met l y_9 jdk_42_method_56_code 2 (some .char) ws ({ frames := 4, cells := 0, slots := 0, locals := 53 } : Room) Z #[(.ref bb), (.int ii)] h0 (own_qp Z (some (.int cc)) h0) := by
  obtain ⟨ba, kk, hV, ⟨hC, hA, h8⟩ | ⟨hC, hA⟩⟩ := T_bb
  · exact rm79 l Z a0 hw ws w_CS w_SF cc bb ba (own_lat cs) (Int32.ofNat cs.length) ii kk h0 Z0 S_w_CS S_w_SF R_w_SF E_bb hC hV hA hc1 (own_g_nn hc11) (own_g_lt hc11) (own_g_in hc11) (own_g_get hc11) (own_g_l8 h8 hc11) hc17
  · exact rm87 l Z a0 hw ws w_CS w_SF cc bb ba (own_wid cs) (Int32.ofNat cs.length) (Int32.ofNat (2 * cs.length)) ii (Int32.ofNat (2 * ii.toNatClampNeg)) kk h0 Z0 S_w_CS S_w_SF R_w_SF S_s__assertionsDisabled S_s_HI_BYTE_SHIFT S_s_LO_BYTE_SHIFT E_bb hC hV hA hc1 (own_g_half hc11.2.2.2) (own_g_nn hc11) (own_g_lt hc11) (own_g_dbl hc11) (own_g_inj hc11) (own_g_getj hc11) (own_g_inl hc11) (own_g_getl hc11) hc17
theorem own_sg1 {p : Program} {l : Launch} {e : Env} {s : State} {m : MethodId} {args : Array Value} {below : List Frame} {meth : Method} {c : Code} {T0 : State} {locs : List Loc} (Z : State) (a0 : Array Value) (hw : own_HW Z a0) (cc : Int32) (ba : Addr) (ka : ClassId) (bd : Addr) (kd : ClassId) (vs us : List Value) (nn ii : Int32) (jn : Nat) (x6 : Option Int32) (h0 : Heap) (Z0 : Ext Z.heap h0) (V_ba : Arv Z h0 ba ka .char nn vs (.int (0 : Int32))) (V_bd : Arv Z h0 bd kd .byte nn us (.int (0 : Int32))) (g_bd : Z.heap.size ≤ bd) (hc13 : ii < nn) (hc14 : own_ib ii nn) (hc23 : own_get vs ii (.int (0 : Int32)) (.int cc)) (hc16 : own_l8 cc) (hc24 : (ii).toNatClampNeg = jn) (hc25 : jn < us.length) (hc26 : ba ≠ bd) (X0 : Stand p l e ({ frames := 0, cells := 0, slots := 0, locals := 0 } : Room) s m args below meth c T0 locs 0 0) (hx : p.tables.exec = Jvm.exec) (hZ : Z.Warmed39 s.vm) (hby : c.code = jdk_52_method_21_code) (hml : c.maxLocals = 7) (hown : s.vm.findClass "java/lang/StringUTF16" = some m.cls) (e0 : T0.heap = h0) (N0 : Fr Z.heap.size locs) :
    ∃ (T' : State) (L' : List Loc) (h' : Heap), Stand p l e ({ frames := 0, cells := 0, slots := 0, locals := 0 } : Room) s m args below meth c T' L' 0 0 ∧ T'.heap = h' ∧ Fr Z.heap.size L' ∧ Keep h0 h' [bd] ∧ Ext Z.heap h' ∧ Arv Z h' ba ka .char nn vs (.int (0 : Int32)) ∧ Arv Z h' bd kd .byte nn (us.set jn (.int (cc.toInt8.toInt32))) (.int (0 : Int32)) ∧ ∀ target, Steps p.tables e below (T'.setTop (mkF m 3 #[rv ba, iv (ii + (1 : Int32)), rv bd, iv (ii + (1 : Int32)), iv nn, iv (ii + (1 : Int32)), iv cc] [])) target → Steps p.tables e below (T0.setTop (mkF m 3 #[rv ba, iv ii, rv bd, iv ii, iv nn, iv ii, (own_slot x6)] [])) target := by
  obtain ⟨cl100, Ar100, q100, S100, Nn100, H100, G100⟩ := id V_ba
  have hin100 : ¬ (ii < 0 ∨ cl100.slots.size ≤ (ii).toNatClampNeg) := inb_of S100 hc14
  have hat100 : cl100.slots[(ii).toNatClampNeg]? = some (.int cc) := Has.at H100 hin100 hc23
  obtain ⟨cl101, Ar101, q101, S101, Nn101, H101, G101⟩ := id V_bd
  have hin101 : ¬ (ii < 0 ∨ cl101.slots.size ≤ (ii).toNatClampNeg) := inb_of S101 hc14
  obtain ⟨T102, h102, X102, e102, W102, st102⟩ := stB X0 hx hZ e0 Ar101 (j := ii) hin101 (g := (mkF m 31 #[rv ba, iv ii, rv bd, iv ii, iv nn, iv ii, iv cc] [(.int (cc.toInt8.toInt32)), (.int ii), (.ref bd)])) rfl rfl (hb hby d9_31)
  rw [own_nb] at W102
  have V102 : Arv Z h102 bd kd .byte nn (us.set jn (.int (cc.toInt8.toInt32))) (.int (0 : Int32)) := Arv.set Ar101 q101 S101 Nn101 H101 G101 (fits_nar_byte _) W102 jn hc24 hc25
  have K102 : Keep h0 h102 [bd] := (Keep.refl h0 [bd]).wr W102 (Or.inl (List.mem_of_getElem? (i := 0) rfl))
  have XX102 : Ext Z.heap h102 := own_extW Z0 W102 g_bd
  have N102 := Fr.snoc X102 N0 g_bd
  refine ⟨_, _, _, X102, e102, N102, K102, XX102, (V_ba.other W102 hc26), V102, fun target kt => ?_⟩
  show own_S p e below T0 (mkF m 3 #[rv ba, iv ii, rv bd, iv ii, iv nn, iv ii, (own_slot x6)] []) _
  refine own_i X0 hx hby d9_3 ?_
  refine own_i X0 hx hby d9_5 ?_
  refine own_cn X0 hx hby d9_7 (tlt hc13).2.1 ?_
  refine own_aN X0 hx hby d9_10 ?_
  refine own_iN X0 hx hby d9_11 ?_
  refine X0.caload hx (j := ii) (v := (.int cc)) (by rw [e0]; exact Ar100.1) (State.isArrayOf_alike hZ.alike Ar100.2.1) Ar100.2.2 hin100 hat100 (g := (mkF m 12 #[rv ba, iv ii, rv bd, iv ii, iv nn, iv ii, (own_slot x6)] [(.int ii), (.ref ba)])) rfl rfl (hb hby d9_12) _ ?_
  refine XS.istore X0.here hx rfl (hb hby d9_13) rfl (l' := #[rv ba, iv ii, rv bd, iv ii, iv nn, iv ii, iv cc]) (by cases x6 <;> rfl) ?_
  refine own_i X0 hx hby d9_15 ?_
  refine XS.sipush X0.here hx rfl (hb hby d9_17) ?_
  refine own_cy (pc := 20) X0 hx hby d9_20 (flt (own_n255 hc16)).2.2.2 26 ?_
  refine own_aN X0 hx hby d9_26 ?_
  refine own_iN X0 hx hby d9_27 ?_
  refine own_i X0 hx hby d9_28 ?_
  refine XS.i2b X0.here hx rfl (hb hby d9_30) rfl ?_
  refine st102 _ ?_
  refine XS.iinc X102.here hx rfl (hb hby d9_32) rfl (l' := #[rv ba, iv (ii + (1 : Int32)), rv bd, iv ii, iv nn, iv ii, iv cc]) rfl ?_
  refine XS.iinc X102.here hx rfl (hb hby d9_35) rfl (l' := #[rv ba, iv (ii + (1 : Int32)), rv bd, iv (ii + (1 : Int32)), iv nn, iv ii, iv cc]) rfl ?_
  refine XS.iinc X102.here hx rfl (hb hby d9_38) rfl (l' := #[rv ba, iv (ii + (1 : Int32)), rv bd, iv (ii + (1 : Int32)), iv nn, iv (ii + (1 : Int32)), iv cc]) rfl ?_
  refine own_go (pc := 41) X102 hx hby d9_41 3 ?_
  show own_S p e below T102 (mkF m 3 #[rv ba, iv (ii + (1 : Int32)), rv bd, iv (ii + (1 : Int32)), iv nn, iv (ii + (1 : Int32)), iv cc] []) _
  exact kt
theorem own_lp1 {p : Program} {l : Launch} {e : Env} {s : State} {m : MethodId} {args : Array Value} {below : List Frame} {meth : Method} {c : Code} (Z : State) (a0 : Array Value) (hw : own_HW Z a0) (ba : Addr) (ka : ClassId) (bd : Addr) (kd : ClassId) (cs : List Int32) (us : List Value) (ff : Nat) (hz : own_s1 cs) (hu : us.length = cs.length) (hf : ff ≤ cs.length) (h8 : ∀ i, i < ff → own_l8 (cs.getD i 0)) (g_bd : Z.heap.size ≤ bd) (hne : ba ≠ bd) (hx : p.tables.exec = Jvm.exec) (hZ : Z.Warmed39 s.vm) (hby : c.code = jdk_52_method_21_code) (hml : c.maxLocals = 7) (hown : s.vm.findClass "java/lang/StringUTF16" = some m.cls) :
    ∀ (d i : Nat), i + d = ff → ∀ (T0 : State) (locs : List Loc) (h0 : Heap) (x6 : Option Int32), Ext Z.heap h0 → Arv Z h0 ba ka .char (Int32.ofNat cs.length) (own_ch cs) (.int (0 : Int32)) → Arv Z h0 bd kd .byte (Int32.ofNat cs.length) (own_mix i (own_lat cs) us) (.int (0 : Int32)) → Stand p l e ({ frames := 0, cells := 0, slots := 0, locals := 0 } : Room) s m args below meth c T0 locs 0 0 → T0.heap = h0 → Fr Z.heap.size locs → ∃ (T' : State) (L' : List Loc) (h' : Heap) (x6' : Option Int32), Stand p l e ({ frames := 0, cells := 0, slots := 0, locals := 0 } : Room) s m args below meth c T' L' 0 0 ∧ T'.heap = h' ∧ Fr Z.heap.size L' ∧ Keep h0 h' [bd] ∧ Ext Z.heap h' ∧ Arv Z h' ba ka .char (Int32.ofNat cs.length) (own_ch cs) (.int (0 : Int32)) ∧ Arv Z h' bd kd .byte (Int32.ofNat cs.length) (own_mix ff (own_lat cs) us) (.int (0 : Int32)) ∧ ∀ target, Steps p.tables e below (T'.setTop (mkF m 3 #[rv ba, iv (Int32.ofNat ff), rv bd, iv (Int32.ofNat ff), iv (Int32.ofNat cs.length), iv (Int32.ofNat ff), (own_slot x6')] [])) target → Steps p.tables e below (T0.setTop (mkF m 3 #[rv ba, iv (Int32.ofNat i), rv bd, iv (Int32.ofNat i), iv (Int32.ofNat cs.length), iv (Int32.ofNat i), (own_slot x6)] [])) target := by
  intro d
  induction d with
  | zero =>
    intro i hi T0 locs h0 x6 Z0 V_ba V_bd X0 e0 N0
    obtain rfl : i = ff := by omega
    exact ⟨T0, locs, h0, x6, X0, e0, N0, Keep.refl _ _, Z0, V_ba, V_bd, fun _ k => k⟩
  | succ d ih =>
    intro i hi T0 locs h0 x6 Z0 V_ba V_bd X0 e0 N0
    have hlt : i < ff := by omega
    have hs := hz.2
    have hb' := own_back (n := i) (by omega)
    have hl : (own_lat cs).length = us.length := by rw [hu]; exact own_lat_len cs
    obtain ⟨T1, L1, h1, X1, e1, N1, K1, E1, q_V_ba, q_V_bd, st1⟩ := own_sg1 Z a0 hw (cs.getD i 0) ba ka bd kd (own_ch cs) (own_mix i (own_lat cs) us) (Int32.ofNat cs.length) (Int32.ofNat i) i x6 h0 Z0 V_ba V_bd g_bd (own_ofNat_lt (by omega) (by omega)) ⟨hb'.2, own_ofNat_lt (by omega) (by omega)⟩ (own_get_of i hb'.1 (own_ch_get cs i (by omega))) (h8 i hlt) hb'.1 (by rw [own_mix_len hl]; omega) hne X0 hx hZ hby hml hown e0 N0
    rw [own_mix_set hl (by omega) (own_lat_get cs i (by omega))] at q_V_bd
    rw [own_succ] at st1
    obtain ⟨T2, L2, h2, x6', X2, e2, N2, K2, E2, r_V_ba, r_V_bd, st2⟩ := ih (i + 1) (by omega) T1 L1 h1 (some (cs.getD i 0)) E1 q_V_ba q_V_bd X1 e1 N1
    exact ⟨T2, L2, h2, x6', X2, e2, N2, K1.trans K2 (allS (Or.inl (List.mem_of_getElem? (i := 0) rfl)) all0), E2, r_V_ba, r_V_bd, fun t k => st1 t (st2 t k)⟩
def Qrm103 (Z : State) (ba : Addr) (ka : ClassId) (bd : Addr) (kd : ClassId) (us : List Value) (cs : List Int32) (h0 : Heap) (v : Option Value) (h : Heap) (L : List Loc) : Prop := v = some (.int (Int32.ofNat cs.length)) ∧ Fr Z.heap.size L ∧ Keep h0 h [bd] ∧ Arv Z h bd kd .byte (Int32.ofNat cs.length) (own_lat cs) (.int (0 : Int32))
theorem rm103 (l : Launch) (Z : State) (a0 : Array Value) (hw : own_HW Z a0) (ws : List Jvm.Cond) (ba : Addr) (ka : ClassId) (bd : Addr) (kd : ClassId) (us : List Value) (cs : List Int32) (h0 : Heap) (Z0 : Ext Z.heap h0) (V_ba : Arv Z h0 ba ka .char (Int32.ofNat cs.length) (own_ch cs) (.int (0 : Int32))) (V_bd : Arv Z h0 bd kd .byte (Int32.ofNat cs.length) us (.int (0 : Int32))) (g_bd : Z.heap.size ≤ bd) (hc27 : own_s1 cs) (hc28 : us.length = cs.length) (hc29 : own_all8 cs) (hc26 : ba ≠ bd) :
    own_met l y_14 jdk_52_method_21_code 7 (some .int) ws ({ frames := 0, cells := 0, slots := 0, locals := 0 } : Room) Z #[(.ref ba), (.int (0 : Int32)), (.ref bd), (.int (0 : Int32)), (.int (Int32.ofNat cs.length))] h0 (Qrm103 Z ba ka bd kd us cs h0) := by
  refine own_start (plainFor_of_name pn_5) (fun m => ef_jdk_52_method_21_RIRII m ba (0 : Int32) bd (0 : Int32) (Int32.ofNat cs.length)) ?_
  intro p e s m below meth c s₁ hx hby hml hown hnm X0 hZ e0 hret hlk
  have N0 := Fr.nil Z.heap.size
  obtain ⟨T104, L104, h104, y104_0, X104, e104, N104, K104q, XX104, q104_V_ba, q104_V_bd, st104⟩ := own_lp1 Z a0 hw ba ka bd kd cs us cs.length  hc27 hc28 (Nat.le_refl _) (own_all8_ix hc29) g_bd hc26 hx hZ hby hml hown _ 0 (Nat.zero_add _) _ _ _ none Z0 V_ba V_bd X0 e0 N0
  rw [own_mix_all cs.length (own_lat_len cs) hc28] at q104_V_bd
  have K104 : Keep h0 h104 [bd] := (Keep.refl h0 [bd]).trans K104q (allS (Or.inl (List.mem_of_getElem? (i := 0) rfl)) all0)
  obtain ⟨fs, hr, hrun, hended, hW, hsame⟩ := X104.leave (v := some (.int (Int32.ofNat cs.length))) (fun h => by rw [hret] at h; cases h) hlk
  refine ⟨_, _, ?_, hrun, hended, _, _, rfl, ?_, ⟨_, rfl⟩, hW, hsame.mono (by decide) (by decide)⟩
  · show own_S p e below s₁ (mkF m 0 #[rv ba, iv (0 : Int32), rv bd, iv (0 : Int32), iv (Int32.ofNat cs.length), .unset, .unset] []) _
    refine own_k X0 hx hby d9_0 ?_
    refine XS.istore X0.here hx rfl (hb hby d9_1) rfl (l' := #[rv ba, iv (0 : Int32), rv bd, iv (0 : Int32), iv (Int32.ofNat cs.length), iv (0 : Int32), .unset]) rfl ?_
    refine st104 _ ?_
    show own_S p e below T104 (mkF m 3 #[rv ba, iv (Int32.ofNat cs.length), rv bd, iv (Int32.ofNat cs.length), iv (Int32.ofNat cs.length), iv (Int32.ofNat cs.length), (own_slot y104_0)] []) _
    refine own_i X104 hx hby d9_3 ?_
    refine own_i X104 hx hby d9_5 ?_
    refine own_cy (pc := 7) X104 hx hby d9_7 (flt (Int32.lt_irrefl : ¬ ((Int32.ofNat cs.length) < (Int32.ofNat cs.length)))).2.1 44 ?_
    refine own_i X104 hx hby d9_44 ?_
    exact retI X104 hx hret (hb hby d9_46) hr
  · show Qrm103 Z ba ka bd kd us cs h0 _ T104.heap _
    rw [e104]
    exact ⟨rfl, N104, K104, q104_V_bd⟩
def Qrm105 (Z : State) (cc : Int32) (ba : Addr) (ka : ClassId) (bd : Addr) (kd : ClassId) (us : List Value) (cs : List Int32) (ff : Nat) (h0 : Heap) (v : Option Value) (h : Heap) (L : List Loc) : Prop := v = some (.int (Int32.ofNat ff)) ∧ Fr Z.heap.size L ∧ Keep h0 h [bd] ∧ Arv Z h bd kd .byte (Int32.ofNat cs.length) (own_mix ff (own_lat cs) us) (.int (0 : Int32))
theorem rm105 (l : Launch) (Z : State) (a0 : Array Value) (hw : own_HW Z a0) (ws : List Jvm.Cond) (cc : Int32) (ba : Addr) (ka : ClassId) (bd : Addr) (kd : ClassId) (us : List Value) (cs : List Int32) (ff : Nat) (h0 : Heap) (Z0 : Ext Z.heap h0) (V_ba : Arv Z h0 ba ka .char (Int32.ofNat cs.length) (own_ch cs) (.int (0 : Int32))) (V_bd : Arv Z h0 bd kd .byte (Int32.ofNat cs.length) us (.int (0 : Int32))) (g_bd : Z.heap.size ≤ bd) (hc27 : own_s1 cs) (hc28 : us.length = cs.length) (hc30 : own_fw cs ff cc) (hc26 : ba ≠ bd) :
    own_met l y_14 jdk_52_method_21_code 7 (some .int) ws ({ frames := 0, cells := 0, slots := 0, locals := 0 } : Room) Z #[(.ref ba), (.int (0 : Int32)), (.ref bd), (.int (0 : Int32)), (.int (Int32.ofNat cs.length))] h0 (Qrm105 Z cc ba ka bd kd us cs ff h0) := by
  refine own_start (plainFor_of_name pn_5) (fun m => ef_jdk_52_method_21_RIRII m ba (0 : Int32) bd (0 : Int32) (Int32.ofNat cs.length)) ?_
  intro p e s m below meth c s₁ hx hby hml hown hnm X0 hZ e0 hret hlk
  have N0 := Fr.nil Z.heap.size
  obtain ⟨T106, L106, h106, y106_0, X106, e106, N106, K106q, XX106, q106_V_ba, q106_V_bd, st106⟩ := own_lp1 Z a0 hw ba ka bd kd cs us ff  hc27 hc28 (Nat.le_of_lt hc30.1) hc30.2.2.2.1 g_bd hc26 hx hZ hby hml hown _ 0 (Nat.zero_add _) _ _ _ none Z0 V_ba V_bd X0 e0 N0
  have K106 : Keep h0 h106 [bd] := (Keep.refl h0 [bd]).trans K106q (allS (Or.inl (List.mem_of_getElem? (i := 0) rfl)) all0)
  obtain ⟨cl107, Ar107, q107, S107, Nn107, H107, G107⟩ := id q106_V_ba
  have hin107 : ¬ ((Int32.ofNat ff) < 0 ∨ cl107.slots.size ≤ ((Int32.ofNat ff)).toNatClampNeg) := inb_of S107 (own_fw_ib hc30)
  have hat107 : cl107.slots[((Int32.ofNat ff)).toNatClampNeg]? = some (.int cc) := Has.at H107 hin107 (own_fw_get hc30)
  obtain ⟨fs, hr, hrun, hended, hW, hsame⟩ := X106.leave (v := some (.int (Int32.ofNat ff))) (fun h => by rw [hret] at h; cases h) hlk
  refine ⟨_, _, ?_, hrun, hended, _, _, rfl, ?_, ⟨_, rfl⟩, hW, hsame.mono (by decide) (by decide)⟩
  · show own_S p e below s₁ (mkF m 0 #[rv ba, iv (0 : Int32), rv bd, iv (0 : Int32), iv (Int32.ofNat cs.length), .unset, .unset] []) _
    refine own_k X0 hx hby d9_0 ?_
    refine XS.istore X0.here hx rfl (hb hby d9_1) rfl (l' := #[rv ba, iv (0 : Int32), rv bd, iv (0 : Int32), iv (Int32.ofNat cs.length), iv (0 : Int32), .unset]) rfl ?_
    refine st106 _ ?_
    show own_S p e below T106 (mkF m 3 #[rv ba, iv (Int32.ofNat ff), rv bd, iv (Int32.ofNat ff), iv (Int32.ofNat cs.length), iv (Int32.ofNat ff), (own_slot y106_0)] []) _
    refine own_i X106 hx hby d9_3 ?_
    refine own_i X106 hx hby d9_5 ?_
    refine own_cn X106 hx hby d9_7 (tlt (own_fw_lt hc30)).2.1 ?_
    refine own_aN X106 hx hby d9_10 ?_
    refine own_iN X106 hx hby d9_11 ?_
    refine X106.caload hx (j := (Int32.ofNat ff)) (v := (.int cc)) (by rw [e106]; exact Ar107.1) (State.isArrayOf_alike hZ.alike Ar107.2.1) Ar107.2.2 hin107 hat107 (g := (mkF m 12 #[rv ba, iv (Int32.ofNat ff), rv bd, iv (Int32.ofNat ff), iv (Int32.ofNat cs.length), iv (Int32.ofNat ff), (own_slot y106_0)] [(.int (Int32.ofNat ff)), (.ref ba)])) rfl rfl (hb hby d9_12) _ ?_
    refine XS.istore X106.here hx rfl (hb hby d9_13) rfl (l' := #[rv ba, iv (Int32.ofNat ff), rv bd, iv (Int32.ofNat ff), iv (Int32.ofNat cs.length), iv (Int32.ofNat ff), iv cc]) (by cases y106_0 <;> rfl) ?_
    refine own_i X106 hx hby d9_15 ?_
    refine XS.sipush X106.here hx rfl (hb hby d9_17) ?_
    refine own_cn X106 hx hby d9_20 (tlt (own_fw_255 hc30)).2.2.2 ?_
    refine own_i X106 hx hby d9_23 ?_
    exact retI X106 hx hret (hb hby d9_25) hr
  · show Qrm105 Z cc ba ka bd kd us cs ff h0 _ T106.heap _
    rw [e106]
    exact ⟨rfl, N106, K106, q106_V_bd⟩
def Qrm109 (Z : State) (cc : Int32) (bd : Addr) (kd : ClassId) (us : List Value) (mm ii jj : Int32) (jn : Nat) (h0 : Heap) (v : Option Value) (h : Heap) (L : List Loc) : Prop := v = none ∧ Fr Z.heap.size L ∧ Keep h0 h [bd] ∧ Arv Z h bd kd .byte mm ((us.set jn (.int (cc.toInt8.toInt32))).set (jn + 1) (.int ((cc >>> ((8 : Int32) &&& 31)).toInt8.toInt32))) (.int (0 : Int32))
theorem rm109 (l : Launch) (Z : State) (a0 : Array Value) (hw : own_HW Z a0) (ws : List Jvm.Cond) (cc : Int32) (bd : Addr) (kd : ClassId) (us : List Value) (mm ii jj : Int32) (jn : Nat) (h0 : Heap) (Z0 : Ext Z.heap h0) (S_s__assertionsDisabled : own_s__assertionsDisabled Z) (S_s_HI_BYTE_SHIFT : own_s_HI_BYTE_SHIFT Z) (S_s_LO_BYTE_SHIFT : own_s_LO_BYTE_SHIFT Z) (V_bd : Arv Z h0 bd kd .byte mm us (.int (0 : Int32))) (g_bd : Z.heap.size ≤ bd) (hc18 : (ii <<< ((1 : Int32) &&& 31)) = jj) (hc19 : own_ib jj mm) (hc31 : (jj).toNatClampNeg = jn) (hc25 : jn < us.length) (hc21 : own_ib (jj + (1 : Int32)) mm) (hc32 : ((jj + (1 : Int32))).toNatClampNeg = (jn + 1)) (hc33 : (jn + 1) < (us.set jn (.int (cc.toInt8.toInt32))).length) :
    own_met l y_15 jdk_52_method_4_code 3 none ws ({ frames := 0, cells := 0, slots := 0, locals := 0 } : Room) Z #[(.ref bd), (.int ii), (.int cc)] h0 (Qrm109 Z cc bd kd us mm ii jj jn h0) := by
  refine own_start (plainFor_of_name pn_5) (fun m => ef_jdk_52_method_4_RII m bd ii cc) ?_
  intro p e s m below meth c s₁ hx hby hml hown hnm X0 hZ e0 hret hlk
  have N0 := Fr.nil Z.heap.size
  obtain ⟨T110, X110, e110, st110⟩ := getS2 X0 hx hZ hown (host := "") (Or.inl (own_w hw 98 rfl)) Via.refl e0 (S_s__assertionsDisabled.ext Z0) (g := (mkF m 0 #[rv bd, iv ii, iv cc] [])) rfl (hb hby d22_0)
  obtain ⟨T111, X111, e111, st111⟩ := getS2 X110 hx hZ hown (host := "") (Or.inl (own_w hw 99 rfl)) Via.refl e110 (S_s_HI_BYTE_SHIFT.ext Z0) (g := (mkF m 38 #[rv bd, iv (jj + (1 : Int32)), iv cc] [(.int cc), (.int jj), (.ref bd)])) rfl (hb hby d22_38)
  obtain ⟨cl112, Ar112, q112, S112, Nn112, H112, G112⟩ := id V_bd
  have hin112 : ¬ (jj < 0 ∨ cl112.slots.size ≤ (jj).toNatClampNeg) := inb_of S112 hc19
  obtain ⟨T113, h113, X113, e113, W113, st113⟩ := stB X111 hx hZ e111 Ar112 (j := jj) hin112 (g := (mkF m 43 #[rv bd, iv (jj + (1 : Int32)), iv cc] [(.int (cc.toInt8.toInt32)), (.int jj), (.ref bd)])) rfl rfl (hb hby d22_43)
  rw [own_nb] at W113
  have V113 : Arv Z h113 bd kd .byte mm (us.set jn (.int (cc.toInt8.toInt32))) (.int (0 : Int32)) := Arv.set Ar112 q112 S112 Nn112 H112 G112 (fits_nar_byte _) W113 jn hc31 hc25
  have K113 : Keep h0 h113 [bd] := (Keep.refl h0 [bd]).wr W113 (Or.inl (List.mem_of_getElem? (i := 0) rfl))
  have XX113 : Ext Z.heap h113 := own_extW Z0 W113 g_bd
  have N113 := Fr.snoc X113 N0 g_bd
  obtain ⟨T114, X114, e114, st114⟩ := getS2 X113 hx hZ hown (host := "") (Or.inl (own_w hw 100 rfl)) Via.refl e113 (S_s_LO_BYTE_SHIFT.ext XX113) (g := (mkF m 47 #[rv bd, iv (jj + (1 : Int32)), iv cc] [(.int cc), (.int (jj + (1 : Int32))), (.ref bd)])) rfl (hb hby d22_47)
  obtain ⟨cl115, Ar115, q115, S115, Nn115, H115, G115⟩ := id V113
  have hin115 : ¬ ((jj + (1 : Int32)) < 0 ∨ cl115.slots.size ≤ ((jj + (1 : Int32))).toNatClampNeg) := inb_of S115 hc21
  obtain ⟨T116, h116, X116, e116, W116, st116⟩ := stB X114 hx hZ e114 Ar115 (j := (jj + (1 : Int32))) hin115 (g := (mkF m 52 #[rv bd, iv (jj + (1 : Int32)), iv cc] [(.int ((cc >>> ((8 : Int32) &&& 31)).toInt8.toInt32)), (.int (jj + (1 : Int32))), (.ref bd)])) rfl rfl (hb hby d22_52)
  rw [own_nb] at W116
  have V116 : Arv Z h116 bd kd .byte mm ((us.set jn (.int (cc.toInt8.toInt32))).set (jn + 1) (.int ((cc >>> ((8 : Int32) &&& 31)).toInt8.toInt32))) (.int (0 : Int32)) := Arv.set Ar115 q115 S115 Nn115 H115 G115 (fits_nar_byte _) W116 (jn + 1) hc32 hc33
  have K116 : Keep h0 h116 [bd] := K113.wr W116 (Or.inl (List.mem_of_getElem? (i := 0) rfl))
  have XX116 : Ext Z.heap h116 := own_extW XX113 W116 g_bd
  have N116 := Fr.snoc X116 N113 g_bd
  obtain ⟨fs, hr, hrun, hended, hW, hsame⟩ := X116.leave (v := none) (fun _ => rfl) hlk
  refine ⟨_, _, ?_, hrun, hended, _, _, rfl, ?_, ⟨_, rfl⟩, hW, hsame.mono (by decide) (by decide)⟩
  · show own_S p e below s₁ (mkF m 0 #[rv bd, iv ii, iv cc] []) _
    refine st110 _ ?_
    refine own_iy (pc := 3) X110 hx hby d22_3 (feq (by decide : ¬ ((1 : Int32) = (0 : Int32)))).2 28 ?_
    refine own_iN X110 hx hby d22_28 ?_
    refine own_k X110 hx hby d22_29 ?_
    refine XS.ishl X110.here hx rfl (hb hby d22_30) rfl ?_
    show own_S p e below T110 (mkF m 31 #[rv bd, iv ii, iv cc] [(.int (ii <<< ((1 : Int32) &&& 31)))]) _
    rw [hc18]
    refine XS.istoreN X110.here hx rfl (hb hby d22_31) rfl (l' := #[rv bd, iv jj, iv cc]) rfl ?_
    refine own_aN X110 hx hby d22_32 ?_
    refine own_iN X110 hx hby d22_33 ?_
    refine XS.iinc X110.here hx rfl (hb hby d22_34) rfl (l' := #[rv bd, iv (jj + (1 : Int32)), iv cc]) rfl ?_
    refine own_iN X110 hx hby d22_37 ?_
    refine st111 _ ?_
    refine XS.ishr X111.here hx rfl (hb hby d22_41) rfl ?_
    show own_S p e below T111 (mkF m 42 #[rv bd, iv (jj + (1 : Int32)), iv cc] [(.int (cc >>> ((0 : Int32) &&& 31))), (.int jj), (.ref bd)]) _
    rw [(own_sh0 cc)]
    refine XS.i2b X111.here hx rfl (hb hby d22_42) rfl ?_
    refine st113 _ ?_
    refine own_aN X113 hx hby d22_44 ?_
    refine own_iN X113 hx hby d22_45 ?_
    refine own_iN X113 hx hby d22_46 ?_
    refine st114 _ ?_
    refine XS.ishr X114.here hx rfl (hb hby d22_50) rfl ?_
    refine XS.i2b X114.here hx rfl (hb hby d22_51) rfl ?_
    refine st116 _ ?_
    exact X116.returnOut hx hret (hb hby d22_53) hr
  · show Qrm109 Z cc bd kd us mm ii jj jn h0 _ T116.heap _
    rw [e116]
    exact ⟨rfl, N116, K116, V116⟩
theorem own_sg2 {p : Program} {l : Launch} {e : Env} {s : State} {m : MethodId} {args : Array Value} {below : List Frame} {meth : Method} {c : Code} {T0 : State} {locs : List Loc} (Z : State) (a0 : Array Value) (hw : own_HW Z a0) (cc : Int32) (ba : Addr) (ka : ClassId) (bd : Addr) (kd : ClassId) (vs us : List Value) (nn mm ii jj : Int32) (jn : Nat) (h0 : Heap) (Z0 : Ext Z.heap h0) (S_s__assertionsDisabled : own_s__assertionsDisabled Z) (S_s_HI_BYTE_SHIFT : own_s_HI_BYTE_SHIFT Z) (S_s_LO_BYTE_SHIFT : own_s_LO_BYTE_SHIFT Z) (V_ba : Arv Z h0 ba ka .char nn vs (.int (0 : Int32))) (V_bd : Arv Z h0 bd kd .byte mm us (.int (0 : Int32))) (g_bd : Z.heap.size ≤ bd) (hc13 : ii < nn) (hc14 : own_ib ii nn) (hc23 : own_get vs ii (.int (0 : Int32)) (.int cc)) (hc18 : (ii <<< ((1 : Int32) &&& 31)) = jj) (hc19 : own_ib jj mm) (hc31 : (jj).toNatClampNeg = jn) (hc25 : jn < us.length) (hc21 : own_ib (jj + (1 : Int32)) mm) (hc32 : ((jj + (1 : Int32))).toNatClampNeg = (jn + 1)) (hc33 : (jn + 1) < (us.set jn (.int (cc.toInt8.toInt32))).length) (hc26 : ba ≠ bd) (X0 : Stand p l e ({ frames := 3, cells := 1, slots := 8, locals := 60 } : Room) s m args below meth c T0 locs 1 8) (hx : p.tables.exec = Jvm.exec) (hZ : Z.Warmed39 s.vm) (hby : c.code = jdk_52_method_14_code) (hml : c.maxLocals = 5) (hown : s.vm.findClass "java/lang/StringUTF16" = some m.cls) (e0 : T0.heap = h0) (N0 : Fr Z.heap.size locs) :
    ∃ (T' : State) (L' : List Loc) (h' : Heap), Stand p l e ({ frames := 3, cells := 1, slots := 8, locals := 60 } : Room) s m args below meth c T' L' 1 8 ∧ T'.heap = h' ∧ Fr Z.heap.size L' ∧ Keep h0 h' [bd] ∧ Ext Z.heap h' ∧ Arv Z h' ba ka .char nn vs (.int (0 : Int32)) ∧ Arv Z h' bd kd .byte mm ((us.set jn (.int (cc.toInt8.toInt32))).set (jn + 1) (.int ((cc >>> ((8 : Int32) &&& 31)).toInt8.toInt32))) (.int (0 : Int32)) ∧ ∀ target, Steps p.tables e below (T'.setTop (mkF m 8 #[rv ba, iv (ii + (1 : Int32)), iv nn, rv bd, iv (ii + (1 : Int32))] [])) target → Steps p.tables e below (T0.setTop (mkF m 8 #[rv ba, iv ii, iv nn, rv bd, iv ii] [])) target := by
  obtain ⟨cl108, Ar108, q108, S108, Nn108, H108, G108⟩ := id V_ba
  have hin108 : ¬ (ii < 0 ∨ cl108.slots.size ≤ (ii).toNatClampNeg) := inb_of S108 hc14
  have hat108 : cl108.slots[(ii).toNatClampNeg]? = some (.int cc) := Has.at H108 hin108 hc23
  obtain ⟨_, T117, Lc117, X117, hQ117, st117⟩ := own_static (y := y_15) X0 hx hZ hown (own_w hw 95 rfl) (own_w hw 96 rfl) (own_w hw 45 rfl) (own_w hw 97 rfl) (rm109 l Z a0 hw [] cc bd kd us mm ii jj jn h0 Z0 S_s__assertionsDisabled S_s_HI_BYTE_SHIFT S_s_LO_BYTE_SHIFT V_bd g_bd hc18 hc19 hc31 hc25 hc21 hc32 hc33) e0 (g := (mkF m 20 #[rv ba, iv ii, iv nn, rv bd, iv ii] [(.int cc), (.int ii), (.ref bd)])) (argsL := [(.ref bd), (.int ii), (.int cc)]) (rest := []) (W := 0) (lenOf pd_8 rfl) (hb hby d19_20) hml
  obtain ⟨rfl, N117q, K117q, q117_V_bd⟩ := hQ117
  have K117 : Keep h0 T117.heap [bd] := (Keep.refl h0 [bd]).trans K117q (allS (Or.inl (List.mem_of_getElem? (i := 0) rfl)) all0)
  have XX117 : Ext Z.heap T117.heap := own_extK Z0 K117q (allS g_bd all0)
  have N117 := Fr.app N0 N117q
  refine ⟨_, _, _, X117, rfl, N117, K117, XX117, (V_ba.keep K117q (ninS hc26 (nin0))), q117_V_bd, fun target kt => ?_⟩
  show own_S p e below T0 (mkF m 8 #[rv ba, iv ii, iv nn, rv bd, iv ii] []) _
  refine own_i X0 hx hby d19_8 ?_
  refine own_iN X0 hx hby d19_10 ?_
  refine own_cn X0 hx hby d19_11 (tlt hc13).2.1 ?_
  refine own_aN X0 hx hby d19_14 ?_
  refine own_i X0 hx hby d19_15 ?_
  refine own_aN X0 hx hby d19_17 ?_
  refine own_iN X0 hx hby d19_18 ?_
  refine X0.caload hx (j := ii) (v := (.int cc)) (by rw [e0]; exact Ar108.1) (State.isArrayOf_alike hZ.alike Ar108.2.1) Ar108.2.2 hin108 hat108 (g := (mkF m 19 #[rv ba, iv ii, iv nn, rv bd, iv ii] [(.int ii), (.ref ba), (.int ii), (.ref bd)])) rfl rfl (hb hby d19_19) _ ?_
  refine st117 _ ?_
  refine XS.iinc X117.here hx rfl (hb hby d19_23) rfl (l' := #[rv ba, iv (ii + (1 : Int32)), iv nn, rv bd, iv ii]) rfl ?_
  refine XS.iinc X117.here hx rfl (hb hby d19_26) rfl (l' := #[rv ba, iv (ii + (1 : Int32)), iv nn, rv bd, iv (ii + (1 : Int32))]) rfl ?_
  refine own_go (pc := 29) X117 hx hby d19_29 8 ?_
  show own_S p e below T117 (mkF m 8 #[rv ba, iv (ii + (1 : Int32)), iv nn, rv bd, iv (ii + (1 : Int32))] []) _
  exact kt
theorem own_lp2 {p : Program} {l : Launch} {e : Env} {s : State} {m : MethodId} {args : Array Value} {below : List Frame} {meth : Method} {c : Code} (Z : State) (a0 : Array Value) (hw : own_HW Z a0) (ba : Addr) (ka : ClassId) (bd : Addr) (kd : ClassId) (cs : List Int32) (us : List Value) (ff : Nat) (S_s__assertionsDisabled : own_s__assertionsDisabled Z) (S_s_HI_BYTE_SHIFT : own_s_HI_BYTE_SHIFT Z) (S_s_LO_BYTE_SHIFT : own_s_LO_BYTE_SHIFT Z) (hz : own_s1 cs) (hu : us.length = 2 * cs.length) (hf : ff ≤ cs.length) (g_bd : Z.heap.size ≤ bd) (hne : ba ≠ bd) (hx : p.tables.exec = Jvm.exec) (hZ : Z.Warmed39 s.vm) (hby : c.code = jdk_52_method_14_code) (hml : c.maxLocals = 5) (hown : s.vm.findClass "java/lang/StringUTF16" = some m.cls) :
    ∀ (d i : Nat), i + d = ff → ∀ (T0 : State) (locs : List Loc) (h0 : Heap), Ext Z.heap h0 → Arv Z h0 ba ka .char (Int32.ofNat cs.length) (own_ch cs) (.int (0 : Int32)) → Arv Z h0 bd kd .byte (Int32.ofNat (2 * cs.length)) (own_mix (2 * i) (own_wid cs) us) (.int (0 : Int32)) → Stand p l e ({ frames := 3, cells := 1, slots := 8, locals := 60 } : Room) s m args below meth c T0 locs 1 8 → T0.heap = h0 → Fr Z.heap.size locs → ∃ (T' : State) (L' : List Loc) (h' : Heap), Stand p l e ({ frames := 3, cells := 1, slots := 8, locals := 60 } : Room) s m args below meth c T' L' 1 8 ∧ T'.heap = h' ∧ Fr Z.heap.size L' ∧ Keep h0 h' [bd] ∧ Ext Z.heap h' ∧ Arv Z h' ba ka .char (Int32.ofNat cs.length) (own_ch cs) (.int (0 : Int32)) ∧ Arv Z h' bd kd .byte (Int32.ofNat (2 * cs.length)) (own_mix (2 * ff) (own_wid cs) us) (.int (0 : Int32)) ∧ ∀ target, Steps p.tables e below (T'.setTop (mkF m 8 #[rv ba, iv (Int32.ofNat ff), iv (Int32.ofNat cs.length), rv bd, iv (Int32.ofNat ff)] [])) target → Steps p.tables e below (T0.setTop (mkF m 8 #[rv ba, iv (Int32.ofNat i), iv (Int32.ofNat cs.length), rv bd, iv (Int32.ofNat i)] [])) target := by
  intro d
  induction d with
  | zero =>
    intro i hi T0 locs h0  Z0 V_ba V_bd X0 e0 N0
    obtain rfl : i = ff := by omega
    exact ⟨T0, locs, h0, X0, e0, N0, Keep.refl _ _, Z0, V_ba, V_bd, fun _ k => k⟩
  | succ d ih =>
    intro i hi T0 locs h0  Z0 V_ba V_bd X0 e0 N0
    have hlt : i < ff := by omega
    have hs := hz.2
    have hb' := own_back (n := i) (by omega)
    have hb2 := own_back (n := 2 * i) (by omega)
    have hb3 := own_back (n := 2 * i + 1) (by omega)
    have hl : (own_wid cs).length = us.length := by rw [hu]; exact own_wid_len cs
    have hg := own_wid_get cs i (by omega)
    obtain ⟨T1, L1, h1, X1, e1, N1, K1, E1, q_V_ba, q_V_bd, st1⟩ := own_sg2 Z a0 hw (cs.getD i 0) ba ka bd kd (own_ch cs) (own_mix (2 * i) (own_wid cs) us) (Int32.ofNat cs.length) (Int32.ofNat (2 * cs.length)) (Int32.ofNat i) (Int32.ofNat (2 * i)) (2 * i) h0 Z0 S_s__assertionsDisabled S_s_HI_BYTE_SHIFT S_s_LO_BYTE_SHIFT V_ba V_bd g_bd (own_ofNat_lt (by omega) (by omega)) ⟨hb'.2, own_ofNat_lt (by omega) (by omega)⟩ (own_get_of i hb'.1 (own_ch_get cs i (by omega))) (own_n4 (P := fun i => (Int32.ofNat i <<< ((1 : Int32) &&& 31)) = Int32.ofNat (2 * i)) (by decide) (by omega)) ⟨hb2.2, own_ofNat_lt (by omega) (by omega)⟩ hb2.1 (by rw [own_mix_len hl]; omega) (by rw [own_succ]; exact ⟨hb3.2, own_ofNat_lt (by omega) (by omega)⟩) (by rw [own_succ]; exact hb3.1) (by rw [List.length_set, own_mix_len hl]; omega) hne X0 hx hZ hby hml hown e0 N0
    rw [own_mix_set hl (by omega) hg.1, own_mix_set hl (by omega) hg.2, (by omega : 2 * i + 1 + 1 = 2 * (i + 1))] at q_V_bd
    rw [own_succ] at st1
    obtain ⟨T2, L2, h2, X2, e2, N2, K2, E2, r_V_ba, r_V_bd, st2⟩ := ih (i + 1) (by omega) T1 L1 h1  E1 q_V_ba q_V_bd X1 e1 N1
    exact ⟨T2, L2, h2, X2, e2, N2, K1.trans K2 (allS (Or.inl (List.mem_of_getElem? (i := 0) rfl)) all0), E2, r_V_ba, r_V_bd, fun t k => st1 t (st2 t k)⟩
def Qrm120 (Z : State) (cs : List Int32) (h0 : Heap) (v : Option Value) (h : Heap) (L : List Loc) : Prop := v = some (.int (Int32.ofNat (2 * cs.length))) ∧ Fr Z.heap.size L ∧ h = h0
theorem rm120 (l : Launch) (Z : State) (a0 : Array Value) (hw : own_HW Z a0) (ws : List Jvm.Cond) (cs : List Int32) (h0 : Heap) (Z0 : Ext Z.heap h0) (hc27 : own_s1 cs) :
    own_met l y_16 jdk_52_method_3_code 1 (some .int) ws ({ frames := 0, cells := 0, slots := 0, locals := 0 } : Room) Z #[(.int (Int32.ofNat cs.length))] h0 (Qrm120 Z cs h0) := by
  refine own_start (plainFor_of_name pn_5) (fun m => ef_jdk_52_method_3_I m (Int32.ofNat cs.length)) ?_
  intro p e s m below meth c s₁ hx hby hml hown hnm X0 hZ e0 hret hlk
  have N0 := Fr.nil Z.heap.size
  obtain ⟨fs, hr, hrun, hended, hW, hsame⟩ := X0.leave (v := some (.int (Int32.ofNat (2 * cs.length)))) (fun h => by rw [hret] at h; cases h) hlk
  refine ⟨_, _, ?_, hrun, hended, _, _, rfl, ?_, ⟨_, rfl⟩, hW, hsame.mono (by decide) (by decide)⟩
  · show own_S p e below s₁ (mkF m 0 #[iv (Int32.ofNat cs.length)] []) _
    refine own_iN X0 hx hby d21_0 ?_
    refine own_iy (pc := 1) X0 hx hby d21_1 (flt (own_z_nn hc27)).2.1 12 ?_
    refine own_iN X0 hx hby d21_12 ?_
    refine X0.ldcInt hx hown (mvT hZ (own_w hw 94 rfl)) (g := (mkF m 13 #[iv (Int32.ofNat cs.length)] [(.int (Int32.ofNat cs.length))])) rfl (hb hby d21_13) _ ?_
    refine own_cy (pc := 15) X0 hx hby d21_15 (tlt (own_z_lt (K := (1073741823 : Int32)) (by decide) hc27)).1 55 ?_
    refine own_iN X0 hx hby d21_55 ?_
    refine own_k X0 hx hby d21_56 ?_
    refine XS.ishl X0.here hx rfl (hb hby d21_57) rfl ?_
    show own_S p e below s₁ (mkF m 58 #[iv (Int32.ofNat cs.length)] [(.int ((Int32.ofNat cs.length) <<< ((1 : Int32) &&& 31)))]) _
    rw [(own_z_dbl hc27)]
    exact retI X0 hx hret (hb hby d21_58) hr
  · show Qrm120 Z cs h0 _ s₁.heap _
    rw [e0]
    exact ⟨rfl, N0, rfl⟩
def Qrm119 (Z : State) (cs : List Int32) (h0 : Heap) (v : Option Value) (h : Heap) (L : List Loc) : Prop := ∃ b122 : Addr, ∃ k122 : ClassId, v = some (.ref b122) ∧ Fr Z.heap.size L ∧ Keep h0 h [] ∧ h0.size ≤ b122 ∧ Arv Z h b122 k122 .byte (Int32.ofNat (2 * cs.length)) (List.replicate (2 * cs.length) (.int (0 : Int32))) (.int (0 : Int32))
theorem rm119 (l : Launch) (Z : State) (a0 : Array Value) (hw : own_HW Z a0) (ws : List Jvm.Cond) (cs : List Int32) (h0 : Heap) (Z0 : Ext Z.heap h0) (hc27 : own_s1 cs) :
    own_met l y_17 jdk_52_method_2_code 1 (some (.array .byte)) ws ({ frames := 1, cells := 1, slots := 8, locals := 12 } : Room) Z #[(.int (Int32.ofNat cs.length))] h0 (Qrm119 Z cs h0) := by
  refine own_start (plainFor_of_name pn_5) (fun m => ef_jdk_52_method_2_I m (Int32.ofNat cs.length)) ?_
  intro p e s m below meth c s₁ hx hby hml hown hnm X0 hZ e0 hret hlk
  have N0 := Fr.nil Z.heap.size
  obtain ⟨_, T121, Lc121, X121, hQ121, st121⟩ := own_static (y := y_16) X0 hx hZ hown (own_w hw 91 rfl) (own_w hw 92 rfl) (own_w hw 45 rfl) (own_w hw 93 rfl) (rm120 l Z a0 hw [] cs h0 Z0 hc27) e0 (g := (mkF m 1 #[iv (Int32.ofNat cs.length)] [(.int (Int32.ofNat cs.length))])) (argsL := [(.int (Int32.ofNat cs.length))]) (rest := []) (W := 0) (lenOf pd_9 rfl) (hb hby d20_1) hml
  obtain ⟨rfl, N121q, e121⟩ := hQ121
  have N121 := Fr.app N0 N121q
  obtain ⟨T122, h122, k122, X122, e122, E122, A122, st122⟩ := newP X121 hx hZ (own_w hw 20 rfl) e121 (g := (mkF m 4 #[iv (Int32.ofNat cs.length)] [(.int (Int32.ofNat (2 * cs.length)))])) rfl (hb hby d20_4) rfl (own_z_nn2 hc27) (cap := 8) (own_z_cap2 hc27) (by decide) (by decide) (by decide)
  obtain ⟨b122, g122⟩ : ∃ z, z = h0.size := ⟨_, rfl⟩
  rw [← g122] at A122 st122
  have g_b122 : Z.heap.size ≤ b122 := Nat.le_trans Z0.1 (Nat.le_of_eq g122.symm)
  have sz_b122 : h0.size ≤ b122 := Nat.le_trans (Keep.refl h0 []).1 (Nat.le_of_eq g122.symm)
  have V_b122 : Arv Z h122 b122 k122 .byte (Int32.ofNat (2 * cs.length)) (List.replicate (2 * cs.length) (.int (0 : Int32))) (.int (0 : Int32)) := (Arv.new A122 (own_z_nn2 hc27)).pad (pad_rep [] (.int (0 : Int32)) (2 * cs.length))
  have K122 : Keep h0 h122 [] := (Keep.refl h0 []).ext E122
  have XX122 : Ext Z.heap h122 := own_ext2 Z0 E122
  obtain ⟨fs, hr, hrun, hended, hW, hsame⟩ := X122.leave (v := some (.ref b122)) (fun h => by rw [hret] at h; cases h) hlk
  refine ⟨_, _, ?_, hrun, hended, _, _, rfl, ?_, ⟨_, rfl⟩, hW, hsame.mono (by decide) (by decide)⟩
  · show own_S p e below s₁ (mkF m 0 #[iv (Int32.ofNat cs.length)] []) _
    refine own_iN X0 hx hby d20_0 ?_
    refine st121 _ ?_
    refine st122 _ ?_
    jvm_step X122.here [X122.here.top, hx, (hb hby d20_6), X122.method', hret, Value.isRef, FieldType.isReference]
    first | (intro acts; rw [hr _ acts rfl rfl rfl]) | rw [hr _ _ rfl rfl rfl]
    exact Steps.refl _
  · show Qrm119 Z cs h0 _ T122.heap _
    rw [e122]
    exact ⟨b122, k122, rfl, N121, K122, sz_b122, V_b122⟩
def Qrm118 (Z : State) (ba : Addr) (ka : ClassId) (cs : List Int32) (h0 : Heap) (v : Option Value) (h : Heap) (L : List Loc) : Prop := ∃ b124 : Addr, ∃ k125 : ClassId, v = some (.ref b124) ∧ Fr Z.heap.size L ∧ Keep h0 h [] ∧ h0.size ≤ b124 ∧ Arv Z h b124 k125 .byte (Int32.ofNat (2 * cs.length)) (own_wid cs) (.int (0 : Int32))
theorem rm118 (l : Launch) (Z : State) (a0 : Array Value) (hw : own_HW Z a0) (ws : List Jvm.Cond) (ba : Addr) (ka : ClassId) (cs : List Int32) (h0 : Heap) (Z0 : Ext Z.heap h0) (S_s__assertionsDisabled : own_s__assertionsDisabled Z) (S_s_HI_BYTE_SHIFT : own_s_HI_BYTE_SHIFT Z) (S_s_LO_BYTE_SHIFT : own_s_LO_BYTE_SHIFT Z) (V_ba : Arv Z h0 ba ka .char (Int32.ofNat cs.length) (own_ch cs) (.int (0 : Int32))) (hc27 : own_s1 cs) :
    own_met l y_18 jdk_52_method_14_code 5 (some (.array .byte)) ws ({ frames := 3, cells := 1, slots := 8, locals := 60 } : Room) Z #[(.ref ba), (.int (0 : Int32)), (.int (Int32.ofNat cs.length))] h0 (Qrm118 Z ba ka cs h0) := by
  refine own_start (plainFor_of_name pn_5) (fun m => ef_jdk_52_method_14_RII m ba (0 : Int32) (Int32.ofNat cs.length)) ?_
  intro p e s m below meth c s₁ hx hby hml hown hnm X0 hZ e0 hret hlk
  have N0 := Fr.nil Z.heap.size
  obtain ⟨_, T123, Lc123, X123, hQ123, st123⟩ := own_static (y := y_17) X0 hx hZ hown (own_w hw 88 rfl) (own_w hw 89 rfl) (own_w hw 45 rfl) (own_w hw 90 rfl) (rm119 l Z a0 hw [] cs h0 Z0 hc27) e0 (g := (mkF m 1 #[rv ba, iv (0 : Int32), iv (Int32.ofNat cs.length), .unset, .unset] [(.int (Int32.ofNat cs.length))])) (argsL := [(.int (Int32.ofNat cs.length))]) (rest := []) (W := 0) (lenOf pd_10 rfl) (hb hby d19_1) hml
  obtain ⟨b124, k125, rfl, N123q, K123q, szn_b124, q123_V_b124⟩ := hQ123
  have g_b124 : Z.heap.size ≤ b124 := Nat.le_trans Z0.1 szn_b124
  have sz_b124 : h0.size ≤ b124 := Nat.le_trans (Keep.refl h0 []).1 szn_b124
  have K123 : Keep h0 T123.heap [] := (Keep.refl h0 []).trans K123q all0
  have XX123 : Ext Z.heap T123.heap := own_extK Z0 K123q all0
  have N123 := Fr.app N0 N123q
  have ne_ba_b124 : ba ≠ b124 := Nat.ne_of_lt (Nat.lt_of_lt_of_le V_ba.lt szn_b124)
  obtain ⟨T126, L126, h126, X126, e126, N126, K126q, XX126, q126_V_ba, q126_V_b124, st126⟩ := own_lp2 Z a0 hw ba ka b124 k125 cs (List.replicate (2 * cs.length) (.int (0 : Int32))) cs.length S_s__assertionsDisabled S_s_HI_BYTE_SHIFT S_s_LO_BYTE_SHIFT hc27 List.length_replicate (Nat.le_refl _) g_b124 ne_ba_b124 hx hZ hby hml hown _ 0 (Nat.zero_add _) _ _ _  XX123 (V_ba.keep K123q nin0) q123_V_b124 X123 rfl N123
  rw [own_mix_all (2 * cs.length) (own_wid_len cs) List.length_replicate] at q126_V_b124
  have K126 : Keep h0 h126 [] := K123.trans K126q (allS (Or.inr sz_b124) all0)
  obtain ⟨fs, hr, hrun, hended, hW, hsame⟩ := X126.leave (v := some (.ref b124)) (fun h => by rw [hret] at h; cases h) hlk
  refine ⟨_, _, ?_, hrun, hended, _, _, rfl, ?_, ⟨_, rfl⟩, hW, hsame.mono (by decide) (by decide)⟩
  · show own_S p e below s₁ (mkF m 0 #[rv ba, iv (0 : Int32), iv (Int32.ofNat cs.length), .unset, .unset] []) _
    refine own_iN X0 hx hby d19_0 ?_
    refine st123 _ ?_
    refine XS.astoreN X123.here hx rfl (hb hby d19_4) rfl rfl (l' := #[rv ba, iv (0 : Int32), iv (Int32.ofNat cs.length), rv b124, .unset]) rfl ?_
    refine own_k X123 hx hby d19_5 ?_
    refine XS.istore X123.here hx rfl (hb hby d19_6) rfl (l' := #[rv ba, iv (0 : Int32), iv (Int32.ofNat cs.length), rv b124, iv (0 : Int32)]) rfl ?_
    refine st126 _ ?_
    show own_S p e below T126 (mkF m 8 #[rv ba, iv (Int32.ofNat cs.length), iv (Int32.ofNat cs.length), rv b124, iv (Int32.ofNat cs.length)] []) _
    refine own_i X126 hx hby d19_8 ?_
    refine own_iN X126 hx hby d19_10 ?_
    refine own_cy (pc := 11) X126 hx hby d19_11 (flt (Int32.lt_irrefl : ¬ ((Int32.ofNat cs.length) < (Int32.ofNat cs.length)))).2.1 32 ?_
    refine own_aN X126 hx hby d19_32 ?_
    jvm_step X126.here [X126.here.top, hx, (hb hby d19_33), X126.method', hret, Value.isRef, FieldType.isReference]
    first | (intro acts; rw [hr _ acts rfl rfl rfl]) | rw [hr _ _ rfl rfl rfl]
    exact Steps.refl _
  · show Qrm118 Z ba ka cs h0 _ T126.heap _
    rw [e126]
    exact ⟨b124, k125, rfl, N126, K126, sz_b124, q126_V_b124⟩
def Qrm132 (Z : State) (ba : Addr) (ka : ClassId) (cs : List Int32) (h0 : Heap) (v : Option Value) (h : Heap) (L : List Loc) : Prop := ∃ b133 : Addr, ∃ k133 : ClassId, v = some (.ref b133) ∧ Fr Z.heap.size L ∧ Keep h0 h [] ∧ h0.size ≤ b133 ∧ Arv Z h b133 k133 .byte (Int32.ofNat cs.length) (own_lat cs) (.int (0 : Int32))
theorem rm132 (l : Launch) (Z : State) (a0 : Array Value) (hw : own_HW Z a0) (ws : List Jvm.Cond) (ba : Addr) (ka : ClassId) (cs : List Int32) (h0 : Heap) (Z0 : Ext Z.heap h0) (V_ba : Arv Z h0 ba ka .char (Int32.ofNat cs.length) (own_ch cs) (.int (0 : Int32))) (hc27 : own_s1 cs) (hc29 : own_all8 cs) :
    own_met l y_19 jdk_52_method_16_code 6 (some (.array .byte)) ws ({ frames := 1, cells := 1, slots := 4, locals := 18 } : Room) Z #[(.ref ba), (.int (0 : Int32)), (.int (Int32.ofNat cs.length))] h0 (Qrm132 Z ba ka cs h0) := by
  refine own_start (plainFor_of_name pn_5) (fun m => ef_jdk_52_method_16_RII m ba (0 : Int32) (Int32.ofNat cs.length)) ?_
  intro p e s m below meth c s₁ hx hby hml hown hnm X0 hZ e0 hret hlk
  have N0 := Fr.nil Z.heap.size
  obtain ⟨T133, h133, k133, X133, e133, E133, A133, st133⟩ := newP X0 hx hZ (own_w hw 20 rfl) e0 (g := (mkF m 1 #[rv ba, iv (0 : Int32), iv (Int32.ofNat cs.length), .unset, .unset, .unset] [(.int (Int32.ofNat cs.length))])) rfl (hb hby d8_1) rfl (own_z_nn hc27) (cap := 4) (own_z_cap hc27) (by decide) (by decide) (by decide)
  obtain ⟨b133, g133⟩ : ∃ z, z = h0.size := ⟨_, rfl⟩
  rw [← g133] at A133 st133
  have g_b133 : Z.heap.size ≤ b133 := Nat.le_trans Z0.1 (Nat.le_of_eq g133.symm)
  have sz_b133 : h0.size ≤ b133 := Nat.le_trans (Keep.refl h0 []).1 (Nat.le_of_eq g133.symm)
  have V_b133 : Arv Z h133 b133 k133 .byte (Int32.ofNat cs.length) (List.replicate cs.length (.int (0 : Int32))) (.int (0 : Int32)) := (Arv.new A133 (own_z_nn hc27)).pad (pad_rep [] (.int (0 : Int32)) cs.length)
  have K133 : Keep h0 h133 [] := (Keep.refl h0 []).ext E133
  have XX133 : Ext Z.heap h133 := own_ext2 Z0 E133
  have ne_ba_b133 : ba ≠ b133 := Nat.ne_of_lt (Nat.lt_of_lt_of_le V_ba.lt (Nat.le_of_eq g133.symm))
  obtain ⟨_, T134, Lc134, X134, hQ134, st134⟩ := own_static (y := y_14) X133 hx hZ hown (own_w hw 47 rfl) (own_w hw 48 rfl) (own_w hw 45 rfl) (own_w hw 49 rfl) (rm103 l Z a0 hw [] ba ka b133 k133 (List.replicate cs.length (.int (0 : Int32))) cs h133 XX133 (V_ba.ext E133) V_b133 g_b133 hc27 List.length_replicate hc29 ne_ba_b133) e133 (g := (mkF m 9 #[rv ba, iv (0 : Int32), iv (Int32.ofNat cs.length), rv b133, .unset, .unset] [(.int (Int32.ofNat cs.length)), (.int (0 : Int32)), (.ref b133), (.int (0 : Int32)), (.ref ba)])) (argsL := [(.ref ba), (.int (0 : Int32)), (.ref b133), (.int (0 : Int32)), (.int (Int32.ofNat cs.length))]) (rest := []) (W := 0) (lenOf pd_11 rfl) (hb hby d8_9) hml
  obtain ⟨rfl, N134q, K134q, q134_V_b133⟩ := hQ134
  have K134 : Keep h0 T134.heap [] := K133.trans K134q (allS (Or.inr sz_b133) all0)
  have XX134 : Ext Z.heap T134.heap := own_extK XX133 K134q (allS g_b133 all0)
  have N134 := Fr.app N0 N134q
  obtain ⟨fs, hr, hrun, hended, hW, hsame⟩ := X134.leave (v := some (.ref b133)) (fun h => by rw [hret] at h; cases h) hlk
  refine ⟨_, _, ?_, hrun, hended, _, _, rfl, ?_, ⟨_, rfl⟩, hW, hsame.mono (by decide) (by decide)⟩
  · show own_S p e below s₁ (mkF m 0 #[rv ba, iv (0 : Int32), iv (Int32.ofNat cs.length), .unset, .unset, .unset] []) _
    refine own_iN X0 hx hby d8_0 ?_
    refine st133 _ ?_
    refine XS.astoreN X133.here hx rfl (hb hby d8_3) rfl rfl (l' := #[rv ba, iv (0 : Int32), iv (Int32.ofNat cs.length), rv b133, .unset, .unset]) rfl ?_
    refine own_aN X133 hx hby d8_4 ?_
    refine own_iN X133 hx hby d8_5 ?_
    refine own_aN X133 hx hby d8_6 ?_
    refine own_k X133 hx hby d8_7 ?_
    refine own_iN X133 hx hby d8_8 ?_
    refine st134 _ ?_
    refine XS.istore X134.here hx rfl (hb hby d8_12) rfl (l' := #[rv ba, iv (0 : Int32), iv (Int32.ofNat cs.length), rv b133, iv (Int32.ofNat cs.length), .unset]) rfl ?_
    refine own_i X134 hx hby d8_14 ?_
    refine own_iN X134 hx hby d8_16 ?_
    refine own_cy (pc := 17) X134 hx hby d8_17 (teq (rfl : (Int32.ofNat cs.length) = (Int32.ofNat cs.length))).1 57 ?_
    refine own_aN X134 hx hby d8_57 ?_
    jvm_step X134.here [X134.here.top, hx, (hb hby d8_58), X134.method', hret, Value.isRef, FieldType.isReference]
    first | (intro acts; rw [hr _ acts rfl rfl rfl]) | rw [hr _ _ rfl rfl rfl]
    exact Steps.refl _
  · show Qrm132 Z ba ka cs h0 _ T134.heap _
    exact ⟨b133, k133, rfl, N134, K134, sz_b133, q134_V_b133⟩
def Qrm138 (Z : State) (cs : List Int32) (b136 : Addr) (k137 : ClassId) (h0 : Heap) (v : Option Value) (h : Heap) (L : List Loc) : Prop := v = some (.int (0 : Int32)) ∧ Fr Z.heap.size L ∧ h = h0
theorem rm138 (l : Launch) (Z : State) (a0 : Array Value) (hw : own_HW Z a0) (ws : List Jvm.Cond) (cs : List Int32) (b136 : Addr) (k137 : ClassId) (h0 : Heap) (Z0 : Ext Z.heap h0) (V_b136 : Arv Z h0 b136 k137 .byte (Int32.ofNat cs.length) (own_lat cs) (.int (0 : Int32))) (hc27 : own_s1 cs) :
    own_met l y_20 jdk_52_method_15_code 2 (some .byte) ws ({ frames := 0, cells := 0, slots := 0, locals := 0 } : Room) Z #[(.ref b136), (.int (Int32.ofNat cs.length))] h0 (Qrm138 Z cs b136 k137 h0) := by
  refine own_start (plainFor_of_name pn_5) (fun m => ef_jdk_52_method_15_RI m b136 (Int32.ofNat cs.length)) ?_
  intro p e s m below meth c s₁ hx hby hml hown hnm X0 hZ e0 hret hlk
  have N0 := Fr.nil Z.heap.size
  obtain ⟨cl139, Ar139, q139, S139, Nn139, H139, G139⟩ := id V_b136
  obtain ⟨fs, hr, hrun, hended, hW, hsame⟩ := X0.leave (v := some (.int (0 : Int32))) (fun h => by rw [hret] at h; cases h) hlk
  refine ⟨_, _, ?_, hrun, hended, _, _, rfl, ?_, ⟨_, rfl⟩, hW, hsame.mono (by decide) (by decide)⟩
  · show own_S p e below s₁ (mkF m 0 #[rv b136, iv (Int32.ofNat cs.length)] []) _
    refine own_iN X0 hx hby d10_0 ?_
    refine own_aN X0 hx hby d10_1 ?_
    refine X0.arraylength hx (by rw [e0]; exact Ar139.1) (State.isArrayOf_alike hZ.alike Ar139.2.1) (g := (mkF m 2 #[rv b136, iv (Int32.ofNat cs.length)] [(.ref b136), (.int (Int32.ofNat cs.length))])) rfl rfl (hb hby d10_2) _ ?_
    rw [len_of S139 Nn139]
    refine XS.isub X0.here hx rfl (hb hby d10_3) rfl ?_
    refine XS.bipush X0.here hx rfl (hb hby d10_4) ?_
    refine XS.iushr X0.here hx rfl (hb hby d10_6) rfl ?_
    show own_S p e below s₁ (mkF m 7 #[rv b136, iv (Int32.ofNat cs.length)] [(.int ((((Int32.ofNat cs.length) - (Int32.ofNat cs.length)).toUInt32 >>> ((31 : Int32) &&& 31).toUInt32).toInt32))]) _
    rw [(own_z_c0 hc27)]
    refine XS.i2b X0.here hx rfl (hb hby d10_7) rfl ?_
    show own_S p e below s₁ (mkF m 8 #[rv b136, iv (Int32.ofNat cs.length)] [(.int ((0 : Int32).toInt8.toInt32))]) _
    rw [(by decide : ((0 : Int32).toInt8.toInt32) = (0 : Int32))]
    exact retN X0 hx (t := .byte) hret (by simp) (hb hby d10_8) hr
  · show Qrm138 Z cs b136 k137 h0 _ s₁.heap _
    rw [e0]
    exact ⟨rfl, N0, rfl⟩
def Qrm129 (Z : State) (w_CS : Int32) (bb ba : Addr) (ka : ClassId) (cs : List Int32) (h0 : Heap) (v : Option Value) (h : Heap) (L : List Loc) : Prop := ∃ b136 : Addr, ∃ k137 : ClassId, v = none ∧ Fr Z.heap.size L ∧ Keep h0 h [bb] ∧ h0.size ≤ b136 ∧ Exa Z h bb "java/lang/String" ∧ Fld Z h bb "java/lang/String" "coder" "B" (.int (0 : Int32)) ∧ Fld Z h bb "java/lang/String" "value" "[B" (.ref b136) ∧ Arv Z h b136 k137 .byte (Int32.ofNat cs.length) (own_lat cs) (.int (0 : Int32))
theorem rm129 (l : Launch) (Z : State) (a0 : Array Value) (hw : own_HW Z a0) (ws : List Jvm.Cond) (w_CS : Int32) (bb ba : Addr) (ka : ClassId) (cs : List Int32) (h0 : Heap) (Z0 : Ext Z.heap h0) (S_w_CS : own_w_CS Z w_CS) (E_bb : Exa Z h0 bb "java/lang/String") (F_bb_coder : Fld Z h0 bb "java/lang/String" "coder" "B" (.int (0 : Int32))) (F_bb_value : Fld Z h0 bb "java/lang/String" "value" "[B" .null) (V_ba : Arv Z h0 ba ka .char (Int32.ofNat cs.length) (own_ch cs) (.int (0 : Int32))) (g_bb : Z.heap.size ≤ bb) (hc27 : own_s1 cs) (hc1 : ¬ (w_CS = (0 : Int32))) (hc29 : own_all8 cs) :
    own_met l y_21 jdk_42_method_149_code 6 none ws ({ frames := 2, cells := 1, slots := 4, locals := 35 } : Room) Z #[(.ref bb), (.ref ba), (.int (0 : Int32)), (.int (Int32.ofNat cs.length)), .null] h0 (Qrm129 Z w_CS bb ba ka cs h0) := by
  refine own_start (plainFor_of_name pn_2) (fun m => ef_jdk_42_method_149_RRIIn m bb ba (0 : Int32) (Int32.ofNat cs.length)) ?_
  intro p e s m below meth c s₁ hx hby hml hown hnm X0 hZ e0 hret hlk
  have N0 := Fr.nil Z.heap.size
  obtain ⟨T130, X130, e130, st130⟩ := initO X0 hx hZ hown (own_w hw 16 rfl) (own_w hw 17 rfl) (own_w hw 18 rfl) e0 (g := (mkF m 1 #[rv bb, rv ba, iv (0 : Int32), iv (Int32.ofNat cs.length), .val .null, .unset] [(.ref bb)])) rfl (by rw [hml]; rfl) rfl (hb hby d3_1) (by decide) (W := 0) (by show 2 * 0 + _ ≤ _; exact Nat.le_of_eq rfl) (by decide)
  obtain ⟨T131, X131, e131, st131⟩ := getS2 X130 hx hZ hown (host := "") (Or.inl (own_w hw 41 rfl)) Via.refl e130 (S_w_CS.ext Z0) (g := (mkF m 27 #[rv bb, rv ba, iv (0 : Int32), iv (Int32.ofNat cs.length), .val .null, .unset] [])) rfl (hb hby d3_27)
  obtain ⟨_, T135, Lc135, X135, hQ135, st135⟩ := own_static (y := y_19) X131 hx hZ hown (own_w hw 43 rfl) (own_w hw 44 rfl) (own_w hw 45 rfl) (own_w hw 46 rfl) (rm132 l Z a0 hw [] ba ka cs h0 Z0 V_ba hc27 hc29) e131 (g := (mkF m 36 #[rv bb, rv ba, iv (0 : Int32), iv (Int32.ofNat cs.length), .val .null, .unset] [(.int (Int32.ofNat cs.length)), (.int (0 : Int32)), (.ref ba)])) (argsL := [(.ref ba), (.int (0 : Int32)), (.int (Int32.ofNat cs.length))]) (rest := []) (W := 0) (lenOf pd_12 rfl) (hb hby d3_36) hml
  obtain ⟨b136, k137, rfl, N135q, K135q, szn_b136, q135_V_b136⟩ := hQ135
  have g_b136 : Z.heap.size ≤ b136 := Nat.le_trans Z0.1 szn_b136
  have sz_b136 : h0.size ≤ b136 := Nat.le_trans (Keep.refl h0 [bb]).1 szn_b136
  have K135 : Keep h0 T135.heap [bb] := (Keep.refl h0 [bb]).trans K135q all0
  have XX135 : Ext Z.heap T135.heap := own_extK Z0 K135q all0
  have N135 := Fr.app N0 N135q
  obtain ⟨_, T140, Lc140, X140, hQ140, st140⟩ := own_static (y := y_20) X135 hx hZ hown (own_w hw 50 rfl) (own_w hw 51 rfl) (own_w hw 45 rfl) (own_w hw 52 rfl) (rm138 l Z a0 hw [] cs b136 k137 T135.heap XX135 q135_V_b136 hc27) rfl (g := (mkF m 45 #[rv bb, rv ba, iv (0 : Int32), iv (Int32.ofNat cs.length), .val .null, rv b136] [(.int (Int32.ofNat cs.length)), (.ref b136), (.ref bb)])) (argsL := [(.ref b136), (.int (Int32.ofNat cs.length))]) (rest := [(.ref bb)]) (W := 1) (lenOf pd_13 rfl) (hb hby d3_45) hml
  obtain ⟨rfl, N140q, e140⟩ := hQ140
  have N140 := Fr.app N135 N140q
  obtain ⟨T141, h141, X141, e141, W141, st141⟩ := putFN X140 hx hZ hown (own_w hw 26 rfl) Via.refl e140 (F_bb_coder.keep K135q nin0) (E_bb.keep K135q) (Or.inr ⟨(own_w hw 22 rfl), rfl, hnm⟩) (own_w hw 6 rfl) (ty := .byte) (v' := (.int (0 : Int32))) (by decide) rfl (by decide) (g := (mkF m 48 #[rv bb, rv ba, iv (0 : Int32), iv (Int32.ofNat cs.length), .val .null, rv b136] [(.int (0 : Int32)), (.ref bb)])) rfl rfl (hb hby d3_48)
  have K141 : Keep h0 h141 [bb] := K135.wr W141 (Or.inl (List.mem_of_getElem? (i := 0) rfl))
  have XX141 : Ext Z.heap h141 := own_extW XX135 W141 g_bb
  have N141 := Fr.snoc X141 N140 g_bb
  have f142_F_bb_value : Fld Z h141 bb "java/lang/String" "value" "[B" .null := ((F_bb_value.keep K135q nin0).other W141 (Or.inr (slot_ne (Or.inr (own_w hw 21 rfl)) (Or.inr (own_w hw 22 rfl)) (by decide) (t := (.array .byte)) (t' := .byte) (by decide) (by decide))))
  obtain ⟨T143, h143, X143, e143, W143, st143⟩ := putF X141 hx hZ hown (host := "") (Or.inl (own_w hw 25 rfl)) Via.refl e141 f142_F_bb_value ((E_bb.keep K135q).wr W141) (Or.inr ⟨(own_w hw 21 rfl), rfl, hnm⟩) (own_w hw 6 rfl) (ty := (.array .byte)) (by decide) rfl rfl (g := (mkF m 54 #[rv bb, rv ba, iv (0 : Int32), iv (Int32.ofNat cs.length), .val .null, rv b136] [(.ref b136), (.ref bb)])) rfl rfl (hb hby d3_54)
  have K143 : Keep h0 h143 [bb] := K141.wr W143 (Or.inl (List.mem_of_getElem? (i := 0) rfl))
  have XX143 : Ext Z.heap h143 := own_extW XX141 W143 g_bb
  have N143 := Fr.snoc X143 N141 g_bb
  have f144_F_bb_coder : Fld Z h143 bb "java/lang/String" "coder" "B" (.int (0 : Int32)) := (((F_bb_coder.keep K135q nin0).same W141).other W143 (Or.inr (slot_ne (Or.inr (own_w hw 22 rfl)) (Or.inr (own_w hw 21 rfl)) (by decide) (t := .byte) (t' := (.array .byte)) (by decide) (by decide))))
  have ne_bb_b136 : bb ≠ b136 := Nat.ne_of_lt (Nat.lt_of_lt_of_le E_bb.lt szn_b136)
  have f145_V_b136 : Arv Z h143 b136 k137 .byte (Int32.ofNat cs.length) (own_lat cs) (.int (0 : Int32)) := ((q135_V_b136.other W141 (Ne.symm ne_bb_b136)).other W143 (Ne.symm ne_bb_b136))
  obtain ⟨fs, hr, hrun, hended, hW, hsame⟩ := X143.leave (v := none) (fun _ => rfl) hlk
  refine ⟨_, _, ?_, hrun, hended, _, _, rfl, ?_, ⟨_, rfl⟩, hW, hsame.mono (by decide) (by decide)⟩
  · show own_S p e below s₁ (mkF m 0 #[rv bb, rv ba, iv (0 : Int32), iv (Int32.ofNat cs.length), .val .null, .unset] []) _
    refine own_aN X0 hx hby d3_0 ?_
    refine st130 _ ?_
    refine own_iN X130 hx hby d3_4 ?_
    refine own_iy (pc := 5) X130 hx hby d3_5 (feq (own_z_ne hc27)).2 27 ?_
    refine st131 _ ?_
    refine own_in X131 hx hby d3_30 (feq hc1).1 ?_
    refine own_aN X131 hx hby d3_33 ?_
    refine own_iN X131 hx hby d3_34 ?_
    refine own_iN X131 hx hby d3_35 ?_
    refine st135 _ ?_
    refine XS.astore X135.here hx rfl (hb hby d3_39) rfl rfl (l' := #[rv bb, rv ba, iv (0 : Int32), iv (Int32.ofNat cs.length), .val .null, rv b136]) rfl ?_
    refine own_aN X135 hx hby d3_41 ?_
    refine own_a X135 hx hby d3_42 ?_
    refine own_iN X135 hx hby d3_44 ?_
    refine st140 _ ?_
    refine st141 _ ?_
    refine own_aN X141 hx hby d3_51 ?_
    refine own_a X141 hx hby d3_52 ?_
    refine st143 _ ?_
    exact X143.returnOut hx hret (hb hby d3_57) hr
  · show Qrm129 Z w_CS bb ba ka cs h0 _ T143.heap _
    rw [e143]
    exact ⟨b136, k137, rfl, N143, K143, sz_b136, (((E_bb.keep K135q).wr W141).wr W143), f144_F_bb_coder, (f142_F_bb_value.same W143), f145_V_b136⟩
def Qrm127 (Z : State) (w_CS : Int32) (bb ba : Addr) (ka : ClassId) (cs : List Int32) (h0 : Heap) (v : Option Value) (h : Heap) (L : List Loc) : Prop := ∃ b147 : Addr, ∃ k148 : ClassId, v = none ∧ Fr Z.heap.size L ∧ Keep h0 h [bb] ∧ h0.size ≤ b147 ∧ Exa Z h bb "java/lang/String" ∧ Fld Z h bb "java/lang/String" "coder" "B" (.int (0 : Int32)) ∧ Fld Z h bb "java/lang/String" "value" "[B" (.ref b147) ∧ Arv Z h b147 k148 .byte (Int32.ofNat cs.length) (own_lat cs) (.int (0 : Int32))
theorem rm127 (l : Launch) (Z : State) (a0 : Array Value) (hw : own_HW Z a0) (ws : List Jvm.Cond) (w_CS : Int32) (bb ba : Addr) (ka : ClassId) (cs : List Int32) (h0 : Heap) (Z0 : Ext Z.heap h0) (S_w_CS : own_w_CS Z w_CS) (E_bb : Exa Z h0 bb "java/lang/String") (F_bb_coder : Fld Z h0 bb "java/lang/String" "coder" "B" (.int (0 : Int32))) (F_bb_value : Fld Z h0 bb "java/lang/String" "value" "[B" .null) (V_ba : Arv Z h0 ba ka .char (Int32.ofNat cs.length) (own_ch cs) (.int (0 : Int32))) (g_bb : Z.heap.size ≤ bb) (hc27 : own_s1 cs) (hc1 : ¬ (w_CS = (0 : Int32))) (hc29 : own_all8 cs) :
    own_met l y_22 jdk_42_method_3_code 2 none ws ({ frames := 6, cells := 2, slots := 12, locals := 110 } : Room) Z #[(.ref bb), (.ref ba)] h0 (Qrm127 Z w_CS bb ba ka cs h0) := by
  refine own_start (plainFor_of_name pn_2) (fun m => ef_jdk_42_method_3_RR m bb ba) ?_
  intro p e s m below meth c s₁ hx hby hml hown hnm X0 hZ e0 hret hlk
  have N0 := Fr.nil Z.heap.size
  obtain ⟨cl128, Ar128, q128, S128, Nn128, H128, G128⟩ := id V_ba
  obtain ⟨_, T146, Lc146, X146, hQ146, st146⟩ := own_special (y := y_21) X0 hx hZ hown rfl (own_w hw 12 rfl) (own_w hw 13 rfl) (own_w hw 7 rfl) (own_w hw 15 rfl) (rm129 l Z a0 hw [] w_CS bb ba ka cs h0 Z0 S_w_CS E_bb F_bb_coder F_bb_value V_ba g_bb hc27 hc1 hc29) e0 bb (g := (mkF m 6 #[rv bb, rv ba] [.null, (.int (Int32.ofNat cs.length)), (.int (0 : Int32)), (.ref ba), (.ref bb)])) (argsL := [(.ref ba), (.int (0 : Int32)), (.int (Int32.ofNat cs.length)), .null]) (rest := []) (W := 0) (lenOf pd_14 rfl) (hb hby d2_6) hml
  obtain ⟨b147, k148, rfl, N146q, K146q, szn_b147, q146_E_bb, q146_F_bb_coder, q146_F_bb_value, q146_V_b147⟩ := hQ146
  have g_b147 : Z.heap.size ≤ b147 := Nat.le_trans Z0.1 szn_b147
  have sz_b147 : h0.size ≤ b147 := Nat.le_trans (Keep.refl h0 [bb]).1 szn_b147
  have K146 : Keep h0 T146.heap [bb] := (Keep.refl h0 [bb]).trans K146q (allS (Or.inl (List.mem_of_getElem? (i := 0) rfl)) all0)
  have XX146 : Ext Z.heap T146.heap := own_extK Z0 K146q (allS g_bb all0)
  have N146 := Fr.app N0 N146q
  obtain ⟨fs, hr, hrun, hended, hW, hsame⟩ := X146.leave (v := none) (fun _ => rfl) hlk
  refine ⟨_, _, ?_, hrun, hended, _, _, rfl, ?_, ⟨_, rfl⟩, hW, hsame.mono (by decide) (by decide)⟩
  · show own_S p e below s₁ (mkF m 0 #[rv bb, rv ba] []) _
    refine own_aN X0 hx hby d2_0 ?_
    refine own_aN X0 hx hby d2_1 ?_
    refine own_k X0 hx hby d2_2 ?_
    refine own_aN X0 hx hby d2_3 ?_
    refine X0.arraylength hx (by rw [e0]; exact Ar128.1) (State.isArrayOf_alike hZ.alike Ar128.2.1) (g := (mkF m 4 #[rv bb, rv ba] [(.ref ba), (.int (0 : Int32)), (.ref ba), (.ref bb)])) rfl rfl (hb hby d2_4) _ ?_
    rw [len_of S128 Nn128]
    refine XS.aconstNull X0.here hx rfl (hb hby d2_5) ?_
    refine st146 _ ?_
    exact X146.returnOut hx hret (hb hby d2_9) hr
  · show Qrm127 Z w_CS bb ba ka cs h0 _ T146.heap _
    exact ⟨b147, k148, rfl, N146, K146, sz_b147, q146_E_bb, q146_F_bb_coder, q146_F_bb_value, q146_V_b147⟩
def Qrm154 (Z : State) (cc : Int32) (ba : Addr) (ka : ClassId) (cs : List Int32) (ff : Nat) (h0 : Heap) (v : Option Value) (h : Heap) (L : List Loc) : Prop := ∃ b158 : Addr, ∃ k159 : ClassId, v = some (.ref b158) ∧ Fr Z.heap.size L ∧ Keep h0 h [] ∧ h0.size ≤ b158 ∧ Arv Z h b158 k159 .byte (Int32.ofNat (2 * cs.length)) (own_wid cs) (.int (0 : Int32))
theorem rm154 (l : Launch) (Z : State) (a0 : Array Value) (hw : own_HW Z a0) (ws : List Jvm.Cond) (cc : Int32) (ba : Addr) (ka : ClassId) (cs : List Int32) (ff : Nat) (h0 : Heap) (Z0 : Ext Z.heap h0) (S_s__assertionsDisabled : own_s__assertionsDisabled Z) (S_s_HI_BYTE_SHIFT : own_s_HI_BYTE_SHIFT Z) (S_s_LO_BYTE_SHIFT : own_s_LO_BYTE_SHIFT Z) (V_ba : Arv Z h0 ba ka .char (Int32.ofNat cs.length) (own_ch cs) (.int (0 : Int32))) (hc27 : own_s1 cs) (hc30 : own_fw cs ff cc) (hc17 : own_u16 cc) :
    own_met l y_19 jdk_52_method_16_code 6 (some (.array .byte)) ws ({ frames := 4, cells := 2, slots := 12, locals := 76 } : Room) Z #[(.ref ba), (.int (0 : Int32)), (.int (Int32.ofNat cs.length))] h0 (Qrm154 Z cc ba ka cs ff h0) := by
  refine own_start (plainFor_of_name pn_5) (fun m => ef_jdk_52_method_16_RII m ba (0 : Int32) (Int32.ofNat cs.length)) ?_
  intro p e s m below meth c s₁ hx hby hml hown hnm X0 hZ e0 hret hlk
  have N0 := Fr.nil Z.heap.size
  obtain ⟨T155, h155, k155, X155, e155, E155, A155, st155⟩ := newP X0 hx hZ (own_w hw 20 rfl) e0 (g := (mkF m 1 #[rv ba, iv (0 : Int32), iv (Int32.ofNat cs.length), .unset, .unset, .unset] [(.int (Int32.ofNat cs.length))])) rfl (hb hby d8_1) rfl (own_z_nn hc27) (cap := 4) (own_z_cap hc27) (by decide) (by decide) (by decide)
  obtain ⟨b155, g155⟩ : ∃ z, z = h0.size := ⟨_, rfl⟩
  rw [← g155] at A155 st155
  have g_b155 : Z.heap.size ≤ b155 := Nat.le_trans Z0.1 (Nat.le_of_eq g155.symm)
  have sz_b155 : h0.size ≤ b155 := Nat.le_trans (Keep.refl h0 []).1 (Nat.le_of_eq g155.symm)
  have V_b155 : Arv Z h155 b155 k155 .byte (Int32.ofNat cs.length) (List.replicate cs.length (.int (0 : Int32))) (.int (0 : Int32)) := (Arv.new A155 (own_z_nn hc27)).pad (pad_rep [] (.int (0 : Int32)) cs.length)
  have K155 : Keep h0 h155 [] := (Keep.refl h0 []).ext E155
  have XX155 : Ext Z.heap h155 := own_ext2 Z0 E155
  have ne_ba_b155 : ba ≠ b155 := Nat.ne_of_lt (Nat.lt_of_lt_of_le V_ba.lt (Nat.le_of_eq g155.symm))
  obtain ⟨_, T156, Lc156, X156, hQ156, st156⟩ := own_static (y := y_14) X155 hx hZ hown (own_w hw 47 rfl) (own_w hw 48 rfl) (own_w hw 45 rfl) (own_w hw 49 rfl) (rm105 l Z a0 hw [] cc ba ka b155 k155 (List.replicate cs.length (.int (0 : Int32))) cs ff h155 XX155 (V_ba.ext E155) V_b155 g_b155 hc27 List.length_replicate hc30 ne_ba_b155) e155 (g := (mkF m 9 #[rv ba, iv (0 : Int32), iv (Int32.ofNat cs.length), rv b155, .unset, .unset] [(.int (Int32.ofNat cs.length)), (.int (0 : Int32)), (.ref b155), (.int (0 : Int32)), (.ref ba)])) (argsL := [(.ref ba), (.int (0 : Int32)), (.ref b155), (.int (0 : Int32)), (.int (Int32.ofNat cs.length))]) (rest := []) (W := 0) (lenOf pd_11 rfl) (hb hby d8_9) hml
  obtain ⟨rfl, N156q, K156q, q156_V_b155⟩ := hQ156
  have K156 : Keep h0 T156.heap [] := K155.trans K156q (allS (Or.inr sz_b155) all0)
  have XX156 : Ext Z.heap T156.heap := own_extK XX155 K156q (allS g_b155 all0)
  have N156 := Fr.app N0 N156q
  obtain ⟨_, T157, Lc157, X157, hQ157, st157⟩ := own_static (y := y_18) X156 hx hZ hown (own_w hw 85 rfl) (own_w hw 86 rfl) (own_w hw 45 rfl) (own_w hw 87 rfl) (rm118 l Z a0 hw [] ba ka cs T156.heap XX156 S_s__assertionsDisabled S_s_HI_BYTE_SHIFT S_s_LO_BYTE_SHIFT ((V_ba.ext E155).keep K156q (ninS ne_ba_b155 (nin0))) hc27) rfl (g := (mkF m 23 #[rv ba, iv (0 : Int32), iv (Int32.ofNat cs.length), rv b155, iv (Int32.ofNat ff), .unset] [(.int (Int32.ofNat cs.length)), (.int (0 : Int32)), (.ref ba)])) (argsL := [(.ref ba), (.int (0 : Int32)), (.int (Int32.ofNat cs.length))]) (rest := []) (W := 0) (lenOf pd_12 rfl) (hb hby d8_23) hml
  obtain ⟨b158, k159, rfl, N157q, K157q, szn_b158, q157_V_b158⟩ := hQ157
  have g_b158 : Z.heap.size ≤ b158 := Nat.le_trans XX156.1 szn_b158
  have sz_b158 : h0.size ≤ b158 := Nat.le_trans K156.1 szn_b158
  have K157 : Keep h0 T157.heap [] := K156.trans K157q all0
  have XX157 : Ext Z.heap T157.heap := own_extK XX156 K157q all0
  have N157 := Fr.app N156 N157q
  obtain ⟨_, T160, Lc160, X160, hQ160, st160⟩ := own_static (y := y_12) X157 hx hZ hown (own_w hw 101 rfl) (own_w hw 102 rfl) (own_w hw 45 rfl) (own_w hw 103 rfl) (rm71 l Z a0 hw [] cc b158 (own_wid cs) (Int32.ofNat (2 * cs.length)) (Int32.ofNat ff) (Int32.ofNat (2 * ff)) k159 T157.heap XX157 S_s__assertionsDisabled S_s_HI_BYTE_SHIFT S_s_LO_BYTE_SHIFT q157_V_b158 (own_fw_dbl hc30) (own_fw_ib2 hc30) (own_fw_get2 hc30) (own_fw_ib3 hc30) (own_fw_get3 hc30) hc17) rfl (g := (mkF m 32 #[rv ba, iv (0 : Int32), iv (Int32.ofNat cs.length), rv b155, iv (Int32.ofNat ff), rv b158] [(.int (Int32.ofNat ff)), (.ref b158)])) (argsL := [(.ref b158), (.int (Int32.ofNat ff))]) (rest := []) (W := 0) (lenOf pd_5 rfl) (hb hby d8_32) hml
  obtain ⟨rfl, N160q, e160⟩ := hQ160
  have N160 := Fr.app N157 N160q
  obtain ⟨fs, hr, hrun, hended, hW, hsame⟩ := X160.leave (v := some (.ref b158)) (fun h => by rw [hret] at h; cases h) hlk
  refine ⟨_, _, ?_, hrun, hended, _, _, rfl, ?_, ⟨_, rfl⟩, hW, hsame.mono (by decide) (by decide)⟩
  · show own_S p e below s₁ (mkF m 0 #[rv ba, iv (0 : Int32), iv (Int32.ofNat cs.length), .unset, .unset, .unset] []) _
    refine own_iN X0 hx hby d8_0 ?_
    refine st155 _ ?_
    refine XS.astoreN X155.here hx rfl (hb hby d8_3) rfl rfl (l' := #[rv ba, iv (0 : Int32), iv (Int32.ofNat cs.length), rv b155, .unset, .unset]) rfl ?_
    refine own_aN X155 hx hby d8_4 ?_
    refine own_iN X155 hx hby d8_5 ?_
    refine own_aN X155 hx hby d8_6 ?_
    refine own_k X155 hx hby d8_7 ?_
    refine own_iN X155 hx hby d8_8 ?_
    refine st156 _ ?_
    refine XS.istore X156.here hx rfl (hb hby d8_12) rfl (l' := #[rv ba, iv (0 : Int32), iv (Int32.ofNat cs.length), rv b155, iv (Int32.ofNat ff), .unset]) rfl ?_
    refine own_i X156 hx hby d8_14 ?_
    refine own_iN X156 hx hby d8_16 ?_
    refine own_cn X156 hx hby d8_17 (feq (own_fw_ne hc30)).1 ?_
    refine own_aN X156 hx hby d8_20 ?_
    refine own_iN X156 hx hby d8_21 ?_
    refine own_iN X156 hx hby d8_22 ?_
    refine st157 _ ?_
    refine XS.astore X157.here hx rfl (hb hby d8_26) rfl rfl (l' := #[rv ba, iv (0 : Int32), iv (Int32.ofNat cs.length), rv b155, iv (Int32.ofNat ff), rv b158]) rfl ?_
    refine own_a X157 hx hby d8_28 ?_
    refine own_i X157 hx hby d8_30 ?_
    refine st160 _ ?_
    refine XS.sipush X160.here hx rfl (hb hby d8_35) ?_
    refine own_cy (pc := 38) X160 hx hby d8_38 (tlt (own_fw_255 hc30)).2.2.1 54 ?_
    refine own_a X160 hx hby d8_54 ?_
    jvm_step X160.here [X160.here.top, hx, (hb hby d8_56), X160.method', hret, Value.isRef, FieldType.isReference]
    first | (intro acts; rw [hr _ acts rfl rfl rfl]) | rw [hr _ _ rfl rfl rfl]
    exact Steps.refl _
  · show Qrm154 Z cc ba ka cs ff h0 _ T160.heap _
    rw [e160]
    exact ⟨b158, k159, rfl, N160, K157, sz_b158, q157_V_b158⟩
def Qrm164 (Z : State) (cs : List Int32) (b162 : Addr) (k163 : ClassId) (h0 : Heap) (v : Option Value) (h : Heap) (L : List Loc) : Prop := v = some (.int (1 : Int32)) ∧ Fr Z.heap.size L ∧ h = h0
theorem rm164 (l : Launch) (Z : State) (a0 : Array Value) (hw : own_HW Z a0) (ws : List Jvm.Cond) (cs : List Int32) (b162 : Addr) (k163 : ClassId) (h0 : Heap) (Z0 : Ext Z.heap h0) (V_b162 : Arv Z h0 b162 k163 .byte (Int32.ofNat (2 * cs.length)) (own_wid cs) (.int (0 : Int32))) (hc27 : own_s1 cs) :
    own_met l y_20 jdk_52_method_15_code 2 (some .byte) ws ({ frames := 0, cells := 0, slots := 0, locals := 0 } : Room) Z #[(.ref b162), (.int (Int32.ofNat cs.length))] h0 (Qrm164 Z cs b162 k163 h0) := by
  refine own_start (plainFor_of_name pn_5) (fun m => ef_jdk_52_method_15_RI m b162 (Int32.ofNat cs.length)) ?_
  intro p e s m below meth c s₁ hx hby hml hown hnm X0 hZ e0 hret hlk
  have N0 := Fr.nil Z.heap.size
  obtain ⟨cl165, Ar165, q165, S165, Nn165, H165, G165⟩ := id V_b162
  obtain ⟨fs, hr, hrun, hended, hW, hsame⟩ := X0.leave (v := some (.int (1 : Int32))) (fun h => by rw [hret] at h; cases h) hlk
  refine ⟨_, _, ?_, hrun, hended, _, _, rfl, ?_, ⟨_, rfl⟩, hW, hsame.mono (by decide) (by decide)⟩
  · show own_S p e below s₁ (mkF m 0 #[rv b162, iv (Int32.ofNat cs.length)] []) _
    refine own_iN X0 hx hby d10_0 ?_
    refine own_aN X0 hx hby d10_1 ?_
    refine X0.arraylength hx (by rw [e0]; exact Ar165.1) (State.isArrayOf_alike hZ.alike Ar165.2.1) (g := (mkF m 2 #[rv b162, iv (Int32.ofNat cs.length)] [(.ref b162), (.int (Int32.ofNat cs.length))])) rfl rfl (hb hby d10_2) _ ?_
    rw [len_of S165 Nn165]
    refine XS.isub X0.here hx rfl (hb hby d10_3) rfl ?_
    refine XS.bipush X0.here hx rfl (hb hby d10_4) ?_
    refine XS.iushr X0.here hx rfl (hb hby d10_6) rfl ?_
    show own_S p e below s₁ (mkF m 7 #[rv b162, iv (Int32.ofNat cs.length)] [(.int ((((Int32.ofNat cs.length) - (Int32.ofNat (2 * cs.length))).toUInt32 >>> ((31 : Int32) &&& 31).toUInt32).toInt32))]) _
    rw [(own_z_c1 hc27)]
    refine XS.i2b X0.here hx rfl (hb hby d10_7) rfl ?_
    show own_S p e below s₁ (mkF m 8 #[rv b162, iv (Int32.ofNat cs.length)] [(.int ((1 : Int32).toInt8.toInt32))]) _
    rw [(by decide : ((1 : Int32).toInt8.toInt32) = (1 : Int32))]
    exact retN X0 hx (t := .byte) hret (by simp) (hb hby d10_8) hr
  · show Qrm164 Z cs b162 k163 h0 _ s₁.heap _
    rw [e0]
    exact ⟨rfl, N0, rfl⟩
def Qrm151 (Z : State) (w_CS cc : Int32) (bb ba : Addr) (ka : ClassId) (cs : List Int32) (ff : Nat) (h0 : Heap) (v : Option Value) (h : Heap) (L : List Loc) : Prop := ∃ b162 : Addr, ∃ k163 : ClassId, v = none ∧ Fr Z.heap.size L ∧ Keep h0 h [bb] ∧ h0.size ≤ b162 ∧ Exa Z h bb "java/lang/String" ∧ Fld Z h bb "java/lang/String" "coder" "B" (.int (1 : Int32)) ∧ Fld Z h bb "java/lang/String" "value" "[B" (.ref b162) ∧ Arv Z h b162 k163 .byte (Int32.ofNat (2 * cs.length)) (own_wid cs) (.int (0 : Int32))
theorem rm151 (l : Launch) (Z : State) (a0 : Array Value) (hw : own_HW Z a0) (ws : List Jvm.Cond) (w_CS cc : Int32) (bb ba : Addr) (ka : ClassId) (cs : List Int32) (ff : Nat) (h0 : Heap) (Z0 : Ext Z.heap h0) (S_w_CS : own_w_CS Z w_CS) (S_s__assertionsDisabled : own_s__assertionsDisabled Z) (S_s_HI_BYTE_SHIFT : own_s_HI_BYTE_SHIFT Z) (S_s_LO_BYTE_SHIFT : own_s_LO_BYTE_SHIFT Z) (E_bb : Exa Z h0 bb "java/lang/String") (F_bb_coder : Fld Z h0 bb "java/lang/String" "coder" "B" (.int (0 : Int32))) (F_bb_value : Fld Z h0 bb "java/lang/String" "value" "[B" .null) (V_ba : Arv Z h0 ba ka .char (Int32.ofNat cs.length) (own_ch cs) (.int (0 : Int32))) (g_bb : Z.heap.size ≤ bb) (hc27 : own_s1 cs) (hc1 : ¬ (w_CS = (0 : Int32))) (hc30 : own_fw cs ff cc) (hc17 : own_u16 cc) :
    own_met l y_21 jdk_42_method_149_code 6 none ws ({ frames := 5, cells := 2, slots := 12, locals := 93 } : Room) Z #[(.ref bb), (.ref ba), (.int (0 : Int32)), (.int (Int32.ofNat cs.length)), .null] h0 (Qrm151 Z w_CS cc bb ba ka cs ff h0) := by
  refine own_start (plainFor_of_name pn_2) (fun m => ef_jdk_42_method_149_RRIIn m bb ba (0 : Int32) (Int32.ofNat cs.length)) ?_
  intro p e s m below meth c s₁ hx hby hml hown hnm X0 hZ e0 hret hlk
  have N0 := Fr.nil Z.heap.size
  obtain ⟨T152, X152, e152, st152⟩ := initO X0 hx hZ hown (own_w hw 16 rfl) (own_w hw 17 rfl) (own_w hw 18 rfl) e0 (g := (mkF m 1 #[rv bb, rv ba, iv (0 : Int32), iv (Int32.ofNat cs.length), .val .null, .unset] [(.ref bb)])) rfl (by rw [hml]; rfl) rfl (hb hby d3_1) (by decide) (W := 0) (by show 2 * 0 + _ ≤ _; exact Nat.le_of_eq rfl) (by decide)
  obtain ⟨T153, X153, e153, st153⟩ := getS2 X152 hx hZ hown (host := "") (Or.inl (own_w hw 41 rfl)) Via.refl e152 (S_w_CS.ext Z0) (g := (mkF m 27 #[rv bb, rv ba, iv (0 : Int32), iv (Int32.ofNat cs.length), .val .null, .unset] [])) rfl (hb hby d3_27)
  obtain ⟨_, T161, Lc161, X161, hQ161, st161⟩ := own_static (y := y_19) X153 hx hZ hown (own_w hw 43 rfl) (own_w hw 44 rfl) (own_w hw 45 rfl) (own_w hw 46 rfl) (rm154 l Z a0 hw [] cc ba ka cs ff h0 Z0 S_s__assertionsDisabled S_s_HI_BYTE_SHIFT S_s_LO_BYTE_SHIFT V_ba hc27 hc30 hc17) e153 (g := (mkF m 36 #[rv bb, rv ba, iv (0 : Int32), iv (Int32.ofNat cs.length), .val .null, .unset] [(.int (Int32.ofNat cs.length)), (.int (0 : Int32)), (.ref ba)])) (argsL := [(.ref ba), (.int (0 : Int32)), (.int (Int32.ofNat cs.length))]) (rest := []) (W := 0) (lenOf pd_12 rfl) (hb hby d3_36) hml
  obtain ⟨b162, k163, rfl, N161q, K161q, szn_b162, q161_V_b162⟩ := hQ161
  have g_b162 : Z.heap.size ≤ b162 := Nat.le_trans Z0.1 szn_b162
  have sz_b162 : h0.size ≤ b162 := Nat.le_trans (Keep.refl h0 [bb]).1 szn_b162
  have K161 : Keep h0 T161.heap [bb] := (Keep.refl h0 [bb]).trans K161q all0
  have XX161 : Ext Z.heap T161.heap := own_extK Z0 K161q all0
  have N161 := Fr.app N0 N161q
  obtain ⟨_, T166, Lc166, X166, hQ166, st166⟩ := own_static (y := y_20) X161 hx hZ hown (own_w hw 50 rfl) (own_w hw 51 rfl) (own_w hw 45 rfl) (own_w hw 52 rfl) (rm164 l Z a0 hw [] cs b162 k163 T161.heap XX161 q161_V_b162 hc27) rfl (g := (mkF m 45 #[rv bb, rv ba, iv (0 : Int32), iv (Int32.ofNat cs.length), .val .null, rv b162] [(.int (Int32.ofNat cs.length)), (.ref b162), (.ref bb)])) (argsL := [(.ref b162), (.int (Int32.ofNat cs.length))]) (rest := [(.ref bb)]) (W := 1) (lenOf pd_13 rfl) (hb hby d3_45) hml
  obtain ⟨rfl, N166q, e166⟩ := hQ166
  have N166 := Fr.app N161 N166q
  obtain ⟨T167, h167, X167, e167, W167, st167⟩ := putFN X166 hx hZ hown (own_w hw 26 rfl) Via.refl e166 (F_bb_coder.keep K161q nin0) (E_bb.keep K161q) (Or.inr ⟨(own_w hw 22 rfl), rfl, hnm⟩) (own_w hw 6 rfl) (ty := .byte) (v' := (.int (1 : Int32))) (by decide) rfl (by decide) (g := (mkF m 48 #[rv bb, rv ba, iv (0 : Int32), iv (Int32.ofNat cs.length), .val .null, rv b162] [(.int (1 : Int32)), (.ref bb)])) rfl rfl (hb hby d3_48)
  have K167 : Keep h0 h167 [bb] := K161.wr W167 (Or.inl (List.mem_of_getElem? (i := 0) rfl))
  have XX167 : Ext Z.heap h167 := own_extW XX161 W167 g_bb
  have N167 := Fr.snoc X167 N166 g_bb
  have f168_F_bb_value : Fld Z h167 bb "java/lang/String" "value" "[B" .null := ((F_bb_value.keep K161q nin0).other W167 (Or.inr (slot_ne (Or.inr (own_w hw 21 rfl)) (Or.inr (own_w hw 22 rfl)) (by decide) (t := (.array .byte)) (t' := .byte) (by decide) (by decide))))
  obtain ⟨T169, h169, X169, e169, W169, st169⟩ := putF X167 hx hZ hown (host := "") (Or.inl (own_w hw 25 rfl)) Via.refl e167 f168_F_bb_value ((E_bb.keep K161q).wr W167) (Or.inr ⟨(own_w hw 21 rfl), rfl, hnm⟩) (own_w hw 6 rfl) (ty := (.array .byte)) (by decide) rfl rfl (g := (mkF m 54 #[rv bb, rv ba, iv (0 : Int32), iv (Int32.ofNat cs.length), .val .null, rv b162] [(.ref b162), (.ref bb)])) rfl rfl (hb hby d3_54)
  have K169 : Keep h0 h169 [bb] := K167.wr W169 (Or.inl (List.mem_of_getElem? (i := 0) rfl))
  have XX169 : Ext Z.heap h169 := own_extW XX167 W169 g_bb
  have N169 := Fr.snoc X169 N167 g_bb
  have f170_F_bb_coder : Fld Z h169 bb "java/lang/String" "coder" "B" (.int (1 : Int32)) := (((F_bb_coder.keep K161q nin0).same W167).other W169 (Or.inr (slot_ne (Or.inr (own_w hw 22 rfl)) (Or.inr (own_w hw 21 rfl)) (by decide) (t := .byte) (t' := (.array .byte)) (by decide) (by decide))))
  have ne_bb_b162 : bb ≠ b162 := Nat.ne_of_lt (Nat.lt_of_lt_of_le E_bb.lt szn_b162)
  have f171_V_b162 : Arv Z h169 b162 k163 .byte (Int32.ofNat (2 * cs.length)) (own_wid cs) (.int (0 : Int32)) := ((q161_V_b162.other W167 (Ne.symm ne_bb_b162)).other W169 (Ne.symm ne_bb_b162))
  obtain ⟨fs, hr, hrun, hended, hW, hsame⟩ := X169.leave (v := none) (fun _ => rfl) hlk
  refine ⟨_, _, ?_, hrun, hended, _, _, rfl, ?_, ⟨_, rfl⟩, hW, hsame.mono (by decide) (by decide)⟩
  · show own_S p e below s₁ (mkF m 0 #[rv bb, rv ba, iv (0 : Int32), iv (Int32.ofNat cs.length), .val .null, .unset] []) _
    refine own_aN X0 hx hby d3_0 ?_
    refine st152 _ ?_
    refine own_iN X152 hx hby d3_4 ?_
    refine own_iy (pc := 5) X152 hx hby d3_5 (feq (own_z_ne hc27)).2 27 ?_
    refine st153 _ ?_
    refine own_in X153 hx hby d3_30 (feq hc1).1 ?_
    refine own_aN X153 hx hby d3_33 ?_
    refine own_iN X153 hx hby d3_34 ?_
    refine own_iN X153 hx hby d3_35 ?_
    refine st161 _ ?_
    refine XS.astore X161.here hx rfl (hb hby d3_39) rfl rfl (l' := #[rv bb, rv ba, iv (0 : Int32), iv (Int32.ofNat cs.length), .val .null, rv b162]) rfl ?_
    refine own_aN X161 hx hby d3_41 ?_
    refine own_a X161 hx hby d3_42 ?_
    refine own_iN X161 hx hby d3_44 ?_
    refine st166 _ ?_
    refine st167 _ ?_
    refine own_aN X167 hx hby d3_51 ?_
    refine own_a X167 hx hby d3_52 ?_
    refine st169 _ ?_
    exact X169.returnOut hx hret (hb hby d3_57) hr
  · show Qrm151 Z w_CS cc bb ba ka cs ff h0 _ T169.heap _
    rw [e169]
    exact ⟨b162, k163, rfl, N169, K169, sz_b162, (((E_bb.keep K161q).wr W167).wr W169), f170_F_bb_coder, (f168_F_bb_value.same W169), f171_V_b162⟩
def Qrm149 (Z : State) (w_CS cc : Int32) (bb ba : Addr) (ka : ClassId) (cs : List Int32) (ff : Nat) (h0 : Heap) (v : Option Value) (h : Heap) (L : List Loc) : Prop := ∃ b173 : Addr, ∃ k174 : ClassId, v = none ∧ Fr Z.heap.size L ∧ Keep h0 h [bb] ∧ h0.size ≤ b173 ∧ Exa Z h bb "java/lang/String" ∧ Fld Z h bb "java/lang/String" "coder" "B" (.int (1 : Int32)) ∧ Fld Z h bb "java/lang/String" "value" "[B" (.ref b173) ∧ Arv Z h b173 k174 .byte (Int32.ofNat (2 * cs.length)) (own_wid cs) (.int (0 : Int32))
theorem rm149 (l : Launch) (Z : State) (a0 : Array Value) (hw : own_HW Z a0) (ws : List Jvm.Cond) (w_CS cc : Int32) (bb ba : Addr) (ka : ClassId) (cs : List Int32) (ff : Nat) (h0 : Heap) (Z0 : Ext Z.heap h0) (S_w_CS : own_w_CS Z w_CS) (S_s__assertionsDisabled : own_s__assertionsDisabled Z) (S_s_HI_BYTE_SHIFT : own_s_HI_BYTE_SHIFT Z) (S_s_LO_BYTE_SHIFT : own_s_LO_BYTE_SHIFT Z) (E_bb : Exa Z h0 bb "java/lang/String") (F_bb_coder : Fld Z h0 bb "java/lang/String" "coder" "B" (.int (0 : Int32))) (F_bb_value : Fld Z h0 bb "java/lang/String" "value" "[B" .null) (V_ba : Arv Z h0 ba ka .char (Int32.ofNat cs.length) (own_ch cs) (.int (0 : Int32))) (g_bb : Z.heap.size ≤ bb) (hc27 : own_s1 cs) (hc1 : ¬ (w_CS = (0 : Int32))) (hc30 : own_fw cs ff cc) (hc17 : own_u16 cc) :
    own_met l y_22 jdk_42_method_3_code 2 none ws ({ frames := 6, cells := 2, slots := 12, locals := 110 } : Room) Z #[(.ref bb), (.ref ba)] h0 (Qrm149 Z w_CS cc bb ba ka cs ff h0) := by
  refine own_start (plainFor_of_name pn_2) (fun m => ef_jdk_42_method_3_RR m bb ba) ?_
  intro p e s m below meth c s₁ hx hby hml hown hnm X0 hZ e0 hret hlk
  have N0 := Fr.nil Z.heap.size
  obtain ⟨cl150, Ar150, q150, S150, Nn150, H150, G150⟩ := id V_ba
  obtain ⟨_, T172, Lc172, X172, hQ172, st172⟩ := own_special (y := y_21) X0 hx hZ hown rfl (own_w hw 12 rfl) (own_w hw 13 rfl) (own_w hw 7 rfl) (own_w hw 15 rfl) (rm151 l Z a0 hw [] w_CS cc bb ba ka cs ff h0 Z0 S_w_CS S_s__assertionsDisabled S_s_HI_BYTE_SHIFT S_s_LO_BYTE_SHIFT E_bb F_bb_coder F_bb_value V_ba g_bb hc27 hc1 hc30 hc17) e0 bb (g := (mkF m 6 #[rv bb, rv ba] [.null, (.int (Int32.ofNat cs.length)), (.int (0 : Int32)), (.ref ba), (.ref bb)])) (argsL := [(.ref ba), (.int (0 : Int32)), (.int (Int32.ofNat cs.length)), .null]) (rest := []) (W := 0) (lenOf pd_14 rfl) (hb hby d2_6) hml
  obtain ⟨b173, k174, rfl, N172q, K172q, szn_b173, q172_E_bb, q172_F_bb_coder, q172_F_bb_value, q172_V_b173⟩ := hQ172
  have g_b173 : Z.heap.size ≤ b173 := Nat.le_trans Z0.1 szn_b173
  have sz_b173 : h0.size ≤ b173 := Nat.le_trans (Keep.refl h0 [bb]).1 szn_b173
  have K172 : Keep h0 T172.heap [bb] := (Keep.refl h0 [bb]).trans K172q (allS (Or.inl (List.mem_of_getElem? (i := 0) rfl)) all0)
  have XX172 : Ext Z.heap T172.heap := own_extK Z0 K172q (allS g_bb all0)
  have N172 := Fr.app N0 N172q
  obtain ⟨fs, hr, hrun, hended, hW, hsame⟩ := X172.leave (v := none) (fun _ => rfl) hlk
  refine ⟨_, _, ?_, hrun, hended, _, _, rfl, ?_, ⟨_, rfl⟩, hW, hsame.mono (by decide) (by decide)⟩
  · show own_S p e below s₁ (mkF m 0 #[rv bb, rv ba] []) _
    refine own_aN X0 hx hby d2_0 ?_
    refine own_aN X0 hx hby d2_1 ?_
    refine own_k X0 hx hby d2_2 ?_
    refine own_aN X0 hx hby d2_3 ?_
    refine X0.arraylength hx (by rw [e0]; exact Ar150.1) (State.isArrayOf_alike hZ.alike Ar150.2.1) (g := (mkF m 4 #[rv bb, rv ba] [(.ref ba), (.int (0 : Int32)), (.ref ba), (.ref bb)])) rfl rfl (hb hby d2_4) _ ?_
    rw [len_of S150 Nn150]
    refine XS.aconstNull X0.here hx rfl (hb hby d2_5) ?_
    refine st172 _ ?_
    exact X172.returnOut hx hret (hb hby d2_9) hr
  · show Qrm149 Z w_CS cc bb ba ka cs ff h0 _ T172.heap _
    exact ⟨b173, k174, rfl, N172, K172, sz_b173, q172_E_bb, q172_F_bb_coder, q172_F_bb_value, q172_V_b173⟩
def Qown_initG (Z : State) (bb : Addr) (cs : List Int32) (h0 : Heap) (v : Option Value) (h : Heap) (L : List Loc) : Prop := v = none ∧ Fr Z.heap.size L ∧ Keep h0 h [bb] ∧ Exa Z h bb "java/lang/String" ∧ own_rep Z h bb cs
theorem own_initG (l : Launch) (Z : State) (a0 : Array Value) (hw : own_HW Z a0) (ws : List Jvm.Cond) (w_CS : Int32) (bb ba : Addr) (ka : ClassId) (cs : List Int32) (h0 : Heap) (Z0 : Ext Z.heap h0) (S_w_CS : own_w_CS Z w_CS) (S_s__assertionsDisabled : own_s__assertionsDisabled Z) (S_s_HI_BYTE_SHIFT : own_s_HI_BYTE_SHIFT Z) (S_s_LO_BYTE_SHIFT : own_s_LO_BYTE_SHIFT Z) (E_bb : Exa Z h0 bb "java/lang/String") (F_bb_coder : Fld Z h0 bb "java/lang/String" "coder" "B" (.int (0 : Int32))) (F_bb_value : Fld Z h0 bb "java/lang/String" "value" "[B" .null) (V_ba : Arv Z h0 ba ka .char (Int32.ofNat cs.length) (own_ch cs) (.int (0 : Int32))) (g_bb : Z.heap.size ≤ bb) (hc1 : ¬ (w_CS = (0 : Int32))) (hc27 : own_s1 cs) (hc34 : own_a16 cs) :
    own_met l y_22 jdk_42_method_3_code 2 none ws ({ frames := 6, cells := 2, slots := 12, locals := 110 } : Room) Z #[(.ref bb), (.ref ba)] h0 (Qown_initG Z bb cs h0) := by
  rcases own_split cs hc34 hc27.2 with h8 | ⟨ff, cc, hF, hU⟩
  · exact own_mono (rm127 l Z a0 hw ws w_CS bb ba ka cs h0 Z0 S_w_CS E_bb F_bb_coder F_bb_value V_ba g_bb hc27 hc1 h8) fun v h L ⟨b147, k148, z1, z2, z3, s0, f0, f1, f2, f3⟩ => ⟨z1, z2, z3, f0, b147, k148, f2, Or.inl ⟨f1, f3, h8⟩⟩
  · exact own_mono (rm149 l Z a0 hw ws w_CS cc bb ba ka cs ff h0 Z0 S_w_CS S_s__assertionsDisabled S_s_HI_BYTE_SHIFT S_s_LO_BYTE_SHIFT E_bb F_bb_coder F_bb_value V_ba g_bb hc27 hc1 hF hU) fun v h L ⟨b173, k174, z1, z2, z3, s0, f0, f1, f2, f3⟩ => ⟨z1, z2, z3, f0, b173, k174, f2, Or.inr ⟨f1, f3⟩⟩
theorem own_sg3 {p : Program} {l : Launch} {e : Env} {s : State} {m : MethodId} {args : Array Value} {below : List Frame} {meth : Method} {c : Code} {T0 : State} {locs : List Loc} (Z : State) (a0 : Array Value) (hw : own_HW Z a0) (cc : Int32) (ba : Addr) (ka : ClassId) (bd : Addr) (kd : ClassId) (vs us : List Value) (nn ii : Int32) (jn : Nat) (h0 : Heap) (Z0 : Ext Z.heap h0) (V_ba : Arv Z h0 ba ka .byte nn vs (.int (0 : Int32))) (V_bd : Arv Z h0 bd kd .char nn us (.int (0 : Int32))) (g_bd : Z.heap.size ≤ bd) (hc13 : ii < nn) (hc14 : own_ib ii nn) (hc15 : own_get vs ii (.int (0 : Int32)) (.int (cc.toInt8.toInt32))) (hc16 : own_l8 cc) (hc17 : own_u16 cc) (hc24 : (ii).toNatClampNeg = jn) (hc25 : jn < us.length) (hc26 : ba ≠ bd) (X0 : Stand p l e ({ frames := 0, cells := 0, slots := 0, locals := 0 } : Room) s m args below meth c T0 locs 0 0) (hx : p.tables.exec = Jvm.exec) (hZ : Z.Warmed39 s.vm) (hby : c.code = jdk_43_method_49_code) (hml : c.maxLocals = 6) (hown : s.vm.findClass "java/lang/StringLatin1" = some m.cls) (e0 : T0.heap = h0) (N0 : Fr Z.heap.size locs) :
    ∃ (T' : State) (L' : List Loc) (h' : Heap), Stand p l e ({ frames := 0, cells := 0, slots := 0, locals := 0 } : Room) s m args below meth c T' L' 0 0 ∧ T'.heap = h' ∧ Fr Z.heap.size L' ∧ Keep h0 h' [bd] ∧ Ext Z.heap h' ∧ Arv Z h' ba ka .byte nn vs (.int (0 : Int32)) ∧ Arv Z h' bd kd .char nn (us.set jn (.int cc)) (.int (0 : Int32)) ∧ ∀ target, Steps p.tables e below (T'.setTop (mkF m 3 #[rv ba, iv (ii + (1 : Int32)), rv bd, iv (ii + (1 : Int32)), iv nn, iv (ii + (1 : Int32))] [])) target → Steps p.tables e below (T0.setTop (mkF m 3 #[rv ba, iv ii, rv bd, iv ii, iv nn, iv ii] [])) target := by
  obtain ⟨cl175, Ar175, q175, S175, Nn175, H175, G175⟩ := id V_ba
  have hin175 : ¬ (ii < 0 ∨ cl175.slots.size ≤ (ii).toNatClampNeg) := inb_of S175 hc14
  have hat175 : cl175.slots[(ii).toNatClampNeg]? = some (.int (cc.toInt8.toInt32)) := Has.at H175 hin175 hc15
  obtain ⟨cl176, Ar176, q176, S176, Nn176, H176, G176⟩ := id V_bd
  have hin176 : ¬ (ii < 0 ∨ cl176.slots.size ≤ (ii).toNatClampNeg) := inb_of S176 hc14
  obtain ⟨T177, h177, X177, e177, W177, st177⟩ := stC X0 hx hZ e0 Ar176 (j := ii) hin176 (g := (mkF m 26 #[rv ba, iv (ii + (1 : Int32)), rv bd, iv (ii + (1 : Int32)), iv nn, iv ii] [(.int cc), (.int ii), (.ref bd)])) rfl rfl (hb hby d29_26)
  rw [(own_nc hc17)] at W177
  have V177 : Arv Z h177 bd kd .char nn (us.set jn (.int cc)) (.int (0 : Int32)) := Arv.set Ar176 q176 S176 Nn176 H176 G176 (by rw [← (own_nc hc17)]; exact fits_nar_char _) W177 jn hc24 hc25
  have K177 : Keep h0 h177 [bd] := (Keep.refl h0 [bd]).wr W177 (Or.inl (List.mem_of_getElem? (i := 0) rfl))
  have XX177 : Ext Z.heap h177 := own_extW Z0 W177 g_bd
  have N177 := Fr.snoc X177 N0 g_bd
  refine ⟨_, _, _, X177, e177, N177, K177, XX177, (V_ba.other W177 hc26), V177, fun target kt => ?_⟩
  show own_S p e below T0 (mkF m 3 #[rv ba, iv ii, rv bd, iv ii, iv nn, iv ii] []) _
  refine own_i X0 hx hby d29_3 ?_
  refine own_i X0 hx hby d29_5 ?_
  refine own_cn X0 hx hby d29_7 (tlt hc13).2.1 ?_
  refine own_aN X0 hx hby d29_10 ?_
  refine own_iN X0 hx hby d29_11 ?_
  refine XS.iinc X0.here hx rfl (hb hby d29_12) rfl (l' := #[rv ba, iv ii, rv bd, iv (ii + (1 : Int32)), iv nn, iv ii]) rfl ?_
  refine own_aN X0 hx hby d29_15 ?_
  refine own_iN X0 hx hby d29_16 ?_
  refine XS.iinc X0.here hx rfl (hb hby d29_17) rfl (l' := #[rv ba, iv (ii + (1 : Int32)), rv bd, iv (ii + (1 : Int32)), iv nn, iv ii]) rfl ?_
  refine X0.baloadBytes hx (j := ii) (v := (.int (cc.toInt8.toInt32))) (by rw [e0]; exact Ar175.1) (State.isArrayOf_alike hZ.alike Ar175.2.1) Ar175.2.2 hin175 hat175 (g := (mkF m 20 #[rv ba, iv (ii + (1 : Int32)), rv bd, iv (ii + (1 : Int32)), iv nn, iv ii] [(.int ii), (.ref ba), (.int ii), (.ref bd)])) rfl rfl (hb hby d29_20) _ ?_
  refine XS.sipush X0.here hx rfl (hb hby d29_21) ?_
  refine XS.iand X0.here hx rfl (hb hby d29_24) rfl ?_
  show own_S p e below T0 (mkF m 25 #[rv ba, iv (ii + (1 : Int32)), rv bd, iv (ii + (1 : Int32)), iv nn, iv ii] [(.int ((cc.toInt8.toInt32) &&& (255 : Int32))), (.int ii), (.ref bd)]) _
  rw [(own_b255 hc16)]
  refine XS.i2c X0.here hx rfl (hb hby d29_25) rfl ?_
  show own_S p e below T0 (mkF m 26 #[rv ba, iv (ii + (1 : Int32)), rv bd, iv (ii + (1 : Int32)), iv nn, iv ii] [(.int (cc.toUInt32.toUInt16.toUInt32.toInt32)), (.int ii), (.ref bd)]) _
  rw [(own_i2c hc17)]
  refine st177 _ ?_
  refine XS.iinc X177.here hx rfl (hb hby d29_27) rfl (l' := #[rv ba, iv (ii + (1 : Int32)), rv bd, iv (ii + (1 : Int32)), iv nn, iv (ii + (1 : Int32))]) rfl ?_
  refine own_go (pc := 30) X177 hx hby d29_30 3 ?_
  show own_S p e below T177 (mkF m 3 #[rv ba, iv (ii + (1 : Int32)), rv bd, iv (ii + (1 : Int32)), iv nn, iv (ii + (1 : Int32))] []) _
  exact kt
theorem own_lp3 {p : Program} {l : Launch} {e : Env} {s : State} {m : MethodId} {args : Array Value} {below : List Frame} {meth : Method} {c : Code} (Z : State) (a0 : Array Value) (hw : own_HW Z a0) (ba : Addr) (ka : ClassId) (bd : Addr) (kd : ClassId) (cs : List Int32) (us : List Value) (ff : Nat) (hz : own_s1 cs) (hu : us.length = cs.length) (hf : ff ≤ cs.length) (h8 : own_all8 cs) (g_bd : Z.heap.size ≤ bd) (hne : ba ≠ bd) (hx : p.tables.exec = Jvm.exec) (hZ : Z.Warmed39 s.vm) (hby : c.code = jdk_43_method_49_code) (hml : c.maxLocals = 6) (hown : s.vm.findClass "java/lang/StringLatin1" = some m.cls) :
    ∀ (d i : Nat), i + d = ff → ∀ (T0 : State) (locs : List Loc) (h0 : Heap), Ext Z.heap h0 → Arv Z h0 ba ka .byte (Int32.ofNat cs.length) (own_lat cs) (.int (0 : Int32)) → Arv Z h0 bd kd .char (Int32.ofNat cs.length) (own_mix i (own_ch cs) us) (.int (0 : Int32)) → Stand p l e ({ frames := 0, cells := 0, slots := 0, locals := 0 } : Room) s m args below meth c T0 locs 0 0 → T0.heap = h0 → Fr Z.heap.size locs → ∃ (T' : State) (L' : List Loc) (h' : Heap), Stand p l e ({ frames := 0, cells := 0, slots := 0, locals := 0 } : Room) s m args below meth c T' L' 0 0 ∧ T'.heap = h' ∧ Fr Z.heap.size L' ∧ Keep h0 h' [bd] ∧ Ext Z.heap h' ∧ Arv Z h' ba ka .byte (Int32.ofNat cs.length) (own_lat cs) (.int (0 : Int32)) ∧ Arv Z h' bd kd .char (Int32.ofNat cs.length) (own_mix ff (own_ch cs) us) (.int (0 : Int32)) ∧ ∀ target, Steps p.tables e below (T'.setTop (mkF m 3 #[rv ba, iv (Int32.ofNat ff), rv bd, iv (Int32.ofNat ff), iv (Int32.ofNat cs.length), iv (Int32.ofNat ff)] [])) target → Steps p.tables e below (T0.setTop (mkF m 3 #[rv ba, iv (Int32.ofNat i), rv bd, iv (Int32.ofNat i), iv (Int32.ofNat cs.length), iv (Int32.ofNat i)] [])) target := by
  intro d
  induction d with
  | zero =>
    intro i hi T0 locs h0  Z0 V_ba V_bd X0 e0 N0
    obtain rfl : i = ff := by omega
    exact ⟨T0, locs, h0, X0, e0, N0, Keep.refl _ _, Z0, V_ba, V_bd, fun _ k => k⟩
  | succ d ih =>
    intro i hi T0 locs h0  Z0 V_ba V_bd X0 e0 N0
    have hlt : i < ff := by omega
    have hs := hz.2
    have hb' := own_back (n := i) (by omega)
    have hl : (own_ch cs).length = us.length := by rw [hu]; exact own_ch_len cs
    obtain ⟨T1, L1, h1, X1, e1, N1, K1, E1, q_V_ba, q_V_bd, st1⟩ := own_sg3 Z a0 hw (cs.getD i 0) ba ka bd kd (own_lat cs) (own_mix i (own_ch cs) us) (Int32.ofNat cs.length) (Int32.ofNat i) i h0 Z0 V_ba V_bd g_bd (own_ofNat_lt (by omega) (by omega)) ⟨hb'.2, own_ofNat_lt (by omega) (by omega)⟩ (own_get_of i hb'.1 (own_lat_get cs i (by omega))) (own_all8_ix h8 i (by omega)) (own_l8_u16 (own_all8_ix h8 i (by omega))) hb'.1 (by rw [own_mix_len hl]; omega) hne X0 hx hZ hby hml hown e0 N0
    rw [own_mix_set hl (by omega) (own_ch_get cs i (by omega))] at q_V_bd
    rw [own_succ] at st1
    obtain ⟨T2, L2, h2, X2, e2, N2, K2, E2, r_V_ba, r_V_bd, st2⟩ := ih (i + 1) (by omega) T1 L1 h1  E1 q_V_ba q_V_bd X1 e1 N1
    exact ⟨T2, L2, h2, X2, e2, N2, K1.trans K2 (allS (Or.inl (List.mem_of_getElem? (i := 0) rfl)) all0), E2, r_V_ba, r_V_bd, fun t k => st1 t (st2 t k)⟩
def Qrm178 (Z : State) (ba : Addr) (ka : ClassId) (bd : Addr) (kd : ClassId) (us : List Value) (cs : List Int32) (h0 : Heap) (v : Option Value) (h : Heap) (L : List Loc) : Prop := v = none ∧ Fr Z.heap.size L ∧ Keep h0 h [bd] ∧ Arv Z h bd kd .char (Int32.ofNat cs.length) (own_ch cs) (.int (0 : Int32))
theorem rm178 (l : Launch) (Z : State) (a0 : Array Value) (hw : own_HW Z a0) (ws : List Jvm.Cond) (ba : Addr) (ka : ClassId) (bd : Addr) (kd : ClassId) (us : List Value) (cs : List Int32) (h0 : Heap) (Z0 : Ext Z.heap h0) (V_ba : Arv Z h0 ba ka .byte (Int32.ofNat cs.length) (own_lat cs) (.int (0 : Int32))) (V_bd : Arv Z h0 bd kd .char (Int32.ofNat cs.length) us (.int (0 : Int32))) (g_bd : Z.heap.size ≤ bd) (hc27 : own_s1 cs) (hc28 : us.length = cs.length) (hc29 : own_all8 cs) (hc26 : ba ≠ bd) :
    own_met l y_23 jdk_43_method_49_code 6 none ws ({ frames := 0, cells := 0, slots := 0, locals := 0 } : Room) Z #[(.ref ba), (.int (0 : Int32)), (.ref bd), (.int (0 : Int32)), (.int (Int32.ofNat cs.length))] h0 (Qrm178 Z ba ka bd kd us cs h0) := by
  refine own_start (plainFor_of_name pn_4) (fun m => ef_jdk_43_method_49_RIRII m ba (0 : Int32) bd (0 : Int32) (Int32.ofNat cs.length)) ?_
  intro p e s m below meth c s₁ hx hby hml hown hnm X0 hZ e0 hret hlk
  have N0 := Fr.nil Z.heap.size
  obtain ⟨T179, L179, h179, X179, e179, N179, K179q, XX179, q179_V_ba, q179_V_bd, st179⟩ := own_lp3 Z a0 hw ba ka bd kd cs us cs.length  hc27 hc28 (Nat.le_refl _) hc29 g_bd hc26 hx hZ hby hml hown _ 0 (Nat.zero_add _) _ _ _  Z0 V_ba V_bd X0 e0 N0
  rw [own_mix_all cs.length (own_ch_len cs) hc28] at q179_V_bd
  have K179 : Keep h0 h179 [bd] := (Keep.refl h0 [bd]).trans K179q (allS (Or.inl (List.mem_of_getElem? (i := 0) rfl)) all0)
  obtain ⟨fs, hr, hrun, hended, hW, hsame⟩ := X179.leave (v := none) (fun _ => rfl) hlk
  refine ⟨_, _, ?_, hrun, hended, _, _, rfl, ?_, ⟨_, rfl⟩, hW, hsame.mono (by decide) (by decide)⟩
  · show own_S p e below s₁ (mkF m 0 #[rv ba, iv (0 : Int32), rv bd, iv (0 : Int32), iv (Int32.ofNat cs.length), .unset] []) _
    refine own_k X0 hx hby d29_0 ?_
    refine XS.istore X0.here hx rfl (hb hby d29_1) rfl (l' := #[rv ba, iv (0 : Int32), rv bd, iv (0 : Int32), iv (Int32.ofNat cs.length), iv (0 : Int32)]) rfl ?_
    refine st179 _ ?_
    show own_S p e below T179 (mkF m 3 #[rv ba, iv (Int32.ofNat cs.length), rv bd, iv (Int32.ofNat cs.length), iv (Int32.ofNat cs.length), iv (Int32.ofNat cs.length)] []) _
    refine own_i X179 hx hby d29_3 ?_
    refine own_i X179 hx hby d29_5 ?_
    refine own_cy (pc := 7) X179 hx hby d29_7 (flt (Int32.lt_irrefl : ¬ ((Int32.ofNat cs.length) < (Int32.ofNat cs.length)))).2.1 33 ?_
    exact X179.returnOut hx hret (hb hby d29_33) hr
  · show Qrm178 Z ba ka bd kd us cs h0 _ T179.heap _
    rw [e179]
    exact ⟨rfl, N179, K179, q179_V_bd⟩
theorem own_sg4 {p : Program} {l : Launch} {e : Env} {s : State} {m : MethodId} {args : Array Value} {below : List Frame} {meth : Method} {c : Code} {T0 : State} {locs : List Loc} (Z : State) (a0 : Array Value) (hw : own_HW Z a0) (cc : Int32) (ba : Addr) (ka : ClassId) (bd : Addr) (kd : ClassId) (vs us : List Value) (nn mm ii jj : Int32) (jn : Nat) (h0 : Heap) (Z0 : Ext Z.heap h0) (S_s__assertionsDisabled : own_s__assertionsDisabled Z) (S_s_HI_BYTE_SHIFT : own_s_HI_BYTE_SHIFT Z) (S_s_LO_BYTE_SHIFT : own_s_LO_BYTE_SHIFT Z) (V_ba : Arv Z h0 ba ka .byte mm vs (.int (0 : Int32))) (V_bd : Arv Z h0 bd kd .char nn us (.int (0 : Int32))) (g_bd : Z.heap.size ≤ bd) (hc13 : ii < nn) (hc18 : (ii <<< ((1 : Int32) &&& 31)) = jj) (hc19 : own_ib jj mm) (hc20 : own_get vs jj (.int (0 : Int32)) (.int (cc.toInt8.toInt32))) (hc21 : own_ib (jj + (1 : Int32)) mm) (hc22 : own_get vs (jj + (1 : Int32)) (.int (0 : Int32)) (.int ((cc >>> ((8 : Int32) &&& 31)).toInt8.toInt32))) (hc17 : own_u16 cc) (hc14 : own_ib ii nn) (hc24 : (ii).toNatClampNeg = jn) (hc25 : jn < us.length) (hc26 : ba ≠ bd) (X0 : Stand p l e ({ frames := 6, cells := 0, slots := 0, locals := 110 } : Room) s m args below meth c T0 locs 0 0) (hx : p.tables.exec = Jvm.exec) (hZ : Z.Warmed39 s.vm) (hby : c.code = jdk_52_method_26_code) (hml : c.maxLocals = 6) (hown : s.vm.findClass "java/lang/StringUTF16" = some m.cls) (e0 : T0.heap = h0) (N0 : Fr Z.heap.size locs) :
    ∃ (T' : State) (L' : List Loc) (h' : Heap), Stand p l e ({ frames := 6, cells := 0, slots := 0, locals := 110 } : Room) s m args below meth c T' L' 0 0 ∧ T'.heap = h' ∧ Fr Z.heap.size L' ∧ Keep h0 h' [bd] ∧ Ext Z.heap h' ∧ Arv Z h' ba ka .byte mm vs (.int (0 : Int32)) ∧ Arv Z h' bd kd .char nn (us.set jn (.int cc)) (.int (0 : Int32)) ∧ ∀ target, Steps p.tables e below (T'.setTop (mkF m 16 #[rv ba, iv (0 : Int32), iv nn, rv bd, iv (ii + (1 : Int32)), iv (ii + (1 : Int32))] [])) target → Steps p.tables e below (T0.setTop (mkF m 16 #[rv ba, iv (0 : Int32), iv nn, rv bd, iv ii, iv ii] [])) target := by
  obtain ⟨_, T180, Lc180, X180, hQ180, st180⟩ := own_static (y := y_12) X0 hx hZ hown (own_w hw 101 rfl) (own_w hw 102 rfl) (own_w hw 45 rfl) (own_w hw 103 rfl) (rm71 l Z a0 hw [] cc ba vs mm ii jj ka h0 Z0 S_s__assertionsDisabled S_s_HI_BYTE_SHIFT S_s_LO_BYTE_SHIFT V_ba hc18 hc19 hc20 hc21 hc22 hc17) e0 (g := (mkF m 31 #[rv ba, iv (0 : Int32), iv nn, rv bd, iv (ii + (1 : Int32)), iv ii] [(.int ii), (.ref ba), (.int ii), (.ref bd)])) (argsL := [(.ref ba), (.int ii)]) (rest := [(.int ii), (.ref bd)]) (W := 2) (lenOf pd_5 rfl) (hb hby d31_31) hml
  obtain ⟨rfl, N180q, e180⟩ := hQ180
  have N180 := Fr.app N0 N180q
  obtain ⟨cl181, Ar181, q181, S181, Nn181, H181, G181⟩ := id V_bd
  have hin181 : ¬ (ii < 0 ∨ cl181.slots.size ≤ (ii).toNatClampNeg) := inb_of S181 hc14
  obtain ⟨T182, h182, X182, e182, W182, st182⟩ := stC X180 hx hZ e180 Ar181 (j := ii) hin181 (g := (mkF m 34 #[rv ba, iv (0 : Int32), iv nn, rv bd, iv (ii + (1 : Int32)), iv ii] [(.int cc), (.int ii), (.ref bd)])) rfl rfl (hb hby d31_34)
  rw [(own_nc hc17)] at W182
  have V182 : Arv Z h182 bd kd .char nn (us.set jn (.int cc)) (.int (0 : Int32)) := Arv.set Ar181 q181 S181 Nn181 H181 G181 (by rw [← (own_nc hc17)]; exact fits_nar_char _) W182 jn hc24 hc25
  have K182 : Keep h0 h182 [bd] := (Keep.refl h0 [bd]).wr W182 (Or.inl (List.mem_of_getElem? (i := 0) rfl))
  have XX182 : Ext Z.heap h182 := own_extW Z0 W182 g_bd
  have N182 := Fr.snoc X182 N180 g_bd
  refine ⟨_, _, _, X182, e182, N182, K182, XX182, (V_ba.other W182 hc26), V182, fun target kt => ?_⟩
  show own_S p e below T0 (mkF m 16 #[rv ba, iv (0 : Int32), iv nn, rv bd, iv ii, iv ii] []) _
  refine own_i X0 hx hby d31_16 ?_
  refine own_iN X0 hx hby d31_18 ?_
  refine own_cn X0 hx hby d31_19 (tlt hc13).2.1 ?_
  refine own_aN X0 hx hby d31_22 ?_
  refine own_i X0 hx hby d31_23 ?_
  refine XS.iinc X0.here hx rfl (hb hby d31_25) rfl (l' := #[rv ba, iv (0 : Int32), iv nn, rv bd, iv (ii + (1 : Int32)), iv ii]) rfl ?_
  refine own_aN X0 hx hby d31_28 ?_
  refine own_i X0 hx hby d31_29 ?_
  refine st180 _ ?_
  refine st182 _ ?_
  refine XS.iinc X182.here hx rfl (hb hby d31_35) rfl (l' := #[rv ba, iv (0 : Int32), iv nn, rv bd, iv (ii + (1 : Int32)), iv (ii + (1 : Int32))]) rfl ?_
  refine own_go (pc := 38) X182 hx hby d31_38 16 ?_
  show own_S p e below T182 (mkF m 16 #[rv ba, iv (0 : Int32), iv nn, rv bd, iv (ii + (1 : Int32)), iv (ii + (1 : Int32))] []) _
  exact kt
theorem own_lp4 {p : Program} {l : Launch} {e : Env} {s : State} {m : MethodId} {args : Array Value} {below : List Frame} {meth : Method} {c : Code} (Z : State) (a0 : Array Value) (hw : own_HW Z a0) (ba : Addr) (ka : ClassId) (bd : Addr) (kd : ClassId) (cs : List Int32) (us : List Value) (ff : Nat) (S_s__assertionsDisabled : own_s__assertionsDisabled Z) (S_s_HI_BYTE_SHIFT : own_s_HI_BYTE_SHIFT Z) (S_s_LO_BYTE_SHIFT : own_s_LO_BYTE_SHIFT Z) (hz : own_s1 cs) (hu : us.length = cs.length) (hf : ff ≤ cs.length) (h8 : own_a16 cs) (g_bd : Z.heap.size ≤ bd) (hne : ba ≠ bd) (hx : p.tables.exec = Jvm.exec) (hZ : Z.Warmed39 s.vm) (hby : c.code = jdk_52_method_26_code) (hml : c.maxLocals = 6) (hown : s.vm.findClass "java/lang/StringUTF16" = some m.cls) :
    ∀ (d i : Nat), i + d = ff → ∀ (T0 : State) (locs : List Loc) (h0 : Heap), Ext Z.heap h0 → Arv Z h0 ba ka .byte (Int32.ofNat (2 * cs.length)) (own_wid cs) (.int (0 : Int32)) → Arv Z h0 bd kd .char (Int32.ofNat cs.length) (own_mix i (own_ch cs) us) (.int (0 : Int32)) → Stand p l e ({ frames := 6, cells := 0, slots := 0, locals := 110 } : Room) s m args below meth c T0 locs 0 0 → T0.heap = h0 → Fr Z.heap.size locs → ∃ (T' : State) (L' : List Loc) (h' : Heap), Stand p l e ({ frames := 6, cells := 0, slots := 0, locals := 110 } : Room) s m args below meth c T' L' 0 0 ∧ T'.heap = h' ∧ Fr Z.heap.size L' ∧ Keep h0 h' [bd] ∧ Ext Z.heap h' ∧ Arv Z h' ba ka .byte (Int32.ofNat (2 * cs.length)) (own_wid cs) (.int (0 : Int32)) ∧ Arv Z h' bd kd .char (Int32.ofNat cs.length) (own_mix ff (own_ch cs) us) (.int (0 : Int32)) ∧ ∀ target, Steps p.tables e below (T'.setTop (mkF m 16 #[rv ba, iv (0 : Int32), iv (Int32.ofNat cs.length), rv bd, iv (Int32.ofNat ff), iv (Int32.ofNat ff)] [])) target → Steps p.tables e below (T0.setTop (mkF m 16 #[rv ba, iv (0 : Int32), iv (Int32.ofNat cs.length), rv bd, iv (Int32.ofNat i), iv (Int32.ofNat i)] [])) target := by
  intro d
  induction d with
  | zero =>
    intro i hi T0 locs h0  Z0 V_ba V_bd X0 e0 N0
    obtain rfl : i = ff := by omega
    exact ⟨T0, locs, h0, X0, e0, N0, Keep.refl _ _, Z0, V_ba, V_bd, fun _ k => k⟩
  | succ d ih =>
    intro i hi T0 locs h0  Z0 V_ba V_bd X0 e0 N0
    have hlt : i < ff := by omega
    have hs := hz.2
    have hb' := own_back (n := i) (by omega)
    have hl : (own_ch cs).length = us.length := by rw [hu]; exact own_ch_len cs
    have hb2 := own_back (n := 2 * i) (by omega)
    have hb3 := own_back (n := 2 * i + 1) (by omega)
    have hg := own_wid_get cs i (by omega)
    obtain ⟨T1, L1, h1, X1, e1, N1, K1, E1, q_V_ba, q_V_bd, st1⟩ := own_sg4 Z a0 hw (cs.getD i 0) ba ka bd kd (own_wid cs) (own_mix i (own_ch cs) us) (Int32.ofNat cs.length) (Int32.ofNat (2 * cs.length)) (Int32.ofNat i) (Int32.ofNat (2 * i)) i h0 Z0 S_s__assertionsDisabled S_s_HI_BYTE_SHIFT S_s_LO_BYTE_SHIFT V_ba V_bd g_bd (own_ofNat_lt (by omega) (by omega)) (own_n4 (P := fun i => (Int32.ofNat i <<< ((1 : Int32) &&& 31)) = Int32.ofNat (2 * i)) (by decide) (by omega)) ⟨hb2.2, own_ofNat_lt (by omega) (by omega)⟩ (own_get_of _ hb2.1 hg.1) (by rw [own_succ]; exact ⟨hb3.2, own_ofNat_lt (by omega) (by omega)⟩) (by rw [own_succ]; exact own_get_of _ hb3.1 hg.2) (own_a16_ix h8 i (by omega)) ⟨hb'.2, own_ofNat_lt (by omega) (by omega)⟩ hb'.1 (by rw [own_mix_len hl]; omega) hne X0 hx hZ hby hml hown e0 N0
    rw [own_mix_set hl (by omega) (own_ch_get cs i (by omega))] at q_V_bd
    rw [own_succ] at st1
    obtain ⟨T2, L2, h2, X2, e2, N2, K2, E2, r_V_ba, r_V_bd, st2⟩ := ih (i + 1) (by omega) T1 L1 h1  E1 q_V_ba q_V_bd X1 e1 N1
    exact ⟨T2, L2, h2, X2, e2, N2, K1.trans K2 (allS (Or.inl (List.mem_of_getElem? (i := 0) rfl)) all0), E2, r_V_ba, r_V_bd, fun t k => st1 t (st2 t k)⟩
def Qrm185 (Z : State) (ba : Addr) (ka : ClassId) (cs : List Int32) (h0 : Heap) (v : Option Value) (h : Heap) (L : List Loc) : Prop := v = some (.int (Int32.ofNat cs.length)) ∧ Fr Z.heap.size L ∧ h = h0
theorem rm185 (l : Launch) (Z : State) (a0 : Array Value) (hw : own_HW Z a0) (ws : List Jvm.Cond) (ba : Addr) (ka : ClassId) (cs : List Int32) (h0 : Heap) (Z0 : Ext Z.heap h0) (V_ba : Arv Z h0 ba ka .byte (Int32.ofNat (2 * cs.length)) (own_wid cs) (.int (0 : Int32))) (hc27 : own_s1 cs) :
    own_met l y_10 jdk_52_method_6_code 1 (some .int) ws ({ frames := 0, cells := 0, slots := 0, locals := 0 } : Room) Z #[(.ref ba)] h0 (Qrm185 Z ba ka cs h0) := by
  refine own_start (plainFor_of_name pn_5) (fun m => ef_jdk_52_method_6_R m ba) ?_
  intro p e s m below meth c s₁ hx hby hml hown hnm X0 hZ e0 hret hlk
  have N0 := Fr.nil Z.heap.size
  obtain ⟨cl186, Ar186, q186, S186, Nn186, H186, G186⟩ := id V_ba
  obtain ⟨fs, hr, hrun, hended, hW, hsame⟩ := X0.leave (v := some (.int (Int32.ofNat cs.length))) (fun h => by rw [hret] at h; cases h) hlk
  refine ⟨_, _, ?_, hrun, hended, _, _, rfl, ?_, ⟨_, rfl⟩, hW, hsame.mono (by decide) (by decide)⟩
  · show own_S p e below s₁ (mkF m 0 #[rv ba] []) _
    refine own_aN X0 hx hby d26_0 ?_
    refine X0.arraylength hx (by rw [e0]; exact Ar186.1) (State.isArrayOf_alike hZ.alike Ar186.2.1) (g := (mkF m 1 #[rv ba] [(.ref ba)])) rfl rfl (hb hby d26_1) _ ?_
    rw [len_of S186 Nn186]
    refine own_k X0 hx hby d26_2 ?_
    refine XS.ishr X0.here hx rfl (hb hby d26_3) rfl ?_
    show own_S p e below s₁ (mkF m 4 #[rv ba] [(.int ((Int32.ofNat (2 * cs.length)) >>> ((1 : Int32) &&& 31)))]) _
    rw [(own_g_half hc27.2)]
    exact retI X0 hx hret (hb hby d26_4) hr
  · show Qrm185 Z ba ka cs h0 _ s₁.heap _
    rw [e0]
    exact ⟨rfl, N0, rfl⟩
def Qrm190 (Z : State) (w_SF : Value) (cs : List Int32) (h0 : Heap) (v : Option Value) (h : Heap) (L : List Loc) : Prop := v = some (.int (0 : Int32)) ∧ Fr Z.heap.size L ∧ h = h0
theorem rm190 (l : Launch) (Z : State) (a0 : Array Value) (hw : own_HW Z a0) (ws : List Jvm.Cond) (w_SF : Value) (cs : List Int32) (h0 : Heap) (Z0 : Ext Z.heap h0) (R_w_SF : w_SF.isRef = true) (hc27 : own_s1 cs) :
    own_met l y_24 jdk_41_method_13_code 4 (some .int) ws ({ frames := 0, cells := 0, slots := 0, locals := 0 } : Room) Z #[(.int (0 : Int32)), (.int (Int32.ofNat cs.length)), (.int (Int32.ofNat cs.length)), w_SF] h0 (Qrm190 Z w_SF cs h0) := by
  refine own_start (plainFor_of_name pn_3) (fun m => ef_jdk_41_method_13_IIIX m (0 : Int32) (Int32.ofNat cs.length) (Int32.ofNat cs.length) w_SF R_w_SF) ?_
  intro p e s m below meth c s₁ hx hby hml hown hnm X0 hZ e0 hret hlk
  have N0 := Fr.nil Z.heap.size
  obtain ⟨fs, hr, hrun, hended, hW, hsame⟩ := X0.leave (v := some (.int (0 : Int32))) (fun h => by rw [hret] at h; cases h) hlk
  refine ⟨_, _, ?_, hrun, hended, _, _, rfl, ?_, ⟨_, rfl⟩, hW, hsame.mono (by decide) (by decide)⟩
  · show own_S p e below s₁ (mkF m 0 #[iv (0 : Int32), iv (Int32.ofNat cs.length), iv (Int32.ofNat cs.length), .val w_SF] []) _
    refine own_iN X0 hx hby d34_0 ?_
    refine own_iN X0 hx hby d34_1 ?_
    refine XS.ior X0.here hx rfl (hb hby d34_2) rfl ?_
    refine own_iN X0 hx hby d34_3 ?_
    refine XS.ior X0.here hx rfl (hb hby d34_4) rfl ?_
    refine own_in X0 hx hby d34_5 (flt (own_z_or hc27)).1 ?_
    refine own_iN X0 hx hby d34_8 ?_
    refine own_iN X0 hx hby d34_9 ?_
    refine own_iN X0 hx hby d34_10 ?_
    refine XS.isub X0.here hx rfl (hb hby d34_11) rfl ?_
    show own_S p e below s₁ (mkF m 12 #[iv (0 : Int32), iv (Int32.ofNat cs.length), iv (Int32.ofNat cs.length), .val w_SF] [(.int ((Int32.ofNat cs.length) - (0 : Int32))), (.int (Int32.ofNat cs.length))]) _
    rw [(own_sub0 _)]
    refine own_cy (pc := 12) X0 hx hby d34_12 (flt (Int32.lt_irrefl : ¬ ((Int32.ofNat cs.length) < (Int32.ofNat cs.length)))).2.2.2 23 ?_
    refine own_iN X0 hx hby d34_23 ?_
    exact retI X0 hx hret (hb hby d34_24) hr
  · show Qrm190 Z w_SF cs h0 _ s₁.heap _
    rw [e0]
    exact ⟨rfl, N0, rfl⟩
def Qrm188 (Z : State) (w_SF : Value) (cs : List Int32) (h0 : Heap) (v : Option Value) (h : Heap) (L : List Loc) : Prop := v = some (.int (0 : Int32)) ∧ Fr Z.heap.size L ∧ h = h0
theorem rm188 (l : Launch) (Z : State) (a0 : Array Value) (hw : own_HW Z a0) (ws : List Jvm.Cond) (w_SF : Value) (cs : List Int32) (h0 : Heap) (Z0 : Ext Z.heap h0) (S_w_SF : own_w_SF Z w_SF) (R_w_SF : w_SF.isRef = true) (hc27 : own_s1 cs) :
    own_met l y_25 jdk_42_method_157_code 3 (some .int) ws ({ frames := 1, cells := 0, slots := 0, locals := 15 } : Room) Z #[(.int (0 : Int32)), (.int (Int32.ofNat cs.length)), (.int (Int32.ofNat cs.length))] h0 (Qrm188 Z w_SF cs h0) := by
  refine own_start (plainFor_of_name pn_2) (fun m => ef_jdk_42_method_157_III m (0 : Int32) (Int32.ofNat cs.length) (Int32.ofNat cs.length)) ?_
  intro p e s m below meth c s₁ hx hby hml hown hnm X0 hZ e0 hret hlk
  have N0 := Fr.nil Z.heap.size
  obtain ⟨T189, X189, e189, st189⟩ := getS2 X0 hx hZ hown (host := "") (Or.inl (own_w hw 70 rfl)) Via.refl e0 (S_w_SF.ext Z0) (g := (mkF m 3 #[iv (0 : Int32), iv (Int32.ofNat cs.length), iv (Int32.ofNat cs.length)] [(.int (Int32.ofNat cs.length)), (.int (Int32.ofNat cs.length)), (.int (0 : Int32))])) rfl (hb hby d33_3)
  obtain ⟨_, T191, Lc191, X191, hQ191, st191⟩ := own_static (y := y_24) X189 hx hZ hown (own_w hw 139 rfl) (own_w hw 140 rfl) (own_w hw 71 rfl) (own_w hw 141 rfl) (rm190 l Z a0 hw [] w_SF cs h0 Z0 R_w_SF hc27) e189 (g := (mkF m 6 #[iv (0 : Int32), iv (Int32.ofNat cs.length), iv (Int32.ofNat cs.length)] [w_SF, (.int (Int32.ofNat cs.length)), (.int (Int32.ofNat cs.length)), (.int (0 : Int32))])) (argsL := [(.int (0 : Int32)), (.int (Int32.ofNat cs.length)), (.int (Int32.ofNat cs.length)), w_SF]) (rest := []) (W := 0) (lenOf pd_15 rfl) (hb hby d33_6) hml
  obtain ⟨rfl, N191q, e191⟩ := hQ191
  have N191 := Fr.app N0 N191q
  obtain ⟨fs, hr, hrun, hended, hW, hsame⟩ := X191.leave (v := some (.int (0 : Int32))) (fun h => by rw [hret] at h; cases h) hlk
  refine ⟨_, _, ?_, hrun, hended, _, _, rfl, ?_, ⟨_, rfl⟩, hW, hsame.mono (by decide) (by decide)⟩
  · show own_S p e below s₁ (mkF m 0 #[iv (0 : Int32), iv (Int32.ofNat cs.length), iv (Int32.ofNat cs.length)] []) _
    refine own_iN X0 hx hby d33_0 ?_
    refine own_iN X0 hx hby d33_1 ?_
    refine own_iN X0 hx hby d33_2 ?_
    refine st189 _ ?_
    refine st191 _ ?_
    exact retI X191 hx hret (hb hby d33_9) hr
  · show Qrm188 Z w_SF cs h0 _ T191.heap _
    rw [e191]
    exact ⟨rfl, N191, rfl⟩
def Qrm184 (Z : State) (w_SF : Value) (ba : Addr) (ka : ClassId) (cs : List Int32) (h0 : Heap) (v : Option Value) (h : Heap) (L : List Loc) : Prop := v = none ∧ Fr Z.heap.size L ∧ h = h0
theorem rm184 (l : Launch) (Z : State) (a0 : Array Value) (hw : own_HW Z a0) (ws : List Jvm.Cond) (w_SF : Value) (ba : Addr) (ka : ClassId) (cs : List Int32) (h0 : Heap) (Z0 : Ext Z.heap h0) (S_w_SF : own_w_SF Z w_SF) (R_w_SF : w_SF.isRef = true) (V_ba : Arv Z h0 ba ka .byte (Int32.ofNat (2 * cs.length)) (own_wid cs) (.int (0 : Int32))) (hc27 : own_s1 cs) :
    own_met l y_26 jdk_52_method_94_code 3 none ws ({ frames := 2, cells := 0, slots := 0, locals := 29 } : Room) Z #[(.int (0 : Int32)), (.int (Int32.ofNat cs.length)), (.ref ba)] h0 (Qrm184 Z w_SF ba ka cs h0) := by
  refine own_start (plainFor_of_name pn_5) (fun m => ef_jdk_52_method_94_IIR m (0 : Int32) (Int32.ofNat cs.length) ba) ?_
  intro p e s m below meth c s₁ hx hby hml hown hnm X0 hZ e0 hret hlk
  have N0 := Fr.nil Z.heap.size
  obtain ⟨_, T187, Lc187, X187, hQ187, st187⟩ := own_static (y := y_10) X0 hx hZ hown (own_w hw 110 rfl) (own_w hw 111 rfl) (own_w hw 45 rfl) (own_w hw 112 rfl) (rm185 l Z a0 hw [] ba ka cs h0 Z0 V_ba hc27) e0 (g := (mkF m 3 #[iv (0 : Int32), iv (Int32.ofNat cs.length), rv ba] [(.ref ba), (.int (Int32.ofNat cs.length)), (.int (0 : Int32))])) (argsL := [(.ref ba)]) (rest := [(.int (Int32.ofNat cs.length)), (.int (0 : Int32))]) (W := 2) (lenOf pd_6 rfl) (hb hby d32_3) hml
  obtain ⟨rfl, N187q, e187⟩ := hQ187
  have N187 := Fr.app N0 N187q
  obtain ⟨_, T192, Lc192, X192, hQ192, st192⟩ := own_static (y := y_25) X187 hx hZ hown (own_w hw 136 rfl) (own_w hw 137 rfl) (own_w hw 7 rfl) (own_w hw 138 rfl) (rm188 l Z a0 hw [] w_SF cs h0 Z0 S_w_SF R_w_SF hc27) e187 (g := (mkF m 6 #[iv (0 : Int32), iv (Int32.ofNat cs.length), rv ba] [(.int (Int32.ofNat cs.length)), (.int (Int32.ofNat cs.length)), (.int (0 : Int32))])) (argsL := [(.int (0 : Int32)), (.int (Int32.ofNat cs.length)), (.int (Int32.ofNat cs.length))]) (rest := []) (W := 0) (lenOf pd_16 rfl) (hb hby d32_6) hml
  obtain ⟨rfl, N192q, e192⟩ := hQ192
  have N192 := Fr.app N187 N192q
  obtain ⟨fs, hr, hrun, hended, hW, hsame⟩ := X192.leave (v := none) (fun _ => rfl) hlk
  refine ⟨_, _, ?_, hrun, hended, _, _, rfl, ?_, ⟨_, rfl⟩, hW, hsame.mono (by decide) (by decide)⟩
  · show own_S p e below s₁ (mkF m 0 #[iv (0 : Int32), iv (Int32.ofNat cs.length), rv ba] []) _
    refine own_iN X0 hx hby d32_0 ?_
    refine own_iN X0 hx hby d32_1 ?_
    refine own_aN X0 hx hby d32_2 ?_
    refine st187 _ ?_
    refine st192 _ ?_
    refine XS.pop X192.here hx rfl (hb hby d32_9) rfl rfl ?_
    exact X192.returnOut hx hret (hb hby d32_10) hr
  · show Qrm184 Z w_SF ba ka cs h0 _ T192.heap _
    rw [e192]
    exact ⟨rfl, N192, rfl⟩
def Qrm183 (Z : State) (w_SF : Value) (ba : Addr) (ka : ClassId) (bd : Addr) (kd : ClassId) (us : List Value) (cs : List Int32) (h0 : Heap) (v : Option Value) (h : Heap) (L : List Loc) : Prop := v = none ∧ Fr Z.heap.size L ∧ Keep h0 h [bd] ∧ Arv Z h bd kd .char (Int32.ofNat cs.length) (own_ch cs) (.int (0 : Int32))
theorem rm183 (l : Launch) (Z : State) (a0 : Array Value) (hw : own_HW Z a0) (ws : List Jvm.Cond) (w_SF : Value) (ba : Addr) (ka : ClassId) (bd : Addr) (kd : ClassId) (us : List Value) (cs : List Int32) (h0 : Heap) (Z0 : Ext Z.heap h0) (S_w_SF : own_w_SF Z w_SF) (R_w_SF : w_SF.isRef = true) (S_s__assertionsDisabled : own_s__assertionsDisabled Z) (S_s_HI_BYTE_SHIFT : own_s_HI_BYTE_SHIFT Z) (S_s_LO_BYTE_SHIFT : own_s_LO_BYTE_SHIFT Z) (V_ba : Arv Z h0 ba ka .byte (Int32.ofNat (2 * cs.length)) (own_wid cs) (.int (0 : Int32))) (V_bd : Arv Z h0 bd kd .char (Int32.ofNat cs.length) us (.int (0 : Int32))) (g_bd : Z.heap.size ≤ bd) (hc27 : own_s1 cs) (hc28 : us.length = cs.length) (hc34 : own_a16 cs) (hc26 : ba ≠ bd) :
    own_met l y_27 jdk_52_method_26_code 6 none ws ({ frames := 6, cells := 0, slots := 0, locals := 110 } : Room) Z #[(.ref ba), (.int (0 : Int32)), (.int (Int32.ofNat cs.length)), (.ref bd), (.int (0 : Int32))] h0 (Qrm183 Z w_SF ba ka bd kd us cs h0) := by
  refine own_start (plainFor_of_name pn_5) (fun m => ef_jdk_52_method_26_RIIRI m ba (0 : Int32) (Int32.ofNat cs.length) bd (0 : Int32)) ?_
  intro p e s m below meth c s₁ hx hby hml hown hnm X0 hZ e0 hret hlk
  have N0 := Fr.nil Z.heap.size
  obtain ⟨_, T193, Lc193, X193, hQ193, st193⟩ := own_static (y := y_26) X0 hx hZ hown (own_w hw 133 rfl) (own_w hw 134 rfl) (own_w hw 45 rfl) (own_w hw 135 rfl) (rm184 l Z a0 hw [] w_SF ba ka cs h0 Z0 S_w_SF R_w_SF V_ba hc27) e0 (g := (mkF m 10 #[rv ba, iv (0 : Int32), iv (Int32.ofNat cs.length), rv bd, iv (0 : Int32), .unset] [(.ref ba), (.int (Int32.ofNat cs.length)), (.int (0 : Int32))])) (argsL := [(.int (0 : Int32)), (.int (Int32.ofNat cs.length)), (.ref ba)]) (rest := []) (W := 0) (lenOf pd_17 rfl) (hb hby d31_10) hml
  obtain ⟨rfl, N193q, e193⟩ := hQ193
  have N193 := Fr.app N0 N193q
  obtain ⟨T194, L194, h194, X194, e194, N194, K194q, XX194, q194_V_ba, q194_V_bd, st194⟩ := own_lp4 Z a0 hw ba ka bd kd cs us cs.length S_s__assertionsDisabled S_s_HI_BYTE_SHIFT S_s_LO_BYTE_SHIFT hc27 hc28 (Nat.le_refl _) hc34 g_bd hc26 hx hZ hby hml hown _ 0 (Nat.zero_add _) _ _ _  Z0 V_ba V_bd X193 e193 N193
  rw [own_mix_all cs.length (own_ch_len cs) hc28] at q194_V_bd
  have K194 : Keep h0 h194 [bd] := (Keep.refl h0 [bd]).trans K194q (allS (Or.inl (List.mem_of_getElem? (i := 0) rfl)) all0)
  obtain ⟨fs, hr, hrun, hended, hW, hsame⟩ := X194.leave (v := none) (fun _ => rfl) hlk
  refine ⟨_, _, ?_, hrun, hended, _, _, rfl, ?_, ⟨_, rfl⟩, hW, hsame.mono (by decide) (by decide)⟩
  · show own_S p e below s₁ (mkF m 0 #[rv ba, iv (0 : Int32), iv (Int32.ofNat cs.length), rv bd, iv (0 : Int32), .unset] []) _
    refine own_iN X0 hx hby d31_0 ?_
    refine own_iN X0 hx hby d31_1 ?_
    refine own_cn X0 hx hby d31_2 (tlt (own_z_pos hc27)).2.1 ?_
    refine own_iN X0 hx hby d31_5 ?_
    refine own_iN X0 hx hby d31_6 ?_
    refine own_iN X0 hx hby d31_7 ?_
    refine XS.isub X0.here hx rfl (hb hby d31_8) rfl ?_
    show own_S p e below s₁ (mkF m 9 #[rv ba, iv (0 : Int32), iv (Int32.ofNat cs.length), rv bd, iv (0 : Int32), .unset] [(.int ((Int32.ofNat cs.length) - (0 : Int32))), (.int (0 : Int32))]) _
    rw [(own_sub0 _)]
    refine own_aN X0 hx hby d31_9 ?_
    refine st193 _ ?_
    refine own_iN X193 hx hby d31_13 ?_
    refine XS.istore X193.here hx rfl (hb hby d31_14) rfl (l' := #[rv ba, iv (0 : Int32), iv (Int32.ofNat cs.length), rv bd, iv (0 : Int32), iv (0 : Int32)]) rfl ?_
    refine st194 _ ?_
    show own_S p e below T194 (mkF m 16 #[rv ba, iv (0 : Int32), iv (Int32.ofNat cs.length), rv bd, iv (Int32.ofNat cs.length), iv (Int32.ofNat cs.length)] []) _
    refine own_i X194 hx hby d31_16 ?_
    refine own_iN X194 hx hby d31_18 ?_
    refine own_cy (pc := 19) X194 hx hby d31_19 (flt (Int32.lt_irrefl : ¬ ((Int32.ofNat cs.length) < (Int32.ofNat cs.length)))).2.1 41 ?_
    exact X194.returnOut hx hret (hb hby d31_41) hr
  · show Qrm183 Z w_SF ba ka bd kd us cs h0 _ T194.heap _
    rw [e194]
    exact ⟨rfl, N194, K194, q194_V_bd⟩
def Qrm196 (Z : State) (w_CS : Int32) (bb : Addr) (h0 : Heap) (v : Option Value) (h : Heap) (L : List Loc) : Prop := v = some (.int (1 : Int32)) ∧ Fr Z.heap.size L ∧ h = h0
theorem rm196 (l : Launch) (Z : State) (a0 : Array Value) (hw : own_HW Z a0) (ws : List Jvm.Cond) (w_CS : Int32) (bb : Addr) (h0 : Heap) (Z0 : Ext Z.heap h0) (S_w_CS : own_w_CS Z w_CS) (F_bb_coder : Fld Z h0 bb "java/lang/String" "coder" "B" (.int (0 : Int32))) (hc1 : ¬ (w_CS = (0 : Int32))) :
    own_met l y_5 jdk_42_method_154_code 1 (some .boolean) ws ({ frames := 0, cells := 0, slots := 0, locals := 0 } : Room) Z #[(.ref bb)] h0 (Qrm196 Z w_CS bb h0) := by
  refine own_start (plainFor_of_name pn_2) (fun m => ef_jdk_42_method_154_R m bb) ?_
  intro p e s m below meth c s₁ hx hby hml hown hnm X0 hZ e0 hret hlk
  have N0 := Fr.nil Z.heap.size
  obtain ⟨T197, X197, e197, st197⟩ := getS2 X0 hx hZ hown (host := "") (Or.inl (own_w hw 41 rfl)) Via.refl e0 (S_w_CS.ext Z0) (g := (mkF m 0 #[rv bb] [])) rfl (hb hby d12_0)
  obtain ⟨T198, X198, e198, st198⟩ := getF X197 hx hZ hown (host := "") (Or.inl (own_w hw 26 rfl)) Via.refl e197 F_bb_coder (g := (mkF m 7 #[rv bb] [(.ref bb)])) rfl rfl (hb hby d12_7)
  obtain ⟨fs, hr, hrun, hended, hW, hsame⟩ := X198.leave (v := some (.int (1 : Int32))) (fun h => by rw [hret] at h; cases h) hlk
  refine ⟨_, _, ?_, hrun, hended, _, _, rfl, ?_, ⟨_, rfl⟩, hW, hsame.mono (by decide) (by decide)⟩
  · show own_S p e below s₁ (mkF m 0 #[rv bb] []) _
    refine st197 _ ?_
    refine own_in X197 hx hby d12_3 (feq hc1).1 ?_
    refine own_aN X197 hx hby d12_6 ?_
    refine st198 _ ?_
    refine own_in X198 hx hby d12_10 (teq (rfl : (0 : Int32) = (0 : Int32))).2 ?_
    refine own_k X198 hx hby d12_13 ?_
    refine own_go (pc := 14) X198 hx hby d12_14 18 ?_
    exact retN X198 hx (t := .boolean) hret (by simp) (hb hby d12_18) hr
  · show Qrm196 Z w_CS bb h0 _ T198.heap _
    rw [e198]
    exact ⟨rfl, N0, rfl⟩
def Qrm201 (Z : State) (ba : Addr) (ka : ClassId) (cs : List Int32) (h0 : Heap) (v : Option Value) (h : Heap) (L : List Loc) : Prop := ∃ b203 : Addr, ∃ k203 : ClassId, v = some (.ref b203) ∧ Fr Z.heap.size L ∧ Keep h0 h [] ∧ h0.size ≤ b203 ∧ Arv Z h b203 k203 .char (Int32.ofNat cs.length) (own_ch cs) (.int (0 : Int32))
theorem rm201 (l : Launch) (Z : State) (a0 : Array Value) (hw : own_HW Z a0) (ws : List Jvm.Cond) (ba : Addr) (ka : ClassId) (cs : List Int32) (h0 : Heap) (Z0 : Ext Z.heap h0) (V_ba : Arv Z h0 ba ka .byte (Int32.ofNat cs.length) (own_lat cs) (.int (0 : Int32))) (hc27 : own_s1 cs) (hc29 : own_all8 cs) :
    own_met l y_28 jdk_43_method_9_code 2 (some (.array .char)) ws ({ frames := 1, cells := 1, slots := 4, locals := 17 } : Room) Z #[(.ref ba)] h0 (Qrm201 Z ba ka cs h0) := by
  refine own_start (plainFor_of_name pn_4) (fun m => ef_jdk_43_method_9_R m ba) ?_
  intro p e s m below meth c s₁ hx hby hml hown hnm X0 hZ e0 hret hlk
  have N0 := Fr.nil Z.heap.size
  obtain ⟨cl202, Ar202, q202, S202, Nn202, H202, G202⟩ := id V_ba
  obtain ⟨T203, h203, k203, X203, e203, E203, A203, st203⟩ := newP X0 hx hZ (own_w hw 8 rfl) e0 (g := (mkF m 2 #[rv ba, .unset] [(.int (Int32.ofNat cs.length))])) rfl (hb hby d28_2) rfl (own_z_nn hc27) (cap := 4) (own_z_cap hc27) (by decide) (by decide) (by decide)
  obtain ⟨b203, g203⟩ : ∃ z, z = h0.size := ⟨_, rfl⟩
  rw [← g203] at A203 st203
  have g_b203 : Z.heap.size ≤ b203 := Nat.le_trans Z0.1 (Nat.le_of_eq g203.symm)
  have sz_b203 : h0.size ≤ b203 := Nat.le_trans (Keep.refl h0 []).1 (Nat.le_of_eq g203.symm)
  have V_b203 : Arv Z h203 b203 k203 .char (Int32.ofNat cs.length) (List.replicate cs.length (.int (0 : Int32))) (.int (0 : Int32)) := (Arv.new A203 (own_z_nn hc27)).pad (pad_rep [] (.int (0 : Int32)) cs.length)
  have K203 : Keep h0 h203 [] := (Keep.refl h0 []).ext E203
  have XX203 : Ext Z.heap h203 := own_ext2 Z0 E203
  obtain ⟨cl204, Ar204, q204, S204, Nn204, H204, G204⟩ := id (V_ba.ext E203)
  have ne_ba_b203 : ba ≠ b203 := Nat.ne_of_lt (Nat.lt_of_lt_of_le V_ba.lt (Nat.le_of_eq g203.symm))
  obtain ⟨_, T205, Lc205, X205, hQ205, st205⟩ := own_static (y := y_23) X203 hx hZ hown (own_w hw 122 rfl) (own_w hw 123 rfl) (own_w hw 65 rfl) (own_w hw 124 rfl) (rm178 l Z a0 hw [] ba ka b203 k203 (List.replicate cs.length (.int (0 : Int32))) cs h203 XX203 (V_ba.ext E203) V_b203 g_b203 hc27 List.length_replicate hc29 ne_ba_b203) e203 (g := (mkF m 11 #[rv ba, rv b203] [(.int (Int32.ofNat cs.length)), (.int (0 : Int32)), (.ref b203), (.int (0 : Int32)), (.ref ba)])) (argsL := [(.ref ba), (.int (0 : Int32)), (.ref b203), (.int (0 : Int32)), (.int (Int32.ofNat cs.length))]) (rest := []) (W := 0) (lenOf pd_18 rfl) (hb hby d28_11) hml
  obtain ⟨rfl, N205q, K205q, q205_V_b203⟩ := hQ205
  have K205 : Keep h0 T205.heap [] := K203.trans K205q (allS (Or.inr sz_b203) all0)
  have XX205 : Ext Z.heap T205.heap := own_extK XX203 K205q (allS g_b203 all0)
  have N205 := Fr.app N0 N205q
  obtain ⟨fs, hr, hrun, hended, hW, hsame⟩ := X205.leave (v := some (.ref b203)) (fun h => by rw [hret] at h; cases h) hlk
  refine ⟨_, _, ?_, hrun, hended, _, _, rfl, ?_, ⟨_, rfl⟩, hW, hsame.mono (by decide) (by decide)⟩
  · show own_S p e below s₁ (mkF m 0 #[rv ba, .unset] []) _
    refine own_aN X0 hx hby d28_0 ?_
    refine X0.arraylength hx (by rw [e0]; exact Ar202.1) (State.isArrayOf_alike hZ.alike Ar202.2.1) (g := (mkF m 1 #[rv ba, .unset] [(.ref ba)])) rfl rfl (hb hby d28_1) _ ?_
    rw [len_of S202 Nn202]
    refine st203 _ ?_
    refine XS.astoreN X203.here hx rfl (hb hby d28_4) rfl rfl (l' := #[rv ba, rv b203]) rfl ?_
    refine own_aN X203 hx hby d28_5 ?_
    refine own_k X203 hx hby d28_6 ?_
    refine own_aN X203 hx hby d28_7 ?_
    refine own_k X203 hx hby d28_8 ?_
    refine own_aN X203 hx hby d28_9 ?_
    refine X203.arraylength hx (by rw [e203]; exact Ar204.1) (State.isArrayOf_alike hZ.alike Ar204.2.1) (g := (mkF m 10 #[rv ba, rv b203] [(.ref ba), (.int (0 : Int32)), (.ref b203), (.int (0 : Int32)), (.ref ba)])) rfl rfl (hb hby d28_10) _ ?_
    rw [len_of S204 Nn204]
    refine st205 _ ?_
    refine own_aN X205 hx hby d28_14 ?_
    jvm_step X205.here [X205.here.top, hx, (hb hby d28_15), X205.method', hret, Value.isRef, FieldType.isReference]
    first | (intro acts; rw [hr _ acts rfl rfl rfl]) | rw [hr _ _ rfl rfl rfl]
    exact Steps.refl _
  · show Qrm201 Z ba ka cs h0 _ T205.heap _
    exact ⟨b203, k203, rfl, N205, K205, sz_b203, q205_V_b203⟩
def Qrm195 (Z : State) (w_CS : Int32) (bb ba : Addr) (ka : ClassId) (cs : List Int32) (h0 : Heap) (v : Option Value) (h : Heap) (L : List Loc) : Prop := ∃ b207 : Addr, ∃ k208 : ClassId, v = some (.ref b207) ∧ Fr Z.heap.size L ∧ Keep h0 h [] ∧ h0.size ≤ b207 ∧ Arv Z h b207 k208 .char (Int32.ofNat cs.length) (own_ch cs) (.int (0 : Int32))
theorem rm195 (l : Launch) (Z : State) (a0 : Array Value) (hw : own_HW Z a0) (ws : List Jvm.Cond) (w_CS : Int32) (bb ba : Addr) (ka : ClassId) (cs : List Int32) (h0 : Heap) (Z0 : Ext Z.heap h0) (S_w_CS : own_w_CS Z w_CS) (E_bb : Exa Z h0 bb "java/lang/String") (F_bb_coder : Fld Z h0 bb "java/lang/String" "coder" "B" (.int (0 : Int32))) (F_bb_value : Fld Z h0 bb "java/lang/String" "value" "[B" (.ref ba)) (V_ba : Arv Z h0 ba ka .byte (Int32.ofNat cs.length) (own_lat cs) (.int (0 : Int32))) (hc1 : ¬ (w_CS = (0 : Int32))) (hc27 : own_s1 cs) (hc29 : own_all8 cs) :
    own_met l y_29 jdk_42_method_129_code 1 (some (.array .char)) ws ({ frames := 8, cells := 1, slots := 4, locals := 160 } : Room) Z #[(.ref bb)] h0 (Qrm195 Z w_CS bb ba ka cs h0) := by
  refine own_start (plainFor_of_name pn_2) (fun m => ef_jdk_42_method_129_R m bb) ?_
  intro p e s m below meth c s₁ hx hby hml hown hnm X0 hZ e0 hret hlk
  have N0 := Fr.nil Z.heap.size
  obtain ⟨_, T199, Lc199, X199, hQ199, st199⟩ := own_virtual (y := y_5) X0 hx hZ hown (own_w hw 58 rfl) (own_w hw 59 rfl) (own_w hw 61 rfl) (own_w hw 60 rfl) (own_w hw 7 rfl) (own_w hw 62 rfl) (rm196 l Z a0 hw [] w_CS bb h0 Z0 S_w_CS F_bb_coder hc1) e0 E_bb (g := (mkF m 1 #[rv bb] [(.ref bb)])) (argsL := []) (rest := []) (W := 0) (lenOf pd_2 rfl) (hb hby d27_1) hml
  obtain ⟨rfl, N199q, e199⟩ := hQ199
  have N199 := Fr.app N0 N199q
  obtain ⟨T200, X200, e200, st200⟩ := getF X199 hx hZ hown (host := "") (Or.inl (own_w hw 25 rfl)) Via.refl e199 F_bb_value (g := (mkF m 8 #[rv bb] [(.ref bb)])) rfl rfl (hb hby d27_8)
  obtain ⟨_, T206, Lc206, X206, hQ206, st206⟩ := own_static (y := y_28) X200 hx hZ hown (own_w hw 119 rfl) (own_w hw 120 rfl) (own_w hw 65 rfl) (own_w hw 121 rfl) (rm201 l Z a0 hw [] ba ka cs h0 Z0 V_ba hc27 hc29) e200 (g := (mkF m 11 #[rv bb] [(.ref ba)])) (argsL := [(.ref ba)]) (rest := []) (W := 0) (lenOf pd_19 rfl) (hb hby d27_11) hml
  obtain ⟨b207, k208, rfl, N206q, K206q, szn_b207, q206_V_b207⟩ := hQ206
  have g_b207 : Z.heap.size ≤ b207 := Nat.le_trans Z0.1 szn_b207
  have sz_b207 : h0.size ≤ b207 := Nat.le_trans (Keep.refl h0 []).1 szn_b207
  have K206 : Keep h0 T206.heap [] := (Keep.refl h0 []).trans K206q all0
  have XX206 : Ext Z.heap T206.heap := own_extK Z0 K206q all0
  have N206 := Fr.app N199 N206q
  obtain ⟨fs, hr, hrun, hended, hW, hsame⟩ := X206.leave (v := some (.ref b207)) (fun h => by rw [hret] at h; cases h) hlk
  refine ⟨_, _, ?_, hrun, hended, _, _, rfl, ?_, ⟨_, rfl⟩, hW, hsame.mono (by decide) (by decide)⟩
  · show own_S p e below s₁ (mkF m 0 #[rv bb] []) _
    refine own_aN X0 hx hby d27_0 ?_
    refine st199 _ ?_
    refine own_in X199 hx hby d27_4 (feq (by decide : ¬ ((1 : Int32) = (0 : Int32)))).1 ?_
    refine own_aN X199 hx hby d27_7 ?_
    refine st200 _ ?_
    refine st206 _ ?_
    refine own_go (pc := 14) X206 hx hby d27_14 24 ?_
    jvm_step X206.here [X206.here.top, hx, (hb hby d27_24), X206.method', hret, Value.isRef, FieldType.isReference]
    first | (intro acts; rw [hr _ acts rfl rfl rfl]) | rw [hr _ _ rfl rfl rfl]
    exact Steps.refl _
  · show Qrm195 Z w_CS bb ba ka cs h0 _ T206.heap _
    exact ⟨b207, k208, rfl, N206, K206, sz_b207, q206_V_b207⟩
def Qrm210 (Z : State) (w_CS : Int32) (bb : Addr) (h0 : Heap) (v : Option Value) (h : Heap) (L : List Loc) : Prop := v = some (.int (0 : Int32)) ∧ Fr Z.heap.size L ∧ h = h0
theorem rm210 (l : Launch) (Z : State) (a0 : Array Value) (hw : own_HW Z a0) (ws : List Jvm.Cond) (w_CS : Int32) (bb : Addr) (h0 : Heap) (Z0 : Ext Z.heap h0) (S_w_CS : own_w_CS Z w_CS) (F_bb_coder : Fld Z h0 bb "java/lang/String" "coder" "B" (.int (1 : Int32))) (hc1 : ¬ (w_CS = (0 : Int32))) :
    own_met l y_5 jdk_42_method_154_code 1 (some .boolean) ws ({ frames := 0, cells := 0, slots := 0, locals := 0 } : Room) Z #[(.ref bb)] h0 (Qrm210 Z w_CS bb h0) := by
  refine own_start (plainFor_of_name pn_2) (fun m => ef_jdk_42_method_154_R m bb) ?_
  intro p e s m below meth c s₁ hx hby hml hown hnm X0 hZ e0 hret hlk
  have N0 := Fr.nil Z.heap.size
  obtain ⟨T211, X211, e211, st211⟩ := getS2 X0 hx hZ hown (host := "") (Or.inl (own_w hw 41 rfl)) Via.refl e0 (S_w_CS.ext Z0) (g := (mkF m 0 #[rv bb] [])) rfl (hb hby d12_0)
  obtain ⟨T212, X212, e212, st212⟩ := getF X211 hx hZ hown (host := "") (Or.inl (own_w hw 26 rfl)) Via.refl e211 F_bb_coder (g := (mkF m 7 #[rv bb] [(.ref bb)])) rfl rfl (hb hby d12_7)
  obtain ⟨fs, hr, hrun, hended, hW, hsame⟩ := X212.leave (v := some (.int (0 : Int32))) (fun h => by rw [hret] at h; cases h) hlk
  refine ⟨_, _, ?_, hrun, hended, _, _, rfl, ?_, ⟨_, rfl⟩, hW, hsame.mono (by decide) (by decide)⟩
  · show own_S p e below s₁ (mkF m 0 #[rv bb] []) _
    refine st211 _ ?_
    refine own_in X211 hx hby d12_3 (feq hc1).1 ?_
    refine own_aN X211 hx hby d12_6 ?_
    refine st212 _ ?_
    refine own_iy (pc := 10) X212 hx hby d12_10 (feq (by decide : ¬ ((1 : Int32) = (0 : Int32)))).2 17 ?_
    refine own_k X212 hx hby d12_17 ?_
    exact retN X212 hx (t := .boolean) hret (by simp) (hb hby d12_18) hr
  · show Qrm210 Z w_CS bb h0 _ T212.heap _
    rw [e212]
    exact ⟨rfl, N0, rfl⟩
def Qrm215 (Z : State) (w_SF : Value) (ba : Addr) (ka : ClassId) (cs : List Int32) (h0 : Heap) (v : Option Value) (h : Heap) (L : List Loc) : Prop := ∃ b217 : Addr, ∃ k217 : ClassId, v = some (.ref b217) ∧ Fr Z.heap.size L ∧ Keep h0 h [] ∧ h0.size ≤ b217 ∧ Arv Z h b217 k217 .char (Int32.ofNat cs.length) (own_ch cs) (.int (0 : Int32))
theorem rm215 (l : Launch) (Z : State) (a0 : Array Value) (hw : own_HW Z a0) (ws : List Jvm.Cond) (w_SF : Value) (ba : Addr) (ka : ClassId) (cs : List Int32) (h0 : Heap) (Z0 : Ext Z.heap h0) (S_w_SF : own_w_SF Z w_SF) (R_w_SF : w_SF.isRef = true) (S_s__assertionsDisabled : own_s__assertionsDisabled Z) (S_s_HI_BYTE_SHIFT : own_s_HI_BYTE_SHIFT Z) (S_s_LO_BYTE_SHIFT : own_s_LO_BYTE_SHIFT Z) (V_ba : Arv Z h0 ba ka .byte (Int32.ofNat (2 * cs.length)) (own_wid cs) (.int (0 : Int32))) (hc27 : own_s1 cs) (hc34 : own_a16 cs) :
    own_met l y_30 jdk_52_method_13_code 2 (some (.array .char)) ws ({ frames := 7, cells := 1, slots := 4, locals := 127 } : Room) Z #[(.ref ba)] h0 (Qrm215 Z w_SF ba ka cs h0) := by
  refine own_start (plainFor_of_name pn_5) (fun m => ef_jdk_52_method_13_R m ba) ?_
  intro p e s m below meth c s₁ hx hby hml hown hnm X0 hZ e0 hret hlk
  have N0 := Fr.nil Z.heap.size
  obtain ⟨cl216, Ar216, q216, S216, Nn216, H216, G216⟩ := id V_ba
  obtain ⟨T217, h217, k217, X217, e217, E217, A217, st217⟩ := newP X0 hx hZ (own_w hw 8 rfl) e0 (g := (mkF m 4 #[rv ba, .unset] [(.int (Int32.ofNat cs.length))])) rfl (hb hby d30_4) rfl (own_z_nn hc27) (cap := 4) (own_z_cap hc27) (by decide) (by decide) (by decide)
  obtain ⟨b217, g217⟩ : ∃ z, z = h0.size := ⟨_, rfl⟩
  rw [← g217] at A217 st217
  have g_b217 : Z.heap.size ≤ b217 := Nat.le_trans Z0.1 (Nat.le_of_eq g217.symm)
  have sz_b217 : h0.size ≤ b217 := Nat.le_trans (Keep.refl h0 []).1 (Nat.le_of_eq g217.symm)
  have V_b217 : Arv Z h217 b217 k217 .char (Int32.ofNat cs.length) (List.replicate cs.length (.int (0 : Int32))) (.int (0 : Int32)) := (Arv.new A217 (own_z_nn hc27)).pad (pad_rep [] (.int (0 : Int32)) cs.length)
  have K217 : Keep h0 h217 [] := (Keep.refl h0 []).ext E217
  have XX217 : Ext Z.heap h217 := own_ext2 Z0 E217
  obtain ⟨cl218, Ar218, q218, S218, Nn218, H218, G218⟩ := id V_b217
  have ne_ba_b217 : ba ≠ b217 := Nat.ne_of_lt (Nat.lt_of_lt_of_le V_ba.lt (Nat.le_of_eq g217.symm))
  obtain ⟨_, T219, Lc219, X219, hQ219, st219⟩ := own_static (y := y_27) X217 hx hZ hown (own_w hw 130 rfl) (own_w hw 131 rfl) (own_w hw 45 rfl) (own_w hw 132 rfl) (rm183 l Z a0 hw [] w_SF ba ka b217 k217 (List.replicate cs.length (.int (0 : Int32))) cs h217 XX217 S_w_SF R_w_SF S_s__assertionsDisabled S_s_HI_BYTE_SHIFT S_s_LO_BYTE_SHIFT (V_ba.ext E217) V_b217 g_b217 hc27 List.length_replicate hc34 ne_ba_b217) e217 (g := (mkF m 13 #[rv ba, rv b217] [(.int (0 : Int32)), (.ref b217), (.int (Int32.ofNat cs.length)), (.int (0 : Int32)), (.ref ba)])) (argsL := [(.ref ba), (.int (0 : Int32)), (.int (Int32.ofNat cs.length)), (.ref b217), (.int (0 : Int32))]) (rest := []) (W := 0) (lenOf pd_20 rfl) (hb hby d30_13) hml
  obtain ⟨rfl, N219q, K219q, q219_V_b217⟩ := hQ219
  have K219 : Keep h0 T219.heap [] := K217.trans K219q (allS (Or.inr sz_b217) all0)
  have XX219 : Ext Z.heap T219.heap := own_extK XX217 K219q (allS g_b217 all0)
  have N219 := Fr.app N0 N219q
  obtain ⟨fs, hr, hrun, hended, hW, hsame⟩ := X219.leave (v := some (.ref b217)) (fun h => by rw [hret] at h; cases h) hlk
  refine ⟨_, _, ?_, hrun, hended, _, _, rfl, ?_, ⟨_, rfl⟩, hW, hsame.mono (by decide) (by decide)⟩
  · show own_S p e below s₁ (mkF m 0 #[rv ba, .unset] []) _
    refine own_aN X0 hx hby d30_0 ?_
    refine X0.arraylength hx (by rw [e0]; exact Ar216.1) (State.isArrayOf_alike hZ.alike Ar216.2.1) (g := (mkF m 1 #[rv ba, .unset] [(.ref ba)])) rfl rfl (hb hby d30_1) _ ?_
    rw [len_of S216 Nn216]
    refine own_k X0 hx hby d30_2 ?_
    refine XS.ishr X0.here hx rfl (hb hby d30_3) rfl ?_
    show own_S p e below s₁ (mkF m 4 #[rv ba, .unset] [(.int ((Int32.ofNat (2 * cs.length)) >>> ((1 : Int32) &&& 31)))]) _
    rw [(own_g_half hc27.2)]
    refine st217 _ ?_
    refine XS.astoreN X217.here hx rfl (hb hby d30_6) rfl rfl (l' := #[rv ba, rv b217]) rfl ?_
    refine own_aN X217 hx hby d30_7 ?_
    refine own_k X217 hx hby d30_8 ?_
    refine own_aN X217 hx hby d30_9 ?_
    refine X217.arraylength hx (by rw [e217]; exact Ar218.1) (State.isArrayOf_alike hZ.alike Ar218.2.1) (g := (mkF m 10 #[rv ba, rv b217] [(.ref b217), (.int (0 : Int32)), (.ref ba)])) rfl rfl (hb hby d30_10) _ ?_
    rw [len_of S218 Nn218]
    refine own_aN X217 hx hby d30_11 ?_
    refine own_k X217 hx hby d30_12 ?_
    refine st219 _ ?_
    refine own_aN X219 hx hby d30_16 ?_
    jvm_step X219.here [X219.here.top, hx, (hb hby d30_17), X219.method', hret, Value.isRef, FieldType.isReference]
    first | (intro acts; rw [hr _ acts rfl rfl rfl]) | rw [hr _ _ rfl rfl rfl]
    exact Steps.refl _
  · show Qrm215 Z w_SF ba ka cs h0 _ T219.heap _
    exact ⟨b217, k217, rfl, N219, K219, sz_b217, q219_V_b217⟩
def Qrm209 (Z : State) (w_CS : Int32) (w_SF : Value) (bb ba : Addr) (ka : ClassId) (cs : List Int32) (h0 : Heap) (v : Option Value) (h : Heap) (L : List Loc) : Prop := ∃ b221 : Addr, ∃ k222 : ClassId, v = some (.ref b221) ∧ Fr Z.heap.size L ∧ Keep h0 h [] ∧ h0.size ≤ b221 ∧ Arv Z h b221 k222 .char (Int32.ofNat cs.length) (own_ch cs) (.int (0 : Int32))
theorem rm209 (l : Launch) (Z : State) (a0 : Array Value) (hw : own_HW Z a0) (ws : List Jvm.Cond) (w_CS : Int32) (w_SF : Value) (bb ba : Addr) (ka : ClassId) (cs : List Int32) (h0 : Heap) (Z0 : Ext Z.heap h0) (S_w_CS : own_w_CS Z w_CS) (S_w_SF : own_w_SF Z w_SF) (R_w_SF : w_SF.isRef = true) (S_s__assertionsDisabled : own_s__assertionsDisabled Z) (S_s_HI_BYTE_SHIFT : own_s_HI_BYTE_SHIFT Z) (S_s_LO_BYTE_SHIFT : own_s_LO_BYTE_SHIFT Z) (E_bb : Exa Z h0 bb "java/lang/String") (F_bb_coder : Fld Z h0 bb "java/lang/String" "coder" "B" (.int (1 : Int32))) (F_bb_value : Fld Z h0 bb "java/lang/String" "value" "[B" (.ref ba)) (V_ba : Arv Z h0 ba ka .byte (Int32.ofNat (2 * cs.length)) (own_wid cs) (.int (0 : Int32))) (hc1 : ¬ (w_CS = (0 : Int32))) (hc27 : own_s1 cs) (hc34 : own_a16 cs) :
    own_met l y_29 jdk_42_method_129_code 1 (some (.array .char)) ws ({ frames := 8, cells := 1, slots := 4, locals := 160 } : Room) Z #[(.ref bb)] h0 (Qrm209 Z w_CS w_SF bb ba ka cs h0) := by
  refine own_start (plainFor_of_name pn_2) (fun m => ef_jdk_42_method_129_R m bb) ?_
  intro p e s m below meth c s₁ hx hby hml hown hnm X0 hZ e0 hret hlk
  have N0 := Fr.nil Z.heap.size
  obtain ⟨_, T213, Lc213, X213, hQ213, st213⟩ := own_virtual (y := y_5) X0 hx hZ hown (own_w hw 58 rfl) (own_w hw 59 rfl) (own_w hw 61 rfl) (own_w hw 60 rfl) (own_w hw 7 rfl) (own_w hw 62 rfl) (rm210 l Z a0 hw [] w_CS bb h0 Z0 S_w_CS F_bb_coder hc1) e0 E_bb (g := (mkF m 1 #[rv bb] [(.ref bb)])) (argsL := []) (rest := []) (W := 0) (lenOf pd_2 rfl) (hb hby d27_1) hml
  obtain ⟨rfl, N213q, e213⟩ := hQ213
  have N213 := Fr.app N0 N213q
  obtain ⟨T214, X214, e214, st214⟩ := getF X213 hx hZ hown (host := "") (Or.inl (own_w hw 25 rfl)) Via.refl e213 F_bb_value (g := (mkF m 18 #[rv bb] [(.ref bb)])) rfl rfl (hb hby d27_18)
  obtain ⟨_, T220, Lc220, X220, hQ220, st220⟩ := own_static (y := y_30) X214 hx hZ hown (own_w hw 127 rfl) (own_w hw 128 rfl) (own_w hw 45 rfl) (own_w hw 129 rfl) (rm215 l Z a0 hw [] w_SF ba ka cs h0 Z0 S_w_SF R_w_SF S_s__assertionsDisabled S_s_HI_BYTE_SHIFT S_s_LO_BYTE_SHIFT V_ba hc27 hc34) e214 (g := (mkF m 21 #[rv bb] [(.ref ba)])) (argsL := [(.ref ba)]) (rest := []) (W := 0) (lenOf pd_19 rfl) (hb hby d27_21) hml
  obtain ⟨b221, k222, rfl, N220q, K220q, szn_b221, q220_V_b221⟩ := hQ220
  have g_b221 : Z.heap.size ≤ b221 := Nat.le_trans Z0.1 szn_b221
  have sz_b221 : h0.size ≤ b221 := Nat.le_trans (Keep.refl h0 []).1 szn_b221
  have K220 : Keep h0 T220.heap [] := (Keep.refl h0 []).trans K220q all0
  have XX220 : Ext Z.heap T220.heap := own_extK Z0 K220q all0
  have N220 := Fr.app N213 N220q
  obtain ⟨fs, hr, hrun, hended, hW, hsame⟩ := X220.leave (v := some (.ref b221)) (fun h => by rw [hret] at h; cases h) hlk
  refine ⟨_, _, ?_, hrun, hended, _, _, rfl, ?_, ⟨_, rfl⟩, hW, hsame.mono (by decide) (by decide)⟩
  · show own_S p e below s₁ (mkF m 0 #[rv bb] []) _
    refine own_aN X0 hx hby d27_0 ?_
    refine st213 _ ?_
    refine own_iy (pc := 4) X213 hx hby d27_4 (teq (rfl : (0 : Int32) = (0 : Int32))).1 17 ?_
    refine own_aN X213 hx hby d27_17 ?_
    refine st214 _ ?_
    refine st220 _ ?_
    jvm_step X220.here [X220.here.top, hx, (hb hby d27_24), X220.method', hret, Value.isRef, FieldType.isReference]
    first | (intro acts; rw [hr _ acts rfl rfl rfl]) | rw [hr _ _ rfl rfl rfl]
    exact Steps.refl _
  · show Qrm209 Z w_CS w_SF bb ba ka cs h0 _ T220.heap _
    exact ⟨b221, k222, rfl, N220, K220, sz_b221, q220_V_b221⟩
def Qown_tcaG (Z : State) (cs : List Int32) (h0 : Heap) (v : Option Value) (h : Heap) (L : List Loc) : Prop := ∃ (b : Addr) (k : ClassId), v = some (.ref b) ∧ Fr Z.heap.size L ∧ Keep h0 h [] ∧ h0.size ≤ b ∧ Arv Z h b k .char (Int32.ofNat cs.length) (own_ch cs) (.int (0 : Int32))
theorem own_tcaG (l : Launch) (Z : State) (a0 : Array Value) (hw : own_HW Z a0) (ws : List Jvm.Cond) (w_CS : Int32) (w_SF : Value) (bb : Addr) (cs : List Int32) (h0 : Heap) (Z0 : Ext Z.heap h0) (S_w_CS : own_w_CS Z w_CS) (R_w_SF : w_SF.isRef = true) (S_w_SF : own_w_SF Z w_SF) (S_s__assertionsDisabled : own_s__assertionsDisabled Z) (S_s_HI_BYTE_SHIFT : own_s_HI_BYTE_SHIFT Z) (S_s_LO_BYTE_SHIFT : own_s_LO_BYTE_SHIFT Z) (E_bb : Exa Z h0 bb "java/lang/String") (T_bb : own_rep Z h0 bb cs) (hc1 : ¬ (w_CS = (0 : Int32))) (hc27 : own_s1 cs) (hc34 : own_a16 cs) :
    own_met l y_29 jdk_42_method_129_code 1 (some (.array .char)) ws ({ frames := 8, cells := 1, slots := 4, locals := 160 } : Room) Z #[(.ref bb)] h0 (Qown_tcaG Z cs h0) := by
  obtain ⟨ba, ka, hV, ⟨hC, hA, h8⟩ | ⟨hC, hA⟩⟩ := T_bb
  · exact own_mono (rm195 l Z a0 hw ws w_CS bb ba ka cs h0 Z0 S_w_CS E_bb hC hV hA hc1 hc27 h8) fun v h L q => q
  · exact own_mono (rm209 l Z a0 hw ws w_CS w_SF bb ba ka cs h0 Z0 S_w_CS S_w_SF R_w_SF S_s__assertionsDisabled S_s_HI_BYTE_SHIFT S_s_LO_BYTE_SHIFT E_bb hC hV hA hc1 hc27 hc34) fun v h L q => q
theorem own_sg5 {p : Program} {l : Launch} {e : Env} {s : State} {m : MethodId} {args : Array Value} {below : List Frame} {meth : Method} {c : Code} {T0 : State} {locs : List Loc} (Z : State) (a0 : Array Value) (hw : own_HW Z a0) (w_CS : Int32) (w_SF : Value) (cc : Int32) (bb : Addr) (cs : List Int32) (ii : Int32) (h0 : Heap) (Z0 : Ext Z.heap h0) (S_w_CS : own_w_CS Z w_CS) (R_w_SF : w_SF.isRef = true) (S_w_SF : own_w_SF Z w_SF) (S_s__assertionsDisabled : own_s__assertionsDisabled Z) (S_s_HI_BYTE_SHIFT : own_s_HI_BYTE_SHIFT Z) (S_s_LO_BYTE_SHIFT : own_s_LO_BYTE_SHIFT Z) (E_bb : Exa Z h0 bb "java/lang/String") (T_bb : own_rep Z h0 bb cs) (hc1 : ¬ (w_CS = (0 : Int32))) (hc9 : own_sz cs) (hc35 : ii < (Int32.ofNat cs.length)) (hc17 : own_u16 cc) (hc11 : own_at cs ii cc) (hc36 : (own_lo cc) = cc) (X0 : Stand p l e ({ frames := 9, cells := 4, slots := 24, locals := 180 } : Room) s m args below meth c T0 locs 0 0) (hx : p.tables.exec = Jvm.exec) (hZ : Z.Warmed39 s.vm) (hby : c.code = prog_38_method_3_code) (hml : c.maxLocals = 4) (hown : s.vm.findClass "com/example/zia_tally/ziatally/tabulation/Word" = some m.cls) (e0 : T0.heap = h0) (N0 : Fr Z.heap.size locs) :
    ∃ (T' : State) (L' : List Loc), Stand p l e ({ frames := 9, cells := 4, slots := 24, locals := 180 } : Room) s m args below meth c T' L' 0 0 ∧ T'.heap = h0 ∧ Fr Z.heap.size L' ∧ ∀ target, Steps p.tables e below (T'.setTop (mkF m 2 #[rv bb, iv (ii + (1 : Int32)), .unset, .unset] [])) target → Steps p.tables e below (T0.setTop (mkF m 2 #[rv bb, iv ii, .unset, .unset] [])) target := by
  obtain ⟨_, T225, Lc225, X225, hQ225, st225⟩ := own_virtual (y := y_4) X0 hx hZ hown (own_w hw 31 rfl) (own_w hw 32 rfl) (own_w hw 34 rfl) (own_w hw 33 rfl) (own_w hw 7 rfl) (own_w hw 35 rfl) (own_lenG l Z a0 hw [] w_CS bb cs h0 Z0 S_w_CS E_bb T_bb hc1 hc9) e0 E_bb (g := (mkF m 4 #[rv bb, iv ii, .unset, .unset] [(.ref bb), (.int ii)])) (argsL := []) (rest := [(.int ii)]) (W := 1) (lenOf pd_21 rfl) (hb hby d5_4) hml
  obtain ⟨rfl, N225q, e225⟩ := hQ225
  have N225 := Fr.app N0 N225q
  obtain ⟨_, T226, Lc226, X226, hQ226, st226⟩ := own_virtual (y := y_9) X225 hx hZ hown (own_w hw 53 rfl) (own_w hw 54 rfl) (own_w hw 56 rfl) (own_w hw 55 rfl) (own_w hw 7 rfl) (own_w hw 57 rfl) (own_chG l Z a0 hw [] w_CS w_SF cc bb cs ii h0 Z0 S_w_CS R_w_SF S_w_SF S_s__assertionsDisabled S_s_HI_BYTE_SHIFT S_s_LO_BYTE_SHIFT E_bb T_bb hc1 hc17 hc11) e225 E_bb (g := (mkF m 12 #[rv bb, iv ii, .unset, .unset] [(.int ii), (.ref bb)])) (argsL := [(.int ii)]) (rest := []) (W := 0) (lenOf pd_22 rfl) (hb hby d5_12) hml
  obtain ⟨rfl, N226q, e226⟩ := hQ226
  have N226 := Fr.app N225 N226q
  obtain ⟨_, T227, Lc227, X227, hQ227, st227⟩ := own_static (y := y_1) X226 hx hZ hown (own_w hw 75 rfl) (own_w hw 76 rfl) (own_w hw 29 rfl) (own_w hw 77 rfl) (own_lowJ l Z a0 hw [] cc h0 Z0 hc17) e226 (g := (mkF m 15 #[rv bb, iv ii, .unset, .unset] [(.int cc)])) (argsL := [(.int cc)]) (rest := []) (W := 0) (lenOf pd_23 rfl) (hb hby d5_15) hml
  obtain ⟨rfl, N227q, e227⟩ := hQ227
  have N227 := Fr.app N226 N227q
  obtain ⟨_, T228, Lc228, X228, hQ228, st228⟩ := own_virtual (y := y_9) X227 hx hZ hown (own_w hw 53 rfl) (own_w hw 54 rfl) (own_w hw 56 rfl) (own_w hw 55 rfl) (own_w hw 7 rfl) (own_w hw 57 rfl) (own_chG l Z a0 hw [] w_CS w_SF cc bb cs ii h0 Z0 S_w_CS R_w_SF S_w_SF S_s__assertionsDisabled S_s_HI_BYTE_SHIFT S_s_LO_BYTE_SHIFT E_bb T_bb hc1 hc17 hc11) e227 E_bb (g := (mkF m 20 #[rv bb, iv ii, .unset, .unset] [(.int ii), (.ref bb), (.int (own_lo cc))])) (argsL := [(.int ii)]) (rest := [(.int (own_lo cc))]) (W := 1) (lenOf pd_22 rfl) (hb hby d5_20) hml
  obtain ⟨rfl, N228q, e228⟩ := hQ228
  have N228 := Fr.app N227 N228q
  refine ⟨_, _, X228, e228, N228, fun target kt => ?_⟩
  show own_S p e below T0 (mkF m 2 #[rv bb, iv ii, .unset, .unset] []) _
  refine own_iN X0 hx hby d5_2 ?_
  refine own_aN X0 hx hby d5_3 ?_
  refine st225 _ ?_
  refine own_cn X225 hx hby d5_7 (tlt hc35).2.1 ?_
  refine own_aN X225 hx hby d5_10 ?_
  refine own_iN X225 hx hby d5_11 ?_
  refine st226 _ ?_
  refine st227 _ ?_
  refine own_aN X227 hx hby d5_18 ?_
  refine own_iN X227 hx hby d5_19 ?_
  refine st228 _ ?_
  refine own_cy (pc := 23) X228 hx hby d5_23 (teq hc36).1 63 ?_
  refine XS.iinc X228.here hx rfl (hb hby d5_63) rfl (l' := #[rv bb, iv (ii + (1 : Int32)), .unset, .unset]) rfl ?_
  refine own_go (pc := 66) X228 hx hby d5_66 2 ?_
  show own_S p e below T228 (mkF m 2 #[rv bb, iv (ii + (1 : Int32)), .unset, .unset] []) _
  exact kt
theorem own_lp5 {p : Program} {l : Launch} {e : Env} {s : State} {m : MethodId} {args : Array Value} {below : List Frame} {meth : Method} {c : Code} (Z : State) (a0 : Array Value) (hw : own_HW Z a0) (w_CS : Int32) (w_SF : Value) (bb : Addr) (cs : List Int32) (ff : Nat) (S_w_CS : own_w_CS Z w_CS) (R_w_SF : w_SF.isRef = true) (S_w_SF : own_w_SF Z w_SF) (S_s__assertionsDisabled : own_s__assertionsDisabled Z) (S_s_HI_BYTE_SHIFT : own_s_HI_BYTE_SHIFT Z) (S_s_LO_BYTE_SHIFT : own_s_LO_BYTE_SHIFT Z) (hc1 : ¬ (w_CS = (0 : Int32))) (hz : own_s1 cs) (u : own_a16 cs) (hf : ff ≤ cs.length) (hc : ∀ i, i < ff → own_lo (cs.getD i 0) = cs.getD i 0) (h0 : Heap) (Z0 : Ext Z.heap h0) (E_bb : Exa Z h0 bb "java/lang/String") (T_bb : own_rep Z h0 bb cs) (hx : p.tables.exec = Jvm.exec) (hZ : Z.Warmed39 s.vm) (hby : c.code = prog_38_method_3_code) (hml : c.maxLocals = 4) (hown : s.vm.findClass "com/example/zia_tally/ziatally/tabulation/Word" = some m.cls) :
    ∀ (d i : Nat), i + d = ff → ∀ (T0 : State) (locs : List Loc), Stand p l e ({ frames := 9, cells := 4, slots := 24, locals := 180 } : Room) s m args below meth c T0 locs 0 0 → T0.heap = h0 → Fr Z.heap.size locs → ∃ (T' : State) (L' : List Loc), Stand p l e ({ frames := 9, cells := 4, slots := 24, locals := 180 } : Room) s m args below meth c T' L' 0 0 ∧ T'.heap = h0 ∧ Fr Z.heap.size L' ∧ ∀ target, Steps p.tables e below (T'.setTop (mkF m 2 #[rv bb, iv (Int32.ofNat ff), .unset, .unset] [])) target → Steps p.tables e below (T0.setTop (mkF m 2 #[rv bb, iv (Int32.ofNat i), .unset, .unset] [])) target := by
  intro d
  induction d with
  | zero =>
    intro i hi T0 locs X0 e0 N0
    obtain rfl : i = ff := by omega
    exact ⟨T0, locs, X0, e0, N0, fun _ k => k⟩
  | succ d ih =>
    intro i hi T0 locs X0 e0 N0
    have hlt : i < ff := by omega
    have hs := hz.2
    obtain ⟨T1, L1, X1, e1, N1, st1⟩ := own_sg5 Z a0 hw w_CS w_SF (cs.getD i 0) bb cs (Int32.ofNat i) h0 Z0 S_w_CS R_w_SF S_w_SF S_s__assertionsDisabled S_s_HI_BYTE_SHIFT S_s_LO_BYTE_SHIFT E_bb T_bb hc1 hz.2 (own_ofNat_lt (by omega) (by omega)) (own_a16_ix u i (by omega)) (own_at_i (by omega) hz.2) (hc i hlt) X0 hx hZ hby hml hown e0 N0
    rw [own_succ] at st1
    obtain ⟨T2, L2, X2, e2, N2, st2⟩ := ih (i + 1) (by omega) T1 L1 X1 e1 N1
    exact ⟨T2, L2, X2, e2, N2, fun t k => st1 t (st2 t k)⟩
theorem own_sg6 {p : Program} {l : Launch} {e : Env} {s : State} {m : MethodId} {args : Array Value} {below : List Frame} {meth : Method} {c : Code} {T0 : State} {locs : List Loc} (Z : State) (a0 : Array Value) (hw : own_HW Z a0) (cc : Int32) (bb bd : Addr) (kd : ClassId) (us : List Value) (nn ii : Int32) (jn : Nat) (fi : Int32) (h0 : Heap) (Z0 : Ext Z.heap h0) (V_bd : Arv Z h0 bd kd .char nn us (.int (0 : Int32))) (g_bd : Z.heap.size ≤ bd) (hc13 : ii < nn) (hc14 : own_ib ii nn) (hc37 : own_get us ii (.int (0 : Int32)) (.int cc)) (hc17 : own_u16 cc) (hc24 : (ii).toNatClampNeg = jn) (hc25 : jn < us.length) (X0 : Stand p l e ({ frames := 9, cells := 4, slots := 24, locals := 180 } : Room) s m args below meth c T0 locs 1 4) (hx : p.tables.exec = Jvm.exec) (hZ : Z.Warmed39 s.vm) (hby : c.code = prog_38_method_3_code) (hml : c.maxLocals = 4) (hown : s.vm.findClass "com/example/zia_tally/ziatally/tabulation/Word" = some m.cls) (e0 : T0.heap = h0) (N0 : Fr Z.heap.size locs) :
    ∃ (T' : State) (L' : List Loc) (h' : Heap), Stand p l e ({ frames := 9, cells := 4, slots := 24, locals := 180 } : Room) s m args below meth c T' L' 1 4 ∧ T'.heap = h' ∧ Fr Z.heap.size L' ∧ Keep h0 h' [bd] ∧ Ext Z.heap h' ∧ Arv Z h' bd kd .char nn (us.set jn (.int (own_lo cc))) (.int (0 : Int32)) ∧ ∀ target, Steps p.tables e below (T'.setTop (mkF m 33 #[rv bb, iv fi, rv bd, iv (ii + (1 : Int32))] [])) target → Steps p.tables e below (T0.setTop (mkF m 33 #[rv bb, iv fi, rv bd, iv ii] [])) target := by
  obtain ⟨cl229, Ar229, q229, S229, Nn229, H229, G229⟩ := id V_bd
  obtain ⟨cl230, Ar230, q230, S230, Nn230, H230, G230⟩ := id V_bd
  have hin230 : ¬ (ii < 0 ∨ cl230.slots.size ≤ (ii).toNatClampNeg) := inb_of S230 hc14
  have hat230 : cl230.slots[(ii).toNatClampNeg]? = some (.int cc) := Has.at H230 hin230 hc37
  obtain ⟨_, T231, Lc231, X231, hQ231, st231⟩ := own_static (y := y_1) X0 hx hZ hown (own_w hw 75 rfl) (own_w hw 76 rfl) (own_w hw 29 rfl) (own_w hw 77 rfl) (own_lowJ l Z a0 hw [] cc h0 Z0 hc17) e0 (g := (mkF m 44 #[rv bb, iv fi, rv bd, iv ii] [(.int cc), (.int ii), (.ref bd)])) (argsL := [(.int cc)]) (rest := [(.int ii), (.ref bd)]) (W := 2) (lenOf pd_23 rfl) (hb hby d5_44) hml
  obtain ⟨rfl, N231q, e231⟩ := hQ231
  have N231 := Fr.app N0 N231q
  obtain ⟨cl232, Ar232, q232, S232, Nn232, H232, G232⟩ := id V_bd
  have hin232 : ¬ (ii < 0 ∨ cl232.slots.size ≤ (ii).toNatClampNeg) := inb_of S232 hc14
  obtain ⟨T233, h233, X233, e233, W233, st233⟩ := stC X231 hx hZ e231 Ar232 (j := ii) hin232 (g := (mkF m 47 #[rv bb, iv fi, rv bd, iv ii] [(.int (own_lo cc)), (.int ii), (.ref bd)])) rfl rfl (hb hby d5_47)
  rw [(own_nc (own_u16_lo hc17))] at W233
  have V233 : Arv Z h233 bd kd .char nn (us.set jn (.int (own_lo cc))) (.int (0 : Int32)) := Arv.set Ar232 q232 S232 Nn232 H232 G232 (by rw [← (own_nc (own_u16_lo hc17))]; exact fits_nar_char _) W233 jn hc24 hc25
  have K233 : Keep h0 h233 [bd] := (Keep.refl h0 [bd]).wr W233 (Or.inl (List.mem_of_getElem? (i := 0) rfl))
  have XX233 : Ext Z.heap h233 := own_extW Z0 W233 g_bd
  have N233 := Fr.snoc X233 N231 g_bd
  refine ⟨_, _, _, X233, e233, N233, K233, XX233, V233, fun target kt => ?_⟩
  show own_S p e below T0 (mkF m 33 #[rv bb, iv fi, rv bd, iv ii] []) _
  refine own_iN X0 hx hby d5_33 ?_
  refine own_aN X0 hx hby d5_34 ?_
  refine X0.arraylength hx (by rw [e0]; exact Ar229.1) (State.isArrayOf_alike hZ.alike Ar229.2.1) (g := (mkF m 35 #[rv bb, iv fi, rv bd, iv ii] [(.ref bd), (.int ii)])) rfl rfl (hb hby d5_35) _ ?_
  rw [len_of S229 Nn229]
  refine own_cn X0 hx hby d5_36 (tlt hc13).2.1 ?_
  refine own_aN X0 hx hby d5_39 ?_
  refine own_iN X0 hx hby d5_40 ?_
  refine own_aN X0 hx hby d5_41 ?_
  refine own_iN X0 hx hby d5_42 ?_
  refine X0.caload hx (j := ii) (v := (.int cc)) (by rw [e0]; exact Ar230.1) (State.isArrayOf_alike hZ.alike Ar230.2.1) Ar230.2.2 hin230 hat230 (g := (mkF m 43 #[rv bb, iv fi, rv bd, iv ii] [(.int ii), (.ref bd), (.int ii), (.ref bd)])) rfl rfl (hb hby d5_43) _ ?_
  refine st231 _ ?_
  refine st233 _ ?_
  refine XS.iinc X233.here hx rfl (hb hby d5_48) rfl (l' := #[rv bb, iv fi, rv bd, iv (ii + (1 : Int32))]) rfl ?_
  refine own_go (pc := 51) X233 hx hby d5_51 33 ?_
  show own_S p e below T233 (mkF m 33 #[rv bb, iv fi, rv bd, iv (ii + (1 : Int32))] []) _
  exact kt
theorem own_lp6 {p : Program} {l : Launch} {e : Env} {s : State} {m : MethodId} {args : Array Value} {below : List Frame} {meth : Method} {c : Code} (Z : State) (a0 : Array Value) (hw : own_HW Z a0) (bb bd : Addr) (kd : ClassId) (cs : List Int32) (fi : Int32) (ff : Nat) (hz : own_s1 cs) (u : own_a16 cs) (hf : ff ≤ cs.length) (g_bd : Z.heap.size ≤ bd) (hx : p.tables.exec = Jvm.exec) (hZ : Z.Warmed39 s.vm) (hby : c.code = prog_38_method_3_code) (hml : c.maxLocals = 4) (hown : s.vm.findClass "com/example/zia_tally/ziatally/tabulation/Word" = some m.cls) :
    ∀ (d i : Nat), i + d = ff → ∀ (T0 : State) (locs : List Loc) (h0 : Heap), Ext Z.heap h0 → Arv Z h0 bd kd .char (Int32.ofNat cs.length) (own_mix i (own_ch (cs.map own_lo)) (own_ch cs)) (.int (0 : Int32)) → Stand p l e ({ frames := 9, cells := 4, slots := 24, locals := 180 } : Room) s m args below meth c T0 locs 1 4 → T0.heap = h0 → Fr Z.heap.size locs → ∃ (T' : State) (L' : List Loc) (h' : Heap), Stand p l e ({ frames := 9, cells := 4, slots := 24, locals := 180 } : Room) s m args below meth c T' L' 1 4 ∧ T'.heap = h' ∧ Fr Z.heap.size L' ∧ Keep h0 h' [bd] ∧ Ext Z.heap h' ∧ Arv Z h' bd kd .char (Int32.ofNat cs.length) (own_mix ff (own_ch (cs.map own_lo)) (own_ch cs)) (.int (0 : Int32)) ∧ ∀ target, Steps p.tables e below (T'.setTop (mkF m 33 #[rv bb, iv fi, rv bd, iv (Int32.ofNat ff)] [])) target → Steps p.tables e below (T0.setTop (mkF m 33 #[rv bb, iv fi, rv bd, iv (Int32.ofNat i)] [])) target := by
  intro d
  induction d with
  | zero =>
    intro i hi T0 locs h0  Z0 V_bd X0 e0 N0
    obtain rfl : i = ff := by omega
    exact ⟨T0, locs, h0, X0, e0, N0, Keep.refl _ _, Z0, V_bd, fun _ k => k⟩
  | succ d ih =>
    intro i hi T0 locs h0  Z0 V_bd X0 e0 N0
    have hlt : i < ff := by omega
    have hs := hz.2
    have hb' := own_back (n := i) (by omega)
    have hl : (own_ch (cs.map own_lo)).length = (own_ch cs).length := by rw [own_ch_len, own_ch_len, List.length_map]
    obtain ⟨T1, L1, h1, X1, e1, N1, K1, E1, q_V_bd, st1⟩ := own_sg6 Z a0 hw (cs.getD i 0) bb bd kd (own_mix i (own_ch (cs.map own_lo)) (own_ch cs)) (Int32.ofNat cs.length) (Int32.ofNat i) i fi h0 Z0 V_bd g_bd (own_ofNat_lt (by omega) (by omega)) ⟨hb'.2, own_ofNat_lt (by omega) (by omega)⟩ (own_get_of i hb'.1 ((own_mix_get hl (by rw [own_ch_len]; omega)).trans (own_ch_get cs i (by omega)))) (own_a16_ix u i (by omega)) hb'.1 (by rw [own_mix_len hl, own_ch_len]; omega) X0 hx hZ hby hml hown e0 N0
    rw [own_mix_set hl (by rw [own_ch_len]; omega) (own_lo_get cs i (by omega))] at q_V_bd
    rw [own_succ] at st1
    obtain ⟨T2, L2, h2, X2, e2, N2, K2, E2, r_V_bd, st2⟩ := ih (i + 1) (by omega) T1 L1 h1  E1 q_V_bd X1 e1 N1
    exact ⟨T2, L2, h2, X2, e2, N2, K1.trans K2 (allS (Or.inl (List.mem_of_getElem? (i := 0) rfl)) all0), E2, r_V_bd, fun t k => st1 t (st2 t k)⟩
def Qrm234 (Z : State) (w_CS : Int32) (w_SF : Value) (bb : Addr) (cs : List Int32) (h0 : Heap) (v : Option Value) (h : Heap) (L : List Loc) : Prop := v = some (.ref bb) ∧ Fr Z.heap.size L ∧ h = h0
theorem rm234 (l : Launch) (Z : State) (a0 : Array Value) (hw : own_HW Z a0) (ws : List Jvm.Cond) (w_CS : Int32) (w_SF : Value) (bb : Addr) (cs : List Int32) (h0 : Heap) (Z0 : Ext Z.heap h0) (S_w_CS : own_w_CS Z w_CS) (R_w_SF : w_SF.isRef = true) (S_w_SF : own_w_SF Z w_SF) (S_s__assertionsDisabled : own_s__assertionsDisabled Z) (S_s_HI_BYTE_SHIFT : own_s_HI_BYTE_SHIFT Z) (S_s_LO_BYTE_SHIFT : own_s_LO_BYTE_SHIFT Z) (E_bb : Exa Z h0 bb "java/lang/String") (T_bb : own_rep Z h0 bb cs) (hc27 : own_s1 cs) (hc34 : own_a16 cs) (hc38 : own_nocap cs) (hc1 : ¬ (w_CS = (0 : Int32))) :
    own_met l y_31 prog_38_method_3_code 4 (some (.object "java/lang/String")) ws ({ frames := 9, cells := 4, slots := 24, locals := 180 } : Room) Z #[(.ref bb)] h0 (Qrm234 Z w_CS w_SF bb cs h0) := by
  refine own_start (plainFor_of_name pn_1) (fun m => ef_prog_38_method_3_R m bb) ?_
  intro p e s m below meth c s₁ hx hby hml hown hnm X0 hZ e0 hret hlk
  have N0 := Fr.nil Z.heap.size
  obtain ⟨T235, L235, X235, e235, N235, st235⟩ := own_lp5 Z a0 hw w_CS w_SF bb cs cs.length S_w_CS R_w_SF S_w_SF S_s__assertionsDisabled S_s_HI_BYTE_SHIFT S_s_LO_BYTE_SHIFT hc1 hc27 hc34 (Nat.le_refl _) (own_nocap_ix hc38) h0 Z0 E_bb T_bb hx hZ hby hml hown _ 0 (Nat.zero_add _) _ _ X0 e0 N0
  obtain ⟨_, T236, Lc236, X236, hQ236, st236⟩ := own_virtual (y := y_4) X235 hx hZ hown (own_w hw 31 rfl) (own_w hw 32 rfl) (own_w hw 34 rfl) (own_w hw 33 rfl) (own_w hw 7 rfl) (own_w hw 35 rfl) (own_lenG l Z a0 hw [] w_CS bb cs h0 Z0 S_w_CS E_bb T_bb hc1 hc27.2) e235 E_bb (g := (mkF m 4 #[rv bb, iv (Int32.ofNat cs.length), .unset, .unset] [(.ref bb), (.int (Int32.ofNat cs.length))])) (argsL := []) (rest := [(.int (Int32.ofNat cs.length))]) (W := 1) (lenOf pd_21 rfl) (hb hby d5_4) hml
  obtain ⟨rfl, N236q, e236⟩ := hQ236
  have N236 := Fr.app N235 N236q
  obtain ⟨fs, hr, hrun, hended, hW, hsame⟩ := X236.leave (v := some (.ref bb)) (fun h => by rw [hret] at h; cases h) hlk
  refine ⟨_, _, ?_, hrun, hended, _, _, rfl, ?_, ⟨_, rfl⟩, hW, hsame.mono (by decide) (by decide)⟩
  · show own_S p e below s₁ (mkF m 0 #[rv bb, .unset, .unset, .unset] []) _
    refine own_k X0 hx hby d5_0 ?_
    refine XS.istoreN X0.here hx rfl (hb hby d5_1) rfl (l' := #[rv bb, iv (0 : Int32), .unset, .unset]) rfl ?_
    refine st235 _ ?_
    show own_S p e below T235 (mkF m 2 #[rv bb, iv (Int32.ofNat cs.length), .unset, .unset] []) _
    refine own_iN X235 hx hby d5_2 ?_
    refine own_aN X235 hx hby d5_3 ?_
    refine st236 _ ?_
    refine own_cy (pc := 7) X236 hx hby d5_7 (flt (Int32.lt_irrefl : ¬ ((Int32.ofNat cs.length) < (Int32.ofNat cs.length)))).2.1 69 ?_
    refine own_aN X236 hx hby d5_69 ?_
    jvm_step X236.here [X236.here.top, hx, (hb hby d5_70), X236.method', hret, Value.isRef, FieldType.isReference]
    first | (intro acts; rw [hr _ acts rfl rfl rfl]) | rw [hr _ _ rfl rfl rfl]
    exact Steps.refl _
  · show Qrm234 Z w_CS w_SF bb cs h0 _ T236.heap _
    rw [e236]
    exact ⟨rfl, N236, rfl⟩
def Qrm237 (Z : State) (w_CS : Int32) (w_SF : Value) (cc : Int32) (bb : Addr) (cs : List Int32) (ff : Nat) (h0 : Heap) (v : Option Value) (h : Heap) (L : List Loc) : Prop := ∃ b249 : Addr, v = some (.ref b249) ∧ Fr Z.heap.size L ∧ Keep h0 h [] ∧ h0.size ≤ b249 ∧ Exa Z h b249 "java/lang/String" ∧ own_rep Z h b249 (cs.map own_lo)
theorem rm237 (l : Launch) (Z : State) (a0 : Array Value) (hw : own_HW Z a0) (ws : List Jvm.Cond) (w_CS : Int32) (w_SF : Value) (cc : Int32) (bb : Addr) (cs : List Int32) (ff : Nat) (h0 : Heap) (Z0 : Ext Z.heap h0) (S_w_CS : own_w_CS Z w_CS) (R_w_SF : w_SF.isRef = true) (S_w_SF : own_w_SF Z w_SF) (S_s__assertionsDisabled : own_s__assertionsDisabled Z) (S_s_HI_BYTE_SHIFT : own_s_HI_BYTE_SHIFT Z) (S_s_LO_BYTE_SHIFT : own_s_LO_BYTE_SHIFT Z) (E_bb : Exa Z h0 bb "java/lang/String") (T_bb : own_rep Z h0 bb cs) (hc27 : own_s1 cs) (hc34 : own_a16 cs) (hc39 : own_fc cs ff cc) (hc1 : ¬ (w_CS = (0 : Int32))) :
    own_met l y_31 prog_38_method_3_code 4 (some (.object "java/lang/String")) ws ({ frames := 9, cells := 4, slots := 24, locals := 180 } : Room) Z #[(.ref bb)] h0 (Qrm237 Z w_CS w_SF cc bb cs ff h0) := by
  refine own_start (plainFor_of_name pn_1) (fun m => ef_prog_38_method_3_R m bb) ?_
  intro p e s m below meth c s₁ hx hby hml hown hnm X0 hZ e0 hret hlk
  have N0 := Fr.nil Z.heap.size
  obtain ⟨T238, L238, X238, e238, N238, st238⟩ := own_lp5 Z a0 hw w_CS w_SF bb cs ff S_w_CS R_w_SF S_w_SF S_s__assertionsDisabled S_s_HI_BYTE_SHIFT S_s_LO_BYTE_SHIFT hc1 hc27 hc34 (Nat.le_of_lt hc39.1) hc39.2.2.2.1 h0 Z0 E_bb T_bb hx hZ hby hml hown _ 0 (Nat.zero_add _) _ _ X0 e0 N0
  obtain ⟨_, T239, Lc239, X239, hQ239, st239⟩ := own_virtual (y := y_4) X238 hx hZ hown (own_w hw 31 rfl) (own_w hw 32 rfl) (own_w hw 34 rfl) (own_w hw 33 rfl) (own_w hw 7 rfl) (own_w hw 35 rfl) (own_lenG l Z a0 hw [] w_CS bb cs h0 Z0 S_w_CS E_bb T_bb hc1 hc27.2) e238 E_bb (g := (mkF m 4 #[rv bb, iv (Int32.ofNat ff), .unset, .unset] [(.ref bb), (.int (Int32.ofNat ff))])) (argsL := []) (rest := [(.int (Int32.ofNat ff))]) (W := 1) (lenOf pd_21 rfl) (hb hby d5_4) hml
  obtain ⟨rfl, N239q, e239⟩ := hQ239
  have N239 := Fr.app N238 N239q
  obtain ⟨_, T240, Lc240, X240, hQ240, st240⟩ := own_virtual (y := y_9) X239 hx hZ hown (own_w hw 53 rfl) (own_w hw 54 rfl) (own_w hw 56 rfl) (own_w hw 55 rfl) (own_w hw 7 rfl) (own_w hw 57 rfl) (own_chG l Z a0 hw [] w_CS w_SF cc bb cs (Int32.ofNat ff) h0 Z0 S_w_CS R_w_SF S_w_SF S_s__assertionsDisabled S_s_HI_BYTE_SHIFT S_s_LO_BYTE_SHIFT E_bb T_bb hc1 (own_fc_u hc39 hc34) (own_fc_at hc39)) e239 E_bb (g := (mkF m 12 #[rv bb, iv (Int32.ofNat ff), .unset, .unset] [(.int (Int32.ofNat ff)), (.ref bb)])) (argsL := [(.int (Int32.ofNat ff))]) (rest := []) (W := 0) (lenOf pd_22 rfl) (hb hby d5_12) hml
  obtain ⟨rfl, N240q, e240⟩ := hQ240
  have N240 := Fr.app N239 N240q
  obtain ⟨_, T241, Lc241, X241, hQ241, st241⟩ := own_static (y := y_1) X240 hx hZ hown (own_w hw 75 rfl) (own_w hw 76 rfl) (own_w hw 29 rfl) (own_w hw 77 rfl) (own_lowJ l Z a0 hw [] cc h0 Z0 (own_fc_u hc39 hc34)) e240 (g := (mkF m 15 #[rv bb, iv (Int32.ofNat ff), .unset, .unset] [(.int cc)])) (argsL := [(.int cc)]) (rest := []) (W := 0) (lenOf pd_23 rfl) (hb hby d5_15) hml
  obtain ⟨rfl, N241q, e241⟩ := hQ241
  have N241 := Fr.app N240 N241q
  obtain ⟨_, T242, Lc242, X242, hQ242, st242⟩ := own_virtual (y := y_9) X241 hx hZ hown (own_w hw 53 rfl) (own_w hw 54 rfl) (own_w hw 56 rfl) (own_w hw 55 rfl) (own_w hw 7 rfl) (own_w hw 57 rfl) (own_chG l Z a0 hw [] w_CS w_SF cc bb cs (Int32.ofNat ff) h0 Z0 S_w_CS R_w_SF S_w_SF S_s__assertionsDisabled S_s_HI_BYTE_SHIFT S_s_LO_BYTE_SHIFT E_bb T_bb hc1 (own_fc_u hc39 hc34) (own_fc_at hc39)) e241 E_bb (g := (mkF m 20 #[rv bb, iv (Int32.ofNat ff), .unset, .unset] [(.int (Int32.ofNat ff)), (.ref bb), (.int (own_lo cc))])) (argsL := [(.int (Int32.ofNat ff))]) (rest := [(.int (own_lo cc))]) (W := 1) (lenOf pd_22 rfl) (hb hby d5_20) hml
  obtain ⟨rfl, N242q, e242⟩ := hQ242
  have N242 := Fr.app N241 N242q
  obtain ⟨_, T243, Lc243, X243, hQ243, st243⟩ := own_virtual (y := y_29) X242 hx hZ hown (own_w hw 114 rfl) (own_w hw 115 rfl) (own_w hw 117 rfl) (own_w hw 116 rfl) (own_w hw 7 rfl) (own_w hw 118 rfl) (own_tcaG l Z a0 hw [] w_CS w_SF bb cs h0 Z0 S_w_CS R_w_SF S_w_SF S_s__assertionsDisabled S_s_HI_BYTE_SHIFT S_s_LO_BYTE_SHIFT E_bb T_bb hc1 hc27 hc34) e242 E_bb (g := (mkF m 27 #[rv bb, iv (Int32.ofNat ff), .unset, .unset] [(.ref bb)])) (argsL := []) (rest := []) (W := 0) (lenOf pd_24 rfl) (hb hby d5_27) hml
  obtain ⟨b244, k245, rfl, N243q, K243q, szn_b244, q243_V_b244⟩ := hQ243
  have g_b244 : Z.heap.size ≤ b244 := Nat.le_trans Z0.1 szn_b244
  have sz_b244 : h0.size ≤ b244 := Nat.le_trans (Keep.refl h0 []).1 szn_b244
  have K243 : Keep h0 T243.heap [] := (Keep.refl h0 []).trans K243q all0
  have XX243 : Ext Z.heap T243.heap := own_extK Z0 K243q all0
  have N243 := Fr.app N242 N243q
  have vp246 : Arv Z T243.heap b244 k245 .char (Int32.ofNat cs.length) (own_mix ff (own_ch (cs.map own_lo)) (own_ch cs)) (.int (0 : Int32)) := by rw [own_mix_pre (Nat.le_of_lt hc39.1) hc39.2.2.2.1]; exact q243_V_b244
  obtain ⟨T247, L247, h247, X247, e247, N247, K247q, XX247, q247_V_b244, st247⟩ := own_lp6 Z a0 hw bb b244 k245 cs (Int32.ofNat ff) cs.length  hc27 hc34 (Nat.le_refl _) g_b244 hx hZ hby hml hown _ ff (Nat.add_sub_cancel' (Nat.le_of_lt hc39.1)) _ _ _  XX243 vp246 X243 rfl N243
  rw [own_mix_all cs.length (by rw [own_ch_len, List.length_map]) (own_ch_len cs)] at q247_V_b244
  have K247 : Keep h0 h247 [] := K243.trans K247q (allS (Or.inr sz_b244) all0)
  obtain ⟨cl248, Ar248, q248, S248, Nn248, H248, G248⟩ := id q247_V_b244
  obtain ⟨T249, h249, X249, e249, E249, A249, D249, -, st249⟩ := newO X247 hx hZ hown (own_w hw 125 rfl) (own_w hw 6 rfl) (own_w hw 7 rfl) e247 (g := (mkF m 54 #[rv bb, iv (Int32.ofNat ff), rv b244, iv (Int32.ofNat cs.length)] [])) rfl (hb hby d5_54) (by decide) (by decide)
  obtain ⟨b249, g249⟩ : ∃ z, z = h247.size := ⟨_, rfl⟩
  rw [← g249] at A249 D249 st249
  have g_b249 : Z.heap.size ≤ b249 := Nat.le_trans XX247.1 (Nat.le_of_eq g249.symm)
  have sz_b249 : h0.size ≤ b249 := Nat.le_trans K247.1 (Nat.le_of_eq g249.symm)
  have F_b249_value : Fld Z h249 b249 "java/lang/String" "value" "[B" .null := D249 (Or.inr (own_w hw 21 rfl)) (ty := (.array .byte)) (by decide)
  have F_b249_coder : Fld Z h249 b249 "java/lang/String" "coder" "B" (.int (0 : Int32)) := D249 (Or.inr (own_w hw 22 rfl)) (ty := .byte) (by decide)
  have K249 : Keep h0 h249 [] := K247.ext E249
  have XX249 : Ext Z.heap h249 := own_ext2 XX247 E249
  have vl250 := own_vlo (q247_V_b244.ext E249)
  obtain ⟨_, T251, Lc251, X251, hQ251, st251⟩ := own_special (y := y_22) X249 hx hZ hown rfl (own_w hw 126 rfl) (own_w hw 10 rfl) (own_w hw 7 rfl) (own_w hw 11 rfl) (own_initG l Z a0 hw [] w_CS b249 b244 k245 (cs.map own_lo) h249 XX249 S_w_CS S_s__assertionsDisabled S_s_HI_BYTE_SHIFT S_s_LO_BYTE_SHIFT A249 F_b249_coder F_b249_value vl250 g_b249 hc1 (own_s1_lo hc27) (own_a16_lo hc34)) e249 b249 (g := (mkF m 59 #[rv bb, iv (Int32.ofNat ff), rv b244, iv (Int32.ofNat cs.length)] [(.ref b244), (.ref b249), (.ref b249)])) (argsL := [(.ref b244)]) (rest := [(.ref b249)]) (W := 1) (lenOf pd_25 rfl) (hb hby d5_59) hml
  obtain ⟨rfl, N251q, K251q, q251_E_b249, q251_T_b249⟩ := hQ251
  have K251 : Keep h0 T251.heap [] := K249.trans K251q (allS (Or.inr sz_b249) all0)
  have XX251 : Ext Z.heap T251.heap := own_extK XX249 K251q (allS g_b249 all0)
  have N251 := Fr.app N247 N251q
  obtain ⟨fs, hr, hrun, hended, hW, hsame⟩ := X251.leave (v := some (.ref b249)) (fun h => by rw [hret] at h; cases h) hlk
  refine ⟨_, _, ?_, hrun, hended, _, _, rfl, ?_, ⟨_, rfl⟩, hW, hsame.mono (by decide) (by decide)⟩
  · show own_S p e below s₁ (mkF m 0 #[rv bb, .unset, .unset, .unset] []) _
    refine own_k X0 hx hby d5_0 ?_
    refine XS.istoreN X0.here hx rfl (hb hby d5_1) rfl (l' := #[rv bb, iv (0 : Int32), .unset, .unset]) rfl ?_
    refine st238 _ ?_
    show own_S p e below T238 (mkF m 2 #[rv bb, iv (Int32.ofNat ff), .unset, .unset] []) _
    refine own_iN X238 hx hby d5_2 ?_
    refine own_aN X238 hx hby d5_3 ?_
    refine st239 _ ?_
    refine own_cn X239 hx hby d5_7 (tlt (own_fc_lt hc39)).2.1 ?_
    refine own_aN X239 hx hby d5_10 ?_
    refine own_iN X239 hx hby d5_11 ?_
    refine st240 _ ?_
    refine st241 _ ?_
    refine own_aN X241 hx hby d5_18 ?_
    refine own_iN X241 hx hby d5_19 ?_
    refine st242 _ ?_
    refine own_cn X242 hx hby d5_23 (feq (own_fc_n hc39)).1 ?_
    refine own_aN X242 hx hby d5_26 ?_
    refine st243 _ ?_
    refine XS.astoreN X243.here hx rfl (hb hby d5_30) rfl rfl (l' := #[rv bb, iv (Int32.ofNat ff), rv b244, .unset]) rfl ?_
    refine own_iN X243 hx hby d5_31 ?_
    refine XS.istoreN X243.here hx rfl (hb hby d5_32) rfl (l' := #[rv bb, iv (Int32.ofNat ff), rv b244, iv (Int32.ofNat ff)]) rfl ?_
    refine st247 _ ?_
    show own_S p e below T247 (mkF m 33 #[rv bb, iv (Int32.ofNat ff), rv b244, iv (Int32.ofNat cs.length)] []) _
    refine own_iN X247 hx hby d5_33 ?_
    refine own_aN X247 hx hby d5_34 ?_
    refine X247.arraylength hx (by rw [e247]; exact Ar248.1) (State.isArrayOf_alike hZ.alike Ar248.2.1) (g := (mkF m 35 #[rv bb, iv (Int32.ofNat ff), rv b244, iv (Int32.ofNat cs.length)] [(.ref b244), (.int (Int32.ofNat cs.length))])) rfl rfl (hb hby d5_35) _ ?_
    rw [len_of S248 Nn248]
    refine own_cy (pc := 36) X247 hx hby d5_36 (flt (Int32.lt_irrefl : ¬ ((Int32.ofNat cs.length) < (Int32.ofNat cs.length)))).2.1 54 ?_
    refine st249 _ ?_
    refine XS.dup X249.here hx rfl (hb hby d5_57) rfl rfl ?_
    refine own_aN X249 hx hby d5_58 ?_
    refine st251 _ ?_
    jvm_step X251.here [X251.here.top, hx, (hb hby d5_62), X251.method', hret, Value.isRef, FieldType.isReference]
    first | (intro acts; rw [hr _ acts rfl rfl rfl]) | rw [hr _ _ rfl rfl rfl]
    exact Steps.refl _
  · show Qrm237 Z w_CS w_SF cc bb cs ff h0 _ T251.heap _
    exact ⟨b249, rfl, N251, K251, sz_b249, q251_E_b249, q251_T_b249⟩
def Qown_lcC (Z : State) (cs : List Int32) (h0 : Heap) (v : Option Value) (h : Heap) (L : List Loc) : Prop := ∃ b : Addr, v = some (.ref b) ∧ Fr Z.heap.size L ∧ Keep h0 h [] ∧ h0.size ≤ b ∧ Exa Z h b "java/lang/String" ∧ own_rep Z h b (cs.map own_lo)
theorem own_lcC (l : Launch) (Z : State) (a0 : Array Value) (hw : own_HW Z a0) (ws : List Jvm.Cond) (w_CS : Int32) (w_SF : Value) (bb : Addr) (cs : List Int32) (h0 : Heap) (Z0 : Ext Z.heap h0) (S_w_CS : own_w_CS Z w_CS) (R_w_SF : w_SF.isRef = true) (S_w_SF : own_w_SF Z w_SF) (S_s__assertionsDisabled : own_s__assertionsDisabled Z) (S_s_HI_BYTE_SHIFT : own_s_HI_BYTE_SHIFT Z) (S_s_LO_BYTE_SHIFT : own_s_LO_BYTE_SHIFT Z) (E_bb : Exa Z h0 bb "java/lang/String") (T_bb : own_rep Z h0 bb cs) (hc27 : own_s1 cs) (hc34 : own_a16 cs) (hc1 : ¬ (w_CS = (0 : Int32))) (hc40 : own_acap cs) :
    own_met l y_31 prog_38_method_3_code 4 (some (.object "java/lang/String")) ws ({ frames := 9, cells := 4, slots := 24, locals := 180 } : Room) Z #[(.ref bb)] h0 (Qown_lcC Z cs h0) := by
  obtain ⟨ff, cc, hF⟩ := own_fc_ex hc27.2 hc40
  exact own_mono (rm237 l Z a0 hw ws w_CS w_SF cc bb cs ff h0 Z0 S_w_CS R_w_SF S_w_SF S_s__assertionsDisabled S_s_HI_BYTE_SHIFT S_s_LO_BYTE_SHIFT E_bb T_bb hc27 hc34 hF hc1) fun v h L ⟨b249, z1, z2, z3, s0, f0, f1⟩ => ⟨b249, z1, z2, z3, s0, f0, f1⟩
theorem own_hEL {Z : State} {a0 : Array Value} (hw : own_HW Z a0) : EW Z a0 consts_1 := (EW.cons (own_w hw 19 rfl) (by decide) EW.nil)
theorem own_wS {Z : State} {a0 : Array Value} (hw : own_HW Z a0) : ∀ a ∈ Bundle.stringAtoms, a.before a0 Z = true := by
  intro a ha
  simp only [Bundle.stringAtoms, List.mem_cons, List.not_mem_nil, or_false] at ha
  rcases ha with rfl | rfl | rfl | rfl | rfl | rfl | rfl
  · exact own_w hw 7 rfl
  · exact own_w hw 6 rfl
  · exact own_w hw 20 rfl
  · exact own_w hw 21 rfl
  · exact own_w hw 22 rfl
  · exact own_w hw 23 rfl
  · exact own_w hw 24 rfl
def Qrm253 (Z : State) (bb ba : Addr) (h0 : Heap) (v : Option Value) (h : Heap) (L : List Loc) : Prop := v = none ∧ Fr Z.heap.size L ∧ Keep h0 h [bb] ∧ Exa Z h bb "java/lang/String" ∧ own_rep Z h bb []
theorem rm253 (l : Launch) (Z : State) (a0 : Array Value) (hw : own_HW Z a0) (ws : List Jvm.Cond) (bb ba : Addr) (h0 : Heap) (Z0 : Ext Z.heap h0) (E_bb : Exa Z h0 bb "java/lang/String") (F_bb_coder : Fld Z h0 bb "java/lang/String" "coder" "B" (.int (0 : Int32))) (F_bb_value : Fld Z h0 bb "java/lang/String" "value" "[B" .null) (g_bb : Z.heap.size ≤ bb) :
    own_metW l y_21 jdk_42_method_149_code 6 none ws ({ frames := 1, cells := 4, slots := 8, locals := 12 } : Room) Z #[(.ref bb), (.ref ba), (.int (0 : Int32)), (.int (0 : Int32)), .null] h0 (Qrm253 Z bb ba h0) := by
  refine own_startW (plainFor_of_name pn_2) (fun m => ef_jdk_42_method_149_RRIIn m bb ba (0 : Int32) (0 : Int32)) ?_
  intro p e s m below meth c s₁ hx hby hml hown hnm X0 hZ e0 hret hlk hs0 hC0
  have N0 := Fr.nil Z.heap.size
  have CR0 : CHr Z consts_1 s.vm h0 s.vm h0 := CHr.refl hC0
  have hS0 : s.Since s.vm 0 := (State.WarmedH.refl s).since 0
  have hk0 : 0 ≤ h0.size := Nat.zero_le _
  obtain ⟨T254, X254, e254, st254⟩ := initO X0 hx hZ hown (own_w hw 16 rfl) (own_w hw 17 rfl) (own_w hw 18 rfl) e0 (g := (mkF m 1 #[rv bb, rv ba, iv (0 : Int32), iv (0 : Int32), .val .null, .unset] [(.ref bb)])) rfl (by rw [hml]; rfl) rfl (hb hby d3_1) (by decide) (W := 0) (by show 2 * 0 + _ ≤ _; exact Nat.le_of_eq rfl) (by decide)
  have sf256_bb : Safe Z consts_1 s.vm h0 bb := own_safe hZ.alike E_bb (own_w hw 6 rfl) F_bb_value
  obtain ⟨ba255, T255, h255, k1_255, bb255, kb255, X255, e255, E255, hS255, hk255, hZ255, hown255, EA255, FC255, FV255, AV255, -, -, hC255, -, hn255, st255⟩ := ldcCH (s := s) (vm0 := s.vm) X254 hx hZ hown (own_w hw 19 rfl) (own_wS hw) e254 hS0 hk0 (own_hEL hw) (List.mem_of_getElem? (i := 0) rfl) CR0.1 (vs := []) (z := (0 : Int32)) ⟨by decide, rfl⟩ (by decide) (by decide) (g := (mkF m 9 #[rv bb, rv ba, iv (0 : Int32), iv (0 : Int32), .val .null, .unset] [(.ref bb)])) rfl (hb hby d3_9) (n := 0) (by decide) (by decide) (by decide) (by decide)
  have sf255_bb := hC255.safe E_bb.lt sf256_bb
  have CR255 := CR0.trans hC255
  have ne_bb_ba255 : bb ≠ ba255 := (hn255 _ sf255_bb).1
  have ne_bb_bb255 : bb ≠ bb255 := (hn255 _ sf255_bb).2
  have K255 : Keep h0 h255 [bb] := (Keep.refl h0 [bb]).ext E255
  have XX255 : Ext Z.heap h255 := own_ext2 Z0 E255
  obtain ⟨T257, X257, e257, st257⟩ := getF X255 hx hZ255 hown255 (host := "") (Or.inl (own_w hw 25 rfl)) Via.refl e255 FV255 (g := (mkF m 11 #[rv bb, rv ba, iv (0 : Int32), iv (0 : Int32), .val .null, .unset] [(.ref ba255), (.ref bb)])) rfl rfl (hb hby d3_11)
  obtain ⟨T258, h258, X258, e258, W258, st258⟩ := putF X257 hx hZ255 hown255 (host := "") (Or.inl (own_w hw 25 rfl)) Via.refl e257 (F_bb_value.ext E255) (E_bb.ext E255) (Or.inr ⟨(own_w hw 21 rfl), rfl, hnm⟩) (own_w hw 6 rfl) (ty := (.array .byte)) (by decide) rfl rfl (g := (mkF m 14 #[rv bb, rv ba, iv (0 : Int32), iv (0 : Int32), .val .null, .unset] [(.ref bb255), (.ref bb)])) rfl rfl (hb hby d3_14)
  have K258 : Keep h0 h258 [bb] := K255.wr W258 (Or.inl (List.mem_of_getElem? (i := 0) rfl))
  have XX258 : Ext Z.heap h258 := own_extW XX255 W258 g_bb
  have N258 := Fr.snoc X258 N0 g_bb
  have CQ258 : CHr Z consts_1 T255.vm h255 T255.vm h258 := CHr.wr W258 sf255_bb CR255.1
  have sf258_bb := Safe.wr W258 sf255_bb CR255.1 sf255_bb
  have CR258 := CR255.trans CQ258
  have hk258 := Nat.le_trans hk255 CQ258.2.1
  obtain ⟨ba259, T259, h259, k1_259, bb259, kb259, X259, e259, E259, hS259, hk259, hZ259, hown259, EA259, FC259, FV259, AV259, -, -, hC259, -, hn259, st259⟩ := ldcCH (s := s) (vm0 := T255.vm) X258 hx hZ255 hown255 (own_w hw 19 rfl) (own_wS hw) e258 hS255 hk258 (own_hEL hw) (List.mem_of_getElem? (i := 0) rfl) CR258.1 (vs := []) (z := (0 : Int32)) ⟨by decide, rfl⟩ (by decide) (by decide) (g := (mkF m 18 #[rv bb, rv ba, iv (0 : Int32), iv (0 : Int32), .val .null, .unset] [(.ref bb)])) rfl (hb hby d3_18) (n := 0) (by decide) (by decide) (by decide) (by decide)
  have sf259_bb := hC259.safe ((E_bb.ext E255).wr W258).lt sf258_bb
  have CR259 := CR258.trans hC259
  have ne_bb_ba259 : bb ≠ ba259 := (hn259 _ sf259_bb).1
  have ne_bb_bb259 : bb ≠ bb259 := (hn259 _ sf259_bb).2
  have K259 : Keep h0 h259 [bb] := K258.ext E259
  have XX259 : Ext Z.heap h259 := own_ext2 XX258 E259
  obtain ⟨T260, X260, e260, st260⟩ := getF X259 hx hZ259 hown259 (host := "") (Or.inl (own_w hw 26 rfl)) Via.refl e259 FC259 (g := (mkF m 20 #[rv bb, rv ba, iv (0 : Int32), iv (0 : Int32), .val .null, .unset] [(.ref ba259), (.ref bb)])) rfl rfl (hb hby d3_20)
  have f261_F_bb_coder : Fld Z h259 bb "java/lang/String" "coder" "B" (.int (0 : Int32)) := (((F_bb_coder.ext E255).other W258 (Or.inr (slot_ne (Or.inr (own_w hw 22 rfl)) (Or.inr (own_w hw 21 rfl)) (by decide) (t := .byte) (t' := (.array .byte)) (by decide) (by decide)))).ext E259)
  obtain ⟨T262, h262, X262, e262, W262, st262⟩ := putFN X260 hx hZ259 hown259 (own_w hw 26 rfl) Via.refl e260 f261_F_bb_coder (((E_bb.ext E255).wr W258).ext E259) (Or.inr ⟨(own_w hw 22 rfl), rfl, hnm⟩) (own_w hw 6 rfl) (ty := .byte) (v' := (.int (0 : Int32))) (by decide) rfl (by decide) (g := (mkF m 23 #[rv bb, rv ba, iv (0 : Int32), iv (0 : Int32), .val .null, .unset] [(.int (0 : Int32)), (.ref bb)])) rfl rfl (hb hby d3_23)
  have K262 : Keep h0 h262 [bb] := K259.wr W262 (Or.inl (List.mem_of_getElem? (i := 0) rfl))
  have XX262 : Ext Z.heap h262 := own_extW XX259 W262 g_bb
  have N262 := Fr.snoc X262 N258 g_bb
  have CQ262 : CHr Z consts_1 T259.vm h259 T259.vm h262 := CHr.wr W262 sf259_bb CR259.1
  have sf262_bb := Safe.wr W262 sf259_bb CR259.1 sf259_bb
  have CR262 := CR259.trans CQ262
  have hk262 := Nat.le_trans hk259 CQ262.2.1
  have f263_F_bb_value : Fld Z h262 bb "java/lang/String" "value" "[B" (.ref bb255) := ((((F_bb_value.ext E255).same W258).ext E259).other W262 (Or.inr (slot_ne (Or.inr (own_w hw 21 rfl)) (Or.inr (own_w hw 22 rfl)) (by decide) (t := (.array .byte)) (t' := .byte) (by decide) (by decide))))
  have f264_V_bb255 : Arv Z h262 bb255 kb255 .byte (0 : Int32) [] (.int (0 : Int32)) := (((AV255.other W258 (Ne.symm ne_bb_bb255)).ext E259).other W262 (Ne.symm ne_bb_bb255))
  have T265_bb : own_rep Z h262 bb [] := ⟨bb255, kb255, f263_F_bb_value, Or.inl ⟨(f261_F_bb_coder.same W262), f264_V_bb255, fun c h => nomatch h⟩⟩
  obtain ⟨fs, hr, hrun, hended, hend⟩ := leaveW (s := s) (vm₁ := T259.vm) X262 hS259 (by rw [e262]; exact hk262) (v := none) (fun _ => rfl) hlk
  refine ⟨_, _, ?_, hrun, hended, _, _, rfl, ?_, ?_, hend.1, hend.2.1, hend.2.2.1, hend.2.2.2.mono (by decide) (by decide)⟩
  · show own_S p e below s₁ (mkF m 0 #[rv bb, rv ba, iv (0 : Int32), iv (0 : Int32), .val .null, .unset] []) _
    refine own_aN X0 hx hby d3_0 ?_
    refine st254 _ ?_
    refine own_iN X254 hx hby d3_4 ?_
    refine own_in X254 hx hby d3_5 (teq (rfl : (0 : Int32) = (0 : Int32))).2 ?_
    refine own_aN X254 hx hby d3_8 ?_
    refine st255 _ ?_
    refine st257 _ ?_
    refine st258 _ ?_
    refine own_aN X258 hx hby d3_17 ?_
    refine st259 _ ?_
    refine st260 _ ?_
    refine st262 _ ?_
    exact X262.returnOut hx hret (hb hby d3_26) hr
  · show Qrm253 Z bb ba h0 _ T262.heap _
    rw [e262]
    exact ⟨rfl, N262, K262, ((((E_bb.ext E255).wr W258).ext E259).wr W262), T265_bb⟩
  · rw [hs0]
    show CHr Z consts_1 s.vm h0 T262.vm T262.heap
    rw [e262]
    exact CR262.trans (CHv.at (s := s) (vm0 := T259.vm) X262 hZ259 (own_hEL hw) CR262.1)
def Qrm266 (Z : State) (bb ba : Addr) (ka : ClassId) (h0 : Heap) (v : Option Value) (h : Heap) (L : List Loc) : Prop := v = none ∧ Fr Z.heap.size L ∧ Keep h0 h [bb] ∧ Exa Z h bb "java/lang/String" ∧ own_rep Z h bb []
theorem rm266 (l : Launch) (Z : State) (a0 : Array Value) (hw : own_HW Z a0) (ws : List Jvm.Cond) (bb ba : Addr) (ka : ClassId) (h0 : Heap) (Z0 : Ext Z.heap h0) (E_bb : Exa Z h0 bb "java/lang/String") (F_bb_coder : Fld Z h0 bb "java/lang/String" "coder" "B" (.int (0 : Int32))) (F_bb_value : Fld Z h0 bb "java/lang/String" "value" "[B" .null) (V_ba : Arv Z h0 ba ka .char (0 : Int32) [] (.int (0 : Int32))) (g_bb : Z.heap.size ≤ bb) :
    own_metW l y_22 jdk_42_method_3_code 2 none ws ({ frames := 2, cells := 4, slots := 8, locals := 29 } : Room) Z #[(.ref bb), (.ref ba)] h0 (Qrm266 Z bb ba ka h0) := by
  refine own_startW (plainFor_of_name pn_2) (fun m => ef_jdk_42_method_3_RR m bb ba) ?_
  intro p e s m below meth c s₁ hx hby hml hown hnm X0 hZ e0 hret hlk hs0 hC0
  have N0 := Fr.nil Z.heap.size
  have CR0 : CHr Z consts_1 s.vm h0 s.vm h0 := CHr.refl hC0
  have hS0 : s.Since s.vm 0 := (State.WarmedH.refl s).since 0
  have hk0 : 0 ≤ h0.size := Nat.zero_le _
  obtain ⟨cl267, Ar267, q267, S267, Nn267, H267, G267⟩ := id V_ba
  obtain ⟨_, T268, Lc268, X268, hQ268, hS268, hZ268, hown268, hC268, st268⟩ := own_specialW (y := y_21) (s := s) (vm0 := s.vm) X0 hx hZ hown rfl (own_w hw 12 rfl) (own_w hw 13 rfl) (own_w hw 7 rfl) (own_w hw 15 rfl) (rm253 l Z a0 hw [] bb ba h0 Z0 E_bb F_bb_coder F_bb_value g_bb) e0 (own_hEL hw) CR0.1 hS0 hk0 bb (g := (mkF m 6 #[rv bb, rv ba] [.null, (.int (0 : Int32)), (.int (0 : Int32)), (.ref ba), (.ref bb)])) (argsL := [(.ref ba), (.int (0 : Int32)), (.int (0 : Int32)), .null]) (rest := []) (W := 0) (lenOf pd_14 rfl) (hb hby d2_6) hml
  obtain ⟨rfl, N268q, K268q, q268_E_bb, q268_T_bb⟩ := hQ268
  have XX268 : Ext Z.heap T268.heap := own_extK Z0 K268q (allS g_bb all0)
  have N268 := Fr.app N0 N268q
  have CR268 := CR0.trans hC268
  have hk268 : T268.heap.size ≤ T268.heap.size := Nat.le_refl _
  obtain ⟨h268, e268⟩ : ∃ z, T268.heap = z := ⟨_, rfl⟩
  rw [e268] at K268q XX268 CR268 hS268 hk268 q268_E_bb q268_T_bb
  have K268 : Keep h0 h268 [bb] := (Keep.refl h0 [bb]).trans K268q (allS (Or.inl (List.mem_of_getElem? (i := 0) rfl)) all0)
  obtain ⟨fs, hr, hrun, hended, hend⟩ := leaveW (s := s) (vm₁ := T268.vm) X268 hS268 (by rw [e268]; exact hk268) (v := none) (fun _ => rfl) hlk
  refine ⟨_, _, ?_, hrun, hended, _, _, rfl, ?_, ?_, hend.1, hend.2.1, hend.2.2.1, hend.2.2.2.mono (by decide) (by decide)⟩
  · show own_S p e below s₁ (mkF m 0 #[rv bb, rv ba] []) _
    refine own_aN X0 hx hby d2_0 ?_
    refine own_aN X0 hx hby d2_1 ?_
    refine own_k X0 hx hby d2_2 ?_
    refine own_aN X0 hx hby d2_3 ?_
    refine X0.arraylength hx (by rw [e0]; exact Ar267.1) (State.isArrayOf_alike hZ.alike Ar267.2.1) (g := (mkF m 4 #[rv bb, rv ba] [(.ref ba), (.int (0 : Int32)), (.ref ba), (.ref bb)])) rfl rfl (hb hby d2_4) _ ?_
    rw [len_of S267 Nn267]
    refine XS.aconstNull X0.here hx rfl (hb hby d2_5) ?_
    refine st268 _ ?_
    exact X268.returnOut hx hret (hb hby d2_9) hr
  · show Qrm266 Z bb ba ka h0 _ T268.heap _
    rw [e268]
    exact ⟨rfl, N268, K268, q268_E_bb, q268_T_bb⟩
  · rw [hs0]
    show CHr Z consts_1 s.vm h0 T268.vm T268.heap
    rw [e268]
    exact CR268.trans (CHv.at (s := s) (vm0 := T268.vm) X268 hZ268 (own_hEL hw) CR268.1)
def Qrm269 (Z : State) (ca cb cc cd : Int32) (h0 : Heap) (v : Option Value) (h : Heap) (L : List Loc) : Prop := ∃ b270 : Addr, v = some (.ref b270) ∧ Fr Z.heap.size L ∧ Keep h0 h [] ∧ h0.size ≤ b270 ∧ Exa Z h b270 "java/lang/String" ∧ own_rep Z h b270 []
theorem rm269 (l : Launch) (Z : State) (a0 : Array Value) (hw : own_HW Z a0) (ws : List Jvm.Cond) (ca cb cc cd : Int32) (h0 : Heap) (Z0 : Ext Z.heap h0) :
    own_metW l y_32 method_4_code 5 (some (.object "java/lang/String")) ws ({ frames := 3, cells := 6, slots := 12, locals := 43 } : Room) Z #[(.int (0 : Int32)), (.int ca), (.int cb), (.int cc), (.int cd)] h0 (Qrm269 Z ca cb cc cd h0) := by
  refine own_startW (plainFor_of_name pn_0) (fun m => ef_method_4_IIIII m (0 : Int32) ca cb cc cd) ?_
  intro p e s m below meth c s₁ hx hby hml hown hnm X0 hZ e0 hret hlk hs0 hC0
  have N0 := Fr.nil Z.heap.size
  have CR0 : CHr Z consts_1 s.vm h0 s.vm h0 := CHr.refl hC0
  have hS0 : s.Since s.vm 0 := (State.WarmedH.refl s).since 0
  have hk0 : 0 ≤ h0.size := Nat.zero_le _
  obtain ⟨T270, h270, X270, e270, E270, A270, D270, -, st270⟩ := newO X0 hx hZ hown (own_w hw 5 rfl) (own_w hw 6 rfl) (own_w hw 7 rfl) e0 (g := (mkF m 4 #[iv (0 : Int32), iv ca, iv cb, iv cc, iv cd] [])) rfl (hb hby d1_4) (by decide) (by decide)
  obtain ⟨b270, g270⟩ : ∃ z, z = h0.size := ⟨_, rfl⟩
  rw [← g270] at A270 D270 st270
  have g_b270 : Z.heap.size ≤ b270 := Nat.le_trans Z0.1 (Nat.le_of_eq g270.symm)
  have sz_b270 : h0.size ≤ b270 := Nat.le_trans (Keep.refl h0 []).1 (Nat.le_of_eq g270.symm)
  have F_b270_value : Fld Z h270 b270 "java/lang/String" "value" "[B" .null := D270 (Or.inr (own_w hw 21 rfl)) (ty := (.array .byte)) (by decide)
  have F_b270_coder : Fld Z h270 b270 "java/lang/String" "coder" "B" (.int (0 : Int32)) := D270 (Or.inr (own_w hw 22 rfl)) (ty := .byte) (by decide)
  have K270 : Keep h0 h270 [] := (Keep.refl h0 []).ext E270
  have XX270 : Ext Z.heap h270 := own_ext2 Z0 E270
  have CQ270 : CHr Z consts_1 s.vm h0 s.vm h270 := CHr.ext E270 CR0.1
  have CR270 := CR0.trans CQ270
  have hk270 := Nat.le_trans hk0 CQ270.2.1
  obtain ⟨T271, h271, k271, X271, e271, E271, A271, st271⟩ := newP X270 hx hZ (own_w hw 8 rfl) e270 (g := (mkF m 9 #[iv (0 : Int32), iv ca, iv cb, iv cc, iv cd] [(.int (0 : Int32)), (.ref b270), (.ref b270)])) rfl (hb hby d1_9) rfl (by decide) (cap := 0) (by decide) (by decide) (by decide) (by decide)
  obtain ⟨b271, g271⟩ : ∃ z, z = h270.size := ⟨_, rfl⟩
  rw [← g271] at A271 st271
  have g_b271 : Z.heap.size ≤ b271 := Nat.le_trans XX270.1 (Nat.le_of_eq g271.symm)
  have sz_b271 : h0.size ≤ b271 := Nat.le_trans K270.1 (Nat.le_of_eq g271.symm)
  have V_b271 : Arv Z h271 b271 k271 .char (0 : Int32) [] (.int (0 : Int32)) := Arv.new A271 (by decide)
  have K271 : Keep h0 h271 [] := K270.ext E271
  have XX271 : Ext Z.heap h271 := own_ext2 XX270 E271
  have CQ271 : CHr Z consts_1 s.vm h270 s.vm h271 := CHr.ext E271 CR270.1
  have CR271 := CR270.trans CQ271
  have hk271 := Nat.le_trans hk270 CQ271.2.1
  obtain ⟨_, T272, Lc272, X272, hQ272, hS272, hZ272, hown272, hC272, st272⟩ := own_specialW (y := y_22) (s := s) (vm0 := s.vm) X271 hx hZ hown rfl (own_w hw 9 rfl) (own_w hw 10 rfl) (own_w hw 7 rfl) (own_w hw 11 rfl) (rm266 l Z a0 hw [] b270 b271 k271 h271 XX271 (A270.ext E271) (F_b270_coder.ext E271) (F_b270_value.ext E271) V_b271 g_b270) e271 (own_hEL hw) CR271.1 hS0 hk271 b270 (g := (mkF m 11 #[iv (0 : Int32), iv ca, iv cb, iv cc, iv cd] [(.ref b271), (.ref b270), (.ref b270)])) (argsL := [(.ref b271)]) (rest := [(.ref b270)]) (W := 1) (lenOf pd_25 rfl) (hb hby d1_11) hml
  obtain ⟨rfl, N272q, K272q, q272_E_b270, q272_T_b270⟩ := hQ272
  have XX272 : Ext Z.heap T272.heap := own_extK XX271 K272q (allS g_b270 all0)
  have N272 := Fr.app N0 N272q
  have CR272 := CR271.trans hC272
  have hk272 : T272.heap.size ≤ T272.heap.size := Nat.le_refl _
  obtain ⟨h272, e272⟩ : ∃ z, T272.heap = z := ⟨_, rfl⟩
  rw [e272] at K272q XX272 CR272 hS272 hk272 q272_E_b270 q272_T_b270
  have K272 : Keep h0 h272 [] := K271.trans K272q (allS (Or.inr sz_b270) all0)
  obtain ⟨fs, hr, hrun, hended, hend⟩ := leaveW (s := s) (vm₁ := T272.vm) X272 hS272 (by rw [e272]; exact hk272) (v := some (.ref b270)) (fun h => by rw [hret] at h; cases h) hlk
  refine ⟨_, _, ?_, hrun, hended, _, _, rfl, ?_, ?_, hend.1, hend.2.1, hend.2.2.1, hend.2.2.2.mono (by decide) (by decide)⟩
  · show own_S p e below s₁ (mkF m 0 #[iv (0 : Int32), iv ca, iv cb, iv cc, iv cd] []) _
    refine own_iN X0 hx hby d1_0 ?_
    refine own_in X0 hx hby d1_1 (teq (rfl : (0 : Int32) = (0 : Int32))).2 ?_
    refine st270 _ ?_
    refine XS.dup X270.here hx rfl (hb hby d1_7) rfl rfl ?_
    refine own_k X270 hx hby d1_8 ?_
    refine st271 _ ?_
    refine st272 _ ?_
    jvm_step X272.here [X272.here.top, hx, (hb hby d1_14), X272.method', hret, Value.isRef, FieldType.isReference]
    first | (intro acts; rw [hr _ acts rfl rfl rfl]) | rw [hr _ _ rfl rfl rfl]
    exact Steps.refl _
  · show Qrm269 Z ca cb cc cd h0 _ T272.heap _
    rw [e272]
    exact ⟨b270, rfl, N272, K272, sz_b270, q272_E_b270, q272_T_b270⟩
  · rw [hs0]
    show CHr Z consts_1 s.vm h0 T272.vm T272.heap
    rw [e272]
    exact CR272.trans (CHv.at (s := s) (vm0 := T272.vm) X272 hZ272 (own_hEL hw) CR272.1)
def Qrm273 (Z : State) (w_CS ca cb cc cd : Int32) (h0 : Heap) (v : Option Value) (h : Heap) (L : List Loc) : Prop := ∃ b274 : Addr, v = some (.ref b274) ∧ Fr Z.heap.size L ∧ Keep h0 h [] ∧ h0.size ≤ b274 ∧ Exa Z h b274 "java/lang/String" ∧ own_rep Z h b274 [ca]
theorem rm273 (l : Launch) (Z : State) (a0 : Array Value) (hw : own_HW Z a0) (ws : List Jvm.Cond) (w_CS ca cb cc cd : Int32) (h0 : Heap) (Z0 : Ext Z.heap h0) (S_w_CS : own_w_CS Z w_CS) (S_s__assertionsDisabled : own_s__assertionsDisabled Z) (S_s_HI_BYTE_SHIFT : own_s_HI_BYTE_SHIFT Z) (S_s_LO_BYTE_SHIFT : own_s_LO_BYTE_SHIFT Z) (hc46 : own_u16 ca) (hc1 : ¬ (w_CS = (0 : Int32))) :
    own_met l y_32 method_4_code 5 (some (.object "java/lang/String")) ws ({ frames := 7, cells := 4, slots := 17, locals := 124 } : Room) Z #[(.int (1 : Int32)), (.int ca), (.int cb), (.int cc), (.int cd)] h0 (Qrm273 Z w_CS ca cb cc cd h0) := by
  refine own_start (plainFor_of_name pn_0) (fun m => ef_method_4_IIIII m (1 : Int32) ca cb cc cd) ?_
  intro p e s m below meth c s₁ hx hby hml hown hnm X0 hZ e0 hret hlk
  have N0 := Fr.nil Z.heap.size
  obtain ⟨T274, h274, X274, e274, E274, A274, D274, -, st274⟩ := newO X0 hx hZ hown (own_w hw 5 rfl) (own_w hw 6 rfl) (own_w hw 7 rfl) e0 (g := (mkF m 20 #[iv (1 : Int32), iv ca, iv cb, iv cc, iv cd] [])) rfl (hb hby d1_20) (by decide) (by decide)
  obtain ⟨b274, g274⟩ : ∃ z, z = h0.size := ⟨_, rfl⟩
  rw [← g274] at A274 D274 st274
  have g_b274 : Z.heap.size ≤ b274 := Nat.le_trans Z0.1 (Nat.le_of_eq g274.symm)
  have sz_b274 : h0.size ≤ b274 := Nat.le_trans (Keep.refl h0 []).1 (Nat.le_of_eq g274.symm)
  have F_b274_value : Fld Z h274 b274 "java/lang/String" "value" "[B" .null := D274 (Or.inr (own_w hw 21 rfl)) (ty := (.array .byte)) (by decide)
  have F_b274_coder : Fld Z h274 b274 "java/lang/String" "coder" "B" (.int (0 : Int32)) := D274 (Or.inr (own_w hw 22 rfl)) (ty := .byte) (by decide)
  have K274 : Keep h0 h274 [] := (Keep.refl h0 []).ext E274
  have XX274 : Ext Z.heap h274 := own_ext2 Z0 E274
  obtain ⟨T275, h275, k275, X275, e275, E275, A275, st275⟩ := newP X274 hx hZ (own_w hw 8 rfl) e274 (g := (mkF m 25 #[iv (1 : Int32), iv ca, iv cb, iv cc, iv cd] [(.int (1 : Int32)), (.ref b274), (.ref b274)])) rfl (hb hby d1_25) rfl (by decide) (cap := 1) (by decide) (by decide) (by decide) (by decide)
  obtain ⟨b275, g275⟩ : ∃ z, z = h274.size := ⟨_, rfl⟩
  rw [← g275] at A275 st275
  have g_b275 : Z.heap.size ≤ b275 := Nat.le_trans XX274.1 (Nat.le_of_eq g275.symm)
  have sz_b275 : h0.size ≤ b275 := Nat.le_trans K274.1 (Nat.le_of_eq g275.symm)
  have V_b275 : Arv Z h275 b275 k275 .char (1 : Int32) [(.int (0 : Int32))] (.int (0 : Int32)) := (Arv.new A275 (by decide)).pad (pad_rep [] (.int (0 : Int32)) 1)
  have K275 : Keep h0 h275 [] := K274.ext E275
  have XX275 : Ext Z.heap h275 := own_ext2 XX274 E275
  obtain ⟨cl276, Ar276, q276, S276, Nn276, H276, G276⟩ := id V_b275
  have hin276 : ¬ ((0 : Int32) < 0 ∨ cl276.slots.size ≤ ((0 : Int32)).toNatClampNeg) := inb_of S276 ⟨by decide, by decide⟩
  obtain ⟨T277, h277, X277, e277, W277, st277⟩ := stC X275 hx hZ e275 Ar276 (j := (0 : Int32)) hin276 (g := (mkF m 30 #[iv (1 : Int32), iv ca, iv cb, iv cc, iv cd] [(.int ca), (.int (0 : Int32)), (.ref b275), (.ref b275), (.ref b274), (.ref b274)])) rfl rfl (hb hby d1_30)
  rw [(own_nc hc46)] at W277
  have V277 : Arv Z h277 b275 k275 .char (1 : Int32) [(.int ca)] (.int (0 : Int32)) := Arv.set Ar276 q276 S276 Nn276 H276 G276 (by rw [← (own_nc hc46)]; exact fits_nar_char _) W277 0 rfl (Nat.le_of_ble_eq_true rfl)
  have K277 : Keep h0 h277 [] := K275.wr W277 (Or.inr sz_b275)
  have XX277 : Ext Z.heap h277 := own_extW XX275 W277 g_b275
  have N277 := Fr.snoc X277 N0 g_b275
  have ne_b274_b275 : b274 ≠ b275 := Nat.ne_of_lt (Nat.lt_of_lt_of_le A274.lt (Nat.le_of_eq g275.symm))
  obtain ⟨_, T278, Lc278, X278, hQ278, st278⟩ := own_special (y := y_22) X277 hx hZ hown rfl (own_w hw 9 rfl) (own_w hw 10 rfl) (own_w hw 7 rfl) (own_w hw 11 rfl) (own_initG l Z a0 hw [] w_CS b274 b275 k275 [ca] h277 XX277 S_w_CS S_s__assertionsDisabled S_s_HI_BYTE_SHIFT S_s_LO_BYTE_SHIFT ((A274.ext E275).wr W277) ((F_b274_coder.ext E275).other W277 (Or.inl ne_b274_b275)) ((F_b274_value.ext E275).other W277 (Or.inl ne_b274_b275)) V277 g_b274 hc1 ⟨Nat.le_of_ble_eq_true rfl, Nat.le_of_ble_eq_true rfl⟩ (own_a16_s hc46 own_a16_0)) e277 b274 (g := (mkF m 31 #[iv (1 : Int32), iv ca, iv cb, iv cc, iv cd] [(.ref b275), (.ref b274), (.ref b274)])) (argsL := [(.ref b275)]) (rest := [(.ref b274)]) (W := 1) (lenOf pd_25 rfl) (hb hby d1_31) hml
  obtain ⟨rfl, N278q, K278q, q278_E_b274, q278_T_b274⟩ := hQ278
  have K278 : Keep h0 T278.heap [] := K277.trans K278q (allS (Or.inr sz_b274) all0)
  have XX278 : Ext Z.heap T278.heap := own_extK XX277 K278q (allS g_b274 all0)
  have N278 := Fr.app N277 N278q
  obtain ⟨fs, hr, hrun, hended, hW, hsame⟩ := X278.leave (v := some (.ref b274)) (fun h => by rw [hret] at h; cases h) hlk
  refine ⟨_, _, ?_, hrun, hended, _, _, rfl, ?_, ⟨_, rfl⟩, hW, hsame.mono (by decide) (by decide)⟩
  · show own_S p e below s₁ (mkF m 0 #[iv (1 : Int32), iv ca, iv cb, iv cc, iv cd] []) _
    refine own_iN X0 hx hby d1_0 ?_
    refine own_iy (pc := 1) X0 hx hby d1_1 (feq (by decide : ¬ ((1 : Int32) = (0 : Int32)))).2 15 ?_
    refine own_iN X0 hx hby d1_15 ?_
    refine own_k X0 hx hby d1_16 ?_
    refine own_cn X0 hx hby d1_17 (teq (rfl : (1 : Int32) = (1 : Int32))).2 ?_
    refine st274 _ ?_
    refine XS.dup X274.here hx rfl (hb hby d1_23) rfl rfl ?_
    refine own_k X274 hx hby d1_24 ?_
    refine st275 _ ?_
    refine XS.dup X275.here hx rfl (hb hby d1_27) rfl rfl ?_
    refine own_k X275 hx hby d1_28 ?_
    refine own_iN X275 hx hby d1_29 ?_
    refine st277 _ ?_
    refine st278 _ ?_
    jvm_step X278.here [X278.here.top, hx, (hb hby d1_34), X278.method', hret, Value.isRef, FieldType.isReference]
    first | (intro acts; rw [hr _ acts rfl rfl rfl]) | rw [hr _ _ rfl rfl rfl]
    exact Steps.refl _
  · show Qrm273 Z w_CS ca cb cc cd h0 _ T278.heap _
    exact ⟨b274, rfl, N278, K278, sz_b274, q278_E_b274, q278_T_b274⟩
def Qrm0_1_0 (Z : State) (w_CS : Int32) (w_SF : Value) (p1 p2 p3 p4 p5 ca cb cc cd : Int32) (h0 : Heap) (v : Option Value) (h : Heap) (L : List Loc) : Prop := v = some (.int 1) ∧ Fr Z.heap.size L
theorem rm0_1_0 (l : Launch) (Z : State) (a0 : Array Value) (hw : own_HW Z a0) (ws : List Jvm.Cond) (w_CS : Int32) (w_SF : Value) (p1 p2 p3 p4 p5 ca cb cc cd : Int32) (h0 : Heap) (Z0 : Ext Z.heap h0) (S_w_CS : own_w_CS Z w_CS) (S_s__assertionsDisabled : own_s__assertionsDisabled Z) (S_s_HI_BYTE_SHIFT : own_s_HI_BYTE_SHIFT Z) (S_s_LO_BYTE_SHIFT : own_s_LO_BYTE_SHIFT Z) (R_w_SF : w_SF.isRef = true) (S_w_SF : own_w_SF Z w_SF) (hc41 : ((p1 &&& (65535 : Int32)).toUInt32.toUInt16.toUInt32.toInt32) = ca) (hc42 : ((p2 &&& (65535 : Int32)).toUInt32.toUInt16.toUInt32.toInt32) = cb) (hc43 : ((p3 &&& (65535 : Int32)).toUInt32.toUInt16.toUInt32.toInt32) = cc) (hc44 : ((p4 &&& (65535 : Int32)).toUInt32.toUInt16.toUInt32.toInt32) = cd) (hc45 : ((p5 &&& (7 : Int32)) % (5 : Int32)) = (1 : Int32)) (hc46 : own_u16 ca) (hc1 : ¬ (w_CS = (0 : Int32))) (hc47 : ¬ ((own_lo ca) = ca)) :
    own_met l x code maxLocals ret ws room_1 Z #[(.int p1), (.int p2), (.int p3), (.int p4), (.int p5)] h0 (Qrm0_1_0 Z w_CS w_SF p1 p2 p3 p4 p5 ca cb cc cd h0) := by
  refine own_start (plainFor_of_name pn_0) (fun m => ef_code_IIIII m p1 p2 p3 p4 p5) ?_
  intro p e s m below meth c s₁ hx hby hml hown hnm X0 hZ e0 hret hlk
  have N0 := Fr.nil Z.heap.size
  obtain ⟨_, T279, Lc279, X279, hQ279, st279⟩ := own_static (y := y_32) X0 hx hZ hown (own_w hw 1 rfl) (own_w hw 2 rfl) (own_w hw 3 rfl) (own_w hw 4 rfl) (rm273 l Z a0 hw [] w_CS ca cb cc cd h0 Z0 S_w_CS S_s__assertionsDisabled S_s_HI_BYTE_SHIFT S_s_LO_BYTE_SHIFT hc46 hc1) e0 (g := (mkF m 47 #[iv p1, iv p2, iv p3, iv p4, iv p5, iv ca, iv cb, iv cc, iv cd, iv (1 : Int32), .unset, .unset, .unset] [(.int cd), (.int cc), (.int cb), (.int ca), (.int (1 : Int32))])) (argsL := [(.int (1 : Int32)), (.int ca), (.int cb), (.int cc), (.int cd)]) (rest := []) (W := 0) (lenOf pd_26 rfl) (hb hby at_47) hml
  obtain ⟨b280, rfl, N279q, K279q, szn_b280, q279_E_b280, q279_T_b280⟩ := hQ279
  have g_b280 : Z.heap.size ≤ b280 := Nat.le_trans Z0.1 szn_b280
  have sz_b280 : h0.size ≤ b280 := Nat.le_trans (Keep.refl h0 []).1 szn_b280
  have K279 : Keep h0 T279.heap [] := (Keep.refl h0 []).trans K279q all0
  have XX279 : Ext Z.heap T279.heap := own_extK Z0 K279q all0
  have N279 := Fr.app N0 N279q
  obtain ⟨_, T281, Lc281, X281, hQ281, st281⟩ := own_static (y := y_31) X279 hx hZ hown (own_w hw 27 rfl) (own_w hw 28 rfl) (own_w hw 29 rfl) (own_w hw 30 rfl) (own_lcC l Z a0 hw [] w_CS w_SF b280 [ca] T279.heap XX279 S_w_CS R_w_SF S_w_SF S_s__assertionsDisabled S_s_HI_BYTE_SHIFT S_s_LO_BYTE_SHIFT q279_E_b280 q279_T_b280 ⟨Nat.le_of_ble_eq_true rfl, Nat.le_of_ble_eq_true rfl⟩ (own_a16_s hc46 own_a16_0) hc1 ⟨ca, by simp, hc47⟩) rfl (g := (mkF m 54 #[iv p1, iv p2, iv p3, iv p4, iv p5, iv ca, iv cb, iv cc, iv cd, iv (1 : Int32), rv b280, .unset, .unset] [(.ref b280)])) (argsL := [(.ref b280)]) (rest := []) (W := 0) (lenOf pd_27 rfl) (hb hby at_54) hml
  obtain ⟨b282, rfl, N281q, K281q, szn_b282, q281_E_b282, q281_T_b282⟩ := hQ281
  have g_b282 : Z.heap.size ≤ b282 := Nat.le_trans XX279.1 szn_b282
  have sz_b282 : h0.size ≤ b282 := Nat.le_trans K279.1 szn_b282
  have K281 : Keep h0 T281.heap [] := K279.trans K281q all0
  have XX281 : Ext Z.heap T281.heap := own_extK XX279 K281q all0
  have N281 := Fr.app N279 N281q
  obtain ⟨_, T283, Lc283, X283, hQ283, st283⟩ := own_virtual (y := y_4) X281 hx hZ hown (own_w hw 42 rfl) (own_w hw 32 rfl) (own_w hw 34 rfl) (own_w hw 33 rfl) (own_w hw 7 rfl) (own_w hw 35 rfl) (own_lenG l Z a0 hw [] w_CS b282 [(own_lo ca)] T281.heap XX281 S_w_CS q281_E_b282 q281_T_b282 hc1 (Nat.le_of_ble_eq_true rfl)) rfl q281_E_b282 (g := (mkF m 61 #[iv p1, iv p2, iv p3, iv p4, iv p5, iv ca, iv cb, iv cc, iv cd, iv (1 : Int32), rv b280, rv b282, .unset] [(.ref b282)])) (argsL := []) (rest := []) (W := 0) (lenOf pd_21 rfl) (hb hby at_61) hml
  obtain ⟨rfl, N283q, e283⟩ := hQ283
  have N283 := Fr.app N281 N283q
  obtain ⟨_, T284, Lc284, X284, hQ284, st284⟩ := own_virtual (y := y_9) X283 hx hZ hown (own_w hw 78 rfl) (own_w hw 54 rfl) (own_w hw 56 rfl) (own_w hw 55 rfl) (own_w hw 7 rfl) (own_w hw 57 rfl) (own_chG l Z a0 hw [] w_CS w_SF (own_lo ca) b282 [(own_lo ca)] (0 : Int32) T281.heap XX281 S_w_CS R_w_SF S_w_SF S_s__assertionsDisabled S_s_HI_BYTE_SHIFT S_s_LO_BYTE_SHIFT q281_E_b282 q281_T_b282 hc1 (own_u16_lo hc46) ⟨by decide, (by decide : (0 : Int32) < (1 : Int32)), rfl, Nat.le_of_ble_eq_true rfl⟩) e283 q281_E_b282 (g := (mkF m 82 #[iv p1, iv p2, iv p3, iv p4, iv p5, iv ca, iv cb, iv cc, iv cd, iv (1 : Int32), rv b280, rv b282, iv (0 : Int32)] [(.int (0 : Int32)), (.ref b282)])) (argsL := [(.int (0 : Int32))]) (rest := []) (W := 0) (lenOf pd_22 rfl) (hb hby at_82) hml
  obtain ⟨rfl, N284q, e284⟩ := hQ284
  have N284 := Fr.app N283 N284q
  obtain ⟨_, T285, Lc285, X285, hQ285, st285⟩ := own_static (y := y_2) X284 hx hZ hown (own_w hw 79 rfl) (own_w hw 80 rfl) (own_w hw 3 rfl) (own_w hw 81 rfl) (own_refJ l Z a0 hw [] ca T281.heap XX281 hc46) e284 (g := (mkF m 87 #[iv p1, iv p2, iv p3, iv p4, iv p5, iv ca, iv cb, iv cc, iv cd, iv (1 : Int32), rv b280, rv b282, iv (0 : Int32)] [(.int ca), (.int (own_lo ca))])) (argsL := [(.int ca)]) (rest := [(.int (own_lo ca))]) (W := 1) (lenOf pd_23 rfl) (hb hby at_87) hml
  obtain ⟨rfl, N285q, e285⟩ := hQ285
  have N285 := Fr.app N284 N285q
  obtain ⟨_, T286, Lc286, X286, hQ286, st286⟩ := own_static (y := y_0) X285 hx hZ hown (own_w hw 82 rfl) (own_w hw 83 rfl) (own_w hw 3 rfl) (own_w hw 84 rfl) (own_cap1 l Z a0 hw [] ca T281.heap XX281 hc47) e285 (g := (mkF m 102 #[iv p1, iv p2, iv p3, iv p4, iv p5, iv ca, iv cb, iv cc, iv cd, iv (1 : Int32), rv b280, rv b282, iv (0 : Int32)] [(.int ca)])) (argsL := [(.int ca)]) (rest := []) (W := 0) (lenOf pd_0 rfl) (hb hby at_102) hml
  obtain ⟨rfl, N286q, e286⟩ := hQ286
  have N286 := Fr.app N285 N286q
  obtain ⟨fs, hr, hrun, hended, hW, hsame⟩ := X286.leave (v := some (.int (1 : Int32))) (fun h => by rw [hret] at h; cases h) hlk
  refine ⟨_, _, ?_, hrun, hended, _, _, rfl, ?_, ⟨_, rfl⟩, hW, hsame.mono (by decide) (by decide)⟩
  · show own_S p e below s₁ (mkF m 0 #[iv p1, iv p2, iv p3, iv p4, iv p5, .unset, .unset, .unset, .unset, .unset, .unset, .unset, .unset] []) _
    refine own_iN X0 hx hby at_0 ?_
    refine X0.ldcInt hx hown (mvT hZ (own_w hw 0 rfl)) (g := (mkF m 1 #[iv p1, iv p2, iv p3, iv p4, iv p5, .unset, .unset, .unset, .unset, .unset, .unset, .unset, .unset] [(.int p1)])) rfl (hb hby at_1) _ ?_
    refine XS.iand X0.here hx rfl (hb hby at_3) rfl ?_
    refine XS.i2c X0.here hx rfl (hb hby at_4) rfl ?_
    show own_S p e below s₁ (mkF m 5 #[iv p1, iv p2, iv p3, iv p4, iv p5, .unset, .unset, .unset, .unset, .unset, .unset, .unset, .unset] [(.int ((p1 &&& (65535 : Int32)).toUInt32.toUInt16.toUInt32.toInt32))]) _
    rw [hc41]
    refine XS.istore X0.here hx rfl (hb hby at_5) rfl (l' := #[iv p1, iv p2, iv p3, iv p4, iv p5, iv ca, .unset, .unset, .unset, .unset, .unset, .unset, .unset]) rfl ?_
    refine own_iN X0 hx hby at_7 ?_
    refine X0.ldcInt hx hown (mvT hZ (own_w hw 0 rfl)) (g := (mkF m 8 #[iv p1, iv p2, iv p3, iv p4, iv p5, iv ca, .unset, .unset, .unset, .unset, .unset, .unset, .unset] [(.int p2)])) rfl (hb hby at_8) _ ?_
    refine XS.iand X0.here hx rfl (hb hby at_10) rfl ?_
    refine XS.i2c X0.here hx rfl (hb hby at_11) rfl ?_
    show own_S p e below s₁ (mkF m 12 #[iv p1, iv p2, iv p3, iv p4, iv p5, iv ca, .unset, .unset, .unset, .unset, .unset, .unset, .unset] [(.int ((p2 &&& (65535 : Int32)).toUInt32.toUInt16.toUInt32.toInt32))]) _
    rw [hc42]
    refine XS.istore X0.here hx rfl (hb hby at_12) rfl (l' := #[iv p1, iv p2, iv p3, iv p4, iv p5, iv ca, iv cb, .unset, .unset, .unset, .unset, .unset, .unset]) rfl ?_
    refine own_iN X0 hx hby at_14 ?_
    refine X0.ldcInt hx hown (mvT hZ (own_w hw 0 rfl)) (g := (mkF m 15 #[iv p1, iv p2, iv p3, iv p4, iv p5, iv ca, iv cb, .unset, .unset, .unset, .unset, .unset, .unset] [(.int p3)])) rfl (hb hby at_15) _ ?_
    refine XS.iand X0.here hx rfl (hb hby at_17) rfl ?_
    refine XS.i2c X0.here hx rfl (hb hby at_18) rfl ?_
    show own_S p e below s₁ (mkF m 19 #[iv p1, iv p2, iv p3, iv p4, iv p5, iv ca, iv cb, .unset, .unset, .unset, .unset, .unset, .unset] [(.int ((p3 &&& (65535 : Int32)).toUInt32.toUInt16.toUInt32.toInt32))]) _
    rw [hc43]
    refine XS.istore X0.here hx rfl (hb hby at_19) rfl (l' := #[iv p1, iv p2, iv p3, iv p4, iv p5, iv ca, iv cb, iv cc, .unset, .unset, .unset, .unset, .unset]) rfl ?_
    refine own_iN X0 hx hby at_21 ?_
    refine X0.ldcInt hx hown (mvT hZ (own_w hw 0 rfl)) (g := (mkF m 22 #[iv p1, iv p2, iv p3, iv p4, iv p5, iv ca, iv cb, iv cc, .unset, .unset, .unset, .unset, .unset] [(.int p4)])) rfl (hb hby at_22) _ ?_
    refine XS.iand X0.here hx rfl (hb hby at_24) rfl ?_
    refine XS.i2c X0.here hx rfl (hb hby at_25) rfl ?_
    show own_S p e below s₁ (mkF m 26 #[iv p1, iv p2, iv p3, iv p4, iv p5, iv ca, iv cb, iv cc, .unset, .unset, .unset, .unset, .unset] [(.int ((p4 &&& (65535 : Int32)).toUInt32.toUInt16.toUInt32.toInt32))]) _
    rw [hc44]
    refine XS.istore X0.here hx rfl (hb hby at_26) rfl (l' := #[iv p1, iv p2, iv p3, iv p4, iv p5, iv ca, iv cb, iv cc, iv cd, .unset, .unset, .unset, .unset]) rfl ?_
    refine own_i X0 hx hby at_28 ?_
    refine XS.bipush X0.here hx rfl (hb hby at_30) ?_
    refine XS.iand X0.here hx rfl (hb hby at_32) rfl ?_
    refine own_k X0 hx hby at_33 ?_
    refine iremM X0 hx rfl (hb hby at_34) rfl (by decide) ?_
    show own_S p e below s₁ (mkF m 35 #[iv p1, iv p2, iv p3, iv p4, iv p5, iv ca, iv cb, iv cc, iv cd, .unset, .unset, .unset, .unset] [(.int ((p5 &&& (7 : Int32)) % (5 : Int32)))]) _
    rw [hc45]
    refine XS.istore X0.here hx rfl (hb hby at_35) rfl (l' := #[iv p1, iv p2, iv p3, iv p4, iv p5, iv ca, iv cb, iv cc, iv cd, iv (1 : Int32), .unset, .unset, .unset]) rfl ?_
    refine own_i X0 hx hby at_37 ?_
    refine own_i X0 hx hby at_39 ?_
    refine own_i X0 hx hby at_41 ?_
    refine own_i X0 hx hby at_43 ?_
    refine own_i X0 hx hby at_45 ?_
    refine st279 _ ?_
    refine XS.astore X279.here hx rfl (hb hby at_50) rfl rfl (l' := #[iv p1, iv p2, iv p3, iv p4, iv p5, iv ca, iv cb, iv cc, iv cd, iv (1 : Int32), rv b280, .unset, .unset]) rfl ?_
    refine own_a X279 hx hby at_52 ?_
    refine st281 _ ?_
    refine XS.astore X281.here hx rfl (hb hby at_57) rfl rfl (l' := #[iv p1, iv p2, iv p3, iv p4, iv p5, iv ca, iv cb, iv cc, iv cd, iv (1 : Int32), rv b280, rv b282, .unset]) rfl ?_
    refine own_a X281 hx hby at_59 ?_
    refine st283 _ ?_
    refine own_i X283 hx hby at_64 ?_
    refine own_cy (pc := 66) X283 hx hby at_66 (teq (rfl : (1 : Int32) = (1 : Int32))).1 71 ?_
    refine own_k X283 hx hby at_71 ?_
    refine XS.istore X283.here hx rfl (hb hby at_72) rfl (l' := #[iv p1, iv p2, iv p3, iv p4, iv p5, iv ca, iv cb, iv cc, iv cd, iv (1 : Int32), rv b280, rv b282, iv (0 : Int32)]) rfl ?_
    refine own_i X283 hx hby at_74 ?_
    refine own_in X283 hx hby at_76 (tlt (by decide : (0 : Int32) < (1 : Int32))).2.2.2 ?_
    refine own_a X283 hx hby at_79 ?_
    refine own_k X283 hx hby at_81 ?_
    refine st284 _ ?_
    refine own_i X284 hx hby at_85 ?_
    refine st285 _ ?_
    refine own_cy (pc := 90) X285 hx hby at_90 (teq (rfl : (own_lo ca) = (own_lo ca))).1 95 ?_
    refine own_i X285 hx hby at_95 ?_
    refine own_in X285 hx hby at_97 (teq (rfl : (0 : Int32) = (0 : Int32))).2 ?_
    refine own_i X285 hx hby at_100 ?_
    refine st286 _ ?_
    refine own_in X286 hx hby at_105 (feq (by decide : ¬ ((1 : Int32) = (0 : Int32)))).1 ?_
    refine own_k X286 hx hby at_108 ?_
    refine own_go (pc := 109) X286 hx hby at_109 113 ?_
    refine XS.istore X286.here hx rfl (hb hby at_113) rfl (l' := #[iv p1, iv p2, iv p3, iv p4, iv p5, iv ca, iv cb, iv cc, iv cd, iv (1 : Int32), rv b280, rv b282, iv (1 : Int32)]) rfl ?_
    refine own_i X286 hx hby at_115 ?_
    refine own_k X286 hx hby at_117 ?_
    refine own_cy (pc := 118) X286 hx hby at_118 (flt (Int32.lt_irrefl : ¬ ((1 : Int32) < (1 : Int32)))).2.2.2 157 ?_
    refine own_i X286 hx hby at_157 ?_
    refine own_k X286 hx hby at_159 ?_
    refine own_cy (pc := 160) X286 hx hby at_160 (flt (by decide : ¬ ((2 : Int32) < (1 : Int32)))).2.2.2 199 ?_
    refine own_i X286 hx hby at_199 ?_
    refine own_k X286 hx hby at_201 ?_
    refine own_cy (pc := 202) X286 hx hby at_202 (flt (by decide : ¬ ((3 : Int32) < (1 : Int32)))).2.2.2 241 ?_
    refine own_i X286 hx hby at_241 ?_
    refine own_iy (pc := 243) X286 hx hby at_243 (feq (by decide : ¬ ((1 : Int32) = (0 : Int32)))).2 255 ?_
    refine own_k X286 hx hby at_255 ?_
    exact retN X286 hx (t := .boolean) hret (by simp) (hb hby at_256) hr
  · show Qrm0_1_0 Z w_CS w_SF p1 p2 p3 p4 p5 ca cb cc cd h0 _ T286.heap _
    exact ⟨rfl, N286⟩
def Qrm0_1_1 (Z : State) (w_CS : Int32) (w_SF : Value) (p1 p2 p3 p4 p5 ca cb cc cd : Int32) (h0 : Heap) (v : Option Value) (h : Heap) (L : List Loc) : Prop := v = some (.int 1) ∧ Fr Z.heap.size L
theorem rm0_1_1 (l : Launch) (Z : State) (a0 : Array Value) (hw : own_HW Z a0) (ws : List Jvm.Cond) (w_CS : Int32) (w_SF : Value) (p1 p2 p3 p4 p5 ca cb cc cd : Int32) (h0 : Heap) (Z0 : Ext Z.heap h0) (S_w_CS : own_w_CS Z w_CS) (S_s__assertionsDisabled : own_s__assertionsDisabled Z) (S_s_HI_BYTE_SHIFT : own_s_HI_BYTE_SHIFT Z) (S_s_LO_BYTE_SHIFT : own_s_LO_BYTE_SHIFT Z) (R_w_SF : w_SF.isRef = true) (S_w_SF : own_w_SF Z w_SF) (hc41 : ((p1 &&& (65535 : Int32)).toUInt32.toUInt16.toUInt32.toInt32) = ca) (hc42 : ((p2 &&& (65535 : Int32)).toUInt32.toUInt16.toUInt32.toInt32) = cb) (hc43 : ((p3 &&& (65535 : Int32)).toUInt32.toUInt16.toUInt32.toInt32) = cc) (hc44 : ((p4 &&& (65535 : Int32)).toUInt32.toUInt16.toUInt32.toInt32) = cd) (hc45 : ((p5 &&& (7 : Int32)) % (5 : Int32)) = (1 : Int32)) (hc46 : own_u16 ca) (hc1 : ¬ (w_CS = (0 : Int32))) (hc48 : (own_lo ca) = ca) :
    own_met l x code maxLocals ret ws room_1 Z #[(.int p1), (.int p2), (.int p3), (.int p4), (.int p5)] h0 (Qrm0_1_1 Z w_CS w_SF p1 p2 p3 p4 p5 ca cb cc cd h0) := by
  refine own_start (plainFor_of_name pn_0) (fun m => ef_code_IIIII m p1 p2 p3 p4 p5) ?_
  intro p e s m below meth c s₁ hx hby hml hown hnm X0 hZ e0 hret hlk
  have N0 := Fr.nil Z.heap.size
  obtain ⟨_, T287, Lc287, X287, hQ287, st287⟩ := own_static (y := y_32) X0 hx hZ hown (own_w hw 1 rfl) (own_w hw 2 rfl) (own_w hw 3 rfl) (own_w hw 4 rfl) (rm273 l Z a0 hw [] w_CS ca cb cc cd h0 Z0 S_w_CS S_s__assertionsDisabled S_s_HI_BYTE_SHIFT S_s_LO_BYTE_SHIFT hc46 hc1) e0 (g := (mkF m 47 #[iv p1, iv p2, iv p3, iv p4, iv p5, iv ca, iv cb, iv cc, iv cd, iv (1 : Int32), .unset, .unset, .unset] [(.int cd), (.int cc), (.int cb), (.int ca), (.int (1 : Int32))])) (argsL := [(.int (1 : Int32)), (.int ca), (.int cb), (.int cc), (.int cd)]) (rest := []) (W := 0) (lenOf pd_26 rfl) (hb hby at_47) hml
  obtain ⟨b288, rfl, N287q, K287q, szn_b288, q287_E_b288, q287_T_b288⟩ := hQ287
  have g_b288 : Z.heap.size ≤ b288 := Nat.le_trans Z0.1 szn_b288
  have sz_b288 : h0.size ≤ b288 := Nat.le_trans (Keep.refl h0 []).1 szn_b288
  have K287 : Keep h0 T287.heap [] := (Keep.refl h0 []).trans K287q all0
  have XX287 : Ext Z.heap T287.heap := own_extK Z0 K287q all0
  have N287 := Fr.app N0 N287q
  obtain ⟨_, T289, Lc289, X289, hQ289, st289⟩ := own_static (y := y_31) X287 hx hZ hown (own_w hw 27 rfl) (own_w hw 28 rfl) (own_w hw 29 rfl) (own_w hw 30 rfl) (rm234 l Z a0 hw [] w_CS w_SF b288 [ca] T287.heap XX287 S_w_CS R_w_SF S_w_SF S_s__assertionsDisabled S_s_HI_BYTE_SHIFT S_s_LO_BYTE_SHIFT q287_E_b288 q287_T_b288 ⟨Nat.le_of_ble_eq_true rfl, Nat.le_of_ble_eq_true rfl⟩ (own_a16_s hc46 own_a16_0) (own_nocap_s hc48 own_nocap_0) hc1) rfl (g := (mkF m 54 #[iv p1, iv p2, iv p3, iv p4, iv p5, iv ca, iv cb, iv cc, iv cd, iv (1 : Int32), rv b288, .unset, .unset] [(.ref b288)])) (argsL := [(.ref b288)]) (rest := []) (W := 0) (lenOf pd_27 rfl) (hb hby at_54) hml
  obtain ⟨rfl, N289q, e289⟩ := hQ289
  have N289 := Fr.app N287 N289q
  obtain ⟨_, T290, Lc290, X290, hQ290, st290⟩ := own_virtual (y := y_4) X289 hx hZ hown (own_w hw 42 rfl) (own_w hw 32 rfl) (own_w hw 34 rfl) (own_w hw 33 rfl) (own_w hw 7 rfl) (own_w hw 35 rfl) (own_lenG l Z a0 hw [] w_CS b288 [ca] T287.heap XX287 S_w_CS q287_E_b288 q287_T_b288 hc1 (Nat.le_of_ble_eq_true rfl)) e289 q287_E_b288 (g := (mkF m 61 #[iv p1, iv p2, iv p3, iv p4, iv p5, iv ca, iv cb, iv cc, iv cd, iv (1 : Int32), rv b288, rv b288, .unset] [(.ref b288)])) (argsL := []) (rest := []) (W := 0) (lenOf pd_21 rfl) (hb hby at_61) hml
  obtain ⟨rfl, N290q, e290⟩ := hQ290
  have N290 := Fr.app N289 N290q
  obtain ⟨_, T291, Lc291, X291, hQ291, st291⟩ := own_virtual (y := y_9) X290 hx hZ hown (own_w hw 78 rfl) (own_w hw 54 rfl) (own_w hw 56 rfl) (own_w hw 55 rfl) (own_w hw 7 rfl) (own_w hw 57 rfl) (own_chG l Z a0 hw [] w_CS w_SF ca b288 [ca] (0 : Int32) T287.heap XX287 S_w_CS R_w_SF S_w_SF S_s__assertionsDisabled S_s_HI_BYTE_SHIFT S_s_LO_BYTE_SHIFT q287_E_b288 q287_T_b288 hc1 hc46 ⟨by decide, (by decide : (0 : Int32) < (1 : Int32)), rfl, Nat.le_of_ble_eq_true rfl⟩) e290 q287_E_b288 (g := (mkF m 82 #[iv p1, iv p2, iv p3, iv p4, iv p5, iv ca, iv cb, iv cc, iv cd, iv (1 : Int32), rv b288, rv b288, iv (0 : Int32)] [(.int (0 : Int32)), (.ref b288)])) (argsL := [(.int (0 : Int32))]) (rest := []) (W := 0) (lenOf pd_22 rfl) (hb hby at_82) hml
  obtain ⟨rfl, N291q, e291⟩ := hQ291
  have N291 := Fr.app N290 N291q
  obtain ⟨_, T292, Lc292, X292, hQ292, st292⟩ := own_static (y := y_2) X291 hx hZ hown (own_w hw 79 rfl) (own_w hw 80 rfl) (own_w hw 3 rfl) (own_w hw 81 rfl) (own_refJ l Z a0 hw [] ca T287.heap XX287 hc46) e291 (g := (mkF m 87 #[iv p1, iv p2, iv p3, iv p4, iv p5, iv ca, iv cb, iv cc, iv cd, iv (1 : Int32), rv b288, rv b288, iv (0 : Int32)] [(.int ca), (.int ca)])) (argsL := [(.int ca)]) (rest := [(.int ca)]) (W := 1) (lenOf pd_23 rfl) (hb hby at_87) hml
  obtain ⟨rfl, N292q, e292⟩ := hQ292
  have N292 := Fr.app N291 N292q
  obtain ⟨_, T293, Lc293, X293, hQ293, st293⟩ := own_static (y := y_0) X292 hx hZ hown (own_w hw 82 rfl) (own_w hw 83 rfl) (own_w hw 3 rfl) (own_w hw 84 rfl) (own_cap0 l Z a0 hw [] ca T287.heap XX287 hc48) e292 (g := (mkF m 102 #[iv p1, iv p2, iv p3, iv p4, iv p5, iv ca, iv cb, iv cc, iv cd, iv (1 : Int32), rv b288, rv b288, iv (0 : Int32)] [(.int ca)])) (argsL := [(.int ca)]) (rest := []) (W := 0) (lenOf pd_0 rfl) (hb hby at_102) hml
  obtain ⟨rfl, N293q, e293⟩ := hQ293
  have N293 := Fr.app N292 N293q
  obtain ⟨fs, hr, hrun, hended, hW, hsame⟩ := X293.leave (v := some (.int (1 : Int32))) (fun h => by rw [hret] at h; cases h) hlk
  refine ⟨_, _, ?_, hrun, hended, _, _, rfl, ?_, ⟨_, rfl⟩, hW, hsame.mono (by decide) (by decide)⟩
  · show own_S p e below s₁ (mkF m 0 #[iv p1, iv p2, iv p3, iv p4, iv p5, .unset, .unset, .unset, .unset, .unset, .unset, .unset, .unset] []) _
    refine own_iN X0 hx hby at_0 ?_
    refine X0.ldcInt hx hown (mvT hZ (own_w hw 0 rfl)) (g := (mkF m 1 #[iv p1, iv p2, iv p3, iv p4, iv p5, .unset, .unset, .unset, .unset, .unset, .unset, .unset, .unset] [(.int p1)])) rfl (hb hby at_1) _ ?_
    refine XS.iand X0.here hx rfl (hb hby at_3) rfl ?_
    refine XS.i2c X0.here hx rfl (hb hby at_4) rfl ?_
    show own_S p e below s₁ (mkF m 5 #[iv p1, iv p2, iv p3, iv p4, iv p5, .unset, .unset, .unset, .unset, .unset, .unset, .unset, .unset] [(.int ((p1 &&& (65535 : Int32)).toUInt32.toUInt16.toUInt32.toInt32))]) _
    rw [hc41]
    refine XS.istore X0.here hx rfl (hb hby at_5) rfl (l' := #[iv p1, iv p2, iv p3, iv p4, iv p5, iv ca, .unset, .unset, .unset, .unset, .unset, .unset, .unset]) rfl ?_
    refine own_iN X0 hx hby at_7 ?_
    refine X0.ldcInt hx hown (mvT hZ (own_w hw 0 rfl)) (g := (mkF m 8 #[iv p1, iv p2, iv p3, iv p4, iv p5, iv ca, .unset, .unset, .unset, .unset, .unset, .unset, .unset] [(.int p2)])) rfl (hb hby at_8) _ ?_
    refine XS.iand X0.here hx rfl (hb hby at_10) rfl ?_
    refine XS.i2c X0.here hx rfl (hb hby at_11) rfl ?_
    show own_S p e below s₁ (mkF m 12 #[iv p1, iv p2, iv p3, iv p4, iv p5, iv ca, .unset, .unset, .unset, .unset, .unset, .unset, .unset] [(.int ((p2 &&& (65535 : Int32)).toUInt32.toUInt16.toUInt32.toInt32))]) _
    rw [hc42]
    refine XS.istore X0.here hx rfl (hb hby at_12) rfl (l' := #[iv p1, iv p2, iv p3, iv p4, iv p5, iv ca, iv cb, .unset, .unset, .unset, .unset, .unset, .unset]) rfl ?_
    refine own_iN X0 hx hby at_14 ?_
    refine X0.ldcInt hx hown (mvT hZ (own_w hw 0 rfl)) (g := (mkF m 15 #[iv p1, iv p2, iv p3, iv p4, iv p5, iv ca, iv cb, .unset, .unset, .unset, .unset, .unset, .unset] [(.int p3)])) rfl (hb hby at_15) _ ?_
    refine XS.iand X0.here hx rfl (hb hby at_17) rfl ?_
    refine XS.i2c X0.here hx rfl (hb hby at_18) rfl ?_
    show own_S p e below s₁ (mkF m 19 #[iv p1, iv p2, iv p3, iv p4, iv p5, iv ca, iv cb, .unset, .unset, .unset, .unset, .unset, .unset] [(.int ((p3 &&& (65535 : Int32)).toUInt32.toUInt16.toUInt32.toInt32))]) _
    rw [hc43]
    refine XS.istore X0.here hx rfl (hb hby at_19) rfl (l' := #[iv p1, iv p2, iv p3, iv p4, iv p5, iv ca, iv cb, iv cc, .unset, .unset, .unset, .unset, .unset]) rfl ?_
    refine own_iN X0 hx hby at_21 ?_
    refine X0.ldcInt hx hown (mvT hZ (own_w hw 0 rfl)) (g := (mkF m 22 #[iv p1, iv p2, iv p3, iv p4, iv p5, iv ca, iv cb, iv cc, .unset, .unset, .unset, .unset, .unset] [(.int p4)])) rfl (hb hby at_22) _ ?_
    refine XS.iand X0.here hx rfl (hb hby at_24) rfl ?_
    refine XS.i2c X0.here hx rfl (hb hby at_25) rfl ?_
    show own_S p e below s₁ (mkF m 26 #[iv p1, iv p2, iv p3, iv p4, iv p5, iv ca, iv cb, iv cc, .unset, .unset, .unset, .unset, .unset] [(.int ((p4 &&& (65535 : Int32)).toUInt32.toUInt16.toUInt32.toInt32))]) _
    rw [hc44]
    refine XS.istore X0.here hx rfl (hb hby at_26) rfl (l' := #[iv p1, iv p2, iv p3, iv p4, iv p5, iv ca, iv cb, iv cc, iv cd, .unset, .unset, .unset, .unset]) rfl ?_
    refine own_i X0 hx hby at_28 ?_
    refine XS.bipush X0.here hx rfl (hb hby at_30) ?_
    refine XS.iand X0.here hx rfl (hb hby at_32) rfl ?_
    refine own_k X0 hx hby at_33 ?_
    refine iremM X0 hx rfl (hb hby at_34) rfl (by decide) ?_
    show own_S p e below s₁ (mkF m 35 #[iv p1, iv p2, iv p3, iv p4, iv p5, iv ca, iv cb, iv cc, iv cd, .unset, .unset, .unset, .unset] [(.int ((p5 &&& (7 : Int32)) % (5 : Int32)))]) _
    rw [hc45]
    refine XS.istore X0.here hx rfl (hb hby at_35) rfl (l' := #[iv p1, iv p2, iv p3, iv p4, iv p5, iv ca, iv cb, iv cc, iv cd, iv (1 : Int32), .unset, .unset, .unset]) rfl ?_
    refine own_i X0 hx hby at_37 ?_
    refine own_i X0 hx hby at_39 ?_
    refine own_i X0 hx hby at_41 ?_
    refine own_i X0 hx hby at_43 ?_
    refine own_i X0 hx hby at_45 ?_
    refine st287 _ ?_
    refine XS.astore X287.here hx rfl (hb hby at_50) rfl rfl (l' := #[iv p1, iv p2, iv p3, iv p4, iv p5, iv ca, iv cb, iv cc, iv cd, iv (1 : Int32), rv b288, .unset, .unset]) rfl ?_
    refine own_a X287 hx hby at_52 ?_
    refine st289 _ ?_
    refine XS.astore X289.here hx rfl (hb hby at_57) rfl rfl (l' := #[iv p1, iv p2, iv p3, iv p4, iv p5, iv ca, iv cb, iv cc, iv cd, iv (1 : Int32), rv b288, rv b288, .unset]) rfl ?_
    refine own_a X289 hx hby at_59 ?_
    refine st290 _ ?_
    refine own_i X290 hx hby at_64 ?_
    refine own_cy (pc := 66) X290 hx hby at_66 (teq (rfl : (1 : Int32) = (1 : Int32))).1 71 ?_
    refine own_k X290 hx hby at_71 ?_
    refine XS.istore X290.here hx rfl (hb hby at_72) rfl (l' := #[iv p1, iv p2, iv p3, iv p4, iv p5, iv ca, iv cb, iv cc, iv cd, iv (1 : Int32), rv b288, rv b288, iv (0 : Int32)]) rfl ?_
    refine own_i X290 hx hby at_74 ?_
    refine own_in X290 hx hby at_76 (tlt (by decide : (0 : Int32) < (1 : Int32))).2.2.2 ?_
    refine own_a X290 hx hby at_79 ?_
    refine own_k X290 hx hby at_81 ?_
    refine st291 _ ?_
    refine own_i X291 hx hby at_85 ?_
    refine st292 _ ?_
    refine own_cy (pc := 90) X292 hx hby at_90 (teq (Eq.symm hc48)).1 95 ?_
    refine own_i X292 hx hby at_95 ?_
    refine own_in X292 hx hby at_97 (teq (rfl : (0 : Int32) = (0 : Int32))).2 ?_
    refine own_i X292 hx hby at_100 ?_
    refine st293 _ ?_
    refine own_iy (pc := 105) X293 hx hby at_105 (teq (rfl : (0 : Int32) = (0 : Int32))).1 112 ?_
    refine own_k X293 hx hby at_112 ?_
    refine XS.istore X293.here hx rfl (hb hby at_113) rfl (l' := #[iv p1, iv p2, iv p3, iv p4, iv p5, iv ca, iv cb, iv cc, iv cd, iv (1 : Int32), rv b288, rv b288, iv (0 : Int32)]) rfl ?_
    refine own_i X293 hx hby at_115 ?_
    refine own_k X293 hx hby at_117 ?_
    refine own_cy (pc := 118) X293 hx hby at_118 (flt (Int32.lt_irrefl : ¬ ((1 : Int32) < (1 : Int32)))).2.2.2 157 ?_
    refine own_i X293 hx hby at_157 ?_
    refine own_k X293 hx hby at_159 ?_
    refine own_cy (pc := 160) X293 hx hby at_160 (flt (by decide : ¬ ((2 : Int32) < (1 : Int32)))).2.2.2 199 ?_
    refine own_i X293 hx hby at_199 ?_
    refine own_k X293 hx hby at_201 ?_
    refine own_cy (pc := 202) X293 hx hby at_202 (flt (by decide : ¬ ((3 : Int32) < (1 : Int32)))).2.2.2 241 ?_
    refine own_i X293 hx hby at_241 ?_
    refine own_in X293 hx hby at_243 (teq (rfl : (0 : Int32) = (0 : Int32))).2 ?_
    refine own_a X293 hx hby at_246 ?_
    refine own_a X293 hx hby at_248 ?_
    refine Jvm.RoadKit.acmp (g := (mkF m 250 #[iv p1, iv p2, iv p3, iv p4, iv p5, iv ca, iv cb, iv cc, iv cd, iv (1 : Int32), rv b288, rv b288, iv (0 : Int32)] [(.ref b288), (.ref b288)])) X293 hx rfl rfl rfl (pc0 := 250) (pc' := 255) (same := true) rfl (hb hby at_250) rfl (decide_eq_true rfl) (by decide) (by decide) ?_
    refine own_k X293 hx hby at_255 ?_
    exact retN X293 hx (t := .boolean) hret (by simp) (hb hby at_256) hr
  · show Qrm0_1_1 Z w_CS w_SF p1 p2 p3 p4 p5 ca cb cc cd h0 _ T293.heap _
    exact ⟨rfl, N293⟩
def Qrm294 (Z : State) (w_CS ca cb cc cd : Int32) (h0 : Heap) (v : Option Value) (h : Heap) (L : List Loc) : Prop := ∃ b295 : Addr, v = some (.ref b295) ∧ Fr Z.heap.size L ∧ Keep h0 h [] ∧ h0.size ≤ b295 ∧ Exa Z h b295 "java/lang/String" ∧ own_rep Z h b295 [ca, cb]
theorem rm294 (l : Launch) (Z : State) (a0 : Array Value) (hw : own_HW Z a0) (ws : List Jvm.Cond) (w_CS ca cb cc cd : Int32) (h0 : Heap) (Z0 : Ext Z.heap h0) (S_w_CS : own_w_CS Z w_CS) (S_s__assertionsDisabled : own_s__assertionsDisabled Z) (S_s_HI_BYTE_SHIFT : own_s_HI_BYTE_SHIFT Z) (S_s_LO_BYTE_SHIFT : own_s_LO_BYTE_SHIFT Z) (hc46 : own_u16 ca) (hc50 : own_u16 cb) (hc1 : ¬ (w_CS = (0 : Int32))) :
    own_met l y_32 method_4_code 5 (some (.object "java/lang/String")) ws ({ frames := 7, cells := 4, slots := 18, locals := 124 } : Room) Z #[(.int (2 : Int32)), (.int ca), (.int cb), (.int cc), (.int cd)] h0 (Qrm294 Z w_CS ca cb cc cd h0) := by
  refine own_start (plainFor_of_name pn_0) (fun m => ef_method_4_IIIII m (2 : Int32) ca cb cc cd) ?_
  intro p e s m below meth c s₁ hx hby hml hown hnm X0 hZ e0 hret hlk
  have N0 := Fr.nil Z.heap.size
  obtain ⟨T295, h295, X295, e295, E295, A295, D295, -, st295⟩ := newO X0 hx hZ hown (own_w hw 5 rfl) (own_w hw 6 rfl) (own_w hw 7 rfl) e0 (g := (mkF m 40 #[iv (2 : Int32), iv ca, iv cb, iv cc, iv cd] [])) rfl (hb hby d1_40) (by decide) (by decide)
  obtain ⟨b295, g295⟩ : ∃ z, z = h0.size := ⟨_, rfl⟩
  rw [← g295] at A295 D295 st295
  have g_b295 : Z.heap.size ≤ b295 := Nat.le_trans Z0.1 (Nat.le_of_eq g295.symm)
  have sz_b295 : h0.size ≤ b295 := Nat.le_trans (Keep.refl h0 []).1 (Nat.le_of_eq g295.symm)
  have F_b295_value : Fld Z h295 b295 "java/lang/String" "value" "[B" .null := D295 (Or.inr (own_w hw 21 rfl)) (ty := (.array .byte)) (by decide)
  have F_b295_coder : Fld Z h295 b295 "java/lang/String" "coder" "B" (.int (0 : Int32)) := D295 (Or.inr (own_w hw 22 rfl)) (ty := .byte) (by decide)
  have K295 : Keep h0 h295 [] := (Keep.refl h0 []).ext E295
  have XX295 : Ext Z.heap h295 := own_ext2 Z0 E295
  obtain ⟨T296, h296, k296, X296, e296, E296, A296, st296⟩ := newP X295 hx hZ (own_w hw 8 rfl) e295 (g := (mkF m 45 #[iv (2 : Int32), iv ca, iv cb, iv cc, iv cd] [(.int (2 : Int32)), (.ref b295), (.ref b295)])) rfl (hb hby d1_45) rfl (by decide) (cap := 2) (by decide) (by decide) (by decide) (by decide)
  obtain ⟨b296, g296⟩ : ∃ z, z = h295.size := ⟨_, rfl⟩
  rw [← g296] at A296 st296
  have g_b296 : Z.heap.size ≤ b296 := Nat.le_trans XX295.1 (Nat.le_of_eq g296.symm)
  have sz_b296 : h0.size ≤ b296 := Nat.le_trans K295.1 (Nat.le_of_eq g296.symm)
  have V_b296 : Arv Z h296 b296 k296 .char (2 : Int32) [(.int (0 : Int32)), (.int (0 : Int32))] (.int (0 : Int32)) := (Arv.new A296 (by decide)).pad (pad_rep [] (.int (0 : Int32)) 2)
  have K296 : Keep h0 h296 [] := K295.ext E296
  have XX296 : Ext Z.heap h296 := own_ext2 XX295 E296
  obtain ⟨cl297, Ar297, q297, S297, Nn297, H297, G297⟩ := id V_b296
  have hin297 : ¬ ((0 : Int32) < 0 ∨ cl297.slots.size ≤ ((0 : Int32)).toNatClampNeg) := inb_of S297 ⟨by decide, by decide⟩
  obtain ⟨T298, h298, X298, e298, W298, st298⟩ := stC X296 hx hZ e296 Ar297 (j := (0 : Int32)) hin297 (g := (mkF m 50 #[iv (2 : Int32), iv ca, iv cb, iv cc, iv cd] [(.int ca), (.int (0 : Int32)), (.ref b296), (.ref b296), (.ref b295), (.ref b295)])) rfl rfl (hb hby d1_50)
  rw [(own_nc hc46)] at W298
  have V298 : Arv Z h298 b296 k296 .char (2 : Int32) [(.int ca), (.int (0 : Int32))] (.int (0 : Int32)) := Arv.set Ar297 q297 S297 Nn297 H297 G297 (by rw [← (own_nc hc46)]; exact fits_nar_char _) W298 0 rfl (Nat.le_of_ble_eq_true rfl)
  have K298 : Keep h0 h298 [] := K296.wr W298 (Or.inr sz_b296)
  have XX298 : Ext Z.heap h298 := own_extW XX296 W298 g_b296
  have N298 := Fr.snoc X298 N0 g_b296
  obtain ⟨cl299, Ar299, q299, S299, Nn299, H299, G299⟩ := id V298
  have hin299 : ¬ ((1 : Int32) < 0 ∨ cl299.slots.size ≤ ((1 : Int32)).toNatClampNeg) := inb_of S299 ⟨by decide, by decide⟩
  obtain ⟨T300, h300, X300, e300, W300, st300⟩ := stC X298 hx hZ e298 Ar299 (j := (1 : Int32)) hin299 (g := (mkF m 54 #[iv (2 : Int32), iv ca, iv cb, iv cc, iv cd] [(.int cb), (.int (1 : Int32)), (.ref b296), (.ref b296), (.ref b295), (.ref b295)])) rfl rfl (hb hby d1_54)
  rw [(own_nc hc50)] at W300
  have V300 : Arv Z h300 b296 k296 .char (2 : Int32) [(.int ca), (.int cb)] (.int (0 : Int32)) := Arv.set Ar299 q299 S299 Nn299 H299 G299 (by rw [← (own_nc hc50)]; exact fits_nar_char _) W300 1 rfl (Nat.le_of_ble_eq_true rfl)
  have K300 : Keep h0 h300 [] := K298.wr W300 (Or.inr sz_b296)
  have XX300 : Ext Z.heap h300 := own_extW XX298 W300 g_b296
  have N300 := Fr.snoc X300 N298 g_b296
  have ne_b295_b296 : b295 ≠ b296 := Nat.ne_of_lt (Nat.lt_of_lt_of_le A295.lt (Nat.le_of_eq g296.symm))
  have f302_F_b295_coder : Fld Z h300 b295 "java/lang/String" "coder" "B" (.int (0 : Int32)) := (((F_b295_coder.ext E296).other W298 (Or.inl ne_b295_b296)).other W300 (Or.inl ne_b295_b296))
  have f303_F_b295_value : Fld Z h300 b295 "java/lang/String" "value" "[B" .null := (((F_b295_value.ext E296).other W298 (Or.inl ne_b295_b296)).other W300 (Or.inl ne_b295_b296))
  obtain ⟨_, T301, Lc301, X301, hQ301, st301⟩ := own_special (y := y_22) X300 hx hZ hown rfl (own_w hw 9 rfl) (own_w hw 10 rfl) (own_w hw 7 rfl) (own_w hw 11 rfl) (own_initG l Z a0 hw [] w_CS b295 b296 k296 [ca, cb] h300 XX300 S_w_CS S_s__assertionsDisabled S_s_HI_BYTE_SHIFT S_s_LO_BYTE_SHIFT (((A295.ext E296).wr W298).wr W300) f302_F_b295_coder f303_F_b295_value V300 g_b295 hc1 ⟨Nat.le_of_ble_eq_true rfl, Nat.le_of_ble_eq_true rfl⟩ (own_a16_s hc46 (own_a16_s hc50 own_a16_0))) e300 b295 (g := (mkF m 55 #[iv (2 : Int32), iv ca, iv cb, iv cc, iv cd] [(.ref b296), (.ref b295), (.ref b295)])) (argsL := [(.ref b296)]) (rest := [(.ref b295)]) (W := 1) (lenOf pd_25 rfl) (hb hby d1_55) hml
  obtain ⟨rfl, N301q, K301q, q301_E_b295, q301_T_b295⟩ := hQ301
  have K301 : Keep h0 T301.heap [] := K300.trans K301q (allS (Or.inr sz_b295) all0)
  have XX301 : Ext Z.heap T301.heap := own_extK XX300 K301q (allS g_b295 all0)
  have N301 := Fr.app N300 N301q
  obtain ⟨fs, hr, hrun, hended, hW, hsame⟩ := X301.leave (v := some (.ref b295)) (fun h => by rw [hret] at h; cases h) hlk
  refine ⟨_, _, ?_, hrun, hended, _, _, rfl, ?_, ⟨_, rfl⟩, hW, hsame.mono (by decide) (by decide)⟩
  · show own_S p e below s₁ (mkF m 0 #[iv (2 : Int32), iv ca, iv cb, iv cc, iv cd] []) _
    refine own_iN X0 hx hby d1_0 ?_
    refine own_iy (pc := 1) X0 hx hby d1_1 (feq (by decide : ¬ ((2 : Int32) = (0 : Int32)))).2 15 ?_
    refine own_iN X0 hx hby d1_15 ?_
    refine own_k X0 hx hby d1_16 ?_
    refine own_cy (pc := 17) X0 hx hby d1_17 (feq (by decide : ¬ ((2 : Int32) = (1 : Int32)))).2 35 ?_
    refine own_iN X0 hx hby d1_35 ?_
    refine own_k X0 hx hby d1_36 ?_
    refine own_cn X0 hx hby d1_37 (teq (rfl : (2 : Int32) = (2 : Int32))).2 ?_
    refine st295 _ ?_
    refine XS.dup X295.here hx rfl (hb hby d1_43) rfl rfl ?_
    refine own_k X295 hx hby d1_44 ?_
    refine st296 _ ?_
    refine XS.dup X296.here hx rfl (hb hby d1_47) rfl rfl ?_
    refine own_k X296 hx hby d1_48 ?_
    refine own_iN X296 hx hby d1_49 ?_
    refine st298 _ ?_
    refine XS.dup X298.here hx rfl (hb hby d1_51) rfl rfl ?_
    refine own_k X298 hx hby d1_52 ?_
    refine own_iN X298 hx hby d1_53 ?_
    refine st300 _ ?_
    refine st301 _ ?_
    jvm_step X301.here [X301.here.top, hx, (hb hby d1_58), X301.method', hret, Value.isRef, FieldType.isReference]
    first | (intro acts; rw [hr _ acts rfl rfl rfl]) | rw [hr _ _ rfl rfl rfl]
    exact Steps.refl _
  · show Qrm294 Z w_CS ca cb cc cd h0 _ T301.heap _
    exact ⟨b295, rfl, N301, K301, sz_b295, q301_E_b295, q301_T_b295⟩
def Qrm0_2_0 (Z : State) (w_CS : Int32) (w_SF : Value) (p1 p2 p3 p4 p5 ca cb cc cd : Int32) (h0 : Heap) (v : Option Value) (h : Heap) (L : List Loc) : Prop := v = some (.int 1) ∧ Fr Z.heap.size L
theorem rm0_2_0 (l : Launch) (Z : State) (a0 : Array Value) (hw : own_HW Z a0) (ws : List Jvm.Cond) (w_CS : Int32) (w_SF : Value) (p1 p2 p3 p4 p5 ca cb cc cd : Int32) (h0 : Heap) (Z0 : Ext Z.heap h0) (S_w_CS : own_w_CS Z w_CS) (S_s__assertionsDisabled : own_s__assertionsDisabled Z) (S_s_HI_BYTE_SHIFT : own_s_HI_BYTE_SHIFT Z) (S_s_LO_BYTE_SHIFT : own_s_LO_BYTE_SHIFT Z) (R_w_SF : w_SF.isRef = true) (S_w_SF : own_w_SF Z w_SF) (hc41 : ((p1 &&& (65535 : Int32)).toUInt32.toUInt16.toUInt32.toInt32) = ca) (hc42 : ((p2 &&& (65535 : Int32)).toUInt32.toUInt16.toUInt32.toInt32) = cb) (hc43 : ((p3 &&& (65535 : Int32)).toUInt32.toUInt16.toUInt32.toInt32) = cc) (hc44 : ((p4 &&& (65535 : Int32)).toUInt32.toUInt16.toUInt32.toInt32) = cd) (hc49 : ((p5 &&& (7 : Int32)) % (5 : Int32)) = (2 : Int32)) (hc46 : own_u16 ca) (hc50 : own_u16 cb) (hc1 : ¬ (w_CS = (0 : Int32))) (hc47 : ¬ ((own_lo ca) = ca)) :
    own_met l x code maxLocals ret ws room_1 Z #[(.int p1), (.int p2), (.int p3), (.int p4), (.int p5)] h0 (Qrm0_2_0 Z w_CS w_SF p1 p2 p3 p4 p5 ca cb cc cd h0) := by
  refine own_start (plainFor_of_name pn_0) (fun m => ef_code_IIIII m p1 p2 p3 p4 p5) ?_
  intro p e s m below meth c s₁ hx hby hml hown hnm X0 hZ e0 hret hlk
  have N0 := Fr.nil Z.heap.size
  obtain ⟨_, T304, Lc304, X304, hQ304, st304⟩ := own_static (y := y_32) X0 hx hZ hown (own_w hw 1 rfl) (own_w hw 2 rfl) (own_w hw 3 rfl) (own_w hw 4 rfl) (rm294 l Z a0 hw [] w_CS ca cb cc cd h0 Z0 S_w_CS S_s__assertionsDisabled S_s_HI_BYTE_SHIFT S_s_LO_BYTE_SHIFT hc46 hc50 hc1) e0 (g := (mkF m 47 #[iv p1, iv p2, iv p3, iv p4, iv p5, iv ca, iv cb, iv cc, iv cd, iv (2 : Int32), .unset, .unset, .unset] [(.int cd), (.int cc), (.int cb), (.int ca), (.int (2 : Int32))])) (argsL := [(.int (2 : Int32)), (.int ca), (.int cb), (.int cc), (.int cd)]) (rest := []) (W := 0) (lenOf pd_26 rfl) (hb hby at_47) hml
  obtain ⟨b305, rfl, N304q, K304q, szn_b305, q304_E_b305, q304_T_b305⟩ := hQ304
  have g_b305 : Z.heap.size ≤ b305 := Nat.le_trans Z0.1 szn_b305
  have sz_b305 : h0.size ≤ b305 := Nat.le_trans (Keep.refl h0 []).1 szn_b305
  have K304 : Keep h0 T304.heap [] := (Keep.refl h0 []).trans K304q all0
  have XX304 : Ext Z.heap T304.heap := own_extK Z0 K304q all0
  have N304 := Fr.app N0 N304q
  obtain ⟨_, T306, Lc306, X306, hQ306, st306⟩ := own_static (y := y_31) X304 hx hZ hown (own_w hw 27 rfl) (own_w hw 28 rfl) (own_w hw 29 rfl) (own_w hw 30 rfl) (own_lcC l Z a0 hw [] w_CS w_SF b305 [ca, cb] T304.heap XX304 S_w_CS R_w_SF S_w_SF S_s__assertionsDisabled S_s_HI_BYTE_SHIFT S_s_LO_BYTE_SHIFT q304_E_b305 q304_T_b305 ⟨Nat.le_of_ble_eq_true rfl, Nat.le_of_ble_eq_true rfl⟩ (own_a16_s hc46 (own_a16_s hc50 own_a16_0)) hc1 ⟨ca, by simp, hc47⟩) rfl (g := (mkF m 54 #[iv p1, iv p2, iv p3, iv p4, iv p5, iv ca, iv cb, iv cc, iv cd, iv (2 : Int32), rv b305, .unset, .unset] [(.ref b305)])) (argsL := [(.ref b305)]) (rest := []) (W := 0) (lenOf pd_27 rfl) (hb hby at_54) hml
  obtain ⟨b307, rfl, N306q, K306q, szn_b307, q306_E_b307, q306_T_b307⟩ := hQ306
  have g_b307 : Z.heap.size ≤ b307 := Nat.le_trans XX304.1 szn_b307
  have sz_b307 : h0.size ≤ b307 := Nat.le_trans K304.1 szn_b307
  have K306 : Keep h0 T306.heap [] := K304.trans K306q all0
  have XX306 : Ext Z.heap T306.heap := own_extK XX304 K306q all0
  have N306 := Fr.app N304 N306q
  obtain ⟨_, T308, Lc308, X308, hQ308, st308⟩ := own_virtual (y := y_4) X306 hx hZ hown (own_w hw 42 rfl) (own_w hw 32 rfl) (own_w hw 34 rfl) (own_w hw 33 rfl) (own_w hw 7 rfl) (own_w hw 35 rfl) (own_lenG l Z a0 hw [] w_CS b307 [(own_lo ca), (own_lo cb)] T306.heap XX306 S_w_CS q306_E_b307 q306_T_b307 hc1 (Nat.le_of_ble_eq_true rfl)) rfl q306_E_b307 (g := (mkF m 61 #[iv p1, iv p2, iv p3, iv p4, iv p5, iv ca, iv cb, iv cc, iv cd, iv (2 : Int32), rv b305, rv b307, .unset] [(.ref b307)])) (argsL := []) (rest := []) (W := 0) (lenOf pd_21 rfl) (hb hby at_61) hml
  obtain ⟨rfl, N308q, e308⟩ := hQ308
  have N308 := Fr.app N306 N308q
  obtain ⟨_, T309, Lc309, X309, hQ309, st309⟩ := own_virtual (y := y_9) X308 hx hZ hown (own_w hw 78 rfl) (own_w hw 54 rfl) (own_w hw 56 rfl) (own_w hw 55 rfl) (own_w hw 7 rfl) (own_w hw 57 rfl) (own_chG l Z a0 hw [] w_CS w_SF (own_lo ca) b307 [(own_lo ca), (own_lo cb)] (0 : Int32) T306.heap XX306 S_w_CS R_w_SF S_w_SF S_s__assertionsDisabled S_s_HI_BYTE_SHIFT S_s_LO_BYTE_SHIFT q306_E_b307 q306_T_b307 hc1 (own_u16_lo hc46) ⟨by decide, (by decide : (0 : Int32) < (2 : Int32)), rfl, Nat.le_of_ble_eq_true rfl⟩) e308 q306_E_b307 (g := (mkF m 82 #[iv p1, iv p2, iv p3, iv p4, iv p5, iv ca, iv cb, iv cc, iv cd, iv (2 : Int32), rv b305, rv b307, iv (0 : Int32)] [(.int (0 : Int32)), (.ref b307)])) (argsL := [(.int (0 : Int32))]) (rest := []) (W := 0) (lenOf pd_22 rfl) (hb hby at_82) hml
  obtain ⟨rfl, N309q, e309⟩ := hQ309
  have N309 := Fr.app N308 N309q
  obtain ⟨_, T310, Lc310, X310, hQ310, st310⟩ := own_static (y := y_2) X309 hx hZ hown (own_w hw 79 rfl) (own_w hw 80 rfl) (own_w hw 3 rfl) (own_w hw 81 rfl) (own_refJ l Z a0 hw [] ca T306.heap XX306 hc46) e309 (g := (mkF m 87 #[iv p1, iv p2, iv p3, iv p4, iv p5, iv ca, iv cb, iv cc, iv cd, iv (2 : Int32), rv b305, rv b307, iv (0 : Int32)] [(.int ca), (.int (own_lo ca))])) (argsL := [(.int ca)]) (rest := [(.int (own_lo ca))]) (W := 1) (lenOf pd_23 rfl) (hb hby at_87) hml
  obtain ⟨rfl, N310q, e310⟩ := hQ310
  have N310 := Fr.app N309 N310q
  obtain ⟨_, T311, Lc311, X311, hQ311, st311⟩ := own_static (y := y_0) X310 hx hZ hown (own_w hw 82 rfl) (own_w hw 83 rfl) (own_w hw 3 rfl) (own_w hw 84 rfl) (own_cap1 l Z a0 hw [] ca T306.heap XX306 hc47) e310 (g := (mkF m 102 #[iv p1, iv p2, iv p3, iv p4, iv p5, iv ca, iv cb, iv cc, iv cd, iv (2 : Int32), rv b305, rv b307, iv (0 : Int32)] [(.int ca)])) (argsL := [(.int ca)]) (rest := []) (W := 0) (lenOf pd_0 rfl) (hb hby at_102) hml
  obtain ⟨rfl, N311q, e311⟩ := hQ311
  have N311 := Fr.app N310 N311q
  obtain ⟨_, T312, Lc312, X312, hQ312, st312⟩ := own_virtual (y := y_9) X311 hx hZ hown (own_w hw 78 rfl) (own_w hw 54 rfl) (own_w hw 56 rfl) (own_w hw 55 rfl) (own_w hw 7 rfl) (own_w hw 57 rfl) (own_chG l Z a0 hw [] w_CS w_SF (own_lo cb) b307 [(own_lo ca), (own_lo cb)] (1 : Int32) T306.heap XX306 S_w_CS R_w_SF S_w_SF S_s__assertionsDisabled S_s_HI_BYTE_SHIFT S_s_LO_BYTE_SHIFT q306_E_b307 q306_T_b307 hc1 (own_u16_lo hc50) ⟨by decide, (by decide : (1 : Int32) < (2 : Int32)), rfl, Nat.le_of_ble_eq_true rfl⟩) e311 q306_E_b307 (g := (mkF m 124 #[iv p1, iv p2, iv p3, iv p4, iv p5, iv ca, iv cb, iv cc, iv cd, iv (2 : Int32), rv b305, rv b307, iv (1 : Int32)] [(.int (1 : Int32)), (.ref b307)])) (argsL := [(.int (1 : Int32))]) (rest := []) (W := 0) (lenOf pd_22 rfl) (hb hby at_124) hml
  obtain ⟨rfl, N312q, e312⟩ := hQ312
  have N312 := Fr.app N311 N312q
  obtain ⟨_, T313, Lc313, X313, hQ313, st313⟩ := own_static (y := y_2) X312 hx hZ hown (own_w hw 79 rfl) (own_w hw 80 rfl) (own_w hw 3 rfl) (own_w hw 81 rfl) (own_refJ l Z a0 hw [] cb T306.heap XX306 hc50) e312 (g := (mkF m 129 #[iv p1, iv p2, iv p3, iv p4, iv p5, iv ca, iv cb, iv cc, iv cd, iv (2 : Int32), rv b305, rv b307, iv (1 : Int32)] [(.int cb), (.int (own_lo cb))])) (argsL := [(.int cb)]) (rest := [(.int (own_lo cb))]) (W := 1) (lenOf pd_23 rfl) (hb hby at_129) hml
  obtain ⟨rfl, N313q, e313⟩ := hQ313
  have N313 := Fr.app N312 N313q
  obtain ⟨fs, hr, hrun, hended, hW, hsame⟩ := X313.leave (v := some (.int (1 : Int32))) (fun h => by rw [hret] at h; cases h) hlk
  refine ⟨_, _, ?_, hrun, hended, _, _, rfl, ?_, ⟨_, rfl⟩, hW, hsame.mono (by decide) (by decide)⟩
  · show own_S p e below s₁ (mkF m 0 #[iv p1, iv p2, iv p3, iv p4, iv p5, .unset, .unset, .unset, .unset, .unset, .unset, .unset, .unset] []) _
    refine own_iN X0 hx hby at_0 ?_
    refine X0.ldcInt hx hown (mvT hZ (own_w hw 0 rfl)) (g := (mkF m 1 #[iv p1, iv p2, iv p3, iv p4, iv p5, .unset, .unset, .unset, .unset, .unset, .unset, .unset, .unset] [(.int p1)])) rfl (hb hby at_1) _ ?_
    refine XS.iand X0.here hx rfl (hb hby at_3) rfl ?_
    refine XS.i2c X0.here hx rfl (hb hby at_4) rfl ?_
    show own_S p e below s₁ (mkF m 5 #[iv p1, iv p2, iv p3, iv p4, iv p5, .unset, .unset, .unset, .unset, .unset, .unset, .unset, .unset] [(.int ((p1 &&& (65535 : Int32)).toUInt32.toUInt16.toUInt32.toInt32))]) _
    rw [hc41]
    refine XS.istore X0.here hx rfl (hb hby at_5) rfl (l' := #[iv p1, iv p2, iv p3, iv p4, iv p5, iv ca, .unset, .unset, .unset, .unset, .unset, .unset, .unset]) rfl ?_
    refine own_iN X0 hx hby at_7 ?_
    refine X0.ldcInt hx hown (mvT hZ (own_w hw 0 rfl)) (g := (mkF m 8 #[iv p1, iv p2, iv p3, iv p4, iv p5, iv ca, .unset, .unset, .unset, .unset, .unset, .unset, .unset] [(.int p2)])) rfl (hb hby at_8) _ ?_
    refine XS.iand X0.here hx rfl (hb hby at_10) rfl ?_
    refine XS.i2c X0.here hx rfl (hb hby at_11) rfl ?_
    show own_S p e below s₁ (mkF m 12 #[iv p1, iv p2, iv p3, iv p4, iv p5, iv ca, .unset, .unset, .unset, .unset, .unset, .unset, .unset] [(.int ((p2 &&& (65535 : Int32)).toUInt32.toUInt16.toUInt32.toInt32))]) _
    rw [hc42]
    refine XS.istore X0.here hx rfl (hb hby at_12) rfl (l' := #[iv p1, iv p2, iv p3, iv p4, iv p5, iv ca, iv cb, .unset, .unset, .unset, .unset, .unset, .unset]) rfl ?_
    refine own_iN X0 hx hby at_14 ?_
    refine X0.ldcInt hx hown (mvT hZ (own_w hw 0 rfl)) (g := (mkF m 15 #[iv p1, iv p2, iv p3, iv p4, iv p5, iv ca, iv cb, .unset, .unset, .unset, .unset, .unset, .unset] [(.int p3)])) rfl (hb hby at_15) _ ?_
    refine XS.iand X0.here hx rfl (hb hby at_17) rfl ?_
    refine XS.i2c X0.here hx rfl (hb hby at_18) rfl ?_
    show own_S p e below s₁ (mkF m 19 #[iv p1, iv p2, iv p3, iv p4, iv p5, iv ca, iv cb, .unset, .unset, .unset, .unset, .unset, .unset] [(.int ((p3 &&& (65535 : Int32)).toUInt32.toUInt16.toUInt32.toInt32))]) _
    rw [hc43]
    refine XS.istore X0.here hx rfl (hb hby at_19) rfl (l' := #[iv p1, iv p2, iv p3, iv p4, iv p5, iv ca, iv cb, iv cc, .unset, .unset, .unset, .unset, .unset]) rfl ?_
    refine own_iN X0 hx hby at_21 ?_
    refine X0.ldcInt hx hown (mvT hZ (own_w hw 0 rfl)) (g := (mkF m 22 #[iv p1, iv p2, iv p3, iv p4, iv p5, iv ca, iv cb, iv cc, .unset, .unset, .unset, .unset, .unset] [(.int p4)])) rfl (hb hby at_22) _ ?_
    refine XS.iand X0.here hx rfl (hb hby at_24) rfl ?_
    refine XS.i2c X0.here hx rfl (hb hby at_25) rfl ?_
    show own_S p e below s₁ (mkF m 26 #[iv p1, iv p2, iv p3, iv p4, iv p5, iv ca, iv cb, iv cc, .unset, .unset, .unset, .unset, .unset] [(.int ((p4 &&& (65535 : Int32)).toUInt32.toUInt16.toUInt32.toInt32))]) _
    rw [hc44]
    refine XS.istore X0.here hx rfl (hb hby at_26) rfl (l' := #[iv p1, iv p2, iv p3, iv p4, iv p5, iv ca, iv cb, iv cc, iv cd, .unset, .unset, .unset, .unset]) rfl ?_
    refine own_i X0 hx hby at_28 ?_
    refine XS.bipush X0.here hx rfl (hb hby at_30) ?_
    refine XS.iand X0.here hx rfl (hb hby at_32) rfl ?_
    refine own_k X0 hx hby at_33 ?_
    refine iremM X0 hx rfl (hb hby at_34) rfl (by decide) ?_
    show own_S p e below s₁ (mkF m 35 #[iv p1, iv p2, iv p3, iv p4, iv p5, iv ca, iv cb, iv cc, iv cd, .unset, .unset, .unset, .unset] [(.int ((p5 &&& (7 : Int32)) % (5 : Int32)))]) _
    rw [hc49]
    refine XS.istore X0.here hx rfl (hb hby at_35) rfl (l' := #[iv p1, iv p2, iv p3, iv p4, iv p5, iv ca, iv cb, iv cc, iv cd, iv (2 : Int32), .unset, .unset, .unset]) rfl ?_
    refine own_i X0 hx hby at_37 ?_
    refine own_i X0 hx hby at_39 ?_
    refine own_i X0 hx hby at_41 ?_
    refine own_i X0 hx hby at_43 ?_
    refine own_i X0 hx hby at_45 ?_
    refine st304 _ ?_
    refine XS.astore X304.here hx rfl (hb hby at_50) rfl rfl (l' := #[iv p1, iv p2, iv p3, iv p4, iv p5, iv ca, iv cb, iv cc, iv cd, iv (2 : Int32), rv b305, .unset, .unset]) rfl ?_
    refine own_a X304 hx hby at_52 ?_
    refine st306 _ ?_
    refine XS.astore X306.here hx rfl (hb hby at_57) rfl rfl (l' := #[iv p1, iv p2, iv p3, iv p4, iv p5, iv ca, iv cb, iv cc, iv cd, iv (2 : Int32), rv b305, rv b307, .unset]) rfl ?_
    refine own_a X306 hx hby at_59 ?_
    refine st308 _ ?_
    refine own_i X308 hx hby at_64 ?_
    refine own_cy (pc := 66) X308 hx hby at_66 (teq (rfl : (2 : Int32) = (2 : Int32))).1 71 ?_
    refine own_k X308 hx hby at_71 ?_
    refine XS.istore X308.here hx rfl (hb hby at_72) rfl (l' := #[iv p1, iv p2, iv p3, iv p4, iv p5, iv ca, iv cb, iv cc, iv cd, iv (2 : Int32), rv b305, rv b307, iv (0 : Int32)]) rfl ?_
    refine own_i X308 hx hby at_74 ?_
    refine own_in X308 hx hby at_76 (tlt (by decide : (0 : Int32) < (2 : Int32))).2.2.2 ?_
    refine own_a X308 hx hby at_79 ?_
    refine own_k X308 hx hby at_81 ?_
    refine st309 _ ?_
    refine own_i X309 hx hby at_85 ?_
    refine st310 _ ?_
    refine own_cy (pc := 90) X310 hx hby at_90 (teq (rfl : (own_lo ca) = (own_lo ca))).1 95 ?_
    refine own_i X310 hx hby at_95 ?_
    refine own_in X310 hx hby at_97 (teq (rfl : (0 : Int32) = (0 : Int32))).2 ?_
    refine own_i X310 hx hby at_100 ?_
    refine st311 _ ?_
    refine own_in X311 hx hby at_105 (feq (by decide : ¬ ((1 : Int32) = (0 : Int32)))).1 ?_
    refine own_k X311 hx hby at_108 ?_
    refine own_go (pc := 109) X311 hx hby at_109 113 ?_
    refine XS.istore X311.here hx rfl (hb hby at_113) rfl (l' := #[iv p1, iv p2, iv p3, iv p4, iv p5, iv ca, iv cb, iv cc, iv cd, iv (2 : Int32), rv b305, rv b307, iv (1 : Int32)]) rfl ?_
    refine own_i X311 hx hby at_115 ?_
    refine own_k X311 hx hby at_117 ?_
    refine own_cn X311 hx hby at_118 (tlt (by decide : (1 : Int32) < (2 : Int32))).2.2.2 ?_
    refine own_a X311 hx hby at_121 ?_
    refine own_k X311 hx hby at_123 ?_
    refine st312 _ ?_
    refine own_i X312 hx hby at_127 ?_
    refine st313 _ ?_
    refine own_cy (pc := 132) X313 hx hby at_132 (teq (rfl : (own_lo cb) = (own_lo cb))).1 137 ?_
    refine own_i X313 hx hby at_137 ?_
    refine own_iy (pc := 139) X313 hx hby at_139 (feq (by decide : ¬ ((1 : Int32) = (0 : Int32)))).2 150 ?_
    refine own_k X313 hx hby at_150 ?_
    refine own_go (pc := 151) X313 hx hby at_151 155 ?_
    refine XS.istore X313.here hx rfl (hb hby at_155) rfl (l' := #[iv p1, iv p2, iv p3, iv p4, iv p5, iv ca, iv cb, iv cc, iv cd, iv (2 : Int32), rv b305, rv b307, iv (1 : Int32)]) rfl ?_
    refine own_i X313 hx hby at_157 ?_
    refine own_k X313 hx hby at_159 ?_
    refine own_cy (pc := 160) X313 hx hby at_160 (flt (Int32.lt_irrefl : ¬ ((2 : Int32) < (2 : Int32)))).2.2.2 199 ?_
    refine own_i X313 hx hby at_199 ?_
    refine own_k X313 hx hby at_201 ?_
    refine own_cy (pc := 202) X313 hx hby at_202 (flt (by decide : ¬ ((3 : Int32) < (2 : Int32)))).2.2.2 241 ?_
    refine own_i X313 hx hby at_241 ?_
    refine own_iy (pc := 243) X313 hx hby at_243 (feq (by decide : ¬ ((1 : Int32) = (0 : Int32)))).2 255 ?_
    refine own_k X313 hx hby at_255 ?_
    exact retN X313 hx (t := .boolean) hret (by simp) (hb hby at_256) hr
  · show Qrm0_2_0 Z w_CS w_SF p1 p2 p3 p4 p5 ca cb cc cd h0 _ T313.heap _
    exact ⟨rfl, N313⟩
def Qrm0_2_1 (Z : State) (w_CS : Int32) (w_SF : Value) (p1 p2 p3 p4 p5 ca cb cc cd : Int32) (h0 : Heap) (v : Option Value) (h : Heap) (L : List Loc) : Prop := v = some (.int 1) ∧ Fr Z.heap.size L
theorem rm0_2_1 (l : Launch) (Z : State) (a0 : Array Value) (hw : own_HW Z a0) (ws : List Jvm.Cond) (w_CS : Int32) (w_SF : Value) (p1 p2 p3 p4 p5 ca cb cc cd : Int32) (h0 : Heap) (Z0 : Ext Z.heap h0) (S_w_CS : own_w_CS Z w_CS) (S_s__assertionsDisabled : own_s__assertionsDisabled Z) (S_s_HI_BYTE_SHIFT : own_s_HI_BYTE_SHIFT Z) (S_s_LO_BYTE_SHIFT : own_s_LO_BYTE_SHIFT Z) (R_w_SF : w_SF.isRef = true) (S_w_SF : own_w_SF Z w_SF) (hc41 : ((p1 &&& (65535 : Int32)).toUInt32.toUInt16.toUInt32.toInt32) = ca) (hc42 : ((p2 &&& (65535 : Int32)).toUInt32.toUInt16.toUInt32.toInt32) = cb) (hc43 : ((p3 &&& (65535 : Int32)).toUInt32.toUInt16.toUInt32.toInt32) = cc) (hc44 : ((p4 &&& (65535 : Int32)).toUInt32.toUInt16.toUInt32.toInt32) = cd) (hc49 : ((p5 &&& (7 : Int32)) % (5 : Int32)) = (2 : Int32)) (hc46 : own_u16 ca) (hc50 : own_u16 cb) (hc1 : ¬ (w_CS = (0 : Int32))) (hc51 : ¬ ((own_lo cb) = cb)) (hc48 : (own_lo ca) = ca) :
    own_met l x code maxLocals ret ws room_1 Z #[(.int p1), (.int p2), (.int p3), (.int p4), (.int p5)] h0 (Qrm0_2_1 Z w_CS w_SF p1 p2 p3 p4 p5 ca cb cc cd h0) := by
  refine own_start (plainFor_of_name pn_0) (fun m => ef_code_IIIII m p1 p2 p3 p4 p5) ?_
  intro p e s m below meth c s₁ hx hby hml hown hnm X0 hZ e0 hret hlk
  have N0 := Fr.nil Z.heap.size
  obtain ⟨_, T314, Lc314, X314, hQ314, st314⟩ := own_static (y := y_32) X0 hx hZ hown (own_w hw 1 rfl) (own_w hw 2 rfl) (own_w hw 3 rfl) (own_w hw 4 rfl) (rm294 l Z a0 hw [] w_CS ca cb cc cd h0 Z0 S_w_CS S_s__assertionsDisabled S_s_HI_BYTE_SHIFT S_s_LO_BYTE_SHIFT hc46 hc50 hc1) e0 (g := (mkF m 47 #[iv p1, iv p2, iv p3, iv p4, iv p5, iv ca, iv cb, iv cc, iv cd, iv (2 : Int32), .unset, .unset, .unset] [(.int cd), (.int cc), (.int cb), (.int ca), (.int (2 : Int32))])) (argsL := [(.int (2 : Int32)), (.int ca), (.int cb), (.int cc), (.int cd)]) (rest := []) (W := 0) (lenOf pd_26 rfl) (hb hby at_47) hml
  obtain ⟨b315, rfl, N314q, K314q, szn_b315, q314_E_b315, q314_T_b315⟩ := hQ314
  have g_b315 : Z.heap.size ≤ b315 := Nat.le_trans Z0.1 szn_b315
  have sz_b315 : h0.size ≤ b315 := Nat.le_trans (Keep.refl h0 []).1 szn_b315
  have K314 : Keep h0 T314.heap [] := (Keep.refl h0 []).trans K314q all0
  have XX314 : Ext Z.heap T314.heap := own_extK Z0 K314q all0
  have N314 := Fr.app N0 N314q
  obtain ⟨_, T316, Lc316, X316, hQ316, st316⟩ := own_static (y := y_31) X314 hx hZ hown (own_w hw 27 rfl) (own_w hw 28 rfl) (own_w hw 29 rfl) (own_w hw 30 rfl) (own_lcC l Z a0 hw [] w_CS w_SF b315 [ca, cb] T314.heap XX314 S_w_CS R_w_SF S_w_SF S_s__assertionsDisabled S_s_HI_BYTE_SHIFT S_s_LO_BYTE_SHIFT q314_E_b315 q314_T_b315 ⟨Nat.le_of_ble_eq_true rfl, Nat.le_of_ble_eq_true rfl⟩ (own_a16_s hc46 (own_a16_s hc50 own_a16_0)) hc1 ⟨cb, by simp, hc51⟩) rfl (g := (mkF m 54 #[iv p1, iv p2, iv p3, iv p4, iv p5, iv ca, iv cb, iv cc, iv cd, iv (2 : Int32), rv b315, .unset, .unset] [(.ref b315)])) (argsL := [(.ref b315)]) (rest := []) (W := 0) (lenOf pd_27 rfl) (hb hby at_54) hml
  obtain ⟨b317, rfl, N316q, K316q, szn_b317, q316_E_b317, q316_T_b317⟩ := hQ316
  have g_b317 : Z.heap.size ≤ b317 := Nat.le_trans XX314.1 szn_b317
  have sz_b317 : h0.size ≤ b317 := Nat.le_trans K314.1 szn_b317
  have K316 : Keep h0 T316.heap [] := K314.trans K316q all0
  have XX316 : Ext Z.heap T316.heap := own_extK XX314 K316q all0
  have N316 := Fr.app N314 N316q
  obtain ⟨_, T318, Lc318, X318, hQ318, st318⟩ := own_virtual (y := y_4) X316 hx hZ hown (own_w hw 42 rfl) (own_w hw 32 rfl) (own_w hw 34 rfl) (own_w hw 33 rfl) (own_w hw 7 rfl) (own_w hw 35 rfl) (own_lenG l Z a0 hw [] w_CS b317 [(own_lo ca), (own_lo cb)] T316.heap XX316 S_w_CS q316_E_b317 q316_T_b317 hc1 (Nat.le_of_ble_eq_true rfl)) rfl q316_E_b317 (g := (mkF m 61 #[iv p1, iv p2, iv p3, iv p4, iv p5, iv ca, iv cb, iv cc, iv cd, iv (2 : Int32), rv b315, rv b317, .unset] [(.ref b317)])) (argsL := []) (rest := []) (W := 0) (lenOf pd_21 rfl) (hb hby at_61) hml
  obtain ⟨rfl, N318q, e318⟩ := hQ318
  have N318 := Fr.app N316 N318q
  obtain ⟨_, T319, Lc319, X319, hQ319, st319⟩ := own_virtual (y := y_9) X318 hx hZ hown (own_w hw 78 rfl) (own_w hw 54 rfl) (own_w hw 56 rfl) (own_w hw 55 rfl) (own_w hw 7 rfl) (own_w hw 57 rfl) (own_chG l Z a0 hw [] w_CS w_SF (own_lo ca) b317 [(own_lo ca), (own_lo cb)] (0 : Int32) T316.heap XX316 S_w_CS R_w_SF S_w_SF S_s__assertionsDisabled S_s_HI_BYTE_SHIFT S_s_LO_BYTE_SHIFT q316_E_b317 q316_T_b317 hc1 (own_u16_lo hc46) ⟨by decide, (by decide : (0 : Int32) < (2 : Int32)), rfl, Nat.le_of_ble_eq_true rfl⟩) e318 q316_E_b317 (g := (mkF m 82 #[iv p1, iv p2, iv p3, iv p4, iv p5, iv ca, iv cb, iv cc, iv cd, iv (2 : Int32), rv b315, rv b317, iv (0 : Int32)] [(.int (0 : Int32)), (.ref b317)])) (argsL := [(.int (0 : Int32))]) (rest := []) (W := 0) (lenOf pd_22 rfl) (hb hby at_82) hml
  obtain ⟨rfl, N319q, e319⟩ := hQ319
  have N319 := Fr.app N318 N319q
  obtain ⟨_, T320, Lc320, X320, hQ320, st320⟩ := own_static (y := y_2) X319 hx hZ hown (own_w hw 79 rfl) (own_w hw 80 rfl) (own_w hw 3 rfl) (own_w hw 81 rfl) (own_refJ l Z a0 hw [] ca T316.heap XX316 hc46) e319 (g := (mkF m 87 #[iv p1, iv p2, iv p3, iv p4, iv p5, iv ca, iv cb, iv cc, iv cd, iv (2 : Int32), rv b315, rv b317, iv (0 : Int32)] [(.int ca), (.int (own_lo ca))])) (argsL := [(.int ca)]) (rest := [(.int (own_lo ca))]) (W := 1) (lenOf pd_23 rfl) (hb hby at_87) hml
  obtain ⟨rfl, N320q, e320⟩ := hQ320
  have N320 := Fr.app N319 N320q
  obtain ⟨_, T321, Lc321, X321, hQ321, st321⟩ := own_static (y := y_0) X320 hx hZ hown (own_w hw 82 rfl) (own_w hw 83 rfl) (own_w hw 3 rfl) (own_w hw 84 rfl) (own_cap0 l Z a0 hw [] ca T316.heap XX316 hc48) e320 (g := (mkF m 102 #[iv p1, iv p2, iv p3, iv p4, iv p5, iv ca, iv cb, iv cc, iv cd, iv (2 : Int32), rv b315, rv b317, iv (0 : Int32)] [(.int ca)])) (argsL := [(.int ca)]) (rest := []) (W := 0) (lenOf pd_0 rfl) (hb hby at_102) hml
  obtain ⟨rfl, N321q, e321⟩ := hQ321
  have N321 := Fr.app N320 N321q
  obtain ⟨_, T322, Lc322, X322, hQ322, st322⟩ := own_virtual (y := y_9) X321 hx hZ hown (own_w hw 78 rfl) (own_w hw 54 rfl) (own_w hw 56 rfl) (own_w hw 55 rfl) (own_w hw 7 rfl) (own_w hw 57 rfl) (own_chG l Z a0 hw [] w_CS w_SF (own_lo cb) b317 [(own_lo ca), (own_lo cb)] (1 : Int32) T316.heap XX316 S_w_CS R_w_SF S_w_SF S_s__assertionsDisabled S_s_HI_BYTE_SHIFT S_s_LO_BYTE_SHIFT q316_E_b317 q316_T_b317 hc1 (own_u16_lo hc50) ⟨by decide, (by decide : (1 : Int32) < (2 : Int32)), rfl, Nat.le_of_ble_eq_true rfl⟩) e321 q316_E_b317 (g := (mkF m 124 #[iv p1, iv p2, iv p3, iv p4, iv p5, iv ca, iv cb, iv cc, iv cd, iv (2 : Int32), rv b315, rv b317, iv (0 : Int32)] [(.int (1 : Int32)), (.ref b317)])) (argsL := [(.int (1 : Int32))]) (rest := []) (W := 0) (lenOf pd_22 rfl) (hb hby at_124) hml
  obtain ⟨rfl, N322q, e322⟩ := hQ322
  have N322 := Fr.app N321 N322q
  obtain ⟨_, T323, Lc323, X323, hQ323, st323⟩ := own_static (y := y_2) X322 hx hZ hown (own_w hw 79 rfl) (own_w hw 80 rfl) (own_w hw 3 rfl) (own_w hw 81 rfl) (own_refJ l Z a0 hw [] cb T316.heap XX316 hc50) e322 (g := (mkF m 129 #[iv p1, iv p2, iv p3, iv p4, iv p5, iv ca, iv cb, iv cc, iv cd, iv (2 : Int32), rv b315, rv b317, iv (0 : Int32)] [(.int cb), (.int (own_lo cb))])) (argsL := [(.int cb)]) (rest := [(.int (own_lo cb))]) (W := 1) (lenOf pd_23 rfl) (hb hby at_129) hml
  obtain ⟨rfl, N323q, e323⟩ := hQ323
  have N323 := Fr.app N322 N323q
  obtain ⟨_, T324, Lc324, X324, hQ324, st324⟩ := own_static (y := y_0) X323 hx hZ hown (own_w hw 82 rfl) (own_w hw 83 rfl) (own_w hw 3 rfl) (own_w hw 84 rfl) (own_cap1 l Z a0 hw [] cb T316.heap XX316 hc51) e323 (g := (mkF m 144 #[iv p1, iv p2, iv p3, iv p4, iv p5, iv ca, iv cb, iv cc, iv cd, iv (2 : Int32), rv b315, rv b317, iv (0 : Int32)] [(.int cb)])) (argsL := [(.int cb)]) (rest := []) (W := 0) (lenOf pd_0 rfl) (hb hby at_144) hml
  obtain ⟨rfl, N324q, e324⟩ := hQ324
  have N324 := Fr.app N323 N324q
  obtain ⟨fs, hr, hrun, hended, hW, hsame⟩ := X324.leave (v := some (.int (1 : Int32))) (fun h => by rw [hret] at h; cases h) hlk
  refine ⟨_, _, ?_, hrun, hended, _, _, rfl, ?_, ⟨_, rfl⟩, hW, hsame.mono (by decide) (by decide)⟩
  · show own_S p e below s₁ (mkF m 0 #[iv p1, iv p2, iv p3, iv p4, iv p5, .unset, .unset, .unset, .unset, .unset, .unset, .unset, .unset] []) _
    refine own_iN X0 hx hby at_0 ?_
    refine X0.ldcInt hx hown (mvT hZ (own_w hw 0 rfl)) (g := (mkF m 1 #[iv p1, iv p2, iv p3, iv p4, iv p5, .unset, .unset, .unset, .unset, .unset, .unset, .unset, .unset] [(.int p1)])) rfl (hb hby at_1) _ ?_
    refine XS.iand X0.here hx rfl (hb hby at_3) rfl ?_
    refine XS.i2c X0.here hx rfl (hb hby at_4) rfl ?_
    show own_S p e below s₁ (mkF m 5 #[iv p1, iv p2, iv p3, iv p4, iv p5, .unset, .unset, .unset, .unset, .unset, .unset, .unset, .unset] [(.int ((p1 &&& (65535 : Int32)).toUInt32.toUInt16.toUInt32.toInt32))]) _
    rw [hc41]
    refine XS.istore X0.here hx rfl (hb hby at_5) rfl (l' := #[iv p1, iv p2, iv p3, iv p4, iv p5, iv ca, .unset, .unset, .unset, .unset, .unset, .unset, .unset]) rfl ?_
    refine own_iN X0 hx hby at_7 ?_
    refine X0.ldcInt hx hown (mvT hZ (own_w hw 0 rfl)) (g := (mkF m 8 #[iv p1, iv p2, iv p3, iv p4, iv p5, iv ca, .unset, .unset, .unset, .unset, .unset, .unset, .unset] [(.int p2)])) rfl (hb hby at_8) _ ?_
    refine XS.iand X0.here hx rfl (hb hby at_10) rfl ?_
    refine XS.i2c X0.here hx rfl (hb hby at_11) rfl ?_
    show own_S p e below s₁ (mkF m 12 #[iv p1, iv p2, iv p3, iv p4, iv p5, iv ca, .unset, .unset, .unset, .unset, .unset, .unset, .unset] [(.int ((p2 &&& (65535 : Int32)).toUInt32.toUInt16.toUInt32.toInt32))]) _
    rw [hc42]
    refine XS.istore X0.here hx rfl (hb hby at_12) rfl (l' := #[iv p1, iv p2, iv p3, iv p4, iv p5, iv ca, iv cb, .unset, .unset, .unset, .unset, .unset, .unset]) rfl ?_
    refine own_iN X0 hx hby at_14 ?_
    refine X0.ldcInt hx hown (mvT hZ (own_w hw 0 rfl)) (g := (mkF m 15 #[iv p1, iv p2, iv p3, iv p4, iv p5, iv ca, iv cb, .unset, .unset, .unset, .unset, .unset, .unset] [(.int p3)])) rfl (hb hby at_15) _ ?_
    refine XS.iand X0.here hx rfl (hb hby at_17) rfl ?_
    refine XS.i2c X0.here hx rfl (hb hby at_18) rfl ?_
    show own_S p e below s₁ (mkF m 19 #[iv p1, iv p2, iv p3, iv p4, iv p5, iv ca, iv cb, .unset, .unset, .unset, .unset, .unset, .unset] [(.int ((p3 &&& (65535 : Int32)).toUInt32.toUInt16.toUInt32.toInt32))]) _
    rw [hc43]
    refine XS.istore X0.here hx rfl (hb hby at_19) rfl (l' := #[iv p1, iv p2, iv p3, iv p4, iv p5, iv ca, iv cb, iv cc, .unset, .unset, .unset, .unset, .unset]) rfl ?_
    refine own_iN X0 hx hby at_21 ?_
    refine X0.ldcInt hx hown (mvT hZ (own_w hw 0 rfl)) (g := (mkF m 22 #[iv p1, iv p2, iv p3, iv p4, iv p5, iv ca, iv cb, iv cc, .unset, .unset, .unset, .unset, .unset] [(.int p4)])) rfl (hb hby at_22) _ ?_
    refine XS.iand X0.here hx rfl (hb hby at_24) rfl ?_
    refine XS.i2c X0.here hx rfl (hb hby at_25) rfl ?_
    show own_S p e below s₁ (mkF m 26 #[iv p1, iv p2, iv p3, iv p4, iv p5, iv ca, iv cb, iv cc, .unset, .unset, .unset, .unset, .unset] [(.int ((p4 &&& (65535 : Int32)).toUInt32.toUInt16.toUInt32.toInt32))]) _
    rw [hc44]
    refine XS.istore X0.here hx rfl (hb hby at_26) rfl (l' := #[iv p1, iv p2, iv p3, iv p4, iv p5, iv ca, iv cb, iv cc, iv cd, .unset, .unset, .unset, .unset]) rfl ?_
    refine own_i X0 hx hby at_28 ?_
    refine XS.bipush X0.here hx rfl (hb hby at_30) ?_
    refine XS.iand X0.here hx rfl (hb hby at_32) rfl ?_
    refine own_k X0 hx hby at_33 ?_
    refine iremM X0 hx rfl (hb hby at_34) rfl (by decide) ?_
    show own_S p e below s₁ (mkF m 35 #[iv p1, iv p2, iv p3, iv p4, iv p5, iv ca, iv cb, iv cc, iv cd, .unset, .unset, .unset, .unset] [(.int ((p5 &&& (7 : Int32)) % (5 : Int32)))]) _
    rw [hc49]
    refine XS.istore X0.here hx rfl (hb hby at_35) rfl (l' := #[iv p1, iv p2, iv p3, iv p4, iv p5, iv ca, iv cb, iv cc, iv cd, iv (2 : Int32), .unset, .unset, .unset]) rfl ?_
    refine own_i X0 hx hby at_37 ?_
    refine own_i X0 hx hby at_39 ?_
    refine own_i X0 hx hby at_41 ?_
    refine own_i X0 hx hby at_43 ?_
    refine own_i X0 hx hby at_45 ?_
    refine st314 _ ?_
    refine XS.astore X314.here hx rfl (hb hby at_50) rfl rfl (l' := #[iv p1, iv p2, iv p3, iv p4, iv p5, iv ca, iv cb, iv cc, iv cd, iv (2 : Int32), rv b315, .unset, .unset]) rfl ?_
    refine own_a X314 hx hby at_52 ?_
    refine st316 _ ?_
    refine XS.astore X316.here hx rfl (hb hby at_57) rfl rfl (l' := #[iv p1, iv p2, iv p3, iv p4, iv p5, iv ca, iv cb, iv cc, iv cd, iv (2 : Int32), rv b315, rv b317, .unset]) rfl ?_
    refine own_a X316 hx hby at_59 ?_
    refine st318 _ ?_
    refine own_i X318 hx hby at_64 ?_
    refine own_cy (pc := 66) X318 hx hby at_66 (teq (rfl : (2 : Int32) = (2 : Int32))).1 71 ?_
    refine own_k X318 hx hby at_71 ?_
    refine XS.istore X318.here hx rfl (hb hby at_72) rfl (l' := #[iv p1, iv p2, iv p3, iv p4, iv p5, iv ca, iv cb, iv cc, iv cd, iv (2 : Int32), rv b315, rv b317, iv (0 : Int32)]) rfl ?_
    refine own_i X318 hx hby at_74 ?_
    refine own_in X318 hx hby at_76 (tlt (by decide : (0 : Int32) < (2 : Int32))).2.2.2 ?_
    refine own_a X318 hx hby at_79 ?_
    refine own_k X318 hx hby at_81 ?_
    refine st319 _ ?_
    refine own_i X319 hx hby at_85 ?_
    refine st320 _ ?_
    refine own_cy (pc := 90) X320 hx hby at_90 (teq (rfl : (own_lo ca) = (own_lo ca))).1 95 ?_
    refine own_i X320 hx hby at_95 ?_
    refine own_in X320 hx hby at_97 (teq (rfl : (0 : Int32) = (0 : Int32))).2 ?_
    refine own_i X320 hx hby at_100 ?_
    refine st321 _ ?_
    refine own_iy (pc := 105) X321 hx hby at_105 (teq (rfl : (0 : Int32) = (0 : Int32))).1 112 ?_
    refine own_k X321 hx hby at_112 ?_
    refine XS.istore X321.here hx rfl (hb hby at_113) rfl (l' := #[iv p1, iv p2, iv p3, iv p4, iv p5, iv ca, iv cb, iv cc, iv cd, iv (2 : Int32), rv b315, rv b317, iv (0 : Int32)]) rfl ?_
    refine own_i X321 hx hby at_115 ?_
    refine own_k X321 hx hby at_117 ?_
    refine own_cn X321 hx hby at_118 (tlt (by decide : (1 : Int32) < (2 : Int32))).2.2.2 ?_
    refine own_a X321 hx hby at_121 ?_
    refine own_k X321 hx hby at_123 ?_
    refine st322 _ ?_
    refine own_i X322 hx hby at_127 ?_
    refine st323 _ ?_
    refine own_cy (pc := 132) X323 hx hby at_132 (teq (rfl : (own_lo cb) = (own_lo cb))).1 137 ?_
    refine own_i X323 hx hby at_137 ?_
    refine own_in X323 hx hby at_139 (teq (rfl : (0 : Int32) = (0 : Int32))).2 ?_
    refine own_i X323 hx hby at_142 ?_
    refine st324 _ ?_
    refine own_in X324 hx hby at_147 (feq (by decide : ¬ ((1 : Int32) = (0 : Int32)))).1 ?_
    refine own_k X324 hx hby at_150 ?_
    refine own_go (pc := 151) X324 hx hby at_151 155 ?_
    refine XS.istore X324.here hx rfl (hb hby at_155) rfl (l' := #[iv p1, iv p2, iv p3, iv p4, iv p5, iv ca, iv cb, iv cc, iv cd, iv (2 : Int32), rv b315, rv b317, iv (1 : Int32)]) rfl ?_
    refine own_i X324 hx hby at_157 ?_
    refine own_k X324 hx hby at_159 ?_
    refine own_cy (pc := 160) X324 hx hby at_160 (flt (Int32.lt_irrefl : ¬ ((2 : Int32) < (2 : Int32)))).2.2.2 199 ?_
    refine own_i X324 hx hby at_199 ?_
    refine own_k X324 hx hby at_201 ?_
    refine own_cy (pc := 202) X324 hx hby at_202 (flt (by decide : ¬ ((3 : Int32) < (2 : Int32)))).2.2.2 241 ?_
    refine own_i X324 hx hby at_241 ?_
    refine own_iy (pc := 243) X324 hx hby at_243 (feq (by decide : ¬ ((1 : Int32) = (0 : Int32)))).2 255 ?_
    refine own_k X324 hx hby at_255 ?_
    exact retN X324 hx (t := .boolean) hret (by simp) (hb hby at_256) hr
  · show Qrm0_2_1 Z w_CS w_SF p1 p2 p3 p4 p5 ca cb cc cd h0 _ T324.heap _
    exact ⟨rfl, N324⟩
def Qrm0_2_2 (Z : State) (w_CS : Int32) (w_SF : Value) (p1 p2 p3 p4 p5 ca cb cc cd : Int32) (h0 : Heap) (v : Option Value) (h : Heap) (L : List Loc) : Prop := v = some (.int 1) ∧ Fr Z.heap.size L
theorem rm0_2_2 (l : Launch) (Z : State) (a0 : Array Value) (hw : own_HW Z a0) (ws : List Jvm.Cond) (w_CS : Int32) (w_SF : Value) (p1 p2 p3 p4 p5 ca cb cc cd : Int32) (h0 : Heap) (Z0 : Ext Z.heap h0) (S_w_CS : own_w_CS Z w_CS) (S_s__assertionsDisabled : own_s__assertionsDisabled Z) (S_s_HI_BYTE_SHIFT : own_s_HI_BYTE_SHIFT Z) (S_s_LO_BYTE_SHIFT : own_s_LO_BYTE_SHIFT Z) (R_w_SF : w_SF.isRef = true) (S_w_SF : own_w_SF Z w_SF) (hc41 : ((p1 &&& (65535 : Int32)).toUInt32.toUInt16.toUInt32.toInt32) = ca) (hc42 : ((p2 &&& (65535 : Int32)).toUInt32.toUInt16.toUInt32.toInt32) = cb) (hc43 : ((p3 &&& (65535 : Int32)).toUInt32.toUInt16.toUInt32.toInt32) = cc) (hc44 : ((p4 &&& (65535 : Int32)).toUInt32.toUInt16.toUInt32.toInt32) = cd) (hc49 : ((p5 &&& (7 : Int32)) % (5 : Int32)) = (2 : Int32)) (hc46 : own_u16 ca) (hc50 : own_u16 cb) (hc1 : ¬ (w_CS = (0 : Int32))) (hc48 : (own_lo ca) = ca) (hc52 : (own_lo cb) = cb) :
    own_met l x code maxLocals ret ws room_1 Z #[(.int p1), (.int p2), (.int p3), (.int p4), (.int p5)] h0 (Qrm0_2_2 Z w_CS w_SF p1 p2 p3 p4 p5 ca cb cc cd h0) := by
  refine own_start (plainFor_of_name pn_0) (fun m => ef_code_IIIII m p1 p2 p3 p4 p5) ?_
  intro p e s m below meth c s₁ hx hby hml hown hnm X0 hZ e0 hret hlk
  have N0 := Fr.nil Z.heap.size
  obtain ⟨_, T325, Lc325, X325, hQ325, st325⟩ := own_static (y := y_32) X0 hx hZ hown (own_w hw 1 rfl) (own_w hw 2 rfl) (own_w hw 3 rfl) (own_w hw 4 rfl) (rm294 l Z a0 hw [] w_CS ca cb cc cd h0 Z0 S_w_CS S_s__assertionsDisabled S_s_HI_BYTE_SHIFT S_s_LO_BYTE_SHIFT hc46 hc50 hc1) e0 (g := (mkF m 47 #[iv p1, iv p2, iv p3, iv p4, iv p5, iv ca, iv cb, iv cc, iv cd, iv (2 : Int32), .unset, .unset, .unset] [(.int cd), (.int cc), (.int cb), (.int ca), (.int (2 : Int32))])) (argsL := [(.int (2 : Int32)), (.int ca), (.int cb), (.int cc), (.int cd)]) (rest := []) (W := 0) (lenOf pd_26 rfl) (hb hby at_47) hml
  obtain ⟨b326, rfl, N325q, K325q, szn_b326, q325_E_b326, q325_T_b326⟩ := hQ325
  have g_b326 : Z.heap.size ≤ b326 := Nat.le_trans Z0.1 szn_b326
  have sz_b326 : h0.size ≤ b326 := Nat.le_trans (Keep.refl h0 []).1 szn_b326
  have K325 : Keep h0 T325.heap [] := (Keep.refl h0 []).trans K325q all0
  have XX325 : Ext Z.heap T325.heap := own_extK Z0 K325q all0
  have N325 := Fr.app N0 N325q
  obtain ⟨_, T327, Lc327, X327, hQ327, st327⟩ := own_static (y := y_31) X325 hx hZ hown (own_w hw 27 rfl) (own_w hw 28 rfl) (own_w hw 29 rfl) (own_w hw 30 rfl) (rm234 l Z a0 hw [] w_CS w_SF b326 [ca, cb] T325.heap XX325 S_w_CS R_w_SF S_w_SF S_s__assertionsDisabled S_s_HI_BYTE_SHIFT S_s_LO_BYTE_SHIFT q325_E_b326 q325_T_b326 ⟨Nat.le_of_ble_eq_true rfl, Nat.le_of_ble_eq_true rfl⟩ (own_a16_s hc46 (own_a16_s hc50 own_a16_0)) (own_nocap_s hc48 (own_nocap_s hc52 own_nocap_0)) hc1) rfl (g := (mkF m 54 #[iv p1, iv p2, iv p3, iv p4, iv p5, iv ca, iv cb, iv cc, iv cd, iv (2 : Int32), rv b326, .unset, .unset] [(.ref b326)])) (argsL := [(.ref b326)]) (rest := []) (W := 0) (lenOf pd_27 rfl) (hb hby at_54) hml
  obtain ⟨rfl, N327q, e327⟩ := hQ327
  have N327 := Fr.app N325 N327q
  obtain ⟨_, T328, Lc328, X328, hQ328, st328⟩ := own_virtual (y := y_4) X327 hx hZ hown (own_w hw 42 rfl) (own_w hw 32 rfl) (own_w hw 34 rfl) (own_w hw 33 rfl) (own_w hw 7 rfl) (own_w hw 35 rfl) (own_lenG l Z a0 hw [] w_CS b326 [ca, cb] T325.heap XX325 S_w_CS q325_E_b326 q325_T_b326 hc1 (Nat.le_of_ble_eq_true rfl)) e327 q325_E_b326 (g := (mkF m 61 #[iv p1, iv p2, iv p3, iv p4, iv p5, iv ca, iv cb, iv cc, iv cd, iv (2 : Int32), rv b326, rv b326, .unset] [(.ref b326)])) (argsL := []) (rest := []) (W := 0) (lenOf pd_21 rfl) (hb hby at_61) hml
  obtain ⟨rfl, N328q, e328⟩ := hQ328
  have N328 := Fr.app N327 N328q
  obtain ⟨_, T329, Lc329, X329, hQ329, st329⟩ := own_virtual (y := y_9) X328 hx hZ hown (own_w hw 78 rfl) (own_w hw 54 rfl) (own_w hw 56 rfl) (own_w hw 55 rfl) (own_w hw 7 rfl) (own_w hw 57 rfl) (own_chG l Z a0 hw [] w_CS w_SF ca b326 [ca, cb] (0 : Int32) T325.heap XX325 S_w_CS R_w_SF S_w_SF S_s__assertionsDisabled S_s_HI_BYTE_SHIFT S_s_LO_BYTE_SHIFT q325_E_b326 q325_T_b326 hc1 hc46 ⟨by decide, (by decide : (0 : Int32) < (2 : Int32)), rfl, Nat.le_of_ble_eq_true rfl⟩) e328 q325_E_b326 (g := (mkF m 82 #[iv p1, iv p2, iv p3, iv p4, iv p5, iv ca, iv cb, iv cc, iv cd, iv (2 : Int32), rv b326, rv b326, iv (0 : Int32)] [(.int (0 : Int32)), (.ref b326)])) (argsL := [(.int (0 : Int32))]) (rest := []) (W := 0) (lenOf pd_22 rfl) (hb hby at_82) hml
  obtain ⟨rfl, N329q, e329⟩ := hQ329
  have N329 := Fr.app N328 N329q
  obtain ⟨_, T330, Lc330, X330, hQ330, st330⟩ := own_static (y := y_2) X329 hx hZ hown (own_w hw 79 rfl) (own_w hw 80 rfl) (own_w hw 3 rfl) (own_w hw 81 rfl) (own_refJ l Z a0 hw [] ca T325.heap XX325 hc46) e329 (g := (mkF m 87 #[iv p1, iv p2, iv p3, iv p4, iv p5, iv ca, iv cb, iv cc, iv cd, iv (2 : Int32), rv b326, rv b326, iv (0 : Int32)] [(.int ca), (.int ca)])) (argsL := [(.int ca)]) (rest := [(.int ca)]) (W := 1) (lenOf pd_23 rfl) (hb hby at_87) hml
  obtain ⟨rfl, N330q, e330⟩ := hQ330
  have N330 := Fr.app N329 N330q
  obtain ⟨_, T331, Lc331, X331, hQ331, st331⟩ := own_static (y := y_0) X330 hx hZ hown (own_w hw 82 rfl) (own_w hw 83 rfl) (own_w hw 3 rfl) (own_w hw 84 rfl) (own_cap0 l Z a0 hw [] ca T325.heap XX325 hc48) e330 (g := (mkF m 102 #[iv p1, iv p2, iv p3, iv p4, iv p5, iv ca, iv cb, iv cc, iv cd, iv (2 : Int32), rv b326, rv b326, iv (0 : Int32)] [(.int ca)])) (argsL := [(.int ca)]) (rest := []) (W := 0) (lenOf pd_0 rfl) (hb hby at_102) hml
  obtain ⟨rfl, N331q, e331⟩ := hQ331
  have N331 := Fr.app N330 N331q
  obtain ⟨_, T332, Lc332, X332, hQ332, st332⟩ := own_virtual (y := y_9) X331 hx hZ hown (own_w hw 78 rfl) (own_w hw 54 rfl) (own_w hw 56 rfl) (own_w hw 55 rfl) (own_w hw 7 rfl) (own_w hw 57 rfl) (own_chG l Z a0 hw [] w_CS w_SF cb b326 [ca, cb] (1 : Int32) T325.heap XX325 S_w_CS R_w_SF S_w_SF S_s__assertionsDisabled S_s_HI_BYTE_SHIFT S_s_LO_BYTE_SHIFT q325_E_b326 q325_T_b326 hc1 hc50 ⟨by decide, (by decide : (1 : Int32) < (2 : Int32)), rfl, Nat.le_of_ble_eq_true rfl⟩) e331 q325_E_b326 (g := (mkF m 124 #[iv p1, iv p2, iv p3, iv p4, iv p5, iv ca, iv cb, iv cc, iv cd, iv (2 : Int32), rv b326, rv b326, iv (0 : Int32)] [(.int (1 : Int32)), (.ref b326)])) (argsL := [(.int (1 : Int32))]) (rest := []) (W := 0) (lenOf pd_22 rfl) (hb hby at_124) hml
  obtain ⟨rfl, N332q, e332⟩ := hQ332
  have N332 := Fr.app N331 N332q
  obtain ⟨_, T333, Lc333, X333, hQ333, st333⟩ := own_static (y := y_2) X332 hx hZ hown (own_w hw 79 rfl) (own_w hw 80 rfl) (own_w hw 3 rfl) (own_w hw 81 rfl) (own_refJ l Z a0 hw [] cb T325.heap XX325 hc50) e332 (g := (mkF m 129 #[iv p1, iv p2, iv p3, iv p4, iv p5, iv ca, iv cb, iv cc, iv cd, iv (2 : Int32), rv b326, rv b326, iv (0 : Int32)] [(.int cb), (.int cb)])) (argsL := [(.int cb)]) (rest := [(.int cb)]) (W := 1) (lenOf pd_23 rfl) (hb hby at_129) hml
  obtain ⟨rfl, N333q, e333⟩ := hQ333
  have N333 := Fr.app N332 N333q
  obtain ⟨_, T334, Lc334, X334, hQ334, st334⟩ := own_static (y := y_0) X333 hx hZ hown (own_w hw 82 rfl) (own_w hw 83 rfl) (own_w hw 3 rfl) (own_w hw 84 rfl) (own_cap0 l Z a0 hw [] cb T325.heap XX325 hc52) e333 (g := (mkF m 144 #[iv p1, iv p2, iv p3, iv p4, iv p5, iv ca, iv cb, iv cc, iv cd, iv (2 : Int32), rv b326, rv b326, iv (0 : Int32)] [(.int cb)])) (argsL := [(.int cb)]) (rest := []) (W := 0) (lenOf pd_0 rfl) (hb hby at_144) hml
  obtain ⟨rfl, N334q, e334⟩ := hQ334
  have N334 := Fr.app N333 N334q
  obtain ⟨fs, hr, hrun, hended, hW, hsame⟩ := X334.leave (v := some (.int (1 : Int32))) (fun h => by rw [hret] at h; cases h) hlk
  refine ⟨_, _, ?_, hrun, hended, _, _, rfl, ?_, ⟨_, rfl⟩, hW, hsame.mono (by decide) (by decide)⟩
  · show own_S p e below s₁ (mkF m 0 #[iv p1, iv p2, iv p3, iv p4, iv p5, .unset, .unset, .unset, .unset, .unset, .unset, .unset, .unset] []) _
    refine own_iN X0 hx hby at_0 ?_
    refine X0.ldcInt hx hown (mvT hZ (own_w hw 0 rfl)) (g := (mkF m 1 #[iv p1, iv p2, iv p3, iv p4, iv p5, .unset, .unset, .unset, .unset, .unset, .unset, .unset, .unset] [(.int p1)])) rfl (hb hby at_1) _ ?_
    refine XS.iand X0.here hx rfl (hb hby at_3) rfl ?_
    refine XS.i2c X0.here hx rfl (hb hby at_4) rfl ?_
    show own_S p e below s₁ (mkF m 5 #[iv p1, iv p2, iv p3, iv p4, iv p5, .unset, .unset, .unset, .unset, .unset, .unset, .unset, .unset] [(.int ((p1 &&& (65535 : Int32)).toUInt32.toUInt16.toUInt32.toInt32))]) _
    rw [hc41]
    refine XS.istore X0.here hx rfl (hb hby at_5) rfl (l' := #[iv p1, iv p2, iv p3, iv p4, iv p5, iv ca, .unset, .unset, .unset, .unset, .unset, .unset, .unset]) rfl ?_
    refine own_iN X0 hx hby at_7 ?_
    refine X0.ldcInt hx hown (mvT hZ (own_w hw 0 rfl)) (g := (mkF m 8 #[iv p1, iv p2, iv p3, iv p4, iv p5, iv ca, .unset, .unset, .unset, .unset, .unset, .unset, .unset] [(.int p2)])) rfl (hb hby at_8) _ ?_
    refine XS.iand X0.here hx rfl (hb hby at_10) rfl ?_
    refine XS.i2c X0.here hx rfl (hb hby at_11) rfl ?_
    show own_S p e below s₁ (mkF m 12 #[iv p1, iv p2, iv p3, iv p4, iv p5, iv ca, .unset, .unset, .unset, .unset, .unset, .unset, .unset] [(.int ((p2 &&& (65535 : Int32)).toUInt32.toUInt16.toUInt32.toInt32))]) _
    rw [hc42]
    refine XS.istore X0.here hx rfl (hb hby at_12) rfl (l' := #[iv p1, iv p2, iv p3, iv p4, iv p5, iv ca, iv cb, .unset, .unset, .unset, .unset, .unset, .unset]) rfl ?_
    refine own_iN X0 hx hby at_14 ?_
    refine X0.ldcInt hx hown (mvT hZ (own_w hw 0 rfl)) (g := (mkF m 15 #[iv p1, iv p2, iv p3, iv p4, iv p5, iv ca, iv cb, .unset, .unset, .unset, .unset, .unset, .unset] [(.int p3)])) rfl (hb hby at_15) _ ?_
    refine XS.iand X0.here hx rfl (hb hby at_17) rfl ?_
    refine XS.i2c X0.here hx rfl (hb hby at_18) rfl ?_
    show own_S p e below s₁ (mkF m 19 #[iv p1, iv p2, iv p3, iv p4, iv p5, iv ca, iv cb, .unset, .unset, .unset, .unset, .unset, .unset] [(.int ((p3 &&& (65535 : Int32)).toUInt32.toUInt16.toUInt32.toInt32))]) _
    rw [hc43]
    refine XS.istore X0.here hx rfl (hb hby at_19) rfl (l' := #[iv p1, iv p2, iv p3, iv p4, iv p5, iv ca, iv cb, iv cc, .unset, .unset, .unset, .unset, .unset]) rfl ?_
    refine own_iN X0 hx hby at_21 ?_
    refine X0.ldcInt hx hown (mvT hZ (own_w hw 0 rfl)) (g := (mkF m 22 #[iv p1, iv p2, iv p3, iv p4, iv p5, iv ca, iv cb, iv cc, .unset, .unset, .unset, .unset, .unset] [(.int p4)])) rfl (hb hby at_22) _ ?_
    refine XS.iand X0.here hx rfl (hb hby at_24) rfl ?_
    refine XS.i2c X0.here hx rfl (hb hby at_25) rfl ?_
    show own_S p e below s₁ (mkF m 26 #[iv p1, iv p2, iv p3, iv p4, iv p5, iv ca, iv cb, iv cc, .unset, .unset, .unset, .unset, .unset] [(.int ((p4 &&& (65535 : Int32)).toUInt32.toUInt16.toUInt32.toInt32))]) _
    rw [hc44]
    refine XS.istore X0.here hx rfl (hb hby at_26) rfl (l' := #[iv p1, iv p2, iv p3, iv p4, iv p5, iv ca, iv cb, iv cc, iv cd, .unset, .unset, .unset, .unset]) rfl ?_
    refine own_i X0 hx hby at_28 ?_
    refine XS.bipush X0.here hx rfl (hb hby at_30) ?_
    refine XS.iand X0.here hx rfl (hb hby at_32) rfl ?_
    refine own_k X0 hx hby at_33 ?_
    refine iremM X0 hx rfl (hb hby at_34) rfl (by decide) ?_
    show own_S p e below s₁ (mkF m 35 #[iv p1, iv p2, iv p3, iv p4, iv p5, iv ca, iv cb, iv cc, iv cd, .unset, .unset, .unset, .unset] [(.int ((p5 &&& (7 : Int32)) % (5 : Int32)))]) _
    rw [hc49]
    refine XS.istore X0.here hx rfl (hb hby at_35) rfl (l' := #[iv p1, iv p2, iv p3, iv p4, iv p5, iv ca, iv cb, iv cc, iv cd, iv (2 : Int32), .unset, .unset, .unset]) rfl ?_
    refine own_i X0 hx hby at_37 ?_
    refine own_i X0 hx hby at_39 ?_
    refine own_i X0 hx hby at_41 ?_
    refine own_i X0 hx hby at_43 ?_
    refine own_i X0 hx hby at_45 ?_
    refine st325 _ ?_
    refine XS.astore X325.here hx rfl (hb hby at_50) rfl rfl (l' := #[iv p1, iv p2, iv p3, iv p4, iv p5, iv ca, iv cb, iv cc, iv cd, iv (2 : Int32), rv b326, .unset, .unset]) rfl ?_
    refine own_a X325 hx hby at_52 ?_
    refine st327 _ ?_
    refine XS.astore X327.here hx rfl (hb hby at_57) rfl rfl (l' := #[iv p1, iv p2, iv p3, iv p4, iv p5, iv ca, iv cb, iv cc, iv cd, iv (2 : Int32), rv b326, rv b326, .unset]) rfl ?_
    refine own_a X327 hx hby at_59 ?_
    refine st328 _ ?_
    refine own_i X328 hx hby at_64 ?_
    refine own_cy (pc := 66) X328 hx hby at_66 (teq (rfl : (2 : Int32) = (2 : Int32))).1 71 ?_
    refine own_k X328 hx hby at_71 ?_
    refine XS.istore X328.here hx rfl (hb hby at_72) rfl (l' := #[iv p1, iv p2, iv p3, iv p4, iv p5, iv ca, iv cb, iv cc, iv cd, iv (2 : Int32), rv b326, rv b326, iv (0 : Int32)]) rfl ?_
    refine own_i X328 hx hby at_74 ?_
    refine own_in X328 hx hby at_76 (tlt (by decide : (0 : Int32) < (2 : Int32))).2.2.2 ?_
    refine own_a X328 hx hby at_79 ?_
    refine own_k X328 hx hby at_81 ?_
    refine st329 _ ?_
    refine own_i X329 hx hby at_85 ?_
    refine st330 _ ?_
    refine own_cy (pc := 90) X330 hx hby at_90 (teq (Eq.symm hc48)).1 95 ?_
    refine own_i X330 hx hby at_95 ?_
    refine own_in X330 hx hby at_97 (teq (rfl : (0 : Int32) = (0 : Int32))).2 ?_
    refine own_i X330 hx hby at_100 ?_
    refine st331 _ ?_
    refine own_iy (pc := 105) X331 hx hby at_105 (teq (rfl : (0 : Int32) = (0 : Int32))).1 112 ?_
    refine own_k X331 hx hby at_112 ?_
    refine XS.istore X331.here hx rfl (hb hby at_113) rfl (l' := #[iv p1, iv p2, iv p3, iv p4, iv p5, iv ca, iv cb, iv cc, iv cd, iv (2 : Int32), rv b326, rv b326, iv (0 : Int32)]) rfl ?_
    refine own_i X331 hx hby at_115 ?_
    refine own_k X331 hx hby at_117 ?_
    refine own_cn X331 hx hby at_118 (tlt (by decide : (1 : Int32) < (2 : Int32))).2.2.2 ?_
    refine own_a X331 hx hby at_121 ?_
    refine own_k X331 hx hby at_123 ?_
    refine st332 _ ?_
    refine own_i X332 hx hby at_127 ?_
    refine st333 _ ?_
    refine own_cy (pc := 132) X333 hx hby at_132 (teq (Eq.symm hc52)).1 137 ?_
    refine own_i X333 hx hby at_137 ?_
    refine own_in X333 hx hby at_139 (teq (rfl : (0 : Int32) = (0 : Int32))).2 ?_
    refine own_i X333 hx hby at_142 ?_
    refine st334 _ ?_
    refine own_iy (pc := 147) X334 hx hby at_147 (teq (rfl : (0 : Int32) = (0 : Int32))).1 154 ?_
    refine own_k X334 hx hby at_154 ?_
    refine XS.istore X334.here hx rfl (hb hby at_155) rfl (l' := #[iv p1, iv p2, iv p3, iv p4, iv p5, iv ca, iv cb, iv cc, iv cd, iv (2 : Int32), rv b326, rv b326, iv (0 : Int32)]) rfl ?_
    refine own_i X334 hx hby at_157 ?_
    refine own_k X334 hx hby at_159 ?_
    refine own_cy (pc := 160) X334 hx hby at_160 (flt (Int32.lt_irrefl : ¬ ((2 : Int32) < (2 : Int32)))).2.2.2 199 ?_
    refine own_i X334 hx hby at_199 ?_
    refine own_k X334 hx hby at_201 ?_
    refine own_cy (pc := 202) X334 hx hby at_202 (flt (by decide : ¬ ((3 : Int32) < (2 : Int32)))).2.2.2 241 ?_
    refine own_i X334 hx hby at_241 ?_
    refine own_in X334 hx hby at_243 (teq (rfl : (0 : Int32) = (0 : Int32))).2 ?_
    refine own_a X334 hx hby at_246 ?_
    refine own_a X334 hx hby at_248 ?_
    refine Jvm.RoadKit.acmp (g := (mkF m 250 #[iv p1, iv p2, iv p3, iv p4, iv p5, iv ca, iv cb, iv cc, iv cd, iv (2 : Int32), rv b326, rv b326, iv (0 : Int32)] [(.ref b326), (.ref b326)])) X334 hx rfl rfl rfl (pc0 := 250) (pc' := 255) (same := true) rfl (hb hby at_250) rfl (decide_eq_true rfl) (by decide) (by decide) ?_
    refine own_k X334 hx hby at_255 ?_
    exact retN X334 hx (t := .boolean) hret (by simp) (hb hby at_256) hr
  · show Qrm0_2_2 Z w_CS w_SF p1 p2 p3 p4 p5 ca cb cc cd h0 _ T334.heap _
    exact ⟨rfl, N334⟩
def Qrm335 (Z : State) (w_CS ca cb cc cd : Int32) (h0 : Heap) (v : Option Value) (h : Heap) (L : List Loc) : Prop := ∃ b336 : Addr, v = some (.ref b336) ∧ Fr Z.heap.size L ∧ Keep h0 h [] ∧ h0.size ≤ b336 ∧ Exa Z h b336 "java/lang/String" ∧ own_rep Z h b336 [ca, cb, cc]
theorem rm335 (l : Launch) (Z : State) (a0 : Array Value) (hw : own_HW Z a0) (ws : List Jvm.Cond) (w_CS ca cb cc cd : Int32) (h0 : Heap) (Z0 : Ext Z.heap h0) (S_w_CS : own_w_CS Z w_CS) (S_s__assertionsDisabled : own_s__assertionsDisabled Z) (S_s_HI_BYTE_SHIFT : own_s_HI_BYTE_SHIFT Z) (S_s_LO_BYTE_SHIFT : own_s_LO_BYTE_SHIFT Z) (hc46 : own_u16 ca) (hc50 : own_u16 cb) (hc17 : own_u16 cc) (hc1 : ¬ (w_CS = (0 : Int32))) :
    own_met l y_32 method_4_code 5 (some (.object "java/lang/String")) ws ({ frames := 7, cells := 4, slots := 19, locals := 124 } : Room) Z #[(.int (3 : Int32)), (.int ca), (.int cb), (.int cc), (.int cd)] h0 (Qrm335 Z w_CS ca cb cc cd h0) := by
  refine own_start (plainFor_of_name pn_0) (fun m => ef_method_4_IIIII m (3 : Int32) ca cb cc cd) ?_
  intro p e s m below meth c s₁ hx hby hml hown hnm X0 hZ e0 hret hlk
  have N0 := Fr.nil Z.heap.size
  obtain ⟨T336, h336, X336, e336, E336, A336, D336, -, st336⟩ := newO X0 hx hZ hown (own_w hw 5 rfl) (own_w hw 6 rfl) (own_w hw 7 rfl) e0 (g := (mkF m 64 #[iv (3 : Int32), iv ca, iv cb, iv cc, iv cd] [])) rfl (hb hby d1_64) (by decide) (by decide)
  obtain ⟨b336, g336⟩ : ∃ z, z = h0.size := ⟨_, rfl⟩
  rw [← g336] at A336 D336 st336
  have g_b336 : Z.heap.size ≤ b336 := Nat.le_trans Z0.1 (Nat.le_of_eq g336.symm)
  have sz_b336 : h0.size ≤ b336 := Nat.le_trans (Keep.refl h0 []).1 (Nat.le_of_eq g336.symm)
  have F_b336_value : Fld Z h336 b336 "java/lang/String" "value" "[B" .null := D336 (Or.inr (own_w hw 21 rfl)) (ty := (.array .byte)) (by decide)
  have F_b336_coder : Fld Z h336 b336 "java/lang/String" "coder" "B" (.int (0 : Int32)) := D336 (Or.inr (own_w hw 22 rfl)) (ty := .byte) (by decide)
  have K336 : Keep h0 h336 [] := (Keep.refl h0 []).ext E336
  have XX336 : Ext Z.heap h336 := own_ext2 Z0 E336
  obtain ⟨T337, h337, k337, X337, e337, E337, A337, st337⟩ := newP X336 hx hZ (own_w hw 8 rfl) e336 (g := (mkF m 69 #[iv (3 : Int32), iv ca, iv cb, iv cc, iv cd] [(.int (3 : Int32)), (.ref b336), (.ref b336)])) rfl (hb hby d1_69) rfl (by decide) (cap := 3) (by decide) (by decide) (by decide) (by decide)
  obtain ⟨b337, g337⟩ : ∃ z, z = h336.size := ⟨_, rfl⟩
  rw [← g337] at A337 st337
  have g_b337 : Z.heap.size ≤ b337 := Nat.le_trans XX336.1 (Nat.le_of_eq g337.symm)
  have sz_b337 : h0.size ≤ b337 := Nat.le_trans K336.1 (Nat.le_of_eq g337.symm)
  have V_b337 : Arv Z h337 b337 k337 .char (3 : Int32) [(.int (0 : Int32)), (.int (0 : Int32)), (.int (0 : Int32))] (.int (0 : Int32)) := (Arv.new A337 (by decide)).pad (pad_rep [] (.int (0 : Int32)) 3)
  have K337 : Keep h0 h337 [] := K336.ext E337
  have XX337 : Ext Z.heap h337 := own_ext2 XX336 E337
  obtain ⟨cl338, Ar338, q338, S338, Nn338, H338, G338⟩ := id V_b337
  have hin338 : ¬ ((0 : Int32) < 0 ∨ cl338.slots.size ≤ ((0 : Int32)).toNatClampNeg) := inb_of S338 ⟨by decide, by decide⟩
  obtain ⟨T339, h339, X339, e339, W339, st339⟩ := stC X337 hx hZ e337 Ar338 (j := (0 : Int32)) hin338 (g := (mkF m 74 #[iv (3 : Int32), iv ca, iv cb, iv cc, iv cd] [(.int ca), (.int (0 : Int32)), (.ref b337), (.ref b337), (.ref b336), (.ref b336)])) rfl rfl (hb hby d1_74)
  rw [(own_nc hc46)] at W339
  have V339 : Arv Z h339 b337 k337 .char (3 : Int32) [(.int ca), (.int (0 : Int32)), (.int (0 : Int32))] (.int (0 : Int32)) := Arv.set Ar338 q338 S338 Nn338 H338 G338 (by rw [← (own_nc hc46)]; exact fits_nar_char _) W339 0 rfl (Nat.le_of_ble_eq_true rfl)
  have K339 : Keep h0 h339 [] := K337.wr W339 (Or.inr sz_b337)
  have XX339 : Ext Z.heap h339 := own_extW XX337 W339 g_b337
  have N339 := Fr.snoc X339 N0 g_b337
  obtain ⟨cl340, Ar340, q340, S340, Nn340, H340, G340⟩ := id V339
  have hin340 : ¬ ((1 : Int32) < 0 ∨ cl340.slots.size ≤ ((1 : Int32)).toNatClampNeg) := inb_of S340 ⟨by decide, by decide⟩
  obtain ⟨T341, h341, X341, e341, W341, st341⟩ := stC X339 hx hZ e339 Ar340 (j := (1 : Int32)) hin340 (g := (mkF m 78 #[iv (3 : Int32), iv ca, iv cb, iv cc, iv cd] [(.int cb), (.int (1 : Int32)), (.ref b337), (.ref b337), (.ref b336), (.ref b336)])) rfl rfl (hb hby d1_78)
  rw [(own_nc hc50)] at W341
  have V341 : Arv Z h341 b337 k337 .char (3 : Int32) [(.int ca), (.int cb), (.int (0 : Int32))] (.int (0 : Int32)) := Arv.set Ar340 q340 S340 Nn340 H340 G340 (by rw [← (own_nc hc50)]; exact fits_nar_char _) W341 1 rfl (Nat.le_of_ble_eq_true rfl)
  have K341 : Keep h0 h341 [] := K339.wr W341 (Or.inr sz_b337)
  have XX341 : Ext Z.heap h341 := own_extW XX339 W341 g_b337
  have N341 := Fr.snoc X341 N339 g_b337
  obtain ⟨cl342, Ar342, q342, S342, Nn342, H342, G342⟩ := id V341
  have hin342 : ¬ ((2 : Int32) < 0 ∨ cl342.slots.size ≤ ((2 : Int32)).toNatClampNeg) := inb_of S342 ⟨by decide, by decide⟩
  obtain ⟨T343, h343, X343, e343, W343, st343⟩ := stC X341 hx hZ e341 Ar342 (j := (2 : Int32)) hin342 (g := (mkF m 82 #[iv (3 : Int32), iv ca, iv cb, iv cc, iv cd] [(.int cc), (.int (2 : Int32)), (.ref b337), (.ref b337), (.ref b336), (.ref b336)])) rfl rfl (hb hby d1_82)
  rw [(own_nc hc17)] at W343
  have V343 : Arv Z h343 b337 k337 .char (3 : Int32) [(.int ca), (.int cb), (.int cc)] (.int (0 : Int32)) := Arv.set Ar342 q342 S342 Nn342 H342 G342 (by rw [← (own_nc hc17)]; exact fits_nar_char _) W343 2 rfl (Nat.le_of_ble_eq_true rfl)
  have K343 : Keep h0 h343 [] := K341.wr W343 (Or.inr sz_b337)
  have XX343 : Ext Z.heap h343 := own_extW XX341 W343 g_b337
  have N343 := Fr.snoc X343 N341 g_b337
  have ne_b336_b337 : b336 ≠ b337 := Nat.ne_of_lt (Nat.lt_of_lt_of_le A336.lt (Nat.le_of_eq g337.symm))
  have f345_F_b336_coder : Fld Z h343 b336 "java/lang/String" "coder" "B" (.int (0 : Int32)) := ((((F_b336_coder.ext E337).other W339 (Or.inl ne_b336_b337)).other W341 (Or.inl ne_b336_b337)).other W343 (Or.inl ne_b336_b337))
  have f346_F_b336_value : Fld Z h343 b336 "java/lang/String" "value" "[B" .null := ((((F_b336_value.ext E337).other W339 (Or.inl ne_b336_b337)).other W341 (Or.inl ne_b336_b337)).other W343 (Or.inl ne_b336_b337))
  obtain ⟨_, T344, Lc344, X344, hQ344, st344⟩ := own_special (y := y_22) X343 hx hZ hown rfl (own_w hw 9 rfl) (own_w hw 10 rfl) (own_w hw 7 rfl) (own_w hw 11 rfl) (own_initG l Z a0 hw [] w_CS b336 b337 k337 [ca, cb, cc] h343 XX343 S_w_CS S_s__assertionsDisabled S_s_HI_BYTE_SHIFT S_s_LO_BYTE_SHIFT ((((A336.ext E337).wr W339).wr W341).wr W343) f345_F_b336_coder f346_F_b336_value V343 g_b336 hc1 ⟨Nat.le_of_ble_eq_true rfl, Nat.le_of_ble_eq_true rfl⟩ (own_a16_s hc46 (own_a16_s hc50 (own_a16_s hc17 own_a16_0)))) e343 b336 (g := (mkF m 83 #[iv (3 : Int32), iv ca, iv cb, iv cc, iv cd] [(.ref b337), (.ref b336), (.ref b336)])) (argsL := [(.ref b337)]) (rest := [(.ref b336)]) (W := 1) (lenOf pd_25 rfl) (hb hby d1_83) hml
  obtain ⟨rfl, N344q, K344q, q344_E_b336, q344_T_b336⟩ := hQ344
  have K344 : Keep h0 T344.heap [] := K343.trans K344q (allS (Or.inr sz_b336) all0)
  have XX344 : Ext Z.heap T344.heap := own_extK XX343 K344q (allS g_b336 all0)
  have N344 := Fr.app N343 N344q
  obtain ⟨fs, hr, hrun, hended, hW, hsame⟩ := X344.leave (v := some (.ref b336)) (fun h => by rw [hret] at h; cases h) hlk
  refine ⟨_, _, ?_, hrun, hended, _, _, rfl, ?_, ⟨_, rfl⟩, hW, hsame.mono (by decide) (by decide)⟩
  · show own_S p e below s₁ (mkF m 0 #[iv (3 : Int32), iv ca, iv cb, iv cc, iv cd] []) _
    refine own_iN X0 hx hby d1_0 ?_
    refine own_iy (pc := 1) X0 hx hby d1_1 (feq (by decide : ¬ ((3 : Int32) = (0 : Int32)))).2 15 ?_
    refine own_iN X0 hx hby d1_15 ?_
    refine own_k X0 hx hby d1_16 ?_
    refine own_cy (pc := 17) X0 hx hby d1_17 (feq (by decide : ¬ ((3 : Int32) = (1 : Int32)))).2 35 ?_
    refine own_iN X0 hx hby d1_35 ?_
    refine own_k X0 hx hby d1_36 ?_
    refine own_cy (pc := 37) X0 hx hby d1_37 (feq (by decide : ¬ ((3 : Int32) = (2 : Int32)))).2 59 ?_
    refine own_iN X0 hx hby d1_59 ?_
    refine own_k X0 hx hby d1_60 ?_
    refine own_cn X0 hx hby d1_61 (teq (rfl : (3 : Int32) = (3 : Int32))).2 ?_
    refine st336 _ ?_
    refine XS.dup X336.here hx rfl (hb hby d1_67) rfl rfl ?_
    refine own_k X336 hx hby d1_68 ?_
    refine st337 _ ?_
    refine XS.dup X337.here hx rfl (hb hby d1_71) rfl rfl ?_
    refine own_k X337 hx hby d1_72 ?_
    refine own_iN X337 hx hby d1_73 ?_
    refine st339 _ ?_
    refine XS.dup X339.here hx rfl (hb hby d1_75) rfl rfl ?_
    refine own_k X339 hx hby d1_76 ?_
    refine own_iN X339 hx hby d1_77 ?_
    refine st341 _ ?_
    refine XS.dup X341.here hx rfl (hb hby d1_79) rfl rfl ?_
    refine own_k X341 hx hby d1_80 ?_
    refine own_iN X341 hx hby d1_81 ?_
    refine st343 _ ?_
    refine st344 _ ?_
    jvm_step X344.here [X344.here.top, hx, (hb hby d1_86), X344.method', hret, Value.isRef, FieldType.isReference]
    first | (intro acts; rw [hr _ acts rfl rfl rfl]) | rw [hr _ _ rfl rfl rfl]
    exact Steps.refl _
  · show Qrm335 Z w_CS ca cb cc cd h0 _ T344.heap _
    exact ⟨b336, rfl, N344, K344, sz_b336, q344_E_b336, q344_T_b336⟩
def Qrm0_3_0 (Z : State) (w_CS : Int32) (w_SF : Value) (p1 p2 p3 p4 p5 ca cb cc cd : Int32) (h0 : Heap) (v : Option Value) (h : Heap) (L : List Loc) : Prop := v = some (.int 1) ∧ Fr Z.heap.size L
theorem rm0_3_0 (l : Launch) (Z : State) (a0 : Array Value) (hw : own_HW Z a0) (ws : List Jvm.Cond) (w_CS : Int32) (w_SF : Value) (p1 p2 p3 p4 p5 ca cb cc cd : Int32) (h0 : Heap) (Z0 : Ext Z.heap h0) (S_w_CS : own_w_CS Z w_CS) (S_s__assertionsDisabled : own_s__assertionsDisabled Z) (S_s_HI_BYTE_SHIFT : own_s_HI_BYTE_SHIFT Z) (S_s_LO_BYTE_SHIFT : own_s_LO_BYTE_SHIFT Z) (R_w_SF : w_SF.isRef = true) (S_w_SF : own_w_SF Z w_SF) (hc41 : ((p1 &&& (65535 : Int32)).toUInt32.toUInt16.toUInt32.toInt32) = ca) (hc42 : ((p2 &&& (65535 : Int32)).toUInt32.toUInt16.toUInt32.toInt32) = cb) (hc43 : ((p3 &&& (65535 : Int32)).toUInt32.toUInt16.toUInt32.toInt32) = cc) (hc44 : ((p4 &&& (65535 : Int32)).toUInt32.toUInt16.toUInt32.toInt32) = cd) (hc53 : ((p5 &&& (7 : Int32)) % (5 : Int32)) = (3 : Int32)) (hc46 : own_u16 ca) (hc50 : own_u16 cb) (hc17 : own_u16 cc) (hc1 : ¬ (w_CS = (0 : Int32))) (hc47 : ¬ ((own_lo ca) = ca)) :
    own_met l x code maxLocals ret ws room_1 Z #[(.int p1), (.int p2), (.int p3), (.int p4), (.int p5)] h0 (Qrm0_3_0 Z w_CS w_SF p1 p2 p3 p4 p5 ca cb cc cd h0) := by
  refine own_start (plainFor_of_name pn_0) (fun m => ef_code_IIIII m p1 p2 p3 p4 p5) ?_
  intro p e s m below meth c s₁ hx hby hml hown hnm X0 hZ e0 hret hlk
  have N0 := Fr.nil Z.heap.size
  obtain ⟨_, T347, Lc347, X347, hQ347, st347⟩ := own_static (y := y_32) X0 hx hZ hown (own_w hw 1 rfl) (own_w hw 2 rfl) (own_w hw 3 rfl) (own_w hw 4 rfl) (rm335 l Z a0 hw [] w_CS ca cb cc cd h0 Z0 S_w_CS S_s__assertionsDisabled S_s_HI_BYTE_SHIFT S_s_LO_BYTE_SHIFT hc46 hc50 hc17 hc1) e0 (g := (mkF m 47 #[iv p1, iv p2, iv p3, iv p4, iv p5, iv ca, iv cb, iv cc, iv cd, iv (3 : Int32), .unset, .unset, .unset] [(.int cd), (.int cc), (.int cb), (.int ca), (.int (3 : Int32))])) (argsL := [(.int (3 : Int32)), (.int ca), (.int cb), (.int cc), (.int cd)]) (rest := []) (W := 0) (lenOf pd_26 rfl) (hb hby at_47) hml
  obtain ⟨b348, rfl, N347q, K347q, szn_b348, q347_E_b348, q347_T_b348⟩ := hQ347
  have g_b348 : Z.heap.size ≤ b348 := Nat.le_trans Z0.1 szn_b348
  have sz_b348 : h0.size ≤ b348 := Nat.le_trans (Keep.refl h0 []).1 szn_b348
  have K347 : Keep h0 T347.heap [] := (Keep.refl h0 []).trans K347q all0
  have XX347 : Ext Z.heap T347.heap := own_extK Z0 K347q all0
  have N347 := Fr.app N0 N347q
  obtain ⟨_, T349, Lc349, X349, hQ349, st349⟩ := own_static (y := y_31) X347 hx hZ hown (own_w hw 27 rfl) (own_w hw 28 rfl) (own_w hw 29 rfl) (own_w hw 30 rfl) (own_lcC l Z a0 hw [] w_CS w_SF b348 [ca, cb, cc] T347.heap XX347 S_w_CS R_w_SF S_w_SF S_s__assertionsDisabled S_s_HI_BYTE_SHIFT S_s_LO_BYTE_SHIFT q347_E_b348 q347_T_b348 ⟨Nat.le_of_ble_eq_true rfl, Nat.le_of_ble_eq_true rfl⟩ (own_a16_s hc46 (own_a16_s hc50 (own_a16_s hc17 own_a16_0))) hc1 ⟨ca, by simp, hc47⟩) rfl (g := (mkF m 54 #[iv p1, iv p2, iv p3, iv p4, iv p5, iv ca, iv cb, iv cc, iv cd, iv (3 : Int32), rv b348, .unset, .unset] [(.ref b348)])) (argsL := [(.ref b348)]) (rest := []) (W := 0) (lenOf pd_27 rfl) (hb hby at_54) hml
  obtain ⟨b350, rfl, N349q, K349q, szn_b350, q349_E_b350, q349_T_b350⟩ := hQ349
  have g_b350 : Z.heap.size ≤ b350 := Nat.le_trans XX347.1 szn_b350
  have sz_b350 : h0.size ≤ b350 := Nat.le_trans K347.1 szn_b350
  have K349 : Keep h0 T349.heap [] := K347.trans K349q all0
  have XX349 : Ext Z.heap T349.heap := own_extK XX347 K349q all0
  have N349 := Fr.app N347 N349q
  obtain ⟨_, T351, Lc351, X351, hQ351, st351⟩ := own_virtual (y := y_4) X349 hx hZ hown (own_w hw 42 rfl) (own_w hw 32 rfl) (own_w hw 34 rfl) (own_w hw 33 rfl) (own_w hw 7 rfl) (own_w hw 35 rfl) (own_lenG l Z a0 hw [] w_CS b350 [(own_lo ca), (own_lo cb), (own_lo cc)] T349.heap XX349 S_w_CS q349_E_b350 q349_T_b350 hc1 (Nat.le_of_ble_eq_true rfl)) rfl q349_E_b350 (g := (mkF m 61 #[iv p1, iv p2, iv p3, iv p4, iv p5, iv ca, iv cb, iv cc, iv cd, iv (3 : Int32), rv b348, rv b350, .unset] [(.ref b350)])) (argsL := []) (rest := []) (W := 0) (lenOf pd_21 rfl) (hb hby at_61) hml
  obtain ⟨rfl, N351q, e351⟩ := hQ351
  have N351 := Fr.app N349 N351q
  obtain ⟨_, T352, Lc352, X352, hQ352, st352⟩ := own_virtual (y := y_9) X351 hx hZ hown (own_w hw 78 rfl) (own_w hw 54 rfl) (own_w hw 56 rfl) (own_w hw 55 rfl) (own_w hw 7 rfl) (own_w hw 57 rfl) (own_chG l Z a0 hw [] w_CS w_SF (own_lo ca) b350 [(own_lo ca), (own_lo cb), (own_lo cc)] (0 : Int32) T349.heap XX349 S_w_CS R_w_SF S_w_SF S_s__assertionsDisabled S_s_HI_BYTE_SHIFT S_s_LO_BYTE_SHIFT q349_E_b350 q349_T_b350 hc1 (own_u16_lo hc46) ⟨by decide, (by decide : (0 : Int32) < (3 : Int32)), rfl, Nat.le_of_ble_eq_true rfl⟩) e351 q349_E_b350 (g := (mkF m 82 #[iv p1, iv p2, iv p3, iv p4, iv p5, iv ca, iv cb, iv cc, iv cd, iv (3 : Int32), rv b348, rv b350, iv (0 : Int32)] [(.int (0 : Int32)), (.ref b350)])) (argsL := [(.int (0 : Int32))]) (rest := []) (W := 0) (lenOf pd_22 rfl) (hb hby at_82) hml
  obtain ⟨rfl, N352q, e352⟩ := hQ352
  have N352 := Fr.app N351 N352q
  obtain ⟨_, T353, Lc353, X353, hQ353, st353⟩ := own_static (y := y_2) X352 hx hZ hown (own_w hw 79 rfl) (own_w hw 80 rfl) (own_w hw 3 rfl) (own_w hw 81 rfl) (own_refJ l Z a0 hw [] ca T349.heap XX349 hc46) e352 (g := (mkF m 87 #[iv p1, iv p2, iv p3, iv p4, iv p5, iv ca, iv cb, iv cc, iv cd, iv (3 : Int32), rv b348, rv b350, iv (0 : Int32)] [(.int ca), (.int (own_lo ca))])) (argsL := [(.int ca)]) (rest := [(.int (own_lo ca))]) (W := 1) (lenOf pd_23 rfl) (hb hby at_87) hml
  obtain ⟨rfl, N353q, e353⟩ := hQ353
  have N353 := Fr.app N352 N353q
  obtain ⟨_, T354, Lc354, X354, hQ354, st354⟩ := own_static (y := y_0) X353 hx hZ hown (own_w hw 82 rfl) (own_w hw 83 rfl) (own_w hw 3 rfl) (own_w hw 84 rfl) (own_cap1 l Z a0 hw [] ca T349.heap XX349 hc47) e353 (g := (mkF m 102 #[iv p1, iv p2, iv p3, iv p4, iv p5, iv ca, iv cb, iv cc, iv cd, iv (3 : Int32), rv b348, rv b350, iv (0 : Int32)] [(.int ca)])) (argsL := [(.int ca)]) (rest := []) (W := 0) (lenOf pd_0 rfl) (hb hby at_102) hml
  obtain ⟨rfl, N354q, e354⟩ := hQ354
  have N354 := Fr.app N353 N354q
  obtain ⟨_, T355, Lc355, X355, hQ355, st355⟩ := own_virtual (y := y_9) X354 hx hZ hown (own_w hw 78 rfl) (own_w hw 54 rfl) (own_w hw 56 rfl) (own_w hw 55 rfl) (own_w hw 7 rfl) (own_w hw 57 rfl) (own_chG l Z a0 hw [] w_CS w_SF (own_lo cb) b350 [(own_lo ca), (own_lo cb), (own_lo cc)] (1 : Int32) T349.heap XX349 S_w_CS R_w_SF S_w_SF S_s__assertionsDisabled S_s_HI_BYTE_SHIFT S_s_LO_BYTE_SHIFT q349_E_b350 q349_T_b350 hc1 (own_u16_lo hc50) ⟨by decide, (by decide : (1 : Int32) < (3 : Int32)), rfl, Nat.le_of_ble_eq_true rfl⟩) e354 q349_E_b350 (g := (mkF m 124 #[iv p1, iv p2, iv p3, iv p4, iv p5, iv ca, iv cb, iv cc, iv cd, iv (3 : Int32), rv b348, rv b350, iv (1 : Int32)] [(.int (1 : Int32)), (.ref b350)])) (argsL := [(.int (1 : Int32))]) (rest := []) (W := 0) (lenOf pd_22 rfl) (hb hby at_124) hml
  obtain ⟨rfl, N355q, e355⟩ := hQ355
  have N355 := Fr.app N354 N355q
  obtain ⟨_, T356, Lc356, X356, hQ356, st356⟩ := own_static (y := y_2) X355 hx hZ hown (own_w hw 79 rfl) (own_w hw 80 rfl) (own_w hw 3 rfl) (own_w hw 81 rfl) (own_refJ l Z a0 hw [] cb T349.heap XX349 hc50) e355 (g := (mkF m 129 #[iv p1, iv p2, iv p3, iv p4, iv p5, iv ca, iv cb, iv cc, iv cd, iv (3 : Int32), rv b348, rv b350, iv (1 : Int32)] [(.int cb), (.int (own_lo cb))])) (argsL := [(.int cb)]) (rest := [(.int (own_lo cb))]) (W := 1) (lenOf pd_23 rfl) (hb hby at_129) hml
  obtain ⟨rfl, N356q, e356⟩ := hQ356
  have N356 := Fr.app N355 N356q
  obtain ⟨_, T357, Lc357, X357, hQ357, st357⟩ := own_virtual (y := y_9) X356 hx hZ hown (own_w hw 78 rfl) (own_w hw 54 rfl) (own_w hw 56 rfl) (own_w hw 55 rfl) (own_w hw 7 rfl) (own_w hw 57 rfl) (own_chG l Z a0 hw [] w_CS w_SF (own_lo cc) b350 [(own_lo ca), (own_lo cb), (own_lo cc)] (2 : Int32) T349.heap XX349 S_w_CS R_w_SF S_w_SF S_s__assertionsDisabled S_s_HI_BYTE_SHIFT S_s_LO_BYTE_SHIFT q349_E_b350 q349_T_b350 hc1 (own_u16_lo hc17) ⟨by decide, (by decide : (2 : Int32) < (3 : Int32)), rfl, Nat.le_of_ble_eq_true rfl⟩) e356 q349_E_b350 (g := (mkF m 166 #[iv p1, iv p2, iv p3, iv p4, iv p5, iv ca, iv cb, iv cc, iv cd, iv (3 : Int32), rv b348, rv b350, iv (1 : Int32)] [(.int (2 : Int32)), (.ref b350)])) (argsL := [(.int (2 : Int32))]) (rest := []) (W := 0) (lenOf pd_22 rfl) (hb hby at_166) hml
  obtain ⟨rfl, N357q, e357⟩ := hQ357
  have N357 := Fr.app N356 N357q
  obtain ⟨_, T358, Lc358, X358, hQ358, st358⟩ := own_static (y := y_2) X357 hx hZ hown (own_w hw 79 rfl) (own_w hw 80 rfl) (own_w hw 3 rfl) (own_w hw 81 rfl) (own_refJ l Z a0 hw [] cc T349.heap XX349 hc17) e357 (g := (mkF m 171 #[iv p1, iv p2, iv p3, iv p4, iv p5, iv ca, iv cb, iv cc, iv cd, iv (3 : Int32), rv b348, rv b350, iv (1 : Int32)] [(.int cc), (.int (own_lo cc))])) (argsL := [(.int cc)]) (rest := [(.int (own_lo cc))]) (W := 1) (lenOf pd_23 rfl) (hb hby at_171) hml
  obtain ⟨rfl, N358q, e358⟩ := hQ358
  have N358 := Fr.app N357 N358q
  obtain ⟨fs, hr, hrun, hended, hW, hsame⟩ := X358.leave (v := some (.int (1 : Int32))) (fun h => by rw [hret] at h; cases h) hlk
  refine ⟨_, _, ?_, hrun, hended, _, _, rfl, ?_, ⟨_, rfl⟩, hW, hsame.mono (by decide) (by decide)⟩
  · show own_S p e below s₁ (mkF m 0 #[iv p1, iv p2, iv p3, iv p4, iv p5, .unset, .unset, .unset, .unset, .unset, .unset, .unset, .unset] []) _
    refine own_iN X0 hx hby at_0 ?_
    refine X0.ldcInt hx hown (mvT hZ (own_w hw 0 rfl)) (g := (mkF m 1 #[iv p1, iv p2, iv p3, iv p4, iv p5, .unset, .unset, .unset, .unset, .unset, .unset, .unset, .unset] [(.int p1)])) rfl (hb hby at_1) _ ?_
    refine XS.iand X0.here hx rfl (hb hby at_3) rfl ?_
    refine XS.i2c X0.here hx rfl (hb hby at_4) rfl ?_
    show own_S p e below s₁ (mkF m 5 #[iv p1, iv p2, iv p3, iv p4, iv p5, .unset, .unset, .unset, .unset, .unset, .unset, .unset, .unset] [(.int ((p1 &&& (65535 : Int32)).toUInt32.toUInt16.toUInt32.toInt32))]) _
    rw [hc41]
    refine XS.istore X0.here hx rfl (hb hby at_5) rfl (l' := #[iv p1, iv p2, iv p3, iv p4, iv p5, iv ca, .unset, .unset, .unset, .unset, .unset, .unset, .unset]) rfl ?_
    refine own_iN X0 hx hby at_7 ?_
    refine X0.ldcInt hx hown (mvT hZ (own_w hw 0 rfl)) (g := (mkF m 8 #[iv p1, iv p2, iv p3, iv p4, iv p5, iv ca, .unset, .unset, .unset, .unset, .unset, .unset, .unset] [(.int p2)])) rfl (hb hby at_8) _ ?_
    refine XS.iand X0.here hx rfl (hb hby at_10) rfl ?_
    refine XS.i2c X0.here hx rfl (hb hby at_11) rfl ?_
    show own_S p e below s₁ (mkF m 12 #[iv p1, iv p2, iv p3, iv p4, iv p5, iv ca, .unset, .unset, .unset, .unset, .unset, .unset, .unset] [(.int ((p2 &&& (65535 : Int32)).toUInt32.toUInt16.toUInt32.toInt32))]) _
    rw [hc42]
    refine XS.istore X0.here hx rfl (hb hby at_12) rfl (l' := #[iv p1, iv p2, iv p3, iv p4, iv p5, iv ca, iv cb, .unset, .unset, .unset, .unset, .unset, .unset]) rfl ?_
    refine own_iN X0 hx hby at_14 ?_
    refine X0.ldcInt hx hown (mvT hZ (own_w hw 0 rfl)) (g := (mkF m 15 #[iv p1, iv p2, iv p3, iv p4, iv p5, iv ca, iv cb, .unset, .unset, .unset, .unset, .unset, .unset] [(.int p3)])) rfl (hb hby at_15) _ ?_
    refine XS.iand X0.here hx rfl (hb hby at_17) rfl ?_
    refine XS.i2c X0.here hx rfl (hb hby at_18) rfl ?_
    show own_S p e below s₁ (mkF m 19 #[iv p1, iv p2, iv p3, iv p4, iv p5, iv ca, iv cb, .unset, .unset, .unset, .unset, .unset, .unset] [(.int ((p3 &&& (65535 : Int32)).toUInt32.toUInt16.toUInt32.toInt32))]) _
    rw [hc43]
    refine XS.istore X0.here hx rfl (hb hby at_19) rfl (l' := #[iv p1, iv p2, iv p3, iv p4, iv p5, iv ca, iv cb, iv cc, .unset, .unset, .unset, .unset, .unset]) rfl ?_
    refine own_iN X0 hx hby at_21 ?_
    refine X0.ldcInt hx hown (mvT hZ (own_w hw 0 rfl)) (g := (mkF m 22 #[iv p1, iv p2, iv p3, iv p4, iv p5, iv ca, iv cb, iv cc, .unset, .unset, .unset, .unset, .unset] [(.int p4)])) rfl (hb hby at_22) _ ?_
    refine XS.iand X0.here hx rfl (hb hby at_24) rfl ?_
    refine XS.i2c X0.here hx rfl (hb hby at_25) rfl ?_
    show own_S p e below s₁ (mkF m 26 #[iv p1, iv p2, iv p3, iv p4, iv p5, iv ca, iv cb, iv cc, .unset, .unset, .unset, .unset, .unset] [(.int ((p4 &&& (65535 : Int32)).toUInt32.toUInt16.toUInt32.toInt32))]) _
    rw [hc44]
    refine XS.istore X0.here hx rfl (hb hby at_26) rfl (l' := #[iv p1, iv p2, iv p3, iv p4, iv p5, iv ca, iv cb, iv cc, iv cd, .unset, .unset, .unset, .unset]) rfl ?_
    refine own_i X0 hx hby at_28 ?_
    refine XS.bipush X0.here hx rfl (hb hby at_30) ?_
    refine XS.iand X0.here hx rfl (hb hby at_32) rfl ?_
    refine own_k X0 hx hby at_33 ?_
    refine iremM X0 hx rfl (hb hby at_34) rfl (by decide) ?_
    show own_S p e below s₁ (mkF m 35 #[iv p1, iv p2, iv p3, iv p4, iv p5, iv ca, iv cb, iv cc, iv cd, .unset, .unset, .unset, .unset] [(.int ((p5 &&& (7 : Int32)) % (5 : Int32)))]) _
    rw [hc53]
    refine XS.istore X0.here hx rfl (hb hby at_35) rfl (l' := #[iv p1, iv p2, iv p3, iv p4, iv p5, iv ca, iv cb, iv cc, iv cd, iv (3 : Int32), .unset, .unset, .unset]) rfl ?_
    refine own_i X0 hx hby at_37 ?_
    refine own_i X0 hx hby at_39 ?_
    refine own_i X0 hx hby at_41 ?_
    refine own_i X0 hx hby at_43 ?_
    refine own_i X0 hx hby at_45 ?_
    refine st347 _ ?_
    refine XS.astore X347.here hx rfl (hb hby at_50) rfl rfl (l' := #[iv p1, iv p2, iv p3, iv p4, iv p5, iv ca, iv cb, iv cc, iv cd, iv (3 : Int32), rv b348, .unset, .unset]) rfl ?_
    refine own_a X347 hx hby at_52 ?_
    refine st349 _ ?_
    refine XS.astore X349.here hx rfl (hb hby at_57) rfl rfl (l' := #[iv p1, iv p2, iv p3, iv p4, iv p5, iv ca, iv cb, iv cc, iv cd, iv (3 : Int32), rv b348, rv b350, .unset]) rfl ?_
    refine own_a X349 hx hby at_59 ?_
    refine st351 _ ?_
    refine own_i X351 hx hby at_64 ?_
    refine own_cy (pc := 66) X351 hx hby at_66 (teq (rfl : (3 : Int32) = (3 : Int32))).1 71 ?_
    refine own_k X351 hx hby at_71 ?_
    refine XS.istore X351.here hx rfl (hb hby at_72) rfl (l' := #[iv p1, iv p2, iv p3, iv p4, iv p5, iv ca, iv cb, iv cc, iv cd, iv (3 : Int32), rv b348, rv b350, iv (0 : Int32)]) rfl ?_
    refine own_i X351 hx hby at_74 ?_
    refine own_in X351 hx hby at_76 (tlt (by decide : (0 : Int32) < (3 : Int32))).2.2.2 ?_
    refine own_a X351 hx hby at_79 ?_
    refine own_k X351 hx hby at_81 ?_
    refine st352 _ ?_
    refine own_i X352 hx hby at_85 ?_
    refine st353 _ ?_
    refine own_cy (pc := 90) X353 hx hby at_90 (teq (rfl : (own_lo ca) = (own_lo ca))).1 95 ?_
    refine own_i X353 hx hby at_95 ?_
    refine own_in X353 hx hby at_97 (teq (rfl : (0 : Int32) = (0 : Int32))).2 ?_
    refine own_i X353 hx hby at_100 ?_
    refine st354 _ ?_
    refine own_in X354 hx hby at_105 (feq (by decide : ¬ ((1 : Int32) = (0 : Int32)))).1 ?_
    refine own_k X354 hx hby at_108 ?_
    refine own_go (pc := 109) X354 hx hby at_109 113 ?_
    refine XS.istore X354.here hx rfl (hb hby at_113) rfl (l' := #[iv p1, iv p2, iv p3, iv p4, iv p5, iv ca, iv cb, iv cc, iv cd, iv (3 : Int32), rv b348, rv b350, iv (1 : Int32)]) rfl ?_
    refine own_i X354 hx hby at_115 ?_
    refine own_k X354 hx hby at_117 ?_
    refine own_cn X354 hx hby at_118 (tlt (by decide : (1 : Int32) < (3 : Int32))).2.2.2 ?_
    refine own_a X354 hx hby at_121 ?_
    refine own_k X354 hx hby at_123 ?_
    refine st355 _ ?_
    refine own_i X355 hx hby at_127 ?_
    refine st356 _ ?_
    refine own_cy (pc := 132) X356 hx hby at_132 (teq (rfl : (own_lo cb) = (own_lo cb))).1 137 ?_
    refine own_i X356 hx hby at_137 ?_
    refine own_iy (pc := 139) X356 hx hby at_139 (feq (by decide : ¬ ((1 : Int32) = (0 : Int32)))).2 150 ?_
    refine own_k X356 hx hby at_150 ?_
    refine own_go (pc := 151) X356 hx hby at_151 155 ?_
    refine XS.istore X356.here hx rfl (hb hby at_155) rfl (l' := #[iv p1, iv p2, iv p3, iv p4, iv p5, iv ca, iv cb, iv cc, iv cd, iv (3 : Int32), rv b348, rv b350, iv (1 : Int32)]) rfl ?_
    refine own_i X356 hx hby at_157 ?_
    refine own_k X356 hx hby at_159 ?_
    refine own_cn X356 hx hby at_160 (tlt (by decide : (2 : Int32) < (3 : Int32))).2.2.2 ?_
    refine own_a X356 hx hby at_163 ?_
    refine own_k X356 hx hby at_165 ?_
    refine st357 _ ?_
    refine own_i X357 hx hby at_169 ?_
    refine st358 _ ?_
    refine own_cy (pc := 174) X358 hx hby at_174 (teq (rfl : (own_lo cc) = (own_lo cc))).1 179 ?_
    refine own_i X358 hx hby at_179 ?_
    refine own_iy (pc := 181) X358 hx hby at_181 (feq (by decide : ¬ ((1 : Int32) = (0 : Int32)))).2 192 ?_
    refine own_k X358 hx hby at_192 ?_
    refine own_go (pc := 193) X358 hx hby at_193 197 ?_
    refine XS.istore X358.here hx rfl (hb hby at_197) rfl (l' := #[iv p1, iv p2, iv p3, iv p4, iv p5, iv ca, iv cb, iv cc, iv cd, iv (3 : Int32), rv b348, rv b350, iv (1 : Int32)]) rfl ?_
    refine own_i X358 hx hby at_199 ?_
    refine own_k X358 hx hby at_201 ?_
    refine own_cy (pc := 202) X358 hx hby at_202 (flt (Int32.lt_irrefl : ¬ ((3 : Int32) < (3 : Int32)))).2.2.2 241 ?_
    refine own_i X358 hx hby at_241 ?_
    refine own_iy (pc := 243) X358 hx hby at_243 (feq (by decide : ¬ ((1 : Int32) = (0 : Int32)))).2 255 ?_
    refine own_k X358 hx hby at_255 ?_
    exact retN X358 hx (t := .boolean) hret (by simp) (hb hby at_256) hr
  · show Qrm0_3_0 Z w_CS w_SF p1 p2 p3 p4 p5 ca cb cc cd h0 _ T358.heap _
    exact ⟨rfl, N358⟩
def Qrm0_3_1 (Z : State) (w_CS : Int32) (w_SF : Value) (p1 p2 p3 p4 p5 ca cb cc cd : Int32) (h0 : Heap) (v : Option Value) (h : Heap) (L : List Loc) : Prop := v = some (.int 1) ∧ Fr Z.heap.size L
theorem rm0_3_1 (l : Launch) (Z : State) (a0 : Array Value) (hw : own_HW Z a0) (ws : List Jvm.Cond) (w_CS : Int32) (w_SF : Value) (p1 p2 p3 p4 p5 ca cb cc cd : Int32) (h0 : Heap) (Z0 : Ext Z.heap h0) (S_w_CS : own_w_CS Z w_CS) (S_s__assertionsDisabled : own_s__assertionsDisabled Z) (S_s_HI_BYTE_SHIFT : own_s_HI_BYTE_SHIFT Z) (S_s_LO_BYTE_SHIFT : own_s_LO_BYTE_SHIFT Z) (R_w_SF : w_SF.isRef = true) (S_w_SF : own_w_SF Z w_SF) (hc41 : ((p1 &&& (65535 : Int32)).toUInt32.toUInt16.toUInt32.toInt32) = ca) (hc42 : ((p2 &&& (65535 : Int32)).toUInt32.toUInt16.toUInt32.toInt32) = cb) (hc43 : ((p3 &&& (65535 : Int32)).toUInt32.toUInt16.toUInt32.toInt32) = cc) (hc44 : ((p4 &&& (65535 : Int32)).toUInt32.toUInt16.toUInt32.toInt32) = cd) (hc53 : ((p5 &&& (7 : Int32)) % (5 : Int32)) = (3 : Int32)) (hc46 : own_u16 ca) (hc50 : own_u16 cb) (hc17 : own_u16 cc) (hc1 : ¬ (w_CS = (0 : Int32))) (hc51 : ¬ ((own_lo cb) = cb)) (hc48 : (own_lo ca) = ca) :
    own_met l x code maxLocals ret ws room_1 Z #[(.int p1), (.int p2), (.int p3), (.int p4), (.int p5)] h0 (Qrm0_3_1 Z w_CS w_SF p1 p2 p3 p4 p5 ca cb cc cd h0) := by
  refine own_start (plainFor_of_name pn_0) (fun m => ef_code_IIIII m p1 p2 p3 p4 p5) ?_
  intro p e s m below meth c s₁ hx hby hml hown hnm X0 hZ e0 hret hlk
  have N0 := Fr.nil Z.heap.size
  obtain ⟨_, T359, Lc359, X359, hQ359, st359⟩ := own_static (y := y_32) X0 hx hZ hown (own_w hw 1 rfl) (own_w hw 2 rfl) (own_w hw 3 rfl) (own_w hw 4 rfl) (rm335 l Z a0 hw [] w_CS ca cb cc cd h0 Z0 S_w_CS S_s__assertionsDisabled S_s_HI_BYTE_SHIFT S_s_LO_BYTE_SHIFT hc46 hc50 hc17 hc1) e0 (g := (mkF m 47 #[iv p1, iv p2, iv p3, iv p4, iv p5, iv ca, iv cb, iv cc, iv cd, iv (3 : Int32), .unset, .unset, .unset] [(.int cd), (.int cc), (.int cb), (.int ca), (.int (3 : Int32))])) (argsL := [(.int (3 : Int32)), (.int ca), (.int cb), (.int cc), (.int cd)]) (rest := []) (W := 0) (lenOf pd_26 rfl) (hb hby at_47) hml
  obtain ⟨b360, rfl, N359q, K359q, szn_b360, q359_E_b360, q359_T_b360⟩ := hQ359
  have g_b360 : Z.heap.size ≤ b360 := Nat.le_trans Z0.1 szn_b360
  have sz_b360 : h0.size ≤ b360 := Nat.le_trans (Keep.refl h0 []).1 szn_b360
  have K359 : Keep h0 T359.heap [] := (Keep.refl h0 []).trans K359q all0
  have XX359 : Ext Z.heap T359.heap := own_extK Z0 K359q all0
  have N359 := Fr.app N0 N359q
  obtain ⟨_, T361, Lc361, X361, hQ361, st361⟩ := own_static (y := y_31) X359 hx hZ hown (own_w hw 27 rfl) (own_w hw 28 rfl) (own_w hw 29 rfl) (own_w hw 30 rfl) (own_lcC l Z a0 hw [] w_CS w_SF b360 [ca, cb, cc] T359.heap XX359 S_w_CS R_w_SF S_w_SF S_s__assertionsDisabled S_s_HI_BYTE_SHIFT S_s_LO_BYTE_SHIFT q359_E_b360 q359_T_b360 ⟨Nat.le_of_ble_eq_true rfl, Nat.le_of_ble_eq_true rfl⟩ (own_a16_s hc46 (own_a16_s hc50 (own_a16_s hc17 own_a16_0))) hc1 ⟨cb, by simp, hc51⟩) rfl (g := (mkF m 54 #[iv p1, iv p2, iv p3, iv p4, iv p5, iv ca, iv cb, iv cc, iv cd, iv (3 : Int32), rv b360, .unset, .unset] [(.ref b360)])) (argsL := [(.ref b360)]) (rest := []) (W := 0) (lenOf pd_27 rfl) (hb hby at_54) hml
  obtain ⟨b362, rfl, N361q, K361q, szn_b362, q361_E_b362, q361_T_b362⟩ := hQ361
  have g_b362 : Z.heap.size ≤ b362 := Nat.le_trans XX359.1 szn_b362
  have sz_b362 : h0.size ≤ b362 := Nat.le_trans K359.1 szn_b362
  have K361 : Keep h0 T361.heap [] := K359.trans K361q all0
  have XX361 : Ext Z.heap T361.heap := own_extK XX359 K361q all0
  have N361 := Fr.app N359 N361q
  obtain ⟨_, T363, Lc363, X363, hQ363, st363⟩ := own_virtual (y := y_4) X361 hx hZ hown (own_w hw 42 rfl) (own_w hw 32 rfl) (own_w hw 34 rfl) (own_w hw 33 rfl) (own_w hw 7 rfl) (own_w hw 35 rfl) (own_lenG l Z a0 hw [] w_CS b362 [(own_lo ca), (own_lo cb), (own_lo cc)] T361.heap XX361 S_w_CS q361_E_b362 q361_T_b362 hc1 (Nat.le_of_ble_eq_true rfl)) rfl q361_E_b362 (g := (mkF m 61 #[iv p1, iv p2, iv p3, iv p4, iv p5, iv ca, iv cb, iv cc, iv cd, iv (3 : Int32), rv b360, rv b362, .unset] [(.ref b362)])) (argsL := []) (rest := []) (W := 0) (lenOf pd_21 rfl) (hb hby at_61) hml
  obtain ⟨rfl, N363q, e363⟩ := hQ363
  have N363 := Fr.app N361 N363q
  obtain ⟨_, T364, Lc364, X364, hQ364, st364⟩ := own_virtual (y := y_9) X363 hx hZ hown (own_w hw 78 rfl) (own_w hw 54 rfl) (own_w hw 56 rfl) (own_w hw 55 rfl) (own_w hw 7 rfl) (own_w hw 57 rfl) (own_chG l Z a0 hw [] w_CS w_SF (own_lo ca) b362 [(own_lo ca), (own_lo cb), (own_lo cc)] (0 : Int32) T361.heap XX361 S_w_CS R_w_SF S_w_SF S_s__assertionsDisabled S_s_HI_BYTE_SHIFT S_s_LO_BYTE_SHIFT q361_E_b362 q361_T_b362 hc1 (own_u16_lo hc46) ⟨by decide, (by decide : (0 : Int32) < (3 : Int32)), rfl, Nat.le_of_ble_eq_true rfl⟩) e363 q361_E_b362 (g := (mkF m 82 #[iv p1, iv p2, iv p3, iv p4, iv p5, iv ca, iv cb, iv cc, iv cd, iv (3 : Int32), rv b360, rv b362, iv (0 : Int32)] [(.int (0 : Int32)), (.ref b362)])) (argsL := [(.int (0 : Int32))]) (rest := []) (W := 0) (lenOf pd_22 rfl) (hb hby at_82) hml
  obtain ⟨rfl, N364q, e364⟩ := hQ364
  have N364 := Fr.app N363 N364q
  obtain ⟨_, T365, Lc365, X365, hQ365, st365⟩ := own_static (y := y_2) X364 hx hZ hown (own_w hw 79 rfl) (own_w hw 80 rfl) (own_w hw 3 rfl) (own_w hw 81 rfl) (own_refJ l Z a0 hw [] ca T361.heap XX361 hc46) e364 (g := (mkF m 87 #[iv p1, iv p2, iv p3, iv p4, iv p5, iv ca, iv cb, iv cc, iv cd, iv (3 : Int32), rv b360, rv b362, iv (0 : Int32)] [(.int ca), (.int (own_lo ca))])) (argsL := [(.int ca)]) (rest := [(.int (own_lo ca))]) (W := 1) (lenOf pd_23 rfl) (hb hby at_87) hml
  obtain ⟨rfl, N365q, e365⟩ := hQ365
  have N365 := Fr.app N364 N365q
  obtain ⟨_, T366, Lc366, X366, hQ366, st366⟩ := own_static (y := y_0) X365 hx hZ hown (own_w hw 82 rfl) (own_w hw 83 rfl) (own_w hw 3 rfl) (own_w hw 84 rfl) (own_cap0 l Z a0 hw [] ca T361.heap XX361 hc48) e365 (g := (mkF m 102 #[iv p1, iv p2, iv p3, iv p4, iv p5, iv ca, iv cb, iv cc, iv cd, iv (3 : Int32), rv b360, rv b362, iv (0 : Int32)] [(.int ca)])) (argsL := [(.int ca)]) (rest := []) (W := 0) (lenOf pd_0 rfl) (hb hby at_102) hml
  obtain ⟨rfl, N366q, e366⟩ := hQ366
  have N366 := Fr.app N365 N366q
  obtain ⟨_, T367, Lc367, X367, hQ367, st367⟩ := own_virtual (y := y_9) X366 hx hZ hown (own_w hw 78 rfl) (own_w hw 54 rfl) (own_w hw 56 rfl) (own_w hw 55 rfl) (own_w hw 7 rfl) (own_w hw 57 rfl) (own_chG l Z a0 hw [] w_CS w_SF (own_lo cb) b362 [(own_lo ca), (own_lo cb), (own_lo cc)] (1 : Int32) T361.heap XX361 S_w_CS R_w_SF S_w_SF S_s__assertionsDisabled S_s_HI_BYTE_SHIFT S_s_LO_BYTE_SHIFT q361_E_b362 q361_T_b362 hc1 (own_u16_lo hc50) ⟨by decide, (by decide : (1 : Int32) < (3 : Int32)), rfl, Nat.le_of_ble_eq_true rfl⟩) e366 q361_E_b362 (g := (mkF m 124 #[iv p1, iv p2, iv p3, iv p4, iv p5, iv ca, iv cb, iv cc, iv cd, iv (3 : Int32), rv b360, rv b362, iv (0 : Int32)] [(.int (1 : Int32)), (.ref b362)])) (argsL := [(.int (1 : Int32))]) (rest := []) (W := 0) (lenOf pd_22 rfl) (hb hby at_124) hml
  obtain ⟨rfl, N367q, e367⟩ := hQ367
  have N367 := Fr.app N366 N367q
  obtain ⟨_, T368, Lc368, X368, hQ368, st368⟩ := own_static (y := y_2) X367 hx hZ hown (own_w hw 79 rfl) (own_w hw 80 rfl) (own_w hw 3 rfl) (own_w hw 81 rfl) (own_refJ l Z a0 hw [] cb T361.heap XX361 hc50) e367 (g := (mkF m 129 #[iv p1, iv p2, iv p3, iv p4, iv p5, iv ca, iv cb, iv cc, iv cd, iv (3 : Int32), rv b360, rv b362, iv (0 : Int32)] [(.int cb), (.int (own_lo cb))])) (argsL := [(.int cb)]) (rest := [(.int (own_lo cb))]) (W := 1) (lenOf pd_23 rfl) (hb hby at_129) hml
  obtain ⟨rfl, N368q, e368⟩ := hQ368
  have N368 := Fr.app N367 N368q
  obtain ⟨_, T369, Lc369, X369, hQ369, st369⟩ := own_static (y := y_0) X368 hx hZ hown (own_w hw 82 rfl) (own_w hw 83 rfl) (own_w hw 3 rfl) (own_w hw 84 rfl) (own_cap1 l Z a0 hw [] cb T361.heap XX361 hc51) e368 (g := (mkF m 144 #[iv p1, iv p2, iv p3, iv p4, iv p5, iv ca, iv cb, iv cc, iv cd, iv (3 : Int32), rv b360, rv b362, iv (0 : Int32)] [(.int cb)])) (argsL := [(.int cb)]) (rest := []) (W := 0) (lenOf pd_0 rfl) (hb hby at_144) hml
  obtain ⟨rfl, N369q, e369⟩ := hQ369
  have N369 := Fr.app N368 N369q
  obtain ⟨_, T370, Lc370, X370, hQ370, st370⟩ := own_virtual (y := y_9) X369 hx hZ hown (own_w hw 78 rfl) (own_w hw 54 rfl) (own_w hw 56 rfl) (own_w hw 55 rfl) (own_w hw 7 rfl) (own_w hw 57 rfl) (own_chG l Z a0 hw [] w_CS w_SF (own_lo cc) b362 [(own_lo ca), (own_lo cb), (own_lo cc)] (2 : Int32) T361.heap XX361 S_w_CS R_w_SF S_w_SF S_s__assertionsDisabled S_s_HI_BYTE_SHIFT S_s_LO_BYTE_SHIFT q361_E_b362 q361_T_b362 hc1 (own_u16_lo hc17) ⟨by decide, (by decide : (2 : Int32) < (3 : Int32)), rfl, Nat.le_of_ble_eq_true rfl⟩) e369 q361_E_b362 (g := (mkF m 166 #[iv p1, iv p2, iv p3, iv p4, iv p5, iv ca, iv cb, iv cc, iv cd, iv (3 : Int32), rv b360, rv b362, iv (1 : Int32)] [(.int (2 : Int32)), (.ref b362)])) (argsL := [(.int (2 : Int32))]) (rest := []) (W := 0) (lenOf pd_22 rfl) (hb hby at_166) hml
  obtain ⟨rfl, N370q, e370⟩ := hQ370
  have N370 := Fr.app N369 N370q
  obtain ⟨_, T371, Lc371, X371, hQ371, st371⟩ := own_static (y := y_2) X370 hx hZ hown (own_w hw 79 rfl) (own_w hw 80 rfl) (own_w hw 3 rfl) (own_w hw 81 rfl) (own_refJ l Z a0 hw [] cc T361.heap XX361 hc17) e370 (g := (mkF m 171 #[iv p1, iv p2, iv p3, iv p4, iv p5, iv ca, iv cb, iv cc, iv cd, iv (3 : Int32), rv b360, rv b362, iv (1 : Int32)] [(.int cc), (.int (own_lo cc))])) (argsL := [(.int cc)]) (rest := [(.int (own_lo cc))]) (W := 1) (lenOf pd_23 rfl) (hb hby at_171) hml
  obtain ⟨rfl, N371q, e371⟩ := hQ371
  have N371 := Fr.app N370 N371q
  obtain ⟨fs, hr, hrun, hended, hW, hsame⟩ := X371.leave (v := some (.int (1 : Int32))) (fun h => by rw [hret] at h; cases h) hlk
  refine ⟨_, _, ?_, hrun, hended, _, _, rfl, ?_, ⟨_, rfl⟩, hW, hsame.mono (by decide) (by decide)⟩
  · show own_S p e below s₁ (mkF m 0 #[iv p1, iv p2, iv p3, iv p4, iv p5, .unset, .unset, .unset, .unset, .unset, .unset, .unset, .unset] []) _
    refine own_iN X0 hx hby at_0 ?_
    refine X0.ldcInt hx hown (mvT hZ (own_w hw 0 rfl)) (g := (mkF m 1 #[iv p1, iv p2, iv p3, iv p4, iv p5, .unset, .unset, .unset, .unset, .unset, .unset, .unset, .unset] [(.int p1)])) rfl (hb hby at_1) _ ?_
    refine XS.iand X0.here hx rfl (hb hby at_3) rfl ?_
    refine XS.i2c X0.here hx rfl (hb hby at_4) rfl ?_
    show own_S p e below s₁ (mkF m 5 #[iv p1, iv p2, iv p3, iv p4, iv p5, .unset, .unset, .unset, .unset, .unset, .unset, .unset, .unset] [(.int ((p1 &&& (65535 : Int32)).toUInt32.toUInt16.toUInt32.toInt32))]) _
    rw [hc41]
    refine XS.istore X0.here hx rfl (hb hby at_5) rfl (l' := #[iv p1, iv p2, iv p3, iv p4, iv p5, iv ca, .unset, .unset, .unset, .unset, .unset, .unset, .unset]) rfl ?_
    refine own_iN X0 hx hby at_7 ?_
    refine X0.ldcInt hx hown (mvT hZ (own_w hw 0 rfl)) (g := (mkF m 8 #[iv p1, iv p2, iv p3, iv p4, iv p5, iv ca, .unset, .unset, .unset, .unset, .unset, .unset, .unset] [(.int p2)])) rfl (hb hby at_8) _ ?_
    refine XS.iand X0.here hx rfl (hb hby at_10) rfl ?_
    refine XS.i2c X0.here hx rfl (hb hby at_11) rfl ?_
    show own_S p e below s₁ (mkF m 12 #[iv p1, iv p2, iv p3, iv p4, iv p5, iv ca, .unset, .unset, .unset, .unset, .unset, .unset, .unset] [(.int ((p2 &&& (65535 : Int32)).toUInt32.toUInt16.toUInt32.toInt32))]) _
    rw [hc42]
    refine XS.istore X0.here hx rfl (hb hby at_12) rfl (l' := #[iv p1, iv p2, iv p3, iv p4, iv p5, iv ca, iv cb, .unset, .unset, .unset, .unset, .unset, .unset]) rfl ?_
    refine own_iN X0 hx hby at_14 ?_
    refine X0.ldcInt hx hown (mvT hZ (own_w hw 0 rfl)) (g := (mkF m 15 #[iv p1, iv p2, iv p3, iv p4, iv p5, iv ca, iv cb, .unset, .unset, .unset, .unset, .unset, .unset] [(.int p3)])) rfl (hb hby at_15) _ ?_
    refine XS.iand X0.here hx rfl (hb hby at_17) rfl ?_
    refine XS.i2c X0.here hx rfl (hb hby at_18) rfl ?_
    show own_S p e below s₁ (mkF m 19 #[iv p1, iv p2, iv p3, iv p4, iv p5, iv ca, iv cb, .unset, .unset, .unset, .unset, .unset, .unset] [(.int ((p3 &&& (65535 : Int32)).toUInt32.toUInt16.toUInt32.toInt32))]) _
    rw [hc43]
    refine XS.istore X0.here hx rfl (hb hby at_19) rfl (l' := #[iv p1, iv p2, iv p3, iv p4, iv p5, iv ca, iv cb, iv cc, .unset, .unset, .unset, .unset, .unset]) rfl ?_
    refine own_iN X0 hx hby at_21 ?_
    refine X0.ldcInt hx hown (mvT hZ (own_w hw 0 rfl)) (g := (mkF m 22 #[iv p1, iv p2, iv p3, iv p4, iv p5, iv ca, iv cb, iv cc, .unset, .unset, .unset, .unset, .unset] [(.int p4)])) rfl (hb hby at_22) _ ?_
    refine XS.iand X0.here hx rfl (hb hby at_24) rfl ?_
    refine XS.i2c X0.here hx rfl (hb hby at_25) rfl ?_
    show own_S p e below s₁ (mkF m 26 #[iv p1, iv p2, iv p3, iv p4, iv p5, iv ca, iv cb, iv cc, .unset, .unset, .unset, .unset, .unset] [(.int ((p4 &&& (65535 : Int32)).toUInt32.toUInt16.toUInt32.toInt32))]) _
    rw [hc44]
    refine XS.istore X0.here hx rfl (hb hby at_26) rfl (l' := #[iv p1, iv p2, iv p3, iv p4, iv p5, iv ca, iv cb, iv cc, iv cd, .unset, .unset, .unset, .unset]) rfl ?_
    refine own_i X0 hx hby at_28 ?_
    refine XS.bipush X0.here hx rfl (hb hby at_30) ?_
    refine XS.iand X0.here hx rfl (hb hby at_32) rfl ?_
    refine own_k X0 hx hby at_33 ?_
    refine iremM X0 hx rfl (hb hby at_34) rfl (by decide) ?_
    show own_S p e below s₁ (mkF m 35 #[iv p1, iv p2, iv p3, iv p4, iv p5, iv ca, iv cb, iv cc, iv cd, .unset, .unset, .unset, .unset] [(.int ((p5 &&& (7 : Int32)) % (5 : Int32)))]) _
    rw [hc53]
    refine XS.istore X0.here hx rfl (hb hby at_35) rfl (l' := #[iv p1, iv p2, iv p3, iv p4, iv p5, iv ca, iv cb, iv cc, iv cd, iv (3 : Int32), .unset, .unset, .unset]) rfl ?_
    refine own_i X0 hx hby at_37 ?_
    refine own_i X0 hx hby at_39 ?_
    refine own_i X0 hx hby at_41 ?_
    refine own_i X0 hx hby at_43 ?_
    refine own_i X0 hx hby at_45 ?_
    refine st359 _ ?_
    refine XS.astore X359.here hx rfl (hb hby at_50) rfl rfl (l' := #[iv p1, iv p2, iv p3, iv p4, iv p5, iv ca, iv cb, iv cc, iv cd, iv (3 : Int32), rv b360, .unset, .unset]) rfl ?_
    refine own_a X359 hx hby at_52 ?_
    refine st361 _ ?_
    refine XS.astore X361.here hx rfl (hb hby at_57) rfl rfl (l' := #[iv p1, iv p2, iv p3, iv p4, iv p5, iv ca, iv cb, iv cc, iv cd, iv (3 : Int32), rv b360, rv b362, .unset]) rfl ?_
    refine own_a X361 hx hby at_59 ?_
    refine st363 _ ?_
    refine own_i X363 hx hby at_64 ?_
    refine own_cy (pc := 66) X363 hx hby at_66 (teq (rfl : (3 : Int32) = (3 : Int32))).1 71 ?_
    refine own_k X363 hx hby at_71 ?_
    refine XS.istore X363.here hx rfl (hb hby at_72) rfl (l' := #[iv p1, iv p2, iv p3, iv p4, iv p5, iv ca, iv cb, iv cc, iv cd, iv (3 : Int32), rv b360, rv b362, iv (0 : Int32)]) rfl ?_
    refine own_i X363 hx hby at_74 ?_
    refine own_in X363 hx hby at_76 (tlt (by decide : (0 : Int32) < (3 : Int32))).2.2.2 ?_
    refine own_a X363 hx hby at_79 ?_
    refine own_k X363 hx hby at_81 ?_
    refine st364 _ ?_
    refine own_i X364 hx hby at_85 ?_
    refine st365 _ ?_
    refine own_cy (pc := 90) X365 hx hby at_90 (teq (rfl : (own_lo ca) = (own_lo ca))).1 95 ?_
    refine own_i X365 hx hby at_95 ?_
    refine own_in X365 hx hby at_97 (teq (rfl : (0 : Int32) = (0 : Int32))).2 ?_
    refine own_i X365 hx hby at_100 ?_
    refine st366 _ ?_
    refine own_iy (pc := 105) X366 hx hby at_105 (teq (rfl : (0 : Int32) = (0 : Int32))).1 112 ?_
    refine own_k X366 hx hby at_112 ?_
    refine XS.istore X366.here hx rfl (hb hby at_113) rfl (l' := #[iv p1, iv p2, iv p3, iv p4, iv p5, iv ca, iv cb, iv cc, iv cd, iv (3 : Int32), rv b360, rv b362, iv (0 : Int32)]) rfl ?_
    refine own_i X366 hx hby at_115 ?_
    refine own_k X366 hx hby at_117 ?_
    refine own_cn X366 hx hby at_118 (tlt (by decide : (1 : Int32) < (3 : Int32))).2.2.2 ?_
    refine own_a X366 hx hby at_121 ?_
    refine own_k X366 hx hby at_123 ?_
    refine st367 _ ?_
    refine own_i X367 hx hby at_127 ?_
    refine st368 _ ?_
    refine own_cy (pc := 132) X368 hx hby at_132 (teq (rfl : (own_lo cb) = (own_lo cb))).1 137 ?_
    refine own_i X368 hx hby at_137 ?_
    refine own_in X368 hx hby at_139 (teq (rfl : (0 : Int32) = (0 : Int32))).2 ?_
    refine own_i X368 hx hby at_142 ?_
    refine st369 _ ?_
    refine own_in X369 hx hby at_147 (feq (by decide : ¬ ((1 : Int32) = (0 : Int32)))).1 ?_
    refine own_k X369 hx hby at_150 ?_
    refine own_go (pc := 151) X369 hx hby at_151 155 ?_
    refine XS.istore X369.here hx rfl (hb hby at_155) rfl (l' := #[iv p1, iv p2, iv p3, iv p4, iv p5, iv ca, iv cb, iv cc, iv cd, iv (3 : Int32), rv b360, rv b362, iv (1 : Int32)]) rfl ?_
    refine own_i X369 hx hby at_157 ?_
    refine own_k X369 hx hby at_159 ?_
    refine own_cn X369 hx hby at_160 (tlt (by decide : (2 : Int32) < (3 : Int32))).2.2.2 ?_
    refine own_a X369 hx hby at_163 ?_
    refine own_k X369 hx hby at_165 ?_
    refine st370 _ ?_
    refine own_i X370 hx hby at_169 ?_
    refine st371 _ ?_
    refine own_cy (pc := 174) X371 hx hby at_174 (teq (rfl : (own_lo cc) = (own_lo cc))).1 179 ?_
    refine own_i X371 hx hby at_179 ?_
    refine own_iy (pc := 181) X371 hx hby at_181 (feq (by decide : ¬ ((1 : Int32) = (0 : Int32)))).2 192 ?_
    refine own_k X371 hx hby at_192 ?_
    refine own_go (pc := 193) X371 hx hby at_193 197 ?_
    refine XS.istore X371.here hx rfl (hb hby at_197) rfl (l' := #[iv p1, iv p2, iv p3, iv p4, iv p5, iv ca, iv cb, iv cc, iv cd, iv (3 : Int32), rv b360, rv b362, iv (1 : Int32)]) rfl ?_
    refine own_i X371 hx hby at_199 ?_
    refine own_k X371 hx hby at_201 ?_
    refine own_cy (pc := 202) X371 hx hby at_202 (flt (Int32.lt_irrefl : ¬ ((3 : Int32) < (3 : Int32)))).2.2.2 241 ?_
    refine own_i X371 hx hby at_241 ?_
    refine own_iy (pc := 243) X371 hx hby at_243 (feq (by decide : ¬ ((1 : Int32) = (0 : Int32)))).2 255 ?_
    refine own_k X371 hx hby at_255 ?_
    exact retN X371 hx (t := .boolean) hret (by simp) (hb hby at_256) hr
  · show Qrm0_3_1 Z w_CS w_SF p1 p2 p3 p4 p5 ca cb cc cd h0 _ T371.heap _
    exact ⟨rfl, N371⟩
def Qrm0_3_2 (Z : State) (w_CS : Int32) (w_SF : Value) (p1 p2 p3 p4 p5 ca cb cc cd : Int32) (h0 : Heap) (v : Option Value) (h : Heap) (L : List Loc) : Prop := v = some (.int 1) ∧ Fr Z.heap.size L
theorem rm0_3_2 (l : Launch) (Z : State) (a0 : Array Value) (hw : own_HW Z a0) (ws : List Jvm.Cond) (w_CS : Int32) (w_SF : Value) (p1 p2 p3 p4 p5 ca cb cc cd : Int32) (h0 : Heap) (Z0 : Ext Z.heap h0) (S_w_CS : own_w_CS Z w_CS) (S_s__assertionsDisabled : own_s__assertionsDisabled Z) (S_s_HI_BYTE_SHIFT : own_s_HI_BYTE_SHIFT Z) (S_s_LO_BYTE_SHIFT : own_s_LO_BYTE_SHIFT Z) (R_w_SF : w_SF.isRef = true) (S_w_SF : own_w_SF Z w_SF) (hc41 : ((p1 &&& (65535 : Int32)).toUInt32.toUInt16.toUInt32.toInt32) = ca) (hc42 : ((p2 &&& (65535 : Int32)).toUInt32.toUInt16.toUInt32.toInt32) = cb) (hc43 : ((p3 &&& (65535 : Int32)).toUInt32.toUInt16.toUInt32.toInt32) = cc) (hc44 : ((p4 &&& (65535 : Int32)).toUInt32.toUInt16.toUInt32.toInt32) = cd) (hc53 : ((p5 &&& (7 : Int32)) % (5 : Int32)) = (3 : Int32)) (hc46 : own_u16 ca) (hc50 : own_u16 cb) (hc17 : own_u16 cc) (hc1 : ¬ (w_CS = (0 : Int32))) (hc54 : ¬ ((own_lo cc) = cc)) (hc48 : (own_lo ca) = ca) (hc52 : (own_lo cb) = cb) :
    own_met l x code maxLocals ret ws room_1 Z #[(.int p1), (.int p2), (.int p3), (.int p4), (.int p5)] h0 (Qrm0_3_2 Z w_CS w_SF p1 p2 p3 p4 p5 ca cb cc cd h0) := by
  refine own_start (plainFor_of_name pn_0) (fun m => ef_code_IIIII m p1 p2 p3 p4 p5) ?_
  intro p e s m below meth c s₁ hx hby hml hown hnm X0 hZ e0 hret hlk
  have N0 := Fr.nil Z.heap.size
  obtain ⟨_, T372, Lc372, X372, hQ372, st372⟩ := own_static (y := y_32) X0 hx hZ hown (own_w hw 1 rfl) (own_w hw 2 rfl) (own_w hw 3 rfl) (own_w hw 4 rfl) (rm335 l Z a0 hw [] w_CS ca cb cc cd h0 Z0 S_w_CS S_s__assertionsDisabled S_s_HI_BYTE_SHIFT S_s_LO_BYTE_SHIFT hc46 hc50 hc17 hc1) e0 (g := (mkF m 47 #[iv p1, iv p2, iv p3, iv p4, iv p5, iv ca, iv cb, iv cc, iv cd, iv (3 : Int32), .unset, .unset, .unset] [(.int cd), (.int cc), (.int cb), (.int ca), (.int (3 : Int32))])) (argsL := [(.int (3 : Int32)), (.int ca), (.int cb), (.int cc), (.int cd)]) (rest := []) (W := 0) (lenOf pd_26 rfl) (hb hby at_47) hml
  obtain ⟨b373, rfl, N372q, K372q, szn_b373, q372_E_b373, q372_T_b373⟩ := hQ372
  have g_b373 : Z.heap.size ≤ b373 := Nat.le_trans Z0.1 szn_b373
  have sz_b373 : h0.size ≤ b373 := Nat.le_trans (Keep.refl h0 []).1 szn_b373
  have K372 : Keep h0 T372.heap [] := (Keep.refl h0 []).trans K372q all0
  have XX372 : Ext Z.heap T372.heap := own_extK Z0 K372q all0
  have N372 := Fr.app N0 N372q
  obtain ⟨_, T374, Lc374, X374, hQ374, st374⟩ := own_static (y := y_31) X372 hx hZ hown (own_w hw 27 rfl) (own_w hw 28 rfl) (own_w hw 29 rfl) (own_w hw 30 rfl) (own_lcC l Z a0 hw [] w_CS w_SF b373 [ca, cb, cc] T372.heap XX372 S_w_CS R_w_SF S_w_SF S_s__assertionsDisabled S_s_HI_BYTE_SHIFT S_s_LO_BYTE_SHIFT q372_E_b373 q372_T_b373 ⟨Nat.le_of_ble_eq_true rfl, Nat.le_of_ble_eq_true rfl⟩ (own_a16_s hc46 (own_a16_s hc50 (own_a16_s hc17 own_a16_0))) hc1 ⟨cc, by simp, hc54⟩) rfl (g := (mkF m 54 #[iv p1, iv p2, iv p3, iv p4, iv p5, iv ca, iv cb, iv cc, iv cd, iv (3 : Int32), rv b373, .unset, .unset] [(.ref b373)])) (argsL := [(.ref b373)]) (rest := []) (W := 0) (lenOf pd_27 rfl) (hb hby at_54) hml
  obtain ⟨b375, rfl, N374q, K374q, szn_b375, q374_E_b375, q374_T_b375⟩ := hQ374
  have g_b375 : Z.heap.size ≤ b375 := Nat.le_trans XX372.1 szn_b375
  have sz_b375 : h0.size ≤ b375 := Nat.le_trans K372.1 szn_b375
  have K374 : Keep h0 T374.heap [] := K372.trans K374q all0
  have XX374 : Ext Z.heap T374.heap := own_extK XX372 K374q all0
  have N374 := Fr.app N372 N374q
  obtain ⟨_, T376, Lc376, X376, hQ376, st376⟩ := own_virtual (y := y_4) X374 hx hZ hown (own_w hw 42 rfl) (own_w hw 32 rfl) (own_w hw 34 rfl) (own_w hw 33 rfl) (own_w hw 7 rfl) (own_w hw 35 rfl) (own_lenG l Z a0 hw [] w_CS b375 [(own_lo ca), (own_lo cb), (own_lo cc)] T374.heap XX374 S_w_CS q374_E_b375 q374_T_b375 hc1 (Nat.le_of_ble_eq_true rfl)) rfl q374_E_b375 (g := (mkF m 61 #[iv p1, iv p2, iv p3, iv p4, iv p5, iv ca, iv cb, iv cc, iv cd, iv (3 : Int32), rv b373, rv b375, .unset] [(.ref b375)])) (argsL := []) (rest := []) (W := 0) (lenOf pd_21 rfl) (hb hby at_61) hml
  obtain ⟨rfl, N376q, e376⟩ := hQ376
  have N376 := Fr.app N374 N376q
  obtain ⟨_, T377, Lc377, X377, hQ377, st377⟩ := own_virtual (y := y_9) X376 hx hZ hown (own_w hw 78 rfl) (own_w hw 54 rfl) (own_w hw 56 rfl) (own_w hw 55 rfl) (own_w hw 7 rfl) (own_w hw 57 rfl) (own_chG l Z a0 hw [] w_CS w_SF (own_lo ca) b375 [(own_lo ca), (own_lo cb), (own_lo cc)] (0 : Int32) T374.heap XX374 S_w_CS R_w_SF S_w_SF S_s__assertionsDisabled S_s_HI_BYTE_SHIFT S_s_LO_BYTE_SHIFT q374_E_b375 q374_T_b375 hc1 (own_u16_lo hc46) ⟨by decide, (by decide : (0 : Int32) < (3 : Int32)), rfl, Nat.le_of_ble_eq_true rfl⟩) e376 q374_E_b375 (g := (mkF m 82 #[iv p1, iv p2, iv p3, iv p4, iv p5, iv ca, iv cb, iv cc, iv cd, iv (3 : Int32), rv b373, rv b375, iv (0 : Int32)] [(.int (0 : Int32)), (.ref b375)])) (argsL := [(.int (0 : Int32))]) (rest := []) (W := 0) (lenOf pd_22 rfl) (hb hby at_82) hml
  obtain ⟨rfl, N377q, e377⟩ := hQ377
  have N377 := Fr.app N376 N377q
  obtain ⟨_, T378, Lc378, X378, hQ378, st378⟩ := own_static (y := y_2) X377 hx hZ hown (own_w hw 79 rfl) (own_w hw 80 rfl) (own_w hw 3 rfl) (own_w hw 81 rfl) (own_refJ l Z a0 hw [] ca T374.heap XX374 hc46) e377 (g := (mkF m 87 #[iv p1, iv p2, iv p3, iv p4, iv p5, iv ca, iv cb, iv cc, iv cd, iv (3 : Int32), rv b373, rv b375, iv (0 : Int32)] [(.int ca), (.int (own_lo ca))])) (argsL := [(.int ca)]) (rest := [(.int (own_lo ca))]) (W := 1) (lenOf pd_23 rfl) (hb hby at_87) hml
  obtain ⟨rfl, N378q, e378⟩ := hQ378
  have N378 := Fr.app N377 N378q
  obtain ⟨_, T379, Lc379, X379, hQ379, st379⟩ := own_static (y := y_0) X378 hx hZ hown (own_w hw 82 rfl) (own_w hw 83 rfl) (own_w hw 3 rfl) (own_w hw 84 rfl) (own_cap0 l Z a0 hw [] ca T374.heap XX374 hc48) e378 (g := (mkF m 102 #[iv p1, iv p2, iv p3, iv p4, iv p5, iv ca, iv cb, iv cc, iv cd, iv (3 : Int32), rv b373, rv b375, iv (0 : Int32)] [(.int ca)])) (argsL := [(.int ca)]) (rest := []) (W := 0) (lenOf pd_0 rfl) (hb hby at_102) hml
  obtain ⟨rfl, N379q, e379⟩ := hQ379
  have N379 := Fr.app N378 N379q
  obtain ⟨_, T380, Lc380, X380, hQ380, st380⟩ := own_virtual (y := y_9) X379 hx hZ hown (own_w hw 78 rfl) (own_w hw 54 rfl) (own_w hw 56 rfl) (own_w hw 55 rfl) (own_w hw 7 rfl) (own_w hw 57 rfl) (own_chG l Z a0 hw [] w_CS w_SF (own_lo cb) b375 [(own_lo ca), (own_lo cb), (own_lo cc)] (1 : Int32) T374.heap XX374 S_w_CS R_w_SF S_w_SF S_s__assertionsDisabled S_s_HI_BYTE_SHIFT S_s_LO_BYTE_SHIFT q374_E_b375 q374_T_b375 hc1 (own_u16_lo hc50) ⟨by decide, (by decide : (1 : Int32) < (3 : Int32)), rfl, Nat.le_of_ble_eq_true rfl⟩) e379 q374_E_b375 (g := (mkF m 124 #[iv p1, iv p2, iv p3, iv p4, iv p5, iv ca, iv cb, iv cc, iv cd, iv (3 : Int32), rv b373, rv b375, iv (0 : Int32)] [(.int (1 : Int32)), (.ref b375)])) (argsL := [(.int (1 : Int32))]) (rest := []) (W := 0) (lenOf pd_22 rfl) (hb hby at_124) hml
  obtain ⟨rfl, N380q, e380⟩ := hQ380
  have N380 := Fr.app N379 N380q
  obtain ⟨_, T381, Lc381, X381, hQ381, st381⟩ := own_static (y := y_2) X380 hx hZ hown (own_w hw 79 rfl) (own_w hw 80 rfl) (own_w hw 3 rfl) (own_w hw 81 rfl) (own_refJ l Z a0 hw [] cb T374.heap XX374 hc50) e380 (g := (mkF m 129 #[iv p1, iv p2, iv p3, iv p4, iv p5, iv ca, iv cb, iv cc, iv cd, iv (3 : Int32), rv b373, rv b375, iv (0 : Int32)] [(.int cb), (.int (own_lo cb))])) (argsL := [(.int cb)]) (rest := [(.int (own_lo cb))]) (W := 1) (lenOf pd_23 rfl) (hb hby at_129) hml
  obtain ⟨rfl, N381q, e381⟩ := hQ381
  have N381 := Fr.app N380 N381q
  obtain ⟨_, T382, Lc382, X382, hQ382, st382⟩ := own_static (y := y_0) X381 hx hZ hown (own_w hw 82 rfl) (own_w hw 83 rfl) (own_w hw 3 rfl) (own_w hw 84 rfl) (own_cap0 l Z a0 hw [] cb T374.heap XX374 hc52) e381 (g := (mkF m 144 #[iv p1, iv p2, iv p3, iv p4, iv p5, iv ca, iv cb, iv cc, iv cd, iv (3 : Int32), rv b373, rv b375, iv (0 : Int32)] [(.int cb)])) (argsL := [(.int cb)]) (rest := []) (W := 0) (lenOf pd_0 rfl) (hb hby at_144) hml
  obtain ⟨rfl, N382q, e382⟩ := hQ382
  have N382 := Fr.app N381 N382q
  obtain ⟨_, T383, Lc383, X383, hQ383, st383⟩ := own_virtual (y := y_9) X382 hx hZ hown (own_w hw 78 rfl) (own_w hw 54 rfl) (own_w hw 56 rfl) (own_w hw 55 rfl) (own_w hw 7 rfl) (own_w hw 57 rfl) (own_chG l Z a0 hw [] w_CS w_SF (own_lo cc) b375 [(own_lo ca), (own_lo cb), (own_lo cc)] (2 : Int32) T374.heap XX374 S_w_CS R_w_SF S_w_SF S_s__assertionsDisabled S_s_HI_BYTE_SHIFT S_s_LO_BYTE_SHIFT q374_E_b375 q374_T_b375 hc1 (own_u16_lo hc17) ⟨by decide, (by decide : (2 : Int32) < (3 : Int32)), rfl, Nat.le_of_ble_eq_true rfl⟩) e382 q374_E_b375 (g := (mkF m 166 #[iv p1, iv p2, iv p3, iv p4, iv p5, iv ca, iv cb, iv cc, iv cd, iv (3 : Int32), rv b373, rv b375, iv (0 : Int32)] [(.int (2 : Int32)), (.ref b375)])) (argsL := [(.int (2 : Int32))]) (rest := []) (W := 0) (lenOf pd_22 rfl) (hb hby at_166) hml
  obtain ⟨rfl, N383q, e383⟩ := hQ383
  have N383 := Fr.app N382 N383q
  obtain ⟨_, T384, Lc384, X384, hQ384, st384⟩ := own_static (y := y_2) X383 hx hZ hown (own_w hw 79 rfl) (own_w hw 80 rfl) (own_w hw 3 rfl) (own_w hw 81 rfl) (own_refJ l Z a0 hw [] cc T374.heap XX374 hc17) e383 (g := (mkF m 171 #[iv p1, iv p2, iv p3, iv p4, iv p5, iv ca, iv cb, iv cc, iv cd, iv (3 : Int32), rv b373, rv b375, iv (0 : Int32)] [(.int cc), (.int (own_lo cc))])) (argsL := [(.int cc)]) (rest := [(.int (own_lo cc))]) (W := 1) (lenOf pd_23 rfl) (hb hby at_171) hml
  obtain ⟨rfl, N384q, e384⟩ := hQ384
  have N384 := Fr.app N383 N384q
  obtain ⟨_, T385, Lc385, X385, hQ385, st385⟩ := own_static (y := y_0) X384 hx hZ hown (own_w hw 82 rfl) (own_w hw 83 rfl) (own_w hw 3 rfl) (own_w hw 84 rfl) (own_cap1 l Z a0 hw [] cc T374.heap XX374 hc54) e384 (g := (mkF m 186 #[iv p1, iv p2, iv p3, iv p4, iv p5, iv ca, iv cb, iv cc, iv cd, iv (3 : Int32), rv b373, rv b375, iv (0 : Int32)] [(.int cc)])) (argsL := [(.int cc)]) (rest := []) (W := 0) (lenOf pd_0 rfl) (hb hby at_186) hml
  obtain ⟨rfl, N385q, e385⟩ := hQ385
  have N385 := Fr.app N384 N385q
  obtain ⟨fs, hr, hrun, hended, hW, hsame⟩ := X385.leave (v := some (.int (1 : Int32))) (fun h => by rw [hret] at h; cases h) hlk
  refine ⟨_, _, ?_, hrun, hended, _, _, rfl, ?_, ⟨_, rfl⟩, hW, hsame.mono (by decide) (by decide)⟩
  · show own_S p e below s₁ (mkF m 0 #[iv p1, iv p2, iv p3, iv p4, iv p5, .unset, .unset, .unset, .unset, .unset, .unset, .unset, .unset] []) _
    refine own_iN X0 hx hby at_0 ?_
    refine X0.ldcInt hx hown (mvT hZ (own_w hw 0 rfl)) (g := (mkF m 1 #[iv p1, iv p2, iv p3, iv p4, iv p5, .unset, .unset, .unset, .unset, .unset, .unset, .unset, .unset] [(.int p1)])) rfl (hb hby at_1) _ ?_
    refine XS.iand X0.here hx rfl (hb hby at_3) rfl ?_
    refine XS.i2c X0.here hx rfl (hb hby at_4) rfl ?_
    show own_S p e below s₁ (mkF m 5 #[iv p1, iv p2, iv p3, iv p4, iv p5, .unset, .unset, .unset, .unset, .unset, .unset, .unset, .unset] [(.int ((p1 &&& (65535 : Int32)).toUInt32.toUInt16.toUInt32.toInt32))]) _
    rw [hc41]
    refine XS.istore X0.here hx rfl (hb hby at_5) rfl (l' := #[iv p1, iv p2, iv p3, iv p4, iv p5, iv ca, .unset, .unset, .unset, .unset, .unset, .unset, .unset]) rfl ?_
    refine own_iN X0 hx hby at_7 ?_
    refine X0.ldcInt hx hown (mvT hZ (own_w hw 0 rfl)) (g := (mkF m 8 #[iv p1, iv p2, iv p3, iv p4, iv p5, iv ca, .unset, .unset, .unset, .unset, .unset, .unset, .unset] [(.int p2)])) rfl (hb hby at_8) _ ?_
    refine XS.iand X0.here hx rfl (hb hby at_10) rfl ?_
    refine XS.i2c X0.here hx rfl (hb hby at_11) rfl ?_
    show own_S p e below s₁ (mkF m 12 #[iv p1, iv p2, iv p3, iv p4, iv p5, iv ca, .unset, .unset, .unset, .unset, .unset, .unset, .unset] [(.int ((p2 &&& (65535 : Int32)).toUInt32.toUInt16.toUInt32.toInt32))]) _
    rw [hc42]
    refine XS.istore X0.here hx rfl (hb hby at_12) rfl (l' := #[iv p1, iv p2, iv p3, iv p4, iv p5, iv ca, iv cb, .unset, .unset, .unset, .unset, .unset, .unset]) rfl ?_
    refine own_iN X0 hx hby at_14 ?_
    refine X0.ldcInt hx hown (mvT hZ (own_w hw 0 rfl)) (g := (mkF m 15 #[iv p1, iv p2, iv p3, iv p4, iv p5, iv ca, iv cb, .unset, .unset, .unset, .unset, .unset, .unset] [(.int p3)])) rfl (hb hby at_15) _ ?_
    refine XS.iand X0.here hx rfl (hb hby at_17) rfl ?_
    refine XS.i2c X0.here hx rfl (hb hby at_18) rfl ?_
    show own_S p e below s₁ (mkF m 19 #[iv p1, iv p2, iv p3, iv p4, iv p5, iv ca, iv cb, .unset, .unset, .unset, .unset, .unset, .unset] [(.int ((p3 &&& (65535 : Int32)).toUInt32.toUInt16.toUInt32.toInt32))]) _
    rw [hc43]
    refine XS.istore X0.here hx rfl (hb hby at_19) rfl (l' := #[iv p1, iv p2, iv p3, iv p4, iv p5, iv ca, iv cb, iv cc, .unset, .unset, .unset, .unset, .unset]) rfl ?_
    refine own_iN X0 hx hby at_21 ?_
    refine X0.ldcInt hx hown (mvT hZ (own_w hw 0 rfl)) (g := (mkF m 22 #[iv p1, iv p2, iv p3, iv p4, iv p5, iv ca, iv cb, iv cc, .unset, .unset, .unset, .unset, .unset] [(.int p4)])) rfl (hb hby at_22) _ ?_
    refine XS.iand X0.here hx rfl (hb hby at_24) rfl ?_
    refine XS.i2c X0.here hx rfl (hb hby at_25) rfl ?_
    show own_S p e below s₁ (mkF m 26 #[iv p1, iv p2, iv p3, iv p4, iv p5, iv ca, iv cb, iv cc, .unset, .unset, .unset, .unset, .unset] [(.int ((p4 &&& (65535 : Int32)).toUInt32.toUInt16.toUInt32.toInt32))]) _
    rw [hc44]
    refine XS.istore X0.here hx rfl (hb hby at_26) rfl (l' := #[iv p1, iv p2, iv p3, iv p4, iv p5, iv ca, iv cb, iv cc, iv cd, .unset, .unset, .unset, .unset]) rfl ?_
    refine own_i X0 hx hby at_28 ?_
    refine XS.bipush X0.here hx rfl (hb hby at_30) ?_
    refine XS.iand X0.here hx rfl (hb hby at_32) rfl ?_
    refine own_k X0 hx hby at_33 ?_
    refine iremM X0 hx rfl (hb hby at_34) rfl (by decide) ?_
    show own_S p e below s₁ (mkF m 35 #[iv p1, iv p2, iv p3, iv p4, iv p5, iv ca, iv cb, iv cc, iv cd, .unset, .unset, .unset, .unset] [(.int ((p5 &&& (7 : Int32)) % (5 : Int32)))]) _
    rw [hc53]
    refine XS.istore X0.here hx rfl (hb hby at_35) rfl (l' := #[iv p1, iv p2, iv p3, iv p4, iv p5, iv ca, iv cb, iv cc, iv cd, iv (3 : Int32), .unset, .unset, .unset]) rfl ?_
    refine own_i X0 hx hby at_37 ?_
    refine own_i X0 hx hby at_39 ?_
    refine own_i X0 hx hby at_41 ?_
    refine own_i X0 hx hby at_43 ?_
    refine own_i X0 hx hby at_45 ?_
    refine st372 _ ?_
    refine XS.astore X372.here hx rfl (hb hby at_50) rfl rfl (l' := #[iv p1, iv p2, iv p3, iv p4, iv p5, iv ca, iv cb, iv cc, iv cd, iv (3 : Int32), rv b373, .unset, .unset]) rfl ?_
    refine own_a X372 hx hby at_52 ?_
    refine st374 _ ?_
    refine XS.astore X374.here hx rfl (hb hby at_57) rfl rfl (l' := #[iv p1, iv p2, iv p3, iv p4, iv p5, iv ca, iv cb, iv cc, iv cd, iv (3 : Int32), rv b373, rv b375, .unset]) rfl ?_
    refine own_a X374 hx hby at_59 ?_
    refine st376 _ ?_
    refine own_i X376 hx hby at_64 ?_
    refine own_cy (pc := 66) X376 hx hby at_66 (teq (rfl : (3 : Int32) = (3 : Int32))).1 71 ?_
    refine own_k X376 hx hby at_71 ?_
    refine XS.istore X376.here hx rfl (hb hby at_72) rfl (l' := #[iv p1, iv p2, iv p3, iv p4, iv p5, iv ca, iv cb, iv cc, iv cd, iv (3 : Int32), rv b373, rv b375, iv (0 : Int32)]) rfl ?_
    refine own_i X376 hx hby at_74 ?_
    refine own_in X376 hx hby at_76 (tlt (by decide : (0 : Int32) < (3 : Int32))).2.2.2 ?_
    refine own_a X376 hx hby at_79 ?_
    refine own_k X376 hx hby at_81 ?_
    refine st377 _ ?_
    refine own_i X377 hx hby at_85 ?_
    refine st378 _ ?_
    refine own_cy (pc := 90) X378 hx hby at_90 (teq (rfl : (own_lo ca) = (own_lo ca))).1 95 ?_
    refine own_i X378 hx hby at_95 ?_
    refine own_in X378 hx hby at_97 (teq (rfl : (0 : Int32) = (0 : Int32))).2 ?_
    refine own_i X378 hx hby at_100 ?_
    refine st379 _ ?_
    refine own_iy (pc := 105) X379 hx hby at_105 (teq (rfl : (0 : Int32) = (0 : Int32))).1 112 ?_
    refine own_k X379 hx hby at_112 ?_
    refine XS.istore X379.here hx rfl (hb hby at_113) rfl (l' := #[iv p1, iv p2, iv p3, iv p4, iv p5, iv ca, iv cb, iv cc, iv cd, iv (3 : Int32), rv b373, rv b375, iv (0 : Int32)]) rfl ?_
    refine own_i X379 hx hby at_115 ?_
    refine own_k X379 hx hby at_117 ?_
    refine own_cn X379 hx hby at_118 (tlt (by decide : (1 : Int32) < (3 : Int32))).2.2.2 ?_
    refine own_a X379 hx hby at_121 ?_
    refine own_k X379 hx hby at_123 ?_
    refine st380 _ ?_
    refine own_i X380 hx hby at_127 ?_
    refine st381 _ ?_
    refine own_cy (pc := 132) X381 hx hby at_132 (teq (rfl : (own_lo cb) = (own_lo cb))).1 137 ?_
    refine own_i X381 hx hby at_137 ?_
    refine own_in X381 hx hby at_139 (teq (rfl : (0 : Int32) = (0 : Int32))).2 ?_
    refine own_i X381 hx hby at_142 ?_
    refine st382 _ ?_
    refine own_iy (pc := 147) X382 hx hby at_147 (teq (rfl : (0 : Int32) = (0 : Int32))).1 154 ?_
    refine own_k X382 hx hby at_154 ?_
    refine XS.istore X382.here hx rfl (hb hby at_155) rfl (l' := #[iv p1, iv p2, iv p3, iv p4, iv p5, iv ca, iv cb, iv cc, iv cd, iv (3 : Int32), rv b373, rv b375, iv (0 : Int32)]) rfl ?_
    refine own_i X382 hx hby at_157 ?_
    refine own_k X382 hx hby at_159 ?_
    refine own_cn X382 hx hby at_160 (tlt (by decide : (2 : Int32) < (3 : Int32))).2.2.2 ?_
    refine own_a X382 hx hby at_163 ?_
    refine own_k X382 hx hby at_165 ?_
    refine st383 _ ?_
    refine own_i X383 hx hby at_169 ?_
    refine st384 _ ?_
    refine own_cy (pc := 174) X384 hx hby at_174 (teq (rfl : (own_lo cc) = (own_lo cc))).1 179 ?_
    refine own_i X384 hx hby at_179 ?_
    refine own_in X384 hx hby at_181 (teq (rfl : (0 : Int32) = (0 : Int32))).2 ?_
    refine own_i X384 hx hby at_184 ?_
    refine st385 _ ?_
    refine own_in X385 hx hby at_189 (feq (by decide : ¬ ((1 : Int32) = (0 : Int32)))).1 ?_
    refine own_k X385 hx hby at_192 ?_
    refine own_go (pc := 193) X385 hx hby at_193 197 ?_
    refine XS.istore X385.here hx rfl (hb hby at_197) rfl (l' := #[iv p1, iv p2, iv p3, iv p4, iv p5, iv ca, iv cb, iv cc, iv cd, iv (3 : Int32), rv b373, rv b375, iv (1 : Int32)]) rfl ?_
    refine own_i X385 hx hby at_199 ?_
    refine own_k X385 hx hby at_201 ?_
    refine own_cy (pc := 202) X385 hx hby at_202 (flt (Int32.lt_irrefl : ¬ ((3 : Int32) < (3 : Int32)))).2.2.2 241 ?_
    refine own_i X385 hx hby at_241 ?_
    refine own_iy (pc := 243) X385 hx hby at_243 (feq (by decide : ¬ ((1 : Int32) = (0 : Int32)))).2 255 ?_
    refine own_k X385 hx hby at_255 ?_
    exact retN X385 hx (t := .boolean) hret (by simp) (hb hby at_256) hr
  · show Qrm0_3_2 Z w_CS w_SF p1 p2 p3 p4 p5 ca cb cc cd h0 _ T385.heap _
    exact ⟨rfl, N385⟩
def Qrm0_3_3 (Z : State) (w_CS : Int32) (w_SF : Value) (p1 p2 p3 p4 p5 ca cb cc cd : Int32) (h0 : Heap) (v : Option Value) (h : Heap) (L : List Loc) : Prop := v = some (.int 1) ∧ Fr Z.heap.size L
theorem rm0_3_3 (l : Launch) (Z : State) (a0 : Array Value) (hw : own_HW Z a0) (ws : List Jvm.Cond) (w_CS : Int32) (w_SF : Value) (p1 p2 p3 p4 p5 ca cb cc cd : Int32) (h0 : Heap) (Z0 : Ext Z.heap h0) (S_w_CS : own_w_CS Z w_CS) (S_s__assertionsDisabled : own_s__assertionsDisabled Z) (S_s_HI_BYTE_SHIFT : own_s_HI_BYTE_SHIFT Z) (S_s_LO_BYTE_SHIFT : own_s_LO_BYTE_SHIFT Z) (R_w_SF : w_SF.isRef = true) (S_w_SF : own_w_SF Z w_SF) (hc41 : ((p1 &&& (65535 : Int32)).toUInt32.toUInt16.toUInt32.toInt32) = ca) (hc42 : ((p2 &&& (65535 : Int32)).toUInt32.toUInt16.toUInt32.toInt32) = cb) (hc43 : ((p3 &&& (65535 : Int32)).toUInt32.toUInt16.toUInt32.toInt32) = cc) (hc44 : ((p4 &&& (65535 : Int32)).toUInt32.toUInt16.toUInt32.toInt32) = cd) (hc53 : ((p5 &&& (7 : Int32)) % (5 : Int32)) = (3 : Int32)) (hc46 : own_u16 ca) (hc50 : own_u16 cb) (hc17 : own_u16 cc) (hc1 : ¬ (w_CS = (0 : Int32))) (hc48 : (own_lo ca) = ca) (hc52 : (own_lo cb) = cb) (hc36 : (own_lo cc) = cc) :
    own_met l x code maxLocals ret ws room_1 Z #[(.int p1), (.int p2), (.int p3), (.int p4), (.int p5)] h0 (Qrm0_3_3 Z w_CS w_SF p1 p2 p3 p4 p5 ca cb cc cd h0) := by
  refine own_start (plainFor_of_name pn_0) (fun m => ef_code_IIIII m p1 p2 p3 p4 p5) ?_
  intro p e s m below meth c s₁ hx hby hml hown hnm X0 hZ e0 hret hlk
  have N0 := Fr.nil Z.heap.size
  obtain ⟨_, T386, Lc386, X386, hQ386, st386⟩ := own_static (y := y_32) X0 hx hZ hown (own_w hw 1 rfl) (own_w hw 2 rfl) (own_w hw 3 rfl) (own_w hw 4 rfl) (rm335 l Z a0 hw [] w_CS ca cb cc cd h0 Z0 S_w_CS S_s__assertionsDisabled S_s_HI_BYTE_SHIFT S_s_LO_BYTE_SHIFT hc46 hc50 hc17 hc1) e0 (g := (mkF m 47 #[iv p1, iv p2, iv p3, iv p4, iv p5, iv ca, iv cb, iv cc, iv cd, iv (3 : Int32), .unset, .unset, .unset] [(.int cd), (.int cc), (.int cb), (.int ca), (.int (3 : Int32))])) (argsL := [(.int (3 : Int32)), (.int ca), (.int cb), (.int cc), (.int cd)]) (rest := []) (W := 0) (lenOf pd_26 rfl) (hb hby at_47) hml
  obtain ⟨b387, rfl, N386q, K386q, szn_b387, q386_E_b387, q386_T_b387⟩ := hQ386
  have g_b387 : Z.heap.size ≤ b387 := Nat.le_trans Z0.1 szn_b387
  have sz_b387 : h0.size ≤ b387 := Nat.le_trans (Keep.refl h0 []).1 szn_b387
  have K386 : Keep h0 T386.heap [] := (Keep.refl h0 []).trans K386q all0
  have XX386 : Ext Z.heap T386.heap := own_extK Z0 K386q all0
  have N386 := Fr.app N0 N386q
  obtain ⟨_, T388, Lc388, X388, hQ388, st388⟩ := own_static (y := y_31) X386 hx hZ hown (own_w hw 27 rfl) (own_w hw 28 rfl) (own_w hw 29 rfl) (own_w hw 30 rfl) (rm234 l Z a0 hw [] w_CS w_SF b387 [ca, cb, cc] T386.heap XX386 S_w_CS R_w_SF S_w_SF S_s__assertionsDisabled S_s_HI_BYTE_SHIFT S_s_LO_BYTE_SHIFT q386_E_b387 q386_T_b387 ⟨Nat.le_of_ble_eq_true rfl, Nat.le_of_ble_eq_true rfl⟩ (own_a16_s hc46 (own_a16_s hc50 (own_a16_s hc17 own_a16_0))) (own_nocap_s hc48 (own_nocap_s hc52 (own_nocap_s hc36 own_nocap_0))) hc1) rfl (g := (mkF m 54 #[iv p1, iv p2, iv p3, iv p4, iv p5, iv ca, iv cb, iv cc, iv cd, iv (3 : Int32), rv b387, .unset, .unset] [(.ref b387)])) (argsL := [(.ref b387)]) (rest := []) (W := 0) (lenOf pd_27 rfl) (hb hby at_54) hml
  obtain ⟨rfl, N388q, e388⟩ := hQ388
  have N388 := Fr.app N386 N388q
  obtain ⟨_, T389, Lc389, X389, hQ389, st389⟩ := own_virtual (y := y_4) X388 hx hZ hown (own_w hw 42 rfl) (own_w hw 32 rfl) (own_w hw 34 rfl) (own_w hw 33 rfl) (own_w hw 7 rfl) (own_w hw 35 rfl) (own_lenG l Z a0 hw [] w_CS b387 [ca, cb, cc] T386.heap XX386 S_w_CS q386_E_b387 q386_T_b387 hc1 (Nat.le_of_ble_eq_true rfl)) e388 q386_E_b387 (g := (mkF m 61 #[iv p1, iv p2, iv p3, iv p4, iv p5, iv ca, iv cb, iv cc, iv cd, iv (3 : Int32), rv b387, rv b387, .unset] [(.ref b387)])) (argsL := []) (rest := []) (W := 0) (lenOf pd_21 rfl) (hb hby at_61) hml
  obtain ⟨rfl, N389q, e389⟩ := hQ389
  have N389 := Fr.app N388 N389q
  obtain ⟨_, T390, Lc390, X390, hQ390, st390⟩ := own_virtual (y := y_9) X389 hx hZ hown (own_w hw 78 rfl) (own_w hw 54 rfl) (own_w hw 56 rfl) (own_w hw 55 rfl) (own_w hw 7 rfl) (own_w hw 57 rfl) (own_chG l Z a0 hw [] w_CS w_SF ca b387 [ca, cb, cc] (0 : Int32) T386.heap XX386 S_w_CS R_w_SF S_w_SF S_s__assertionsDisabled S_s_HI_BYTE_SHIFT S_s_LO_BYTE_SHIFT q386_E_b387 q386_T_b387 hc1 hc46 ⟨by decide, (by decide : (0 : Int32) < (3 : Int32)), rfl, Nat.le_of_ble_eq_true rfl⟩) e389 q386_E_b387 (g := (mkF m 82 #[iv p1, iv p2, iv p3, iv p4, iv p5, iv ca, iv cb, iv cc, iv cd, iv (3 : Int32), rv b387, rv b387, iv (0 : Int32)] [(.int (0 : Int32)), (.ref b387)])) (argsL := [(.int (0 : Int32))]) (rest := []) (W := 0) (lenOf pd_22 rfl) (hb hby at_82) hml
  obtain ⟨rfl, N390q, e390⟩ := hQ390
  have N390 := Fr.app N389 N390q
  obtain ⟨_, T391, Lc391, X391, hQ391, st391⟩ := own_static (y := y_2) X390 hx hZ hown (own_w hw 79 rfl) (own_w hw 80 rfl) (own_w hw 3 rfl) (own_w hw 81 rfl) (own_refJ l Z a0 hw [] ca T386.heap XX386 hc46) e390 (g := (mkF m 87 #[iv p1, iv p2, iv p3, iv p4, iv p5, iv ca, iv cb, iv cc, iv cd, iv (3 : Int32), rv b387, rv b387, iv (0 : Int32)] [(.int ca), (.int ca)])) (argsL := [(.int ca)]) (rest := [(.int ca)]) (W := 1) (lenOf pd_23 rfl) (hb hby at_87) hml
  obtain ⟨rfl, N391q, e391⟩ := hQ391
  have N391 := Fr.app N390 N391q
  obtain ⟨_, T392, Lc392, X392, hQ392, st392⟩ := own_static (y := y_0) X391 hx hZ hown (own_w hw 82 rfl) (own_w hw 83 rfl) (own_w hw 3 rfl) (own_w hw 84 rfl) (own_cap0 l Z a0 hw [] ca T386.heap XX386 hc48) e391 (g := (mkF m 102 #[iv p1, iv p2, iv p3, iv p4, iv p5, iv ca, iv cb, iv cc, iv cd, iv (3 : Int32), rv b387, rv b387, iv (0 : Int32)] [(.int ca)])) (argsL := [(.int ca)]) (rest := []) (W := 0) (lenOf pd_0 rfl) (hb hby at_102) hml
  obtain ⟨rfl, N392q, e392⟩ := hQ392
  have N392 := Fr.app N391 N392q
  obtain ⟨_, T393, Lc393, X393, hQ393, st393⟩ := own_virtual (y := y_9) X392 hx hZ hown (own_w hw 78 rfl) (own_w hw 54 rfl) (own_w hw 56 rfl) (own_w hw 55 rfl) (own_w hw 7 rfl) (own_w hw 57 rfl) (own_chG l Z a0 hw [] w_CS w_SF cb b387 [ca, cb, cc] (1 : Int32) T386.heap XX386 S_w_CS R_w_SF S_w_SF S_s__assertionsDisabled S_s_HI_BYTE_SHIFT S_s_LO_BYTE_SHIFT q386_E_b387 q386_T_b387 hc1 hc50 ⟨by decide, (by decide : (1 : Int32) < (3 : Int32)), rfl, Nat.le_of_ble_eq_true rfl⟩) e392 q386_E_b387 (g := (mkF m 124 #[iv p1, iv p2, iv p3, iv p4, iv p5, iv ca, iv cb, iv cc, iv cd, iv (3 : Int32), rv b387, rv b387, iv (0 : Int32)] [(.int (1 : Int32)), (.ref b387)])) (argsL := [(.int (1 : Int32))]) (rest := []) (W := 0) (lenOf pd_22 rfl) (hb hby at_124) hml
  obtain ⟨rfl, N393q, e393⟩ := hQ393
  have N393 := Fr.app N392 N393q
  obtain ⟨_, T394, Lc394, X394, hQ394, st394⟩ := own_static (y := y_2) X393 hx hZ hown (own_w hw 79 rfl) (own_w hw 80 rfl) (own_w hw 3 rfl) (own_w hw 81 rfl) (own_refJ l Z a0 hw [] cb T386.heap XX386 hc50) e393 (g := (mkF m 129 #[iv p1, iv p2, iv p3, iv p4, iv p5, iv ca, iv cb, iv cc, iv cd, iv (3 : Int32), rv b387, rv b387, iv (0 : Int32)] [(.int cb), (.int cb)])) (argsL := [(.int cb)]) (rest := [(.int cb)]) (W := 1) (lenOf pd_23 rfl) (hb hby at_129) hml
  obtain ⟨rfl, N394q, e394⟩ := hQ394
  have N394 := Fr.app N393 N394q
  obtain ⟨_, T395, Lc395, X395, hQ395, st395⟩ := own_static (y := y_0) X394 hx hZ hown (own_w hw 82 rfl) (own_w hw 83 rfl) (own_w hw 3 rfl) (own_w hw 84 rfl) (own_cap0 l Z a0 hw [] cb T386.heap XX386 hc52) e394 (g := (mkF m 144 #[iv p1, iv p2, iv p3, iv p4, iv p5, iv ca, iv cb, iv cc, iv cd, iv (3 : Int32), rv b387, rv b387, iv (0 : Int32)] [(.int cb)])) (argsL := [(.int cb)]) (rest := []) (W := 0) (lenOf pd_0 rfl) (hb hby at_144) hml
  obtain ⟨rfl, N395q, e395⟩ := hQ395
  have N395 := Fr.app N394 N395q
  obtain ⟨_, T396, Lc396, X396, hQ396, st396⟩ := own_virtual (y := y_9) X395 hx hZ hown (own_w hw 78 rfl) (own_w hw 54 rfl) (own_w hw 56 rfl) (own_w hw 55 rfl) (own_w hw 7 rfl) (own_w hw 57 rfl) (own_chG l Z a0 hw [] w_CS w_SF cc b387 [ca, cb, cc] (2 : Int32) T386.heap XX386 S_w_CS R_w_SF S_w_SF S_s__assertionsDisabled S_s_HI_BYTE_SHIFT S_s_LO_BYTE_SHIFT q386_E_b387 q386_T_b387 hc1 hc17 ⟨by decide, (by decide : (2 : Int32) < (3 : Int32)), rfl, Nat.le_of_ble_eq_true rfl⟩) e395 q386_E_b387 (g := (mkF m 166 #[iv p1, iv p2, iv p3, iv p4, iv p5, iv ca, iv cb, iv cc, iv cd, iv (3 : Int32), rv b387, rv b387, iv (0 : Int32)] [(.int (2 : Int32)), (.ref b387)])) (argsL := [(.int (2 : Int32))]) (rest := []) (W := 0) (lenOf pd_22 rfl) (hb hby at_166) hml
  obtain ⟨rfl, N396q, e396⟩ := hQ396
  have N396 := Fr.app N395 N396q
  obtain ⟨_, T397, Lc397, X397, hQ397, st397⟩ := own_static (y := y_2) X396 hx hZ hown (own_w hw 79 rfl) (own_w hw 80 rfl) (own_w hw 3 rfl) (own_w hw 81 rfl) (own_refJ l Z a0 hw [] cc T386.heap XX386 hc17) e396 (g := (mkF m 171 #[iv p1, iv p2, iv p3, iv p4, iv p5, iv ca, iv cb, iv cc, iv cd, iv (3 : Int32), rv b387, rv b387, iv (0 : Int32)] [(.int cc), (.int cc)])) (argsL := [(.int cc)]) (rest := [(.int cc)]) (W := 1) (lenOf pd_23 rfl) (hb hby at_171) hml
  obtain ⟨rfl, N397q, e397⟩ := hQ397
  have N397 := Fr.app N396 N397q
  obtain ⟨_, T398, Lc398, X398, hQ398, st398⟩ := own_static (y := y_0) X397 hx hZ hown (own_w hw 82 rfl) (own_w hw 83 rfl) (own_w hw 3 rfl) (own_w hw 84 rfl) (own_cap0 l Z a0 hw [] cc T386.heap XX386 hc36) e397 (g := (mkF m 186 #[iv p1, iv p2, iv p3, iv p4, iv p5, iv ca, iv cb, iv cc, iv cd, iv (3 : Int32), rv b387, rv b387, iv (0 : Int32)] [(.int cc)])) (argsL := [(.int cc)]) (rest := []) (W := 0) (lenOf pd_0 rfl) (hb hby at_186) hml
  obtain ⟨rfl, N398q, e398⟩ := hQ398
  have N398 := Fr.app N397 N398q
  obtain ⟨fs, hr, hrun, hended, hW, hsame⟩ := X398.leave (v := some (.int (1 : Int32))) (fun h => by rw [hret] at h; cases h) hlk
  refine ⟨_, _, ?_, hrun, hended, _, _, rfl, ?_, ⟨_, rfl⟩, hW, hsame.mono (by decide) (by decide)⟩
  · show own_S p e below s₁ (mkF m 0 #[iv p1, iv p2, iv p3, iv p4, iv p5, .unset, .unset, .unset, .unset, .unset, .unset, .unset, .unset] []) _
    refine own_iN X0 hx hby at_0 ?_
    refine X0.ldcInt hx hown (mvT hZ (own_w hw 0 rfl)) (g := (mkF m 1 #[iv p1, iv p2, iv p3, iv p4, iv p5, .unset, .unset, .unset, .unset, .unset, .unset, .unset, .unset] [(.int p1)])) rfl (hb hby at_1) _ ?_
    refine XS.iand X0.here hx rfl (hb hby at_3) rfl ?_
    refine XS.i2c X0.here hx rfl (hb hby at_4) rfl ?_
    show own_S p e below s₁ (mkF m 5 #[iv p1, iv p2, iv p3, iv p4, iv p5, .unset, .unset, .unset, .unset, .unset, .unset, .unset, .unset] [(.int ((p1 &&& (65535 : Int32)).toUInt32.toUInt16.toUInt32.toInt32))]) _
    rw [hc41]
    refine XS.istore X0.here hx rfl (hb hby at_5) rfl (l' := #[iv p1, iv p2, iv p3, iv p4, iv p5, iv ca, .unset, .unset, .unset, .unset, .unset, .unset, .unset]) rfl ?_
    refine own_iN X0 hx hby at_7 ?_
    refine X0.ldcInt hx hown (mvT hZ (own_w hw 0 rfl)) (g := (mkF m 8 #[iv p1, iv p2, iv p3, iv p4, iv p5, iv ca, .unset, .unset, .unset, .unset, .unset, .unset, .unset] [(.int p2)])) rfl (hb hby at_8) _ ?_
    refine XS.iand X0.here hx rfl (hb hby at_10) rfl ?_
    refine XS.i2c X0.here hx rfl (hb hby at_11) rfl ?_
    show own_S p e below s₁ (mkF m 12 #[iv p1, iv p2, iv p3, iv p4, iv p5, iv ca, .unset, .unset, .unset, .unset, .unset, .unset, .unset] [(.int ((p2 &&& (65535 : Int32)).toUInt32.toUInt16.toUInt32.toInt32))]) _
    rw [hc42]
    refine XS.istore X0.here hx rfl (hb hby at_12) rfl (l' := #[iv p1, iv p2, iv p3, iv p4, iv p5, iv ca, iv cb, .unset, .unset, .unset, .unset, .unset, .unset]) rfl ?_
    refine own_iN X0 hx hby at_14 ?_
    refine X0.ldcInt hx hown (mvT hZ (own_w hw 0 rfl)) (g := (mkF m 15 #[iv p1, iv p2, iv p3, iv p4, iv p5, iv ca, iv cb, .unset, .unset, .unset, .unset, .unset, .unset] [(.int p3)])) rfl (hb hby at_15) _ ?_
    refine XS.iand X0.here hx rfl (hb hby at_17) rfl ?_
    refine XS.i2c X0.here hx rfl (hb hby at_18) rfl ?_
    show own_S p e below s₁ (mkF m 19 #[iv p1, iv p2, iv p3, iv p4, iv p5, iv ca, iv cb, .unset, .unset, .unset, .unset, .unset, .unset] [(.int ((p3 &&& (65535 : Int32)).toUInt32.toUInt16.toUInt32.toInt32))]) _
    rw [hc43]
    refine XS.istore X0.here hx rfl (hb hby at_19) rfl (l' := #[iv p1, iv p2, iv p3, iv p4, iv p5, iv ca, iv cb, iv cc, .unset, .unset, .unset, .unset, .unset]) rfl ?_
    refine own_iN X0 hx hby at_21 ?_
    refine X0.ldcInt hx hown (mvT hZ (own_w hw 0 rfl)) (g := (mkF m 22 #[iv p1, iv p2, iv p3, iv p4, iv p5, iv ca, iv cb, iv cc, .unset, .unset, .unset, .unset, .unset] [(.int p4)])) rfl (hb hby at_22) _ ?_
    refine XS.iand X0.here hx rfl (hb hby at_24) rfl ?_
    refine XS.i2c X0.here hx rfl (hb hby at_25) rfl ?_
    show own_S p e below s₁ (mkF m 26 #[iv p1, iv p2, iv p3, iv p4, iv p5, iv ca, iv cb, iv cc, .unset, .unset, .unset, .unset, .unset] [(.int ((p4 &&& (65535 : Int32)).toUInt32.toUInt16.toUInt32.toInt32))]) _
    rw [hc44]
    refine XS.istore X0.here hx rfl (hb hby at_26) rfl (l' := #[iv p1, iv p2, iv p3, iv p4, iv p5, iv ca, iv cb, iv cc, iv cd, .unset, .unset, .unset, .unset]) rfl ?_
    refine own_i X0 hx hby at_28 ?_
    refine XS.bipush X0.here hx rfl (hb hby at_30) ?_
    refine XS.iand X0.here hx rfl (hb hby at_32) rfl ?_
    refine own_k X0 hx hby at_33 ?_
    refine iremM X0 hx rfl (hb hby at_34) rfl (by decide) ?_
    show own_S p e below s₁ (mkF m 35 #[iv p1, iv p2, iv p3, iv p4, iv p5, iv ca, iv cb, iv cc, iv cd, .unset, .unset, .unset, .unset] [(.int ((p5 &&& (7 : Int32)) % (5 : Int32)))]) _
    rw [hc53]
    refine XS.istore X0.here hx rfl (hb hby at_35) rfl (l' := #[iv p1, iv p2, iv p3, iv p4, iv p5, iv ca, iv cb, iv cc, iv cd, iv (3 : Int32), .unset, .unset, .unset]) rfl ?_
    refine own_i X0 hx hby at_37 ?_
    refine own_i X0 hx hby at_39 ?_
    refine own_i X0 hx hby at_41 ?_
    refine own_i X0 hx hby at_43 ?_
    refine own_i X0 hx hby at_45 ?_
    refine st386 _ ?_
    refine XS.astore X386.here hx rfl (hb hby at_50) rfl rfl (l' := #[iv p1, iv p2, iv p3, iv p4, iv p5, iv ca, iv cb, iv cc, iv cd, iv (3 : Int32), rv b387, .unset, .unset]) rfl ?_
    refine own_a X386 hx hby at_52 ?_
    refine st388 _ ?_
    refine XS.astore X388.here hx rfl (hb hby at_57) rfl rfl (l' := #[iv p1, iv p2, iv p3, iv p4, iv p5, iv ca, iv cb, iv cc, iv cd, iv (3 : Int32), rv b387, rv b387, .unset]) rfl ?_
    refine own_a X388 hx hby at_59 ?_
    refine st389 _ ?_
    refine own_i X389 hx hby at_64 ?_
    refine own_cy (pc := 66) X389 hx hby at_66 (teq (rfl : (3 : Int32) = (3 : Int32))).1 71 ?_
    refine own_k X389 hx hby at_71 ?_
    refine XS.istore X389.here hx rfl (hb hby at_72) rfl (l' := #[iv p1, iv p2, iv p3, iv p4, iv p5, iv ca, iv cb, iv cc, iv cd, iv (3 : Int32), rv b387, rv b387, iv (0 : Int32)]) rfl ?_
    refine own_i X389 hx hby at_74 ?_
    refine own_in X389 hx hby at_76 (tlt (by decide : (0 : Int32) < (3 : Int32))).2.2.2 ?_
    refine own_a X389 hx hby at_79 ?_
    refine own_k X389 hx hby at_81 ?_
    refine st390 _ ?_
    refine own_i X390 hx hby at_85 ?_
    refine st391 _ ?_
    refine own_cy (pc := 90) X391 hx hby at_90 (teq (Eq.symm hc48)).1 95 ?_
    refine own_i X391 hx hby at_95 ?_
    refine own_in X391 hx hby at_97 (teq (rfl : (0 : Int32) = (0 : Int32))).2 ?_
    refine own_i X391 hx hby at_100 ?_
    refine st392 _ ?_
    refine own_iy (pc := 105) X392 hx hby at_105 (teq (rfl : (0 : Int32) = (0 : Int32))).1 112 ?_
    refine own_k X392 hx hby at_112 ?_
    refine XS.istore X392.here hx rfl (hb hby at_113) rfl (l' := #[iv p1, iv p2, iv p3, iv p4, iv p5, iv ca, iv cb, iv cc, iv cd, iv (3 : Int32), rv b387, rv b387, iv (0 : Int32)]) rfl ?_
    refine own_i X392 hx hby at_115 ?_
    refine own_k X392 hx hby at_117 ?_
    refine own_cn X392 hx hby at_118 (tlt (by decide : (1 : Int32) < (3 : Int32))).2.2.2 ?_
    refine own_a X392 hx hby at_121 ?_
    refine own_k X392 hx hby at_123 ?_
    refine st393 _ ?_
    refine own_i X393 hx hby at_127 ?_
    refine st394 _ ?_
    refine own_cy (pc := 132) X394 hx hby at_132 (teq (Eq.symm hc52)).1 137 ?_
    refine own_i X394 hx hby at_137 ?_
    refine own_in X394 hx hby at_139 (teq (rfl : (0 : Int32) = (0 : Int32))).2 ?_
    refine own_i X394 hx hby at_142 ?_
    refine st395 _ ?_
    refine own_iy (pc := 147) X395 hx hby at_147 (teq (rfl : (0 : Int32) = (0 : Int32))).1 154 ?_
    refine own_k X395 hx hby at_154 ?_
    refine XS.istore X395.here hx rfl (hb hby at_155) rfl (l' := #[iv p1, iv p2, iv p3, iv p4, iv p5, iv ca, iv cb, iv cc, iv cd, iv (3 : Int32), rv b387, rv b387, iv (0 : Int32)]) rfl ?_
    refine own_i X395 hx hby at_157 ?_
    refine own_k X395 hx hby at_159 ?_
    refine own_cn X395 hx hby at_160 (tlt (by decide : (2 : Int32) < (3 : Int32))).2.2.2 ?_
    refine own_a X395 hx hby at_163 ?_
    refine own_k X395 hx hby at_165 ?_
    refine st396 _ ?_
    refine own_i X396 hx hby at_169 ?_
    refine st397 _ ?_
    refine own_cy (pc := 174) X397 hx hby at_174 (teq (Eq.symm hc36)).1 179 ?_
    refine own_i X397 hx hby at_179 ?_
    refine own_in X397 hx hby at_181 (teq (rfl : (0 : Int32) = (0 : Int32))).2 ?_
    refine own_i X397 hx hby at_184 ?_
    refine st398 _ ?_
    refine own_iy (pc := 189) X398 hx hby at_189 (teq (rfl : (0 : Int32) = (0 : Int32))).1 196 ?_
    refine own_k X398 hx hby at_196 ?_
    refine XS.istore X398.here hx rfl (hb hby at_197) rfl (l' := #[iv p1, iv p2, iv p3, iv p4, iv p5, iv ca, iv cb, iv cc, iv cd, iv (3 : Int32), rv b387, rv b387, iv (0 : Int32)]) rfl ?_
    refine own_i X398 hx hby at_199 ?_
    refine own_k X398 hx hby at_201 ?_
    refine own_cy (pc := 202) X398 hx hby at_202 (flt (Int32.lt_irrefl : ¬ ((3 : Int32) < (3 : Int32)))).2.2.2 241 ?_
    refine own_i X398 hx hby at_241 ?_
    refine own_in X398 hx hby at_243 (teq (rfl : (0 : Int32) = (0 : Int32))).2 ?_
    refine own_a X398 hx hby at_246 ?_
    refine own_a X398 hx hby at_248 ?_
    refine Jvm.RoadKit.acmp (g := (mkF m 250 #[iv p1, iv p2, iv p3, iv p4, iv p5, iv ca, iv cb, iv cc, iv cd, iv (3 : Int32), rv b387, rv b387, iv (0 : Int32)] [(.ref b387), (.ref b387)])) X398 hx rfl rfl rfl (pc0 := 250) (pc' := 255) (same := true) rfl (hb hby at_250) rfl (decide_eq_true rfl) (by decide) (by decide) ?_
    refine own_k X398 hx hby at_255 ?_
    exact retN X398 hx (t := .boolean) hret (by simp) (hb hby at_256) hr
  · show Qrm0_3_3 Z w_CS w_SF p1 p2 p3 p4 p5 ca cb cc cd h0 _ T398.heap _
    exact ⟨rfl, N398⟩
def Qrm399 (Z : State) (w_CS ca cb cc cd : Int32) (h0 : Heap) (v : Option Value) (h : Heap) (L : List Loc) : Prop := ∃ b400 : Addr, v = some (.ref b400) ∧ Fr Z.heap.size L ∧ Keep h0 h [] ∧ h0.size ≤ b400 ∧ Exa Z h b400 "java/lang/String" ∧ own_rep Z h b400 [ca, cb, cc, cd]
theorem rm399 (l : Launch) (Z : State) (a0 : Array Value) (hw : own_HW Z a0) (ws : List Jvm.Cond) (w_CS ca cb cc cd : Int32) (h0 : Heap) (Z0 : Ext Z.heap h0) (S_w_CS : own_w_CS Z w_CS) (S_s__assertionsDisabled : own_s__assertionsDisabled Z) (S_s_HI_BYTE_SHIFT : own_s_HI_BYTE_SHIFT Z) (S_s_LO_BYTE_SHIFT : own_s_LO_BYTE_SHIFT Z) (hc46 : own_u16 ca) (hc50 : own_u16 cb) (hc17 : own_u16 cc) (hc56 : own_u16 cd) (hc1 : ¬ (w_CS = (0 : Int32))) :
    own_met l y_32 method_4_code 5 (some (.object "java/lang/String")) ws ({ frames := 7, cells := 4, slots := 20, locals := 124 } : Room) Z #[(.int (4 : Int32)), (.int ca), (.int cb), (.int cc), (.int cd)] h0 (Qrm399 Z w_CS ca cb cc cd h0) := by
  refine own_start (plainFor_of_name pn_0) (fun m => ef_method_4_IIIII m (4 : Int32) ca cb cc cd) ?_
  intro p e s m below meth c s₁ hx hby hml hown hnm X0 hZ e0 hret hlk
  have N0 := Fr.nil Z.heap.size
  obtain ⟨T400, h400, X400, e400, E400, A400, D400, -, st400⟩ := newO X0 hx hZ hown (own_w hw 5 rfl) (own_w hw 6 rfl) (own_w hw 7 rfl) e0 (g := (mkF m 87 #[iv (4 : Int32), iv ca, iv cb, iv cc, iv cd] [])) rfl (hb hby d1_87) (by decide) (by decide)
  obtain ⟨b400, g400⟩ : ∃ z, z = h0.size := ⟨_, rfl⟩
  rw [← g400] at A400 D400 st400
  have g_b400 : Z.heap.size ≤ b400 := Nat.le_trans Z0.1 (Nat.le_of_eq g400.symm)
  have sz_b400 : h0.size ≤ b400 := Nat.le_trans (Keep.refl h0 []).1 (Nat.le_of_eq g400.symm)
  have F_b400_value : Fld Z h400 b400 "java/lang/String" "value" "[B" .null := D400 (Or.inr (own_w hw 21 rfl)) (ty := (.array .byte)) (by decide)
  have F_b400_coder : Fld Z h400 b400 "java/lang/String" "coder" "B" (.int (0 : Int32)) := D400 (Or.inr (own_w hw 22 rfl)) (ty := .byte) (by decide)
  have K400 : Keep h0 h400 [] := (Keep.refl h0 []).ext E400
  have XX400 : Ext Z.heap h400 := own_ext2 Z0 E400
  obtain ⟨T401, h401, k401, X401, e401, E401, A401, st401⟩ := newP X400 hx hZ (own_w hw 8 rfl) e400 (g := (mkF m 92 #[iv (4 : Int32), iv ca, iv cb, iv cc, iv cd] [(.int (4 : Int32)), (.ref b400), (.ref b400)])) rfl (hb hby d1_92) rfl (by decide) (cap := 4) (by decide) (by decide) (by decide) (by decide)
  obtain ⟨b401, g401⟩ : ∃ z, z = h400.size := ⟨_, rfl⟩
  rw [← g401] at A401 st401
  have g_b401 : Z.heap.size ≤ b401 := Nat.le_trans XX400.1 (Nat.le_of_eq g401.symm)
  have sz_b401 : h0.size ≤ b401 := Nat.le_trans K400.1 (Nat.le_of_eq g401.symm)
  have V_b401 : Arv Z h401 b401 k401 .char (4 : Int32) [(.int (0 : Int32)), (.int (0 : Int32)), (.int (0 : Int32)), (.int (0 : Int32))] (.int (0 : Int32)) := (Arv.new A401 (by decide)).pad (pad_rep [] (.int (0 : Int32)) 4)
  have K401 : Keep h0 h401 [] := K400.ext E401
  have XX401 : Ext Z.heap h401 := own_ext2 XX400 E401
  obtain ⟨cl402, Ar402, q402, S402, Nn402, H402, G402⟩ := id V_b401
  have hin402 : ¬ ((0 : Int32) < 0 ∨ cl402.slots.size ≤ ((0 : Int32)).toNatClampNeg) := inb_of S402 ⟨by decide, by decide⟩
  obtain ⟨T403, h403, X403, e403, W403, st403⟩ := stC X401 hx hZ e401 Ar402 (j := (0 : Int32)) hin402 (g := (mkF m 97 #[iv (4 : Int32), iv ca, iv cb, iv cc, iv cd] [(.int ca), (.int (0 : Int32)), (.ref b401), (.ref b401), (.ref b400), (.ref b400)])) rfl rfl (hb hby d1_97)
  rw [(own_nc hc46)] at W403
  have V403 : Arv Z h403 b401 k401 .char (4 : Int32) [(.int ca), (.int (0 : Int32)), (.int (0 : Int32)), (.int (0 : Int32))] (.int (0 : Int32)) := Arv.set Ar402 q402 S402 Nn402 H402 G402 (by rw [← (own_nc hc46)]; exact fits_nar_char _) W403 0 rfl (Nat.le_of_ble_eq_true rfl)
  have K403 : Keep h0 h403 [] := K401.wr W403 (Or.inr sz_b401)
  have XX403 : Ext Z.heap h403 := own_extW XX401 W403 g_b401
  have N403 := Fr.snoc X403 N0 g_b401
  obtain ⟨cl404, Ar404, q404, S404, Nn404, H404, G404⟩ := id V403
  have hin404 : ¬ ((1 : Int32) < 0 ∨ cl404.slots.size ≤ ((1 : Int32)).toNatClampNeg) := inb_of S404 ⟨by decide, by decide⟩
  obtain ⟨T405, h405, X405, e405, W405, st405⟩ := stC X403 hx hZ e403 Ar404 (j := (1 : Int32)) hin404 (g := (mkF m 101 #[iv (4 : Int32), iv ca, iv cb, iv cc, iv cd] [(.int cb), (.int (1 : Int32)), (.ref b401), (.ref b401), (.ref b400), (.ref b400)])) rfl rfl (hb hby d1_101)
  rw [(own_nc hc50)] at W405
  have V405 : Arv Z h405 b401 k401 .char (4 : Int32) [(.int ca), (.int cb), (.int (0 : Int32)), (.int (0 : Int32))] (.int (0 : Int32)) := Arv.set Ar404 q404 S404 Nn404 H404 G404 (by rw [← (own_nc hc50)]; exact fits_nar_char _) W405 1 rfl (Nat.le_of_ble_eq_true rfl)
  have K405 : Keep h0 h405 [] := K403.wr W405 (Or.inr sz_b401)
  have XX405 : Ext Z.heap h405 := own_extW XX403 W405 g_b401
  have N405 := Fr.snoc X405 N403 g_b401
  obtain ⟨cl406, Ar406, q406, S406, Nn406, H406, G406⟩ := id V405
  have hin406 : ¬ ((2 : Int32) < 0 ∨ cl406.slots.size ≤ ((2 : Int32)).toNatClampNeg) := inb_of S406 ⟨by decide, by decide⟩
  obtain ⟨T407, h407, X407, e407, W407, st407⟩ := stC X405 hx hZ e405 Ar406 (j := (2 : Int32)) hin406 (g := (mkF m 105 #[iv (4 : Int32), iv ca, iv cb, iv cc, iv cd] [(.int cc), (.int (2 : Int32)), (.ref b401), (.ref b401), (.ref b400), (.ref b400)])) rfl rfl (hb hby d1_105)
  rw [(own_nc hc17)] at W407
  have V407 : Arv Z h407 b401 k401 .char (4 : Int32) [(.int ca), (.int cb), (.int cc), (.int (0 : Int32))] (.int (0 : Int32)) := Arv.set Ar406 q406 S406 Nn406 H406 G406 (by rw [← (own_nc hc17)]; exact fits_nar_char _) W407 2 rfl (Nat.le_of_ble_eq_true rfl)
  have K407 : Keep h0 h407 [] := K405.wr W407 (Or.inr sz_b401)
  have XX407 : Ext Z.heap h407 := own_extW XX405 W407 g_b401
  have N407 := Fr.snoc X407 N405 g_b401
  obtain ⟨cl408, Ar408, q408, S408, Nn408, H408, G408⟩ := id V407
  have hin408 : ¬ ((3 : Int32) < 0 ∨ cl408.slots.size ≤ ((3 : Int32)).toNatClampNeg) := inb_of S408 ⟨by decide, by decide⟩
  obtain ⟨T409, h409, X409, e409, W409, st409⟩ := stC X407 hx hZ e407 Ar408 (j := (3 : Int32)) hin408 (g := (mkF m 110 #[iv (4 : Int32), iv ca, iv cb, iv cc, iv cd] [(.int cd), (.int (3 : Int32)), (.ref b401), (.ref b401), (.ref b400), (.ref b400)])) rfl rfl (hb hby d1_110)
  rw [(own_nc hc56)] at W409
  have V409 : Arv Z h409 b401 k401 .char (4 : Int32) [(.int ca), (.int cb), (.int cc), (.int cd)] (.int (0 : Int32)) := Arv.set Ar408 q408 S408 Nn408 H408 G408 (by rw [← (own_nc hc56)]; exact fits_nar_char _) W409 3 rfl (Nat.le_of_ble_eq_true rfl)
  have K409 : Keep h0 h409 [] := K407.wr W409 (Or.inr sz_b401)
  have XX409 : Ext Z.heap h409 := own_extW XX407 W409 g_b401
  have N409 := Fr.snoc X409 N407 g_b401
  have ne_b400_b401 : b400 ≠ b401 := Nat.ne_of_lt (Nat.lt_of_lt_of_le A400.lt (Nat.le_of_eq g401.symm))
  have f411_F_b400_coder : Fld Z h409 b400 "java/lang/String" "coder" "B" (.int (0 : Int32)) := (((((F_b400_coder.ext E401).other W403 (Or.inl ne_b400_b401)).other W405 (Or.inl ne_b400_b401)).other W407 (Or.inl ne_b400_b401)).other W409 (Or.inl ne_b400_b401))
  have f412_F_b400_value : Fld Z h409 b400 "java/lang/String" "value" "[B" .null := (((((F_b400_value.ext E401).other W403 (Or.inl ne_b400_b401)).other W405 (Or.inl ne_b400_b401)).other W407 (Or.inl ne_b400_b401)).other W409 (Or.inl ne_b400_b401))
  obtain ⟨_, T410, Lc410, X410, hQ410, st410⟩ := own_special (y := y_22) X409 hx hZ hown rfl (own_w hw 9 rfl) (own_w hw 10 rfl) (own_w hw 7 rfl) (own_w hw 11 rfl) (own_initG l Z a0 hw [] w_CS b400 b401 k401 [ca, cb, cc, cd] h409 XX409 S_w_CS S_s__assertionsDisabled S_s_HI_BYTE_SHIFT S_s_LO_BYTE_SHIFT (((((A400.ext E401).wr W403).wr W405).wr W407).wr W409) f411_F_b400_coder f412_F_b400_value V409 g_b400 hc1 ⟨Nat.le_of_ble_eq_true rfl, Nat.le_of_ble_eq_true rfl⟩ (own_a16_s hc46 (own_a16_s hc50 (own_a16_s hc17 (own_a16_s hc56 own_a16_0))))) e409 b400 (g := (mkF m 111 #[iv (4 : Int32), iv ca, iv cb, iv cc, iv cd] [(.ref b401), (.ref b400), (.ref b400)])) (argsL := [(.ref b401)]) (rest := [(.ref b400)]) (W := 1) (lenOf pd_25 rfl) (hb hby d1_111) hml
  obtain ⟨rfl, N410q, K410q, q410_E_b400, q410_T_b400⟩ := hQ410
  have K410 : Keep h0 T410.heap [] := K409.trans K410q (allS (Or.inr sz_b400) all0)
  have XX410 : Ext Z.heap T410.heap := own_extK XX409 K410q (allS g_b400 all0)
  have N410 := Fr.app N409 N410q
  obtain ⟨fs, hr, hrun, hended, hW, hsame⟩ := X410.leave (v := some (.ref b400)) (fun h => by rw [hret] at h; cases h) hlk
  refine ⟨_, _, ?_, hrun, hended, _, _, rfl, ?_, ⟨_, rfl⟩, hW, hsame.mono (by decide) (by decide)⟩
  · show own_S p e below s₁ (mkF m 0 #[iv (4 : Int32), iv ca, iv cb, iv cc, iv cd] []) _
    refine own_iN X0 hx hby d1_0 ?_
    refine own_iy (pc := 1) X0 hx hby d1_1 (feq (by decide : ¬ ((4 : Int32) = (0 : Int32)))).2 15 ?_
    refine own_iN X0 hx hby d1_15 ?_
    refine own_k X0 hx hby d1_16 ?_
    refine own_cy (pc := 17) X0 hx hby d1_17 (feq (by decide : ¬ ((4 : Int32) = (1 : Int32)))).2 35 ?_
    refine own_iN X0 hx hby d1_35 ?_
    refine own_k X0 hx hby d1_36 ?_
    refine own_cy (pc := 37) X0 hx hby d1_37 (feq (by decide : ¬ ((4 : Int32) = (2 : Int32)))).2 59 ?_
    refine own_iN X0 hx hby d1_59 ?_
    refine own_k X0 hx hby d1_60 ?_
    refine own_cy (pc := 61) X0 hx hby d1_61 (feq (by decide : ¬ ((4 : Int32) = (3 : Int32)))).2 87 ?_
    refine st400 _ ?_
    refine XS.dup X400.here hx rfl (hb hby d1_90) rfl rfl ?_
    refine own_k X400 hx hby d1_91 ?_
    refine st401 _ ?_
    refine XS.dup X401.here hx rfl (hb hby d1_94) rfl rfl ?_
    refine own_k X401 hx hby d1_95 ?_
    refine own_iN X401 hx hby d1_96 ?_
    refine st403 _ ?_
    refine XS.dup X403.here hx rfl (hb hby d1_98) rfl rfl ?_
    refine own_k X403 hx hby d1_99 ?_
    refine own_iN X403 hx hby d1_100 ?_
    refine st405 _ ?_
    refine XS.dup X405.here hx rfl (hb hby d1_102) rfl rfl ?_
    refine own_k X405 hx hby d1_103 ?_
    refine own_iN X405 hx hby d1_104 ?_
    refine st407 _ ?_
    refine XS.dup X407.here hx rfl (hb hby d1_106) rfl rfl ?_
    refine own_k X407 hx hby d1_107 ?_
    refine own_i X407 hx hby d1_108 ?_
    refine st409 _ ?_
    refine st410 _ ?_
    jvm_step X410.here [X410.here.top, hx, (hb hby d1_114), X410.method', hret, Value.isRef, FieldType.isReference]
    first | (intro acts; rw [hr _ acts rfl rfl rfl]) | rw [hr _ _ rfl rfl rfl]
    exact Steps.refl _
  · show Qrm399 Z w_CS ca cb cc cd h0 _ T410.heap _
    exact ⟨b400, rfl, N410, K410, sz_b400, q410_E_b400, q410_T_b400⟩
def Qrm0_4_0 (Z : State) (w_CS : Int32) (w_SF : Value) (p1 p2 p3 p4 p5 ca cb cc cd : Int32) (h0 : Heap) (v : Option Value) (h : Heap) (L : List Loc) : Prop := v = some (.int 1) ∧ Fr Z.heap.size L
theorem rm0_4_0 (l : Launch) (Z : State) (a0 : Array Value) (hw : own_HW Z a0) (ws : List Jvm.Cond) (w_CS : Int32) (w_SF : Value) (p1 p2 p3 p4 p5 ca cb cc cd : Int32) (h0 : Heap) (Z0 : Ext Z.heap h0) (S_w_CS : own_w_CS Z w_CS) (S_s__assertionsDisabled : own_s__assertionsDisabled Z) (S_s_HI_BYTE_SHIFT : own_s_HI_BYTE_SHIFT Z) (S_s_LO_BYTE_SHIFT : own_s_LO_BYTE_SHIFT Z) (R_w_SF : w_SF.isRef = true) (S_w_SF : own_w_SF Z w_SF) (hc41 : ((p1 &&& (65535 : Int32)).toUInt32.toUInt16.toUInt32.toInt32) = ca) (hc42 : ((p2 &&& (65535 : Int32)).toUInt32.toUInt16.toUInt32.toInt32) = cb) (hc43 : ((p3 &&& (65535 : Int32)).toUInt32.toUInt16.toUInt32.toInt32) = cc) (hc44 : ((p4 &&& (65535 : Int32)).toUInt32.toUInt16.toUInt32.toInt32) = cd) (hc55 : ((p5 &&& (7 : Int32)) % (5 : Int32)) = (4 : Int32)) (hc46 : own_u16 ca) (hc50 : own_u16 cb) (hc17 : own_u16 cc) (hc56 : own_u16 cd) (hc1 : ¬ (w_CS = (0 : Int32))) (hc47 : ¬ ((own_lo ca) = ca)) :
    own_met l x code maxLocals ret ws room_1 Z #[(.int p1), (.int p2), (.int p3), (.int p4), (.int p5)] h0 (Qrm0_4_0 Z w_CS w_SF p1 p2 p3 p4 p5 ca cb cc cd h0) := by
  refine own_start (plainFor_of_name pn_0) (fun m => ef_code_IIIII m p1 p2 p3 p4 p5) ?_
  intro p e s m below meth c s₁ hx hby hml hown hnm X0 hZ e0 hret hlk
  have N0 := Fr.nil Z.heap.size
  obtain ⟨_, T413, Lc413, X413, hQ413, st413⟩ := own_static (y := y_32) X0 hx hZ hown (own_w hw 1 rfl) (own_w hw 2 rfl) (own_w hw 3 rfl) (own_w hw 4 rfl) (rm399 l Z a0 hw [] w_CS ca cb cc cd h0 Z0 S_w_CS S_s__assertionsDisabled S_s_HI_BYTE_SHIFT S_s_LO_BYTE_SHIFT hc46 hc50 hc17 hc56 hc1) e0 (g := (mkF m 47 #[iv p1, iv p2, iv p3, iv p4, iv p5, iv ca, iv cb, iv cc, iv cd, iv (4 : Int32), .unset, .unset, .unset] [(.int cd), (.int cc), (.int cb), (.int ca), (.int (4 : Int32))])) (argsL := [(.int (4 : Int32)), (.int ca), (.int cb), (.int cc), (.int cd)]) (rest := []) (W := 0) (lenOf pd_26 rfl) (hb hby at_47) hml
  obtain ⟨b414, rfl, N413q, K413q, szn_b414, q413_E_b414, q413_T_b414⟩ := hQ413
  have g_b414 : Z.heap.size ≤ b414 := Nat.le_trans Z0.1 szn_b414
  have sz_b414 : h0.size ≤ b414 := Nat.le_trans (Keep.refl h0 []).1 szn_b414
  have K413 : Keep h0 T413.heap [] := (Keep.refl h0 []).trans K413q all0
  have XX413 : Ext Z.heap T413.heap := own_extK Z0 K413q all0
  have N413 := Fr.app N0 N413q
  obtain ⟨_, T415, Lc415, X415, hQ415, st415⟩ := own_static (y := y_31) X413 hx hZ hown (own_w hw 27 rfl) (own_w hw 28 rfl) (own_w hw 29 rfl) (own_w hw 30 rfl) (own_lcC l Z a0 hw [] w_CS w_SF b414 [ca, cb, cc, cd] T413.heap XX413 S_w_CS R_w_SF S_w_SF S_s__assertionsDisabled S_s_HI_BYTE_SHIFT S_s_LO_BYTE_SHIFT q413_E_b414 q413_T_b414 ⟨Nat.le_of_ble_eq_true rfl, Nat.le_of_ble_eq_true rfl⟩ (own_a16_s hc46 (own_a16_s hc50 (own_a16_s hc17 (own_a16_s hc56 own_a16_0)))) hc1 ⟨ca, by simp, hc47⟩) rfl (g := (mkF m 54 #[iv p1, iv p2, iv p3, iv p4, iv p5, iv ca, iv cb, iv cc, iv cd, iv (4 : Int32), rv b414, .unset, .unset] [(.ref b414)])) (argsL := [(.ref b414)]) (rest := []) (W := 0) (lenOf pd_27 rfl) (hb hby at_54) hml
  obtain ⟨b416, rfl, N415q, K415q, szn_b416, q415_E_b416, q415_T_b416⟩ := hQ415
  have g_b416 : Z.heap.size ≤ b416 := Nat.le_trans XX413.1 szn_b416
  have sz_b416 : h0.size ≤ b416 := Nat.le_trans K413.1 szn_b416
  have K415 : Keep h0 T415.heap [] := K413.trans K415q all0
  have XX415 : Ext Z.heap T415.heap := own_extK XX413 K415q all0
  have N415 := Fr.app N413 N415q
  obtain ⟨_, T417, Lc417, X417, hQ417, st417⟩ := own_virtual (y := y_4) X415 hx hZ hown (own_w hw 42 rfl) (own_w hw 32 rfl) (own_w hw 34 rfl) (own_w hw 33 rfl) (own_w hw 7 rfl) (own_w hw 35 rfl) (own_lenG l Z a0 hw [] w_CS b416 [(own_lo ca), (own_lo cb), (own_lo cc), (own_lo cd)] T415.heap XX415 S_w_CS q415_E_b416 q415_T_b416 hc1 (Nat.le_of_ble_eq_true rfl)) rfl q415_E_b416 (g := (mkF m 61 #[iv p1, iv p2, iv p3, iv p4, iv p5, iv ca, iv cb, iv cc, iv cd, iv (4 : Int32), rv b414, rv b416, .unset] [(.ref b416)])) (argsL := []) (rest := []) (W := 0) (lenOf pd_21 rfl) (hb hby at_61) hml
  obtain ⟨rfl, N417q, e417⟩ := hQ417
  have N417 := Fr.app N415 N417q
  obtain ⟨_, T418, Lc418, X418, hQ418, st418⟩ := own_virtual (y := y_9) X417 hx hZ hown (own_w hw 78 rfl) (own_w hw 54 rfl) (own_w hw 56 rfl) (own_w hw 55 rfl) (own_w hw 7 rfl) (own_w hw 57 rfl) (own_chG l Z a0 hw [] w_CS w_SF (own_lo ca) b416 [(own_lo ca), (own_lo cb), (own_lo cc), (own_lo cd)] (0 : Int32) T415.heap XX415 S_w_CS R_w_SF S_w_SF S_s__assertionsDisabled S_s_HI_BYTE_SHIFT S_s_LO_BYTE_SHIFT q415_E_b416 q415_T_b416 hc1 (own_u16_lo hc46) ⟨by decide, (by decide : (0 : Int32) < (4 : Int32)), rfl, Nat.le_of_ble_eq_true rfl⟩) e417 q415_E_b416 (g := (mkF m 82 #[iv p1, iv p2, iv p3, iv p4, iv p5, iv ca, iv cb, iv cc, iv cd, iv (4 : Int32), rv b414, rv b416, iv (0 : Int32)] [(.int (0 : Int32)), (.ref b416)])) (argsL := [(.int (0 : Int32))]) (rest := []) (W := 0) (lenOf pd_22 rfl) (hb hby at_82) hml
  obtain ⟨rfl, N418q, e418⟩ := hQ418
  have N418 := Fr.app N417 N418q
  obtain ⟨_, T419, Lc419, X419, hQ419, st419⟩ := own_static (y := y_2) X418 hx hZ hown (own_w hw 79 rfl) (own_w hw 80 rfl) (own_w hw 3 rfl) (own_w hw 81 rfl) (own_refJ l Z a0 hw [] ca T415.heap XX415 hc46) e418 (g := (mkF m 87 #[iv p1, iv p2, iv p3, iv p4, iv p5, iv ca, iv cb, iv cc, iv cd, iv (4 : Int32), rv b414, rv b416, iv (0 : Int32)] [(.int ca), (.int (own_lo ca))])) (argsL := [(.int ca)]) (rest := [(.int (own_lo ca))]) (W := 1) (lenOf pd_23 rfl) (hb hby at_87) hml
  obtain ⟨rfl, N419q, e419⟩ := hQ419
  have N419 := Fr.app N418 N419q
  obtain ⟨_, T420, Lc420, X420, hQ420, st420⟩ := own_static (y := y_0) X419 hx hZ hown (own_w hw 82 rfl) (own_w hw 83 rfl) (own_w hw 3 rfl) (own_w hw 84 rfl) (own_cap1 l Z a0 hw [] ca T415.heap XX415 hc47) e419 (g := (mkF m 102 #[iv p1, iv p2, iv p3, iv p4, iv p5, iv ca, iv cb, iv cc, iv cd, iv (4 : Int32), rv b414, rv b416, iv (0 : Int32)] [(.int ca)])) (argsL := [(.int ca)]) (rest := []) (W := 0) (lenOf pd_0 rfl) (hb hby at_102) hml
  obtain ⟨rfl, N420q, e420⟩ := hQ420
  have N420 := Fr.app N419 N420q
  obtain ⟨_, T421, Lc421, X421, hQ421, st421⟩ := own_virtual (y := y_9) X420 hx hZ hown (own_w hw 78 rfl) (own_w hw 54 rfl) (own_w hw 56 rfl) (own_w hw 55 rfl) (own_w hw 7 rfl) (own_w hw 57 rfl) (own_chG l Z a0 hw [] w_CS w_SF (own_lo cb) b416 [(own_lo ca), (own_lo cb), (own_lo cc), (own_lo cd)] (1 : Int32) T415.heap XX415 S_w_CS R_w_SF S_w_SF S_s__assertionsDisabled S_s_HI_BYTE_SHIFT S_s_LO_BYTE_SHIFT q415_E_b416 q415_T_b416 hc1 (own_u16_lo hc50) ⟨by decide, (by decide : (1 : Int32) < (4 : Int32)), rfl, Nat.le_of_ble_eq_true rfl⟩) e420 q415_E_b416 (g := (mkF m 124 #[iv p1, iv p2, iv p3, iv p4, iv p5, iv ca, iv cb, iv cc, iv cd, iv (4 : Int32), rv b414, rv b416, iv (1 : Int32)] [(.int (1 : Int32)), (.ref b416)])) (argsL := [(.int (1 : Int32))]) (rest := []) (W := 0) (lenOf pd_22 rfl) (hb hby at_124) hml
  obtain ⟨rfl, N421q, e421⟩ := hQ421
  have N421 := Fr.app N420 N421q
  obtain ⟨_, T422, Lc422, X422, hQ422, st422⟩ := own_static (y := y_2) X421 hx hZ hown (own_w hw 79 rfl) (own_w hw 80 rfl) (own_w hw 3 rfl) (own_w hw 81 rfl) (own_refJ l Z a0 hw [] cb T415.heap XX415 hc50) e421 (g := (mkF m 129 #[iv p1, iv p2, iv p3, iv p4, iv p5, iv ca, iv cb, iv cc, iv cd, iv (4 : Int32), rv b414, rv b416, iv (1 : Int32)] [(.int cb), (.int (own_lo cb))])) (argsL := [(.int cb)]) (rest := [(.int (own_lo cb))]) (W := 1) (lenOf pd_23 rfl) (hb hby at_129) hml
  obtain ⟨rfl, N422q, e422⟩ := hQ422
  have N422 := Fr.app N421 N422q
  obtain ⟨_, T423, Lc423, X423, hQ423, st423⟩ := own_virtual (y := y_9) X422 hx hZ hown (own_w hw 78 rfl) (own_w hw 54 rfl) (own_w hw 56 rfl) (own_w hw 55 rfl) (own_w hw 7 rfl) (own_w hw 57 rfl) (own_chG l Z a0 hw [] w_CS w_SF (own_lo cc) b416 [(own_lo ca), (own_lo cb), (own_lo cc), (own_lo cd)] (2 : Int32) T415.heap XX415 S_w_CS R_w_SF S_w_SF S_s__assertionsDisabled S_s_HI_BYTE_SHIFT S_s_LO_BYTE_SHIFT q415_E_b416 q415_T_b416 hc1 (own_u16_lo hc17) ⟨by decide, (by decide : (2 : Int32) < (4 : Int32)), rfl, Nat.le_of_ble_eq_true rfl⟩) e422 q415_E_b416 (g := (mkF m 166 #[iv p1, iv p2, iv p3, iv p4, iv p5, iv ca, iv cb, iv cc, iv cd, iv (4 : Int32), rv b414, rv b416, iv (1 : Int32)] [(.int (2 : Int32)), (.ref b416)])) (argsL := [(.int (2 : Int32))]) (rest := []) (W := 0) (lenOf pd_22 rfl) (hb hby at_166) hml
  obtain ⟨rfl, N423q, e423⟩ := hQ423
  have N423 := Fr.app N422 N423q
  obtain ⟨_, T424, Lc424, X424, hQ424, st424⟩ := own_static (y := y_2) X423 hx hZ hown (own_w hw 79 rfl) (own_w hw 80 rfl) (own_w hw 3 rfl) (own_w hw 81 rfl) (own_refJ l Z a0 hw [] cc T415.heap XX415 hc17) e423 (g := (mkF m 171 #[iv p1, iv p2, iv p3, iv p4, iv p5, iv ca, iv cb, iv cc, iv cd, iv (4 : Int32), rv b414, rv b416, iv (1 : Int32)] [(.int cc), (.int (own_lo cc))])) (argsL := [(.int cc)]) (rest := [(.int (own_lo cc))]) (W := 1) (lenOf pd_23 rfl) (hb hby at_171) hml
  obtain ⟨rfl, N424q, e424⟩ := hQ424
  have N424 := Fr.app N423 N424q
  obtain ⟨_, T425, Lc425, X425, hQ425, st425⟩ := own_virtual (y := y_9) X424 hx hZ hown (own_w hw 78 rfl) (own_w hw 54 rfl) (own_w hw 56 rfl) (own_w hw 55 rfl) (own_w hw 7 rfl) (own_w hw 57 rfl) (own_chG l Z a0 hw [] w_CS w_SF (own_lo cd) b416 [(own_lo ca), (own_lo cb), (own_lo cc), (own_lo cd)] (3 : Int32) T415.heap XX415 S_w_CS R_w_SF S_w_SF S_s__assertionsDisabled S_s_HI_BYTE_SHIFT S_s_LO_BYTE_SHIFT q415_E_b416 q415_T_b416 hc1 (own_u16_lo hc56) ⟨by decide, (by decide : (3 : Int32) < (4 : Int32)), rfl, Nat.le_of_ble_eq_true rfl⟩) e424 q415_E_b416 (g := (mkF m 208 #[iv p1, iv p2, iv p3, iv p4, iv p5, iv ca, iv cb, iv cc, iv cd, iv (4 : Int32), rv b414, rv b416, iv (1 : Int32)] [(.int (3 : Int32)), (.ref b416)])) (argsL := [(.int (3 : Int32))]) (rest := []) (W := 0) (lenOf pd_22 rfl) (hb hby at_208) hml
  obtain ⟨rfl, N425q, e425⟩ := hQ425
  have N425 := Fr.app N424 N425q
  obtain ⟨_, T426, Lc426, X426, hQ426, st426⟩ := own_static (y := y_2) X425 hx hZ hown (own_w hw 79 rfl) (own_w hw 80 rfl) (own_w hw 3 rfl) (own_w hw 81 rfl) (own_refJ l Z a0 hw [] cd T415.heap XX415 hc56) e425 (g := (mkF m 213 #[iv p1, iv p2, iv p3, iv p4, iv p5, iv ca, iv cb, iv cc, iv cd, iv (4 : Int32), rv b414, rv b416, iv (1 : Int32)] [(.int cd), (.int (own_lo cd))])) (argsL := [(.int cd)]) (rest := [(.int (own_lo cd))]) (W := 1) (lenOf pd_23 rfl) (hb hby at_213) hml
  obtain ⟨rfl, N426q, e426⟩ := hQ426
  have N426 := Fr.app N425 N426q
  obtain ⟨fs, hr, hrun, hended, hW, hsame⟩ := X426.leave (v := some (.int (1 : Int32))) (fun h => by rw [hret] at h; cases h) hlk
  refine ⟨_, _, ?_, hrun, hended, _, _, rfl, ?_, ⟨_, rfl⟩, hW, hsame.mono (by decide) (by decide)⟩
  · show own_S p e below s₁ (mkF m 0 #[iv p1, iv p2, iv p3, iv p4, iv p5, .unset, .unset, .unset, .unset, .unset, .unset, .unset, .unset] []) _
    refine own_iN X0 hx hby at_0 ?_
    refine X0.ldcInt hx hown (mvT hZ (own_w hw 0 rfl)) (g := (mkF m 1 #[iv p1, iv p2, iv p3, iv p4, iv p5, .unset, .unset, .unset, .unset, .unset, .unset, .unset, .unset] [(.int p1)])) rfl (hb hby at_1) _ ?_
    refine XS.iand X0.here hx rfl (hb hby at_3) rfl ?_
    refine XS.i2c X0.here hx rfl (hb hby at_4) rfl ?_
    show own_S p e below s₁ (mkF m 5 #[iv p1, iv p2, iv p3, iv p4, iv p5, .unset, .unset, .unset, .unset, .unset, .unset, .unset, .unset] [(.int ((p1 &&& (65535 : Int32)).toUInt32.toUInt16.toUInt32.toInt32))]) _
    rw [hc41]
    refine XS.istore X0.here hx rfl (hb hby at_5) rfl (l' := #[iv p1, iv p2, iv p3, iv p4, iv p5, iv ca, .unset, .unset, .unset, .unset, .unset, .unset, .unset]) rfl ?_
    refine own_iN X0 hx hby at_7 ?_
    refine X0.ldcInt hx hown (mvT hZ (own_w hw 0 rfl)) (g := (mkF m 8 #[iv p1, iv p2, iv p3, iv p4, iv p5, iv ca, .unset, .unset, .unset, .unset, .unset, .unset, .unset] [(.int p2)])) rfl (hb hby at_8) _ ?_
    refine XS.iand X0.here hx rfl (hb hby at_10) rfl ?_
    refine XS.i2c X0.here hx rfl (hb hby at_11) rfl ?_
    show own_S p e below s₁ (mkF m 12 #[iv p1, iv p2, iv p3, iv p4, iv p5, iv ca, .unset, .unset, .unset, .unset, .unset, .unset, .unset] [(.int ((p2 &&& (65535 : Int32)).toUInt32.toUInt16.toUInt32.toInt32))]) _
    rw [hc42]
    refine XS.istore X0.here hx rfl (hb hby at_12) rfl (l' := #[iv p1, iv p2, iv p3, iv p4, iv p5, iv ca, iv cb, .unset, .unset, .unset, .unset, .unset, .unset]) rfl ?_
    refine own_iN X0 hx hby at_14 ?_
    refine X0.ldcInt hx hown (mvT hZ (own_w hw 0 rfl)) (g := (mkF m 15 #[iv p1, iv p2, iv p3, iv p4, iv p5, iv ca, iv cb, .unset, .unset, .unset, .unset, .unset, .unset] [(.int p3)])) rfl (hb hby at_15) _ ?_
    refine XS.iand X0.here hx rfl (hb hby at_17) rfl ?_
    refine XS.i2c X0.here hx rfl (hb hby at_18) rfl ?_
    show own_S p e below s₁ (mkF m 19 #[iv p1, iv p2, iv p3, iv p4, iv p5, iv ca, iv cb, .unset, .unset, .unset, .unset, .unset, .unset] [(.int ((p3 &&& (65535 : Int32)).toUInt32.toUInt16.toUInt32.toInt32))]) _
    rw [hc43]
    refine XS.istore X0.here hx rfl (hb hby at_19) rfl (l' := #[iv p1, iv p2, iv p3, iv p4, iv p5, iv ca, iv cb, iv cc, .unset, .unset, .unset, .unset, .unset]) rfl ?_
    refine own_iN X0 hx hby at_21 ?_
    refine X0.ldcInt hx hown (mvT hZ (own_w hw 0 rfl)) (g := (mkF m 22 #[iv p1, iv p2, iv p3, iv p4, iv p5, iv ca, iv cb, iv cc, .unset, .unset, .unset, .unset, .unset] [(.int p4)])) rfl (hb hby at_22) _ ?_
    refine XS.iand X0.here hx rfl (hb hby at_24) rfl ?_
    refine XS.i2c X0.here hx rfl (hb hby at_25) rfl ?_
    show own_S p e below s₁ (mkF m 26 #[iv p1, iv p2, iv p3, iv p4, iv p5, iv ca, iv cb, iv cc, .unset, .unset, .unset, .unset, .unset] [(.int ((p4 &&& (65535 : Int32)).toUInt32.toUInt16.toUInt32.toInt32))]) _
    rw [hc44]
    refine XS.istore X0.here hx rfl (hb hby at_26) rfl (l' := #[iv p1, iv p2, iv p3, iv p4, iv p5, iv ca, iv cb, iv cc, iv cd, .unset, .unset, .unset, .unset]) rfl ?_
    refine own_i X0 hx hby at_28 ?_
    refine XS.bipush X0.here hx rfl (hb hby at_30) ?_
    refine XS.iand X0.here hx rfl (hb hby at_32) rfl ?_
    refine own_k X0 hx hby at_33 ?_
    refine iremM X0 hx rfl (hb hby at_34) rfl (by decide) ?_
    show own_S p e below s₁ (mkF m 35 #[iv p1, iv p2, iv p3, iv p4, iv p5, iv ca, iv cb, iv cc, iv cd, .unset, .unset, .unset, .unset] [(.int ((p5 &&& (7 : Int32)) % (5 : Int32)))]) _
    rw [hc55]
    refine XS.istore X0.here hx rfl (hb hby at_35) rfl (l' := #[iv p1, iv p2, iv p3, iv p4, iv p5, iv ca, iv cb, iv cc, iv cd, iv (4 : Int32), .unset, .unset, .unset]) rfl ?_
    refine own_i X0 hx hby at_37 ?_
    refine own_i X0 hx hby at_39 ?_
    refine own_i X0 hx hby at_41 ?_
    refine own_i X0 hx hby at_43 ?_
    refine own_i X0 hx hby at_45 ?_
    refine st413 _ ?_
    refine XS.astore X413.here hx rfl (hb hby at_50) rfl rfl (l' := #[iv p1, iv p2, iv p3, iv p4, iv p5, iv ca, iv cb, iv cc, iv cd, iv (4 : Int32), rv b414, .unset, .unset]) rfl ?_
    refine own_a X413 hx hby at_52 ?_
    refine st415 _ ?_
    refine XS.astore X415.here hx rfl (hb hby at_57) rfl rfl (l' := #[iv p1, iv p2, iv p3, iv p4, iv p5, iv ca, iv cb, iv cc, iv cd, iv (4 : Int32), rv b414, rv b416, .unset]) rfl ?_
    refine own_a X415 hx hby at_59 ?_
    refine st417 _ ?_
    refine own_i X417 hx hby at_64 ?_
    refine own_cy (pc := 66) X417 hx hby at_66 (teq (rfl : (4 : Int32) = (4 : Int32))).1 71 ?_
    refine own_k X417 hx hby at_71 ?_
    refine XS.istore X417.here hx rfl (hb hby at_72) rfl (l' := #[iv p1, iv p2, iv p3, iv p4, iv p5, iv ca, iv cb, iv cc, iv cd, iv (4 : Int32), rv b414, rv b416, iv (0 : Int32)]) rfl ?_
    refine own_i X417 hx hby at_74 ?_
    refine own_in X417 hx hby at_76 (tlt (by decide : (0 : Int32) < (4 : Int32))).2.2.2 ?_
    refine own_a X417 hx hby at_79 ?_
    refine own_k X417 hx hby at_81 ?_
    refine st418 _ ?_
    refine own_i X418 hx hby at_85 ?_
    refine st419 _ ?_
    refine own_cy (pc := 90) X419 hx hby at_90 (teq (rfl : (own_lo ca) = (own_lo ca))).1 95 ?_
    refine own_i X419 hx hby at_95 ?_
    refine own_in X419 hx hby at_97 (teq (rfl : (0 : Int32) = (0 : Int32))).2 ?_
    refine own_i X419 hx hby at_100 ?_
    refine st420 _ ?_
    refine own_in X420 hx hby at_105 (feq (by decide : ¬ ((1 : Int32) = (0 : Int32)))).1 ?_
    refine own_k X420 hx hby at_108 ?_
    refine own_go (pc := 109) X420 hx hby at_109 113 ?_
    refine XS.istore X420.here hx rfl (hb hby at_113) rfl (l' := #[iv p1, iv p2, iv p3, iv p4, iv p5, iv ca, iv cb, iv cc, iv cd, iv (4 : Int32), rv b414, rv b416, iv (1 : Int32)]) rfl ?_
    refine own_i X420 hx hby at_115 ?_
    refine own_k X420 hx hby at_117 ?_
    refine own_cn X420 hx hby at_118 (tlt (by decide : (1 : Int32) < (4 : Int32))).2.2.2 ?_
    refine own_a X420 hx hby at_121 ?_
    refine own_k X420 hx hby at_123 ?_
    refine st421 _ ?_
    refine own_i X421 hx hby at_127 ?_
    refine st422 _ ?_
    refine own_cy (pc := 132) X422 hx hby at_132 (teq (rfl : (own_lo cb) = (own_lo cb))).1 137 ?_
    refine own_i X422 hx hby at_137 ?_
    refine own_iy (pc := 139) X422 hx hby at_139 (feq (by decide : ¬ ((1 : Int32) = (0 : Int32)))).2 150 ?_
    refine own_k X422 hx hby at_150 ?_
    refine own_go (pc := 151) X422 hx hby at_151 155 ?_
    refine XS.istore X422.here hx rfl (hb hby at_155) rfl (l' := #[iv p1, iv p2, iv p3, iv p4, iv p5, iv ca, iv cb, iv cc, iv cd, iv (4 : Int32), rv b414, rv b416, iv (1 : Int32)]) rfl ?_
    refine own_i X422 hx hby at_157 ?_
    refine own_k X422 hx hby at_159 ?_
    refine own_cn X422 hx hby at_160 (tlt (by decide : (2 : Int32) < (4 : Int32))).2.2.2 ?_
    refine own_a X422 hx hby at_163 ?_
    refine own_k X422 hx hby at_165 ?_
    refine st423 _ ?_
    refine own_i X423 hx hby at_169 ?_
    refine st424 _ ?_
    refine own_cy (pc := 174) X424 hx hby at_174 (teq (rfl : (own_lo cc) = (own_lo cc))).1 179 ?_
    refine own_i X424 hx hby at_179 ?_
    refine own_iy (pc := 181) X424 hx hby at_181 (feq (by decide : ¬ ((1 : Int32) = (0 : Int32)))).2 192 ?_
    refine own_k X424 hx hby at_192 ?_
    refine own_go (pc := 193) X424 hx hby at_193 197 ?_
    refine XS.istore X424.here hx rfl (hb hby at_197) rfl (l' := #[iv p1, iv p2, iv p3, iv p4, iv p5, iv ca, iv cb, iv cc, iv cd, iv (4 : Int32), rv b414, rv b416, iv (1 : Int32)]) rfl ?_
    refine own_i X424 hx hby at_199 ?_
    refine own_k X424 hx hby at_201 ?_
    refine own_cn X424 hx hby at_202 (tlt (by decide : (3 : Int32) < (4 : Int32))).2.2.2 ?_
    refine own_a X424 hx hby at_205 ?_
    refine own_k X424 hx hby at_207 ?_
    refine st425 _ ?_
    refine own_i X425 hx hby at_211 ?_
    refine st426 _ ?_
    refine own_cy (pc := 216) X426 hx hby at_216 (teq (rfl : (own_lo cd) = (own_lo cd))).1 221 ?_
    refine own_i X426 hx hby at_221 ?_
    refine own_iy (pc := 223) X426 hx hby at_223 (feq (by decide : ¬ ((1 : Int32) = (0 : Int32)))).2 234 ?_
    refine own_k X426 hx hby at_234 ?_
    refine own_go (pc := 235) X426 hx hby at_235 239 ?_
    refine XS.istore X426.here hx rfl (hb hby at_239) rfl (l' := #[iv p1, iv p2, iv p3, iv p4, iv p5, iv ca, iv cb, iv cc, iv cd, iv (4 : Int32), rv b414, rv b416, iv (1 : Int32)]) rfl ?_
    refine own_i X426 hx hby at_241 ?_
    refine own_iy (pc := 243) X426 hx hby at_243 (feq (by decide : ¬ ((1 : Int32) = (0 : Int32)))).2 255 ?_
    refine own_k X426 hx hby at_255 ?_
    exact retN X426 hx (t := .boolean) hret (by simp) (hb hby at_256) hr
  · show Qrm0_4_0 Z w_CS w_SF p1 p2 p3 p4 p5 ca cb cc cd h0 _ T426.heap _
    exact ⟨rfl, N426⟩
def Qrm0_4_1 (Z : State) (w_CS : Int32) (w_SF : Value) (p1 p2 p3 p4 p5 ca cb cc cd : Int32) (h0 : Heap) (v : Option Value) (h : Heap) (L : List Loc) : Prop := v = some (.int 1) ∧ Fr Z.heap.size L
theorem rm0_4_1 (l : Launch) (Z : State) (a0 : Array Value) (hw : own_HW Z a0) (ws : List Jvm.Cond) (w_CS : Int32) (w_SF : Value) (p1 p2 p3 p4 p5 ca cb cc cd : Int32) (h0 : Heap) (Z0 : Ext Z.heap h0) (S_w_CS : own_w_CS Z w_CS) (S_s__assertionsDisabled : own_s__assertionsDisabled Z) (S_s_HI_BYTE_SHIFT : own_s_HI_BYTE_SHIFT Z) (S_s_LO_BYTE_SHIFT : own_s_LO_BYTE_SHIFT Z) (R_w_SF : w_SF.isRef = true) (S_w_SF : own_w_SF Z w_SF) (hc41 : ((p1 &&& (65535 : Int32)).toUInt32.toUInt16.toUInt32.toInt32) = ca) (hc42 : ((p2 &&& (65535 : Int32)).toUInt32.toUInt16.toUInt32.toInt32) = cb) (hc43 : ((p3 &&& (65535 : Int32)).toUInt32.toUInt16.toUInt32.toInt32) = cc) (hc44 : ((p4 &&& (65535 : Int32)).toUInt32.toUInt16.toUInt32.toInt32) = cd) (hc55 : ((p5 &&& (7 : Int32)) % (5 : Int32)) = (4 : Int32)) (hc46 : own_u16 ca) (hc50 : own_u16 cb) (hc17 : own_u16 cc) (hc56 : own_u16 cd) (hc1 : ¬ (w_CS = (0 : Int32))) (hc51 : ¬ ((own_lo cb) = cb)) (hc48 : (own_lo ca) = ca) :
    own_met l x code maxLocals ret ws room_1 Z #[(.int p1), (.int p2), (.int p3), (.int p4), (.int p5)] h0 (Qrm0_4_1 Z w_CS w_SF p1 p2 p3 p4 p5 ca cb cc cd h0) := by
  refine own_start (plainFor_of_name pn_0) (fun m => ef_code_IIIII m p1 p2 p3 p4 p5) ?_
  intro p e s m below meth c s₁ hx hby hml hown hnm X0 hZ e0 hret hlk
  have N0 := Fr.nil Z.heap.size
  obtain ⟨_, T427, Lc427, X427, hQ427, st427⟩ := own_static (y := y_32) X0 hx hZ hown (own_w hw 1 rfl) (own_w hw 2 rfl) (own_w hw 3 rfl) (own_w hw 4 rfl) (rm399 l Z a0 hw [] w_CS ca cb cc cd h0 Z0 S_w_CS S_s__assertionsDisabled S_s_HI_BYTE_SHIFT S_s_LO_BYTE_SHIFT hc46 hc50 hc17 hc56 hc1) e0 (g := (mkF m 47 #[iv p1, iv p2, iv p3, iv p4, iv p5, iv ca, iv cb, iv cc, iv cd, iv (4 : Int32), .unset, .unset, .unset] [(.int cd), (.int cc), (.int cb), (.int ca), (.int (4 : Int32))])) (argsL := [(.int (4 : Int32)), (.int ca), (.int cb), (.int cc), (.int cd)]) (rest := []) (W := 0) (lenOf pd_26 rfl) (hb hby at_47) hml
  obtain ⟨b428, rfl, N427q, K427q, szn_b428, q427_E_b428, q427_T_b428⟩ := hQ427
  have g_b428 : Z.heap.size ≤ b428 := Nat.le_trans Z0.1 szn_b428
  have sz_b428 : h0.size ≤ b428 := Nat.le_trans (Keep.refl h0 []).1 szn_b428
  have K427 : Keep h0 T427.heap [] := (Keep.refl h0 []).trans K427q all0
  have XX427 : Ext Z.heap T427.heap := own_extK Z0 K427q all0
  have N427 := Fr.app N0 N427q
  obtain ⟨_, T429, Lc429, X429, hQ429, st429⟩ := own_static (y := y_31) X427 hx hZ hown (own_w hw 27 rfl) (own_w hw 28 rfl) (own_w hw 29 rfl) (own_w hw 30 rfl) (own_lcC l Z a0 hw [] w_CS w_SF b428 [ca, cb, cc, cd] T427.heap XX427 S_w_CS R_w_SF S_w_SF S_s__assertionsDisabled S_s_HI_BYTE_SHIFT S_s_LO_BYTE_SHIFT q427_E_b428 q427_T_b428 ⟨Nat.le_of_ble_eq_true rfl, Nat.le_of_ble_eq_true rfl⟩ (own_a16_s hc46 (own_a16_s hc50 (own_a16_s hc17 (own_a16_s hc56 own_a16_0)))) hc1 ⟨cb, by simp, hc51⟩) rfl (g := (mkF m 54 #[iv p1, iv p2, iv p3, iv p4, iv p5, iv ca, iv cb, iv cc, iv cd, iv (4 : Int32), rv b428, .unset, .unset] [(.ref b428)])) (argsL := [(.ref b428)]) (rest := []) (W := 0) (lenOf pd_27 rfl) (hb hby at_54) hml
  obtain ⟨b430, rfl, N429q, K429q, szn_b430, q429_E_b430, q429_T_b430⟩ := hQ429
  have g_b430 : Z.heap.size ≤ b430 := Nat.le_trans XX427.1 szn_b430
  have sz_b430 : h0.size ≤ b430 := Nat.le_trans K427.1 szn_b430
  have K429 : Keep h0 T429.heap [] := K427.trans K429q all0
  have XX429 : Ext Z.heap T429.heap := own_extK XX427 K429q all0
  have N429 := Fr.app N427 N429q
  obtain ⟨_, T431, Lc431, X431, hQ431, st431⟩ := own_virtual (y := y_4) X429 hx hZ hown (own_w hw 42 rfl) (own_w hw 32 rfl) (own_w hw 34 rfl) (own_w hw 33 rfl) (own_w hw 7 rfl) (own_w hw 35 rfl) (own_lenG l Z a0 hw [] w_CS b430 [(own_lo ca), (own_lo cb), (own_lo cc), (own_lo cd)] T429.heap XX429 S_w_CS q429_E_b430 q429_T_b430 hc1 (Nat.le_of_ble_eq_true rfl)) rfl q429_E_b430 (g := (mkF m 61 #[iv p1, iv p2, iv p3, iv p4, iv p5, iv ca, iv cb, iv cc, iv cd, iv (4 : Int32), rv b428, rv b430, .unset] [(.ref b430)])) (argsL := []) (rest := []) (W := 0) (lenOf pd_21 rfl) (hb hby at_61) hml
  obtain ⟨rfl, N431q, e431⟩ := hQ431
  have N431 := Fr.app N429 N431q
  obtain ⟨_, T432, Lc432, X432, hQ432, st432⟩ := own_virtual (y := y_9) X431 hx hZ hown (own_w hw 78 rfl) (own_w hw 54 rfl) (own_w hw 56 rfl) (own_w hw 55 rfl) (own_w hw 7 rfl) (own_w hw 57 rfl) (own_chG l Z a0 hw [] w_CS w_SF (own_lo ca) b430 [(own_lo ca), (own_lo cb), (own_lo cc), (own_lo cd)] (0 : Int32) T429.heap XX429 S_w_CS R_w_SF S_w_SF S_s__assertionsDisabled S_s_HI_BYTE_SHIFT S_s_LO_BYTE_SHIFT q429_E_b430 q429_T_b430 hc1 (own_u16_lo hc46) ⟨by decide, (by decide : (0 : Int32) < (4 : Int32)), rfl, Nat.le_of_ble_eq_true rfl⟩) e431 q429_E_b430 (g := (mkF m 82 #[iv p1, iv p2, iv p3, iv p4, iv p5, iv ca, iv cb, iv cc, iv cd, iv (4 : Int32), rv b428, rv b430, iv (0 : Int32)] [(.int (0 : Int32)), (.ref b430)])) (argsL := [(.int (0 : Int32))]) (rest := []) (W := 0) (lenOf pd_22 rfl) (hb hby at_82) hml
  obtain ⟨rfl, N432q, e432⟩ := hQ432
  have N432 := Fr.app N431 N432q
  obtain ⟨_, T433, Lc433, X433, hQ433, st433⟩ := own_static (y := y_2) X432 hx hZ hown (own_w hw 79 rfl) (own_w hw 80 rfl) (own_w hw 3 rfl) (own_w hw 81 rfl) (own_refJ l Z a0 hw [] ca T429.heap XX429 hc46) e432 (g := (mkF m 87 #[iv p1, iv p2, iv p3, iv p4, iv p5, iv ca, iv cb, iv cc, iv cd, iv (4 : Int32), rv b428, rv b430, iv (0 : Int32)] [(.int ca), (.int (own_lo ca))])) (argsL := [(.int ca)]) (rest := [(.int (own_lo ca))]) (W := 1) (lenOf pd_23 rfl) (hb hby at_87) hml
  obtain ⟨rfl, N433q, e433⟩ := hQ433
  have N433 := Fr.app N432 N433q
  obtain ⟨_, T434, Lc434, X434, hQ434, st434⟩ := own_static (y := y_0) X433 hx hZ hown (own_w hw 82 rfl) (own_w hw 83 rfl) (own_w hw 3 rfl) (own_w hw 84 rfl) (own_cap0 l Z a0 hw [] ca T429.heap XX429 hc48) e433 (g := (mkF m 102 #[iv p1, iv p2, iv p3, iv p4, iv p5, iv ca, iv cb, iv cc, iv cd, iv (4 : Int32), rv b428, rv b430, iv (0 : Int32)] [(.int ca)])) (argsL := [(.int ca)]) (rest := []) (W := 0) (lenOf pd_0 rfl) (hb hby at_102) hml
  obtain ⟨rfl, N434q, e434⟩ := hQ434
  have N434 := Fr.app N433 N434q
  obtain ⟨_, T435, Lc435, X435, hQ435, st435⟩ := own_virtual (y := y_9) X434 hx hZ hown (own_w hw 78 rfl) (own_w hw 54 rfl) (own_w hw 56 rfl) (own_w hw 55 rfl) (own_w hw 7 rfl) (own_w hw 57 rfl) (own_chG l Z a0 hw [] w_CS w_SF (own_lo cb) b430 [(own_lo ca), (own_lo cb), (own_lo cc), (own_lo cd)] (1 : Int32) T429.heap XX429 S_w_CS R_w_SF S_w_SF S_s__assertionsDisabled S_s_HI_BYTE_SHIFT S_s_LO_BYTE_SHIFT q429_E_b430 q429_T_b430 hc1 (own_u16_lo hc50) ⟨by decide, (by decide : (1 : Int32) < (4 : Int32)), rfl, Nat.le_of_ble_eq_true rfl⟩) e434 q429_E_b430 (g := (mkF m 124 #[iv p1, iv p2, iv p3, iv p4, iv p5, iv ca, iv cb, iv cc, iv cd, iv (4 : Int32), rv b428, rv b430, iv (0 : Int32)] [(.int (1 : Int32)), (.ref b430)])) (argsL := [(.int (1 : Int32))]) (rest := []) (W := 0) (lenOf pd_22 rfl) (hb hby at_124) hml
  obtain ⟨rfl, N435q, e435⟩ := hQ435
  have N435 := Fr.app N434 N435q
  obtain ⟨_, T436, Lc436, X436, hQ436, st436⟩ := own_static (y := y_2) X435 hx hZ hown (own_w hw 79 rfl) (own_w hw 80 rfl) (own_w hw 3 rfl) (own_w hw 81 rfl) (own_refJ l Z a0 hw [] cb T429.heap XX429 hc50) e435 (g := (mkF m 129 #[iv p1, iv p2, iv p3, iv p4, iv p5, iv ca, iv cb, iv cc, iv cd, iv (4 : Int32), rv b428, rv b430, iv (0 : Int32)] [(.int cb), (.int (own_lo cb))])) (argsL := [(.int cb)]) (rest := [(.int (own_lo cb))]) (W := 1) (lenOf pd_23 rfl) (hb hby at_129) hml
  obtain ⟨rfl, N436q, e436⟩ := hQ436
  have N436 := Fr.app N435 N436q
  obtain ⟨_, T437, Lc437, X437, hQ437, st437⟩ := own_static (y := y_0) X436 hx hZ hown (own_w hw 82 rfl) (own_w hw 83 rfl) (own_w hw 3 rfl) (own_w hw 84 rfl) (own_cap1 l Z a0 hw [] cb T429.heap XX429 hc51) e436 (g := (mkF m 144 #[iv p1, iv p2, iv p3, iv p4, iv p5, iv ca, iv cb, iv cc, iv cd, iv (4 : Int32), rv b428, rv b430, iv (0 : Int32)] [(.int cb)])) (argsL := [(.int cb)]) (rest := []) (W := 0) (lenOf pd_0 rfl) (hb hby at_144) hml
  obtain ⟨rfl, N437q, e437⟩ := hQ437
  have N437 := Fr.app N436 N437q
  obtain ⟨_, T438, Lc438, X438, hQ438, st438⟩ := own_virtual (y := y_9) X437 hx hZ hown (own_w hw 78 rfl) (own_w hw 54 rfl) (own_w hw 56 rfl) (own_w hw 55 rfl) (own_w hw 7 rfl) (own_w hw 57 rfl) (own_chG l Z a0 hw [] w_CS w_SF (own_lo cc) b430 [(own_lo ca), (own_lo cb), (own_lo cc), (own_lo cd)] (2 : Int32) T429.heap XX429 S_w_CS R_w_SF S_w_SF S_s__assertionsDisabled S_s_HI_BYTE_SHIFT S_s_LO_BYTE_SHIFT q429_E_b430 q429_T_b430 hc1 (own_u16_lo hc17) ⟨by decide, (by decide : (2 : Int32) < (4 : Int32)), rfl, Nat.le_of_ble_eq_true rfl⟩) e437 q429_E_b430 (g := (mkF m 166 #[iv p1, iv p2, iv p3, iv p4, iv p5, iv ca, iv cb, iv cc, iv cd, iv (4 : Int32), rv b428, rv b430, iv (1 : Int32)] [(.int (2 : Int32)), (.ref b430)])) (argsL := [(.int (2 : Int32))]) (rest := []) (W := 0) (lenOf pd_22 rfl) (hb hby at_166) hml
  obtain ⟨rfl, N438q, e438⟩ := hQ438
  have N438 := Fr.app N437 N438q
  obtain ⟨_, T439, Lc439, X439, hQ439, st439⟩ := own_static (y := y_2) X438 hx hZ hown (own_w hw 79 rfl) (own_w hw 80 rfl) (own_w hw 3 rfl) (own_w hw 81 rfl) (own_refJ l Z a0 hw [] cc T429.heap XX429 hc17) e438 (g := (mkF m 171 #[iv p1, iv p2, iv p3, iv p4, iv p5, iv ca, iv cb, iv cc, iv cd, iv (4 : Int32), rv b428, rv b430, iv (1 : Int32)] [(.int cc), (.int (own_lo cc))])) (argsL := [(.int cc)]) (rest := [(.int (own_lo cc))]) (W := 1) (lenOf pd_23 rfl) (hb hby at_171) hml
  obtain ⟨rfl, N439q, e439⟩ := hQ439
  have N439 := Fr.app N438 N439q
  obtain ⟨_, T440, Lc440, X440, hQ440, st440⟩ := own_virtual (y := y_9) X439 hx hZ hown (own_w hw 78 rfl) (own_w hw 54 rfl) (own_w hw 56 rfl) (own_w hw 55 rfl) (own_w hw 7 rfl) (own_w hw 57 rfl) (own_chG l Z a0 hw [] w_CS w_SF (own_lo cd) b430 [(own_lo ca), (own_lo cb), (own_lo cc), (own_lo cd)] (3 : Int32) T429.heap XX429 S_w_CS R_w_SF S_w_SF S_s__assertionsDisabled S_s_HI_BYTE_SHIFT S_s_LO_BYTE_SHIFT q429_E_b430 q429_T_b430 hc1 (own_u16_lo hc56) ⟨by decide, (by decide : (3 : Int32) < (4 : Int32)), rfl, Nat.le_of_ble_eq_true rfl⟩) e439 q429_E_b430 (g := (mkF m 208 #[iv p1, iv p2, iv p3, iv p4, iv p5, iv ca, iv cb, iv cc, iv cd, iv (4 : Int32), rv b428, rv b430, iv (1 : Int32)] [(.int (3 : Int32)), (.ref b430)])) (argsL := [(.int (3 : Int32))]) (rest := []) (W := 0) (lenOf pd_22 rfl) (hb hby at_208) hml
  obtain ⟨rfl, N440q, e440⟩ := hQ440
  have N440 := Fr.app N439 N440q
  obtain ⟨_, T441, Lc441, X441, hQ441, st441⟩ := own_static (y := y_2) X440 hx hZ hown (own_w hw 79 rfl) (own_w hw 80 rfl) (own_w hw 3 rfl) (own_w hw 81 rfl) (own_refJ l Z a0 hw [] cd T429.heap XX429 hc56) e440 (g := (mkF m 213 #[iv p1, iv p2, iv p3, iv p4, iv p5, iv ca, iv cb, iv cc, iv cd, iv (4 : Int32), rv b428, rv b430, iv (1 : Int32)] [(.int cd), (.int (own_lo cd))])) (argsL := [(.int cd)]) (rest := [(.int (own_lo cd))]) (W := 1) (lenOf pd_23 rfl) (hb hby at_213) hml
  obtain ⟨rfl, N441q, e441⟩ := hQ441
  have N441 := Fr.app N440 N441q
  obtain ⟨fs, hr, hrun, hended, hW, hsame⟩ := X441.leave (v := some (.int (1 : Int32))) (fun h => by rw [hret] at h; cases h) hlk
  refine ⟨_, _, ?_, hrun, hended, _, _, rfl, ?_, ⟨_, rfl⟩, hW, hsame.mono (by decide) (by decide)⟩
  · show own_S p e below s₁ (mkF m 0 #[iv p1, iv p2, iv p3, iv p4, iv p5, .unset, .unset, .unset, .unset, .unset, .unset, .unset, .unset] []) _
    refine own_iN X0 hx hby at_0 ?_
    refine X0.ldcInt hx hown (mvT hZ (own_w hw 0 rfl)) (g := (mkF m 1 #[iv p1, iv p2, iv p3, iv p4, iv p5, .unset, .unset, .unset, .unset, .unset, .unset, .unset, .unset] [(.int p1)])) rfl (hb hby at_1) _ ?_
    refine XS.iand X0.here hx rfl (hb hby at_3) rfl ?_
    refine XS.i2c X0.here hx rfl (hb hby at_4) rfl ?_
    show own_S p e below s₁ (mkF m 5 #[iv p1, iv p2, iv p3, iv p4, iv p5, .unset, .unset, .unset, .unset, .unset, .unset, .unset, .unset] [(.int ((p1 &&& (65535 : Int32)).toUInt32.toUInt16.toUInt32.toInt32))]) _
    rw [hc41]
    refine XS.istore X0.here hx rfl (hb hby at_5) rfl (l' := #[iv p1, iv p2, iv p3, iv p4, iv p5, iv ca, .unset, .unset, .unset, .unset, .unset, .unset, .unset]) rfl ?_
    refine own_iN X0 hx hby at_7 ?_
    refine X0.ldcInt hx hown (mvT hZ (own_w hw 0 rfl)) (g := (mkF m 8 #[iv p1, iv p2, iv p3, iv p4, iv p5, iv ca, .unset, .unset, .unset, .unset, .unset, .unset, .unset] [(.int p2)])) rfl (hb hby at_8) _ ?_
    refine XS.iand X0.here hx rfl (hb hby at_10) rfl ?_
    refine XS.i2c X0.here hx rfl (hb hby at_11) rfl ?_
    show own_S p e below s₁ (mkF m 12 #[iv p1, iv p2, iv p3, iv p4, iv p5, iv ca, .unset, .unset, .unset, .unset, .unset, .unset, .unset] [(.int ((p2 &&& (65535 : Int32)).toUInt32.toUInt16.toUInt32.toInt32))]) _
    rw [hc42]
    refine XS.istore X0.here hx rfl (hb hby at_12) rfl (l' := #[iv p1, iv p2, iv p3, iv p4, iv p5, iv ca, iv cb, .unset, .unset, .unset, .unset, .unset, .unset]) rfl ?_
    refine own_iN X0 hx hby at_14 ?_
    refine X0.ldcInt hx hown (mvT hZ (own_w hw 0 rfl)) (g := (mkF m 15 #[iv p1, iv p2, iv p3, iv p4, iv p5, iv ca, iv cb, .unset, .unset, .unset, .unset, .unset, .unset] [(.int p3)])) rfl (hb hby at_15) _ ?_
    refine XS.iand X0.here hx rfl (hb hby at_17) rfl ?_
    refine XS.i2c X0.here hx rfl (hb hby at_18) rfl ?_
    show own_S p e below s₁ (mkF m 19 #[iv p1, iv p2, iv p3, iv p4, iv p5, iv ca, iv cb, .unset, .unset, .unset, .unset, .unset, .unset] [(.int ((p3 &&& (65535 : Int32)).toUInt32.toUInt16.toUInt32.toInt32))]) _
    rw [hc43]
    refine XS.istore X0.here hx rfl (hb hby at_19) rfl (l' := #[iv p1, iv p2, iv p3, iv p4, iv p5, iv ca, iv cb, iv cc, .unset, .unset, .unset, .unset, .unset]) rfl ?_
    refine own_iN X0 hx hby at_21 ?_
    refine X0.ldcInt hx hown (mvT hZ (own_w hw 0 rfl)) (g := (mkF m 22 #[iv p1, iv p2, iv p3, iv p4, iv p5, iv ca, iv cb, iv cc, .unset, .unset, .unset, .unset, .unset] [(.int p4)])) rfl (hb hby at_22) _ ?_
    refine XS.iand X0.here hx rfl (hb hby at_24) rfl ?_
    refine XS.i2c X0.here hx rfl (hb hby at_25) rfl ?_
    show own_S p e below s₁ (mkF m 26 #[iv p1, iv p2, iv p3, iv p4, iv p5, iv ca, iv cb, iv cc, .unset, .unset, .unset, .unset, .unset] [(.int ((p4 &&& (65535 : Int32)).toUInt32.toUInt16.toUInt32.toInt32))]) _
    rw [hc44]
    refine XS.istore X0.here hx rfl (hb hby at_26) rfl (l' := #[iv p1, iv p2, iv p3, iv p4, iv p5, iv ca, iv cb, iv cc, iv cd, .unset, .unset, .unset, .unset]) rfl ?_
    refine own_i X0 hx hby at_28 ?_
    refine XS.bipush X0.here hx rfl (hb hby at_30) ?_
    refine XS.iand X0.here hx rfl (hb hby at_32) rfl ?_
    refine own_k X0 hx hby at_33 ?_
    refine iremM X0 hx rfl (hb hby at_34) rfl (by decide) ?_
    show own_S p e below s₁ (mkF m 35 #[iv p1, iv p2, iv p3, iv p4, iv p5, iv ca, iv cb, iv cc, iv cd, .unset, .unset, .unset, .unset] [(.int ((p5 &&& (7 : Int32)) % (5 : Int32)))]) _
    rw [hc55]
    refine XS.istore X0.here hx rfl (hb hby at_35) rfl (l' := #[iv p1, iv p2, iv p3, iv p4, iv p5, iv ca, iv cb, iv cc, iv cd, iv (4 : Int32), .unset, .unset, .unset]) rfl ?_
    refine own_i X0 hx hby at_37 ?_
    refine own_i X0 hx hby at_39 ?_
    refine own_i X0 hx hby at_41 ?_
    refine own_i X0 hx hby at_43 ?_
    refine own_i X0 hx hby at_45 ?_
    refine st427 _ ?_
    refine XS.astore X427.here hx rfl (hb hby at_50) rfl rfl (l' := #[iv p1, iv p2, iv p3, iv p4, iv p5, iv ca, iv cb, iv cc, iv cd, iv (4 : Int32), rv b428, .unset, .unset]) rfl ?_
    refine own_a X427 hx hby at_52 ?_
    refine st429 _ ?_
    refine XS.astore X429.here hx rfl (hb hby at_57) rfl rfl (l' := #[iv p1, iv p2, iv p3, iv p4, iv p5, iv ca, iv cb, iv cc, iv cd, iv (4 : Int32), rv b428, rv b430, .unset]) rfl ?_
    refine own_a X429 hx hby at_59 ?_
    refine st431 _ ?_
    refine own_i X431 hx hby at_64 ?_
    refine own_cy (pc := 66) X431 hx hby at_66 (teq (rfl : (4 : Int32) = (4 : Int32))).1 71 ?_
    refine own_k X431 hx hby at_71 ?_
    refine XS.istore X431.here hx rfl (hb hby at_72) rfl (l' := #[iv p1, iv p2, iv p3, iv p4, iv p5, iv ca, iv cb, iv cc, iv cd, iv (4 : Int32), rv b428, rv b430, iv (0 : Int32)]) rfl ?_
    refine own_i X431 hx hby at_74 ?_
    refine own_in X431 hx hby at_76 (tlt (by decide : (0 : Int32) < (4 : Int32))).2.2.2 ?_
    refine own_a X431 hx hby at_79 ?_
    refine own_k X431 hx hby at_81 ?_
    refine st432 _ ?_
    refine own_i X432 hx hby at_85 ?_
    refine st433 _ ?_
    refine own_cy (pc := 90) X433 hx hby at_90 (teq (rfl : (own_lo ca) = (own_lo ca))).1 95 ?_
    refine own_i X433 hx hby at_95 ?_
    refine own_in X433 hx hby at_97 (teq (rfl : (0 : Int32) = (0 : Int32))).2 ?_
    refine own_i X433 hx hby at_100 ?_
    refine st434 _ ?_
    refine own_iy (pc := 105) X434 hx hby at_105 (teq (rfl : (0 : Int32) = (0 : Int32))).1 112 ?_
    refine own_k X434 hx hby at_112 ?_
    refine XS.istore X434.here hx rfl (hb hby at_113) rfl (l' := #[iv p1, iv p2, iv p3, iv p4, iv p5, iv ca, iv cb, iv cc, iv cd, iv (4 : Int32), rv b428, rv b430, iv (0 : Int32)]) rfl ?_
    refine own_i X434 hx hby at_115 ?_
    refine own_k X434 hx hby at_117 ?_
    refine own_cn X434 hx hby at_118 (tlt (by decide : (1 : Int32) < (4 : Int32))).2.2.2 ?_
    refine own_a X434 hx hby at_121 ?_
    refine own_k X434 hx hby at_123 ?_
    refine st435 _ ?_
    refine own_i X435 hx hby at_127 ?_
    refine st436 _ ?_
    refine own_cy (pc := 132) X436 hx hby at_132 (teq (rfl : (own_lo cb) = (own_lo cb))).1 137 ?_
    refine own_i X436 hx hby at_137 ?_
    refine own_in X436 hx hby at_139 (teq (rfl : (0 : Int32) = (0 : Int32))).2 ?_
    refine own_i X436 hx hby at_142 ?_
    refine st437 _ ?_
    refine own_in X437 hx hby at_147 (feq (by decide : ¬ ((1 : Int32) = (0 : Int32)))).1 ?_
    refine own_k X437 hx hby at_150 ?_
    refine own_go (pc := 151) X437 hx hby at_151 155 ?_
    refine XS.istore X437.here hx rfl (hb hby at_155) rfl (l' := #[iv p1, iv p2, iv p3, iv p4, iv p5, iv ca, iv cb, iv cc, iv cd, iv (4 : Int32), rv b428, rv b430, iv (1 : Int32)]) rfl ?_
    refine own_i X437 hx hby at_157 ?_
    refine own_k X437 hx hby at_159 ?_
    refine own_cn X437 hx hby at_160 (tlt (by decide : (2 : Int32) < (4 : Int32))).2.2.2 ?_
    refine own_a X437 hx hby at_163 ?_
    refine own_k X437 hx hby at_165 ?_
    refine st438 _ ?_
    refine own_i X438 hx hby at_169 ?_
    refine st439 _ ?_
    refine own_cy (pc := 174) X439 hx hby at_174 (teq (rfl : (own_lo cc) = (own_lo cc))).1 179 ?_
    refine own_i X439 hx hby at_179 ?_
    refine own_iy (pc := 181) X439 hx hby at_181 (feq (by decide : ¬ ((1 : Int32) = (0 : Int32)))).2 192 ?_
    refine own_k X439 hx hby at_192 ?_
    refine own_go (pc := 193) X439 hx hby at_193 197 ?_
    refine XS.istore X439.here hx rfl (hb hby at_197) rfl (l' := #[iv p1, iv p2, iv p3, iv p4, iv p5, iv ca, iv cb, iv cc, iv cd, iv (4 : Int32), rv b428, rv b430, iv (1 : Int32)]) rfl ?_
    refine own_i X439 hx hby at_199 ?_
    refine own_k X439 hx hby at_201 ?_
    refine own_cn X439 hx hby at_202 (tlt (by decide : (3 : Int32) < (4 : Int32))).2.2.2 ?_
    refine own_a X439 hx hby at_205 ?_
    refine own_k X439 hx hby at_207 ?_
    refine st440 _ ?_
    refine own_i X440 hx hby at_211 ?_
    refine st441 _ ?_
    refine own_cy (pc := 216) X441 hx hby at_216 (teq (rfl : (own_lo cd) = (own_lo cd))).1 221 ?_
    refine own_i X441 hx hby at_221 ?_
    refine own_iy (pc := 223) X441 hx hby at_223 (feq (by decide : ¬ ((1 : Int32) = (0 : Int32)))).2 234 ?_
    refine own_k X441 hx hby at_234 ?_
    refine own_go (pc := 235) X441 hx hby at_235 239 ?_
    refine XS.istore X441.here hx rfl (hb hby at_239) rfl (l' := #[iv p1, iv p2, iv p3, iv p4, iv p5, iv ca, iv cb, iv cc, iv cd, iv (4 : Int32), rv b428, rv b430, iv (1 : Int32)]) rfl ?_
    refine own_i X441 hx hby at_241 ?_
    refine own_iy (pc := 243) X441 hx hby at_243 (feq (by decide : ¬ ((1 : Int32) = (0 : Int32)))).2 255 ?_
    refine own_k X441 hx hby at_255 ?_
    exact retN X441 hx (t := .boolean) hret (by simp) (hb hby at_256) hr
  · show Qrm0_4_1 Z w_CS w_SF p1 p2 p3 p4 p5 ca cb cc cd h0 _ T441.heap _
    exact ⟨rfl, N441⟩
def Qrm0_4_2 (Z : State) (w_CS : Int32) (w_SF : Value) (p1 p2 p3 p4 p5 ca cb cc cd : Int32) (h0 : Heap) (v : Option Value) (h : Heap) (L : List Loc) : Prop := v = some (.int 1) ∧ Fr Z.heap.size L
theorem rm0_4_2 (l : Launch) (Z : State) (a0 : Array Value) (hw : own_HW Z a0) (ws : List Jvm.Cond) (w_CS : Int32) (w_SF : Value) (p1 p2 p3 p4 p5 ca cb cc cd : Int32) (h0 : Heap) (Z0 : Ext Z.heap h0) (S_w_CS : own_w_CS Z w_CS) (S_s__assertionsDisabled : own_s__assertionsDisabled Z) (S_s_HI_BYTE_SHIFT : own_s_HI_BYTE_SHIFT Z) (S_s_LO_BYTE_SHIFT : own_s_LO_BYTE_SHIFT Z) (R_w_SF : w_SF.isRef = true) (S_w_SF : own_w_SF Z w_SF) (hc41 : ((p1 &&& (65535 : Int32)).toUInt32.toUInt16.toUInt32.toInt32) = ca) (hc42 : ((p2 &&& (65535 : Int32)).toUInt32.toUInt16.toUInt32.toInt32) = cb) (hc43 : ((p3 &&& (65535 : Int32)).toUInt32.toUInt16.toUInt32.toInt32) = cc) (hc44 : ((p4 &&& (65535 : Int32)).toUInt32.toUInt16.toUInt32.toInt32) = cd) (hc55 : ((p5 &&& (7 : Int32)) % (5 : Int32)) = (4 : Int32)) (hc46 : own_u16 ca) (hc50 : own_u16 cb) (hc17 : own_u16 cc) (hc56 : own_u16 cd) (hc1 : ¬ (w_CS = (0 : Int32))) (hc54 : ¬ ((own_lo cc) = cc)) (hc48 : (own_lo ca) = ca) (hc52 : (own_lo cb) = cb) :
    own_met l x code maxLocals ret ws room_1 Z #[(.int p1), (.int p2), (.int p3), (.int p4), (.int p5)] h0 (Qrm0_4_2 Z w_CS w_SF p1 p2 p3 p4 p5 ca cb cc cd h0) := by
  refine own_start (plainFor_of_name pn_0) (fun m => ef_code_IIIII m p1 p2 p3 p4 p5) ?_
  intro p e s m below meth c s₁ hx hby hml hown hnm X0 hZ e0 hret hlk
  have N0 := Fr.nil Z.heap.size
  obtain ⟨_, T442, Lc442, X442, hQ442, st442⟩ := own_static (y := y_32) X0 hx hZ hown (own_w hw 1 rfl) (own_w hw 2 rfl) (own_w hw 3 rfl) (own_w hw 4 rfl) (rm399 l Z a0 hw [] w_CS ca cb cc cd h0 Z0 S_w_CS S_s__assertionsDisabled S_s_HI_BYTE_SHIFT S_s_LO_BYTE_SHIFT hc46 hc50 hc17 hc56 hc1) e0 (g := (mkF m 47 #[iv p1, iv p2, iv p3, iv p4, iv p5, iv ca, iv cb, iv cc, iv cd, iv (4 : Int32), .unset, .unset, .unset] [(.int cd), (.int cc), (.int cb), (.int ca), (.int (4 : Int32))])) (argsL := [(.int (4 : Int32)), (.int ca), (.int cb), (.int cc), (.int cd)]) (rest := []) (W := 0) (lenOf pd_26 rfl) (hb hby at_47) hml
  obtain ⟨b443, rfl, N442q, K442q, szn_b443, q442_E_b443, q442_T_b443⟩ := hQ442
  have g_b443 : Z.heap.size ≤ b443 := Nat.le_trans Z0.1 szn_b443
  have sz_b443 : h0.size ≤ b443 := Nat.le_trans (Keep.refl h0 []).1 szn_b443
  have K442 : Keep h0 T442.heap [] := (Keep.refl h0 []).trans K442q all0
  have XX442 : Ext Z.heap T442.heap := own_extK Z0 K442q all0
  have N442 := Fr.app N0 N442q
  obtain ⟨_, T444, Lc444, X444, hQ444, st444⟩ := own_static (y := y_31) X442 hx hZ hown (own_w hw 27 rfl) (own_w hw 28 rfl) (own_w hw 29 rfl) (own_w hw 30 rfl) (own_lcC l Z a0 hw [] w_CS w_SF b443 [ca, cb, cc, cd] T442.heap XX442 S_w_CS R_w_SF S_w_SF S_s__assertionsDisabled S_s_HI_BYTE_SHIFT S_s_LO_BYTE_SHIFT q442_E_b443 q442_T_b443 ⟨Nat.le_of_ble_eq_true rfl, Nat.le_of_ble_eq_true rfl⟩ (own_a16_s hc46 (own_a16_s hc50 (own_a16_s hc17 (own_a16_s hc56 own_a16_0)))) hc1 ⟨cc, by simp, hc54⟩) rfl (g := (mkF m 54 #[iv p1, iv p2, iv p3, iv p4, iv p5, iv ca, iv cb, iv cc, iv cd, iv (4 : Int32), rv b443, .unset, .unset] [(.ref b443)])) (argsL := [(.ref b443)]) (rest := []) (W := 0) (lenOf pd_27 rfl) (hb hby at_54) hml
  obtain ⟨b445, rfl, N444q, K444q, szn_b445, q444_E_b445, q444_T_b445⟩ := hQ444
  have g_b445 : Z.heap.size ≤ b445 := Nat.le_trans XX442.1 szn_b445
  have sz_b445 : h0.size ≤ b445 := Nat.le_trans K442.1 szn_b445
  have K444 : Keep h0 T444.heap [] := K442.trans K444q all0
  have XX444 : Ext Z.heap T444.heap := own_extK XX442 K444q all0
  have N444 := Fr.app N442 N444q
  obtain ⟨_, T446, Lc446, X446, hQ446, st446⟩ := own_virtual (y := y_4) X444 hx hZ hown (own_w hw 42 rfl) (own_w hw 32 rfl) (own_w hw 34 rfl) (own_w hw 33 rfl) (own_w hw 7 rfl) (own_w hw 35 rfl) (own_lenG l Z a0 hw [] w_CS b445 [(own_lo ca), (own_lo cb), (own_lo cc), (own_lo cd)] T444.heap XX444 S_w_CS q444_E_b445 q444_T_b445 hc1 (Nat.le_of_ble_eq_true rfl)) rfl q444_E_b445 (g := (mkF m 61 #[iv p1, iv p2, iv p3, iv p4, iv p5, iv ca, iv cb, iv cc, iv cd, iv (4 : Int32), rv b443, rv b445, .unset] [(.ref b445)])) (argsL := []) (rest := []) (W := 0) (lenOf pd_21 rfl) (hb hby at_61) hml
  obtain ⟨rfl, N446q, e446⟩ := hQ446
  have N446 := Fr.app N444 N446q
  obtain ⟨_, T447, Lc447, X447, hQ447, st447⟩ := own_virtual (y := y_9) X446 hx hZ hown (own_w hw 78 rfl) (own_w hw 54 rfl) (own_w hw 56 rfl) (own_w hw 55 rfl) (own_w hw 7 rfl) (own_w hw 57 rfl) (own_chG l Z a0 hw [] w_CS w_SF (own_lo ca) b445 [(own_lo ca), (own_lo cb), (own_lo cc), (own_lo cd)] (0 : Int32) T444.heap XX444 S_w_CS R_w_SF S_w_SF S_s__assertionsDisabled S_s_HI_BYTE_SHIFT S_s_LO_BYTE_SHIFT q444_E_b445 q444_T_b445 hc1 (own_u16_lo hc46) ⟨by decide, (by decide : (0 : Int32) < (4 : Int32)), rfl, Nat.le_of_ble_eq_true rfl⟩) e446 q444_E_b445 (g := (mkF m 82 #[iv p1, iv p2, iv p3, iv p4, iv p5, iv ca, iv cb, iv cc, iv cd, iv (4 : Int32), rv b443, rv b445, iv (0 : Int32)] [(.int (0 : Int32)), (.ref b445)])) (argsL := [(.int (0 : Int32))]) (rest := []) (W := 0) (lenOf pd_22 rfl) (hb hby at_82) hml
  obtain ⟨rfl, N447q, e447⟩ := hQ447
  have N447 := Fr.app N446 N447q
  obtain ⟨_, T448, Lc448, X448, hQ448, st448⟩ := own_static (y := y_2) X447 hx hZ hown (own_w hw 79 rfl) (own_w hw 80 rfl) (own_w hw 3 rfl) (own_w hw 81 rfl) (own_refJ l Z a0 hw [] ca T444.heap XX444 hc46) e447 (g := (mkF m 87 #[iv p1, iv p2, iv p3, iv p4, iv p5, iv ca, iv cb, iv cc, iv cd, iv (4 : Int32), rv b443, rv b445, iv (0 : Int32)] [(.int ca), (.int (own_lo ca))])) (argsL := [(.int ca)]) (rest := [(.int (own_lo ca))]) (W := 1) (lenOf pd_23 rfl) (hb hby at_87) hml
  obtain ⟨rfl, N448q, e448⟩ := hQ448
  have N448 := Fr.app N447 N448q
  obtain ⟨_, T449, Lc449, X449, hQ449, st449⟩ := own_static (y := y_0) X448 hx hZ hown (own_w hw 82 rfl) (own_w hw 83 rfl) (own_w hw 3 rfl) (own_w hw 84 rfl) (own_cap0 l Z a0 hw [] ca T444.heap XX444 hc48) e448 (g := (mkF m 102 #[iv p1, iv p2, iv p3, iv p4, iv p5, iv ca, iv cb, iv cc, iv cd, iv (4 : Int32), rv b443, rv b445, iv (0 : Int32)] [(.int ca)])) (argsL := [(.int ca)]) (rest := []) (W := 0) (lenOf pd_0 rfl) (hb hby at_102) hml
  obtain ⟨rfl, N449q, e449⟩ := hQ449
  have N449 := Fr.app N448 N449q
  obtain ⟨_, T450, Lc450, X450, hQ450, st450⟩ := own_virtual (y := y_9) X449 hx hZ hown (own_w hw 78 rfl) (own_w hw 54 rfl) (own_w hw 56 rfl) (own_w hw 55 rfl) (own_w hw 7 rfl) (own_w hw 57 rfl) (own_chG l Z a0 hw [] w_CS w_SF (own_lo cb) b445 [(own_lo ca), (own_lo cb), (own_lo cc), (own_lo cd)] (1 : Int32) T444.heap XX444 S_w_CS R_w_SF S_w_SF S_s__assertionsDisabled S_s_HI_BYTE_SHIFT S_s_LO_BYTE_SHIFT q444_E_b445 q444_T_b445 hc1 (own_u16_lo hc50) ⟨by decide, (by decide : (1 : Int32) < (4 : Int32)), rfl, Nat.le_of_ble_eq_true rfl⟩) e449 q444_E_b445 (g := (mkF m 124 #[iv p1, iv p2, iv p3, iv p4, iv p5, iv ca, iv cb, iv cc, iv cd, iv (4 : Int32), rv b443, rv b445, iv (0 : Int32)] [(.int (1 : Int32)), (.ref b445)])) (argsL := [(.int (1 : Int32))]) (rest := []) (W := 0) (lenOf pd_22 rfl) (hb hby at_124) hml
  obtain ⟨rfl, N450q, e450⟩ := hQ450
  have N450 := Fr.app N449 N450q
  obtain ⟨_, T451, Lc451, X451, hQ451, st451⟩ := own_static (y := y_2) X450 hx hZ hown (own_w hw 79 rfl) (own_w hw 80 rfl) (own_w hw 3 rfl) (own_w hw 81 rfl) (own_refJ l Z a0 hw [] cb T444.heap XX444 hc50) e450 (g := (mkF m 129 #[iv p1, iv p2, iv p3, iv p4, iv p5, iv ca, iv cb, iv cc, iv cd, iv (4 : Int32), rv b443, rv b445, iv (0 : Int32)] [(.int cb), (.int (own_lo cb))])) (argsL := [(.int cb)]) (rest := [(.int (own_lo cb))]) (W := 1) (lenOf pd_23 rfl) (hb hby at_129) hml
  obtain ⟨rfl, N451q, e451⟩ := hQ451
  have N451 := Fr.app N450 N451q
  obtain ⟨_, T452, Lc452, X452, hQ452, st452⟩ := own_static (y := y_0) X451 hx hZ hown (own_w hw 82 rfl) (own_w hw 83 rfl) (own_w hw 3 rfl) (own_w hw 84 rfl) (own_cap0 l Z a0 hw [] cb T444.heap XX444 hc52) e451 (g := (mkF m 144 #[iv p1, iv p2, iv p3, iv p4, iv p5, iv ca, iv cb, iv cc, iv cd, iv (4 : Int32), rv b443, rv b445, iv (0 : Int32)] [(.int cb)])) (argsL := [(.int cb)]) (rest := []) (W := 0) (lenOf pd_0 rfl) (hb hby at_144) hml
  obtain ⟨rfl, N452q, e452⟩ := hQ452
  have N452 := Fr.app N451 N452q
  obtain ⟨_, T453, Lc453, X453, hQ453, st453⟩ := own_virtual (y := y_9) X452 hx hZ hown (own_w hw 78 rfl) (own_w hw 54 rfl) (own_w hw 56 rfl) (own_w hw 55 rfl) (own_w hw 7 rfl) (own_w hw 57 rfl) (own_chG l Z a0 hw [] w_CS w_SF (own_lo cc) b445 [(own_lo ca), (own_lo cb), (own_lo cc), (own_lo cd)] (2 : Int32) T444.heap XX444 S_w_CS R_w_SF S_w_SF S_s__assertionsDisabled S_s_HI_BYTE_SHIFT S_s_LO_BYTE_SHIFT q444_E_b445 q444_T_b445 hc1 (own_u16_lo hc17) ⟨by decide, (by decide : (2 : Int32) < (4 : Int32)), rfl, Nat.le_of_ble_eq_true rfl⟩) e452 q444_E_b445 (g := (mkF m 166 #[iv p1, iv p2, iv p3, iv p4, iv p5, iv ca, iv cb, iv cc, iv cd, iv (4 : Int32), rv b443, rv b445, iv (0 : Int32)] [(.int (2 : Int32)), (.ref b445)])) (argsL := [(.int (2 : Int32))]) (rest := []) (W := 0) (lenOf pd_22 rfl) (hb hby at_166) hml
  obtain ⟨rfl, N453q, e453⟩ := hQ453
  have N453 := Fr.app N452 N453q
  obtain ⟨_, T454, Lc454, X454, hQ454, st454⟩ := own_static (y := y_2) X453 hx hZ hown (own_w hw 79 rfl) (own_w hw 80 rfl) (own_w hw 3 rfl) (own_w hw 81 rfl) (own_refJ l Z a0 hw [] cc T444.heap XX444 hc17) e453 (g := (mkF m 171 #[iv p1, iv p2, iv p3, iv p4, iv p5, iv ca, iv cb, iv cc, iv cd, iv (4 : Int32), rv b443, rv b445, iv (0 : Int32)] [(.int cc), (.int (own_lo cc))])) (argsL := [(.int cc)]) (rest := [(.int (own_lo cc))]) (W := 1) (lenOf pd_23 rfl) (hb hby at_171) hml
  obtain ⟨rfl, N454q, e454⟩ := hQ454
  have N454 := Fr.app N453 N454q
  obtain ⟨_, T455, Lc455, X455, hQ455, st455⟩ := own_static (y := y_0) X454 hx hZ hown (own_w hw 82 rfl) (own_w hw 83 rfl) (own_w hw 3 rfl) (own_w hw 84 rfl) (own_cap1 l Z a0 hw [] cc T444.heap XX444 hc54) e454 (g := (mkF m 186 #[iv p1, iv p2, iv p3, iv p4, iv p5, iv ca, iv cb, iv cc, iv cd, iv (4 : Int32), rv b443, rv b445, iv (0 : Int32)] [(.int cc)])) (argsL := [(.int cc)]) (rest := []) (W := 0) (lenOf pd_0 rfl) (hb hby at_186) hml
  obtain ⟨rfl, N455q, e455⟩ := hQ455
  have N455 := Fr.app N454 N455q
  obtain ⟨_, T456, Lc456, X456, hQ456, st456⟩ := own_virtual (y := y_9) X455 hx hZ hown (own_w hw 78 rfl) (own_w hw 54 rfl) (own_w hw 56 rfl) (own_w hw 55 rfl) (own_w hw 7 rfl) (own_w hw 57 rfl) (own_chG l Z a0 hw [] w_CS w_SF (own_lo cd) b445 [(own_lo ca), (own_lo cb), (own_lo cc), (own_lo cd)] (3 : Int32) T444.heap XX444 S_w_CS R_w_SF S_w_SF S_s__assertionsDisabled S_s_HI_BYTE_SHIFT S_s_LO_BYTE_SHIFT q444_E_b445 q444_T_b445 hc1 (own_u16_lo hc56) ⟨by decide, (by decide : (3 : Int32) < (4 : Int32)), rfl, Nat.le_of_ble_eq_true rfl⟩) e455 q444_E_b445 (g := (mkF m 208 #[iv p1, iv p2, iv p3, iv p4, iv p5, iv ca, iv cb, iv cc, iv cd, iv (4 : Int32), rv b443, rv b445, iv (1 : Int32)] [(.int (3 : Int32)), (.ref b445)])) (argsL := [(.int (3 : Int32))]) (rest := []) (W := 0) (lenOf pd_22 rfl) (hb hby at_208) hml
  obtain ⟨rfl, N456q, e456⟩ := hQ456
  have N456 := Fr.app N455 N456q
  obtain ⟨_, T457, Lc457, X457, hQ457, st457⟩ := own_static (y := y_2) X456 hx hZ hown (own_w hw 79 rfl) (own_w hw 80 rfl) (own_w hw 3 rfl) (own_w hw 81 rfl) (own_refJ l Z a0 hw [] cd T444.heap XX444 hc56) e456 (g := (mkF m 213 #[iv p1, iv p2, iv p3, iv p4, iv p5, iv ca, iv cb, iv cc, iv cd, iv (4 : Int32), rv b443, rv b445, iv (1 : Int32)] [(.int cd), (.int (own_lo cd))])) (argsL := [(.int cd)]) (rest := [(.int (own_lo cd))]) (W := 1) (lenOf pd_23 rfl) (hb hby at_213) hml
  obtain ⟨rfl, N457q, e457⟩ := hQ457
  have N457 := Fr.app N456 N457q
  obtain ⟨fs, hr, hrun, hended, hW, hsame⟩ := X457.leave (v := some (.int (1 : Int32))) (fun h => by rw [hret] at h; cases h) hlk
  refine ⟨_, _, ?_, hrun, hended, _, _, rfl, ?_, ⟨_, rfl⟩, hW, hsame.mono (by decide) (by decide)⟩
  · show own_S p e below s₁ (mkF m 0 #[iv p1, iv p2, iv p3, iv p4, iv p5, .unset, .unset, .unset, .unset, .unset, .unset, .unset, .unset] []) _
    refine own_iN X0 hx hby at_0 ?_
    refine X0.ldcInt hx hown (mvT hZ (own_w hw 0 rfl)) (g := (mkF m 1 #[iv p1, iv p2, iv p3, iv p4, iv p5, .unset, .unset, .unset, .unset, .unset, .unset, .unset, .unset] [(.int p1)])) rfl (hb hby at_1) _ ?_
    refine XS.iand X0.here hx rfl (hb hby at_3) rfl ?_
    refine XS.i2c X0.here hx rfl (hb hby at_4) rfl ?_
    show own_S p e below s₁ (mkF m 5 #[iv p1, iv p2, iv p3, iv p4, iv p5, .unset, .unset, .unset, .unset, .unset, .unset, .unset, .unset] [(.int ((p1 &&& (65535 : Int32)).toUInt32.toUInt16.toUInt32.toInt32))]) _
    rw [hc41]
    refine XS.istore X0.here hx rfl (hb hby at_5) rfl (l' := #[iv p1, iv p2, iv p3, iv p4, iv p5, iv ca, .unset, .unset, .unset, .unset, .unset, .unset, .unset]) rfl ?_
    refine own_iN X0 hx hby at_7 ?_
    refine X0.ldcInt hx hown (mvT hZ (own_w hw 0 rfl)) (g := (mkF m 8 #[iv p1, iv p2, iv p3, iv p4, iv p5, iv ca, .unset, .unset, .unset, .unset, .unset, .unset, .unset] [(.int p2)])) rfl (hb hby at_8) _ ?_
    refine XS.iand X0.here hx rfl (hb hby at_10) rfl ?_
    refine XS.i2c X0.here hx rfl (hb hby at_11) rfl ?_
    show own_S p e below s₁ (mkF m 12 #[iv p1, iv p2, iv p3, iv p4, iv p5, iv ca, .unset, .unset, .unset, .unset, .unset, .unset, .unset] [(.int ((p2 &&& (65535 : Int32)).toUInt32.toUInt16.toUInt32.toInt32))]) _
    rw [hc42]
    refine XS.istore X0.here hx rfl (hb hby at_12) rfl (l' := #[iv p1, iv p2, iv p3, iv p4, iv p5, iv ca, iv cb, .unset, .unset, .unset, .unset, .unset, .unset]) rfl ?_
    refine own_iN X0 hx hby at_14 ?_
    refine X0.ldcInt hx hown (mvT hZ (own_w hw 0 rfl)) (g := (mkF m 15 #[iv p1, iv p2, iv p3, iv p4, iv p5, iv ca, iv cb, .unset, .unset, .unset, .unset, .unset, .unset] [(.int p3)])) rfl (hb hby at_15) _ ?_
    refine XS.iand X0.here hx rfl (hb hby at_17) rfl ?_
    refine XS.i2c X0.here hx rfl (hb hby at_18) rfl ?_
    show own_S p e below s₁ (mkF m 19 #[iv p1, iv p2, iv p3, iv p4, iv p5, iv ca, iv cb, .unset, .unset, .unset, .unset, .unset, .unset] [(.int ((p3 &&& (65535 : Int32)).toUInt32.toUInt16.toUInt32.toInt32))]) _
    rw [hc43]
    refine XS.istore X0.here hx rfl (hb hby at_19) rfl (l' := #[iv p1, iv p2, iv p3, iv p4, iv p5, iv ca, iv cb, iv cc, .unset, .unset, .unset, .unset, .unset]) rfl ?_
    refine own_iN X0 hx hby at_21 ?_
    refine X0.ldcInt hx hown (mvT hZ (own_w hw 0 rfl)) (g := (mkF m 22 #[iv p1, iv p2, iv p3, iv p4, iv p5, iv ca, iv cb, iv cc, .unset, .unset, .unset, .unset, .unset] [(.int p4)])) rfl (hb hby at_22) _ ?_
    refine XS.iand X0.here hx rfl (hb hby at_24) rfl ?_
    refine XS.i2c X0.here hx rfl (hb hby at_25) rfl ?_
    show own_S p e below s₁ (mkF m 26 #[iv p1, iv p2, iv p3, iv p4, iv p5, iv ca, iv cb, iv cc, .unset, .unset, .unset, .unset, .unset] [(.int ((p4 &&& (65535 : Int32)).toUInt32.toUInt16.toUInt32.toInt32))]) _
    rw [hc44]
    refine XS.istore X0.here hx rfl (hb hby at_26) rfl (l' := #[iv p1, iv p2, iv p3, iv p4, iv p5, iv ca, iv cb, iv cc, iv cd, .unset, .unset, .unset, .unset]) rfl ?_
    refine own_i X0 hx hby at_28 ?_
    refine XS.bipush X0.here hx rfl (hb hby at_30) ?_
    refine XS.iand X0.here hx rfl (hb hby at_32) rfl ?_
    refine own_k X0 hx hby at_33 ?_
    refine iremM X0 hx rfl (hb hby at_34) rfl (by decide) ?_
    show own_S p e below s₁ (mkF m 35 #[iv p1, iv p2, iv p3, iv p4, iv p5, iv ca, iv cb, iv cc, iv cd, .unset, .unset, .unset, .unset] [(.int ((p5 &&& (7 : Int32)) % (5 : Int32)))]) _
    rw [hc55]
    refine XS.istore X0.here hx rfl (hb hby at_35) rfl (l' := #[iv p1, iv p2, iv p3, iv p4, iv p5, iv ca, iv cb, iv cc, iv cd, iv (4 : Int32), .unset, .unset, .unset]) rfl ?_
    refine own_i X0 hx hby at_37 ?_
    refine own_i X0 hx hby at_39 ?_
    refine own_i X0 hx hby at_41 ?_
    refine own_i X0 hx hby at_43 ?_
    refine own_i X0 hx hby at_45 ?_
    refine st442 _ ?_
    refine XS.astore X442.here hx rfl (hb hby at_50) rfl rfl (l' := #[iv p1, iv p2, iv p3, iv p4, iv p5, iv ca, iv cb, iv cc, iv cd, iv (4 : Int32), rv b443, .unset, .unset]) rfl ?_
    refine own_a X442 hx hby at_52 ?_
    refine st444 _ ?_
    refine XS.astore X444.here hx rfl (hb hby at_57) rfl rfl (l' := #[iv p1, iv p2, iv p3, iv p4, iv p5, iv ca, iv cb, iv cc, iv cd, iv (4 : Int32), rv b443, rv b445, .unset]) rfl ?_
    refine own_a X444 hx hby at_59 ?_
    refine st446 _ ?_
    refine own_i X446 hx hby at_64 ?_
    refine own_cy (pc := 66) X446 hx hby at_66 (teq (rfl : (4 : Int32) = (4 : Int32))).1 71 ?_
    refine own_k X446 hx hby at_71 ?_
    refine XS.istore X446.here hx rfl (hb hby at_72) rfl (l' := #[iv p1, iv p2, iv p3, iv p4, iv p5, iv ca, iv cb, iv cc, iv cd, iv (4 : Int32), rv b443, rv b445, iv (0 : Int32)]) rfl ?_
    refine own_i X446 hx hby at_74 ?_
    refine own_in X446 hx hby at_76 (tlt (by decide : (0 : Int32) < (4 : Int32))).2.2.2 ?_
    refine own_a X446 hx hby at_79 ?_
    refine own_k X446 hx hby at_81 ?_
    refine st447 _ ?_
    refine own_i X447 hx hby at_85 ?_
    refine st448 _ ?_
    refine own_cy (pc := 90) X448 hx hby at_90 (teq (rfl : (own_lo ca) = (own_lo ca))).1 95 ?_
    refine own_i X448 hx hby at_95 ?_
    refine own_in X448 hx hby at_97 (teq (rfl : (0 : Int32) = (0 : Int32))).2 ?_
    refine own_i X448 hx hby at_100 ?_
    refine st449 _ ?_
    refine own_iy (pc := 105) X449 hx hby at_105 (teq (rfl : (0 : Int32) = (0 : Int32))).1 112 ?_
    refine own_k X449 hx hby at_112 ?_
    refine XS.istore X449.here hx rfl (hb hby at_113) rfl (l' := #[iv p1, iv p2, iv p3, iv p4, iv p5, iv ca, iv cb, iv cc, iv cd, iv (4 : Int32), rv b443, rv b445, iv (0 : Int32)]) rfl ?_
    refine own_i X449 hx hby at_115 ?_
    refine own_k X449 hx hby at_117 ?_
    refine own_cn X449 hx hby at_118 (tlt (by decide : (1 : Int32) < (4 : Int32))).2.2.2 ?_
    refine own_a X449 hx hby at_121 ?_
    refine own_k X449 hx hby at_123 ?_
    refine st450 _ ?_
    refine own_i X450 hx hby at_127 ?_
    refine st451 _ ?_
    refine own_cy (pc := 132) X451 hx hby at_132 (teq (rfl : (own_lo cb) = (own_lo cb))).1 137 ?_
    refine own_i X451 hx hby at_137 ?_
    refine own_in X451 hx hby at_139 (teq (rfl : (0 : Int32) = (0 : Int32))).2 ?_
    refine own_i X451 hx hby at_142 ?_
    refine st452 _ ?_
    refine own_iy (pc := 147) X452 hx hby at_147 (teq (rfl : (0 : Int32) = (0 : Int32))).1 154 ?_
    refine own_k X452 hx hby at_154 ?_
    refine XS.istore X452.here hx rfl (hb hby at_155) rfl (l' := #[iv p1, iv p2, iv p3, iv p4, iv p5, iv ca, iv cb, iv cc, iv cd, iv (4 : Int32), rv b443, rv b445, iv (0 : Int32)]) rfl ?_
    refine own_i X452 hx hby at_157 ?_
    refine own_k X452 hx hby at_159 ?_
    refine own_cn X452 hx hby at_160 (tlt (by decide : (2 : Int32) < (4 : Int32))).2.2.2 ?_
    refine own_a X452 hx hby at_163 ?_
    refine own_k X452 hx hby at_165 ?_
    refine st453 _ ?_
    refine own_i X453 hx hby at_169 ?_
    refine st454 _ ?_
    refine own_cy (pc := 174) X454 hx hby at_174 (teq (rfl : (own_lo cc) = (own_lo cc))).1 179 ?_
    refine own_i X454 hx hby at_179 ?_
    refine own_in X454 hx hby at_181 (teq (rfl : (0 : Int32) = (0 : Int32))).2 ?_
    refine own_i X454 hx hby at_184 ?_
    refine st455 _ ?_
    refine own_in X455 hx hby at_189 (feq (by decide : ¬ ((1 : Int32) = (0 : Int32)))).1 ?_
    refine own_k X455 hx hby at_192 ?_
    refine own_go (pc := 193) X455 hx hby at_193 197 ?_
    refine XS.istore X455.here hx rfl (hb hby at_197) rfl (l' := #[iv p1, iv p2, iv p3, iv p4, iv p5, iv ca, iv cb, iv cc, iv cd, iv (4 : Int32), rv b443, rv b445, iv (1 : Int32)]) rfl ?_
    refine own_i X455 hx hby at_199 ?_
    refine own_k X455 hx hby at_201 ?_
    refine own_cn X455 hx hby at_202 (tlt (by decide : (3 : Int32) < (4 : Int32))).2.2.2 ?_
    refine own_a X455 hx hby at_205 ?_
    refine own_k X455 hx hby at_207 ?_
    refine st456 _ ?_
    refine own_i X456 hx hby at_211 ?_
    refine st457 _ ?_
    refine own_cy (pc := 216) X457 hx hby at_216 (teq (rfl : (own_lo cd) = (own_lo cd))).1 221 ?_
    refine own_i X457 hx hby at_221 ?_
    refine own_iy (pc := 223) X457 hx hby at_223 (feq (by decide : ¬ ((1 : Int32) = (0 : Int32)))).2 234 ?_
    refine own_k X457 hx hby at_234 ?_
    refine own_go (pc := 235) X457 hx hby at_235 239 ?_
    refine XS.istore X457.here hx rfl (hb hby at_239) rfl (l' := #[iv p1, iv p2, iv p3, iv p4, iv p5, iv ca, iv cb, iv cc, iv cd, iv (4 : Int32), rv b443, rv b445, iv (1 : Int32)]) rfl ?_
    refine own_i X457 hx hby at_241 ?_
    refine own_iy (pc := 243) X457 hx hby at_243 (feq (by decide : ¬ ((1 : Int32) = (0 : Int32)))).2 255 ?_
    refine own_k X457 hx hby at_255 ?_
    exact retN X457 hx (t := .boolean) hret (by simp) (hb hby at_256) hr
  · show Qrm0_4_2 Z w_CS w_SF p1 p2 p3 p4 p5 ca cb cc cd h0 _ T457.heap _
    exact ⟨rfl, N457⟩
def Qrm0_4_3 (Z : State) (w_CS : Int32) (w_SF : Value) (p1 p2 p3 p4 p5 ca cb cc cd : Int32) (h0 : Heap) (v : Option Value) (h : Heap) (L : List Loc) : Prop := v = some (.int 1) ∧ Fr Z.heap.size L
theorem rm0_4_3 (l : Launch) (Z : State) (a0 : Array Value) (hw : own_HW Z a0) (ws : List Jvm.Cond) (w_CS : Int32) (w_SF : Value) (p1 p2 p3 p4 p5 ca cb cc cd : Int32) (h0 : Heap) (Z0 : Ext Z.heap h0) (S_w_CS : own_w_CS Z w_CS) (S_s__assertionsDisabled : own_s__assertionsDisabled Z) (S_s_HI_BYTE_SHIFT : own_s_HI_BYTE_SHIFT Z) (S_s_LO_BYTE_SHIFT : own_s_LO_BYTE_SHIFT Z) (R_w_SF : w_SF.isRef = true) (S_w_SF : own_w_SF Z w_SF) (hc41 : ((p1 &&& (65535 : Int32)).toUInt32.toUInt16.toUInt32.toInt32) = ca) (hc42 : ((p2 &&& (65535 : Int32)).toUInt32.toUInt16.toUInt32.toInt32) = cb) (hc43 : ((p3 &&& (65535 : Int32)).toUInt32.toUInt16.toUInt32.toInt32) = cc) (hc44 : ((p4 &&& (65535 : Int32)).toUInt32.toUInt16.toUInt32.toInt32) = cd) (hc55 : ((p5 &&& (7 : Int32)) % (5 : Int32)) = (4 : Int32)) (hc46 : own_u16 ca) (hc50 : own_u16 cb) (hc17 : own_u16 cc) (hc56 : own_u16 cd) (hc1 : ¬ (w_CS = (0 : Int32))) (hc57 : ¬ ((own_lo cd) = cd)) (hc48 : (own_lo ca) = ca) (hc52 : (own_lo cb) = cb) (hc36 : (own_lo cc) = cc) :
    own_met l x code maxLocals ret ws room_1 Z #[(.int p1), (.int p2), (.int p3), (.int p4), (.int p5)] h0 (Qrm0_4_3 Z w_CS w_SF p1 p2 p3 p4 p5 ca cb cc cd h0) := by
  refine own_start (plainFor_of_name pn_0) (fun m => ef_code_IIIII m p1 p2 p3 p4 p5) ?_
  intro p e s m below meth c s₁ hx hby hml hown hnm X0 hZ e0 hret hlk
  have N0 := Fr.nil Z.heap.size
  obtain ⟨_, T458, Lc458, X458, hQ458, st458⟩ := own_static (y := y_32) X0 hx hZ hown (own_w hw 1 rfl) (own_w hw 2 rfl) (own_w hw 3 rfl) (own_w hw 4 rfl) (rm399 l Z a0 hw [] w_CS ca cb cc cd h0 Z0 S_w_CS S_s__assertionsDisabled S_s_HI_BYTE_SHIFT S_s_LO_BYTE_SHIFT hc46 hc50 hc17 hc56 hc1) e0 (g := (mkF m 47 #[iv p1, iv p2, iv p3, iv p4, iv p5, iv ca, iv cb, iv cc, iv cd, iv (4 : Int32), .unset, .unset, .unset] [(.int cd), (.int cc), (.int cb), (.int ca), (.int (4 : Int32))])) (argsL := [(.int (4 : Int32)), (.int ca), (.int cb), (.int cc), (.int cd)]) (rest := []) (W := 0) (lenOf pd_26 rfl) (hb hby at_47) hml
  obtain ⟨b459, rfl, N458q, K458q, szn_b459, q458_E_b459, q458_T_b459⟩ := hQ458
  have g_b459 : Z.heap.size ≤ b459 := Nat.le_trans Z0.1 szn_b459
  have sz_b459 : h0.size ≤ b459 := Nat.le_trans (Keep.refl h0 []).1 szn_b459
  have K458 : Keep h0 T458.heap [] := (Keep.refl h0 []).trans K458q all0
  have XX458 : Ext Z.heap T458.heap := own_extK Z0 K458q all0
  have N458 := Fr.app N0 N458q
  obtain ⟨_, T460, Lc460, X460, hQ460, st460⟩ := own_static (y := y_31) X458 hx hZ hown (own_w hw 27 rfl) (own_w hw 28 rfl) (own_w hw 29 rfl) (own_w hw 30 rfl) (own_lcC l Z a0 hw [] w_CS w_SF b459 [ca, cb, cc, cd] T458.heap XX458 S_w_CS R_w_SF S_w_SF S_s__assertionsDisabled S_s_HI_BYTE_SHIFT S_s_LO_BYTE_SHIFT q458_E_b459 q458_T_b459 ⟨Nat.le_of_ble_eq_true rfl, Nat.le_of_ble_eq_true rfl⟩ (own_a16_s hc46 (own_a16_s hc50 (own_a16_s hc17 (own_a16_s hc56 own_a16_0)))) hc1 ⟨cd, by simp, hc57⟩) rfl (g := (mkF m 54 #[iv p1, iv p2, iv p3, iv p4, iv p5, iv ca, iv cb, iv cc, iv cd, iv (4 : Int32), rv b459, .unset, .unset] [(.ref b459)])) (argsL := [(.ref b459)]) (rest := []) (W := 0) (lenOf pd_27 rfl) (hb hby at_54) hml
  obtain ⟨b461, rfl, N460q, K460q, szn_b461, q460_E_b461, q460_T_b461⟩ := hQ460
  have g_b461 : Z.heap.size ≤ b461 := Nat.le_trans XX458.1 szn_b461
  have sz_b461 : h0.size ≤ b461 := Nat.le_trans K458.1 szn_b461
  have K460 : Keep h0 T460.heap [] := K458.trans K460q all0
  have XX460 : Ext Z.heap T460.heap := own_extK XX458 K460q all0
  have N460 := Fr.app N458 N460q
  obtain ⟨_, T462, Lc462, X462, hQ462, st462⟩ := own_virtual (y := y_4) X460 hx hZ hown (own_w hw 42 rfl) (own_w hw 32 rfl) (own_w hw 34 rfl) (own_w hw 33 rfl) (own_w hw 7 rfl) (own_w hw 35 rfl) (own_lenG l Z a0 hw [] w_CS b461 [(own_lo ca), (own_lo cb), (own_lo cc), (own_lo cd)] T460.heap XX460 S_w_CS q460_E_b461 q460_T_b461 hc1 (Nat.le_of_ble_eq_true rfl)) rfl q460_E_b461 (g := (mkF m 61 #[iv p1, iv p2, iv p3, iv p4, iv p5, iv ca, iv cb, iv cc, iv cd, iv (4 : Int32), rv b459, rv b461, .unset] [(.ref b461)])) (argsL := []) (rest := []) (W := 0) (lenOf pd_21 rfl) (hb hby at_61) hml
  obtain ⟨rfl, N462q, e462⟩ := hQ462
  have N462 := Fr.app N460 N462q
  obtain ⟨_, T463, Lc463, X463, hQ463, st463⟩ := own_virtual (y := y_9) X462 hx hZ hown (own_w hw 78 rfl) (own_w hw 54 rfl) (own_w hw 56 rfl) (own_w hw 55 rfl) (own_w hw 7 rfl) (own_w hw 57 rfl) (own_chG l Z a0 hw [] w_CS w_SF (own_lo ca) b461 [(own_lo ca), (own_lo cb), (own_lo cc), (own_lo cd)] (0 : Int32) T460.heap XX460 S_w_CS R_w_SF S_w_SF S_s__assertionsDisabled S_s_HI_BYTE_SHIFT S_s_LO_BYTE_SHIFT q460_E_b461 q460_T_b461 hc1 (own_u16_lo hc46) ⟨by decide, (by decide : (0 : Int32) < (4 : Int32)), rfl, Nat.le_of_ble_eq_true rfl⟩) e462 q460_E_b461 (g := (mkF m 82 #[iv p1, iv p2, iv p3, iv p4, iv p5, iv ca, iv cb, iv cc, iv cd, iv (4 : Int32), rv b459, rv b461, iv (0 : Int32)] [(.int (0 : Int32)), (.ref b461)])) (argsL := [(.int (0 : Int32))]) (rest := []) (W := 0) (lenOf pd_22 rfl) (hb hby at_82) hml
  obtain ⟨rfl, N463q, e463⟩ := hQ463
  have N463 := Fr.app N462 N463q
  obtain ⟨_, T464, Lc464, X464, hQ464, st464⟩ := own_static (y := y_2) X463 hx hZ hown (own_w hw 79 rfl) (own_w hw 80 rfl) (own_w hw 3 rfl) (own_w hw 81 rfl) (own_refJ l Z a0 hw [] ca T460.heap XX460 hc46) e463 (g := (mkF m 87 #[iv p1, iv p2, iv p3, iv p4, iv p5, iv ca, iv cb, iv cc, iv cd, iv (4 : Int32), rv b459, rv b461, iv (0 : Int32)] [(.int ca), (.int (own_lo ca))])) (argsL := [(.int ca)]) (rest := [(.int (own_lo ca))]) (W := 1) (lenOf pd_23 rfl) (hb hby at_87) hml
  obtain ⟨rfl, N464q, e464⟩ := hQ464
  have N464 := Fr.app N463 N464q
  obtain ⟨_, T465, Lc465, X465, hQ465, st465⟩ := own_static (y := y_0) X464 hx hZ hown (own_w hw 82 rfl) (own_w hw 83 rfl) (own_w hw 3 rfl) (own_w hw 84 rfl) (own_cap0 l Z a0 hw [] ca T460.heap XX460 hc48) e464 (g := (mkF m 102 #[iv p1, iv p2, iv p3, iv p4, iv p5, iv ca, iv cb, iv cc, iv cd, iv (4 : Int32), rv b459, rv b461, iv (0 : Int32)] [(.int ca)])) (argsL := [(.int ca)]) (rest := []) (W := 0) (lenOf pd_0 rfl) (hb hby at_102) hml
  obtain ⟨rfl, N465q, e465⟩ := hQ465
  have N465 := Fr.app N464 N465q
  obtain ⟨_, T466, Lc466, X466, hQ466, st466⟩ := own_virtual (y := y_9) X465 hx hZ hown (own_w hw 78 rfl) (own_w hw 54 rfl) (own_w hw 56 rfl) (own_w hw 55 rfl) (own_w hw 7 rfl) (own_w hw 57 rfl) (own_chG l Z a0 hw [] w_CS w_SF (own_lo cb) b461 [(own_lo ca), (own_lo cb), (own_lo cc), (own_lo cd)] (1 : Int32) T460.heap XX460 S_w_CS R_w_SF S_w_SF S_s__assertionsDisabled S_s_HI_BYTE_SHIFT S_s_LO_BYTE_SHIFT q460_E_b461 q460_T_b461 hc1 (own_u16_lo hc50) ⟨by decide, (by decide : (1 : Int32) < (4 : Int32)), rfl, Nat.le_of_ble_eq_true rfl⟩) e465 q460_E_b461 (g := (mkF m 124 #[iv p1, iv p2, iv p3, iv p4, iv p5, iv ca, iv cb, iv cc, iv cd, iv (4 : Int32), rv b459, rv b461, iv (0 : Int32)] [(.int (1 : Int32)), (.ref b461)])) (argsL := [(.int (1 : Int32))]) (rest := []) (W := 0) (lenOf pd_22 rfl) (hb hby at_124) hml
  obtain ⟨rfl, N466q, e466⟩ := hQ466
  have N466 := Fr.app N465 N466q
  obtain ⟨_, T467, Lc467, X467, hQ467, st467⟩ := own_static (y := y_2) X466 hx hZ hown (own_w hw 79 rfl) (own_w hw 80 rfl) (own_w hw 3 rfl) (own_w hw 81 rfl) (own_refJ l Z a0 hw [] cb T460.heap XX460 hc50) e466 (g := (mkF m 129 #[iv p1, iv p2, iv p3, iv p4, iv p5, iv ca, iv cb, iv cc, iv cd, iv (4 : Int32), rv b459, rv b461, iv (0 : Int32)] [(.int cb), (.int (own_lo cb))])) (argsL := [(.int cb)]) (rest := [(.int (own_lo cb))]) (W := 1) (lenOf pd_23 rfl) (hb hby at_129) hml
  obtain ⟨rfl, N467q, e467⟩ := hQ467
  have N467 := Fr.app N466 N467q
  obtain ⟨_, T468, Lc468, X468, hQ468, st468⟩ := own_static (y := y_0) X467 hx hZ hown (own_w hw 82 rfl) (own_w hw 83 rfl) (own_w hw 3 rfl) (own_w hw 84 rfl) (own_cap0 l Z a0 hw [] cb T460.heap XX460 hc52) e467 (g := (mkF m 144 #[iv p1, iv p2, iv p3, iv p4, iv p5, iv ca, iv cb, iv cc, iv cd, iv (4 : Int32), rv b459, rv b461, iv (0 : Int32)] [(.int cb)])) (argsL := [(.int cb)]) (rest := []) (W := 0) (lenOf pd_0 rfl) (hb hby at_144) hml
  obtain ⟨rfl, N468q, e468⟩ := hQ468
  have N468 := Fr.app N467 N468q
  obtain ⟨_, T469, Lc469, X469, hQ469, st469⟩ := own_virtual (y := y_9) X468 hx hZ hown (own_w hw 78 rfl) (own_w hw 54 rfl) (own_w hw 56 rfl) (own_w hw 55 rfl) (own_w hw 7 rfl) (own_w hw 57 rfl) (own_chG l Z a0 hw [] w_CS w_SF (own_lo cc) b461 [(own_lo ca), (own_lo cb), (own_lo cc), (own_lo cd)] (2 : Int32) T460.heap XX460 S_w_CS R_w_SF S_w_SF S_s__assertionsDisabled S_s_HI_BYTE_SHIFT S_s_LO_BYTE_SHIFT q460_E_b461 q460_T_b461 hc1 (own_u16_lo hc17) ⟨by decide, (by decide : (2 : Int32) < (4 : Int32)), rfl, Nat.le_of_ble_eq_true rfl⟩) e468 q460_E_b461 (g := (mkF m 166 #[iv p1, iv p2, iv p3, iv p4, iv p5, iv ca, iv cb, iv cc, iv cd, iv (4 : Int32), rv b459, rv b461, iv (0 : Int32)] [(.int (2 : Int32)), (.ref b461)])) (argsL := [(.int (2 : Int32))]) (rest := []) (W := 0) (lenOf pd_22 rfl) (hb hby at_166) hml
  obtain ⟨rfl, N469q, e469⟩ := hQ469
  have N469 := Fr.app N468 N469q
  obtain ⟨_, T470, Lc470, X470, hQ470, st470⟩ := own_static (y := y_2) X469 hx hZ hown (own_w hw 79 rfl) (own_w hw 80 rfl) (own_w hw 3 rfl) (own_w hw 81 rfl) (own_refJ l Z a0 hw [] cc T460.heap XX460 hc17) e469 (g := (mkF m 171 #[iv p1, iv p2, iv p3, iv p4, iv p5, iv ca, iv cb, iv cc, iv cd, iv (4 : Int32), rv b459, rv b461, iv (0 : Int32)] [(.int cc), (.int (own_lo cc))])) (argsL := [(.int cc)]) (rest := [(.int (own_lo cc))]) (W := 1) (lenOf pd_23 rfl) (hb hby at_171) hml
  obtain ⟨rfl, N470q, e470⟩ := hQ470
  have N470 := Fr.app N469 N470q
  obtain ⟨_, T471, Lc471, X471, hQ471, st471⟩ := own_static (y := y_0) X470 hx hZ hown (own_w hw 82 rfl) (own_w hw 83 rfl) (own_w hw 3 rfl) (own_w hw 84 rfl) (own_cap0 l Z a0 hw [] cc T460.heap XX460 hc36) e470 (g := (mkF m 186 #[iv p1, iv p2, iv p3, iv p4, iv p5, iv ca, iv cb, iv cc, iv cd, iv (4 : Int32), rv b459, rv b461, iv (0 : Int32)] [(.int cc)])) (argsL := [(.int cc)]) (rest := []) (W := 0) (lenOf pd_0 rfl) (hb hby at_186) hml
  obtain ⟨rfl, N471q, e471⟩ := hQ471
  have N471 := Fr.app N470 N471q
  obtain ⟨_, T472, Lc472, X472, hQ472, st472⟩ := own_virtual (y := y_9) X471 hx hZ hown (own_w hw 78 rfl) (own_w hw 54 rfl) (own_w hw 56 rfl) (own_w hw 55 rfl) (own_w hw 7 rfl) (own_w hw 57 rfl) (own_chG l Z a0 hw [] w_CS w_SF (own_lo cd) b461 [(own_lo ca), (own_lo cb), (own_lo cc), (own_lo cd)] (3 : Int32) T460.heap XX460 S_w_CS R_w_SF S_w_SF S_s__assertionsDisabled S_s_HI_BYTE_SHIFT S_s_LO_BYTE_SHIFT q460_E_b461 q460_T_b461 hc1 (own_u16_lo hc56) ⟨by decide, (by decide : (3 : Int32) < (4 : Int32)), rfl, Nat.le_of_ble_eq_true rfl⟩) e471 q460_E_b461 (g := (mkF m 208 #[iv p1, iv p2, iv p3, iv p4, iv p5, iv ca, iv cb, iv cc, iv cd, iv (4 : Int32), rv b459, rv b461, iv (0 : Int32)] [(.int (3 : Int32)), (.ref b461)])) (argsL := [(.int (3 : Int32))]) (rest := []) (W := 0) (lenOf pd_22 rfl) (hb hby at_208) hml
  obtain ⟨rfl, N472q, e472⟩ := hQ472
  have N472 := Fr.app N471 N472q
  obtain ⟨_, T473, Lc473, X473, hQ473, st473⟩ := own_static (y := y_2) X472 hx hZ hown (own_w hw 79 rfl) (own_w hw 80 rfl) (own_w hw 3 rfl) (own_w hw 81 rfl) (own_refJ l Z a0 hw [] cd T460.heap XX460 hc56) e472 (g := (mkF m 213 #[iv p1, iv p2, iv p3, iv p4, iv p5, iv ca, iv cb, iv cc, iv cd, iv (4 : Int32), rv b459, rv b461, iv (0 : Int32)] [(.int cd), (.int (own_lo cd))])) (argsL := [(.int cd)]) (rest := [(.int (own_lo cd))]) (W := 1) (lenOf pd_23 rfl) (hb hby at_213) hml
  obtain ⟨rfl, N473q, e473⟩ := hQ473
  have N473 := Fr.app N472 N473q
  obtain ⟨_, T474, Lc474, X474, hQ474, st474⟩ := own_static (y := y_0) X473 hx hZ hown (own_w hw 82 rfl) (own_w hw 83 rfl) (own_w hw 3 rfl) (own_w hw 84 rfl) (own_cap1 l Z a0 hw [] cd T460.heap XX460 hc57) e473 (g := (mkF m 228 #[iv p1, iv p2, iv p3, iv p4, iv p5, iv ca, iv cb, iv cc, iv cd, iv (4 : Int32), rv b459, rv b461, iv (0 : Int32)] [(.int cd)])) (argsL := [(.int cd)]) (rest := []) (W := 0) (lenOf pd_0 rfl) (hb hby at_228) hml
  obtain ⟨rfl, N474q, e474⟩ := hQ474
  have N474 := Fr.app N473 N474q
  obtain ⟨fs, hr, hrun, hended, hW, hsame⟩ := X474.leave (v := some (.int (1 : Int32))) (fun h => by rw [hret] at h; cases h) hlk
  refine ⟨_, _, ?_, hrun, hended, _, _, rfl, ?_, ⟨_, rfl⟩, hW, hsame.mono (by decide) (by decide)⟩
  · show own_S p e below s₁ (mkF m 0 #[iv p1, iv p2, iv p3, iv p4, iv p5, .unset, .unset, .unset, .unset, .unset, .unset, .unset, .unset] []) _
    refine own_iN X0 hx hby at_0 ?_
    refine X0.ldcInt hx hown (mvT hZ (own_w hw 0 rfl)) (g := (mkF m 1 #[iv p1, iv p2, iv p3, iv p4, iv p5, .unset, .unset, .unset, .unset, .unset, .unset, .unset, .unset] [(.int p1)])) rfl (hb hby at_1) _ ?_
    refine XS.iand X0.here hx rfl (hb hby at_3) rfl ?_
    refine XS.i2c X0.here hx rfl (hb hby at_4) rfl ?_
    show own_S p e below s₁ (mkF m 5 #[iv p1, iv p2, iv p3, iv p4, iv p5, .unset, .unset, .unset, .unset, .unset, .unset, .unset, .unset] [(.int ((p1 &&& (65535 : Int32)).toUInt32.toUInt16.toUInt32.toInt32))]) _
    rw [hc41]
    refine XS.istore X0.here hx rfl (hb hby at_5) rfl (l' := #[iv p1, iv p2, iv p3, iv p4, iv p5, iv ca, .unset, .unset, .unset, .unset, .unset, .unset, .unset]) rfl ?_
    refine own_iN X0 hx hby at_7 ?_
    refine X0.ldcInt hx hown (mvT hZ (own_w hw 0 rfl)) (g := (mkF m 8 #[iv p1, iv p2, iv p3, iv p4, iv p5, iv ca, .unset, .unset, .unset, .unset, .unset, .unset, .unset] [(.int p2)])) rfl (hb hby at_8) _ ?_
    refine XS.iand X0.here hx rfl (hb hby at_10) rfl ?_
    refine XS.i2c X0.here hx rfl (hb hby at_11) rfl ?_
    show own_S p e below s₁ (mkF m 12 #[iv p1, iv p2, iv p3, iv p4, iv p5, iv ca, .unset, .unset, .unset, .unset, .unset, .unset, .unset] [(.int ((p2 &&& (65535 : Int32)).toUInt32.toUInt16.toUInt32.toInt32))]) _
    rw [hc42]
    refine XS.istore X0.here hx rfl (hb hby at_12) rfl (l' := #[iv p1, iv p2, iv p3, iv p4, iv p5, iv ca, iv cb, .unset, .unset, .unset, .unset, .unset, .unset]) rfl ?_
    refine own_iN X0 hx hby at_14 ?_
    refine X0.ldcInt hx hown (mvT hZ (own_w hw 0 rfl)) (g := (mkF m 15 #[iv p1, iv p2, iv p3, iv p4, iv p5, iv ca, iv cb, .unset, .unset, .unset, .unset, .unset, .unset] [(.int p3)])) rfl (hb hby at_15) _ ?_
    refine XS.iand X0.here hx rfl (hb hby at_17) rfl ?_
    refine XS.i2c X0.here hx rfl (hb hby at_18) rfl ?_
    show own_S p e below s₁ (mkF m 19 #[iv p1, iv p2, iv p3, iv p4, iv p5, iv ca, iv cb, .unset, .unset, .unset, .unset, .unset, .unset] [(.int ((p3 &&& (65535 : Int32)).toUInt32.toUInt16.toUInt32.toInt32))]) _
    rw [hc43]
    refine XS.istore X0.here hx rfl (hb hby at_19) rfl (l' := #[iv p1, iv p2, iv p3, iv p4, iv p5, iv ca, iv cb, iv cc, .unset, .unset, .unset, .unset, .unset]) rfl ?_
    refine own_iN X0 hx hby at_21 ?_
    refine X0.ldcInt hx hown (mvT hZ (own_w hw 0 rfl)) (g := (mkF m 22 #[iv p1, iv p2, iv p3, iv p4, iv p5, iv ca, iv cb, iv cc, .unset, .unset, .unset, .unset, .unset] [(.int p4)])) rfl (hb hby at_22) _ ?_
    refine XS.iand X0.here hx rfl (hb hby at_24) rfl ?_
    refine XS.i2c X0.here hx rfl (hb hby at_25) rfl ?_
    show own_S p e below s₁ (mkF m 26 #[iv p1, iv p2, iv p3, iv p4, iv p5, iv ca, iv cb, iv cc, .unset, .unset, .unset, .unset, .unset] [(.int ((p4 &&& (65535 : Int32)).toUInt32.toUInt16.toUInt32.toInt32))]) _
    rw [hc44]
    refine XS.istore X0.here hx rfl (hb hby at_26) rfl (l' := #[iv p1, iv p2, iv p3, iv p4, iv p5, iv ca, iv cb, iv cc, iv cd, .unset, .unset, .unset, .unset]) rfl ?_
    refine own_i X0 hx hby at_28 ?_
    refine XS.bipush X0.here hx rfl (hb hby at_30) ?_
    refine XS.iand X0.here hx rfl (hb hby at_32) rfl ?_
    refine own_k X0 hx hby at_33 ?_
    refine iremM X0 hx rfl (hb hby at_34) rfl (by decide) ?_
    show own_S p e below s₁ (mkF m 35 #[iv p1, iv p2, iv p3, iv p4, iv p5, iv ca, iv cb, iv cc, iv cd, .unset, .unset, .unset, .unset] [(.int ((p5 &&& (7 : Int32)) % (5 : Int32)))]) _
    rw [hc55]
    refine XS.istore X0.here hx rfl (hb hby at_35) rfl (l' := #[iv p1, iv p2, iv p3, iv p4, iv p5, iv ca, iv cb, iv cc, iv cd, iv (4 : Int32), .unset, .unset, .unset]) rfl ?_
    refine own_i X0 hx hby at_37 ?_
    refine own_i X0 hx hby at_39 ?_
    refine own_i X0 hx hby at_41 ?_
    refine own_i X0 hx hby at_43 ?_
    refine own_i X0 hx hby at_45 ?_
    refine st458 _ ?_
    refine XS.astore X458.here hx rfl (hb hby at_50) rfl rfl (l' := #[iv p1, iv p2, iv p3, iv p4, iv p5, iv ca, iv cb, iv cc, iv cd, iv (4 : Int32), rv b459, .unset, .unset]) rfl ?_
    refine own_a X458 hx hby at_52 ?_
    refine st460 _ ?_
    refine XS.astore X460.here hx rfl (hb hby at_57) rfl rfl (l' := #[iv p1, iv p2, iv p3, iv p4, iv p5, iv ca, iv cb, iv cc, iv cd, iv (4 : Int32), rv b459, rv b461, .unset]) rfl ?_
    refine own_a X460 hx hby at_59 ?_
    refine st462 _ ?_
    refine own_i X462 hx hby at_64 ?_
    refine own_cy (pc := 66) X462 hx hby at_66 (teq (rfl : (4 : Int32) = (4 : Int32))).1 71 ?_
    refine own_k X462 hx hby at_71 ?_
    refine XS.istore X462.here hx rfl (hb hby at_72) rfl (l' := #[iv p1, iv p2, iv p3, iv p4, iv p5, iv ca, iv cb, iv cc, iv cd, iv (4 : Int32), rv b459, rv b461, iv (0 : Int32)]) rfl ?_
    refine own_i X462 hx hby at_74 ?_
    refine own_in X462 hx hby at_76 (tlt (by decide : (0 : Int32) < (4 : Int32))).2.2.2 ?_
    refine own_a X462 hx hby at_79 ?_
    refine own_k X462 hx hby at_81 ?_
    refine st463 _ ?_
    refine own_i X463 hx hby at_85 ?_
    refine st464 _ ?_
    refine own_cy (pc := 90) X464 hx hby at_90 (teq (rfl : (own_lo ca) = (own_lo ca))).1 95 ?_
    refine own_i X464 hx hby at_95 ?_
    refine own_in X464 hx hby at_97 (teq (rfl : (0 : Int32) = (0 : Int32))).2 ?_
    refine own_i X464 hx hby at_100 ?_
    refine st465 _ ?_
    refine own_iy (pc := 105) X465 hx hby at_105 (teq (rfl : (0 : Int32) = (0 : Int32))).1 112 ?_
    refine own_k X465 hx hby at_112 ?_
    refine XS.istore X465.here hx rfl (hb hby at_113) rfl (l' := #[iv p1, iv p2, iv p3, iv p4, iv p5, iv ca, iv cb, iv cc, iv cd, iv (4 : Int32), rv b459, rv b461, iv (0 : Int32)]) rfl ?_
    refine own_i X465 hx hby at_115 ?_
    refine own_k X465 hx hby at_117 ?_
    refine own_cn X465 hx hby at_118 (tlt (by decide : (1 : Int32) < (4 : Int32))).2.2.2 ?_
    refine own_a X465 hx hby at_121 ?_
    refine own_k X465 hx hby at_123 ?_
    refine st466 _ ?_
    refine own_i X466 hx hby at_127 ?_
    refine st467 _ ?_
    refine own_cy (pc := 132) X467 hx hby at_132 (teq (rfl : (own_lo cb) = (own_lo cb))).1 137 ?_
    refine own_i X467 hx hby at_137 ?_
    refine own_in X467 hx hby at_139 (teq (rfl : (0 : Int32) = (0 : Int32))).2 ?_
    refine own_i X467 hx hby at_142 ?_
    refine st468 _ ?_
    refine own_iy (pc := 147) X468 hx hby at_147 (teq (rfl : (0 : Int32) = (0 : Int32))).1 154 ?_
    refine own_k X468 hx hby at_154 ?_
    refine XS.istore X468.here hx rfl (hb hby at_155) rfl (l' := #[iv p1, iv p2, iv p3, iv p4, iv p5, iv ca, iv cb, iv cc, iv cd, iv (4 : Int32), rv b459, rv b461, iv (0 : Int32)]) rfl ?_
    refine own_i X468 hx hby at_157 ?_
    refine own_k X468 hx hby at_159 ?_
    refine own_cn X468 hx hby at_160 (tlt (by decide : (2 : Int32) < (4 : Int32))).2.2.2 ?_
    refine own_a X468 hx hby at_163 ?_
    refine own_k X468 hx hby at_165 ?_
    refine st469 _ ?_
    refine own_i X469 hx hby at_169 ?_
    refine st470 _ ?_
    refine own_cy (pc := 174) X470 hx hby at_174 (teq (rfl : (own_lo cc) = (own_lo cc))).1 179 ?_
    refine own_i X470 hx hby at_179 ?_
    refine own_in X470 hx hby at_181 (teq (rfl : (0 : Int32) = (0 : Int32))).2 ?_
    refine own_i X470 hx hby at_184 ?_
    refine st471 _ ?_
    refine own_iy (pc := 189) X471 hx hby at_189 (teq (rfl : (0 : Int32) = (0 : Int32))).1 196 ?_
    refine own_k X471 hx hby at_196 ?_
    refine XS.istore X471.here hx rfl (hb hby at_197) rfl (l' := #[iv p1, iv p2, iv p3, iv p4, iv p5, iv ca, iv cb, iv cc, iv cd, iv (4 : Int32), rv b459, rv b461, iv (0 : Int32)]) rfl ?_
    refine own_i X471 hx hby at_199 ?_
    refine own_k X471 hx hby at_201 ?_
    refine own_cn X471 hx hby at_202 (tlt (by decide : (3 : Int32) < (4 : Int32))).2.2.2 ?_
    refine own_a X471 hx hby at_205 ?_
    refine own_k X471 hx hby at_207 ?_
    refine st472 _ ?_
    refine own_i X472 hx hby at_211 ?_
    refine st473 _ ?_
    refine own_cy (pc := 216) X473 hx hby at_216 (teq (rfl : (own_lo cd) = (own_lo cd))).1 221 ?_
    refine own_i X473 hx hby at_221 ?_
    refine own_in X473 hx hby at_223 (teq (rfl : (0 : Int32) = (0 : Int32))).2 ?_
    refine own_i X473 hx hby at_226 ?_
    refine st474 _ ?_
    refine own_in X474 hx hby at_231 (feq (by decide : ¬ ((1 : Int32) = (0 : Int32)))).1 ?_
    refine own_k X474 hx hby at_234 ?_
    refine own_go (pc := 235) X474 hx hby at_235 239 ?_
    refine XS.istore X474.here hx rfl (hb hby at_239) rfl (l' := #[iv p1, iv p2, iv p3, iv p4, iv p5, iv ca, iv cb, iv cc, iv cd, iv (4 : Int32), rv b459, rv b461, iv (1 : Int32)]) rfl ?_
    refine own_i X474 hx hby at_241 ?_
    refine own_iy (pc := 243) X474 hx hby at_243 (feq (by decide : ¬ ((1 : Int32) = (0 : Int32)))).2 255 ?_
    refine own_k X474 hx hby at_255 ?_
    exact retN X474 hx (t := .boolean) hret (by simp) (hb hby at_256) hr
  · show Qrm0_4_3 Z w_CS w_SF p1 p2 p3 p4 p5 ca cb cc cd h0 _ T474.heap _
    exact ⟨rfl, N474⟩
def Qrm0_4_4 (Z : State) (w_CS : Int32) (w_SF : Value) (p1 p2 p3 p4 p5 ca cb cc cd : Int32) (h0 : Heap) (v : Option Value) (h : Heap) (L : List Loc) : Prop := v = some (.int 1) ∧ Fr Z.heap.size L
theorem rm0_4_4 (l : Launch) (Z : State) (a0 : Array Value) (hw : own_HW Z a0) (ws : List Jvm.Cond) (w_CS : Int32) (w_SF : Value) (p1 p2 p3 p4 p5 ca cb cc cd : Int32) (h0 : Heap) (Z0 : Ext Z.heap h0) (S_w_CS : own_w_CS Z w_CS) (S_s__assertionsDisabled : own_s__assertionsDisabled Z) (S_s_HI_BYTE_SHIFT : own_s_HI_BYTE_SHIFT Z) (S_s_LO_BYTE_SHIFT : own_s_LO_BYTE_SHIFT Z) (R_w_SF : w_SF.isRef = true) (S_w_SF : own_w_SF Z w_SF) (hc41 : ((p1 &&& (65535 : Int32)).toUInt32.toUInt16.toUInt32.toInt32) = ca) (hc42 : ((p2 &&& (65535 : Int32)).toUInt32.toUInt16.toUInt32.toInt32) = cb) (hc43 : ((p3 &&& (65535 : Int32)).toUInt32.toUInt16.toUInt32.toInt32) = cc) (hc44 : ((p4 &&& (65535 : Int32)).toUInt32.toUInt16.toUInt32.toInt32) = cd) (hc55 : ((p5 &&& (7 : Int32)) % (5 : Int32)) = (4 : Int32)) (hc46 : own_u16 ca) (hc50 : own_u16 cb) (hc17 : own_u16 cc) (hc56 : own_u16 cd) (hc1 : ¬ (w_CS = (0 : Int32))) (hc48 : (own_lo ca) = ca) (hc52 : (own_lo cb) = cb) (hc36 : (own_lo cc) = cc) (hc58 : (own_lo cd) = cd) :
    own_met l x code maxLocals ret ws room_1 Z #[(.int p1), (.int p2), (.int p3), (.int p4), (.int p5)] h0 (Qrm0_4_4 Z w_CS w_SF p1 p2 p3 p4 p5 ca cb cc cd h0) := by
  refine own_start (plainFor_of_name pn_0) (fun m => ef_code_IIIII m p1 p2 p3 p4 p5) ?_
  intro p e s m below meth c s₁ hx hby hml hown hnm X0 hZ e0 hret hlk
  have N0 := Fr.nil Z.heap.size
  obtain ⟨_, T475, Lc475, X475, hQ475, st475⟩ := own_static (y := y_32) X0 hx hZ hown (own_w hw 1 rfl) (own_w hw 2 rfl) (own_w hw 3 rfl) (own_w hw 4 rfl) (rm399 l Z a0 hw [] w_CS ca cb cc cd h0 Z0 S_w_CS S_s__assertionsDisabled S_s_HI_BYTE_SHIFT S_s_LO_BYTE_SHIFT hc46 hc50 hc17 hc56 hc1) e0 (g := (mkF m 47 #[iv p1, iv p2, iv p3, iv p4, iv p5, iv ca, iv cb, iv cc, iv cd, iv (4 : Int32), .unset, .unset, .unset] [(.int cd), (.int cc), (.int cb), (.int ca), (.int (4 : Int32))])) (argsL := [(.int (4 : Int32)), (.int ca), (.int cb), (.int cc), (.int cd)]) (rest := []) (W := 0) (lenOf pd_26 rfl) (hb hby at_47) hml
  obtain ⟨b476, rfl, N475q, K475q, szn_b476, q475_E_b476, q475_T_b476⟩ := hQ475
  have g_b476 : Z.heap.size ≤ b476 := Nat.le_trans Z0.1 szn_b476
  have sz_b476 : h0.size ≤ b476 := Nat.le_trans (Keep.refl h0 []).1 szn_b476
  have K475 : Keep h0 T475.heap [] := (Keep.refl h0 []).trans K475q all0
  have XX475 : Ext Z.heap T475.heap := own_extK Z0 K475q all0
  have N475 := Fr.app N0 N475q
  obtain ⟨_, T477, Lc477, X477, hQ477, st477⟩ := own_static (y := y_31) X475 hx hZ hown (own_w hw 27 rfl) (own_w hw 28 rfl) (own_w hw 29 rfl) (own_w hw 30 rfl) (rm234 l Z a0 hw [] w_CS w_SF b476 [ca, cb, cc, cd] T475.heap XX475 S_w_CS R_w_SF S_w_SF S_s__assertionsDisabled S_s_HI_BYTE_SHIFT S_s_LO_BYTE_SHIFT q475_E_b476 q475_T_b476 ⟨Nat.le_of_ble_eq_true rfl, Nat.le_of_ble_eq_true rfl⟩ (own_a16_s hc46 (own_a16_s hc50 (own_a16_s hc17 (own_a16_s hc56 own_a16_0)))) (own_nocap_s hc48 (own_nocap_s hc52 (own_nocap_s hc36 (own_nocap_s hc58 own_nocap_0)))) hc1) rfl (g := (mkF m 54 #[iv p1, iv p2, iv p3, iv p4, iv p5, iv ca, iv cb, iv cc, iv cd, iv (4 : Int32), rv b476, .unset, .unset] [(.ref b476)])) (argsL := [(.ref b476)]) (rest := []) (W := 0) (lenOf pd_27 rfl) (hb hby at_54) hml
  obtain ⟨rfl, N477q, e477⟩ := hQ477
  have N477 := Fr.app N475 N477q
  obtain ⟨_, T478, Lc478, X478, hQ478, st478⟩ := own_virtual (y := y_4) X477 hx hZ hown (own_w hw 42 rfl) (own_w hw 32 rfl) (own_w hw 34 rfl) (own_w hw 33 rfl) (own_w hw 7 rfl) (own_w hw 35 rfl) (own_lenG l Z a0 hw [] w_CS b476 [ca, cb, cc, cd] T475.heap XX475 S_w_CS q475_E_b476 q475_T_b476 hc1 (Nat.le_of_ble_eq_true rfl)) e477 q475_E_b476 (g := (mkF m 61 #[iv p1, iv p2, iv p3, iv p4, iv p5, iv ca, iv cb, iv cc, iv cd, iv (4 : Int32), rv b476, rv b476, .unset] [(.ref b476)])) (argsL := []) (rest := []) (W := 0) (lenOf pd_21 rfl) (hb hby at_61) hml
  obtain ⟨rfl, N478q, e478⟩ := hQ478
  have N478 := Fr.app N477 N478q
  obtain ⟨_, T479, Lc479, X479, hQ479, st479⟩ := own_virtual (y := y_9) X478 hx hZ hown (own_w hw 78 rfl) (own_w hw 54 rfl) (own_w hw 56 rfl) (own_w hw 55 rfl) (own_w hw 7 rfl) (own_w hw 57 rfl) (own_chG l Z a0 hw [] w_CS w_SF ca b476 [ca, cb, cc, cd] (0 : Int32) T475.heap XX475 S_w_CS R_w_SF S_w_SF S_s__assertionsDisabled S_s_HI_BYTE_SHIFT S_s_LO_BYTE_SHIFT q475_E_b476 q475_T_b476 hc1 hc46 ⟨by decide, (by decide : (0 : Int32) < (4 : Int32)), rfl, Nat.le_of_ble_eq_true rfl⟩) e478 q475_E_b476 (g := (mkF m 82 #[iv p1, iv p2, iv p3, iv p4, iv p5, iv ca, iv cb, iv cc, iv cd, iv (4 : Int32), rv b476, rv b476, iv (0 : Int32)] [(.int (0 : Int32)), (.ref b476)])) (argsL := [(.int (0 : Int32))]) (rest := []) (W := 0) (lenOf pd_22 rfl) (hb hby at_82) hml
  obtain ⟨rfl, N479q, e479⟩ := hQ479
  have N479 := Fr.app N478 N479q
  obtain ⟨_, T480, Lc480, X480, hQ480, st480⟩ := own_static (y := y_2) X479 hx hZ hown (own_w hw 79 rfl) (own_w hw 80 rfl) (own_w hw 3 rfl) (own_w hw 81 rfl) (own_refJ l Z a0 hw [] ca T475.heap XX475 hc46) e479 (g := (mkF m 87 #[iv p1, iv p2, iv p3, iv p4, iv p5, iv ca, iv cb, iv cc, iv cd, iv (4 : Int32), rv b476, rv b476, iv (0 : Int32)] [(.int ca), (.int ca)])) (argsL := [(.int ca)]) (rest := [(.int ca)]) (W := 1) (lenOf pd_23 rfl) (hb hby at_87) hml
  obtain ⟨rfl, N480q, e480⟩ := hQ480
  have N480 := Fr.app N479 N480q
  obtain ⟨_, T481, Lc481, X481, hQ481, st481⟩ := own_static (y := y_0) X480 hx hZ hown (own_w hw 82 rfl) (own_w hw 83 rfl) (own_w hw 3 rfl) (own_w hw 84 rfl) (own_cap0 l Z a0 hw [] ca T475.heap XX475 hc48) e480 (g := (mkF m 102 #[iv p1, iv p2, iv p3, iv p4, iv p5, iv ca, iv cb, iv cc, iv cd, iv (4 : Int32), rv b476, rv b476, iv (0 : Int32)] [(.int ca)])) (argsL := [(.int ca)]) (rest := []) (W := 0) (lenOf pd_0 rfl) (hb hby at_102) hml
  obtain ⟨rfl, N481q, e481⟩ := hQ481
  have N481 := Fr.app N480 N481q
  obtain ⟨_, T482, Lc482, X482, hQ482, st482⟩ := own_virtual (y := y_9) X481 hx hZ hown (own_w hw 78 rfl) (own_w hw 54 rfl) (own_w hw 56 rfl) (own_w hw 55 rfl) (own_w hw 7 rfl) (own_w hw 57 rfl) (own_chG l Z a0 hw [] w_CS w_SF cb b476 [ca, cb, cc, cd] (1 : Int32) T475.heap XX475 S_w_CS R_w_SF S_w_SF S_s__assertionsDisabled S_s_HI_BYTE_SHIFT S_s_LO_BYTE_SHIFT q475_E_b476 q475_T_b476 hc1 hc50 ⟨by decide, (by decide : (1 : Int32) < (4 : Int32)), rfl, Nat.le_of_ble_eq_true rfl⟩) e481 q475_E_b476 (g := (mkF m 124 #[iv p1, iv p2, iv p3, iv p4, iv p5, iv ca, iv cb, iv cc, iv cd, iv (4 : Int32), rv b476, rv b476, iv (0 : Int32)] [(.int (1 : Int32)), (.ref b476)])) (argsL := [(.int (1 : Int32))]) (rest := []) (W := 0) (lenOf pd_22 rfl) (hb hby at_124) hml
  obtain ⟨rfl, N482q, e482⟩ := hQ482
  have N482 := Fr.app N481 N482q
  obtain ⟨_, T483, Lc483, X483, hQ483, st483⟩ := own_static (y := y_2) X482 hx hZ hown (own_w hw 79 rfl) (own_w hw 80 rfl) (own_w hw 3 rfl) (own_w hw 81 rfl) (own_refJ l Z a0 hw [] cb T475.heap XX475 hc50) e482 (g := (mkF m 129 #[iv p1, iv p2, iv p3, iv p4, iv p5, iv ca, iv cb, iv cc, iv cd, iv (4 : Int32), rv b476, rv b476, iv (0 : Int32)] [(.int cb), (.int cb)])) (argsL := [(.int cb)]) (rest := [(.int cb)]) (W := 1) (lenOf pd_23 rfl) (hb hby at_129) hml
  obtain ⟨rfl, N483q, e483⟩ := hQ483
  have N483 := Fr.app N482 N483q
  obtain ⟨_, T484, Lc484, X484, hQ484, st484⟩ := own_static (y := y_0) X483 hx hZ hown (own_w hw 82 rfl) (own_w hw 83 rfl) (own_w hw 3 rfl) (own_w hw 84 rfl) (own_cap0 l Z a0 hw [] cb T475.heap XX475 hc52) e483 (g := (mkF m 144 #[iv p1, iv p2, iv p3, iv p4, iv p5, iv ca, iv cb, iv cc, iv cd, iv (4 : Int32), rv b476, rv b476, iv (0 : Int32)] [(.int cb)])) (argsL := [(.int cb)]) (rest := []) (W := 0) (lenOf pd_0 rfl) (hb hby at_144) hml
  obtain ⟨rfl, N484q, e484⟩ := hQ484
  have N484 := Fr.app N483 N484q
  obtain ⟨_, T485, Lc485, X485, hQ485, st485⟩ := own_virtual (y := y_9) X484 hx hZ hown (own_w hw 78 rfl) (own_w hw 54 rfl) (own_w hw 56 rfl) (own_w hw 55 rfl) (own_w hw 7 rfl) (own_w hw 57 rfl) (own_chG l Z a0 hw [] w_CS w_SF cc b476 [ca, cb, cc, cd] (2 : Int32) T475.heap XX475 S_w_CS R_w_SF S_w_SF S_s__assertionsDisabled S_s_HI_BYTE_SHIFT S_s_LO_BYTE_SHIFT q475_E_b476 q475_T_b476 hc1 hc17 ⟨by decide, (by decide : (2 : Int32) < (4 : Int32)), rfl, Nat.le_of_ble_eq_true rfl⟩) e484 q475_E_b476 (g := (mkF m 166 #[iv p1, iv p2, iv p3, iv p4, iv p5, iv ca, iv cb, iv cc, iv cd, iv (4 : Int32), rv b476, rv b476, iv (0 : Int32)] [(.int (2 : Int32)), (.ref b476)])) (argsL := [(.int (2 : Int32))]) (rest := []) (W := 0) (lenOf pd_22 rfl) (hb hby at_166) hml
  obtain ⟨rfl, N485q, e485⟩ := hQ485
  have N485 := Fr.app N484 N485q
  obtain ⟨_, T486, Lc486, X486, hQ486, st486⟩ := own_static (y := y_2) X485 hx hZ hown (own_w hw 79 rfl) (own_w hw 80 rfl) (own_w hw 3 rfl) (own_w hw 81 rfl) (own_refJ l Z a0 hw [] cc T475.heap XX475 hc17) e485 (g := (mkF m 171 #[iv p1, iv p2, iv p3, iv p4, iv p5, iv ca, iv cb, iv cc, iv cd, iv (4 : Int32), rv b476, rv b476, iv (0 : Int32)] [(.int cc), (.int cc)])) (argsL := [(.int cc)]) (rest := [(.int cc)]) (W := 1) (lenOf pd_23 rfl) (hb hby at_171) hml
  obtain ⟨rfl, N486q, e486⟩ := hQ486
  have N486 := Fr.app N485 N486q
  obtain ⟨_, T487, Lc487, X487, hQ487, st487⟩ := own_static (y := y_0) X486 hx hZ hown (own_w hw 82 rfl) (own_w hw 83 rfl) (own_w hw 3 rfl) (own_w hw 84 rfl) (own_cap0 l Z a0 hw [] cc T475.heap XX475 hc36) e486 (g := (mkF m 186 #[iv p1, iv p2, iv p3, iv p4, iv p5, iv ca, iv cb, iv cc, iv cd, iv (4 : Int32), rv b476, rv b476, iv (0 : Int32)] [(.int cc)])) (argsL := [(.int cc)]) (rest := []) (W := 0) (lenOf pd_0 rfl) (hb hby at_186) hml
  obtain ⟨rfl, N487q, e487⟩ := hQ487
  have N487 := Fr.app N486 N487q
  obtain ⟨_, T488, Lc488, X488, hQ488, st488⟩ := own_virtual (y := y_9) X487 hx hZ hown (own_w hw 78 rfl) (own_w hw 54 rfl) (own_w hw 56 rfl) (own_w hw 55 rfl) (own_w hw 7 rfl) (own_w hw 57 rfl) (own_chG l Z a0 hw [] w_CS w_SF cd b476 [ca, cb, cc, cd] (3 : Int32) T475.heap XX475 S_w_CS R_w_SF S_w_SF S_s__assertionsDisabled S_s_HI_BYTE_SHIFT S_s_LO_BYTE_SHIFT q475_E_b476 q475_T_b476 hc1 hc56 ⟨by decide, (by decide : (3 : Int32) < (4 : Int32)), rfl, Nat.le_of_ble_eq_true rfl⟩) e487 q475_E_b476 (g := (mkF m 208 #[iv p1, iv p2, iv p3, iv p4, iv p5, iv ca, iv cb, iv cc, iv cd, iv (4 : Int32), rv b476, rv b476, iv (0 : Int32)] [(.int (3 : Int32)), (.ref b476)])) (argsL := [(.int (3 : Int32))]) (rest := []) (W := 0) (lenOf pd_22 rfl) (hb hby at_208) hml
  obtain ⟨rfl, N488q, e488⟩ := hQ488
  have N488 := Fr.app N487 N488q
  obtain ⟨_, T489, Lc489, X489, hQ489, st489⟩ := own_static (y := y_2) X488 hx hZ hown (own_w hw 79 rfl) (own_w hw 80 rfl) (own_w hw 3 rfl) (own_w hw 81 rfl) (own_refJ l Z a0 hw [] cd T475.heap XX475 hc56) e488 (g := (mkF m 213 #[iv p1, iv p2, iv p3, iv p4, iv p5, iv ca, iv cb, iv cc, iv cd, iv (4 : Int32), rv b476, rv b476, iv (0 : Int32)] [(.int cd), (.int cd)])) (argsL := [(.int cd)]) (rest := [(.int cd)]) (W := 1) (lenOf pd_23 rfl) (hb hby at_213) hml
  obtain ⟨rfl, N489q, e489⟩ := hQ489
  have N489 := Fr.app N488 N489q
  obtain ⟨_, T490, Lc490, X490, hQ490, st490⟩ := own_static (y := y_0) X489 hx hZ hown (own_w hw 82 rfl) (own_w hw 83 rfl) (own_w hw 3 rfl) (own_w hw 84 rfl) (own_cap0 l Z a0 hw [] cd T475.heap XX475 hc58) e489 (g := (mkF m 228 #[iv p1, iv p2, iv p3, iv p4, iv p5, iv ca, iv cb, iv cc, iv cd, iv (4 : Int32), rv b476, rv b476, iv (0 : Int32)] [(.int cd)])) (argsL := [(.int cd)]) (rest := []) (W := 0) (lenOf pd_0 rfl) (hb hby at_228) hml
  obtain ⟨rfl, N490q, e490⟩ := hQ490
  have N490 := Fr.app N489 N490q
  obtain ⟨fs, hr, hrun, hended, hW, hsame⟩ := X490.leave (v := some (.int (1 : Int32))) (fun h => by rw [hret] at h; cases h) hlk
  refine ⟨_, _, ?_, hrun, hended, _, _, rfl, ?_, ⟨_, rfl⟩, hW, hsame.mono (by decide) (by decide)⟩
  · show own_S p e below s₁ (mkF m 0 #[iv p1, iv p2, iv p3, iv p4, iv p5, .unset, .unset, .unset, .unset, .unset, .unset, .unset, .unset] []) _
    refine own_iN X0 hx hby at_0 ?_
    refine X0.ldcInt hx hown (mvT hZ (own_w hw 0 rfl)) (g := (mkF m 1 #[iv p1, iv p2, iv p3, iv p4, iv p5, .unset, .unset, .unset, .unset, .unset, .unset, .unset, .unset] [(.int p1)])) rfl (hb hby at_1) _ ?_
    refine XS.iand X0.here hx rfl (hb hby at_3) rfl ?_
    refine XS.i2c X0.here hx rfl (hb hby at_4) rfl ?_
    show own_S p e below s₁ (mkF m 5 #[iv p1, iv p2, iv p3, iv p4, iv p5, .unset, .unset, .unset, .unset, .unset, .unset, .unset, .unset] [(.int ((p1 &&& (65535 : Int32)).toUInt32.toUInt16.toUInt32.toInt32))]) _
    rw [hc41]
    refine XS.istore X0.here hx rfl (hb hby at_5) rfl (l' := #[iv p1, iv p2, iv p3, iv p4, iv p5, iv ca, .unset, .unset, .unset, .unset, .unset, .unset, .unset]) rfl ?_
    refine own_iN X0 hx hby at_7 ?_
    refine X0.ldcInt hx hown (mvT hZ (own_w hw 0 rfl)) (g := (mkF m 8 #[iv p1, iv p2, iv p3, iv p4, iv p5, iv ca, .unset, .unset, .unset, .unset, .unset, .unset, .unset] [(.int p2)])) rfl (hb hby at_8) _ ?_
    refine XS.iand X0.here hx rfl (hb hby at_10) rfl ?_
    refine XS.i2c X0.here hx rfl (hb hby at_11) rfl ?_
    show own_S p e below s₁ (mkF m 12 #[iv p1, iv p2, iv p3, iv p4, iv p5, iv ca, .unset, .unset, .unset, .unset, .unset, .unset, .unset] [(.int ((p2 &&& (65535 : Int32)).toUInt32.toUInt16.toUInt32.toInt32))]) _
    rw [hc42]
    refine XS.istore X0.here hx rfl (hb hby at_12) rfl (l' := #[iv p1, iv p2, iv p3, iv p4, iv p5, iv ca, iv cb, .unset, .unset, .unset, .unset, .unset, .unset]) rfl ?_
    refine own_iN X0 hx hby at_14 ?_
    refine X0.ldcInt hx hown (mvT hZ (own_w hw 0 rfl)) (g := (mkF m 15 #[iv p1, iv p2, iv p3, iv p4, iv p5, iv ca, iv cb, .unset, .unset, .unset, .unset, .unset, .unset] [(.int p3)])) rfl (hb hby at_15) _ ?_
    refine XS.iand X0.here hx rfl (hb hby at_17) rfl ?_
    refine XS.i2c X0.here hx rfl (hb hby at_18) rfl ?_
    show own_S p e below s₁ (mkF m 19 #[iv p1, iv p2, iv p3, iv p4, iv p5, iv ca, iv cb, .unset, .unset, .unset, .unset, .unset, .unset] [(.int ((p3 &&& (65535 : Int32)).toUInt32.toUInt16.toUInt32.toInt32))]) _
    rw [hc43]
    refine XS.istore X0.here hx rfl (hb hby at_19) rfl (l' := #[iv p1, iv p2, iv p3, iv p4, iv p5, iv ca, iv cb, iv cc, .unset, .unset, .unset, .unset, .unset]) rfl ?_
    refine own_iN X0 hx hby at_21 ?_
    refine X0.ldcInt hx hown (mvT hZ (own_w hw 0 rfl)) (g := (mkF m 22 #[iv p1, iv p2, iv p3, iv p4, iv p5, iv ca, iv cb, iv cc, .unset, .unset, .unset, .unset, .unset] [(.int p4)])) rfl (hb hby at_22) _ ?_
    refine XS.iand X0.here hx rfl (hb hby at_24) rfl ?_
    refine XS.i2c X0.here hx rfl (hb hby at_25) rfl ?_
    show own_S p e below s₁ (mkF m 26 #[iv p1, iv p2, iv p3, iv p4, iv p5, iv ca, iv cb, iv cc, .unset, .unset, .unset, .unset, .unset] [(.int ((p4 &&& (65535 : Int32)).toUInt32.toUInt16.toUInt32.toInt32))]) _
    rw [hc44]
    refine XS.istore X0.here hx rfl (hb hby at_26) rfl (l' := #[iv p1, iv p2, iv p3, iv p4, iv p5, iv ca, iv cb, iv cc, iv cd, .unset, .unset, .unset, .unset]) rfl ?_
    refine own_i X0 hx hby at_28 ?_
    refine XS.bipush X0.here hx rfl (hb hby at_30) ?_
    refine XS.iand X0.here hx rfl (hb hby at_32) rfl ?_
    refine own_k X0 hx hby at_33 ?_
    refine iremM X0 hx rfl (hb hby at_34) rfl (by decide) ?_
    show own_S p e below s₁ (mkF m 35 #[iv p1, iv p2, iv p3, iv p4, iv p5, iv ca, iv cb, iv cc, iv cd, .unset, .unset, .unset, .unset] [(.int ((p5 &&& (7 : Int32)) % (5 : Int32)))]) _
    rw [hc55]
    refine XS.istore X0.here hx rfl (hb hby at_35) rfl (l' := #[iv p1, iv p2, iv p3, iv p4, iv p5, iv ca, iv cb, iv cc, iv cd, iv (4 : Int32), .unset, .unset, .unset]) rfl ?_
    refine own_i X0 hx hby at_37 ?_
    refine own_i X0 hx hby at_39 ?_
    refine own_i X0 hx hby at_41 ?_
    refine own_i X0 hx hby at_43 ?_
    refine own_i X0 hx hby at_45 ?_
    refine st475 _ ?_
    refine XS.astore X475.here hx rfl (hb hby at_50) rfl rfl (l' := #[iv p1, iv p2, iv p3, iv p4, iv p5, iv ca, iv cb, iv cc, iv cd, iv (4 : Int32), rv b476, .unset, .unset]) rfl ?_
    refine own_a X475 hx hby at_52 ?_
    refine st477 _ ?_
    refine XS.astore X477.here hx rfl (hb hby at_57) rfl rfl (l' := #[iv p1, iv p2, iv p3, iv p4, iv p5, iv ca, iv cb, iv cc, iv cd, iv (4 : Int32), rv b476, rv b476, .unset]) rfl ?_
    refine own_a X477 hx hby at_59 ?_
    refine st478 _ ?_
    refine own_i X478 hx hby at_64 ?_
    refine own_cy (pc := 66) X478 hx hby at_66 (teq (rfl : (4 : Int32) = (4 : Int32))).1 71 ?_
    refine own_k X478 hx hby at_71 ?_
    refine XS.istore X478.here hx rfl (hb hby at_72) rfl (l' := #[iv p1, iv p2, iv p3, iv p4, iv p5, iv ca, iv cb, iv cc, iv cd, iv (4 : Int32), rv b476, rv b476, iv (0 : Int32)]) rfl ?_
    refine own_i X478 hx hby at_74 ?_
    refine own_in X478 hx hby at_76 (tlt (by decide : (0 : Int32) < (4 : Int32))).2.2.2 ?_
    refine own_a X478 hx hby at_79 ?_
    refine own_k X478 hx hby at_81 ?_
    refine st479 _ ?_
    refine own_i X479 hx hby at_85 ?_
    refine st480 _ ?_
    refine own_cy (pc := 90) X480 hx hby at_90 (teq (Eq.symm hc48)).1 95 ?_
    refine own_i X480 hx hby at_95 ?_
    refine own_in X480 hx hby at_97 (teq (rfl : (0 : Int32) = (0 : Int32))).2 ?_
    refine own_i X480 hx hby at_100 ?_
    refine st481 _ ?_
    refine own_iy (pc := 105) X481 hx hby at_105 (teq (rfl : (0 : Int32) = (0 : Int32))).1 112 ?_
    refine own_k X481 hx hby at_112 ?_
    refine XS.istore X481.here hx rfl (hb hby at_113) rfl (l' := #[iv p1, iv p2, iv p3, iv p4, iv p5, iv ca, iv cb, iv cc, iv cd, iv (4 : Int32), rv b476, rv b476, iv (0 : Int32)]) rfl ?_
    refine own_i X481 hx hby at_115 ?_
    refine own_k X481 hx hby at_117 ?_
    refine own_cn X481 hx hby at_118 (tlt (by decide : (1 : Int32) < (4 : Int32))).2.2.2 ?_
    refine own_a X481 hx hby at_121 ?_
    refine own_k X481 hx hby at_123 ?_
    refine st482 _ ?_
    refine own_i X482 hx hby at_127 ?_
    refine st483 _ ?_
    refine own_cy (pc := 132) X483 hx hby at_132 (teq (Eq.symm hc52)).1 137 ?_
    refine own_i X483 hx hby at_137 ?_
    refine own_in X483 hx hby at_139 (teq (rfl : (0 : Int32) = (0 : Int32))).2 ?_
    refine own_i X483 hx hby at_142 ?_
    refine st484 _ ?_
    refine own_iy (pc := 147) X484 hx hby at_147 (teq (rfl : (0 : Int32) = (0 : Int32))).1 154 ?_
    refine own_k X484 hx hby at_154 ?_
    refine XS.istore X484.here hx rfl (hb hby at_155) rfl (l' := #[iv p1, iv p2, iv p3, iv p4, iv p5, iv ca, iv cb, iv cc, iv cd, iv (4 : Int32), rv b476, rv b476, iv (0 : Int32)]) rfl ?_
    refine own_i X484 hx hby at_157 ?_
    refine own_k X484 hx hby at_159 ?_
    refine own_cn X484 hx hby at_160 (tlt (by decide : (2 : Int32) < (4 : Int32))).2.2.2 ?_
    refine own_a X484 hx hby at_163 ?_
    refine own_k X484 hx hby at_165 ?_
    refine st485 _ ?_
    refine own_i X485 hx hby at_169 ?_
    refine st486 _ ?_
    refine own_cy (pc := 174) X486 hx hby at_174 (teq (Eq.symm hc36)).1 179 ?_
    refine own_i X486 hx hby at_179 ?_
    refine own_in X486 hx hby at_181 (teq (rfl : (0 : Int32) = (0 : Int32))).2 ?_
    refine own_i X486 hx hby at_184 ?_
    refine st487 _ ?_
    refine own_iy (pc := 189) X487 hx hby at_189 (teq (rfl : (0 : Int32) = (0 : Int32))).1 196 ?_
    refine own_k X487 hx hby at_196 ?_
    refine XS.istore X487.here hx rfl (hb hby at_197) rfl (l' := #[iv p1, iv p2, iv p3, iv p4, iv p5, iv ca, iv cb, iv cc, iv cd, iv (4 : Int32), rv b476, rv b476, iv (0 : Int32)]) rfl ?_
    refine own_i X487 hx hby at_199 ?_
    refine own_k X487 hx hby at_201 ?_
    refine own_cn X487 hx hby at_202 (tlt (by decide : (3 : Int32) < (4 : Int32))).2.2.2 ?_
    refine own_a X487 hx hby at_205 ?_
    refine own_k X487 hx hby at_207 ?_
    refine st488 _ ?_
    refine own_i X488 hx hby at_211 ?_
    refine st489 _ ?_
    refine own_cy (pc := 216) X489 hx hby at_216 (teq (Eq.symm hc58)).1 221 ?_
    refine own_i X489 hx hby at_221 ?_
    refine own_in X489 hx hby at_223 (teq (rfl : (0 : Int32) = (0 : Int32))).2 ?_
    refine own_i X489 hx hby at_226 ?_
    refine st490 _ ?_
    refine own_iy (pc := 231) X490 hx hby at_231 (teq (rfl : (0 : Int32) = (0 : Int32))).1 238 ?_
    refine own_k X490 hx hby at_238 ?_
    refine XS.istore X490.here hx rfl (hb hby at_239) rfl (l' := #[iv p1, iv p2, iv p3, iv p4, iv p5, iv ca, iv cb, iv cc, iv cd, iv (4 : Int32), rv b476, rv b476, iv (0 : Int32)]) rfl ?_
    refine own_i X490 hx hby at_241 ?_
    refine own_in X490 hx hby at_243 (teq (rfl : (0 : Int32) = (0 : Int32))).2 ?_
    refine own_a X490 hx hby at_246 ?_
    refine own_a X490 hx hby at_248 ?_
    refine Jvm.RoadKit.acmp (g := (mkF m 250 #[iv p1, iv p2, iv p3, iv p4, iv p5, iv ca, iv cb, iv cc, iv cd, iv (4 : Int32), rv b476, rv b476, iv (0 : Int32)] [(.ref b476), (.ref b476)])) X490 hx rfl rfl rfl (pc0 := 250) (pc' := 255) (same := true) rfl (hb hby at_250) rfl (decide_eq_true rfl) (by decide) (by decide) ?_
    refine own_k X490 hx hby at_255 ?_
    exact retN X490 hx (t := .boolean) hret (by simp) (hb hby at_256) hr
  · show Qrm0_4_4 Z w_CS w_SF p1 p2 p3 p4 p5 ca cb cc cd h0 _ T490.heap _
    exact ⟨rfl, N490⟩
def Qrm493 (Z : State) (w_CS : Int32) (b492 : Addr) (h0 : Heap) (v : Option Value) (h : Heap) (L : List Loc) : Prop := v = some (.ref b492) ∧ Fr Z.heap.size L ∧ h = h0
theorem rm493 (l : Launch) (Z : State) (a0 : Array Value) (hw : own_HW Z a0) (ws : List Jvm.Cond) (w_CS : Int32) (b492 : Addr) (h0 : Heap) (Z0 : Ext Z.heap h0) (S_w_CS : own_w_CS Z w_CS) (E_b492 : Exa Z h0 b492 "java/lang/String") (T_b492 : own_rep Z h0 b492 []) (hc1 : ¬ (w_CS = (0 : Int32))) :
    own_met l y_31 prog_38_method_3_code 4 (some (.object "java/lang/String")) ws ({ frames := 2, cells := 0, slots := 0, locals := 26 } : Room) Z #[(.ref b492)] h0 (Qrm493 Z w_CS b492 h0) := by
  refine own_start (plainFor_of_name pn_1) (fun m => ef_prog_38_method_3_R m b492) ?_
  intro p e s m below meth c s₁ hx hby hml hown hnm X0 hZ e0 hret hlk
  have N0 := Fr.nil Z.heap.size
  obtain ⟨_, T494, Lc494, X494, hQ494, st494⟩ := own_virtual (y := y_4) X0 hx hZ hown (own_w hw 31 rfl) (own_w hw 32 rfl) (own_w hw 34 rfl) (own_w hw 33 rfl) (own_w hw 7 rfl) (own_w hw 35 rfl) (own_lenG l Z a0 hw [] w_CS b492 [] h0 Z0 S_w_CS E_b492 T_b492 hc1 (Nat.le_of_ble_eq_true rfl)) e0 E_b492 (g := (mkF m 4 #[rv b492, iv (0 : Int32), .unset, .unset] [(.ref b492), (.int (0 : Int32))])) (argsL := []) (rest := [(.int (0 : Int32))]) (W := 1) (lenOf pd_21 rfl) (hb hby d5_4) hml
  obtain ⟨rfl, N494q, e494⟩ := hQ494
  have N494 := Fr.app N0 N494q
  obtain ⟨fs, hr, hrun, hended, hW, hsame⟩ := X494.leave (v := some (.ref b492)) (fun h => by rw [hret] at h; cases h) hlk
  refine ⟨_, _, ?_, hrun, hended, _, _, rfl, ?_, ⟨_, rfl⟩, hW, hsame.mono (by decide) (by decide)⟩
  · show own_S p e below s₁ (mkF m 0 #[rv b492, .unset, .unset, .unset] []) _
    refine own_k X0 hx hby d5_0 ?_
    refine XS.istoreN X0.here hx rfl (hb hby d5_1) rfl (l' := #[rv b492, iv (0 : Int32), .unset, .unset]) rfl ?_
    refine own_iN X0 hx hby d5_2 ?_
    refine own_aN X0 hx hby d5_3 ?_
    refine st494 _ ?_
    refine own_cy (pc := 7) X494 hx hby d5_7 (flt (Int32.lt_irrefl : ¬ ((0 : Int32) < (0 : Int32)))).2.1 69 ?_
    refine own_aN X494 hx hby d5_69 ?_
    jvm_step X494.here [X494.here.top, hx, (hb hby d5_70), X494.method', hret, Value.isRef, FieldType.isReference]
    first | (intro acts; rw [hr _ acts rfl rfl rfl]) | rw [hr _ _ rfl rfl rfl]
    exact Steps.refl _
  · show Qrm493 Z w_CS b492 h0 _ T494.heap _
    rw [e494]
    exact ⟨rfl, N494, rfl⟩
def Qrm0_0_0 (Z : State) (w_CS p1 p2 p3 p4 p5 ca cb cc cd : Int32) (h0 : Heap) (v : Option Value) (h : Heap) (L : List Loc) : Prop := v = some (.int 1) ∧ Fr Z.heap.size L
theorem rm0_0_0 (l : Launch) (Z : State) (a0 : Array Value) (hw : own_HW Z a0) (ws : List Jvm.Cond) (w_CS p1 p2 p3 p4 p5 ca cb cc cd : Int32) (h0 : Heap) (Z0 : Ext Z.heap h0) (S_w_CS : own_w_CS Z w_CS) (hc41 : ((p1 &&& (65535 : Int32)).toUInt32.toUInt16.toUInt32.toInt32) = ca) (hc42 : ((p2 &&& (65535 : Int32)).toUInt32.toUInt16.toUInt32.toInt32) = cb) (hc43 : ((p3 &&& (65535 : Int32)).toUInt32.toUInt16.toUInt32.toInt32) = cc) (hc44 : ((p4 &&& (65535 : Int32)).toUInt32.toUInt16.toUInt32.toInt32) = cd) (hc59 : ((p5 &&& (7 : Int32)) % (5 : Int32)) = (0 : Int32)) (hc1 : ¬ (w_CS = (0 : Int32))) :
    own_metW l x code maxLocals ret ws room_1 Z #[(.int p1), (.int p2), (.int p3), (.int p4), (.int p5)] h0 (Qrm0_0_0 Z w_CS p1 p2 p3 p4 p5 ca cb cc cd h0) := by
  refine own_startW (plainFor_of_name pn_0) (fun m => ef_code_IIIII m p1 p2 p3 p4 p5) ?_
  intro p e s m below meth c s₁ hx hby hml hown hnm X0 hZ e0 hret hlk hs0 hC0
  have N0 := Fr.nil Z.heap.size
  have CR0 : CHr Z consts_1 s.vm h0 s.vm h0 := CHr.refl hC0
  have hS0 : s.Since s.vm 0 := (State.WarmedH.refl s).since 0
  have hk0 : 0 ≤ h0.size := Nat.zero_le _
  obtain ⟨_, T491, Lc491, X491, hQ491, hS491, hZ491, hown491, hC491, st491⟩ := own_staticW (y := y_32) (s := s) (vm0 := s.vm) X0 hx hZ hown (own_w hw 1 rfl) (own_w hw 2 rfl) (own_w hw 3 rfl) (own_w hw 4 rfl) (rm269 l Z a0 hw [] ca cb cc cd h0 Z0 ) e0 (own_hEL hw) CR0.1 hS0 hk0 (g := (mkF m 47 #[iv p1, iv p2, iv p3, iv p4, iv p5, iv ca, iv cb, iv cc, iv cd, iv (0 : Int32), .unset, .unset, .unset] [(.int cd), (.int cc), (.int cb), (.int ca), (.int (0 : Int32))])) (argsL := [(.int (0 : Int32)), (.int ca), (.int cb), (.int cc), (.int cd)]) (rest := []) (W := 0) (lenOf pd_26 rfl) (hb hby at_47) hml
  obtain ⟨b492, rfl, N491q, K491q, szn_b492, q491_E_b492, q491_T_b492⟩ := hQ491
  have XX491 : Ext Z.heap T491.heap := own_extK Z0 K491q all0
  have g_b492 : Z.heap.size ≤ b492 := Nat.le_trans Z0.1 szn_b492
  have sz_b492 : h0.size ≤ b492 := Nat.le_trans (Keep.refl h0 []).1 szn_b492
  have N491 := Fr.app N0 N491q
  have CR491 := CR0.trans hC491
  have hk491 : T491.heap.size ≤ T491.heap.size := Nat.le_refl _
  obtain ⟨h491, e491⟩ : ∃ z, T491.heap = z := ⟨_, rfl⟩
  rw [e491] at K491q XX491 CR491 hS491 hk491 q491_E_b492 q491_T_b492
  have K491 : Keep h0 h491 [] := (Keep.refl h0 []).trans K491q all0
  obtain ⟨_, T495, Lc495, X495, hQ495, st495⟩ := own_static (y := y_31) X491 hx hZ491 hown491 (own_w hw 27 rfl) (own_w hw 28 rfl) (own_w hw 29 rfl) (own_w hw 30 rfl) (rm493 l Z a0 hw [] w_CS b492 h491 XX491 S_w_CS q491_E_b492 q491_T_b492 hc1) e491 (g := (mkF m 54 #[iv p1, iv p2, iv p3, iv p4, iv p5, iv ca, iv cb, iv cc, iv cd, iv (0 : Int32), rv b492, .unset, .unset] [(.ref b492)])) (argsL := [(.ref b492)]) (rest := []) (W := 0) (lenOf pd_27 rfl) (hb hby at_54) hml
  obtain ⟨rfl, N495q, e495⟩ := hQ495
  have N495 := Fr.app N491 N495q
  obtain ⟨_, T496, Lc496, X496, hQ496, st496⟩ := own_virtual (y := y_4) X495 hx hZ491 hown491 (own_w hw 42 rfl) (own_w hw 32 rfl) (own_w hw 34 rfl) (own_w hw 33 rfl) (own_w hw 7 rfl) (own_w hw 35 rfl) (own_lenG l Z a0 hw [] w_CS b492 [] h491 XX491 S_w_CS q491_E_b492 q491_T_b492 hc1 (Nat.le_of_ble_eq_true rfl)) e495 q491_E_b492 (g := (mkF m 61 #[iv p1, iv p2, iv p3, iv p4, iv p5, iv ca, iv cb, iv cc, iv cd, iv (0 : Int32), rv b492, rv b492, .unset] [(.ref b492)])) (argsL := []) (rest := []) (W := 0) (lenOf pd_21 rfl) (hb hby at_61) hml
  obtain ⟨rfl, N496q, e496⟩ := hQ496
  have N496 := Fr.app N495 N496q
  obtain ⟨fs, hr, hrun, hended, hend⟩ := leaveW (s := s) (vm₁ := T491.vm) X496 hS491 (by rw [e496]; exact hk491) (v := some (.int (1 : Int32))) (fun h => by rw [hret] at h; cases h) hlk
  refine ⟨_, _, ?_, hrun, hended, _, _, rfl, ?_, ?_, hend.1, hend.2.1, hend.2.2.1, hend.2.2.2.mono (by decide) (by decide)⟩
  · show own_S p e below s₁ (mkF m 0 #[iv p1, iv p2, iv p3, iv p4, iv p5, .unset, .unset, .unset, .unset, .unset, .unset, .unset, .unset] []) _
    refine own_iN X0 hx hby at_0 ?_
    refine X0.ldcInt hx hown (mvT hZ (own_w hw 0 rfl)) (g := (mkF m 1 #[iv p1, iv p2, iv p3, iv p4, iv p5, .unset, .unset, .unset, .unset, .unset, .unset, .unset, .unset] [(.int p1)])) rfl (hb hby at_1) _ ?_
    refine XS.iand X0.here hx rfl (hb hby at_3) rfl ?_
    refine XS.i2c X0.here hx rfl (hb hby at_4) rfl ?_
    show own_S p e below s₁ (mkF m 5 #[iv p1, iv p2, iv p3, iv p4, iv p5, .unset, .unset, .unset, .unset, .unset, .unset, .unset, .unset] [(.int ((p1 &&& (65535 : Int32)).toUInt32.toUInt16.toUInt32.toInt32))]) _
    rw [hc41]
    refine XS.istore X0.here hx rfl (hb hby at_5) rfl (l' := #[iv p1, iv p2, iv p3, iv p4, iv p5, iv ca, .unset, .unset, .unset, .unset, .unset, .unset, .unset]) rfl ?_
    refine own_iN X0 hx hby at_7 ?_
    refine X0.ldcInt hx hown (mvT hZ (own_w hw 0 rfl)) (g := (mkF m 8 #[iv p1, iv p2, iv p3, iv p4, iv p5, iv ca, .unset, .unset, .unset, .unset, .unset, .unset, .unset] [(.int p2)])) rfl (hb hby at_8) _ ?_
    refine XS.iand X0.here hx rfl (hb hby at_10) rfl ?_
    refine XS.i2c X0.here hx rfl (hb hby at_11) rfl ?_
    show own_S p e below s₁ (mkF m 12 #[iv p1, iv p2, iv p3, iv p4, iv p5, iv ca, .unset, .unset, .unset, .unset, .unset, .unset, .unset] [(.int ((p2 &&& (65535 : Int32)).toUInt32.toUInt16.toUInt32.toInt32))]) _
    rw [hc42]
    refine XS.istore X0.here hx rfl (hb hby at_12) rfl (l' := #[iv p1, iv p2, iv p3, iv p4, iv p5, iv ca, iv cb, .unset, .unset, .unset, .unset, .unset, .unset]) rfl ?_
    refine own_iN X0 hx hby at_14 ?_
    refine X0.ldcInt hx hown (mvT hZ (own_w hw 0 rfl)) (g := (mkF m 15 #[iv p1, iv p2, iv p3, iv p4, iv p5, iv ca, iv cb, .unset, .unset, .unset, .unset, .unset, .unset] [(.int p3)])) rfl (hb hby at_15) _ ?_
    refine XS.iand X0.here hx rfl (hb hby at_17) rfl ?_
    refine XS.i2c X0.here hx rfl (hb hby at_18) rfl ?_
    show own_S p e below s₁ (mkF m 19 #[iv p1, iv p2, iv p3, iv p4, iv p5, iv ca, iv cb, .unset, .unset, .unset, .unset, .unset, .unset] [(.int ((p3 &&& (65535 : Int32)).toUInt32.toUInt16.toUInt32.toInt32))]) _
    rw [hc43]
    refine XS.istore X0.here hx rfl (hb hby at_19) rfl (l' := #[iv p1, iv p2, iv p3, iv p4, iv p5, iv ca, iv cb, iv cc, .unset, .unset, .unset, .unset, .unset]) rfl ?_
    refine own_iN X0 hx hby at_21 ?_
    refine X0.ldcInt hx hown (mvT hZ (own_w hw 0 rfl)) (g := (mkF m 22 #[iv p1, iv p2, iv p3, iv p4, iv p5, iv ca, iv cb, iv cc, .unset, .unset, .unset, .unset, .unset] [(.int p4)])) rfl (hb hby at_22) _ ?_
    refine XS.iand X0.here hx rfl (hb hby at_24) rfl ?_
    refine XS.i2c X0.here hx rfl (hb hby at_25) rfl ?_
    show own_S p e below s₁ (mkF m 26 #[iv p1, iv p2, iv p3, iv p4, iv p5, iv ca, iv cb, iv cc, .unset, .unset, .unset, .unset, .unset] [(.int ((p4 &&& (65535 : Int32)).toUInt32.toUInt16.toUInt32.toInt32))]) _
    rw [hc44]
    refine XS.istore X0.here hx rfl (hb hby at_26) rfl (l' := #[iv p1, iv p2, iv p3, iv p4, iv p5, iv ca, iv cb, iv cc, iv cd, .unset, .unset, .unset, .unset]) rfl ?_
    refine own_i X0 hx hby at_28 ?_
    refine XS.bipush X0.here hx rfl (hb hby at_30) ?_
    refine XS.iand X0.here hx rfl (hb hby at_32) rfl ?_
    refine own_k X0 hx hby at_33 ?_
    refine iremM X0 hx rfl (hb hby at_34) rfl (by decide) ?_
    show own_S p e below s₁ (mkF m 35 #[iv p1, iv p2, iv p3, iv p4, iv p5, iv ca, iv cb, iv cc, iv cd, .unset, .unset, .unset, .unset] [(.int ((p5 &&& (7 : Int32)) % (5 : Int32)))]) _
    rw [hc59]
    refine XS.istore X0.here hx rfl (hb hby at_35) rfl (l' := #[iv p1, iv p2, iv p3, iv p4, iv p5, iv ca, iv cb, iv cc, iv cd, iv (0 : Int32), .unset, .unset, .unset]) rfl ?_
    refine own_i X0 hx hby at_37 ?_
    refine own_i X0 hx hby at_39 ?_
    refine own_i X0 hx hby at_41 ?_
    refine own_i X0 hx hby at_43 ?_
    refine own_i X0 hx hby at_45 ?_
    refine st491 _ ?_
    refine XS.astore X491.here hx rfl (hb hby at_50) rfl rfl (l' := #[iv p1, iv p2, iv p3, iv p4, iv p5, iv ca, iv cb, iv cc, iv cd, iv (0 : Int32), rv b492, .unset, .unset]) rfl ?_
    refine own_a X491 hx hby at_52 ?_
    refine st495 _ ?_
    refine XS.astore X495.here hx rfl (hb hby at_57) rfl rfl (l' := #[iv p1, iv p2, iv p3, iv p4, iv p5, iv ca, iv cb, iv cc, iv cd, iv (0 : Int32), rv b492, rv b492, .unset]) rfl ?_
    refine own_a X495 hx hby at_59 ?_
    refine st496 _ ?_
    refine own_i X496 hx hby at_64 ?_
    refine own_cy (pc := 66) X496 hx hby at_66 (teq (rfl : (0 : Int32) = (0 : Int32))).1 71 ?_
    refine own_k X496 hx hby at_71 ?_
    refine XS.istore X496.here hx rfl (hb hby at_72) rfl (l' := #[iv p1, iv p2, iv p3, iv p4, iv p5, iv ca, iv cb, iv cc, iv cd, iv (0 : Int32), rv b492, rv b492, iv (0 : Int32)]) rfl ?_
    refine own_i X496 hx hby at_74 ?_
    refine own_iy (pc := 76) X496 hx hby at_76 (flt (Int32.lt_irrefl : ¬ ((0 : Int32) < (0 : Int32)))).2.2.2 115 ?_
    refine own_i X496 hx hby at_115 ?_
    refine own_k X496 hx hby at_117 ?_
    refine own_cy (pc := 118) X496 hx hby at_118 (flt (by decide : ¬ ((1 : Int32) < (0 : Int32)))).2.2.2 157 ?_
    refine own_i X496 hx hby at_157 ?_
    refine own_k X496 hx hby at_159 ?_
    refine own_cy (pc := 160) X496 hx hby at_160 (flt (by decide : ¬ ((2 : Int32) < (0 : Int32)))).2.2.2 199 ?_
    refine own_i X496 hx hby at_199 ?_
    refine own_k X496 hx hby at_201 ?_
    refine own_cy (pc := 202) X496 hx hby at_202 (flt (by decide : ¬ ((3 : Int32) < (0 : Int32)))).2.2.2 241 ?_
    refine own_i X496 hx hby at_241 ?_
    refine own_in X496 hx hby at_243 (teq (rfl : (0 : Int32) = (0 : Int32))).2 ?_
    refine own_a X496 hx hby at_246 ?_
    refine own_a X496 hx hby at_248 ?_
    refine Jvm.RoadKit.acmp (g := (mkF m 250 #[iv p1, iv p2, iv p3, iv p4, iv p5, iv ca, iv cb, iv cc, iv cd, iv (0 : Int32), rv b492, rv b492, iv (0 : Int32)] [(.ref b492), (.ref b492)])) X496 hx rfl rfl rfl (pc0 := 250) (pc' := 255) (same := true) rfl (hb hby at_250) rfl (decide_eq_true rfl) (by decide) (by decide) ?_
    refine own_k X496 hx hby at_255 ?_
    exact retN X496 hx (t := .boolean) hret (by simp) (hb hby at_256) hr
  · show Qrm0_0_0 Z w_CS p1 p2 p3 p4 p5 ca cb cc cd h0 _ T496.heap _
    exact ⟨rfl, N496⟩
  · rw [hs0]
    show CHr Z consts_1 s.vm h0 T496.vm T496.heap
    rw [e496]
    exact CR491.trans (CHv.at (s := s) (vm0 := T491.vm) X496 hZ491 (own_hEL hw) CR491.1)
set_option maxRecDepth 65536 in
set_option maxHeartbeats 40000000 in
theorem comes_1 {Post : Tables → Env → Array Value → State → Outcome → State → Prop} (hpost : ∀ tb e args s v u, (limb_1_1.after args s (.returned v) u = true ∧ limb_1_2.after args s (.returned v) u = true ∧ True) → ReturnedEndW s (.returned v) u (Jvm.fieldLocs frame_1_writes args s ++ Jvm.arrayLocs frame_1_arrays args s ++ Jvm.staticLocs frame_1_statics s) 32 1152 → Post tb e args s (.returned v) u) :
    ArmFor flags0 classFile x code maxLocals ret World_1 tables_1 room_1 Calls_1 rest_1 Pre_1 Post := by
  intro l hfl _ _ p e ha hc hk s m args below hf hA hF happ hP
  obtain ⟨hcalls, hrest, hpre⟩ := hP
  obtain ⟨-, -, -, hnamed, -, -, -, hat⟩ := (Spec.applies_iff hf).mp happ
  obtain ⟨hg, hn⟩ := and_e (Cond.before_iff.mp (show (Jvm.Cond.and given_1 narrow_1).before args s = true from hpre))
  obtain ⟨hcount, hG0⟩ := and_e hg
  obtain ⟨hA0, hG1⟩ := and_e hG0
  obtain ⟨hA1, hG2⟩ := and_e hG1
  obtain ⟨hA2, hG3⟩ := and_e hG2
  obtain ⟨hA3, hG4⟩ := and_e hG3
  have hA4 := hG4
  obtain ⟨v0, v1, v2, v3, v4, rfl⟩ : ∃ v0 v1 v2 v3 v4 : Value, args = #[v0, v1, v2, v3, v4] := by
    have hs : args.size = 5 := by simpa [Cond.value, given_1] using hcount
    obtain ⟨L⟩ := args
    match L, hs with
    | [v0, v1, v2, v3, v4], _ => exact ⟨v0, v1, v2, v3, v4, rfl⟩
  have hw := fun d (hd : d ∈ tables_1) => atoms_spec (ws := Jvm.Cond.code x code maxLocals ret :: tables_1) hat d (List.mem_cons_of_mem _ hd)
  obtain ⟨p1, ei0⟩ := is_v hA0
  obtain rfl : v0 = (.int p1) := Option.some.inj ei0
  obtain ⟨p2, ei1⟩ := is_v hA1
  obtain rfl : v1 = (.int p2) := Option.some.inj ei1
  obtain ⟨p3, ei2⟩ := is_v hA2
  obtain rfl : v2 = (.int p3) := Option.some.inj ei2
  obtain ⟨p4, ei3⟩ := is_v hA3
  obtain rfl : v3 = (.int p4) := Option.some.inj ei3
  obtain ⟨p5, ei4⟩ := is_v hA4
  obtain rfl : v4 = (.int p5) := Option.some.inj ei4
  obtain ⟨hsets, hown0⟩ := atoms_of _ (rest_1_c_eq ▸ (show rest_1_c.before _ s = true from hrest))
  obtain ⟨w_CS, ev_w_CS⟩ := is_v (Cond.before_iff.mp (hsets _ (List.mem_of_getElem? (i := 1) rfl)))
  have S_w_CS : Sta s s.heap "java/lang/String" "COMPACT_STRINGS" "Z" (.int w_CS) := Sta.start ev_w_CS (Or.inl (hsets _ (List.mem_of_getElem? (i := 0) rfl)))
  have hc1 : ¬ (w_CS = (0 : Int32)) := own_neI (not_v (Cond.before_iff.mp (hsets _ (List.mem_of_getElem? (i := 2) rfl)))) ev_w_CS
  obtain ⟨w_SF, ev_w_SF, R_w_SF⟩ := isR_v (Cond.before_iff.mp (hsets _ (List.mem_of_getElem? (i := 8) rfl)))
  have S_w_SF : Sta s s.heap "jdk/internal/util/Preconditions" "SIOOBE_FORMATTER" "Ljava/util/function/BiFunction;" w_SF := Sta.start ev_w_SF (Or.inl (hsets _ (List.mem_of_getElem? (i := 7) rfl)))
  have S_s__assertionsDisabled : Sta s s.heap "java/lang/StringUTF16" "$assertionsDisabled" "Z" (.int (1 : Int32)) := Sta.start (own_eqI (Cond.before_iff.mp (hsets _ (List.mem_of_getElem? (i := 12) rfl)))) (Or.inl (hsets _ (List.mem_of_getElem? (i := 11) rfl)))
  have S_s_HI_BYTE_SHIFT : Sta s s.heap "java/lang/StringUTF16" "HI_BYTE_SHIFT" "I" (.int (0 : Int32)) := Sta.start (own_eqI (Cond.before_iff.mp (hsets _ (List.mem_of_getElem? (i := 15) rfl)))) (Or.inl (hsets _ (List.mem_of_getElem? (i := 14) rfl)))
  have S_s_LO_BYTE_SHIFT : Sta s s.heap "java/lang/StringUTF16" "LO_BYTE_SHIFT" "I" (.int (8 : Int32)) := Sta.start (own_eqI (Cond.before_iff.mp (hsets _ (List.mem_of_getElem? (i := 18) rfl)))) (Or.inl (hsets _ (List.mem_of_getElem? (i := 17) rfl)))
  have hCH : CHv s consts_1 s.vm s.heap := CHv.start (own_hEL hw) (fun p hp => hcalls.1 p hp) (hsets _ (List.mem_of_getElem? (i := 2) rfl)) (own_w hw 20 rfl) (own_w hw 6 rfl)
  have hX0 : Ext s.heap s.heap := ⟨Nat.le_refl _, fun _ _ q => q⟩
  have key : MetFree l x (head1 (Jvm.Cond.code x code maxLocals ret :: tables_1) room_1) (fun a U => a = #[(.int p1), (.int p2), (.int p3), (.int p4), (.int p5)] ∧ s.Warmed39 U.vm ∧ U.heap = s.heap ∧ CHv s consts_1 U.vm s.heap) (fun _ _ _ _ _ => True) (fun _ U o U' => ∃ v L, o = .returned v ∧ (v = some (.int 1) ∧ Fr s.heap.size L) ∧ ReturnedEndW U o U' L room_1.cells room_1.slots) := by
    obtain ⟨ca, hc41⟩ : ∃ z, ((p1 &&& (65535 : Int32)).toUInt32.toUInt16.toUInt32.toInt32) = z := ⟨_, rfl⟩
    have hc46 : own_u16 ca := by rw [← hc41]; exact own_u16_i2c _
    obtain ⟨cb, hc42⟩ : ∃ z, ((p2 &&& (65535 : Int32)).toUInt32.toUInt16.toUInt32.toInt32) = z := ⟨_, rfl⟩
    have hc50 : own_u16 cb := by rw [← hc42]; exact own_u16_i2c _
    obtain ⟨cc, hc43⟩ : ∃ z, ((p3 &&& (65535 : Int32)).toUInt32.toUInt16.toUInt32.toInt32) = z := ⟨_, rfl⟩
    have hc17 : own_u16 cc := by rw [← hc43]; exact own_u16_i2c _
    obtain ⟨cd, hc44⟩ : ∃ z, ((p4 &&& (65535 : Int32)).toUInt32.toUInt16.toUInt32.toInt32) = z := ⟨_, rfl⟩
    have hc56 : own_u16 cd := by rw [← hc44]; exact own_u16_i2c _
    rcases own_n5 p5 with hc59 | hc45 | hc49 | hc53 | hc55
    · exact own_metW_drop (rm0_0_0 l s _ hw tables_1 w_CS p1 p2 p3 p4 p5 ca cb cc cd s.heap hX0 S_w_CS hc41 hc42 hc43 hc44 hc59 hc1)
    · rcases Classical.em ((own_lo ca) = ca) with hc48 | hc47
      · exact own_metW_of (rm0_1_1 l s _ hw tables_1 w_CS w_SF p1 p2 p3 p4 p5 ca cb cc cd s.heap hX0 S_w_CS S_s__assertionsDisabled S_s_HI_BYTE_SHIFT S_s_LO_BYTE_SHIFT R_w_SF S_w_SF hc41 hc42 hc43 hc44 hc45 hc46 hc1 hc48)
      · exact own_metW_of (rm0_1_0 l s _ hw tables_1 w_CS w_SF p1 p2 p3 p4 p5 ca cb cc cd s.heap hX0 S_w_CS S_s__assertionsDisabled S_s_HI_BYTE_SHIFT S_s_LO_BYTE_SHIFT R_w_SF S_w_SF hc41 hc42 hc43 hc44 hc45 hc46 hc1 hc47)
    · rcases Classical.em ((own_lo ca) = ca) with hc48 | hc47
      · rcases Classical.em ((own_lo cb) = cb) with hc52 | hc51
        · exact own_metW_of (rm0_2_2 l s _ hw tables_1 w_CS w_SF p1 p2 p3 p4 p5 ca cb cc cd s.heap hX0 S_w_CS S_s__assertionsDisabled S_s_HI_BYTE_SHIFT S_s_LO_BYTE_SHIFT R_w_SF S_w_SF hc41 hc42 hc43 hc44 hc49 hc46 hc50 hc1 hc48 hc52)
        · exact own_metW_of (rm0_2_1 l s _ hw tables_1 w_CS w_SF p1 p2 p3 p4 p5 ca cb cc cd s.heap hX0 S_w_CS S_s__assertionsDisabled S_s_HI_BYTE_SHIFT S_s_LO_BYTE_SHIFT R_w_SF S_w_SF hc41 hc42 hc43 hc44 hc49 hc46 hc50 hc1 hc51 hc48)
      · exact own_metW_of (rm0_2_0 l s _ hw tables_1 w_CS w_SF p1 p2 p3 p4 p5 ca cb cc cd s.heap hX0 S_w_CS S_s__assertionsDisabled S_s_HI_BYTE_SHIFT S_s_LO_BYTE_SHIFT R_w_SF S_w_SF hc41 hc42 hc43 hc44 hc49 hc46 hc50 hc1 hc47)
    · rcases Classical.em ((own_lo ca) = ca) with hc48 | hc47
      · rcases Classical.em ((own_lo cb) = cb) with hc52 | hc51
        · rcases Classical.em ((own_lo cc) = cc) with hc36 | hc54
          · exact own_metW_of (rm0_3_3 l s _ hw tables_1 w_CS w_SF p1 p2 p3 p4 p5 ca cb cc cd s.heap hX0 S_w_CS S_s__assertionsDisabled S_s_HI_BYTE_SHIFT S_s_LO_BYTE_SHIFT R_w_SF S_w_SF hc41 hc42 hc43 hc44 hc53 hc46 hc50 hc17 hc1 hc48 hc52 hc36)
          · exact own_metW_of (rm0_3_2 l s _ hw tables_1 w_CS w_SF p1 p2 p3 p4 p5 ca cb cc cd s.heap hX0 S_w_CS S_s__assertionsDisabled S_s_HI_BYTE_SHIFT S_s_LO_BYTE_SHIFT R_w_SF S_w_SF hc41 hc42 hc43 hc44 hc53 hc46 hc50 hc17 hc1 hc54 hc48 hc52)
        · exact own_metW_of (rm0_3_1 l s _ hw tables_1 w_CS w_SF p1 p2 p3 p4 p5 ca cb cc cd s.heap hX0 S_w_CS S_s__assertionsDisabled S_s_HI_BYTE_SHIFT S_s_LO_BYTE_SHIFT R_w_SF S_w_SF hc41 hc42 hc43 hc44 hc53 hc46 hc50 hc17 hc1 hc51 hc48)
      · exact own_metW_of (rm0_3_0 l s _ hw tables_1 w_CS w_SF p1 p2 p3 p4 p5 ca cb cc cd s.heap hX0 S_w_CS S_s__assertionsDisabled S_s_HI_BYTE_SHIFT S_s_LO_BYTE_SHIFT R_w_SF S_w_SF hc41 hc42 hc43 hc44 hc53 hc46 hc50 hc17 hc1 hc47)
    · rcases Classical.em ((own_lo ca) = ca) with hc48 | hc47
      · rcases Classical.em ((own_lo cb) = cb) with hc52 | hc51
        · rcases Classical.em ((own_lo cc) = cc) with hc36 | hc54
          · rcases Classical.em ((own_lo cd) = cd) with hc58 | hc57
            · exact own_metW_of (rm0_4_4 l s _ hw tables_1 w_CS w_SF p1 p2 p3 p4 p5 ca cb cc cd s.heap hX0 S_w_CS S_s__assertionsDisabled S_s_HI_BYTE_SHIFT S_s_LO_BYTE_SHIFT R_w_SF S_w_SF hc41 hc42 hc43 hc44 hc55 hc46 hc50 hc17 hc56 hc1 hc48 hc52 hc36 hc58)
            · exact own_metW_of (rm0_4_3 l s _ hw tables_1 w_CS w_SF p1 p2 p3 p4 p5 ca cb cc cd s.heap hX0 S_w_CS S_s__assertionsDisabled S_s_HI_BYTE_SHIFT S_s_LO_BYTE_SHIFT R_w_SF S_w_SF hc41 hc42 hc43 hc44 hc55 hc46 hc50 hc17 hc56 hc1 hc57 hc48 hc52 hc36)
          · exact own_metW_of (rm0_4_2 l s _ hw tables_1 w_CS w_SF p1 p2 p3 p4 p5 ca cb cc cd s.heap hX0 S_w_CS S_s__assertionsDisabled S_s_HI_BYTE_SHIFT S_s_LO_BYTE_SHIFT R_w_SF S_w_SF hc41 hc42 hc43 hc44 hc55 hc46 hc50 hc17 hc56 hc1 hc54 hc48 hc52)
        · exact own_metW_of (rm0_4_1 l s _ hw tables_1 w_CS w_SF p1 p2 p3 p4 p5 ca cb cc cd s.heap hX0 S_w_CS S_s__assertionsDisabled S_s_HI_BYTE_SHIFT S_s_LO_BYTE_SHIFT R_w_SF S_w_SF hc41 hc42 hc43 hc44 hc55 hc46 hc50 hc17 hc56 hc1 hc51 hc48)
      · exact own_metW_of (rm0_4_0 l s _ hw tables_1 w_CS w_SF p1 p2 p3 p4 p5 ca cb cc cd s.heap hX0 S_w_CS S_s__assertionsDisabled S_s_HI_BYTE_SHIFT S_s_LO_BYTE_SHIFT R_w_SF S_w_SF hc41 hc42 hc43 hc44 hc55 hc46 hc50 hc17 hc56 hc1 hc47)
  obtain ⟨n, o, h1, h2, h3, _, L, rfl, ⟨rfl, N⟩, hq⟩ := key p e ha hc hk s m _ below hf ((Spec.applies_iff_loose hf).mp happ).1 ⟨rfl, State.Warmed39.refl s, rfl, hCH⟩ trivial
  refine ⟨n, _, h1, h2, h3, hpost _ _ _ _ _ _ ⟨Cond.after_iff.mpr rfl, Cond.after_iff.mpr (eq_i res_at (Term.int_eval (1)) rfl), trivial⟩ ⟨hq.1, hq.2.1, hq.2.2.1, (hq.2.2.2.sift fun y hy => Or.inr (N y hy)).mono (by decide) (by decide)⟩⟩
theorem main_1_1 : Claimed_1_1 := comes_1 fun _ _ _ _ _ _ h hF => ⟨h.1, hF⟩
theorem main_1_2 : Claimed_1_2 := comes_1 fun _ _ _ _ _ _ h hF => ⟨h.2.1, hF⟩
end Jvm.Pilot.@@N@@
namespace Jvm.Pilot.@@N@@
open Jvm Jvm.ClassFile Sem Op Lib Jvm.Free Jvm.Stand Jvm.Pilot.@@N@@.Jvm.D
/-! MADE BY PROGRAM (witnessworld.py) out of the Statement's table words and the real class files: 20 classes; the members and pool entries that the words name. The judged class is class 1, her method 4. -/
namespace start1
open Jvm.ClassFile
def u (s : String) : CpInfo := .utf8 (stringToUtf16 s)
/-- a pool by its gaps: so many unusable entries, then the entry; so many at the end -/
def gap : Nat → List CpInfo → List CpInfo
  | 0, r => r
  | n + 1, r => .unusable :: gap n r
def poolList (es : List (Nat × CpInfo)) (last : Nat) : List CpInfo := es.foldr (fun e r => gap e.1 (e.2 :: r)) (gap last [])
def pool (es : List (Nat × CpInfo)) (last : Nat) : Array CpInfo := ⟨poolList es last⟩
def fileOf (pool : Array CpInfo) (this : Nat) (attrs : Array Attribute := #[]) (ms : Array MethodInfo := #[]) (fl : Nat := 33) (sup : Nat := 0) (ifs : Array Nat := #[]) (fds : Array FieldInfo := #[]) : ClassFile where
  minorVersion := 0
  majorVersion := 65
  constantPool := pool
  accessFlags := fl
  thisClass := this
  superClass := sup
  interfaces := ifs
  fields := fds
  methods := ms
  attributes := attrs
def plain (name : String) (sup : Option ClassId) : Class where
  name := name
  kind := .ordinary
  loader := none
  accessFlags := 33
  super := sup
  interfaces := #[]
  cf := none
  fields := #[]
  methods := #[]
  instanceTypes := #[]
  staticTypes := #[]
  resolved := #[]
  callSites := []
  init := .initialized
  statics := none
  mirror := none

def pool0 : Array CpInfo := pool [(5, u "<init>"), (0, u "()V"), (1, .class_ 10), (1, u "java/lang/Object")] 113

def k0c0 : Code := { maxStack := 0, maxLocals := 1, code := object_method_1_code, exceptionTable := #[], attributes := #[] }
def k0m0 : Method := { name := "<init>", desc := "()V", sig := { parameters := [], returnType := none }, accessFlags := 1, code := some k0c0 }
/-- java/lang/Object -/
def k0 : Class := { plain "java/lang/Object" none with
  accessFlags := 33
  interfaces := #[]
  cf := some (fileOf pool0 8 #[] #[{ accessFlags := 1, nameIndex := 5, descriptorIndex := 6, attributes := #[] }] 33 0 #[] #[])
  fields := #[]
  methods := #[k0m0]
  instanceTypes := #[]
  staticTypes := #[]
  resolved := Array.replicate 124 none
  statics := none }

def pool1 : Array CpInfo := pool [(2, .class_ 4), (1, u "java/lang/Object"), (0, u "<init>"), (0, u "()V"), (0, .methodref 8 9), (0, .class_ 10), (0, .nameAndType 11 12), (0, u "com/example/zia_tally/ziatally/tabulation/WordLowerCasePinLaw"), (0, u "isCap"), (0, u "(C)Z"), (0, .class_ 14), (0, u "java/lang/String"), (0, .methodref 13 16), (0, .nameAndType 5 17), (0, u "([C)V"), (0, .integer 65535), (0, .methodref 8 20), (0, .nameAndType 21 22), (0, u "make"), (0, u "(ICCCC)Ljava/lang/String;"), (0, .methodref 24 25), (0, .class_ 26), (0, .nameAndType 27 28), (0, u "com/example/zia_tally/ziatally/tabulation/Word"), (0, u "lowerCase"), (0, u "(Ljava/lang/String;)Ljava/lang/String;"), (0, .methodref 13 30), (0, .nameAndType 31 32), (0, u "length"), (0, u "()I"), (0, .methodref 13 34), (0, .nameAndType 35 36), (0, u "charAt"), (0, u "(I)C"), (0, .methodref 8 38), (0, .nameAndType 39 40), (0, u "ref"), (0, u "(C)C"), (3, u "law"), (0, u "(IIIII)Z")] 2

def k1m0 : Method := { name := "<init>", desc := "()V", sig := { parameters := [], returnType := none }, accessFlags := 1, code := none }
def k1c1 : Code := { maxStack := 2, maxLocals := 1, code := method_2_code, exceptionTable := #[], attributes := #[] }
def k1m1 : Method := { name := "isCap", desc := "(C)Z", sig := { parameters := [.char], returnType := some .boolean }, accessFlags := 10, code := some k1c1 }
def k1c2 : Code := { maxStack := 2, maxLocals := 1, code := method_3_code, exceptionTable := #[], attributes := #[] }
def k1m2 : Method := { name := "ref", desc := "(C)C", sig := { parameters := [.char], returnType := some .char }, accessFlags := 10, code := some k1c2 }
def k1c3 : Code := { maxStack := 6, maxLocals := 5, code := method_4_code, exceptionTable := #[], attributes := #[] }
def k1m3 : Method := { name := "make", desc := "(ICCCC)Ljava/lang/String;", sig := { parameters := [.int, .char, .char, .char, .char], returnType := some (.object "java/lang/String") }, accessFlags := 10, code := some k1c3 }
def k1c4 : Code := { maxStack := 5, maxLocals := 13, code := code, exceptionTable := #[], attributes := #[] }
def k1m4 : Method := { name := "law", desc := "(IIIII)Z", sig := { parameters := [.int, .int, .int, .int, .int], returnType := some .boolean }, accessFlags := 9, code := some k1c4 }
/-- com/example/zia_tally/ziatally/tabulation/WordLowerCasePinLaw -/
def k1 : Class := { plain "com/example/zia_tally/ziatally/tabulation/WordLowerCasePinLaw" (some 0) with
  accessFlags := 49
  interfaces := #[]
  cf := some (fileOf pool1 8 #[] #[{ accessFlags := 1, nameIndex := 5, descriptorIndex := 6, attributes := #[] }, { accessFlags := 10, nameIndex := 11, descriptorIndex := 12, attributes := #[] }, { accessFlags := 10, nameIndex := 39, descriptorIndex := 40, attributes := #[] }, { accessFlags := 10, nameIndex := 21, descriptorIndex := 22, attributes := #[] }, { accessFlags := 9, nameIndex := 44, descriptorIndex := 45, attributes := #[] }] 49 2 #[] #[])
  fields := #[]
  methods := #[k1m0, k1m1, k1m2, k1m3, k1m4]
  instanceTypes := #[]
  staticTypes := #[]
  resolved := Array.replicate 48 none
  statics := none }

def pool2 : Array CpInfo := pool [(1, .class_ 2), (0, u "java/io/Serializable"), (0, .class_ 4), (0, u "java/lang/Object")] 2

/-- java/io/Serializable -/
def k2 : Class := { plain "java/io/Serializable" (some 0) with
  accessFlags := 1537
  interfaces := #[]
  cf := some (fileOf pool2 1 #[] #[] 1537 3 #[] #[])
  fields := #[]
  methods := #[]
  instanceTypes := #[]
  staticTypes := #[]
  resolved := Array.replicate 7 none
  statics := none }

def pool3 : Array CpInfo := pool [(1, .class_ 2), (0, u "java/lang/Comparable"), (0, .class_ 4), (0, u "java/lang/Object")] 7

/-- java/lang/Comparable -/
def k3 : Class := { plain "java/lang/Comparable" (some 0) with
  accessFlags := 1537
  interfaces := #[]
  cf := some (fileOf pool3 1 #[] #[] 1537 3 #[] #[])
  fields := #[]
  methods := #[]
  instanceTypes := #[]
  staticTypes := #[]
  resolved := Array.replicate 12 none
  statics := none }

def pool4 : Array CpInfo := pool [(2, .class_ 4), (1, u "java/lang/CharSequence"), (42, .class_ 48), (0, u "java/lang/CharSequence$1CodePointIterator"), (10, .class_ 60), (0, u "java/lang/CharSequence$1CharIterator"), (5, .class_ 67), (0, u "java/lang/Object")] 63

/-- java/lang/CharSequence -/
def k4 : Class := { plain "java/lang/CharSequence" (some 0) with
  accessFlags := 1537
  interfaces := #[]
  cf := some (fileOf pool4 2 #[.nestMembers #[47, 59]] #[] 1537 66 #[] #[])
  fields := #[]
  methods := #[]
  instanceTypes := #[]
  staticTypes := #[]
  resolved := Array.replicate 131 none
  statics := none }

def pool5 : Array CpInfo := pool [(1, .class_ 2), (0, u "java/lang/constant/Constable"), (0, .class_ 4), (0, u "java/lang/Object")] 6

/-- java/lang/constant/Constable -/
def k5 : Class := { plain "java/lang/constant/Constable" (some 0) with
  accessFlags := 1537
  interfaces := #[]
  cf := some (fileOf pool5 1 #[] #[] 1537 3 #[] #[])
  fields := #[]
  methods := #[]
  instanceTypes := #[]
  staticTypes := #[]
  resolved := Array.replicate 11 none
  statics := none }

def pool6 : Array CpInfo := pool [(1, .class_ 2), (0, u "java/lang/constant/ConstantDesc"), (0, .class_ 4), (0, u "java/lang/Object")] 32

/-- java/lang/constant/ConstantDesc -/
def k6 : Class := { plain "java/lang/constant/ConstantDesc" (some 0) with
  accessFlags := 1537
  interfaces := #[]
  cf := some (fileOf pool6 1 #[] #[] 1537 3 #[] #[])
  fields := #[]
  methods := #[]
  instanceTypes := #[]
  staticTypes := #[]
  resolved := Array.replicate 37 none
  statics := none }

def pool7 : Array CpInfo := pool [(1, .methodref 2 3), (0, .class_ 4), (0, .nameAndType 5 6), (0, u "java/lang/Object"), (0, u "<init>"), (0, u "()V"), (0, .string 8), (0, u ""), (0, .fieldref 10 11), (0, .class_ 12), (0, .nameAndType 13 14), (0, u "java/lang/String"), (0, u "value"), (0, u "[B"), (0, .fieldref 10 16), (0, .nameAndType 17 18), (0, u "coder"), (0, u "B"), (2, u "hash"), (0, u "I"), (2, u "hashIsZero"), (0, u "Z"), (0, .methodref 10 28), (0, .nameAndType 5 29), (0, u "([CIILjava/lang/Void;)V"), (6, u "checkBoundsOffCount"), (0, u "(III)I"), (0, .fieldref 10 39), (0, .nameAndType 40 26), (0, u "COMPACT_STRINGS"), (1, .class_ 44), (1, u "java/lang/StringUTF16"), (0, u "compress"), (1, .methodref 42 48), (0, .nameAndType 49 50), (0, u "coderFromArrayLen"), (0, u "([BI)B"), (56, .class_ 109), (1, u "java/lang/StringLatin1"), (32, u "()Z"), (34, .methodref 42 178), (0, .nameAndType 45 179), (0, u "([CII)[B"), (119, .methodref 107 300), (0, .nameAndType 301 302), (0, u "toChars"), (0, u "([B)[C"), (0, .methodref 42 300), (30, u "()I"), (0, .methodref 10 336), (0, .nameAndType 17 337), (0, u "()B"), (25, u "([BI)C"), (27, u "(II)V"), (35, u "(I)C"), (64, .methodref 10 493), (0, .nameAndType 494 142), (0, u "isLatin1"), (0, .methodref 107 496), (0, .nameAndType 497 363), (0, u "charAt"), (0, .methodref 42 496), (2, u "checkIndex"), (5, u "length"), (67, .class_ 576), (0, u "java/lang/CharSequence"), (22, u "CASE_INSENSITIVE_ORDER"), (0, u "Ljava/util/Comparator;"), (354, u "toCharArray"), (0, u "()[C"), (53, u "([C)V"), (42, .fieldref 1054 1055), (0, .class_ 1056), (0, .nameAndType 1057 1058), (0, u "jdk/internal/util/Preconditions"), (0, u "SIOOBE_FORMATTER"), (0, u "Ljava/util/function/BiFunction;"), (0, .methodref 1054 1060), (0, .nameAndType 501 1061), (0, u "(IILjava/util/function/BiFunction;)I"), (2, u "(IIILjava/util/function/BiFunction;)I"), (0, .methodref 1054 1066), (0, .nameAndType 1067 1064), (0, u "checkFromIndexSize"), (33, u "serialPersistentFields"), (0, u "[Ljava/io/ObjectStreamField;"), (0, .class_ 1104), (0, u "java/lang/String$CaseInsensitiveComparator"), (1, .class_ 1107), (0, u "java/io/Serializable"), (0, .class_ 1109), (0, u "java/lang/Comparable"), (0, .class_ 1111), (0, u "java/lang/constant/Constable"), (0, .class_ 1113), (0, u "java/lang/constant/ConstantDesc"), (2, u "serialVersionUID"), (0, u "J"), (3, u "REPL"), (0, u "C"), (2, u "LATIN1"), (1, u "UTF16")] 323

def k7m0 : Method := { name := "<init>", desc := "()V", sig := { parameters := [], returnType := none }, accessFlags := 1, code := none }
def k7c1 : Code := { maxStack := 5, maxLocals := 2, code := jdk_42_method_3_code, exceptionTable := #[], attributes := #[] }
def k7m1 : Method := { name := "<init>", desc := "([C)V", sig := { parameters := [(.array .char)], returnType := none }, accessFlags := 1, code := some k7c1 }
def k7c2 : Code := { maxStack := 2, maxLocals := 1, code := jdk_42_method_54_code, exceptionTable := #[], attributes := #[] }
def k7m2 : Method := { name := "length", desc := "()I", sig := { parameters := [], returnType := some .int }, accessFlags := 1, code := some k7c2 }
def k7c3 : Code := { maxStack := 2, maxLocals := 2, code := jdk_42_method_56_code, exceptionTable := #[], attributes := #[] }
def k7m3 : Method := { name := "charAt", desc := "(I)C", sig := { parameters := [.int], returnType := some .char }, accessFlags := 1, code := some k7c3 }
def k7c4 : Code := { maxStack := 1, maxLocals := 1, code := jdk_42_method_129_code, exceptionTable := #[], attributes := #[] }
def k7m4 : Method := { name := "toCharArray", desc := "()[C", sig := { parameters := [], returnType := some (.array .char) }, accessFlags := 1, code := some k7c4 }
def k7c5 : Code := { maxStack := 4, maxLocals := 6, code := jdk_42_method_149_code, exceptionTable := #[], attributes := #[] }
def k7m5 : Method := { name := "<init>", desc := "([CIILjava/lang/Void;)V", sig := { parameters := [(.array .char), .int, .int, (.object "java/lang/Void")], returnType := none }, accessFlags := 2, code := some k7c5 }
def k7c6 : Code := { maxStack := 1, maxLocals := 1, code := jdk_42_method_152_code, exceptionTable := #[], attributes := #[] }
def k7m6 : Method := { name := "coder", desc := "()B", sig := { parameters := [], returnType := some .byte }, accessFlags := 0, code := some k7c6 }
def k7c7 : Code := { maxStack := 1, maxLocals := 1, code := jdk_42_method_154_code, exceptionTable := #[], attributes := #[] }
def k7m7 : Method := { name := "isLatin1", desc := "()Z", sig := { parameters := [], returnType := some .boolean }, accessFlags := 0, code := some k7c7 }
def k7c8 : Code := { maxStack := 3, maxLocals := 2, code := jdk_42_method_155_code, exceptionTable := #[], attributes := #[] }
def k7m8 : Method := { name := "checkIndex", desc := "(II)V", sig := { parameters := [.int, .int], returnType := none }, accessFlags := 8, code := some k7c8 }
def k7c9 : Code := { maxStack := 4, maxLocals := 3, code := jdk_42_method_157_code, exceptionTable := #[], attributes := #[] }
def k7m9 : Method := { name := "checkBoundsOffCount", desc := "(III)I", sig := { parameters := [.int, .int, .int], returnType := some .int }, accessFlags := 8, code := some k7c9 }
/-- java/lang/String -/
def k7 : Class := { plain "java/lang/String" (some 0) with
  accessFlags := 49
  interfaces := #[2, 3, 4, 5, 6]
  cf := some (fileOf pool7 10 #[.nestMembers #[1103]] #[{ accessFlags := 1, nameIndex := 5, descriptorIndex := 6, attributes := #[] }, { accessFlags := 1, nameIndex := 5, descriptorIndex := 1010, attributes := #[] }, { accessFlags := 1, nameIndex := 507, descriptorIndex := 334, attributes := #[] }, { accessFlags := 1, nameIndex := 497, descriptorIndex := 427, attributes := #[] }, { accessFlags := 1, nameIndex := 955, descriptorIndex := 956, attributes := #[] }, { accessFlags := 2, nameIndex := 5, descriptorIndex := 29, attributes := #[] }, { accessFlags := 0, nameIndex := 17, descriptorIndex := 337, attributes := #[] }, { accessFlags := 0, nameIndex := 494, descriptorIndex := 142, attributes := #[] }, { accessFlags := 8, nameIndex := 501, descriptorIndex := 391, attributes := #[] }, { accessFlags := 8, nameIndex := 36, descriptorIndex := 37, attributes := #[] }] 49 2 #[1106, 1108, 575, 1110, 1112] #[{ accessFlags := 18, nameIndex := 13, descriptorIndex := 14, attributes := #[] }, { accessFlags := 18, nameIndex := 17, descriptorIndex := 18, attributes := #[] }, { accessFlags := 2, nameIndex := 21, descriptorIndex := 22, attributes := #[] }, { accessFlags := 2, nameIndex := 25, descriptorIndex := 26, attributes := #[] }, { accessFlags := 26, nameIndex := 1116, descriptorIndex := 1117, attributes := #[] }, { accessFlags := 24, nameIndex := 40, descriptorIndex := 26, attributes := #[] }, { accessFlags := 26, nameIndex := 1101, descriptorIndex := 1102, attributes := #[] }, { accessFlags := 26, nameIndex := 1121, descriptorIndex := 1122, attributes := #[] }, { accessFlags := 25, nameIndex := 599, descriptorIndex := 600, attributes := #[] }, { accessFlags := 24, nameIndex := 1125, descriptorIndex := 18, attributes := #[] }, { accessFlags := 24, nameIndex := 1127, descriptorIndex := 18, attributes := #[] }])
  fields := #[{ name := "value", type := (.array .byte), accessFlags := 18, slot := 0, constantValue := 0 }, { name := "coder", type := .byte, accessFlags := 18, slot := 1, constantValue := 0 }, { name := "hash", type := .int, accessFlags := 2, slot := 2, constantValue := 0 }, { name := "hashIsZero", type := .boolean, accessFlags := 2, slot := 3, constantValue := 0 }, { name := "serialVersionUID", type := .long, accessFlags := 26, slot := 0, constantValue := 0 }, { name := "COMPACT_STRINGS", type := .boolean, accessFlags := 24, slot := 1, constantValue := 0 }, { name := "serialPersistentFields", type := (.array (.object "java/io/ObjectStreamField")), accessFlags := 26, slot := 2, constantValue := 0 }, { name := "REPL", type := .char, accessFlags := 26, slot := 3, constantValue := 0 }, { name := "CASE_INSENSITIVE_ORDER", type := (.object "java/util/Comparator"), accessFlags := 25, slot := 4, constantValue := 0 }, { name := "LATIN1", type := .byte, accessFlags := 24, slot := 5, constantValue := 0 }, { name := "UTF16", type := .byte, accessFlags := 24, slot := 6, constantValue := 0 }]
  methods := #[k7m0, k7m1, k7m2, k7m3, k7m4, k7m5, k7m6, k7m7, k7m8, k7m9]
  instanceTypes := #[(.array .byte), .byte, .int, .boolean]
  staticTypes := #[.long, .boolean, (.array (.object "java/io/ObjectStreamField")), .char, (.object "java/util/Comparator"), .byte, .byte]
  resolved := Array.replicate 1451 none
  statics := some 0 }

def pool8 : Array CpInfo := pool [(2, .class_ 4), (1, u "java/lang/Object"), (0, u "<init>"), (0, u "()V"), (0, .methodref 8 9), (0, .class_ 10), (0, .nameAndType 11 12), (0, u "java/lang/String"), (0, u "length"), (0, u "()I"), (0, .methodref 8 14), (0, .nameAndType 15 16), (0, u "charAt"), (0, u "(I)C"), (0, .methodref 18 19), (0, .class_ 20), (0, .nameAndType 21 22), (0, u "com/example/zia_tally/ziatally/tabulation/Word"), (0, u "lowerCase"), (0, u "(C)C"), (0, .methodref 8 24), (0, .nameAndType 25 26), (0, u "toCharArray"), (0, u "()[C"), (0, .methodref 8 28), (0, .nameAndType 5 29), (0, u "([C)V"), (5, u "(Ljava/lang/String;)Ljava/lang/String;")] 4

def k8m0 : Method := { name := "<init>", desc := "()V", sig := { parameters := [], returnType := none }, accessFlags := 2, code := none }
def k8c1 : Code := { maxStack := 4, maxLocals := 4, code := prog_38_method_3_code, exceptionTable := #[], attributes := #[] }
def k8m1 : Method := { name := "lowerCase", desc := "(Ljava/lang/String;)Ljava/lang/String;", sig := { parameters := [(.object "java/lang/String")], returnType := some (.object "java/lang/String") }, accessFlags := 8, code := some k8c1 }
def k8c2 : Code := { maxStack := 2, maxLocals := 1, code := prog_38_method_4_code, exceptionTable := #[], attributes := #[] }
def k8m2 : Method := { name := "lowerCase", desc := "(C)C", sig := { parameters := [.char], returnType := some .char }, accessFlags := 8, code := some k8c2 }
/-- com/example/zia_tally/ziatally/tabulation/Word -/
def k8 : Class := { plain "com/example/zia_tally/ziatally/tabulation/Word" (some 0) with
  accessFlags := 48
  interfaces := #[]
  cf := some (fileOf pool8 18 #[] #[{ accessFlags := 2, nameIndex := 5, descriptorIndex := 6, attributes := #[] }, { accessFlags := 8, nameIndex := 21, descriptorIndex := 35, attributes := #[] }, { accessFlags := 8, nameIndex := 21, descriptorIndex := 22, attributes := #[] }] 48 2 #[] #[])
  fields := #[]
  methods := #[k8m0, k8m1, k8m2]
  instanceTypes := #[]
  staticTypes := #[]
  resolved := Array.replicate 40 none
  statics := none }

def pool9 : Array CpInfo := pool [(3, .class_ 4), (0, u "java/lang/String"), (1, .class_ 8), (1, u "java/lang/Object"), (0, u "<init>"), (0, u "()V"), (0, .methodref 12 13), (0, .class_ 14), (0, .nameAndType 15 16), (0, u "java/lang/StringUTF16"), (0, u "newBytesLength"), (0, u "(I)I"), (3, .integer 1073741823), (23, .fieldref 12 45), (0, .nameAndType 46 47), (0, u "$assertionsDisabled"), (0, u "Z"), (0, .methodref 12 49), (0, .nameAndType 50 51), (0, u "length"), (0, u "([B)I"), (7, .fieldref 12 60), (0, .nameAndType 61 62), (0, u "HI_BYTE_SHIFT"), (0, u "I"), (0, .fieldref 12 64), (0, .nameAndType 65 62), (0, u "LO_BYTE_SHIFT"), (1, .methodref 12 68), (0, .nameAndType 69 70), (0, u "checkIndex"), (0, u "(I[B)V"), (0, .methodref 12 72), (0, .nameAndType 73 74), (0, u "getChar"), (0, u "([BI)C"), (24, u "(II[B)V"), (3, .methodref 12 104), (0, .nameAndType 105 106), (0, u "getChars"), (0, u "([BII[CI)V"), (0, .methodref 12 108), (0, .nameAndType 109 110), (0, u "newBytesFor"), (0, u "(I)[B"), (0, .methodref 12 112), (0, .nameAndType 113 114), (0, u "putChar"), (0, u "([BII)V"), (0, .methodref 12 116), (0, .nameAndType 117 118), (0, u "compress"), (0, u "([CI[BII)I"), (0, .methodref 12 120), (0, .nameAndType 121 122), (0, u "toBytes"), (0, u "([CII)[B"), (50, .methodref 12 174), (0, .nameAndType 175 99), (0, u "checkBoundsOffCount"), (85, u "coderFromArrayLen"), (0, u "([BI)B"), (18, u "(III)I"), (60, u "toChars"), (26, .class_ 371), (1, u "java/lang/StringUTF16$LinesSpliterator"), (20, u "charAt"), (21, .methodref 3 415), (0, .nameAndType 69 416), (0, u "(II)V"), (2, .methodref 3 420), (0, .nameAndType 175 281), (9, u "MAX_LENGTH"), (23, u "([B)[C"), (172, .class_ 628), (0, u "java/lang/StringUTF16$CodePointsSpliterator"), (0, .class_ 630), (0, u "java/lang/StringUTF16$CharsSpliterator")] 4

def k9m0 : Method := { name := "<init>", desc := "()V", sig := { parameters := [], returnType := none }, accessFlags := 0, code := none }
def k9c1 : Code := { maxStack := 1, maxLocals := 1, code := jdk_52_method_2_code, exceptionTable := #[], attributes := #[] }
def k9m1 : Method := { name := "newBytesFor", desc := "(I)[B", sig := { parameters := [.int], returnType := some (.array .byte) }, accessFlags := 9, code := some k9c1 }
def k9c2 : Code := { maxStack := 4, maxLocals := 1, code := jdk_52_method_3_code, exceptionTable := #[], attributes := #[] }
def k9m2 : Method := { name := "newBytesLength", desc := "(I)I", sig := { parameters := [.int], returnType := some .int }, accessFlags := 9, code := some k9c2 }
def k9c3 : Code := { maxStack := 4, maxLocals := 3, code := jdk_52_method_4_code, exceptionTable := #[], attributes := #[] }
def k9m3 : Method := { name := "putChar", desc := "([BII)V", sig := { parameters := [(.array .byte), .int, .int], returnType := none }, accessFlags := 8, code := some k9c3 }
def k9c4 : Code := { maxStack := 3, maxLocals := 2, code := jdk_52_method_5_code, exceptionTable := #[], attributes := #[] }
def k9m4 : Method := { name := "getChar", desc := "([BI)C", sig := { parameters := [(.array .byte), .int], returnType := some .char }, accessFlags := 8, code := some k9c4 }
def k9c5 : Code := { maxStack := 2, maxLocals := 1, code := jdk_52_method_6_code, exceptionTable := #[], attributes := #[] }
def k9m5 : Method := { name := "length", desc := "([B)I", sig := { parameters := [(.array .byte)], returnType := some .int }, accessFlags := 9, code := some k9c5 }
def k9c6 : Code := { maxStack := 5, maxLocals := 2, code := jdk_52_method_13_code, exceptionTable := #[], attributes := #[] }
def k9m6 : Method := { name := "toChars", desc := "([B)[C", sig := { parameters := [(.array .byte)], returnType := some (.array .char) }, accessFlags := 9, code := some k9c6 }
def k9c7 : Code := { maxStack := 4, maxLocals := 5, code := jdk_52_method_14_code, exceptionTable := #[], attributes := #[] }
def k9m7 : Method := { name := "toBytes", desc := "([CII)[B", sig := { parameters := [(.array .char), .int, .int], returnType := some (.array .byte) }, accessFlags := 9, code := some k9c7 }
def k9c8 : Code := { maxStack := 2, maxLocals := 2, code := jdk_52_method_15_code, exceptionTable := #[], attributes := #[] }
def k9m8 : Method := { name := "coderFromArrayLen", desc := "([BI)B", sig := { parameters := [(.array .byte), .int], returnType := some .byte }, accessFlags := 8, code := some k9c8 }
def k9c9 : Code := { maxStack := 5, maxLocals := 6, code := jdk_52_method_16_code, exceptionTable := #[], attributes := #[] }
def k9m9 : Method := { name := "compress", desc := "([CII)[B", sig := { parameters := [(.array .char), .int, .int], returnType := some (.array .byte) }, accessFlags := 9, code := some k9c9 }
def k9c10 : Code := { maxStack := 3, maxLocals := 7, code := jdk_52_method_21_code, exceptionTable := #[], attributes := #[] }
def k9m10 : Method := { name := "compress", desc := "([CI[BII)I", sig := { parameters := [(.array .char), .int, (.array .byte), .int, .int], returnType := some .int }, accessFlags := 9, code := some k9c10 }
def k9c11 : Code := { maxStack := 4, maxLocals := 6, code := jdk_52_method_26_code, exceptionTable := #[], attributes := #[] }
def k9m11 : Method := { name := "getChars", desc := "([BII[CI)V", sig := { parameters := [(.array .byte), .int, .int, (.array .char), .int], returnType := none }, accessFlags := 9, code := some k9c11 }
def k9c12 : Code := { maxStack := 2, maxLocals := 2, code := jdk_52_method_83_code, exceptionTable := #[], attributes := #[] }
def k9m12 : Method := { name := "charAt", desc := "([BI)C", sig := { parameters := [(.array .byte), .int], returnType := some .char }, accessFlags := 9, code := some k9c12 }
def k9c13 : Code := { maxStack := 2, maxLocals := 2, code := jdk_52_method_91_code, exceptionTable := #[], attributes := #[] }
def k9m13 : Method := { name := "checkIndex", desc := "(I[B)V", sig := { parameters := [.int, (.array .byte)], returnType := none }, accessFlags := 9, code := some k9c13 }
def k9c14 : Code := { maxStack := 3, maxLocals := 3, code := jdk_52_method_94_code, exceptionTable := #[], attributes := #[] }
def k9m14 : Method := { name := "checkBoundsOffCount", desc := "(II[B)V", sig := { parameters := [.int, .int, (.array .byte)], returnType := none }, accessFlags := 9, code := some k9c14 }
/-- java/lang/StringUTF16 -/
def k9 : Class := { plain "java/lang/StringUTF16" (some 0) with
  accessFlags := 48
  interfaces := #[]
  cf := some (fileOf pool9 12 #[.nestMembers #[627, 629, 369]] #[{ accessFlags := 0, nameIndex := 9, descriptorIndex := 10, attributes := #[] }, { accessFlags := 9, nameIndex := 109, descriptorIndex := 110, attributes := #[] }, { accessFlags := 9, nameIndex := 15, descriptorIndex := 16, attributes := #[] }, { accessFlags := 8, nameIndex := 113, descriptorIndex := 114, attributes := #[] }, { accessFlags := 8, nameIndex := 73, descriptorIndex := 74, attributes := #[] }, { accessFlags := 9, nameIndex := 50, descriptorIndex := 51, attributes := #[] }, { accessFlags := 9, nameIndex := 342, descriptorIndex := 454, attributes := #[] }, { accessFlags := 9, nameIndex := 121, descriptorIndex := 122, attributes := #[] }, { accessFlags := 8, nameIndex := 261, descriptorIndex := 262, attributes := #[] }, { accessFlags := 9, nameIndex := 117, descriptorIndex := 122, attributes := #[] }, { accessFlags := 9, nameIndex := 117, descriptorIndex := 118, attributes := #[] }, { accessFlags := 9, nameIndex := 105, descriptorIndex := 106, attributes := #[] }, { accessFlags := 9, nameIndex := 392, descriptorIndex := 74, attributes := #[] }, { accessFlags := 9, nameIndex := 69, descriptorIndex := 70, attributes := #[] }, { accessFlags := 9, nameIndex := 175, descriptorIndex := 99, attributes := #[] }] 48 6 #[] #[{ accessFlags := 26, nameIndex := 61, descriptorIndex := 62, attributes := #[] }, { accessFlags := 26, nameIndex := 65, descriptorIndex := 62, attributes := #[] }, { accessFlags := 24, nameIndex := 430, descriptorIndex := 62, attributes := #[] }, { accessFlags := 4120, nameIndex := 46, descriptorIndex := 47, attributes := #[] }])
  fields := #[{ name := "HI_BYTE_SHIFT", type := .int, accessFlags := 26, slot := 0, constantValue := 0 }, { name := "LO_BYTE_SHIFT", type := .int, accessFlags := 26, slot := 1, constantValue := 0 }, { name := "MAX_LENGTH", type := .int, accessFlags := 24, slot := 2, constantValue := 0 }, { name := "$assertionsDisabled", type := .boolean, accessFlags := 4120, slot := 3, constantValue := 0 }]
  methods := #[k9m0, k9m1, k9m2, k9m3, k9m4, k9m5, k9m6, k9m7, k9m8, k9m9, k9m10, k9m11, k9m12, k9m13, k9m14]
  instanceTypes := #[]
  staticTypes := #[.int, .int, .int, .boolean]
  resolved := Array.replicate 635 none
  statics := some 1 }

def pool10 : Array CpInfo := pool [(1, .class_ 2), (0, u "java/lang/String"), (1, .class_ 6), (1, u "java/lang/Object"), (0, u "<init>"), (0, u "()V"), (0, .methodref 1 10), (0, .nameAndType 11 12), (0, u "checkIndex"), (0, u "(II)V"), (0, .methodref 14 15), (0, .class_ 16), (0, .nameAndType 17 18), (0, u "java/lang/StringLatin1"), (0, u "inflate"), (0, u "([BI[CII)V"), (34, u "([BI)C"), (67, u "$assertionsDisabled"), (0, u "Z"), (69, u "toChars"), (28, .class_ 223), (1, u "java/lang/StringLatin1$LinesSpliterator"), (28, u "charAt"), (15, u "([B)[C"), (121, .class_ 391), (0, u "java/lang/StringLatin1$CharsSpliterator")] 3

def k10m0 : Method := { name := "<init>", desc := "()V", sig := { parameters := [], returnType := none }, accessFlags := 0, code := none }
def k10c1 : Code := { maxStack := 2, maxLocals := 2, code := jdk_43_method_2_code, exceptionTable := #[], attributes := #[] }
def k10m1 : Method := { name := "charAt", desc := "([BI)C", sig := { parameters := [(.array .byte), .int], returnType := some .char }, accessFlags := 9, code := some k10c1 }
def k10c2 : Code := { maxStack := 5, maxLocals := 2, code := jdk_43_method_9_code, exceptionTable := #[], attributes := #[] }
def k10m2 : Method := { name := "toChars", desc := "([B)[C", sig := { parameters := [(.array .byte)], returnType := some (.array .char) }, accessFlags := 9, code := some k10c2 }
def k10c3 : Code := { maxStack := 4, maxLocals := 6, code := jdk_43_method_49_code, exceptionTable := #[], attributes := #[] }
def k10m3 : Method := { name := "inflate", desc := "([BI[CII)V", sig := { parameters := [(.array .byte), .int, (.array .char), .int, .int], returnType := none }, accessFlags := 9, code := some k10c3 }
/-- java/lang/StringLatin1 -/
def k10 : Class := { plain "java/lang/StringLatin1" (some 0) with
  accessFlags := 48
  interfaces := #[]
  cf := some (fileOf pool10 14 #[.nestMembers #[390, 221]] #[{ accessFlags := 0, nameIndex := 7, descriptorIndex := 8, attributes := #[] }, { accessFlags := 9, nameIndex := 252, descriptorIndex := 53, attributes := #[] }, { accessFlags := 9, nameIndex := 192, descriptorIndex := 268, attributes := #[] }, { accessFlags := 9, nameIndex := 17, descriptorIndex := 18, attributes := #[] }] 48 4 #[] #[{ accessFlags := 4120, nameIndex := 121, descriptorIndex := 122, attributes := #[] }])
  fields := #[{ name := "$assertionsDisabled", type := .boolean, accessFlags := 4120, slot := 0, constantValue := 0 }]
  methods := #[k10m0, k10m1, k10m2, k10m3]
  instanceTypes := #[]
  staticTypes := #[.boolean]
  resolved := Array.replicate 395 none
  statics := none }

def pool11 : Array CpInfo := pool [(2, .class_ 4), (1, u "java/lang/Object"), (0, u "<init>"), (0, u "()V"), (17, .class_ 26), (1, u "jdk/internal/util/Preconditions"), (6, u "checkIndex"), (15, u "checkFromIndexSize"), (5, .class_ 56), (0, u "jdk/internal/util/Preconditions$4"), (57, .class_ 115), (0, u "jdk/internal/util/Preconditions$1"), (7, u "SIOOBE_FORMATTER"), (0, u "Ljava/util/function/BiFunction;"), (0, .class_ 126), (0, u "jdk/internal/util/Preconditions$2"), (3, u "AIOOBE_FORMATTER"), (0, .class_ 132), (0, u "jdk/internal/util/Preconditions$3"), (3, u "IOOBE_FORMATTER"), (41, u "(IILjava/util/function/BiFunction;)I"), (4, u "(IIILjava/util/function/BiFunction;)I")] 10

def k11m0 : Method := { name := "<init>", desc := "()V", sig := { parameters := [], returnType := none }, accessFlags := 1, code := none }
def k11c1 : Code := { maxStack := 3, maxLocals := 3, code := jdk_41_method_11_code, exceptionTable := #[], attributes := #[] }
def k11m1 : Method := { name := "checkIndex", desc := "(IILjava/util/function/BiFunction;)I", sig := { parameters := [.int, .int, (.object "java/util/function/BiFunction")], returnType := some .int }, accessFlags := 9, code := some k11c1 }
def k11c2 : Code := { maxStack := 4, maxLocals := 4, code := jdk_41_method_13_code, exceptionTable := #[], attributes := #[] }
def k11m2 : Method := { name := "checkFromIndexSize", desc := "(IIILjava/util/function/BiFunction;)I", sig := { parameters := [.int, .int, .int, (.object "java/util/function/BiFunction")], returnType := some .int }, accessFlags := 9, code := some k11c2 }
/-- jdk/internal/util/Preconditions -/
def k11 : Class := { plain "jdk/internal/util/Preconditions" (some 0) with
  accessFlags := 33
  interfaces := #[]
  cf := some (fileOf pool11 24 #[.nestMembers #[55, 131, 125, 114]] #[{ accessFlags := 1, nameIndex := 5, descriptorIndex := 6, attributes := #[] }, { accessFlags := 9, nameIndex := 33, descriptorIndex := 178, attributes := #[] }, { accessFlags := 9, nameIndex := 49, descriptorIndex := 183, attributes := #[] }] 33 2 #[] #[{ accessFlags := 25, nameIndex := 123, descriptorIndex := 124, attributes := #[] }, { accessFlags := 25, nameIndex := 130, descriptorIndex := 124, attributes := #[] }, { accessFlags := 25, nameIndex := 136, descriptorIndex := 124, attributes := #[] }])
  fields := #[{ name := "SIOOBE_FORMATTER", type := (.object "java/util/function/BiFunction"), accessFlags := 25, slot := 0, constantValue := 0 }, { name := "AIOOBE_FORMATTER", type := (.object "java/util/function/BiFunction"), accessFlags := 25, slot := 1, constantValue := 0 }, { name := "IOOBE_FORMATTER", type := (.object "java/util/function/BiFunction"), accessFlags := 25, slot := 2, constantValue := 0 }]
  methods := #[k11m0, k11m1, k11m2]
  instanceTypes := #[]
  staticTypes := #[(.object "java/util/function/BiFunction"), (.object "java/util/function/BiFunction"), (.object "java/util/function/BiFunction")]
  resolved := Array.replicate 194 none
  statics := some 2 }

def pool12 : Array CpInfo := pool [(9, u "<init>"), (6, .class_ 18), (1, u "java/lang/Object"), (0, u "()V"), (1, .class_ 23), (1, u "jdk/internal/util/ArraysSupport"), (0, u "LOG2_ARRAY_LONG_INDEX_SCALE"), (0, u "I"), (2, u "U"), (0, u "Ljdk/internal/misc/Unsafe;"), (8, u "BIG_ENDIAN"), (0, u "Z"), (8, u "LOG2_BYTE_BIT_SIZE"), (4, u "LOG2_ARRAY_INT_INDEX_SCALE"), (54, u "JLA"), (0, u "Ljdk/internal/access/JavaLangAccess;"), (11, u "LOG2_ARRAY_BOOLEAN_INDEX_SCALE"), (9, u "LOG2_ARRAY_BYTE_INDEX_SCALE"), (5, u "LOG2_ARRAY_CHAR_INDEX_SCALE"), (5, u "LOG2_ARRAY_SHORT_INDEX_SCALE"), (18, u "LOG2_ARRAY_FLOAT_INDEX_SCALE"), (24, u "LOG2_ARRAY_DOUBLE_INDEX_SCALE"), (89, u "T_BOOLEAN"), (2, u "T_CHAR"), (1, u "T_FLOAT"), (1, u "T_DOUBLE"), (1, u "T_BYTE"), (1, u "T_SHORT"), (1, u "T_INT"), (1, u "T_LONG"), (1, u "SOFT_MAX_ARRAY_LENGTH")] 83

def k12m0 : Method := { name := "<init>", desc := "()V", sig := { parameters := [], returnType := none }, accessFlags := 2, code := none }
/-- jdk/internal/util/ArraysSupport -/
def k12 : Class := { plain "jdk/internal/util/ArraysSupport" (some 0) with
  accessFlags := 33
  interfaces := #[]
  cf := some (fileOf pool12 21 #[] #[{ accessFlags := 2, nameIndex := 9, descriptorIndex := 19, attributes := #[] }] 33 16 #[] #[{ accessFlags := 24, nameIndex := 28, descriptorIndex := 29, attributes := #[] }, { accessFlags := 26, nameIndex := 38, descriptorIndex := 39, attributes := #[] }, { accessFlags := 25, nameIndex := 121, descriptorIndex := 25, attributes := #[] }, { accessFlags := 25, nameIndex := 131, descriptorIndex := 25, attributes := #[] }, { accessFlags := 25, nameIndex := 137, descriptorIndex := 25, attributes := #[] }, { accessFlags := 25, nameIndex := 143, descriptorIndex := 25, attributes := #[] }, { accessFlags := 25, nameIndex := 53, descriptorIndex := 25, attributes := #[] }, { accessFlags := 25, nameIndex := 24, descriptorIndex := 25, attributes := #[] }, { accessFlags := 25, nameIndex := 162, descriptorIndex := 25, attributes := #[] }, { accessFlags := 25, nameIndex := 187, descriptorIndex := 25, attributes := #[] }, { accessFlags := 26, nameIndex := 48, descriptorIndex := 25, attributes := #[] }, { accessFlags := 25, nameIndex := 277, descriptorIndex := 25, attributes := #[] }, { accessFlags := 25, nameIndex := 280, descriptorIndex := 25, attributes := #[] }, { accessFlags := 25, nameIndex := 282, descriptorIndex := 25, attributes := #[] }, { accessFlags := 25, nameIndex := 284, descriptorIndex := 25, attributes := #[] }, { accessFlags := 25, nameIndex := 286, descriptorIndex := 25, attributes := #[] }, { accessFlags := 25, nameIndex := 288, descriptorIndex := 25, attributes := #[] }, { accessFlags := 25, nameIndex := 290, descriptorIndex := 25, attributes := #[] }, { accessFlags := 25, nameIndex := 292, descriptorIndex := 25, attributes := #[] }, { accessFlags := 26, nameIndex := 108, descriptorIndex := 109, attributes := #[] }, { accessFlags := 25, nameIndex := 294, descriptorIndex := 25, attributes := #[] }])
  fields := #[{ name := "U", type := (.object "jdk/internal/misc/Unsafe"), accessFlags := 24, slot := 0, constantValue := 0 }, { name := "BIG_ENDIAN", type := .boolean, accessFlags := 26, slot := 1, constantValue := 0 }, { name := "LOG2_ARRAY_BOOLEAN_INDEX_SCALE", type := .int, accessFlags := 25, slot := 2, constantValue := 0 }, { name := "LOG2_ARRAY_BYTE_INDEX_SCALE", type := .int, accessFlags := 25, slot := 3, constantValue := 0 }, { name := "LOG2_ARRAY_CHAR_INDEX_SCALE", type := .int, accessFlags := 25, slot := 4, constantValue := 0 }, { name := "LOG2_ARRAY_SHORT_INDEX_SCALE", type := .int, accessFlags := 25, slot := 5, constantValue := 0 }, { name := "LOG2_ARRAY_INT_INDEX_SCALE", type := .int, accessFlags := 25, slot := 6, constantValue := 0 }, { name := "LOG2_ARRAY_LONG_INDEX_SCALE", type := .int, accessFlags := 25, slot := 7, constantValue := 0 }, { name := "LOG2_ARRAY_FLOAT_INDEX_SCALE", type := .int, accessFlags := 25, slot := 8, constantValue := 0 }, { name := "LOG2_ARRAY_DOUBLE_INDEX_SCALE", type := .int, accessFlags := 25, slot := 9, constantValue := 0 }, { name := "LOG2_BYTE_BIT_SIZE", type := .int, accessFlags := 26, slot := 10, constantValue := 0 }, { name := "T_BOOLEAN", type := .int, accessFlags := 25, slot := 11, constantValue := 0 }, { name := "T_CHAR", type := .int, accessFlags := 25, slot := 12, constantValue := 0 }, { name := "T_FLOAT", type := .int, accessFlags := 25, slot := 13, constantValue := 0 }, { name := "T_DOUBLE", type := .int, accessFlags := 25, slot := 14, constantValue := 0 }, { name := "T_BYTE", type := .int, accessFlags := 25, slot := 15, constantValue := 0 }, { name := "T_SHORT", type := .int, accessFlags := 25, slot := 16, constantValue := 0 }, { name := "T_INT", type := .int, accessFlags := 25, slot := 17, constantValue := 0 }, { name := "T_LONG", type := .int, accessFlags := 25, slot := 18, constantValue := 0 }, { name := "JLA", type := (.object "jdk/internal/access/JavaLangAccess"), accessFlags := 26, slot := 19, constantValue := 0 }, { name := "SOFT_MAX_ARRAY_LENGTH", type := .int, accessFlags := 25, slot := 20, constantValue := 0 }]
  methods := #[k12m0]
  instanceTypes := #[]
  staticTypes := #[(.object "jdk/internal/misc/Unsafe"), .boolean, .int, .int, .int, .int, .int, .int, .int, .int, .int, .int, .int, .int, .int, .int, .int, .int, .int, (.object "jdk/internal/access/JavaLangAccess"), .int]
  resolved := Array.replicate 378 none
  statics := none }

def pool13 : Array CpInfo := pool [(1, u "java/lang/Cloneable"), (0, .class_ 1), (0, u "java/lang/Object"), (0, .class_ 3)] 3

/-- java/lang/Cloneable -/
def k13 : Class := { plain "java/lang/Cloneable" (some 0) with
  accessFlags := 1537
  interfaces := #[]
  cf := some (fileOf pool13 2 #[] #[] 1537 4 #[] #[])
  fields := #[]
  methods := #[]
  instanceTypes := #[]
  staticTypes := #[]
  resolved := Array.replicate 8 none
  statics := none }

/-- the primitive byte -/
def k14 : Class := { plain "byte" none with kind := .primitive 'B', accessFlags := 0x411 }
/-- [B -/
def k15 : Class := { plain "[B" (some 0) with kind := .array 14 .byte, interfaces := #[13, 2], accessFlags := 1041 }

/-- the primitive char -/
def k16 : Class := { plain "char" none with kind := .primitive 'C', accessFlags := 0x411 }
/-- [C -/
def k17 : Class := { plain "[C" (some 0) with kind := .array 16 .char, interfaces := #[13, 2], accessFlags := 1041 }

/-- the primitive int -/
def k18 : Class := { plain "int" none with kind := .primitive 'I', accessFlags := 0x411 }
/-- [I -/
def k19 : Class := { plain "[I" (some 0) with kind := .array 18 .int, interfaces := #[13, 2], accessFlags := 1041 }

def heap : Heap := #[{ cls := 7, slots := #[.long 0, .int 1, .null, .int 0, .null, .int 0, .int 0], vm := .statics 7 },
  { cls := 9, slots := #[.int 0, .int 8, .int 0, .int 1], vm := .statics 9 },
  { cls := 11, slots := #[.null, .null, .null], vm := .statics 11 }]
def classes : Array Class := #[k0, k1, k2, k3, k4, k5, k6, k7, k8, k9, k10, k11, k12, k13, k14, k15, k16, k17, k18, k19]
def interned : List (Array UInt16 × Addr) := []
def slotsUsed : Nat := 14
def theMethod : MethodId := ⟨1, 4⟩
def args0 : Array Value := #[.int 66, .int 98, .int 300, .int 0, .int 2]
def aboutOver (below : List Frame) : State where
  vm := { classes := classes, interned := interned.toArray }
  heap := heap
  slotsUsed := slotsUsed
  threads := #[{ frames := .invoking theMethod args0 :: below }]
def below0 : List Frame := [.native { method := ⟨0, 0⟩, args := #[] }]
def about1 : State := aboutOver below0
def p0 : Program := .bare "" "" ""
def e0 : Env := launch0.env 0 0 0
theorem w_frames : about1.frames = Frame.invoking theMethod args0 :: below0 := rfl
set_option maxRecDepth 65536 in
theorem w_args : argsFit about1.vm theMethod args0 = true := by decide +kernel
set_option maxRecDepth 65536 in
theorem w_heap : heapFits about1 = true := by decide +kernel
set_option maxRecDepth 65536 in
theorem w_runnable : about1.curStatus? = some .runnable := by decide +kernel
set_option maxRecDepth 65536 in
theorem w_alone : about1.alone = true := by decide +kernel
set_option maxRecDepth 65536 in
theorem w_named : about1.methodNamed? x = some theMethod := by decide +kernel
set_option maxRecDepth 65536 in
theorem w_hears : about1.hears theMethod below0 = true := by decide +kernel
set_option maxRecDepth 65536 in
theorem w_ripe : about1.ripe theMethod args0 below0 = true := by decide +kernel
theorem w_running : about1.status = .running := rfl
set_option maxRecDepth 65536 in
theorem w_room : about1.hasRoom e0.platform room_1 = true :=
  launch0.hasRoom_least _ room_1 (by decide +kernel) (by decide +kernel) (by decide +kernel) (by decide +kernel) (by decide +kernel) (by decide +kernel)
theorem allAtoms_all (ts : List Jvm.Cond) (a : Array Jvm.Value) (st : Jvm.State) : (allAtoms ts).before a st = ts.all (fun c => c.before a st) := by
  induction ts with
  | nil => rfl
  | cons c t ih =>
    show (Jvm.Cond.and c (allAtoms t)).before a st = _
    rw [Jvm.Cond.before_and, ih, List.all_cons]
def words1 : List Jvm.Cond := Jvm.Cond.code x code maxLocals ret :: tables_1
/-- a 'code' word, met by the world's own term for the bytes: nothing is compared byte by byte -/
theorem code_word {y : MethodName} {bytes : ByteArray} {mx : Nat} {rt : Option FieldType} {a : Array Value} {s : State} {m : MethodId} {meth : Method} {c : Code} (h1 : s.methodNamed? y = some m) (h2 : s.vm.method? m = some meth) (h3 : meth.code = some c) (h4 : c.code = bytes)
    (h5 : (c.maxLocals == mx && c.exceptionTable.isEmpty && decide (c.maxStack ≤ mostOperands) && decide (meth.sig.returnType = rt) && !meth.locks && decide (parseMethodDescriptor y.desc = some meth.sig)) = true) : (Jvm.Cond.code y bytes mx rt).before a s = true := by
  simp only [Bool.and_eq_true, beq_iff_eq, Bool.not_eq_true', decide_eq_true_eq] at h5
  obtain ⟨⟨⟨⟨⟨g1, g2⟩, g3⟩, g4⟩, g5⟩, g6⟩ := h5
  simp [Cond.before, Cond.holds, Cond.value, h1, h2, h3, h4, g1, g2, g3, g4, g5, g6]
def isCode : Jvm.Cond → Bool
  | .code _ _ _ _ => true
  | _ => false
theorem all_split {L : List Jvm.Cond} {P : Jvm.Cond → Bool} (h1 : L.all (fun c => isCode c || P c) = true) (h2 : ∀ c ∈ L.filter isCode, P c = true) : L.all P = true := by
  refine List.all_eq_true.mpr fun c hc => ?_
  have h := List.all_eq_true.mp h1 c hc
  rcases Bool.eq_false_or_eq_true (isCode c) with hi | hi
  · exact h2 c (List.mem_filter.mpr ⟨hc, hi⟩)
  · simpa [hi] using h
set_option maxRecDepth 65536 in
theorem w_c0 : (Jvm.Cond.code x code maxLocals ret).before args0 about1 = true := code_word (m := ⟨1, 4⟩) (meth := k1m4) (c := k1c4) (by decide +kernel) rfl rfl rfl (by decide +kernel)
set_option maxRecDepth 65536 in
theorem w_c1 : (Jvm.Cond.code ({ cls := "com/example/zia_tally/ziatally/tabulation/WordLowerCasePinLaw", name := "make", desc := "(ICCCC)Ljava/lang/String;" } : Jvm.MethodName) method_4_code (5 : Nat) (Option.some (Jvm.ClassFile.FieldType.object "java/lang/String"))).before args0 about1 = true := code_word (m := ⟨1, 3⟩) (meth := k1m3) (c := k1c3) (by decide +kernel) rfl rfl rfl (by decide +kernel)
set_option maxRecDepth 65536 in
theorem w_c2 : (Jvm.Cond.code ({ cls := "java/lang/String", name := "<init>", desc := "([C)V" } : Jvm.MethodName) jdk_42_method_3_code (2 : Nat) (Option.none : Option Jvm.ClassFile.FieldType)).before args0 about1 = true := code_word (m := ⟨7, 1⟩) (meth := k7m1) (c := k7c1) (by decide +kernel) rfl rfl rfl (by decide +kernel)
set_option maxRecDepth 65536 in
theorem w_c3 : (Jvm.Cond.code ({ cls := "java/lang/String", name := "<init>", desc := "([CIILjava/lang/Void;)V" } : Jvm.MethodName) jdk_42_method_149_code (6 : Nat) (Option.none : Option Jvm.ClassFile.FieldType)).before args0 about1 = true := code_word (m := ⟨7, 5⟩) (meth := k7m5) (c := k7c5) (by decide +kernel) rfl rfl rfl (by decide +kernel)
set_option maxRecDepth 65536 in
theorem w_c4 : (Jvm.Cond.code ({ cls := "java/lang/Object", name := "<init>", desc := "()V" } : Jvm.MethodName) object_method_1_code (1 : Nat) (Option.none : Option Jvm.ClassFile.FieldType)).before args0 about1 = true := code_word (m := ⟨0, 0⟩) (meth := k0m0) (c := k0c0) (by decide +kernel) rfl rfl rfl (by decide +kernel)
set_option maxRecDepth 65536 in
theorem w_c5 : (Jvm.Cond.code ({ cls := "com/example/zia_tally/ziatally/tabulation/Word", name := "lowerCase", desc := "(Ljava/lang/String;)Ljava/lang/String;" } : Jvm.MethodName) prog_38_method_3_code (4 : Nat) (Option.some (Jvm.ClassFile.FieldType.object "java/lang/String"))).before args0 about1 = true := code_word (m := ⟨8, 1⟩) (meth := k8m1) (c := k8c1) (by decide +kernel) rfl rfl rfl (by decide +kernel)
set_option maxRecDepth 65536 in
theorem w_c6 : (Jvm.Cond.code ({ cls := "java/lang/String", name := "length", desc := "()I" } : Jvm.MethodName) jdk_42_method_54_code (1 : Nat) (Option.some Jvm.ClassFile.FieldType.int)).before args0 about1 = true := code_word (m := ⟨7, 2⟩) (meth := k7m2) (c := k7c2) (by decide +kernel) rfl rfl rfl (by decide +kernel)
set_option maxRecDepth 65536 in
theorem w_c7 : (Jvm.Cond.code ({ cls := "java/lang/String", name := "coder", desc := "()B" } : Jvm.MethodName) jdk_42_method_152_code (1 : Nat) (Option.some Jvm.ClassFile.FieldType.byte)).before args0 about1 = true := code_word (m := ⟨7, 6⟩) (meth := k7m6) (c := k7c6) (by decide +kernel) rfl rfl rfl (by decide +kernel)
set_option maxRecDepth 65536 in
theorem w_c8 : (Jvm.Cond.code ({ cls := "java/lang/StringUTF16", name := "compress", desc := "([CII)[B" } : Jvm.MethodName) jdk_52_method_16_code (6 : Nat) (Option.some (Jvm.ClassFile.FieldType.array Jvm.ClassFile.FieldType.byte))).before args0 about1 = true := code_word (m := ⟨9, 9⟩) (meth := k9m9) (c := k9c9) (by decide +kernel) rfl rfl rfl (by decide +kernel)
set_option maxRecDepth 65536 in
theorem w_c9 : (Jvm.Cond.code ({ cls := "java/lang/StringUTF16", name := "compress", desc := "([CI[BII)I" } : Jvm.MethodName) jdk_52_method_21_code (7 : Nat) (Option.some Jvm.ClassFile.FieldType.int)).before args0 about1 = true := code_word (m := ⟨9, 10⟩) (meth := k9m10) (c := k9c10) (by decide +kernel) rfl rfl rfl (by decide +kernel)
set_option maxRecDepth 65536 in
theorem w_c10 : (Jvm.Cond.code ({ cls := "java/lang/StringUTF16", name := "coderFromArrayLen", desc := "([BI)B" } : Jvm.MethodName) jdk_52_method_15_code (2 : Nat) (Option.some Jvm.ClassFile.FieldType.byte)).before args0 about1 = true := code_word (m := ⟨9, 8⟩) (meth := k9m8) (c := k9c8) (by decide +kernel) rfl rfl rfl (by decide +kernel)
set_option maxRecDepth 65536 in
theorem w_c11 : (Jvm.Cond.code ({ cls := "java/lang/String", name := "charAt", desc := "(I)C" } : Jvm.MethodName) jdk_42_method_56_code (2 : Nat) (Option.some Jvm.ClassFile.FieldType.char)).before args0 about1 = true := code_word (m := ⟨7, 3⟩) (meth := k7m3) (c := k7c3) (by decide +kernel) rfl rfl rfl (by decide +kernel)
set_option maxRecDepth 65536 in
theorem w_c12 : (Jvm.Cond.code ({ cls := "java/lang/String", name := "isLatin1", desc := "()Z" } : Jvm.MethodName) jdk_42_method_154_code (1 : Nat) (Option.some Jvm.ClassFile.FieldType.boolean)).before args0 about1 = true := code_word (m := ⟨7, 7⟩) (meth := k7m7) (c := k7c7) (by decide +kernel) rfl rfl rfl (by decide +kernel)
set_option maxRecDepth 65536 in
theorem w_c13 : (Jvm.Cond.code ({ cls := "java/lang/StringLatin1", name := "charAt", desc := "([BI)C" } : Jvm.MethodName) jdk_43_method_2_code (2 : Nat) (Option.some Jvm.ClassFile.FieldType.char)).before args0 about1 = true := code_word (m := ⟨10, 1⟩) (meth := k10m1) (c := k10c1) (by decide +kernel) rfl rfl rfl (by decide +kernel)
set_option maxRecDepth 65536 in
theorem w_c14 : (Jvm.Cond.code ({ cls := "java/lang/String", name := "checkIndex", desc := "(II)V" } : Jvm.MethodName) jdk_42_method_155_code (2 : Nat) (Option.none : Option Jvm.ClassFile.FieldType)).before args0 about1 = true := code_word (m := ⟨7, 8⟩) (meth := k7m8) (c := k7c8) (by decide +kernel) rfl rfl rfl (by decide +kernel)
set_option maxRecDepth 65536 in
theorem w_c15 : (Jvm.Cond.code ({ cls := "jdk/internal/util/Preconditions", name := "checkIndex", desc := "(IILjava/util/function/BiFunction;)I" } : Jvm.MethodName) jdk_41_method_11_code (3 : Nat) (Option.some Jvm.ClassFile.FieldType.int)).before args0 about1 = true := code_word (m := ⟨11, 1⟩) (meth := k11m1) (c := k11c1) (by decide +kernel) rfl rfl rfl (by decide +kernel)
set_option maxRecDepth 65536 in
theorem w_c16 : (Jvm.Cond.code ({ cls := "com/example/zia_tally/ziatally/tabulation/Word", name := "lowerCase", desc := "(C)C" } : Jvm.MethodName) prog_38_method_4_code (1 : Nat) (Option.some Jvm.ClassFile.FieldType.char)).before args0 about1 = true := code_word (m := ⟨8, 2⟩) (meth := k8m2) (c := k8c2) (by decide +kernel) rfl rfl rfl (by decide +kernel)
set_option maxRecDepth 65536 in
theorem w_c17 : (Jvm.Cond.code ({ cls := "com/example/zia_tally/ziatally/tabulation/WordLowerCasePinLaw", name := "ref", desc := "(C)C" } : Jvm.MethodName) method_3_code (1 : Nat) (Option.some Jvm.ClassFile.FieldType.char)).before args0 about1 = true := code_word (m := ⟨1, 2⟩) (meth := k1m2) (c := k1c2) (by decide +kernel) rfl rfl rfl (by decide +kernel)
set_option maxRecDepth 65536 in
theorem w_c18 : (Jvm.Cond.code ({ cls := "com/example/zia_tally/ziatally/tabulation/WordLowerCasePinLaw", name := "isCap", desc := "(C)Z" } : Jvm.MethodName) method_2_code (1 : Nat) (Option.some Jvm.ClassFile.FieldType.boolean)).before args0 about1 = true := code_word (m := ⟨1, 1⟩) (meth := k1m1) (c := k1c1) (by decide +kernel) rfl rfl rfl (by decide +kernel)
set_option maxRecDepth 65536 in
theorem w_c19 : (Jvm.Cond.code ({ cls := "java/lang/StringUTF16", name := "toBytes", desc := "([CII)[B" } : Jvm.MethodName) jdk_52_method_14_code (5 : Nat) (Option.some (Jvm.ClassFile.FieldType.array Jvm.ClassFile.FieldType.byte))).before args0 about1 = true := code_word (m := ⟨9, 7⟩) (meth := k9m7) (c := k9c7) (by decide +kernel) rfl rfl rfl (by decide +kernel)
set_option maxRecDepth 65536 in
theorem w_c20 : (Jvm.Cond.code ({ cls := "java/lang/StringUTF16", name := "newBytesFor", desc := "(I)[B" } : Jvm.MethodName) jdk_52_method_2_code (1 : Nat) (Option.some (Jvm.ClassFile.FieldType.array Jvm.ClassFile.FieldType.byte))).before args0 about1 = true := code_word (m := ⟨9, 1⟩) (meth := k9m1) (c := k9c1) (by decide +kernel) rfl rfl rfl (by decide +kernel)
set_option maxRecDepth 65536 in
theorem w_c21 : (Jvm.Cond.code ({ cls := "java/lang/StringUTF16", name := "newBytesLength", desc := "(I)I" } : Jvm.MethodName) jdk_52_method_3_code (1 : Nat) (Option.some Jvm.ClassFile.FieldType.int)).before args0 about1 = true := code_word (m := ⟨9, 2⟩) (meth := k9m2) (c := k9c2) (by decide +kernel) rfl rfl rfl (by decide +kernel)
set_option maxRecDepth 65536 in
theorem w_c22 : (Jvm.Cond.code ({ cls := "java/lang/StringUTF16", name := "putChar", desc := "([BII)V" } : Jvm.MethodName) jdk_52_method_4_code (3 : Nat) (Option.none : Option Jvm.ClassFile.FieldType)).before args0 about1 = true := code_word (m := ⟨9, 3⟩) (meth := k9m3) (c := k9c3) (by decide +kernel) rfl rfl rfl (by decide +kernel)
set_option maxRecDepth 65536 in
theorem w_c23 : (Jvm.Cond.code ({ cls := "java/lang/StringUTF16", name := "getChar", desc := "([BI)C" } : Jvm.MethodName) jdk_52_method_5_code (2 : Nat) (Option.some Jvm.ClassFile.FieldType.char)).before args0 about1 = true := code_word (m := ⟨9, 4⟩) (meth := k9m4) (c := k9c4) (by decide +kernel) rfl rfl rfl (by decide +kernel)
set_option maxRecDepth 65536 in
theorem w_c24 : (Jvm.Cond.code ({ cls := "java/lang/StringUTF16", name := "charAt", desc := "([BI)C" } : Jvm.MethodName) jdk_52_method_83_code (2 : Nat) (Option.some Jvm.ClassFile.FieldType.char)).before args0 about1 = true := code_word (m := ⟨9, 12⟩) (meth := k9m12) (c := k9c12) (by decide +kernel) rfl rfl rfl (by decide +kernel)
set_option maxRecDepth 65536 in
theorem w_c25 : (Jvm.Cond.code ({ cls := "java/lang/StringUTF16", name := "checkIndex", desc := "(I[B)V" } : Jvm.MethodName) jdk_52_method_91_code (2 : Nat) (Option.none : Option Jvm.ClassFile.FieldType)).before args0 about1 = true := code_word (m := ⟨9, 13⟩) (meth := k9m13) (c := k9c13) (by decide +kernel) rfl rfl rfl (by decide +kernel)
set_option maxRecDepth 65536 in
theorem w_c26 : (Jvm.Cond.code ({ cls := "java/lang/StringUTF16", name := "length", desc := "([B)I" } : Jvm.MethodName) jdk_52_method_6_code (1 : Nat) (Option.some Jvm.ClassFile.FieldType.int)).before args0 about1 = true := code_word (m := ⟨9, 5⟩) (meth := k9m5) (c := k9c5) (by decide +kernel) rfl rfl rfl (by decide +kernel)
set_option maxRecDepth 65536 in
theorem w_c27 : (Jvm.Cond.code ({ cls := "java/lang/String", name := "toCharArray", desc := "()[C" } : Jvm.MethodName) jdk_42_method_129_code (1 : Nat) (Option.some (Jvm.ClassFile.FieldType.array Jvm.ClassFile.FieldType.char))).before args0 about1 = true := code_word (m := ⟨7, 4⟩) (meth := k7m4) (c := k7c4) (by decide +kernel) rfl rfl rfl (by decide +kernel)
set_option maxRecDepth 65536 in
theorem w_c28 : (Jvm.Cond.code ({ cls := "java/lang/StringLatin1", name := "toChars", desc := "([B)[C" } : Jvm.MethodName) jdk_43_method_9_code (2 : Nat) (Option.some (Jvm.ClassFile.FieldType.array Jvm.ClassFile.FieldType.char))).before args0 about1 = true := code_word (m := ⟨10, 2⟩) (meth := k10m2) (c := k10c2) (by decide +kernel) rfl rfl rfl (by decide +kernel)
set_option maxRecDepth 65536 in
theorem w_c29 : (Jvm.Cond.code ({ cls := "java/lang/StringLatin1", name := "inflate", desc := "([BI[CII)V" } : Jvm.MethodName) jdk_43_method_49_code (6 : Nat) (Option.none : Option Jvm.ClassFile.FieldType)).before args0 about1 = true := code_word (m := ⟨10, 3⟩) (meth := k10m3) (c := k10c3) (by decide +kernel) rfl rfl rfl (by decide +kernel)
set_option maxRecDepth 65536 in
theorem w_c30 : (Jvm.Cond.code ({ cls := "java/lang/StringUTF16", name := "toChars", desc := "([B)[C" } : Jvm.MethodName) jdk_52_method_13_code (2 : Nat) (Option.some (Jvm.ClassFile.FieldType.array Jvm.ClassFile.FieldType.char))).before args0 about1 = true := code_word (m := ⟨9, 6⟩) (meth := k9m6) (c := k9c6) (by decide +kernel) rfl rfl rfl (by decide +kernel)
set_option maxRecDepth 65536 in
theorem w_c31 : (Jvm.Cond.code ({ cls := "java/lang/StringUTF16", name := "getChars", desc := "([BII[CI)V" } : Jvm.MethodName) jdk_52_method_26_code (6 : Nat) (Option.none : Option Jvm.ClassFile.FieldType)).before args0 about1 = true := code_word (m := ⟨9, 11⟩) (meth := k9m11) (c := k9c11) (by decide +kernel) rfl rfl rfl (by decide +kernel)
set_option maxRecDepth 65536 in
theorem w_c32 : (Jvm.Cond.code ({ cls := "java/lang/StringUTF16", name := "checkBoundsOffCount", desc := "(II[B)V" } : Jvm.MethodName) jdk_52_method_94_code (3 : Nat) (Option.none : Option Jvm.ClassFile.FieldType)).before args0 about1 = true := code_word (m := ⟨9, 14⟩) (meth := k9m14) (c := k9c14) (by decide +kernel) rfl rfl rfl (by decide +kernel)
set_option maxRecDepth 65536 in
theorem w_c33 : (Jvm.Cond.code ({ cls := "java/lang/String", name := "checkBoundsOffCount", desc := "(III)I" } : Jvm.MethodName) jdk_42_method_157_code (3 : Nat) (Option.some Jvm.ClassFile.FieldType.int)).before args0 about1 = true := code_word (m := ⟨7, 9⟩) (meth := k7m9) (c := k7c9) (by decide +kernel) rfl rfl rfl (by decide +kernel)
set_option maxRecDepth 65536 in
theorem w_c34 : (Jvm.Cond.code ({ cls := "jdk/internal/util/Preconditions", name := "checkFromIndexSize", desc := "(IIILjava/util/function/BiFunction;)I" } : Jvm.MethodName) jdk_41_method_13_code (4 : Nat) (Option.some Jvm.ClassFile.FieldType.int)).before args0 about1 = true := code_word (m := ⟨11, 2⟩) (meth := k11m2) (c := k11c2) (by decide +kernel) rfl rfl rfl (by decide +kernel)
def codes1 : List Jvm.Cond := [Jvm.Cond.code x code maxLocals ret, Jvm.Cond.code ({ cls := "com/example/zia_tally/ziatally/tabulation/WordLowerCasePinLaw", name := "make", desc := "(ICCCC)Ljava/lang/String;" } : Jvm.MethodName) method_4_code (5 : Nat) (Option.some (Jvm.ClassFile.FieldType.object "java/lang/String")), Jvm.Cond.code ({ cls := "java/lang/String", name := "<init>", desc := "([C)V" } : Jvm.MethodName) jdk_42_method_3_code (2 : Nat) (Option.none : Option Jvm.ClassFile.FieldType), Jvm.Cond.code ({ cls := "java/lang/String", name := "<init>", desc := "([CIILjava/lang/Void;)V" } : Jvm.MethodName) jdk_42_method_149_code (6 : Nat) (Option.none : Option Jvm.ClassFile.FieldType), Jvm.Cond.code ({ cls := "java/lang/Object", name := "<init>", desc := "()V" } : Jvm.MethodName) object_method_1_code (1 : Nat) (Option.none : Option Jvm.ClassFile.FieldType), Jvm.Cond.code ({ cls := "com/example/zia_tally/ziatally/tabulation/Word", name := "lowerCase", desc := "(Ljava/lang/String;)Ljava/lang/String;" } : Jvm.MethodName) prog_38_method_3_code (4 : Nat) (Option.some (Jvm.ClassFile.FieldType.object "java/lang/String")), Jvm.Cond.code ({ cls := "java/lang/String", name := "length", desc := "()I" } : Jvm.MethodName) jdk_42_method_54_code (1 : Nat) (Option.some Jvm.ClassFile.FieldType.int), Jvm.Cond.code ({ cls := "java/lang/String", name := "coder", desc := "()B" } : Jvm.MethodName) jdk_42_method_152_code (1 : Nat) (Option.some Jvm.ClassFile.FieldType.byte), Jvm.Cond.code ({ cls := "java/lang/StringUTF16", name := "compress", desc := "([CII)[B" } : Jvm.MethodName) jdk_52_method_16_code (6 : Nat) (Option.some (Jvm.ClassFile.FieldType.array Jvm.ClassFile.FieldType.byte)), Jvm.Cond.code ({ cls := "java/lang/StringUTF16", name := "compress", desc := "([CI[BII)I" } : Jvm.MethodName) jdk_52_method_21_code (7 : Nat) (Option.some Jvm.ClassFile.FieldType.int), Jvm.Cond.code ({ cls := "java/lang/StringUTF16", name := "coderFromArrayLen", desc := "([BI)B" } : Jvm.MethodName) jdk_52_method_15_code (2 : Nat) (Option.some Jvm.ClassFile.FieldType.byte), Jvm.Cond.code ({ cls := "java/lang/String", name := "charAt", desc := "(I)C" } : Jvm.MethodName) jdk_42_method_56_code (2 : Nat) (Option.some Jvm.ClassFile.FieldType.char), Jvm.Cond.code ({ cls := "java/lang/String", name := "isLatin1", desc := "()Z" } : Jvm.MethodName) jdk_42_method_154_code (1 : Nat) (Option.some Jvm.ClassFile.FieldType.boolean), Jvm.Cond.code ({ cls := "java/lang/StringLatin1", name := "charAt", desc := "([BI)C" } : Jvm.MethodName) jdk_43_method_2_code (2 : Nat) (Option.some Jvm.ClassFile.FieldType.char), Jvm.Cond.code ({ cls := "java/lang/String", name := "checkIndex", desc := "(II)V" } : Jvm.MethodName) jdk_42_method_155_code (2 : Nat) (Option.none : Option Jvm.ClassFile.FieldType), Jvm.Cond.code ({ cls := "jdk/internal/util/Preconditions", name := "checkIndex", desc := "(IILjava/util/function/BiFunction;)I" } : Jvm.MethodName) jdk_41_method_11_code (3 : Nat) (Option.some Jvm.ClassFile.FieldType.int), Jvm.Cond.code ({ cls := "com/example/zia_tally/ziatally/tabulation/Word", name := "lowerCase", desc := "(C)C" } : Jvm.MethodName) prog_38_method_4_code (1 : Nat) (Option.some Jvm.ClassFile.FieldType.char), Jvm.Cond.code ({ cls := "com/example/zia_tally/ziatally/tabulation/WordLowerCasePinLaw", name := "ref", desc := "(C)C" } : Jvm.MethodName) method_3_code (1 : Nat) (Option.some Jvm.ClassFile.FieldType.char), Jvm.Cond.code ({ cls := "com/example/zia_tally/ziatally/tabulation/WordLowerCasePinLaw", name := "isCap", desc := "(C)Z" } : Jvm.MethodName) method_2_code (1 : Nat) (Option.some Jvm.ClassFile.FieldType.boolean), Jvm.Cond.code ({ cls := "java/lang/StringUTF16", name := "toBytes", desc := "([CII)[B" } : Jvm.MethodName) jdk_52_method_14_code (5 : Nat) (Option.some (Jvm.ClassFile.FieldType.array Jvm.ClassFile.FieldType.byte)), Jvm.Cond.code ({ cls := "java/lang/StringUTF16", name := "newBytesFor", desc := "(I)[B" } : Jvm.MethodName) jdk_52_method_2_code (1 : Nat) (Option.some (Jvm.ClassFile.FieldType.array Jvm.ClassFile.FieldType.byte)), Jvm.Cond.code ({ cls := "java/lang/StringUTF16", name := "newBytesLength", desc := "(I)I" } : Jvm.MethodName) jdk_52_method_3_code (1 : Nat) (Option.some Jvm.ClassFile.FieldType.int), Jvm.Cond.code ({ cls := "java/lang/StringUTF16", name := "putChar", desc := "([BII)V" } : Jvm.MethodName) jdk_52_method_4_code (3 : Nat) (Option.none : Option Jvm.ClassFile.FieldType), Jvm.Cond.code ({ cls := "java/lang/StringUTF16", name := "getChar", desc := "([BI)C" } : Jvm.MethodName) jdk_52_method_5_code (2 : Nat) (Option.some Jvm.ClassFile.FieldType.char), Jvm.Cond.code ({ cls := "java/lang/StringUTF16", name := "charAt", desc := "([BI)C" } : Jvm.MethodName) jdk_52_method_83_code (2 : Nat) (Option.some Jvm.ClassFile.FieldType.char), Jvm.Cond.code ({ cls := "java/lang/StringUTF16", name := "checkIndex", desc := "(I[B)V" } : Jvm.MethodName) jdk_52_method_91_code (2 : Nat) (Option.none : Option Jvm.ClassFile.FieldType), Jvm.Cond.code ({ cls := "java/lang/StringUTF16", name := "length", desc := "([B)I" } : Jvm.MethodName) jdk_52_method_6_code (1 : Nat) (Option.some Jvm.ClassFile.FieldType.int), Jvm.Cond.code ({ cls := "java/lang/String", name := "toCharArray", desc := "()[C" } : Jvm.MethodName) jdk_42_method_129_code (1 : Nat) (Option.some (Jvm.ClassFile.FieldType.array Jvm.ClassFile.FieldType.char)), Jvm.Cond.code ({ cls := "java/lang/StringLatin1", name := "toChars", desc := "([B)[C" } : Jvm.MethodName) jdk_43_method_9_code (2 : Nat) (Option.some (Jvm.ClassFile.FieldType.array Jvm.ClassFile.FieldType.char)), Jvm.Cond.code ({ cls := "java/lang/StringLatin1", name := "inflate", desc := "([BI[CII)V" } : Jvm.MethodName) jdk_43_method_49_code (6 : Nat) (Option.none : Option Jvm.ClassFile.FieldType), Jvm.Cond.code ({ cls := "java/lang/StringUTF16", name := "toChars", desc := "([B)[C" } : Jvm.MethodName) jdk_52_method_13_code (2 : Nat) (Option.some (Jvm.ClassFile.FieldType.array Jvm.ClassFile.FieldType.char)), Jvm.Cond.code ({ cls := "java/lang/StringUTF16", name := "getChars", desc := "([BII[CI)V" } : Jvm.MethodName) jdk_52_method_26_code (6 : Nat) (Option.none : Option Jvm.ClassFile.FieldType), Jvm.Cond.code ({ cls := "java/lang/StringUTF16", name := "checkBoundsOffCount", desc := "(II[B)V" } : Jvm.MethodName) jdk_52_method_94_code (3 : Nat) (Option.none : Option Jvm.ClassFile.FieldType), Jvm.Cond.code ({ cls := "java/lang/String", name := "checkBoundsOffCount", desc := "(III)I" } : Jvm.MethodName) jdk_42_method_157_code (3 : Nat) (Option.some Jvm.ClassFile.FieldType.int), Jvm.Cond.code ({ cls := "jdk/internal/util/Preconditions", name := "checkFromIndexSize", desc := "(IIILjava/util/function/BiFunction;)I" } : Jvm.MethodName) jdk_41_method_13_code (4 : Nat) (Option.some Jvm.ClassFile.FieldType.int)]
set_option maxRecDepth 65536 in
theorem codes_eq : words1.filter isCode = codes1 := rfl
theorem w_codes : ∀ c ∈ words1.filter isCode, c.before args0 about1 = true := by
  rw [codes_eq]
  intro c hc
  simp only [codes1, List.mem_cons, List.not_mem_nil, or_false] at hc
  rcases hc with rfl | rfl | rfl | rfl | rfl | rfl | rfl | rfl | rfl | rfl | rfl | rfl | rfl | rfl | rfl | rfl | rfl | rfl | rfl | rfl | rfl | rfl | rfl | rfl | rfl | rfl | rfl | rfl | rfl | rfl | rfl | rfl | rfl | rfl | rfl
  · exact w_c0
  · exact w_c1
  · exact w_c2
  · exact w_c3
  · exact w_c4
  · exact w_c5
  · exact w_c6
  · exact w_c7
  · exact w_c8
  · exact w_c9
  · exact w_c10
  · exact w_c11
  · exact w_c12
  · exact w_c13
  · exact w_c14
  · exact w_c15
  · exact w_c16
  · exact w_c17
  · exact w_c18
  · exact w_c19
  · exact w_c20
  · exact w_c21
  · exact w_c22
  · exact w_c23
  · exact w_c24
  · exact w_c25
  · exact w_c26
  · exact w_c27
  · exact w_c28
  · exact w_c29
  · exact w_c30
  · exact w_c31
  · exact w_c32
  · exact w_c33
  · exact w_c34
set_option maxRecDepth 65536 in
theorem w_t1 : (words1.take 24).all (fun c => isCode c || c.before args0 about1) = true := by decide +kernel
set_option maxRecDepth 65536 in
theorem w_t2 : ((words1.drop 24).take 24).all (fun c => isCode c || c.before args0 about1) = true := by decide +kernel
set_option maxRecDepth 65536 in
theorem w_t3 : (((words1.drop 24).drop 24).take 24).all (fun c => isCode c || c.before args0 about1) = true := by decide +kernel
set_option maxRecDepth 65536 in
theorem w_t4 : ((((words1.drop 24).drop 24).drop 24).take 24).all (fun c => isCode c || c.before args0 about1) = true := by decide +kernel
set_option maxRecDepth 65536 in
theorem w_t5 : (((((words1.drop 24).drop 24).drop 24).drop 24).take 24).all (fun c => isCode c || c.before args0 about1) = true := by decide +kernel
set_option maxRecDepth 65536 in
theorem w_t6 : (((((words1.drop 24).drop 24).drop 24).drop 24).drop 24).all (fun c => isCode c || c.before args0 about1) = true := by decide +kernel
theorem w_tables : (allAtoms (Jvm.Cond.code x code maxLocals ret :: tables_1)).before args0 about1 = true := by
  rw [allAtoms_all]
  show words1.all (fun c => c.before args0 about1) = true
  refine all_split ?_ w_codes
  rw [← List.take_append_drop 24 words1, List.all_append, w_t1, ← List.take_append_drop 24 (words1.drop 24), List.all_append, w_t2, ← List.take_append_drop 24 ((words1.drop 24).drop 24), List.all_append, w_t3, ← List.take_append_drop 24 (((words1.drop 24).drop 24).drop 24), List.all_append, w_t4, ← List.take_append_drop 24 ((((words1.drop 24).drop 24).drop 24).drop 24), List.all_append, w_t5, w_t6]
  rfl
set_option maxRecDepth 65536 in
theorem w_rest : rest_1_c.before args0 about1 = true := by decide +kernel
set_option maxRecDepth 65536 in
theorem w_case : (Jvm.Cond.and given_1 narrow_1).before args0 about1 = true := by decide +kernel
set_option maxRecDepth 65536 in
theorem w_consts : constsHeld consts_1 about1 := Jvm.Lit.constsHeldB_iff.mp (by decide +kernel)
theorem w_applies : (headSpec (Jvm.Cond.code x code maxLocals ret :: tables_1) room_1).applies x e0.platform about1 = true :=
  (Spec.applies_iff w_frames).mpr ⟨w_running, w_runnable, w_alone, w_named, w_hears, w_ripe, w_room, w_tables⟩
theorem atStart : AtStart classFile x code maxLocals ret World_1 tables_1 room_1 Calls_1 rest_1 Pre_1 launch0 p0 e0 about1 theMethod args0 below0 :=
  ⟨lists_1, trivial, launch0.admits_env _ _ _, launch0.least_env, fairChoices_fair.cas, fairChoices_fair.clock, w_frames, w_args, w_heap, w_applies, ⟨w_consts, trivial⟩, w_rest, w_case⟩
end start1
theorem witness_1 : WitnessClaimed_1 := ⟨start1.p0, start1.e0, start1.about1, start1.theMethod, start1.args0, start1.below0, start1.atStart⟩
end Jvm.Pilot.@@N@@
