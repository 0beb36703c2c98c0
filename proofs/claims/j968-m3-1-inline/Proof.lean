import JvmDerived
import JvmDerived.Pilot.@@N@@Statement
import JvmDerived.Pilot.@@N@@Code
set_option linter.unusedVariables false
set_option linter.unusedSimpArgs false
namespace Jvm.RoadKit
open Sem ClassFile Op Lib Jvm.Stand Jvm.Free Jvm.LawKit
section New
variable {p : Program} {l : Launch} {e : Env} {R : Room} {s : State} {m : MethodId} {args : Array Value} {below : List Frame} {meth : Method} {c : Code} {T : State} {locs : List Loc} {cells slots : Nat}
theorem retI (X : Stand p l e R s m args below meth c T locs cells slots) (hx : p.tables.exec = Jvm.exec) {pc : Nat} {Ls : Array Slot} {z : Int32} {rest : List Value} (hret : meth.sig.returnType = some .int) (hd : decode c.code pc = .ok (.ireturn, 1)) {fs : List Frame}
    (hl : ∀ (f : JFrame) (acts : List Action), f.method = m → f.locked = none → f.entered = [] → (doReturn e (T.setTop f) acts (some (.int z))).1 = T.setFrames fs) : Steps p.tables e below (T.setTop (mkF m pc Ls (.int z :: rest))) (T.setFrames fs) := by
  have hm' : T.vm.method? m = some meth := X.method'
  have hn : narrow .int (.int z) = .int z := rfl
  show Steps p.tables e below (T.setTop { method := m, pc := pc, locals := Ls, stack := _ :: rest, locked := none }) _
  jvm_step X.here [X.here.top, hx, hd, hm', hret, hn]
  first | (intro acts; rw [hl _ acts rfl rfl rfl]) | rw [hl _ _ rfl rfl rfl]
  exact Steps.refl _
end New
end Jvm.RoadKit
namespace Jvm.Pilot.@@N@@
open Jvm Jvm.ClassFile Sem Op Lib Jvm.Free Jvm.Stand Jvm.LawKit Jvm.RoadKit Bundle Jvm.Pilot.@@N@@.Jvm.D
theorem own_eqI {t : Term} {n : Int32} {args : Array Value} {s : State} (h : (Jvm.Cond.eq t (.int n)).value args s none s [] = some true) : t.eval args s none [] s = some (.int n) := by
  simp only [Cond.value, Term.eval] at h
  cases ht : t.eval args s none [] s with
  | none => simp [ht] at h
  | some x => cases x <;> simp [ht] at h ⊢; exact h
theorem own_eqJ {t : Term} {n : Int64} {args : Array Value} {s : State} (h : (Jvm.Cond.eq t (.long n)).value args s none s [] = some true) : t.eval args s none [] s = some (.long n) := by
  simp only [Cond.value, Term.eval] at h
  cases ht : t.eval args s none [] s with
  | none => simp [ht] at h
  | some x => cases x <;> simp [ht] at h ⊢; exact h
theorem own_eqR {t u : Term} {a : Addr} {args : Array Value} {s : State} (h : (Jvm.Cond.eq t u).value args s none s [] = some true) (hu : u.eval args s none [] s = some (.ref a)) : t.eval args s none [] s = some (.ref a) := by
  simp only [Cond.value, hu] at h
  cases ht : t.eval args s none [] s with
  | none => simp [ht] at h
  | some x => cases x <;> simp [ht] at h ⊢; exact h
theorem own_len {t : Term} {w : Addr} {c : Cell} {ty : FieldType} {n : Int32} {args : Array Value} {s : State} (ev : t.eval args s none [] s = some (.ref w)) (A : Arr s s.heap w c ty) (h : (Term.length t).eval args s none [] s = some (.int n)) (hn : ¬ n < 0) : c.slots.size = n.toNatClampNeg := by
  simp only [Term.eval, ev, A.fin (Vm.Alike.refl _), Option.bind_eq_bind, Option.bind_some] at h
  split at h
  · rename_i hl
    have q : c.slots.size.toInt32 = n := by simpa using h
    rw [← q]
    have q2 : c.slots.size.toInt32.toInt = (c.slots.size : Int) := len_toInt hl
    have q3 := nat_of (j := c.slots.size.toInt32) (by rw [q]; exact hn)
    omega
  · simp at h
theorem own_extW {Z : State} {h h' : Heap} {a : Addr} {sl : Nat} {v : Value} (X : Ext Z.heap h) (W : Wr h h' a sl v) (q : Z.heap.size ≤ a) : Ext Z.heap h' := (Old.wr (Z := Z) ⟨rfl, X⟩ W q).2
theorem own_ext2 {h h' h'' : Heap} (X : Ext h h') (E : Ext h' h'') : Ext h h'' := ⟨Nat.le_trans X.1 E.1, fun x c q => E.2 x c (X.2 x c q)⟩
theorem own_extK {Z : State} {h h' : Heap} {ws : List Addr} (X : Ext Z.heap h) (K : Keep h h' ws) (q : ∀ x ∈ ws, Z.heap.size ≤ x) : Ext Z.heap h' := (Old.keep (Z := Z) ⟨rfl, X⟩ K q).2
theorem own_neI {t : Term} {n x : Int32} {args : Array Value} {s : State} (h : (Jvm.Cond.eq t (.int n)).value args s none s [] = some (!true)) (ev : t.eval args s none [] s = some (.int x)) : ¬ (x = n) := by
  intro q
  subst q
  simp [Cond.value, Term.eval, ev] at h
theorem own_nsRoot {Z : State} {a0 : Array Value} {O K : String} {n : Nat} (w : (Jvm.Cond.noSuperclass O).before a0 Z = true) (wk : (Jvm.Cond.instantiable K n).before a0 Z = true) (hn : O ≠ K) : NS Z O K := by
  obtain ⟨c, k, h1, h2, h3, -, -⟩ := Cond.noSuperclass_spec w
  obtain ⟨t, k', g1, -⟩ := Cond.instantiable_spec wk
  have ne := ids_ne h1 g1 hn
  refine ⟨c, t, h1, g1, fun fuel => ?_⟩
  cases fuel with
  | zero => rfl
  | succ f => simp [Vm.isSubclassAux, ne, h2, h3]
theorem own_nsNo {Z : State} {a0 : Array Value} {C S K : String} {n : Nat} (w : (Jvm.Cond.superclass C S).before a0 Z = true) (wk : (Jvm.Cond.instantiable K n).before a0 Z = true) (N : NS Z C K) (hn : C ≠ K) : ∃ c t, Z.vm.findClass C = some c ∧ Z.vm.findClass K = some t ∧ Z.vm.assignable c t = false := by
  obtain ⟨c, t, h0, g0, n3⟩ := N
  obtain ⟨p, k, kp, h1, h2, h3, h4, h5, -, h7⟩ := Cond.superclass_spec h0 w
  obtain ⟨q, k', g1, g2, g5, g7, -, -⟩ := Cond.instantiable_spec wk
  cases g0.symm.trans g1
  have ne := ids_ne h0 g0 hn
  have gi : k'.isInterface = false := by cases hi : k'.isInterface <;> simp [hi] at g7 ⊢
  refine ⟨c, t, h0, g0, ?_⟩
  show Z.vm.assignableAux (255 + 1) c t = false
  simp [Vm.assignableAux, ne, h2, g2, h5, g5, gi, Vm.isSubclass, n3]
theorem own_nb (x : Int32) : nar .byte (x.toInt8.toInt32) = x.toInt8.toInt32 := by simp [nar]
set_option maxRecDepth 65536
set_option maxHeartbeats 40000000
abbrev own_HW (Z : State) (a0 : Array Value) : Prop := ∀ d ∈ tables_1, d.before a0 Z = true
abbrev own_S (p : Program) (e : Env) (below : List Frame) (T : State) (g : JFrame) (t : State) : Prop := Steps p.tables e below (T.setTop g) t
theorem own_w {Z : State} {a0 : Array Value} (hw : ∀ d ∈ tables_1, d.before a0 Z = true) {d : Jvm.Cond} (i : Nat) (h : tables_1[i]? = some d) : d.before a0 Z = true := hw _ (List.mem_of_getElem? h)
/-- a body's contract: what it returns and leaves -/
abbrev own_met (l : Launch) (y : MethodName) (b : ByteArray) (ml : Nat) (rt : Option FieldType) (ws : List Jvm.Cond) (R : Room) (Z : State) (A : Array Value) (h0 : Heap) (Q : Option Value → Heap → List Loc → Prop) : Prop :=
  MetFree l y (head1 (Jvm.Cond.code y b ml rt :: ws) R) (fun a U => a = A ∧ Z.Warmed39 U.vm ∧ U.heap = h0) (fun _ _ _ _ _ => True) (fun _ U o U' => ∃ v L, o = .returned v ∧ Q v U'.heap L ∧ FrameEnd U o U' L R.cells R.slots)
theorem own_start {l : Launch} {y : MethodName} {b : ByteArray} {ml : Nat} {rt : Option FieldType} {ws : List Jvm.Cond} {R : Room} {Z : State} {A : Array Value} {h0 : Heap} {Q : Option Value → Heap → List Loc → Prop} {Ls : Array Slot}
    (hpl : plainFor y = true) (hef : ∀ m, entryFrame m A ml = mkF m 0 Ls [])
    (body : ∀ p e s m below meth c s₁, p.tables.exec = Jvm.exec → c.code = b → c.maxLocals = ml → s.vm.findClass y.cls = some m.cls → meth.name = y.name → Stand p l e R s m A below meth c s₁ [] 0 0 → Z.Warmed39 s.vm → s₁.heap = h0 → meth.sig.returnType = rt → meth.locks = false →
      ∃ s₂ o, Steps p.tables e below (s₁.setTop (mkF m 0 Ls [])) s₂ ∧ s₂.status = .running ∧ Ended s₂ below o ∧ ∃ v L, o = .returned v ∧ Q v s₂.heap L ∧ FrameEnd s o s₂ L R.cells R.slots) : own_met l y b ml rt ws R Z A h0 Q := by
  refine MetFree.of_bodySF hpl hisR ?_
  intro p e s m args below meth c s₁ Bd hml0 hP hK
  obtain ⟨rfl, hZ, hh⟩ := hP
  obtain ⟨s₂, o, k, r⟩ := body p e s m below meth c s₁ Bd.exec Bd.bytes hml0 (findClass_of_methodNamed Bd.named) (name_of_methodNamed Bd.named Bd.method).1 (Stand.of_body Bd) hZ (by rw [← hh, Bd.state]; rfl) Bd.returns Bd.notSynchronized
  exact ⟨s₂, o, castTop (hef m) k, r⟩
section OwnCalls
variable {p : Program} {l : Launch} {e : Env} {R : Room} {s : State} {m : MethodId} {args : Array Value} {below : List Frame} {meth : Method} {c : Code} {T : State} {locs : List Loc} {cells slots : Nat} {Z : State} {a0 : Array Value} {h : Heap} {own : String} {index : Nat} {y z : MethodName} {b : ByteArray} {ml : Nat} {rt : Option FieldType} {rm : Room} {as' : Array Value} {Q : Option Value → Heap → List Loc → Prop} {W : Nat} {g : JFrame} {argsL rest : List Value}
theorem own_static (X : Stand p l e R s m args below meth c T locs cells slots) (hx : p.tables.exec = Jvm.exec) (hZ : Z.Warmed39 s.vm) (hown : s.vm.findClass own = some m.cls) (w1 : (Jvm.Cond.methodLink own index y).before a0 Z = true) (w2 : (Jvm.Cond.static y).before a0 Z = true) (w3 : (Jvm.Cond.initialized y.cls).before a0 Z = true) (w4 : (Jvm.Cond.code y b ml rt).before a0 Z = true)
    (hM : own_met l y b ml rt [] rm Z as' h Q) (eT : T.heap = h) (hlen : ∀ sig, parseMethodDescriptor y.desc = some sig → argsL.length = sig.parameters.length)     (hd : decode c.code g.pc = .ok (.invokestatic index, 3)) {ML : Nat} (hml : c.maxLocals = ML) (hy : y.cls ≠ "java/lang/invoke/MethodHandle" ∧ y.cls ≠ "java/lang/invoke/VarHandle" := by decide) (hf : rm.frames + 1 ≤ R.frames := by decide) (hl : W + (ml + 11) + rm.locals ≤ R.locals := by decide) (hg : g.method = m := by rfl) (hsz : g.locals.size = ML := by rfl) (ha : argsL.toArray = as' := by rfl) (hs : g.stack = argsL.reverse ++ rest := by rfl) (hW : 2 * g.monitorRoom + (rest.map fun v => v.category).sum ≤ W := by (show 2 * 0 + _ ≤ _; exact Nat.le_of_eq rfl)) (hc : cells + rm.cells ≤ R.cells := by decide) (hsl : slots + rm.slots ≤ R.slots := by decide) :
    ∃ v T' L, Stand p l e R s m args below meth c T' (locs ++ L) (cells + rm.cells) (slots + rm.slots) ∧ Q v T'.heap L ∧ ∀ target, Steps p.tables e below (T'.setTop { g with pc := g.pc + 3, stack := v.toList ++ rest }) target → Steps p.tables e below (T.setTop g) target := by
  obtain ⟨v, _, ⟨T', L', k', n'⟩, -, X', ⟨Lc, hQ, l1, y1, z1⟩, st⟩ := Jvm.LawKit.callS X hx (y := y) hown (mvT hZ w1) (mvT hZ w2) (mvT hZ w3) (mvT hZ w4) hy (backOf (W := W) hM hZ w4 w3 hf hl) (g := g) hg (hsz.trans hml.symm) (argsL := argsL) (rest := rest) hlen hs hW hd (fun _ _ => ⟨ha, eT, hc, hsl⟩)
  dsimp only [Pt.U, Pt.locs, Pt.cells, Pt.slots] at X' l1 y1 z1 st hQ
  subst l1 y1 z1
  exact ⟨v, T', Lc, X', hQ, st⟩
theorem own_special (X : Stand p l e R s m args below meth c T locs cells slots) (hx : p.tables.exec = Jvm.exec) (hZ : Z.Warmed39 s.vm) (hown : s.vm.findClass own = some m.cls) (hn : y.name = "<init>") (w1 : (Jvm.Cond.methodLink own index y).before a0 Z = true) (w2 : (Jvm.Cond.instanceMethod y).before a0 Z = true) (w3 : (Jvm.Cond.initialized y.cls).before a0 Z = true) (w4 : (Jvm.Cond.code y b ml none).before a0 Z = true)
    (hM : own_met l y b ml none [] rm Z as' h Q) (eT : T.heap = h) (a : Addr) (hlen : ∀ sig, parseMethodDescriptor y.desc = some sig → argsL.length = sig.parameters.length)     (hd : decode c.code g.pc = .ok (.invokespecial index, 3)) {ML : Nat} (hml : c.maxLocals = ML) (hy : y.cls ≠ "java/lang/invoke/MethodHandle" ∧ y.cls ≠ "java/lang/invoke/VarHandle" := by decide) (hf : rm.frames + 1 ≤ R.frames := by decide) (hl : W + (ml + 11) + rm.locals ≤ R.locals := by decide) (hg : g.method = m := by rfl) (hsz : g.locals.size = ML := by rfl) (ha : (Value.ref a :: argsL).toArray = as' := by rfl) (hs : g.stack = argsL.reverse ++ .ref a :: rest := by rfl) (hW : 2 * g.monitorRoom + (rest.map fun v => v.category).sum ≤ W := by (show 2 * 0 + _ ≤ _; exact Nat.le_of_eq rfl)) (hc : cells + rm.cells ≤ R.cells := by decide) (hsl : slots + rm.slots ≤ R.slots := by decide) :
    ∃ v T' L, Stand p l e R s m args below meth c T' (locs ++ L) (cells + rm.cells) (slots + rm.slots) ∧ Q v T'.heap L ∧ ∀ target, Steps p.tables e below (T'.setTop { g with pc := g.pc + 3, stack := v.toList ++ rest }) target → Steps p.tables e below (T.setTop g) target := by
  obtain ⟨v, _, ⟨T', L', k', n'⟩, -, X', ⟨Lc, hQ, l1, y1, z1⟩, st⟩ := X.specialBack hx (y := y) hn hown (mvT hZ w1) (mvT hZ w2) (mvT hZ w4) hy (backOf (W := W) hM hZ w4 w3 hf hl) (g := g) hg (hsz.trans hml.symm) (Steps.refl _) (a := a) (argsL := argsL) (rest := rest) hlen hs hW hd (fun _ _ => ⟨ha, eT, hc, hsl⟩)
  dsimp only [Pt.U, Pt.locs, Pt.cells, Pt.slots] at X' l1 y1 z1 st hQ
  subst l1 y1 z1
  exact ⟨v, T', Lc, X', hQ, fun _ k => st.trans k⟩
theorem own_virtual (X : Stand p l e R s m args below meth c T locs cells slots) (hx : p.tables.exec = Jvm.exec) (hZ : Z.Warmed39 s.vm) (hown : s.vm.findClass own = some m.cls) {C : String} (w1 : (Jvm.Cond.methodLink own index y).before a0 Z = true) (w5 : (Jvm.Cond.declares y).before a0 Z = true) (w6 : (Jvm.Cond.selects C y y).before a0 Z = true) (w2 : (Jvm.Cond.instanceMethod y).before a0 Z = true) (w3 : (Jvm.Cond.initialized y.cls).before a0 Z = true) (w4 : (Jvm.Cond.code y b ml rt).before a0 Z = true)
    (hM : own_met l y b ml rt [] rm Z as' h Q) (eT : T.heap = h) {a : Addr} (E : Exa Z h a C) (hlen : ∀ sig, parseMethodDescriptor y.desc = some sig → argsL.length = sig.parameters.length)     (hd : decode c.code g.pc = .ok (.invokevirtual index, 3)) {ML : Nat} (hml : c.maxLocals = ML) (hy : y.cls ≠ "java/lang/invoke/MethodHandle" ∧ y.cls ≠ "java/lang/invoke/VarHandle" := by decide) (hf : rm.frames + 1 ≤ R.frames := by decide) (hl : W + (ml + 11) + rm.locals ≤ R.locals := by decide) (hg : g.method = m := by rfl) (hsz : g.locals.size = ML := by rfl) (ha : (Value.ref a :: argsL).toArray = as' := by rfl) (hs : g.stack = argsL.reverse ++ .ref a :: rest := by rfl) (hW : 2 * g.monitorRoom + (rest.map fun v => v.category).sum ≤ W := by (show 2 * 0 + _ ≤ _; exact Nat.le_of_eq rfl)) (hc : cells + rm.cells ≤ R.cells := by decide) (hsl : slots + rm.slots ≤ R.slots := by decide) :
    ∃ v T' L, Stand p l e R s m args below meth c T' (locs ++ L) (cells + rm.cells) (slots + rm.slots) ∧ Q v T'.heap L ∧ ∀ target, Steps p.tables e below (T'.setTop { g with pc := g.pc + 3, stack := v.toList ++ rest }) target → Steps p.tables e below (T.setTop g) target := by
  obtain ⟨cq, kq, qa, qb, qc⟩ := isOf hZ eT E
  obtain ⟨v, _, ⟨T', L', k', n'⟩, -, X', ⟨Lc, hQ, l1, y1, z1⟩, st⟩ := X.virtualBack hx (y := y) (z := y) hown (mvT hZ w1) (mvT hZ w5) (notFace_of_selects (args := #[]) (mvT hZ w6)) (mvT hZ w6) (mvT hZ w2) hy (backOf (W := W) hM hZ w4 w3 hf hl) qa qc (g := g) hg (hsz.trans hml.symm) (Steps.refl _) (argsL := argsL) (rest := rest) hlen hs hW hd (fun _ _ => ⟨ha, eT, hc, hsl⟩)
  dsimp only [Pt.U, Pt.locs, Pt.cells, Pt.slots] at X' l1 y1 z1 st hQ
  subst l1 y1 z1
  exact ⟨v, T', Lc, X', hQ, fun _ k => st.trans k⟩
theorem own_virtualUp (X : Stand p l e R s m args below meth c T locs cells slots) (hx : p.tables.exec = Jvm.exec) (hZ : Z.Warmed39 s.vm) (hown : s.vm.findClass own = some m.cls) {C owner : String} (w1 : (Jvm.Cond.methodLink own index z).before a0 Z = true) (w7 : (Jvm.Cond.sameMethod z.cls owner z.name z.desc).before a0 Z = true) (w5 : (Jvm.Cond.declares ⟨owner, z.name, z.desc⟩).before a0 Z = true) (w6 : (Jvm.Cond.selects C z y).before a0 Z = true) (w2 : (Jvm.Cond.instanceMethod y).before a0 Z = true) (w3 : (Jvm.Cond.initialized y.cls).before a0 Z = true) (w4 : (Jvm.Cond.code y b ml rt).before a0 Z = true)
    (hM : own_met l y b ml rt [] rm Z as' h Q) (eT : T.heap = h) {a : Addr} (E : Exa Z h a C) (hlen : ∀ sig, parseMethodDescriptor z.desc = some sig → argsL.length = sig.parameters.length)     (hd : decode c.code g.pc = .ok (.invokevirtual index, 3)) {ML : Nat} (hml : c.maxLocals = ML) (hy : owner ≠ "java/lang/invoke/MethodHandle" ∧ owner ≠ "java/lang/invoke/VarHandle" := by decide) (hf : rm.frames + 1 ≤ R.frames := by decide) (hl : W + (ml + 11) + rm.locals ≤ R.locals := by decide) (hg : g.method = m := by rfl) (hsz : g.locals.size = ML := by rfl) (ha : (Value.ref a :: argsL).toArray = as' := by rfl) (hs : g.stack = argsL.reverse ++ .ref a :: rest := by rfl) (hW : 2 * g.monitorRoom + (rest.map fun v => v.category).sum ≤ W := by (show 2 * 0 + _ ≤ _; exact Nat.le_of_eq rfl)) (hc : cells + rm.cells ≤ R.cells := by decide) (hsl : slots + rm.slots ≤ R.slots := by decide) :
    ∃ v T' L, Stand p l e R s m args below meth c T' (locs ++ L) (cells + rm.cells) (slots + rm.slots) ∧ Q v T'.heap L ∧ ∀ target, Steps p.tables e below (T'.setTop { g with pc := g.pc + 3, stack := v.toList ++ rest }) target → Steps p.tables e below (T.setTop g) target := by
  obtain ⟨cq, kq, qa, qb, qc⟩ := isOf hZ eT E
  obtain ⟨v, _, ⟨T', L', k', n'⟩, -, X', ⟨Lc, hQ, l1, y1, z1⟩, st⟩ := X.virtualBackUp hx (x := z) (y := y) (owner := owner) hown (mvT hZ w1) (mvT hZ w7) (mvT hZ w5) hy (mvT hZ w6) (mvT hZ w2) (backOf (W := W) hM hZ w4 w3 hf hl) qa qc (g := g) hg (hsz.trans hml.symm) (Steps.refl _) (argsL := argsL) (rest := rest) hlen hs hW hd (fun _ _ => ⟨ha, eT, hc, hsl⟩)
  dsimp only [Pt.U, Pt.locs, Pt.cells, Pt.slots] at X' l1 y1 z1 st hQ
  subst l1 y1 z1
  exact ⟨v, T', Lc, X', hQ, fun _ k => st.trans k⟩
end OwnCalls
section OwnSteps
variable {p : Program} {l : Launch} {e : Env} {R : Room} {s : State} {m : MethodId} {args : Array Value} {below : List Frame} {meth : Method} {c : Code} {T target : State} {locs : List Loc} {cells slots : Nat} {b : ByteArray} {pc : Nat} {Ls : Array Slot} {St : List Value}
theorem own_aN (X : Stand p l e R s m args below meth c T locs cells slots) (hx : p.tables.exec = Jvm.exec) (hby : c.code = b) {k : Fin 4} {v : Value} (hd : decode b pc = .ok (.aload_n k, 1)) (hr : own_S p e below T (mkF m (pc + 1) Ls (v :: St)) target) (hl : Ls[k.val]? = some (.val v) := by rfl) (hv : v.isRef = true := by rfl) : own_S p e below T (mkF m pc Ls St) target := XS.aloadN X.here hx rfl (hb hby hd) hl hv hr
theorem own_a (X : Stand p l e R s m args below meth c T locs cells slots) (hx : p.tables.exec = Jvm.exec) (hby : c.code = b) {k : Nat} {v : Value} (hd : decode b pc = .ok (.aload k, 2)) (hr : own_S p e below T (mkF m (pc + 2) Ls (v :: St)) target) (hl : Ls[k]? = some (.val v) := by rfl) (hv : v.isRef = true := by rfl) : own_S p e below T (mkF m pc Ls St) target := XS.aload X.here hx rfl (hb hby hd) hl hv hr
theorem own_iN (X : Stand p l e R s m args below meth c T locs cells slots) (hx : p.tables.exec = Jvm.exec) (hby : c.code = b) {k : Fin 4} {v : Int32} (hd : decode b pc = .ok (.iload_n k, 1)) (hr : own_S p e below T (mkF m (pc + 1) Ls (.int v :: St)) target) (hl : Ls[k.val]? = some (.val (.int v)) := by rfl) : own_S p e below T (mkF m pc Ls St) target := XS.iloadN X.here hx rfl (hb hby hd) hl hr
theorem own_i (X : Stand p l e R s m args below meth c T locs cells slots) (hx : p.tables.exec = Jvm.exec) (hby : c.code = b) {k : Nat} {v : Int32} (hd : decode b pc = .ok (.iload k, 2)) (hr : own_S p e below T (mkF m (pc + 2) Ls (.int v :: St)) target) (hl : Ls[k]? = some (.val (.int v)) := by rfl) : own_S p e below T (mkF m pc Ls St) target := XS.iload X.here hx rfl (hb hby hd) hl hr
theorem own_k (X : Stand p l e R s m args below meth c T locs cells slots) (hx : p.tables.exec = Jvm.exec) (hby : c.code = b) {k : Int} (hd : decode b pc = .ok (.iconst k, 1)) (hr : own_S p e below T (mkF m (pc + 1) Ls (.int (Int32.ofInt k) :: St)) target) : own_S p e below T (mkF m pc Ls St) target := XS.iconst X.here hx rfl (hb hby hd) hr
theorem own_go (X : Stand p l e R s m args below meth c T locs cells slots) (hx : p.tables.exec = Jvm.exec) (hby : c.code = b) {o : Int} (hd : decode b pc = .ok (.goto o, 3)) (pc' : Nat) (hr : own_S p e below T (mkF m pc' Ls St) target) (h1 : 0 ≤ (pc : Int) + o := by decide) (h2 : ((pc : Int) + o).toNat = pc' := by decide) : own_S p e below T (mkF m pc Ls St) target := XS.goto X.here hx rfl (pc0 := pc) (pc' := pc') rfl (hb hby hd) h1 h2 hr
theorem own_in (X : Stand p l e R s m args below meth c T locs cells slots) (hx : p.tables.exec = Jvm.exec) (hby : c.code = b) {cd : ClassFile.Cond} {o : Int} {v : Int32} (hd : decode b pc = .ok (.ifCond cd o, 3)) (hq : if_icmp.holds cd v 0 = false) (hr : own_S p e below T (mkF m (pc + 3) Ls St) target) : own_S p e below T (mkF m pc Ls (.int v :: St)) target := XS.ifNo X.here hx rfl (hb hby hd) rfl ((if0 _ _).trans hq) hr
theorem own_iy (X : Stand p l e R s m args below meth c T locs cells slots) (hx : p.tables.exec = Jvm.exec) (hby : c.code = b) {cd : ClassFile.Cond} {o : Int} {v : Int32} (hd : decode b pc = .ok (.ifCond cd o, 3)) (hq : if_icmp.holds cd v 0 = true) (pc' : Nat) (hr : own_S p e below T (mkF m pc' Ls St) target) (h1 : 0 ≤ (pc : Int) + o := by decide) (h2 : ((pc : Int) + o).toNat = pc' := by decide) : own_S p e below T (mkF m pc Ls (.int v :: St)) target := XS.ifYes X.here hx rfl (pc0 := pc) (pc' := pc') rfl (hb hby hd) rfl ((if0 _ _).trans hq) h1 h2 hr
theorem own_cn (X : Stand p l e R s m args below meth c T locs cells slots) (hx : p.tables.exec = Jvm.exec) (hby : c.code = b) {cd : ClassFile.Cond} {o : Int} {v w : Int32} (hd : decode b pc = .ok (.if_icmp cd o, 3)) (hq : if_icmp.holds cd v w = false) (hr : own_S p e below T (mkF m (pc + 3) Ls St) target) : own_S p e below T (mkF m pc Ls (.int w :: .int v :: St)) target := XS.icmpNo X.here hx rfl (hb hby hd) rfl hq hr
theorem own_cy (X : Stand p l e R s m args below meth c T locs cells slots) (hx : p.tables.exec = Jvm.exec) (hby : c.code = b) {cd : ClassFile.Cond} {o : Int} {v w : Int32} (hd : decode b pc = .ok (.if_icmp cd o, 3)) (hq : if_icmp.holds cd v w = true) (pc' : Nat) (hr : own_S p e below T (mkF m pc' Ls St) target) (h1 : 0 ≤ (pc : Int) + o := by decide) (h2 : ((pc : Int) + o).toNat = pc' := by decide) : own_S p e below T (mkF m pc Ls (.int w :: .int v :: St)) target := XS.icmpYes X.here hx rfl (pc0 := pc) (pc' := pc') rfl (hb hby hd) rfl hq h1 h2 hr
end OwnSteps

def own_ib (j n : Int32) : Prop := ¬ j < 0 ∧ j < n
def own_get (vs : List Value) (j : Int32) (d v : Value) : Prop := vs.getD j.toNatClampNeg d = v
def own_cap (n : Int32) (k : Nat) : Prop := n.toNatClampNeg ≤ k
def own_qp (Z : State) (r : Option Value) (h0 : Heap) (v : Option Value) (h : Heap) (L : List Loc) : Prop := v = r ∧ Fr Z.heap.size L ∧ h = h0
theorem own_lt {a b : Int32} {x y : Int} (ha : a.toInt = x) (hb : b.toInt = y) (h : x < y) : a < b := by rw [Int32.lt_iff_toInt_lt, ha, hb]; exact h
theorem own_nlt {a b : Int32} {x y : Int} (ha : a.toInt = x) (hb : b.toInt = y) (h : ¬ x < y) : ¬ a < b := by rw [Int32.lt_iff_toInt_lt, ha, hb]; exact h
theorem own_ltI {a b : Int32} (h : a < b) : a.toInt < b.toInt := Int32.lt_iff_toInt_lt.mp h
theorem own_nltI {a b : Int32} (h : ¬ a < b) : b.toInt ≤ a.toInt := Int.not_lt.mp fun q => h (Int32.lt_iff_toInt_lt.mpr q)
theorem own_mono {l : Launch} {y : MethodName} {b : ByteArray} {ml : Nat} {rt : Option FieldType} {ws : List Jvm.Cond} {R : Room} {Z : State} {A : Array Value} {h0 : Heap} {Q Q' : Option Value → Heap → List Loc → Prop} (M : own_met l y b ml rt ws R Z A h0 Q) (q : ∀ v h L, Q v h L → Q' v h L) : own_met l y b ml rt ws R Z A h0 Q' :=
  M.mono (fun _ _ h => h) (fun _ _ _ _ _ h => h) (fun _ _ _ _ _ r => by obtain ⟨v, L, a, b, c⟩ := r; exact ⟨v, L, a, q _ _ _ b, c⟩)
theorem own_get_of {vs : List Value} {j : Int32} {d v : Value} (i : Nat) (h : j.toNatClampNeg = i) (q : vs.getD i d = v) : own_get vs j d v := by unfold own_get; rw [h]; exact q
theorem own_back {n : Nat} (h : n < 1000) : (Int32.ofNat n).toNatClampNeg = n ∧ ¬ (Int32.ofNat n < 0) := by
  have q : (Int32.ofNat n).toInt = n := Int32.toInt_ofNat_of_lt (by omega)
  have z : ¬ (Int32.ofNat n < 0) := own_nlt q (by decide : (0 : Int32).toInt = 0) (by omega)
  exact ⟨by have := nat_of z; omega, z⟩
theorem own_ofNat_lt {a b : Nat} (h : a < b) (hb : b < 1000) : Int32.ofNat a < Int32.ofNat b := own_lt (Int32.toInt_ofNat_of_lt (by omega)) (Int32.toInt_ofNat_of_lt (by omega)) (by omega)
theorem own_succ (i : Nat) : Int32.ofNat i + (1 : Int32) = Int32.ofNat (i + 1) := (Int32.ofNat_add i 1).symm
theorem own_neg {q : Int32} (h : 0 ≤ q.toInt) : (-q).toInt = -q.toInt := by
  have a := c_ineg q
  have r := rng32 (-q)
  have r' := rng32 q
  omega
def own_N (q : Int32) : Nat := q.toInt.natAbs
def own_x (q : Int32) (j : Nat) : Int32 := Int32.ofInt (-((own_N q / 100 ^ j : Nat) : Int))
def own_r (q : Int32) (j : Nat) : Int32 := Int32.ofNat (own_N q / 100 ^ j % 100)
def own_d (q : Int32) (t : Nat) : Int32 := Int32.ofNat (48 + own_N q / 10 ^ t % 10)
def own_ones : List Value := (List.range 100).map fun j => .int ((48 : Int32) + (Int32.ofNat j % 10))
def own_tens : List Value := (List.range 100).map fun j => .int ((48 : Int32) + (Int32.ofNat j / 10))
/-- q's amount has k decimal digits -/
def own_nk (q : Int32) (k : Nat) : Prop := True ∧ 1 ≤ k ∧ k ≤ 10 ∧ own_N q < 10 ^ k ∧ (1 < k → 10 ^ (k - 1) ≤ own_N q)
theorem own_nd_pow {q : Int32} {k : Nat} (h : own_nk q k) : own_nk q k := h
/-- q is said by kk chars, the sign counted -/
def own_nd (q : Int32) (kk : Nat) : Prop := (¬ q < 0 ∧ own_nk q kk) ∨ ∃ k, kk = k + 1 ∧ q < 0 ∧ own_nk q k
theorem own_N_le (q : Int32) : own_N q ≤ 2147483648 := by have := rng32 q; simp only [own_N]; omega
theorem own_toI {n : Nat} (h : n < 2147483648) : (Int32.ofNat n).toInt = n := Int32.toInt_ofNat_of_lt (by omega)
theorem own_div_le (q : Int32) (j : Nat) : own_N q / 100 ^ j ≤ 2147483648 := Nat.le_trans (Nat.div_le_self _ _) (own_N_le q)
theorem own_xI (q : Int32) (j : Nat) : (own_x q j).toInt = -((own_N q / 100 ^ j : Nat) : Int) := by
  have h := own_div_le q j
  unfold own_x
  generalize own_N q / 100 ^ j = n at *
  exact Int32.toInt_ofInt_of_le (by omega) (by omega)
theorem own_xI0 (q : Int32) : (own_x q 0).toInt = -((own_N q : Nat) : Int) := by rw [own_xI, Nat.pow_zero, Nat.div_one]
theorem own_x0 {q : Int32} (h : ¬ (q < (0 : Int32))) : (-q) = own_x q 0 := by
  have h' := own_nltI h
  rw [(by decide : (0 : Int32).toInt = 0)] at h'
  apply Int32.toInt_inj.mp
  rw [own_xI0, own_neg h']
  simp only [own_N]; omega
theorem own_xneg {q : Int32} (h : q < (0 : Int32)) : q = own_x q 0 := by
  have h' := own_ltI h
  rw [(by decide : (0 : Int32).toInt = 0)] at h'
  apply Int32.toInt_inj.mp
  rw [own_xI0]
  simp only [own_N]; omega
theorem own_xn0 {q : Int32} (h : q < (0 : Int32)) : own_x q 0 < (0 : Int32) := own_xneg h ▸ h
theorem own_xd (q : Int32) (j : Nat) : own_x q j / (100 : Int32) = own_x q (j + 1) := by
  apply Int32.toInt_inj.mp
  have h := c_idiv (own_x q j) (100 : Int32) 100 (by decide) (by decide)
  rw [own_xI] at h ⊢
  rw [Nat.pow_succ, ← Nat.div_div_eq_div_mul]
  generalize own_N q / 100 ^ j = n at *
  by_cases z : n = 0
  · subst z; rw [h.1 (by omega)]; rfl
  · rw [h.2 (by omega)]; omega
theorem own_rI (q : Int32) (j : Nat) : (own_r q j).toInt = ((own_N q / 100 ^ j % 100 : Nat) : Int) := own_toI (by omega)
theorem own_xr (q : Int32) (j : Nat) : own_x q (j + 1) * (100 : Int32) - own_x q j = own_r q j := by
  apply Int32.toInt_inj.mp
  have a := c_imul (own_x q (j + 1)) (100 : Int32)
  have b := c_isub (own_x q (j + 1) * (100 : Int32)) (own_x q j)
  have r1 := rng32 (own_x q (j + 1) * (100 : Int32))
  have r2 := rng32 (own_x q (j + 1) * (100 : Int32) - own_x q j)
  rw [own_rI]
  rw [own_xI] at a
  rw [own_xI] at b
  rw [Nat.pow_succ, ← Nat.div_div_eq_div_mul] at a
  rw [(by decide : (100 : Int32).toInt = 100)] at a
  have l := own_div_le q j
  generalize own_N q / 100 ^ j = n at *
  omega
theorem own_xn {q : Int32} {j : Nat} (h : own_N q / 100 ^ j < 100) : -(own_x q j) = own_r q j := by
  apply Int32.toInt_inj.mp
  have a := c_ineg (own_x q j)
  have r := rng32 (-(own_x q j))
  rw [own_xI] at a
  rw [own_rI]
  generalize own_N q / 100 ^ j = n at *
  omega
theorem own_rN (q : Int32) (j : Nat) : (own_r q j).toNatClampNeg = own_N q / 100 ^ j % 100 := (own_back (n := own_N q / 100 ^ j % 100) (by omega)).1
theorem own_rib (q : Int32) (j : Nat) : own_ib (own_r q j) (100 : Int32) := ⟨(own_back (n := own_N q / 100 ^ j % 100) (by omega)).2, own_ofNat_lt (b := 100) (by omega) (by omega)⟩
theorem own_pow2 (j : Nat) : (100 : Nat) ^ j = 10 ^ (2 * j) := by rw [show (100 : Nat) = 10 ^ 2 from rfl, ← Nat.pow_mul]
theorem own_r1 (q : Int32) (j : Nat) : own_get own_ones (own_r q j) (.int (0 : Int32)) (.int (own_d q (2 * j))) := by
  refine own_get_of _ (own_rN q j) ?_
  have h : own_N q / 100 ^ j % 100 < 100 := Nat.mod_lt _ (by decide)
  have e : own_d q (2 * j) = Int32.ofNat (48 + own_N q / 100 ^ j % 100 % 10) := by
    rw [own_d, own_pow2, show (own_N q / 10 ^ (2 * j)) % 10 = own_N q / 10 ^ (2 * j) % 100 % 10 by omega]
  rw [e]
  generalize own_N q / 100 ^ j % 100 = r at *
  exact (by decide : ∀ r, r < 100 → own_ones.getD r (.int (0 : Int32)) = .int (Int32.ofNat (48 + r % 10))) r h
theorem own_r2 (q : Int32) (j : Nat) : own_get own_tens (own_r q j) (.int (0 : Int32)) (.int (own_d q (2 * j + 1))) := by
  refine own_get_of _ (own_rN q j) ?_
  have h : own_N q / 100 ^ j % 100 < 100 := Nat.mod_lt _ (by decide)
  have e : own_d q (2 * j + 1) = Int32.ofNat (48 + own_N q / 100 ^ j % 100 / 10) := by
    rw [own_d, own_pow2, Nat.pow_succ, ← Nat.div_div_eq_div_mul]
    generalize own_N q / 10 ^ (2 * j) = n
    rw [show n / 10 % 10 = n % 100 / 10 by omega]
  rw [e]
  generalize own_N q / 100 ^ j % 100 = r at *
  exact (by decide : ∀ r, r < 100 → own_tens.getD r (.int (0 : Int32)) = .int (Int32.ofNat (48 + r / 10))) r h
theorem own_dnb (q : Int32) (t : Nat) : nar .byte (own_d q t) = own_d q t := by
  have h : own_N q / 10 ^ t % 10 < 10 := Nat.mod_lt _ (by decide)
  rw [own_d]
  generalize own_N q / 10 ^ t % 10 = r at *
  exact (by decide : ∀ r, r < 10 → nar .byte (Int32.ofNat (48 + r)) = Int32.ofNat (48 + r)) r h
theorem own_more {q : Int32} {k j : Nat} (h : own_nk q k) (hj : j < (k - 1) / 2) : 100 ≤ own_N q / 100 ^ j := by
  obtain ⟨-, h1, h2, h3, h4⟩ := own_nd_pow h
  have h5 := h4 (by omega)
  rw [Nat.le_div_iff_mul_le (Nat.pow_pos (by decide)), Nat.mul_comm, ← Nat.pow_succ, own_pow2]
  exact Nat.le_trans (Nat.pow_le_pow_right (by decide) (by omega)) h5
theorem own_less {q : Int32} {k : Nat} (h : own_nk q k) : own_N q / 100 ^ ((k - 1) / 2) < 100 := by
  obtain ⟨-, h1, h2, h3, h4⟩ := own_nd_pow h
  rw [Nat.div_lt_iff_lt_mul (Nat.pow_pos (by decide)), Nat.mul_comm, ← Nat.pow_succ, own_pow2]
  exact Nat.lt_of_lt_of_le h3 (Nat.pow_le_pow_right (by decide) (by omega))
theorem own_odd {q : Int32} {k : Nat} (h : own_nk q k) (o : k = 2 * ((k - 1) / 2) + 1) : own_N q / 100 ^ ((k - 1) / 2) < 10 := by
  obtain ⟨-, h1, h2, h3, h4⟩ := own_nd_pow h
  rw [Nat.div_lt_iff_lt_mul (Nat.pow_pos (by decide)), Nat.mul_comm, own_pow2, ← Nat.pow_succ, Nat.succ_eq_add_one, ← o]
  exact h3
theorem own_even {q : Int32} {k : Nat} (h : own_nk q k) (o : k = 2 * ((k - 1) / 2) + 2) : 10 ≤ own_N q / 100 ^ ((k - 1) / 2) := by
  obtain ⟨-, h1, h2, h3, h4⟩ := own_nd_pow h
  rw [Nat.le_div_iff_mul_le (Nat.pow_pos (by decide)), Nat.mul_comm, own_pow2, ← Nat.pow_succ]
  exact Nat.le_trans (Nat.pow_le_pow_right (by decide) (by omega)) (h4 (by omega))
/-- xs is us with q's k digits laid from place n0 on -/
def own_gx (us xs : List Value) (n0 k : Nat) (q : Int32) : Prop := xs.length = us.length ∧ n0 + k ≤ us.length ∧ us.length ≤ 100 ∧ (∀ t, t < k → xs.getD (n0 + k - 1 - t) (.int (0 : Int32)) = .int (own_d q t)) ∧ xs.take n0 = us.take n0 ∧ xs.drop (n0 + k) = us.drop (n0 + k)
def own_mix (i : Nat) (xs us : List Value) : List Value := xs.take i ++ us.drop i
theorem own_mix_len {i : Nat} {xs us : List Value} (h : xs.length = us.length) : (own_mix i xs us).length = us.length := by
  simp only [own_mix, List.length_append, List.length_take, List.length_drop]; omega
/-- one place more of the second list, from behind -/
theorem own_mix_back {e : Nat} {us xs : List Value} {v : Value} (h : xs.length = us.length) (he : 0 < e) (hl : e ≤ us.length) (hv : xs.getD (e - 1) (.int (0 : Int32)) = v) : (own_mix e us xs).set (e - 1) v = own_mix (e - 1) us xs := by
  apply List.ext_getElem?
  intro k
  have x1 : xs[e - 1]? = some v := by
    rw [← hv, List.getD_eq_getElem?_getD, List.getElem?_eq_getElem (by omega)]; rfl
  simp only [own_mix, List.getElem?_set, List.getElem?_append, List.getElem?_take, List.getElem?_drop, List.length_append, List.length_take, List.length_drop]
  by_cases q1 : e - 1 = k
  · subst q1
    simp only [if_true]
    rw [if_pos (by omega), if_neg (by omega), show e - 1 + (e - 1 - min (e - 1) us.length) = e - 1 by omega]; exact x1.symm
  · rw [if_neg q1]
    by_cases q2 : k < e - 1
    · rw [if_pos (by omega), if_pos (by omega), if_pos (by omega), if_pos q2]
    · rw [if_neg (by omega), if_neg (by omega)]
      congr 1; omega
theorem own_gx_start {us xs : List Value} {n0 k : Nat} {q : Int32} (h : own_gx us xs n0 k q) : own_mix (n0 + k) us xs = us := by
  rw [own_mix, h.2.2.2.2.2, List.take_append_drop]
theorem own_gx_end {us xs : List Value} {n0 k : Nat} {q : Int32} (h : own_gx us xs n0 k q) : own_mix n0 us xs = xs := by
  rw [own_mix, ← h.2.2.2.2.1, List.take_append_drop]
theorem own_gx_set {us xs : List Value} {n0 k t : Nat} {q : Int32} (h : own_gx us xs n0 k q) (ht : t < k) : (own_mix (n0 + k - t) us xs).set (n0 + k - t - 1) (.int (own_d q t)) = own_mix (n0 + k - t - 1) us xs :=
  own_mix_back h.1 (by omega) (by have := h.2.1; omega) (by rw [show n0 + k - t - 1 = n0 + k - 1 - t by omega]; exact h.2.2.2.1 t ht)
theorem own_dec {n : Nat} (h : 0 < n) : Int32.ofNat n + (-1 : Int32) = Int32.ofNat (n - 1) := by
  have q : Int32.ofNat n = Int32.ofNat (n - 1) + (1 : Int32) := by rw [own_succ]; congr 1; omega
  rw [q, Int32.add_assoc, (by decide : (1 : Int32) + (-1 : Int32) = 0), Int32.add_zero]
def own_slot (o : Option Int32) : Slot := match o with
  | none => .unset
  | some v => .val (.int v)
def own_par (k m : Nat) : Prop := k = 2 * ((k - 1) / 2) + m
theorem own_par_cases {k : Nat} (h : 1 ≤ k) : own_par k 1 ∨ own_par k 2 := by unfold own_par; omega
theorem own_t_100 {q : Int32} {k : Nat} (h : own_nk q k) : (-100 : Int32) < own_x q ((k - 1) / 2) := own_lt (by decide : (-100 : Int32).toInt = -100) (own_xI q _) (by have := own_less h; omega)
theorem own_t_9o {q : Int32} {k : Nat} (h : own_nk q k) (o : own_par k 1) : ¬ (own_x q ((k - 1) / 2) < (-9 : Int32)) := own_nlt (own_xI q _) (by decide : (-9 : Int32).toInt = -9) (by have := own_odd h o; omega)
theorem own_t_9e {q : Int32} {k : Nat} (h : own_nk q k) (o : own_par k 2) : own_x q ((k - 1) / 2) < (-9 : Int32) := own_lt (own_xI q _) (by decide : (-9 : Int32).toInt = -9) (by have := own_even h o; omega)
theorem own_t_1 {q : Int32} {us xs : List Value} {n0 k : Nat} (h : own_nk q k) (g : own_gx us xs n0 k q) : Int32.ofNat (n0 + k - 2 * ((k - 1) / 2)) + (-1 : Int32) = Int32.ofNat (n0 + k - 2 * ((k - 1) / 2) - 1) := own_dec (by have := (own_nd_pow h).2.1; omega)
theorem own_t_ib1 {q : Int32} {us xs : List Value} {n0 k : Nat} (h : own_nk q k) (g : own_gx us xs n0 k q) : own_ib (Int32.ofNat (n0 + k - 2 * ((k - 1) / 2)) + (-1 : Int32)) (Int32.ofNat us.length) := by
  have h1 := (own_nd_pow h).2.1; have h2 := g.2.1; have h3 := g.2.2.1
  rw [own_t_1 h g]; exact ⟨(own_back (by omega)).2, own_ofNat_lt (by omega) (by omega)⟩
theorem own_t_n1 {q : Int32} {us xs : List Value} {n0 k : Nat} (h : own_nk q k) (g : own_gx us xs n0 k q) : (Int32.ofNat (n0 + k - 2 * ((k - 1) / 2)) + (-1 : Int32)).toNatClampNeg = (n0 + k - 2 * ((k - 1) / 2) - 1) := by
  have h1 := (own_nd_pow h).2.1; have h2 := g.2.1; have h3 := g.2.2.1
  rw [own_t_1 h g]; exact (own_back (by omega)).1
theorem own_t_l1 {q : Int32} {us xs : List Value} {n0 k : Nat} (h : own_nk q k) (g : own_gx us xs n0 k q) : (n0 + k - 2 * ((k - 1) / 2) - 1) < (own_mix (n0 + k - 2 * ((k - 1) / 2)) us xs).length := by
  have h1 := (own_nd_pow h).2.1; have h2 := g.2.1; have h4 := g.1
  rw [own_mix_len g.1.symm]; omega
theorem own_t_2 {q : Int32} {us xs : List Value} {n0 k : Nat} (h : own_nk q k) (g : own_gx us xs n0 k q) (o : own_par k 2) : Int32.ofNat (n0 + k - 2 * ((k - 1) / 2)) + (-1 : Int32) + (-1 : Int32) = Int32.ofNat (n0 + k - 2 * ((k - 1) / 2) - 1 - 1) := by
  unfold own_par at o
  rw [own_t_1 h g, own_dec (by omega)]
theorem own_t_ib2 {q : Int32} {us xs : List Value} {n0 k : Nat} (h : own_nk q k) (g : own_gx us xs n0 k q) (o : own_par k 2) : own_ib (Int32.ofNat (n0 + k - 2 * ((k - 1) / 2)) + (-1 : Int32) + (-1 : Int32)) (Int32.ofNat us.length) := by
  have h2 := g.2.1; have h3 := g.2.2.1
  rw [own_t_2 h g o]; unfold own_par at o; exact ⟨(own_back (by omega)).2, own_ofNat_lt (by omega) (by omega)⟩
theorem own_t_n2 {q : Int32} {us xs : List Value} {n0 k : Nat} (h : own_nk q k) (g : own_gx us xs n0 k q) (o : own_par k 2) : (Int32.ofNat (n0 + k - 2 * ((k - 1) / 2)) + (-1 : Int32) + (-1 : Int32)).toNatClampNeg = (n0 + k - 2 * ((k - 1) / 2) - 1 - 1) := by
  have h2 := g.2.1; have h3 := g.2.2.1
  rw [own_t_2 h g o]; unfold own_par at o; exact (own_back (by omega)).1
theorem own_t_l2 {q : Int32} {us xs : List Value} {n0 k : Nat} (g : own_gx us xs n0 k q) (o : own_par k 2) : (n0 + k - 2 * ((k - 1) / 2) - 1 - 1) < (own_mix (n0 + k - 2 * ((k - 1) / 2) - 1) us xs).length := by
  have h2 := g.2.1; have h4 := g.1; unfold own_par at o
  rw [own_mix_len g.1.symm]; omega
theorem own_gx_o {q : Int32} {us xs : List Value} {n0 k : Nat} (g : own_gx us xs n0 k q) (o : own_par k 1) : (own_mix (n0 + k - 2 * ((k - 1) / 2)) us xs).set (n0 + k - 2 * ((k - 1) / 2) - 1) (.int (own_d q (2 * ((k - 1) / 2)))) = xs := by
  unfold own_par at o
  rw [own_gx_set g (by omega), show n0 + k - 2 * ((k - 1) / 2) - 1 = n0 by omega]; exact own_gx_end g
theorem own_gx_e {q : Int32} {us xs : List Value} {n0 k : Nat} (g : own_gx us xs n0 k q) (o : own_par k 2) : (own_mix (n0 + k - 2 * ((k - 1) / 2)) us xs).set (n0 + k - 2 * ((k - 1) / 2) - 1) (.int (own_d q (2 * ((k - 1) / 2)))) = own_mix (n0 + k - 2 * ((k - 1) / 2) - 1) us xs := by
  unfold own_par at o
  exact own_gx_set g (by omega)
theorem own_gx_e2 {q : Int32} {us xs : List Value} {n0 k : Nat} (g : own_gx us xs n0 k q) (o : own_par k 2) : (own_mix (n0 + k - 2 * ((k - 1) / 2) - 1) us xs).set (n0 + k - 2 * ((k - 1) / 2) - 1 - 1) (.int (own_d q (2 * ((k - 1) / 2) + 1))) = xs := by
  unfold own_par at o
  rw [show n0 + k - 2 * ((k - 1) / 2) - 1 = n0 + k - (2 * ((k - 1) / 2) + 1) by omega, own_gx_set g (by omega), show n0 + k - (2 * ((k - 1) / 2) + 1) - 1 = n0 by omega]; exact own_gx_end g
theorem own_ret_o {n0 k : Nat} (o : own_par k 1) : Int32.ofNat (n0 + k - 2 * ((k - 1) / 2)) + (-1 : Int32) = Int32.ofNat n0 := by
  unfold own_par at o
  rw [own_dec (by omega)]; congr 1; omega
theorem own_ret_e {n0 k : Nat} (o : own_par k 2) : Int32.ofNat (n0 + k - 2 * ((k - 1) / 2)) + (-1 : Int32) + (-1 : Int32) = Int32.ofNat n0 := by
  unfold own_par at o
  rw [own_dec (by omega), own_dec (by omega)]; congr 1; omega
abbrev own_ln (us : List Value) (nn : Int32) : Prop := nn = Int32.ofNat us.length
theorem own_t_l3 {us xs : List Value} {n0 k : Nat} {q : Int32} (g : own_gx us xs n0 k q) (p : 0 < n0) : (n0 - 1) < xs.length := by
  have h1 := g.1; have h2 := g.2.1
  omega
theorem own_m_ib {us xs : List Value} {n0 k : Nat} {q x : Int32} (e : x = Int32.ofNat n0) (g : own_gx us xs n0 k q) (p : 0 < n0) : own_ib (x + (-1 : Int32)) (Int32.ofNat us.length) := by
  have h2 := g.2.1; have h3 := g.2.2.1
  rw [e, own_dec p]; exact ⟨(own_back (by omega)).2, own_ofNat_lt (by omega) (by omega)⟩
theorem own_m_n {us xs : List Value} {n0 k : Nat} {q x : Int32} (e : x = Int32.ofNat n0) (g : own_gx us xs n0 k q) (p : 0 < n0) : (x + (-1 : Int32)).toNatClampNeg = (n0 - 1) := by
  have h2 := g.2.1; have h3 := g.2.2.1
  rw [e, own_dec p]; exact (own_back (by omega)).1
/-- the bounds of stringSize -/
def own_pt : Nat → Int32
  | 0 => -10
  | i + 1 => 10 * own_pt i
theorem own_pt0 : own_pt 0 = (-10 : Int32) := rfl
theorem own_pt_s (i : Nat) : (10 : Int32) * own_pt i = own_pt (i + 1) := rfl
theorem own_ptI {i : Nat} (h : i < 9) : (own_pt i).toInt = -((10 ^ (i + 1) : Nat) : Int) := (by decide +kernel : ∀ i, i < 9 → (own_pt i).toInt = -((10 ^ (i + 1) : Nat) : Int)) i h
theorem own_pt_n {q : Int32} {k i : Nat} (hD : own_nk q k) (h : i < k - 1) : ¬ (own_pt i < own_x q 0) := by
  obtain ⟨-, h1, h2, h3, h4⟩ := hD
  have h5 := h4 (by omega)
  have h6 : 10 ^ (i + 1) ≤ 10 ^ (k - 1) := Nat.pow_le_pow_right (by decide) (by omega)
  have e := own_ptI (i := i) (by omega)
  generalize 10 ^ (i + 1) = a at *
  generalize 10 ^ (k - 1) = b at *
  exact own_nlt e (own_xI0 q) (by omega)
theorem own_ik_lt {q : Int32} {k : Nat} (hD : own_nk q k) (h : k < 10) : Int32.ofNat (k - 1 + 1) < (10 : Int32) := own_ofNat_lt (b := 10) (by have := hD.2.1; omega) (by omega)
theorem own_ik_ge {k : Nat} (h : k = 10) : ¬ (Int32.ofNat (k - 1 + 1) < (10 : Int32)) := by subst h; decide
theorem own_ik_pt {q : Int32} {k : Nat} (hD : own_nk q k) (h : k < 10) : own_pt (k - 1) < own_x q 0 := by
  obtain ⟨-, h1, h2, h3, h4⟩ := hD
  have e := own_ptI (i := k - 1) (by omega)
  rw [show k - 1 + 1 = k by omega] at e
  generalize 10 ^ k = a at *
  exact own_lt e (own_xI0 q) (by omega)
theorem own_ss1 {q : Int32} {k : Nat} (hD : own_nk q k) : Int32.ofNat (k - 1 + 1) + (0 : Int32) = Int32.ofNat k := by rw [Int32.add_zero, show k - 1 + 1 = k by have := hD.2.1; omega]
theorem own_ss2 {q : Int32} {k : Nat} (hD : own_nk q k) : Int32.ofNat (k - 1 + 1) + (1 : Int32) = Int32.ofNat (k + 1) := by rw [own_succ, show k - 1 + 1 = k by have := hD.2.1; omega]
theorem own_ten {q : Int32} {k : Nat} (hD : own_nk q k) (c : ¬ k < 10) : k = 10 := by have := hD.2.2.1; omega
theorem own_nk_ex (q : Int32) : ∃ k, own_nk q k := by
  have r := own_N_le q
  unfold own_nk
  generalize own_N q = n at *
  by_cases h1 : n < 10; · exact ⟨1, trivial, by omega, by omega, h1, fun h => by omega⟩
  by_cases h2 : n < 100; · exact ⟨2, trivial, by omega, by omega, h2, fun _ => by show 10 ≤ n; omega⟩
  by_cases h3 : n < 1000; · exact ⟨3, trivial, by omega, by omega, h3, fun _ => by show 100 ≤ n; omega⟩
  by_cases h4 : n < 10000; · exact ⟨4, trivial, by omega, by omega, h4, fun _ => by show 1000 ≤ n; omega⟩
  by_cases h5 : n < 100000; · exact ⟨5, trivial, by omega, by omega, h5, fun _ => by show 10000 ≤ n; omega⟩
  by_cases h6 : n < 1000000; · exact ⟨6, trivial, by omega, by omega, h6, fun _ => by show 100000 ≤ n; omega⟩
  by_cases h7 : n < 10000000; · exact ⟨7, trivial, by omega, by omega, h7, fun _ => by show 1000000 ≤ n; omega⟩
  by_cases h8 : n < 100000000; · exact ⟨8, trivial, by omega, by omega, h8, fun _ => by show 10000000 ≤ n; omega⟩
  by_cases h9 : n < 1000000000; · exact ⟨9, trivial, by omega, by omega, h9, fun _ => by show 100000000 ≤ n; omega⟩
  exact ⟨10, trivial, by omega, by omega, by show n < 10000000000; omega, fun _ => by show 1000000000 ≤ n; omega⟩
theorem own_dn_ex {q : Int32} (h : q < (0 : Int32)) : ∃ k, q < (0 : Int32) ∧ own_nk q k := (own_nk_ex q).elim fun k d => ⟨k, h, d⟩
theorem own_dp_ex {q : Int32} (h : ¬ q < (0 : Int32)) : ∃ k, ¬ q < (0 : Int32) ∧ own_nk q k := (own_nk_ex q).elim fun k d => ⟨k, h, d⟩
theorem own_nd_n {q : Int32} {k : Nat} (h : q < (0 : Int32) ∧ own_nk q k) : own_nd q (k + 1) := Or.inr ⟨k, rfl, h.1, h.2⟩
theorem own_nd_p {q : Int32} {k : Nat} (h : ¬ q < (0 : Int32) ∧ own_nk q k) : own_nd q k := Or.inl h
theorem own_nd_le {q : Int32} {k : Nat} (h : own_nd q k) : k ≤ 11 := by
  rcases h with ⟨-, h⟩ | ⟨k', rfl, -, h⟩ <;> have := h.2.2.1 <;> omega
def own_ch (cs : List Int32) : List Value := cs.map fun c => Value.int c
/-- a builder's array of c bytes that holds cs -/
def own_buf (c : Nat) (cs : List Int32) : List Value := own_ch cs ++ List.replicate (c - cs.length) (.int (0 : Int32))
def own_dg (q : Int32) (k : Nat) : List Int32 := (List.range k).map fun i => own_d q (k - 1 - i)
/-- q in kk chars -/
def own_ds (q : Int32) (kk : Nat) : List Int32 := (List.range kk).map fun i => if q < 0 ∧ i = 0 then (45 : Int32) else own_d q (kk - 1 - i)
theorem own_dg_len (q : Int32) (k : Nat) : (own_dg q k).length = k := by simp [own_dg]
theorem own_ds_p {q : Int32} (h : ¬ q < 0) (k : Nat) : own_ds q k = own_dg q k := by
  simp only [own_ds, own_dg]
  apply List.map_congr_left
  intro i _
  exact if_neg fun c => h c.1
theorem own_ds_n {q : Int32} (h : q < 0) (k : Nat) : own_ds q (k + 1) = (45 : Int32) :: own_dg q k := by
  rw [own_ds, own_dg, List.range_succ_eq_map, List.map_cons, List.map_map, if_pos ⟨h, rfl⟩]
  congr 1
  apply List.map_congr_left
  intro i hi
  have := List.mem_range.mp hi
  show (if q < 0 ∧ Nat.succ i = 0 then (45 : Int32) else own_d q (k + 1 - 1 - Nat.succ i)) = own_d q (k - 1 - i)
  rw [if_neg (fun c => Nat.succ_ne_zero _ c.2)]
  congr 1
  omega
theorem own_ch_len (cs : List Int32) : (own_ch cs).length = cs.length := List.length_map _
theorem own_ds_len (q : Int32) (k : Nat) : (own_ds q k).length = k := by simp [own_ds]
theorem own_buf_len {c : Nat} {cs : List Int32} (h : cs.length ≤ c) : (own_buf c cs).length = c := by
  simp only [own_buf, List.length_append, own_ch_len, List.length_replicate]; omega
/-- place i of a builder's array -/
theorem own_buf_at {c : Nat} {cs : List Int32} (h : cs.length ≤ c) (i : Nat) : (own_buf c cs)[i]? = if i < cs.length then (cs[i]?).map Value.int else if i < c then some (.int (0 : Int32)) else none := by
  simp only [own_buf, own_ch, List.getElem?_append, List.length_map, List.getElem?_map, List.getElem?_replicate]
  by_cases q : i < cs.length
  · rw [if_pos q, if_pos q]
  · rw [if_neg q, if_neg q]
    by_cases r : i < c
    · rw [if_pos r, if_pos (by omega)]
    · rw [if_neg r, if_neg (by omega)]
/-- System.arraycopy of bytes: ts is what stands there at the end -/
def own_cpl (z z' : Int32) (vs vd : List Value) (sp dp nn : Int32) (ts : List Value) : Prop := ¬ sp < 0 ∧ ¬ dp < 0 ∧ ¬ nn < 0 ∧ sp.toNatClampNeg + nn.toNatClampNeg ≤ z.toNatClampNeg ∧ dp.toNatClampNeg + nn.toNatClampNeg ≤ z'.toNatClampNeg ∧ dp.toNatClampNeg + nn.toNatClampNeg ≤ vd.length ∧ (vd.take dp.toNatClampNeg ++ ((List.range nn.toNatClampNeg).map fun i => vs.getD (sp.toNatClampNeg + i) (.int (0 : Int32))) ++ vd.drop (dp.toNatClampNeg + nn.toNatClampNeg)) = ts
section OwnCopy
variable {p : Program} {l : Launch} {e : Env} {R : Room} {s : State} {m : MethodId} {args : Array Value} {below : List Frame} {meth : Method} {c : Code} {T : State} {locs : List Loc} {cells slots : Nat} {Z : State} {a0 : Array Value} {h : Heap} {own : String} {index : Nat} {a b : Addr} {k k' : ClassId} {z z' sp dp nn : Int32} {vs vd ts : List Value} {g : JFrame} {rest : List Value} {W ML : Nat}
theorem own_cp (X : Stand p l e R s m args below meth c T locs cells slots) (hx : p.tables.exec = Jvm.exec) (hZ : Z.Warmed39 s.vm) (hown : s.vm.findClass own = some m.cls) (w1 : (Jvm.Cond.methodLink own index Jvm.Stand.acN).before a0 Z = true) (w2 : (Jvm.Cond.native Jvm.Stand.acN).before a0 Z = true) (w3 : (Jvm.Cond.static Jvm.Stand.acN).before a0 Z = true) (w4 : (Jvm.Cond.initialized "java/lang/System").before a0 Z = true) (eT : T.heap = h)
    (A : Arv Z h a k .byte z vs (.int (0 : Int32))) (B : Arv Z h b k' .byte z' vd (.int (0 : Int32))) (q : own_cpl z z' vs vd sp dp nn ts) (N : Fr Z.heap.size locs) (ge : Z.heap.size ≤ b) (hd : decode c.code g.pc = .ok (.invokestatic index, 3)) (hml : c.maxLocals = ML) (hg : g.method = m := by rfl) (hsz : g.locals.size = ML := by rfl) (hs : g.stack = .int nn :: .int dp :: .ref b :: .int sp :: .ref a :: rest := by rfl) (hf : 1 ≤ R.frames := by decide) (hW : 2 * g.monitorRoom + (rest.map fun v => v.category).sum ≤ W := by (show 2 * 0 + _ ≤ _; exact Nat.le_of_eq rfl)) (hlo : W + (nativeFrameWords "java/lang/System" "arraycopy" 5 + 11) ≤ R.locals := by decide) :
    ∃ T' h' L, Stand p l e R s m args below meth c T' L cells slots ∧ T'.heap = h' ∧ Fr Z.heap.size L ∧ Keep h h' [b] ∧ Arv Z h' b k' .byte z' ts (.int (0 : Int32)) ∧ ∀ target, Steps p.tables e below (T'.setTop { g with pc := g.pc + 3, stack := rest }) target → Steps p.tables e below (T.setTop g) target := by
  obtain ⟨q1, q2, q3, q4, q5, q6, q7⟩ := q
  obtain ⟨T', h', L, X', e', N', K, V, st⟩ := cpA X hx hZ hown w1 w2 w3 w4 eT A B (Or.inl ⟨rfl, rfl⟩) q1 q2 q3 q4 q5 rfl q6 N ge hg (hsz.trans hml.symm) hs hd hf hW hlo
  rw [q7] at V
  exact ⟨T', h', L, X', e', N', K, V, st⟩
end OwnCopy
/-- growth: the old array's bytes at the new one's front -/
theorem own_cp_grow {cs : List Int32} (h : cs.length ≤ 16) : own_cpl (16 : Int32) (34 : Int32) (own_buf 16 cs) (List.replicate 34 (.int (0 : Int32))) (0 : Int32) (0 : Int32) (16 : Int32) (own_buf 34 cs) := by
  refine ⟨by decide, by decide, by decide, by decide, by decide, by decide, ?_⟩
  rw [(by decide : (0 : Int32).toNatClampNeg = 0), (by decide : (16 : Int32).toNatClampNeg = 16)]
  apply List.ext_getElem?
  intro i
  rw [own_buf_at (by omega)]
  simp only [List.take_zero, List.nil_append, List.getElem?_append, List.length_map, List.length_range, List.getElem?_map, List.getElem?_drop, List.getElem?_replicate, Nat.zero_add]
  by_cases q : i < 16
  · rw [if_pos q, List.getElem?_range q]
    simp only [Option.map_some]
    rw [List.getD_eq_getElem?_getD, own_buf_at h]
    by_cases r : i < cs.length
    · rw [if_pos r, if_pos r, List.getElem?_eq_getElem r]; rfl
    · rw [if_neg r, if_neg r, if_pos q, if_pos (by omega)]; rfl
  · rw [if_neg q, show 16 + (i - 16) = i by omega, if_neg (show ¬ (i < cs.length) by omega)]
theorem own_cp_add {c : Nat} {cs ds : List Int32} {z : Int32} (h : cs.length + ds.length ≤ c) (hc : c ≤ 100) (hz : z.toNatClampNeg = c) : own_cpl (Int32.ofNat ds.length) z (own_ch ds) (own_buf c cs) (0 : Int32) (Int32.ofNat cs.length) (Int32.ofNat ds.length) (own_buf c (cs ++ ds)) := by
  have b1 := own_back (n := cs.length) (by omega)
  have b2 := own_back (n := ds.length) (by omega)
  have l := own_buf_len (c := c) (cs := cs) (by omega)
  refine ⟨by decide, b1.2, b2.2, ?_, ?_, ?_, ?_⟩
  · rw [b2.1, (by decide : (0 : Int32).toNatClampNeg = 0)]; omega
  · rw [b1.1, b2.1, hz]; exact h
  · rw [b1.1, b2.1, l]; exact h
  · rw [(by decide : (0 : Int32).toNatClampNeg = 0), b1.1, b2.1]
    apply List.ext_getElem?
    intro i
    rw [own_buf_at (by rw [List.length_append]; omega)]
    simp only [List.getElem?_append, List.length_append, List.length_take, List.length_map, List.length_range, List.getElem?_map, List.getElem?_take, List.getElem?_drop, Nat.zero_add, l]
    rw [show min cs.length c = cs.length by omega]
    by_cases q : i < cs.length
    · rw [if_pos (by omega), if_pos q, if_pos q, if_pos (by omega), own_buf_at (by omega), if_pos q, if_pos q]
    · by_cases r : i < cs.length + ds.length
      · rw [if_pos r, if_neg q, if_pos r, if_neg q, List.getElem?_range (by omega)]
        simp only [Option.map_some, own_ch, List.getD_eq_getElem?_getD, List.getElem?_map]
        rw [List.getElem?_eq_getElem (by omega)]; rfl
      · rw [if_neg r, if_neg r, own_buf_at (by omega)]
        by_cases u : i < c
        · rw [if_neg (by omega), if_pos (by omega), if_pos u]
        · rw [if_neg (by omega), if_neg (by omega), if_neg u]
theorem own_cp_out {c : Nat} {cs : List Int32} {z : Int32} (h : cs.length ≤ c) (hc : c ≤ 100) (hz : z.toNatClampNeg = c) : own_cpl z (Int32.ofNat cs.length) (own_buf c cs) (List.replicate cs.length (.int (0 : Int32))) (0 : Int32) (0 : Int32) (Int32.ofNat cs.length) (own_ch cs) := by
  have b2 := own_back (n := cs.length) (by omega)
  refine ⟨by decide, by decide, b2.2, ?_, ?_, ?_, ?_⟩
  · rw [b2.1, hz, (by decide : (0 : Int32).toNatClampNeg = 0)]; omega
  · rw [b2.1, (by decide : (0 : Int32).toNatClampNeg = 0)]; omega
  · rw [b2.1, List.length_replicate, (by decide : (0 : Int32).toNatClampNeg = 0)]; omega
  · rw [(by decide : (0 : Int32).toNatClampNeg = 0), b2.1]
    apply List.ext_getElem?
    intro i
    simp only [List.take_zero, List.nil_append, Nat.zero_add, own_ch, List.getElem?_append, List.length_map, List.length_range, List.getElem?_map, List.getElem?_drop, List.getElem?_replicate]
    by_cases q : i < cs.length
    · rw [if_pos q, List.getElem?_range q]
      simp only [Option.map_some]
      rw [List.getD_eq_getElem?_getD, own_buf_at h, if_pos q, List.getElem?_eq_getElem q]; rfl
    · rw [if_neg q, if_neg (by omega), List.getElem?_eq_none (by omega)]; rfl
theorem own_cut {us M : List Value} {n0 k : Nat} (hM : M.length = k) (h : n0 + k ≤ us.length) : (us.take n0 ++ M ++ us.drop (n0 + k)).length = us.length ∧ (us.take n0 ++ M ++ us.drop (n0 + k)).take n0 = us.take n0 ∧ (us.take n0 ++ M ++ us.drop (n0 + k)).drop (n0 + k) = us.drop (n0 + k) ∧ ∀ j, j < k → (us.take n0 ++ M ++ us.drop (n0 + k))[n0 + j]? = M[j]? := by
  have lt : (us.take n0).length = n0 := by rw [List.length_take]; omega
  refine ⟨?_, ?_, ?_, ?_⟩
  · simp only [List.length_append, List.length_take, List.length_drop]; omega
  · rw [List.append_assoc]; exact List.take_left' lt
  · exact List.drop_left' (by rw [List.length_append, lt, hM])
  · intro j hj
    rw [List.append_assoc, List.getElem?_append_right (by omega), lt, List.getElem?_append_left (by omega), Nat.add_sub_cancel_left]
/-- ys is us with q's chars laid from place n0 on -/
def own_gy (us ys : List Value) (n0 kk : Nat) (q : Int32) : Prop := n0 + kk ≤ us.length ∧ us.length ≤ 100 ∧ us.take n0 ++ own_ch (own_ds q kk) ++ us.drop (n0 + kk) = ys
theorem own_gx_of {us : List Value} {n0 k : Nat} {q : Int32} (h : n0 + k ≤ us.length) (hl : us.length ≤ 100) : own_gx us (us.take n0 ++ own_ch (own_dg q k) ++ us.drop (n0 + k)) n0 k q := by
  obtain ⟨a, b, c, d⟩ := own_cut (us := us) (M := own_ch (own_dg q k)) (n0 := n0) (k := k) (by rw [own_ch_len, own_dg_len]) h
  refine ⟨a, h, hl, ?_, b, c⟩
  intro t ht
  rw [List.getD_eq_getElem?_getD, show n0 + k - 1 - t = n0 + (k - 1 - t) by omega, d _ (by omega), own_ch, List.getElem?_map, own_dg, List.getElem?_map, List.getElem?_range (by omega)]
  simp only [Option.map_some, Option.getD_some]
  rw [show k - 1 - (k - 1 - t) = t by omega]
theorem own_gy_p {us ys : List Value} {n0 k : Nat} {q : Int32} (hp : ¬ q < (0 : Int32)) (h : own_gy us ys n0 k q) : own_gx us ys n0 k q := by
  obtain ⟨h1, h2, rfl⟩ := h
  rw [own_ds_p hp]
  exact own_gx_of h1 h2
theorem own_gy_n {us ys : List Value} {n0 k : Nat} {q : Int32} (hn : q < (0 : Int32)) (h : own_gy us ys n0 (k + 1) q) : own_gx us (us.take (n0 + 1) ++ own_ch (own_dg q k) ++ us.drop (n0 + 1 + k)) (n0 + 1) k q ∧ (us.take (n0 + 1) ++ own_ch (own_dg q k) ++ us.drop (n0 + 1 + k)).set (n0 + 1 - 1) (.int (45 : Int32)) = ys := by
  obtain ⟨h1, h2, rfl⟩ := h
  refine ⟨own_gx_of (by omega) h2, ?_⟩
  have e : us.take (n0 + 1) = us.take n0 ++ [us[n0]'(by omega)] := by rw [List.take_succ_eq_append_getElem]
  rw [own_ds_n hn, e, Nat.add_sub_cancel, show n0 + (k + 1) = n0 + 1 + k by omega]
  have l : (us.take n0).length = n0 := by rw [List.length_take]; omega
  simp only [List.append_assoc, List.singleton_append, List.cons_append]
  rw [List.set_append_right _ _ (by omega), l, Nat.sub_self, List.set_cons_zero]
  rfl
theorem own_chmap (ds : List Int32) : ((List.range ds.length).map fun i => (own_ch ds).getD (0 + i) (.int (0 : Int32))) = own_ch ds := by
  apply List.ext_getElem?
  intro i
  simp only [List.getElem?_map, Nat.zero_add, own_ch]
  by_cases q : i < ds.length
  · rw [List.getElem?_range q, List.getElem?_eq_getElem q]
    simp only [Option.map_some, List.getD_eq_getElem?_getD, List.getElem?_map]
    rw [List.getElem?_eq_getElem q]; rfl
  · rw [List.getElem?_eq_none (by rw [List.length_range]; omega), List.getElem?_eq_none (by omega)]; rfl
theorem own_gy_buf {c k : Nat} {cs : List Int32} {q : Int32} (h : cs.length + k ≤ c) (hc : c ≤ 100) : own_gy (own_buf c cs) (own_buf c (cs ++ own_ds q k)) cs.length k q := by
  have l := own_buf_len (c := c) (cs := cs) (by omega)
  have z : (Int32.ofNat c).toNatClampNeg = c := (own_back (by omega)).1
  have w := (own_cp_add (cs := cs) (ds := own_ds q k) (z := Int32.ofNat c) (by rw [own_ds_len]; exact h) hc z).2.2.2.2.2.2
  rw [(own_back (n := cs.length) (by omega)).1, (own_back (n := (own_ds q k).length) (by rw [own_ds_len]; omega)).1, (by decide : (0 : Int32).toNatClampNeg = 0), own_chmap, own_ds_len] at w
  exact ⟨by omega, by omega, w⟩
def own_gw (n : Nat) : Prop := 16 < n ∧ n ≤ 33
theorem own_subI {n : Nat} (h : n < 1000) (k : Int32) (i : Int) (hk : k.toInt = i) (h0 : 0 ≤ i) (h1 : i < 1000) : (Int32.ofNat n - k).toInt = (n : Int) - i := by
  have a := c_isub (Int32.ofNat n) k
  have r := rng32 (Int32.ofNat n - k)
  rw [own_toI (by omega), hk] at a
  omega
theorem own_ng {n : Nat} (h : n ≤ 16) : ¬ ((0 : Int32) < (Int32.ofNat n - (16 : Int32))) := own_nlt (by decide : (0 : Int32).toInt = 0) (own_subI (by omega) (16 : Int32) 16 (by decide) (by decide) (by decide)) (by omega)
theorem own_ng2 {n : Nat} (h : n ≤ 34) : ¬ ((0 : Int32) < (Int32.ofNat n - (34 : Int32))) := own_nlt (by decide : (0 : Int32).toInt = 0) (own_subI (by omega) (34 : Int32) 34 (by decide) (by decide) (by decide)) (by omega)
theorem own_gw1 {n : Nat} (h : own_gw n) : (0 : Int32) < (Int32.ofNat n - (16 : Int32)) := own_lt (by decide : (0 : Int32).toInt = 0) (own_subI (by have := h.2; omega) (16 : Int32) 16 (by decide) (by decide) (by decide)) (by have := h.1; omega)
theorem own_gw2 {n : Nat} (h : own_gw n) : (Int32.ofNat n - (16 : Int32)) < (18 : Int32) := own_lt (own_subI (by have := h.2; omega) (16 : Int32) 16 (by decide) (by decide) (by decide)) (by decide : (18 : Int32).toInt = 18) (by have := h.2; omega)
theorem own_shl0 (c : Int32) : (c <<< ((0 : Int32) &&& 31)) = c := by
  have q := c_ishl c (0 : Int32) 0 (by decide)
  have hk : ((2 ^ 0 : Nat) : Int) = 1 := by decide
  rw [hk] at q
  have r := rng32 (c <<< ((0 : Int32) &&& 31))
  have r' := rng32 c
  exact Int32.toInt_inj.mp (by omega)
theorem own_ln_buf {c : Nat} {cs : List Int32} {z : Int32} (hz : z = Int32.ofNat c) (h : cs.length ≤ c) : own_ln (own_buf c cs) z := by rw [own_ln, own_buf_len h]; exact hz
theorem own_gw_le {n : Nat} (h : own_gw n) : n ≤ 34 := by have := h.2; omega
theorem own_le_of {a b c : Nat} (h : a + b ≤ c) : a ≤ c := by omega
theorem own_cl_nn {cs : List Int32} {c : Nat} (h : cs.length < c) (hc : c ≤ 100) : ¬ (Int32.ofNat cs.length < (0 : Int32)) := (own_back (by omega)).2
theorem own_cl_cap {cs : List Int32} {c : Nat} (h : cs.length < c) (hc : c ≤ 100) : own_cap (Int32.ofNat cs.length) c := by unfold own_cap; rw [(own_back (by omega)).1]; omega
theorem own_cl_lt {cs : List Int32} {c : Nat} {z : Int32} (h : cs.length < c) (hc : c ≤ 100) (hz : z = Int32.ofNat c) : Int32.ofNat cs.length < z := by rw [hz]; exact own_ofNat_lt h (by omega)
theorem own_cl_ne {cs : List Int32} {c : Nat} {z : Int32} (h : cs.length < c) (hc : c ≤ 100) (hz : z = Int32.ofNat c) : ¬ (Int32.ofNat cs.length = z) := fun q => by
  have := own_cl_lt h hc hz
  rw [q] at this
  exact Int32.lt_irrefl this
theorem own_sub0 (x : Int32) : x - (0 : Int32) = x := by
  have q := c_isub x (0 : Int32)
  have r := rng32 (x - (0 : Int32))
  have r' := rng32 x
  rw [(by decide : (0 : Int32).toInt = 0)] at q
  exact Int32.toInt_inj.mp (by omega)
theorem own_full {Z : State} {h : Heap} {a : Addr} {k : ClassId} {cs : List Int32} {d : Value} (e : cs.length = 16) (V : Arv Z h a k .byte (16 : Int32) (own_buf 16 cs) d) : Arv Z h a k .byte (Int32.ofNat cs.length) (own_ch cs) d := by
  have q : own_buf 16 cs = own_ch cs := by simp [own_buf, e]
  rw [q] at V
  rw [e]; exact V
/-- the String b holds the chars cs -/
def own_rep (Z : State) (h : Heap) (b : Addr) (cs : List Int32) : Prop := ∃ (a : Addr) (k : ClassId), Fld Z h b "java/lang/String" "value" "[B" (.ref a) ∧ Fld Z h b "java/lang/String" "coder" "B" (.int (0 : Int32)) ∧ Arv Z h a k .byte (Int32.ofNat cs.length) (own_ch cs) (.int (0 : Int32))
theorem own_rep.ext {Z : State} {h h' : Heap} {b : Addr} {cs : List Int32} (T : own_rep Z h b cs) (E : Ext h h') : own_rep Z h' b cs := by
  obtain ⟨a, k, V, C, A⟩ := T
  exact ⟨a, k, V.ext E, C.ext E, A.ext E⟩
theorem own_rep.keep0 {Z : State} {h h' : Heap} {b : Addr} {cs : List Int32} (T : own_rep Z h b cs) (K : Keep h h' []) : own_rep Z h' b cs := by
  obtain ⟨a, k, V, C, A⟩ := T
  exact ⟨a, k, V.keep K nin0, C.keep K nin0, A.keep K nin0⟩
theorem own_e16 {n : Nat} (h : n ≤ 16) (c : ¬ n < 16) : n = 16 := by omega
/-- place ii of the bytes cs: the byte yy, the char cc -/
def own_at (cs : List Int32) (ii yy cc : Int32) : Prop := ¬ ii < 0 ∧ ii < Int32.ofNat cs.length ∧ cs[ii.toNatClampNeg]? = some yy ∧ cs.length < 100 ∧ (yy &&& (255 : Int32)) = cc
theorem own_g_get {cs : List Int32} {ii yy cc : Int32} (h : own_at cs ii yy cc) : own_get (own_ch cs) ii (.int (0 : Int32)) (.int yy) := by
  unfold own_get
  rw [List.getD_eq_getElem?_getD, own_ch, List.getElem?_map, h.2.2.1]; rfl
theorem own_g_ib {cs : List Int32} {ii yy cc : Int32} (h : own_at cs ii yy cc) : own_ib ii (Int32.ofNat cs.length) := ⟨h.1, h.2.1⟩
theorem own_g_i2c {cs : List Int32} {ii yy cc : Int32} (h : own_at cs ii yy cc) : cc.toUInt32.toUInt16.toUInt32.toInt32 = cc := by
  have q := c_mask yy (255 : Int32) 8 (by decide) (by decide)
  have hk : ((2 ^ 8 : Nat) : Int) = 256 := by decide
  rw [hk, h.2.2.2.2] at q
  obtain ⟨a, b, d⟩ := c_i2c cc
  exact Int32.toInt_inj.mp (by omega)
theorem own_g_nar {cs : List Int32} {ii yy cc : Int32} (h : own_at cs ii yy cc) : nar .char cc = cc := own_g_i2c h
theorem own_at_of {cs : List Int32} {i : Nat} {y c : Int32} (h : cs[i]? = some y) (hl : cs.length < 100) (e : (y &&& (255 : Int32)) = c) : own_at cs (Int32.ofNat i) y c := by
  obtain ⟨hi, -⟩ := List.getElem?_eq_some_iff.mp h
  have b := own_back (n := i) (by omega)
  exact ⟨b.2, own_ofNat_lt hi (by omega), by rw [b.1]; exact h, hl, e⟩
theorem own_shr0 (c : Int32) : (c >>> ((0 : Int32) &&& 31)) = c := by
  have q := c_ishr c (0 : Int32) 0 (by decide)
  have hk : ((2 ^ 0 : Nat) : Int) = 1 := by decide
  rw [hk] at q
  exact Int32.toInt_inj.mp (by omega)
theorem own_ofNat_sub {a b : Nat} (h : b ≤ a) (ha : a < 1000) : Int32.ofNat a - Int32.ofNat b = Int32.ofNat (a - b) := by
  apply Int32.toInt_inj.mp
  rw [own_subI ha (Int32.ofNat b) b (own_toI (by omega)) (by omega) (by omega), own_toI (by omega)]
  omega
theorem own_ad2 (n : Nat) : Int32.ofNat n + (2 : Int32) = Int32.ofNat (n + 2) := (Int32.ofNat_add n 2).symm
/-- from place od on, cs says ts -/
def own_sg (cs : List Int32) (od : Nat) (ts : List Int32) : Prop := ts.length ≤ 3 ∧ od + ts.length ≤ cs.length ∧ cs.length < 100 ∧ ∀ i, i < ts.length → cs[od + i]? = ts[i]?
theorem own_sg_cases {cs ts : List Int32} {od : Nat} (h : own_sg cs od ts) : ts.length = 0 ∨ ts.length = 1 ∨ ts.length = 2 ∨ ts.length = 3 := by have := h.1; omega
theorem own_sg_get {cs ts : List Int32} {od : Nat} (h : own_sg cs od ts) {i : Nat} (hi : i < ts.length) : ∃ y, cs[od + i]? = some y ∧ ts[i]? = some y :=
  ⟨ts[i], (h.2.2.2 i hi).trans (List.getElem?_eq_getElem hi), List.getElem?_eq_getElem hi⟩
theorem own_sg_a {cs ts : List Int32} {od : Nat} (h : own_sg cs od ts) {i : Nat} {y : Int32} (e : cs[od + i]? = some y) : own_at cs (Int32.ofNat (od + i)) y (y &&& (255 : Int32)) := own_at_of e h.2.2.1 rfl
theorem own_sg_b {cs ts : List Int32} {od : Nat} (h : own_sg cs od ts) {i : Nat} {y : Int32} (e : ts[i]? = some y) : own_at ts (Int32.ofNat i) y (y &&& (255 : Int32)) := own_at_of e (by have := h.1; omega) rfl
theorem own_tl_y {ts : List Int32} {n : Nat} {k : Int32} (h : ts.length = n) (d : Int32.ofNat n < k) : Int32.ofNat ts.length < k := by rw [h]; exact d
theorem own_tl_n {ts : List Int32} {n : Nat} {k : Int32} (h : ts.length = n) (d : ¬ Int32.ofNat n < k) : ¬ Int32.ofNat ts.length < k := by rw [h]; exact d
/-- mm is not negative and has k decimal digits -/
def own_nm (mm : Int64) (k : Nat) : Prop := 0 ≤ mm.toInt ∧ 1 ≤ k ∧ k ≤ 10 ∧ mm.toInt.toNat < 10 ^ k ∧ (1 < k → 10 ^ k ≤ 10 * mm.toInt.toNat)
theorem own_ten_cases {k : Nat} (h1 : 1 ≤ k) (h2 : k ≤ 10) : k = 1 ∨ k = 2 ∨ k = 3 ∨ k = 4 ∨ k = 5 ∨ k = 6 ∨ k = 7 ∨ k = 8 ∨ k = 9 ∨ k = 10 := by omega
theorem own_llt {x y : Int64} {n : Int} (hy : y.toInt = n) (h : x.toInt < n) : lcmpW x y < (0 : Int32) := (lw_lt x y).mpr (Int64.lt_iff_toInt_lt.mpr (by rw [hy]; exact h))
theorem own_lge {x y : Int64} {n : Int} (hy : y.toInt = n) (h : n ≤ x.toInt) : ¬ (lcmpW x y < (0 : Int32)) := fun q => by
  have r := Int64.lt_iff_toInt_lt.mp ((lw_lt x y).mp q)
  omega
def own_pw (j : Nat) : Int64 := Int64.ofNat (10 ^ j)
def own_dl (mm : Int64) (j : Nat) : Int64 := Int64.ofNat (mm.toInt.toNat / 10 ^ j % 10)
def own_dc (mm : Int64) (j : Nat) : Int32 := Int32.ofNat (48 + mm.toInt.toNat / 10 ^ j % 10)
/-- from place od on, cs says mm's kk digits -/
def own_sub (cs : List Int32) (od kk : Nat) (mm : Int64) : Prop := own_nm mm kk ∧ od + kk ≤ cs.length ∧ cs.length < 100 ∧ ∀ t, t < kk → cs[od + t]? = some (own_dc mm (kk - 1 - t))
theorem own_pwI {j : Nat} (h : j < 10) : (own_pw j).toInt = ((10 ^ j : Nat) : Int) := (by decide +kernel : ∀ j, j < 10 → (own_pw j).toInt = ((10 ^ j : Nat) : Int)) j h
theorem own_pw0 {j : Nat} (h : j < 10) : ¬ (own_pw j = (0 : Int64)) := (by decide +kernel : ∀ j, j < 10 → ¬ (own_pw j = (0 : Int64))) j h
theorem own_pw1 {j : Nat} (h : j < 10) : own_pw j ≠ -1 := (by decide +kernel : ∀ j, j < 10 → own_pw j ≠ -1) j h
theorem own_dld {mm : Int64} {j : Nat} (h : j < 10) (hm : 0 ≤ mm.toInt) : ((mm / own_pw j) - ((mm / own_pw j) / (10 : Int64)) * (10 : Int64)) = own_dl mm j := by
  have a := (c_ldiv mm (own_pw j) ((10 ^ j : Nat) : Int) (own_pwI h) (own_pw1 h)).1 hm
  have eN : mm.toInt = (mm.toInt.toNat : Int) := by omega
  rw [eN] at a
  have a' : (mm / own_pw j).toInt = ((mm.toInt.toNat / 10 ^ j : Nat) : Int) := a
  rw [own_dl]
  generalize mm / own_pw j = x at *
  generalize mm.toInt.toNat / 10 ^ j = n at *
  have b := (c_ldiv x (10 : Int64) 10 (by decide) (by decide)).1 (by omega)
  have c := c_lmul (x / (10 : Int64)) (10 : Int64)
  have d := c_lsub x ((x / (10 : Int64)) * (10 : Int64))
  have r0 := rng64 x
  have r1 := rng64 ((x / (10 : Int64)) * (10 : Int64))
  have r2 := rng64 (x - (x / (10 : Int64)) * (10 : Int64))
  rw [(by decide : (10 : Int64).toInt = 10)] at c
  apply Int64.toInt_inj.mp
  rw [Int64.toInt_ofNat_of_lt (by omega)]
  omega
theorem own_dlc (mm : Int64) (j : Nat) : ((48 : Int32) + (own_dl mm j).toInt32).toUInt32.toUInt16.toUInt32.toInt32 = own_dc mm j := by
  have h : mm.toInt.toNat / 10 ^ j % 10 < 10 := Nat.mod_lt _ (by decide)
  rw [own_dl, own_dc]
  generalize mm.toInt.toNat / 10 ^ j % 10 = r at *
  exact (by decide +kernel : ∀ r, r < 10 → ((48 : Int32) + (Int64.ofNat r).toInt32).toUInt32.toUInt16.toUInt32.toInt32 = Int32.ofNat (48 + r)) r h
theorem own_pws {j : Nat} (h : j < 10) : own_get [(.long (1 : Int64)), (.long (10 : Int64)), (.long (100 : Int64)), (.long (1000 : Int64)), (.long (10000 : Int64)), (.long (100000 : Int64)), (.long (1000000 : Int64)), (.long (10000000 : Int64)), (.long (100000000 : Int64)), (.long (1000000000 : Int64))] (Int32.ofNat j) (.long (0 : Int64)) (.long (own_pw j)) := own_get_of j (own_back (by omega)).1 ((by decide +kernel : ∀ j, j < 10 → [(Value.long (1 : Int64)), (.long (10 : Int64)), (.long (100 : Int64)), (.long (1000 : Int64)), (.long (10000 : Int64)), (.long (100000 : Int64)), (.long (1000000 : Int64)), (.long (10000000 : Int64)), (.long (100000000 : Int64)), (.long (1000000000 : Int64))].getD j (.long (0 : Int64)) = .long (own_pw j)) j h)
theorem own_sub_at {cs : List Int32} {od kk t : Nat} {mm : Int64} (h : own_sub cs od kk mm) (ht : t < kk) : own_at cs (Int32.ofNat (od + t)) (own_dc mm (kk - 1 - t)) (own_dc mm (kk - 1 - t)) := by
  refine own_at_of (h.2.2.2 t ht) h.2.2.1 ?_
  have r : mm.toInt.toNat / 10 ^ (kk - 1 - t) % 10 < 10 := Nat.mod_lt _ (by decide)
  rw [own_dc]
  generalize mm.toInt.toNat / 10 ^ (kk - 1 - t) % 10 = w at *
  exact (by decide : ∀ r, r < 10 → (Int32.ofNat (48 + r) &&& (255 : Int32)) = Int32.ofNat (48 + r)) w r
/-- the chars of mk -/
def own_c (z : Int32) : Int32 := (z &&& (255 : Int32)).toUInt32.toUInt16.toUInt32.toInt32
def own_by (z : Int32) : Int32 := (own_c z).toInt8.toInt32
def own_m8 (c : Int32) : Prop := nar .char c = c ∧ ¬ ((255 : Int32) < c)
theorem own_m8a {c : Int32} (h : own_m8 c) : nar .char c = c := h.1
theorem own_m8b {c : Int32} (h : own_m8 c) : ¬ ((255 : Int32) < c) := h.2
theorem own_m8_c (z : Int32) : own_m8 (own_c z) := by
  have q := c_mask z (255 : Int32) 8 (by decide) (by decide)
  have hk : ((2 ^ 8 : Nat) : Int) = 256 := by decide
  rw [hk] at q
  have e : own_c z = (z &&& (255 : Int32)) := by
    obtain ⟨a, b, d⟩ := c_i2c (z &&& (255 : Int32))
    exact Int32.toInt_inj.mp (by rw [own_c]; omega)
  rw [e]
  refine ⟨?_, own_nlt (by decide : (255 : Int32).toInt = 255) rfl (by omega)⟩
  obtain ⟨a, b, d⟩ := c_i2c (z &&& (255 : Int32))
  exact Int32.toInt_inj.mp (show ((z &&& (255 : Int32)).toUInt32.toUInt16.toUInt32.toInt32).toInt = _ by omega)
def own_mk (fs : List Int32) (pb : Int32) : Prop := fs = [] ∨ fs = [own_by pb] ∨ fs = [own_by pb, own_by ((pb.toUInt32 >>> ((8 : Int32) &&& 31).toUInt32).toInt32)] ∨ fs = [own_by pb, own_by ((pb.toUInt32 >>> ((8 : Int32) &&& 31).toUInt32).toInt32), own_by ((pb.toUInt32 >>> ((16 : Int32) &&& 31).toUInt32).toInt32)]
theorem own_m3 (z : Int32) : ∃ k : Nat, k ≤ 3 ∧ (z &&& (3 : Int32)) = Int32.ofNat k := by
  have q := c_mask z (3 : Int32) 2 (by decide) (by decide)
  have hk : ((2 ^ 2 : Nat) : Int) = 4 := by decide
  rw [hk] at q
  refine ⟨(z &&& (3 : Int32)).toInt.toNat, by omega, ?_⟩
  apply Int32.toInt_inj.mp
  rw [own_toI (by omega)]
  omega
theorem own_mk_ex (pb : Int32) {e : Int32} (h : ∃ k : Nat, k ≤ 3 ∧ e = Int32.ofNat k) : ∃ fs, own_mk fs pb ∧ e = Int32.ofNat fs.length ∧ fs.length ≤ 3 := by
  obtain ⟨k, hk, rfl⟩ := h
  rcases (by omega : k = 0 ∨ k = 1 ∨ k = 2 ∨ k = 3) with rfl | rfl | rfl | rfl
  · exact ⟨[], Or.inl rfl, rfl, Nat.le_of_ble_eq_true rfl⟩
  · exact ⟨_, Or.inr (Or.inl rfl), rfl, Nat.le_of_ble_eq_true rfl⟩
  · exact ⟨_, Or.inr (Or.inr (Or.inl rfl)), rfl, Nat.le_of_ble_eq_true rfl⟩
  · exact ⟨_, Or.inr (Or.inr (Or.inr rfl)), rfl, Nat.le_of_ble_eq_true rfl⟩
def own_bl (zs : List Int32) : List Int32 := zs.map fun c => c.toInt8.toInt32
def own_s1 (zs : List Int32) : Prop := 1 ≤ zs.length ∧ zs.length ≤ 3
def own_all8 (zs : List Int32) : Prop := ∀ i, i < zs.length → ¬ ((255 : Int32) < zs.getD i 0)
theorem own_bl_len (zs : List Int32) : (own_bl zs).length = zs.length := List.length_map _
theorem own_ch_get (cs : List Int32) (i : Nat) (h : i < cs.length) : (own_ch cs).getD i (.int (0 : Int32)) = .int (cs.getD i 0) := by
  simp [own_ch, List.getD_eq_getElem?_getD, h]
theorem own_bl_get (zs : List Int32) (i : Nat) (h : i < zs.length) : (own_ch (own_bl zs)).getD i (.int (0 : Int32)) = .int ((zs.getD i 0).toInt8.toInt32) := by
  simp [own_ch, own_bl, List.getD_eq_getElem?_getD, h]
theorem own_a8_1 {a : Int32} (h : own_m8 a) : own_all8 [a] := fun i hi => by
  simp only [List.length_cons, List.length_nil] at hi
  obtain rfl : i = 0 := by omega
  exact h.2
theorem own_a8_2 {a b : Int32} (h : own_m8 a) (h' : own_m8 b) : own_all8 [a, b] := fun i hi => by
  simp only [List.length_cons, List.length_nil] at hi
  rcases (by omega : i = 0 ∨ i = 1) with rfl | rfl
  · exact h.2
  · exact h'.2
theorem own_a8_3 {a b c : Int32} (h : own_m8 a) (h' : own_m8 b) (h'' : own_m8 c) : own_all8 [a, b, c] := fun i hi => by
  simp only [List.length_cons, List.length_nil] at hi
  rcases (by omega : i = 0 ∨ i = 1 ∨ i = 2) with rfl | rfl | rfl
  · exact h.2
  · exact h'.2
  · exact h''.2
theorem own_z_nn {cs : List Int32} (h : own_s1 cs) : ¬ (Int32.ofNat cs.length < (0 : Int32)) := (own_back (by have := h.2; omega)).2
theorem own_z_cap {cs : List Int32} (h : own_s1 cs) : own_cap (Int32.ofNat cs.length) 3 := by unfold own_cap; rw [(own_back (by have := h.2; omega)).1]; exact h.2
theorem own_z_ne {cs : List Int32} (h : own_s1 cs) : ¬ (Int32.ofNat cs.length = (0 : Int32)) := fun q => by
  have a := (own_back (n := cs.length) (by have := h.2; omega)).1
  rw [q] at a
  have := h.1
  have : (0 : Int32).toNatClampNeg = 0 := by decide
  omega
theorem own_z_c0 (x : Int32) : (((x - x).toUInt32 >>> ((31 : Int32) &&& 31).toUInt32).toInt32) = (0 : Int32) := by rw [Int32.sub_self]; decide
theorem own_mix_set {i : Nat} {xs us : List Value} {v : Value} (h : xs.length = us.length) (hi : i < us.length) (hv : xs.getD i (.int (0 : Int32)) = v) : (own_mix i xs us).set i v = own_mix (i + 1) xs us := by
  apply List.ext_getElem?
  intro k
  have e : xs[i]? = some v := by
    rw [← hv, List.getD_eq_getElem?_getD, List.getElem?_eq_getElem (by omega)]; rfl
  simp only [own_mix, List.getElem?_set, List.getElem?_append, List.getElem?_take, List.getElem?_drop, List.length_append, List.length_take, List.length_drop]
  by_cases q1 : i = k
  · subst q1
    simp only [if_true]
    rw [if_pos (by omega), if_pos (by omega), if_pos (by omega)]; exact e.symm
  · rw [if_neg q1]
    by_cases q2 : k < i
    · rw [if_pos (by omega), if_pos q2, if_pos (by omega), if_pos (by omega)]
    · rw [if_neg (by omega), if_neg (by omega)]
      congr 1; omega
theorem own_mix_all {xs us : List Value} (n : Nat) (h : xs.length = n) (k : us.length = n) : own_mix n xs us = xs := by
  simp only [own_mix]
  rw [List.take_of_length_le (by omega), List.drop_eq_nil_of_le (by omega), List.append_nil]
/-- what toString says -/
def own_vz (fs rs : List Int32) : List Int32 := (((([] : List Int32) ++ fs) ++ [(58 : Int32), (32 : Int32)]) ++ rs)
def own_vn (fs : List Int32) (qa : Int32) (kk : Nat) (rs : List Int32) : List Int32 := (((((([] : List Int32) ++ fs) ++ [(58 : Int32)]) ++ own_ds qa kk) ++ [(58 : Int32), (32 : Int32)]) ++ rs)
theorem own_vz_eq (fs rs : List Int32) : own_vz fs rs = fs ++ ((58 : Int32) :: (32 : Int32) :: rs) := by simp [own_vz]
theorem own_vn_eq (fs : List Int32) (q : Int32) (k : Nat) (rs : List Int32) : own_vn fs q k rs = fs ++ ((58 : Int32) :: (own_ds q k ++ ((58 : Int32) :: (32 : Int32) :: rs))) := by simp [own_vn]
theorem own_vz_len (fs rs : List Int32) : (own_vz fs rs).length = fs.length + 2 + rs.length := by rw [own_vz_eq]; simp only [List.length_append, List.length_cons]; omega
theorem own_vn_len (fs : List Int32) (q : Int32) (k : Nat) (rs : List Int32) : (own_vn fs q k rs).length = fs.length + 1 + k + 2 + rs.length := by rw [own_vn_eq]; simp only [List.length_append, List.length_cons, own_ds_len]; omega
theorem own_ap {A B : List Int32} {n : Nat} (i : Nat) (h : n = A.length + i) : (A ++ B)[n]? = B[i]? := by rw [h, List.getElem?_append_right (Nat.le_add_right _ _), Nat.add_sub_cancel_left]
theorem own_z_len (fs rs : List Int32) : Int32.ofNat (fs.length + 2) + Int32.ofNat rs.length = Int32.ofNat (own_vz fs rs).length := by rw [own_vz_len, ← Int32.ofNat_add]
theorem own_z_s1 {fs rs : List Int32} (hf : fs.length ≤ 3) (hr : rs.length ≤ 3) : own_sg (own_vz fs rs) 0 fs := by
  have l := own_vz_len fs rs
  exact ⟨hf, by omega, by omega, fun i hi => by rw [own_vz_eq, Nat.zero_add, List.getElem?_append_left hi]⟩
theorem own_z_s2 {fs rs : List Int32} (hf : fs.length ≤ 3) (hr : rs.length ≤ 3) : own_sg (own_vz fs rs) (fs.length + 2) rs := by
  have l := own_vz_len fs rs
  exact ⟨hr, by omega, by omega, fun i hi => by rw [own_vz_eq, own_ap (i + 2) (by omega)]; rfl⟩
theorem own_z_a1 {fs rs : List Int32} (hf : fs.length ≤ 3) (hr : rs.length ≤ 3) : own_at (own_vz fs rs) (Int32.ofNat fs.length) (58 : Int32) (58 : Int32) := by
  have l := own_vz_len fs rs
  exact own_at_of (by rw [own_vz_eq, own_ap 0 (by omega)]; rfl) (by omega) (by decide)
theorem own_z_a2 {fs rs : List Int32} (hf : fs.length ≤ 3) (hr : rs.length ≤ 3) : own_at (own_vz fs rs) (Int32.ofNat (fs.length + 1)) (32 : Int32) (32 : Int32) := by
  have l := own_vz_len fs rs
  exact own_at_of (by rw [own_vz_eq, own_ap 1 (by omega)]; rfl) (by omega) (by decide)
section OwnLaw
variable {fs rs : List Int32} {q : Int32} {k : Nat}
theorem own_v_s1 (hf : fs.length ≤ 3) (hr : rs.length ≤ 3) (hk : k ≤ 11) : own_sg (own_vn fs q k rs) 0 fs := by
  have l := own_vn_len fs q k rs
  exact ⟨hf, by omega, by omega, fun i hi => by rw [own_vn_eq, Nat.zero_add, List.getElem?_append_left hi]⟩
theorem own_v_s2 (hf : fs.length ≤ 3) (hr : rs.length ≤ 3) (hk : k ≤ 11) {n : Nat} (e : n = fs.length + 1 + k + 2) : own_sg (own_vn fs q k rs) n rs := by
  have l := own_vn_len fs q k rs
  refine ⟨hr, by omega, by omega, fun i hi => ?_⟩
  rw [own_vn_eq, own_ap (k + i + 2 + 1) (by omega), List.getElem?_cons_succ, own_ap (i + 2) (by rw [own_ds_len]; omega)]; rfl
theorem own_v_a1 (hf : fs.length ≤ 3) (hr : rs.length ≤ 3) (hk : k ≤ 11) : own_at (own_vn fs q k rs) (Int32.ofNat fs.length) (58 : Int32) (58 : Int32) := by
  have l := own_vn_len fs q k rs
  exact own_at_of (by rw [own_vn_eq, own_ap 0 (by omega)]; rfl) (by omega) (by decide)
theorem own_v_a3 (hf : fs.length ≤ 3) (hr : rs.length ≤ 3) (hk : k ≤ 11) {n : Nat} (e : n = fs.length + 1 + k) : own_at (own_vn fs q k rs) (Int32.ofNat n) (58 : Int32) (58 : Int32) := by
  have l := own_vn_len fs q k rs
  exact own_at_of (by rw [own_vn_eq, own_ap (k + 1) (by omega), List.getElem?_cons_succ, own_ap 0 (by rw [own_ds_len]; omega)]; rfl) (by omega) (by decide)
theorem own_v_a4 (hf : fs.length ≤ 3) (hr : rs.length ≤ 3) (hk : k ≤ 11) {n : Nat} (e : n = fs.length + 1 + k + 1) : own_at (own_vn fs q k rs) (Int32.ofNat n) (32 : Int32) (32 : Int32) := by
  have l := own_vn_len fs q k rs
  exact own_at_of (by rw [own_vn_eq, own_ap (k + 1 + 1) (by omega), List.getElem?_cons_succ, own_ap 1 (by rw [own_ds_len])]; rfl) (by omega) (by decide)
/-- place t of the sign and the digits -/
theorem own_v_at {n t : Nat} (e : n = fs.length + 1 + t) (ht : t < k) : (own_vn fs q k rs)[n]? = (own_ds q k)[t]? := by
  rw [own_vn_eq, own_ap (t + 1) (by omega), List.getElem?_cons_succ, List.getElem?_append_left (by rw [own_ds_len]; exact ht)]
theorem own_dg_at {t : Nat} (h : t < k) : (own_dg q k)[t]? = some (own_d q (k - 1 - t)) := by rw [own_dg, List.getElem?_map, List.getElem?_range h]; rfl
theorem own_nm_of {mm : Int64} (h0 : 0 ≤ mm.toInt) (e : mm.toInt.toNat = own_N q) (h : own_nk q k) : own_nm mm k := by
  obtain ⟨-, h1, h2, h3, h4⟩ := h
  refine ⟨h0, h1, h2, by rw [e]; exact h3, fun hk => ?_⟩
  have h5 := h4 hk
  rw [e, show k = (k - 1) + 1 by omega, Nat.pow_succ]
  omega
theorem own_p_v (h : ¬ q < (0 : Int32)) : 0 ≤ q.toInt64.toInt ∧ q.toInt64.toInt.toNat = own_N q := by
  have h' := own_nltI h
  rw [(by decide : (0 : Int32).toInt = 0)] at h'
  rw [c_i2l, own_N]; omega
theorem own_n_v (h : q < (0 : Int32)) : 0 ≤ (-q.toInt64).toInt ∧ (-q.toInt64).toInt.toNat = own_N q := by
  have h' := own_ltI h
  rw [(by decide : (0 : Int32).toInt = 0)] at h'
  have a := c_lneg q.toInt64
  have r := rng64 (-q.toInt64)
  have r' := rng32 q
  rw [c_i2l] at a
  rw [own_N]; omega
theorem own_dc_d {mm : Int64} {j : Nat} (e : mm.toInt.toNat = own_N q) : own_dc mm j = own_d q j := by rw [own_dc, own_d, e]
theorem own_p_m (h : ¬ q < (0 : Int32) ∧ own_nk q k) : own_nm q.toInt64 k := own_nm_of (own_p_v h.1).1 (own_p_v h.1).2 h.2
theorem own_n_m (h : q < (0 : Int32) ∧ own_nk q k) : own_nm (-q.toInt64) k := own_nm_of (own_n_v h.1).1 (own_n_v h.1).2 h.2
theorem own_p_l (h : ¬ q < (0 : Int32) ∧ own_nk q k) : ¬ (lcmpW q.toInt64 (0 : Int64) < (0 : Int32)) := own_lge (by decide : (0 : Int64).toInt = 0) (own_p_v h.1).1
theorem own_n_l (h : q < (0 : Int32) ∧ own_nk q k) : lcmpW q.toInt64 (0 : Int64) < (0 : Int32) := own_llt (by decide : (0 : Int64).toInt = 0) (by have z := own_ltI h.1; rw [(by decide : (0 : Int32).toInt = 0)] at z; rw [c_i2l]; exact z)
theorem own_p_s1 (hf : fs.length ≤ 3) (hr : rs.length ≤ 3) (h : ¬ q < (0 : Int32) ∧ own_nk q k) : own_sg (own_vn fs q k rs) 0 fs := own_v_s1 hf hr (by have := h.2.2.2.1; omega)
theorem own_n_s1 (hf : fs.length ≤ 3) (hr : rs.length ≤ 3) (h : q < (0 : Int32) ∧ own_nk q k) : own_sg (own_vn fs q (k + 1) rs) 0 fs := own_v_s1 hf hr (by have := h.2.2.2.1; omega)
theorem own_p_s2 (hf : fs.length ≤ 3) (hr : rs.length ≤ 3) (h : ¬ q < (0 : Int32) ∧ own_nk q k) : own_sg (own_vn fs q k rs) (fs.length + 1 + k + 2) rs := own_v_s2 hf hr (by have := h.2.2.2.1; omega) rfl
theorem own_n_s2 (hf : fs.length ≤ 3) (hr : rs.length ≤ 3) (h : q < (0 : Int32) ∧ own_nk q k) : own_sg (own_vn fs q (k + 1) rs) (fs.length + 2 + k + 2) rs := own_v_s2 hf hr (by have := h.2.2.2.1; omega) (by omega)
theorem own_p_a1 (hf : fs.length ≤ 3) (hr : rs.length ≤ 3) (h : ¬ q < (0 : Int32) ∧ own_nk q k) : own_at (own_vn fs q k rs) (Int32.ofNat fs.length) (58 : Int32) (58 : Int32) := own_v_a1 hf hr (by have := h.2.2.2.1; omega)
theorem own_n_a1 (hf : fs.length ≤ 3) (hr : rs.length ≤ 3) (h : q < (0 : Int32) ∧ own_nk q k) : own_at (own_vn fs q (k + 1) rs) (Int32.ofNat fs.length) (58 : Int32) (58 : Int32) := own_v_a1 hf hr (by have := h.2.2.2.1; omega)
theorem own_n_a2 (hf : fs.length ≤ 3) (hr : rs.length ≤ 3) (h : q < (0 : Int32) ∧ own_nk q k) : own_at (own_vn fs q (k + 1) rs) (Int32.ofNat (fs.length + 1)) (45 : Int32) (45 : Int32) := by
  have l := own_vn_len fs q (k + 1) rs
  have := h.2.2.2.1
  exact own_at_of (by rw [own_v_at (t := 0) rfl (by omega), own_ds_n h.1]; rfl) (by omega) (by decide)
theorem own_p_a3 (hf : fs.length ≤ 3) (hr : rs.length ≤ 3) (h : ¬ q < (0 : Int32) ∧ own_nk q k) : own_at (own_vn fs q k rs) (Int32.ofNat (fs.length + 1 + k)) (58 : Int32) (58 : Int32) := own_v_a3 hf hr (by have := h.2.2.2.1; omega) rfl
theorem own_n_a3 (hf : fs.length ≤ 3) (hr : rs.length ≤ 3) (h : q < (0 : Int32) ∧ own_nk q k) : own_at (own_vn fs q (k + 1) rs) (Int32.ofNat (fs.length + 2 + k)) (58 : Int32) (58 : Int32) := own_v_a3 hf hr (by have := h.2.2.2.1; omega) (by omega)
theorem own_p_a4 (hf : fs.length ≤ 3) (hr : rs.length ≤ 3) (h : ¬ q < (0 : Int32) ∧ own_nk q k) : own_at (own_vn fs q k rs) (Int32.ofNat (fs.length + 1 + k + 1)) (32 : Int32) (32 : Int32) := own_v_a4 hf hr (by have := h.2.2.2.1; omega) rfl
theorem own_n_a4 (hf : fs.length ≤ 3) (hr : rs.length ≤ 3) (h : q < (0 : Int32) ∧ own_nk q k) : own_at (own_vn fs q (k + 1) rs) (Int32.ofNat (fs.length + 2 + k + 1)) (32 : Int32) (32 : Int32) := own_v_a4 hf hr (by have := h.2.2.2.1; omega) (by omega)
theorem own_p_d (hf : fs.length ≤ 3) (hr : rs.length ≤ 3) (h : ¬ q < (0 : Int32) ∧ own_nk q k) : own_sub (own_vn fs q k rs) (fs.length + 1) k q.toInt64 := by
  have l := own_vn_len fs q k rs
  have := h.2.2.2.1
  refine ⟨own_p_m h, by omega, by omega, fun t ht => ?_⟩
  rw [own_v_at rfl ht, own_ds_p h.1, own_dg_at ht, own_dc_d (own_p_v h.1).2]
theorem own_n_d (hf : fs.length ≤ 3) (hr : rs.length ≤ 3) (h : q < (0 : Int32) ∧ own_nk q k) : own_sub (own_vn fs q (k + 1) rs) (fs.length + 2) k (-q.toInt64) := by
  have l := own_vn_len fs q (k + 1) rs
  have := h.2.2.2.1
  refine ⟨own_n_m h, by omega, by omega, fun t ht => ?_⟩
  rw [own_v_at (t := t + 1) (by omega) (by omega), own_ds_n h.1, List.getElem?_cons_succ, own_dg_at ht, own_dc_d (own_n_v h.1).2]
end OwnLaw
theorem own_p_len (fs : List Int32) (q : Int32) (k : Nat) (rs : List Int32) : Int32.ofNat (fs.length + 1 + k + 2) + Int32.ofNat rs.length = Int32.ofNat (own_vn fs q k rs).length := by rw [own_vn_len, ← Int32.ofNat_add]
theorem own_n_len (fs : List Int32) (q : Int32) (k : Nat) (rs : List Int32) : Int32.ofNat (fs.length + 2 + k + 2) + Int32.ofNat rs.length = Int32.ofNat (own_vn fs q (k + 1) rs).length := by rw [own_vn_len, ← Int32.ofNat_add]; congr 1; omega
theorem own_arrB {Z : State} {a0 : Array Value} {a : Addr} (E : Exa Z Z.heap a "[B") (w : (Jvm.Cond.arrayClass .byte).before a0 Z = true) (u : ∀ cl, Z.heap[a]? = some cl → cl.vm ≠ .unknown) : ∃ cl, Arr Z Z.heap a cl .byte := by
  obtain ⟨cell, k, h1, h2, h3, h4, -⟩ := E
  obtain ⟨cA, kA, comp, g1, g2, g3⟩ := Cond.arrayClass_spec w
  have e : cA = cell.cls := Option.some.inj (g1.symm.trans h2)
  subst e
  exact ⟨cell, h1, ⟨(fun q e => by rw [e] at h4; cases h4), kA, g2, comp, g3⟩, u _ h1⟩
theorem own_dtab {Z : State} {args : Array Value} {t r : Term} {a : Addr} {cl : Cell} (et : ∀ idx, t.eval args Z none idx Z = some (.ref a)) (A : Arr Z Z.heap a cl .byte) (S : cl.slots.size = 100) (h : (Cond.all t (.eq (.elem t (.index 0)) r)).value args Z none Z [] = some true) (i : Nat) (hi : i < 100) (y : Int32) (hr : r.eval args Z none [i] Z = some (.int y)) : cl.slots[i]? = some (.int y) := by
  have u := Cond.all_elim (et []) (A.fin (Vm.Alike.refl _)) h i (by omega)
  have nn := own_back (n := i) (by omega)
  have ei : (Term.index 0).eval args Z none [i] Z = some (.int (Int32.ofNat i)) := by
    have q := idx_at (args := args) (s := Z) (first := Z) (o := none) nn.2
    rw [nn.1] at q
    exact q
  have e := elem_f (et [i]) ei (A.fin (Vm.Alike.refl _)) nn.2
  rw [nn.1] at e
  simp only [Cond.value, hr, e] at u
  cases q : cl.slots[i]? with
  | none => simp [q] at u
  | some x => cases x <;> simp [q] at u ⊢; exact u
theorem own_unk {Z : State} {args : Array Value} {t : Term} {a : Addr} {n : Int32} (ev : t.eval args Z none [] Z = some (.ref a)) (hL : (Term.length t).eval args Z none [] Z = some (.int n)) : ∀ cl, Z.heap[a]? = some cl → cl.vm ≠ .unknown := fun cl hc hu => by
  have q : Z.arrayAt? a = none := by
    simp only [State.arrayAt?, hc, hu, Option.bind_eq_bind, Option.bind_some]
    cases Z.vm.classes[cl.cls]? <;> simp
  simp [Term.eval, ev, q] at hL
theorem own_digits {Z : State} {args a0 : Array Value} {C n d : String} {r : Term} {xs : List Value} (hx : (Cond.exactly (.static C n d) "[B").value args Z none Z [] = some true) (hi : (Cond.initializedFor C n d).before args Z = true) (hl : (Cond.eq (.length (.static C n d)) (.int (100 : Int32))).value args Z none Z [] = some true) (ha : (Cond.all (.static C n d) (.eq (.elem (.static C n d) (.index 0)) r)).value args Z none Z [] = some true) (w : (Jvm.Cond.arrayClass .byte).before a0 Z = true) (hr : ∀ i, i < 100 → ∃ y, r.eval args Z none [i] Z = some (.int y) ∧ xs.getD i (.int (0 : Int32)) = .int y ∧ fits .byte (.int y) = true) : ∃ (a : Addr) (k : ClassId), Sta Z Z.heap C n d (.ref a) ∧ Arv Z Z.heap a k .byte (100 : Int32) xs (.int (0 : Int32)) := by
  obtain ⟨a, ev⟩ := exa_v hx
  have E := Exa.start ev hx
  have hL := own_eqI hl
  have et : ∀ idx, (Term.static C n d).eval args Z none idx Z = some (.ref a) := fun idx => ev
  obtain ⟨cl, A⟩ := own_arrB E w (own_unk ev hL)
  have S : cl.slots.size = 100 := own_len ev A hL (by decide)
  refine ⟨a, cl.cls, Sta.start ev (Or.inl hi), cl, A, rfl, S, by decide, fun i hi => ?_, fun i hi => ?_⟩
  · obtain ⟨y, e, f, -⟩ := hr i (by omega)
    rw [own_dtab et A S ha i (by omega) y e, f]
  · obtain ⟨y, -, f, g⟩ := hr i (by omega)
    rw [f]; exact g
theorem own_on (args : Array Value) (Z : State) (i : Nat) (h : i < 100) : ∃ y, (Term.add (.int (48 : Int32)) (.rem (.index 0) (.int (10 : Int32)))).eval args Z none [i] Z = some (.int y) ∧ own_ones.getD i (.int (0 : Int32)) = .int y ∧ fits .byte (.int y) = true :=
  ⟨(48 : Int32) + (Int32.ofNat i % 10), rfl, (by decide : ∀ i, i < 100 → own_ones.getD i (.int (0 : Int32)) = .int ((48 : Int32) + (Int32.ofNat i % 10))) i h, (by decide : ∀ i, i < 100 → fits .byte (.int ((48 : Int32) + (Int32.ofNat i % 10))) = true) i h⟩
theorem own_tn (args : Array Value) (Z : State) (i : Nat) (h : i < 100) : ∃ y, (Term.add (.int (48 : Int32)) (.div (.index 0) (.int (10 : Int32)))).eval args Z none [i] Z = some (.int y) ∧ own_tens.getD i (.int (0 : Int32)) = .int y ∧ fits .byte (.int y) = true :=
  ⟨(48 : Int32) + (Int32.ofNat i / 10), rfl, (by decide : ∀ i, i < 100 → own_tens.getD i (.int (0 : Int32)) = .int ((48 : Int32) + (Int32.ofNat i / 10))) i h, (by decide : ∀ i, i < 100 → fits .byte (.int ((48 : Int32) + (Int32.ofNat i / 10))) = true) i h⟩
theorem own_decl {Z : State} {a0 : Array Value} {y : MethodName} {b : ByteArray} {ml : Nat} {rt : Option FieldType} (w2 : (Jvm.Cond.instanceMethod y).before a0 Z = true) (w4 : (Jvm.Cond.code y b ml rt).before a0 Z = true) : (Jvm.Cond.declares y).before a0 Z = true := by
  obtain ⟨mk, methM, hnamed, hmethM, hstM, -⟩ := Cond.instanceMethod_spec w2
  obtain ⟨m2, cM, q1, -, -, -, -, -, -, hsig⟩ := Cond.code_spec hnamed w4
  cases hmethM.symm.trans q1
  simp [Cond.before, Cond.holds, Cond.value, hnamed, hmethM, hstM, hsig]
theorem own_same {Z : State} {a0 : Array Value} {y z : MethodName} {C : String} (w3 : (Jvm.Cond.instanceMethod y).before a0 Z = true) (ws : (Jvm.Cond.selects C z z).before a0 Z = true) (hc : z.cls = y.cls) (hy : y.cls ≠ "java/lang/invoke/MethodHandle" ∧ y.cls ≠ "java/lang/invoke/VarHandle") : (Jvm.Cond.sameMethod y.cls y.cls y.name y.desc).before a0 Z = true := by
  obtain ⟨mk, methM, hnamed, -, -, -⟩ := Cond.instanceMethod_spec w3
  obtain ⟨c2, r2, m2, -, -, q3, -, kP, hkP, hkPi⟩ := Cond.selects_spec ws
  have h1 := findClass_of_methodNamed hnamed
  have h2 := findClass_of_methodNamed q3
  rw [hc] at h2
  have e : m2.cls = mk.cls := Option.some.inj (h2.symm.trans h1)
  rw [e] at hkP
  have hf := State.methodFound?_of_named hnamed hy
  have hn' : Z.methodNamed? ⟨y.cls, y.name, y.desc⟩ = some mk := hnamed
  simp [Cond.before, Cond.holds, Cond.value, h1, hf, hn', hkP, hkPi]
section OwnCallsS
variable {p : Program} {l : Launch} {e : Env} {R : Room} {s : State} {m : MethodId} {args : Array Value} {below : List Frame} {meth : Method} {c : Code} {T : State} {locs : List Loc} {cells slots : Nat} {Z : State} {a0 : Array Value} {h : Heap} {own : String} {index : Nat} {y z : MethodName} {b : ByteArray} {ml : Nat} {rt : Option FieldType} {rm : Room} {as' : Array Value} {Q : Option Value → Heap → List Loc → Prop} {W : Nat} {g : JFrame} {argsL rest : List Value}
theorem own_super (X : Stand p l e R s m args below meth c T locs cells slots) (hx : p.tables.exec = Jvm.exec) (hZ : Z.Warmed39 s.vm) (hown : s.vm.findClass own = some m.cls) {K : String} (w1 : (Jvm.Cond.methodLink own index y).before a0 Z = true) (w5 : (Jvm.Cond.sameMethod y.cls y.cls y.name y.desc).before a0 Z = true) (w2 : (Jvm.Cond.instanceMethod y).before a0 Z = true) (w6 : (Jvm.Cond.superclass own y.cls).before a0 Z = true) (w3 : (Jvm.Cond.initialized y.cls).before a0 Z = true) (w4 : (Jvm.Cond.code y b ml rt).before a0 Z = true)
    (hM : own_met l y b ml rt [] rm Z as' h Q) (eT : T.heap = h) {a : Addr} (F : Ins Z h a K true) (hlen : ∀ sig, parseMethodDescriptor y.desc = some sig → argsL.length = sig.parameters.length) (hd : decode c.code g.pc = .ok (.invokespecial index, 3)) {ML : Nat} (hml : c.maxLocals = ML) (hn : y.name ≠ "<init>" := by decide) (hf : rm.frames + 1 ≤ R.frames := by decide) (hl : W + (ml + 11) + rm.locals ≤ R.locals := by decide) (hg : g.method = m := by rfl) (hsz : g.locals.size = ML := by rfl) (ha : (Value.ref a :: argsL).toArray = as' := by rfl) (hs : g.stack = argsL.reverse ++ .ref a :: rest := by rfl) (hW : 2 * g.monitorRoom + (rest.map fun v => v.category).sum ≤ W := by (show 2 * 0 + _ ≤ _; exact Nat.le_of_eq rfl)) (hc : cells + rm.cells ≤ R.cells := by decide) (hsl : slots + rm.slots ≤ R.slots := by decide) :
    ∃ v T' L, Stand p l e R s m args below meth c T' (locs ++ L) (cells + rm.cells) (slots + rm.slots) ∧ Q v T'.heap L ∧ ∀ target, Steps p.tables e below (T'.setTop { g with pc := g.pc + 3, stack := v.toList ++ rest }) target → Steps p.tables e below (T.setTop g) target := by
  obtain ⟨v, _, ⟨T', L', k', n'⟩, -, X', ⟨Lc, hQ, l1, y1, z1⟩, st⟩ := superBack X hx hZ hown w1 w5 w2 w6 hn (backOf (W := W) hM hZ w4 w3 hf hl) eT F (g := g) hg (hsz.trans hml.symm) w4 (argsL := argsL) (rest := rest) hlen hs hW hd (fun _ _ => ⟨ha, eT, hc, hsl⟩)
  dsimp only [Pt.U, Pt.locs, Pt.cells, Pt.slots] at X' l1 y1 z1 st hQ
  subst l1 y1 z1
  exact ⟨v, T', Lc, X', hQ, fun _ k => st.trans k⟩
theorem own_virtualO (X : Stand p l e R s m args below meth c T locs cells slots) (hx : p.tables.exec = Jvm.exec) (hZ : Z.Warmed39 s.vm) (hown : s.vm.findClass own = some m.cls) {C : String} {u : MethodName} (w1 : (Jvm.Cond.methodLink own index z).before a0 Z = true) (w5 : (Jvm.Cond.declares z).before a0 Z = true) (wf : (Jvm.Cond.selects C u u).before a0 Z = true) (hu : u.cls = z.cls) (w6 : (Jvm.Cond.selects C z y).before a0 Z = true) (w2 : (Jvm.Cond.instanceMethod y).before a0 Z = true) (w3 : (Jvm.Cond.initialized y.cls).before a0 Z = true) (w4 : (Jvm.Cond.code y b ml rt).before a0 Z = true)
    (hM : own_met l y b ml rt [] rm Z as' h Q) (eT : T.heap = h) {a : Addr} (E : Exa Z h a C) (hlen : ∀ sig, parseMethodDescriptor z.desc = some sig → argsL.length = sig.parameters.length) (hd : decode c.code g.pc = .ok (.invokevirtual index, 3)) {ML : Nat} (hml : c.maxLocals = ML) (hy : z.cls ≠ "java/lang/invoke/MethodHandle" ∧ z.cls ≠ "java/lang/invoke/VarHandle" := by decide) (hf : rm.frames + 1 ≤ R.frames := by decide) (hl : W + (ml + 11) + rm.locals ≤ R.locals := by decide) (hg : g.method = m := by rfl) (hsz : g.locals.size = ML := by rfl) (ha : (Value.ref a :: argsL).toArray = as' := by rfl) (hs : g.stack = argsL.reverse ++ .ref a :: rest := by rfl) (hW : 2 * g.monitorRoom + (rest.map fun v => v.category).sum ≤ W := by (show 2 * 0 + _ ≤ _; exact Nat.le_of_eq rfl)) (hc : cells + rm.cells ≤ R.cells := by decide) (hsl : slots + rm.slots ≤ R.slots := by decide) :
    ∃ v T' L, Stand p l e R s m args below meth c T' (locs ++ L) (cells + rm.cells) (slots + rm.slots) ∧ Q v T'.heap L ∧ ∀ target, Steps p.tables e below (T'.setTop { g with pc := g.pc + 3, stack := v.toList ++ rest }) target → Steps p.tables e below (T.setTop g) target := by
  obtain ⟨cq, kq, qa, qb, qc⟩ := isOf hZ eT E
  have nf : NotFace s z := fun r hr => by
    obtain ⟨c2, r2, m2, -, -, q3, -, kP, hkP, hkPi⟩ := Cond.selects_spec (mvT (args := #[]) hZ wf)
    have h1 := findClass_of_methodNamed hr
    have h2 := findClass_of_methodNamed q3
    rw [hu] at h2
    have e : m2.cls = r.cls := Option.some.inj (h2.symm.trans h1)
    rw [e] at hkP
    exact ⟨kP, hkP, hkPi⟩
  obtain ⟨v, _, ⟨T', L', k', n'⟩, -, X', ⟨Lc, hQ, l1, y1, z1⟩, st⟩ := X.virtualBack hx (y := z) (z := y) hown (mvT hZ w1) (mvT hZ w5) nf (mvT hZ w6) (mvT hZ w2) hy (backOf (W := W) hM hZ w4 w3 hf hl) qa qc (g := g) hg (hsz.trans hml.symm) (Steps.refl _) (argsL := argsL) (rest := rest) hlen hs hW hd (fun _ _ => ⟨ha, eT, hc, hsl⟩)
  dsimp only [Pt.U, Pt.locs, Pt.cells, Pt.slots] at X' l1 y1 z1 st hQ
  subst l1 y1 z1
  exact ⟨v, T', Lc, X', hQ, fun _ k => st.trans k⟩
end OwnCallsS
/-- a body's contract where a String constant may be loaded -/
abbrev own_metW (l : Launch) (y : MethodName) (b : ByteArray) (ml : Nat) (rt : Option FieldType) (ws : List Jvm.Cond) (R : Room) (Z : State) (A : Array Value) (h0 : Heap) (Q : Option Value → Heap → List Loc → Prop) : Prop :=
  MetFree l y (head1 (Jvm.Cond.code y b ml rt :: ws) R) (fun a U => a = A ∧ Z.Warmed39 U.vm ∧ U.heap = h0 ∧ CHv Z consts_1 U.vm h0) (fun _ _ _ _ _ => True) (fun _ U o U' => ∃ v L, o = .returned v ∧ Q v U'.heap L ∧ CHr Z consts_1 U.vm U.heap U'.vm U'.heap ∧ ReturnedEndW U o U' L R.cells R.slots)
theorem own_startW {l : Launch} {y : MethodName} {b : ByteArray} {ml : Nat} {rt : Option FieldType} {ws : List Jvm.Cond} {R : Room} {Z : State} {A : Array Value} {h0 : Heap} {Q : Option Value → Heap → List Loc → Prop} {Ls : Array Slot}
    (hpl : plainFor y = true) (hef : ∀ m, entryFrame m A ml = mkF m 0 Ls [])
    (body : ∀ p e s m below meth c s₁, p.tables.exec = Jvm.exec → c.code = b → c.maxLocals = ml → s.vm.findClass y.cls = some m.cls → meth.name = y.name → Stand p l e R s m A below meth c s₁ [] 0 0 → Z.Warmed39 s.vm → s₁.heap = h0 → meth.sig.returnType = rt → meth.locks = false → s.heap = h0 → CHv Z consts_1 s.vm h0 →
      ∃ s₂ o, Steps p.tables e below (s₁.setTop (mkF m 0 Ls [])) s₂ ∧ s₂.status = .running ∧ Ended s₂ below o ∧ ∃ v L, o = .returned v ∧ Q v s₂.heap L ∧ CHr Z consts_1 s.vm s.heap s₂.vm s₂.heap ∧ ReturnedEndW s o s₂ L R.cells R.slots) : own_metW l y b ml rt ws R Z A h0 Q := by
  refine MetFree.of_bodySF hpl hisR ?_
  intro p e s m args below meth c s₁ Bd hml0 hP hK
  obtain ⟨rfl, hZ, hh, hC⟩ := hP
  obtain ⟨s₂, o, k, r⟩ := body p e s m below meth c s₁ Bd.exec Bd.bytes hml0 (findClass_of_methodNamed Bd.named) (name_of_methodNamed Bd.named Bd.method).1 (Stand.of_body Bd) hZ (by rw [← hh, Bd.state]; rfl) Bd.returns Bd.notSynchronized hh hC
  exact ⟨s₂, o, castTop (hef m) k, r⟩
theorem own_safe {Z : State} {a0 : Array Value} {EL : List (String × Nat)} {vm : Vm} {h : Heap} {x : Addr} {n : Nat} (hal : Z.vm.Alike vm) (E : Exa Z h x "java/lang/String") (w : (Jvm.Cond.instantiable "java/lang/String" n).before a0 Z = true) (F : Fld Z h x "java/lang/String" "value" "[B" .null) : Safe Z EL vm h x := fun B => by
  obtain ⟨p, -, u, a, -, q, -, F', rfl | rfl⟩ := B
  · obtain ⟨cS, ⟨⟨s1, s2, s3, ⟨cv, kv, iv, s4, s4'⟩, -, s6, s7, s8, -⟩, -⟩, -⟩ := F'
    obtain ⟨kv', z4⟩ := ff_back (U := Wst Z vm h) hal s4
    have G : Fld Z h q.sa "java/lang/String" "value" "[B" (.ref q.sd) := ⟨q.sC, cv, kv', iv, q.fSV, s1, z4, s6, s2, s3, by rw [← hal.assignable]; exact s4', s8⟩
    exact Fld.ne F G (fun q => nomatch q) rfl
  · obtain ⟨cS, ⟨⟨-, -, -, -, -, -, -, -, -, s10, ⟨hst, kB, hkB, compB, hkindB⟩, -⟩, -⟩, -⟩ := F'
    obtain ⟨c1, k1, e1, f1, g1, -⟩ := E
    cases (show h[q.sd]? = some q.SA from s10).symm.trans e1
    simp only [Cond.before, Cond.holds, Cond.value, f1, Option.bind_some, g1, Option.map_some] at w
    have ho : k1.kind = .ordinary := by
      simp only [beq_iff_eq, Option.some.injEq, Bool.and_eq_true, decide_eq_true_eq] at w; exact w.1.1.1
    obtain ⟨k1', hk1', ek1⟩ := hal.2.2 _ _ g1
    cases (show vm.classes[q.SA.cls]? = some kB from hkB).symm.trans hk1'
    rw [ek1] at hkindB
    have := hkindB.symm.trans ho
    cases this
section OwnCallsW
variable {p : Program} {l : Launch} {e : Env} {R : Room} {s : State} {m : MethodId} {args : Array Value} {below : List Frame} {meth : Method} {c : Code} {T : State} {locs : List Loc} {cells slots : Nat} {Z : State} {a0 : Array Value} {h : Heap} {own : String} {index : Nat} {y z : MethodName} {b : ByteArray} {ml : Nat} {rt : Option FieldType} {rm : Room} {as' : Array Value} {Q : Option Value → Heap → List Loc → Prop} {W : Nat} {g : JFrame} {argsL rest : List Value} {vm0 : Vm} {k0 : Nat}
theorem own_staticW (X : Stand p l e R (s.setVm vm0) m args below meth c T locs cells slots) (hx : p.tables.exec = Jvm.exec) (hZ : Z.Warmed39 vm0) (hown : vm0.findClass own = some m.cls) (w1 : (Jvm.Cond.methodLink own index y).before a0 Z = true) (w2 : (Jvm.Cond.static y).before a0 Z = true) (w3 : (Jvm.Cond.initialized y.cls).before a0 Z = true) (w4 : (Jvm.Cond.code y b ml rt).before a0 Z = true)
    (hM : own_metW l y b ml rt [] rm Z as' h Q) (eT : T.heap = h) (hEL : EW Z a0 consts_1) (H : CHv Z consts_1 vm0 h) (hS : s.Since vm0 k0) (hk : k0 ≤ h.size) (hlen : ∀ sig, parseMethodDescriptor y.desc = some sig → argsL.length = sig.parameters.length) (hd : decode c.code g.pc = .ok (.invokestatic index, 3)) {ML : Nat} (hml : c.maxLocals = ML) (hy : y.cls ≠ "java/lang/invoke/MethodHandle" ∧ y.cls ≠ "java/lang/invoke/VarHandle" := by decide) (hf : rm.frames + 1 ≤ R.frames := by decide) (hl : W + (ml + 11) + rm.locals ≤ R.locals := by decide) (hg : g.method = m := by rfl) (hsz : g.locals.size = ML := by rfl) (ha : argsL.toArray = as' := by rfl) (hs : g.stack = argsL.reverse ++ rest := by rfl) (hW : 2 * g.monitorRoom + (rest.map fun v => v.category).sum ≤ W := by (show 2 * 0 + _ ≤ _; exact Nat.le_of_eq rfl)) (hc : cells + rm.cells ≤ R.cells := by decide) (hsl : slots + rm.slots ≤ R.slots := by decide) :
    ∃ v T' L, Stand p l e R (s.setVm T'.vm) m args below meth c T' (locs ++ L) (cells + rm.cells) (slots + rm.slots) ∧ Q v T'.heap L ∧ s.Since T'.vm T'.heap.size ∧ Z.Warmed39 (s.setVm T'.vm).vm ∧ (s.setVm T'.vm).vm.findClass own = some m.cls ∧ CHr Z consts_1 vm0 h T'.vm T'.heap ∧ ∀ target, Steps p.tables e below (T'.setTop { g with pc := g.pc + 3, stack := v.toList ++ rest }) target → Steps p.tables e below (T.setTop g) target := by
  obtain ⟨v, _, ⟨T', L', k', n'⟩, -, X', h2, hgr, ⟨Lc, hQ, l1, y1, z1, hC⟩, st⟩ := callSS X hx (y := y) hown (mvT (s := s.setVm vm0) hZ w1) (mvT (s := s.setVm vm0) hZ w2) (mvT (s := s.setVm vm0) hZ w3) (mvT (s := s.setVm vm0) hZ w4) hy (backOfSH (W := W) hM hZ w4 w3 hf hl hEL H) (g := g) hg (hsz.trans hml.symm) (argsL := argsL) (rest := rest) hlen hs hW hd (fun _ _ => ⟨ha, eT, hc, hsl⟩)
  dsimp only [Pt.U, Pt.locs, Pt.cells, Pt.slots] at X' h2 hgr l1 y1 z1 st hQ hC
  subst l1 y1 z1
  obtain ⟨Y, a, b', d⟩ := rebS hS hk X' h2 (by rw [← eT]; exact hgr) hZ hown
  exact ⟨v, T', Lc, Y, hQ, a, b', d, hC, fun _ k => st.trans k⟩
theorem own_specialW (X : Stand p l e R (s.setVm vm0) m args below meth c T locs cells slots) (hx : p.tables.exec = Jvm.exec) (hZ : Z.Warmed39 vm0) (hown : vm0.findClass own = some m.cls) (hn : y.name = "<init>") (w1 : (Jvm.Cond.methodLink own index y).before a0 Z = true) (w2 : (Jvm.Cond.instanceMethod y).before a0 Z = true) (w3 : (Jvm.Cond.initialized y.cls).before a0 Z = true) (w4 : (Jvm.Cond.code y b ml none).before a0 Z = true)
    (hM : own_metW l y b ml none [] rm Z as' h Q) (eT : T.heap = h) (hEL : EW Z a0 consts_1) (H : CHv Z consts_1 vm0 h) (hS : s.Since vm0 k0) (hk : k0 ≤ h.size) (a : Addr) (hlen : ∀ sig, parseMethodDescriptor y.desc = some sig → argsL.length = sig.parameters.length) (hd : decode c.code g.pc = .ok (.invokespecial index, 3)) {ML : Nat} (hml : c.maxLocals = ML) (hy : y.cls ≠ "java/lang/invoke/MethodHandle" ∧ y.cls ≠ "java/lang/invoke/VarHandle" := by decide) (hf : rm.frames + 1 ≤ R.frames := by decide) (hl : W + (ml + 11) + rm.locals ≤ R.locals := by decide) (hg : g.method = m := by rfl) (hsz : g.locals.size = ML := by rfl) (ha : (Value.ref a :: argsL).toArray = as' := by rfl) (hs : g.stack = argsL.reverse ++ .ref a :: rest := by rfl) (hW : 2 * g.monitorRoom + (rest.map fun v => v.category).sum ≤ W := by (show 2 * 0 + _ ≤ _; exact Nat.le_of_eq rfl)) (hc : cells + rm.cells ≤ R.cells := by decide) (hsl : slots + rm.slots ≤ R.slots := by decide) :
    ∃ v T' L, Stand p l e R (s.setVm T'.vm) m args below meth c T' (locs ++ L) (cells + rm.cells) (slots + rm.slots) ∧ Q v T'.heap L ∧ s.Since T'.vm T'.heap.size ∧ Z.Warmed39 (s.setVm T'.vm).vm ∧ (s.setVm T'.vm).vm.findClass own = some m.cls ∧ CHr Z consts_1 vm0 h T'.vm T'.heap ∧ ∀ target, Steps p.tables e below (T'.setTop { g with pc := g.pc + 3, stack := v.toList ++ rest }) target → Steps p.tables e below (T.setTop g) target := by
  obtain ⟨v, _, ⟨T', L', k', n'⟩, -, X', h2, hgr, ⟨Lc, hQ, l1, y1, z1, hC⟩, st⟩ := X.specialBackS hx (y := y) hn hown (mvT (s := s.setVm vm0) hZ w1) (mvT (s := s.setVm vm0) hZ w2) (mvT (s := s.setVm vm0) hZ w4) hy (backOfSH (W := W) hM hZ w4 w3 hf hl hEL H) (g := g) hg (hsz.trans hml.symm) (Steps.refl _) (a := a) (argsL := argsL) (rest := rest) hlen hs hW hd (fun _ _ => ⟨ha, eT, hc, hsl⟩)
  dsimp only [Pt.U, Pt.locs, Pt.cells, Pt.slots] at X' h2 hgr l1 y1 z1 st hQ hC
  subst l1 y1 z1
  obtain ⟨Y, a', b', d⟩ := rebS hS hk X' h2 (by rw [← eT]; exact hgr) hZ hown
  exact ⟨v, T', Lc, Y, hQ, a', b', d, hC, fun _ k => st.trans k⟩
theorem own_virtualW (X : Stand p l e R (s.setVm vm0) m args below meth c T locs cells slots) (hx : p.tables.exec = Jvm.exec) (hZ : Z.Warmed39 vm0) (hown : vm0.findClass own = some m.cls) {C : String} (w1 : (Jvm.Cond.methodLink own index y).before a0 Z = true) (w5 : (Jvm.Cond.declares y).before a0 Z = true) (w6 : (Jvm.Cond.selects C y y).before a0 Z = true) (w2 : (Jvm.Cond.instanceMethod y).before a0 Z = true) (w3 : (Jvm.Cond.initialized y.cls).before a0 Z = true) (w4 : (Jvm.Cond.code y b ml rt).before a0 Z = true)
    (hM : own_metW l y b ml rt [] rm Z as' h Q) (eT : T.heap = h) (hEL : EW Z a0 consts_1) (H : CHv Z consts_1 vm0 h) (hS : s.Since vm0 k0) (hk : k0 ≤ h.size) {a : Addr} (E : Exa Z h a C) (hlen : ∀ sig, parseMethodDescriptor y.desc = some sig → argsL.length = sig.parameters.length) (hd : decode c.code g.pc = .ok (.invokevirtual index, 3)) {ML : Nat} (hml : c.maxLocals = ML) (hy : y.cls ≠ "java/lang/invoke/MethodHandle" ∧ y.cls ≠ "java/lang/invoke/VarHandle" := by decide) (hf : rm.frames + 1 ≤ R.frames := by decide) (hl : W + (ml + 11) + rm.locals ≤ R.locals := by decide) (hg : g.method = m := by rfl) (hsz : g.locals.size = ML := by rfl) (ha : (Value.ref a :: argsL).toArray = as' := by rfl) (hs : g.stack = argsL.reverse ++ .ref a :: rest := by rfl) (hW : 2 * g.monitorRoom + (rest.map fun v => v.category).sum ≤ W := by (show 2 * 0 + _ ≤ _; exact Nat.le_of_eq rfl)) (hc : cells + rm.cells ≤ R.cells := by decide) (hsl : slots + rm.slots ≤ R.slots := by decide) :
    ∃ v T' L, Stand p l e R (s.setVm T'.vm) m args below meth c T' (locs ++ L) (cells + rm.cells) (slots + rm.slots) ∧ Q v T'.heap L ∧ s.Since T'.vm T'.heap.size ∧ Z.Warmed39 (s.setVm T'.vm).vm ∧ (s.setVm T'.vm).vm.findClass own = some m.cls ∧ CHr Z consts_1 vm0 h T'.vm T'.heap ∧ ∀ target, Steps p.tables e below (T'.setTop { g with pc := g.pc + 3, stack := v.toList ++ rest }) target → Steps p.tables e below (T.setTop g) target := by
  obtain ⟨cq, kq, qa, qb, qc⟩ := isOf (s := s.setVm vm0) hZ eT E
  obtain ⟨v, _, ⟨T', L', k', n'⟩, -, X', h2, hgr, ⟨Lc, hQ, l1, y1, z1, hC⟩, st⟩ := X.virtualBackS hx (y := y) (z := y) hown (mvT (s := s.setVm vm0) hZ w1) (mvT (s := s.setVm vm0) hZ w5) (notFace_of_selects (args := #[]) (mvT (s := s.setVm vm0) hZ w6)) (mvT (s := s.setVm vm0) hZ w6) (mvT (s := s.setVm vm0) hZ w2) hy (backOfSH (W := W) hM hZ w4 w3 hf hl hEL H) qa qc (g := g) hg (hsz.trans hml.symm) (Steps.refl _) (argsL := argsL) (rest := rest) hlen hs hW hd (fun _ _ => ⟨ha, eT, hc, hsl⟩)
  dsimp only [Pt.U, Pt.locs, Pt.cells, Pt.slots] at X' h2 hgr l1 y1 z1 st hQ hC
  subst l1 y1 z1
  obtain ⟨Y, a', b', d⟩ := rebS hS hk X' h2 (by rw [← eT]; exact hgr) hZ hown
  exact ⟨v, T', Lc, Y, hQ, a', b', d, hC, fun _ k => st.trans k⟩
end OwnCallsW
/-- a contract without constants, as one with -/
theorem own_metW_of {l : Launch} {y : MethodName} {b : ByteArray} {ml : Nat} {rt : Option FieldType} {ws : List Jvm.Cond} {R : Room} {Z : State} {A : Array Value} {h0 : Heap} {Q : Option Value → Heap → List Loc → Prop} (M : own_met l y b ml rt ws R Z A h0 Q) : MetFree l y (head1 (Jvm.Cond.code y b ml rt :: ws) R) (fun a U => a = A ∧ Z.Warmed39 U.vm ∧ U.heap = h0 ∧ CHv Z consts_1 U.vm h0) (fun _ _ _ _ _ => True) (fun _ U o U' => ∃ v L, o = .returned v ∧ Q v U'.heap L ∧ ReturnedEndW U o U' L R.cells R.slots) :=
  M.mono (fun _ _ h => ⟨h.1, h.2.1, h.2.2.1⟩) (fun _ _ _ _ _ h => h) (fun _ _ _ _ _ r => by obtain ⟨v, L, a, b, c⟩ := r; exact ⟨v, L, a, b, ReturnedEndW.of_narrow c.1 c.2.1 c.2.2⟩)
theorem own_metW_drop {l : Launch} {y : MethodName} {b : ByteArray} {ml : Nat} {rt : Option FieldType} {ws : List Jvm.Cond} {R : Room} {Z : State} {A : Array Value} {h0 : Heap} {Q : Option Value → Heap → List Loc → Prop} (M : own_metW l y b ml rt ws R Z A h0 Q) : MetFree l y (head1 (Jvm.Cond.code y b ml rt :: ws) R) (fun a U => a = A ∧ Z.Warmed39 U.vm ∧ U.heap = h0 ∧ CHv Z consts_1 U.vm h0) (fun _ _ _ _ _ => True) (fun _ U o U' => ∃ v L, o = .returned v ∧ Q v U'.heap L ∧ ReturnedEndW U o U' L R.cells R.slots) :=
  M.mono (fun _ _ h => h) (fun _ _ _ _ _ h => h) (fun _ _ _ _ _ r => by obtain ⟨v, L, a, b, c, d⟩ := r; exact ⟨v, L, a, b, d⟩)
theorem own_monoW {l : Launch} {y : MethodName} {b : ByteArray} {ml : Nat} {rt : Option FieldType} {ws : List Jvm.Cond} {R : Room} {Z : State} {A : Array Value} {h0 : Heap} {Q Q' : Option Value → Heap → List Loc → Prop} (M : own_metW l y b ml rt ws R Z A h0 Q) (q : ∀ v h L, Q v h L → Q' v h L) : own_metW l y b ml rt ws R Z A h0 Q' :=
  M.mono (fun _ _ h => h) (fun _ _ _ _ _ h => h) (fun _ _ _ _ _ r => by obtain ⟨v, L, a, b, c, d⟩ := r; exact ⟨v, L, a, q _ _ _ b, c, d⟩)

abbrev own_cA : String := "java/lang/AbstractStringBuilder"
abbrev own_cB : String := "java/lang/StringBuilder"
abbrev own_cS : String := "java/lang/String"
abbrev own_cP : String := "com/example/fill_realm/fillrealm/Problem"
abbrev own_w_CS (Z : State) (w_CS : Int32) : Prop := Sta Z Z.heap own_cS "COMPACT_STRINGS" "Z" (.int w_CS)
abbrev own_w_SF (Z : State) (w_SF : Value) : Prop := Sta Z Z.heap "jdk/internal/util/Preconditions" "SIOOBE_FORMATTER" "Ljava/util/function/BiFunction;" w_SF
abbrev own_Sw_DO (Z : State) (w_DO : Addr) : Prop := Sta Z Z.heap "java/lang/Integer" "DigitOnes" "[B" (.ref w_DO)
abbrev own_Sw_DT (Z : State) (w_DT : Addr) : Prop := Sta Z Z.heap "java/lang/Integer" "DigitTens" "[B" (.ref w_DT)
abbrev own_Lz (p1 p2 p3 p4 : Int32) (fs rs : List Int32) (a b c d : Addr) : Array Slot := #[iv p1, iv p2, iv p3, iv p4, iv (Int32.ofNat fs.length), iv (Int32.ofNat rs.length), rv a, rv b, rv c, rv d, .unset, .unset, .unset, .unset, .unset, .unset, .unset, .unset, .unset, .unset, .unset]
abbrev own_Lp (p1 p2 p3 p4 : Int32) (fs rs : List Int32) (kk : Nat) (mm : Int64) (a b c d : Addr) (x y z : Slot) : Array Slot := #[iv p1, iv p2, iv p3, iv p4, iv (Int32.ofNat fs.length), iv (Int32.ofNat rs.length), rv a, rv b, rv c, rv d, .val (.long mm), .second, iv (0 : Int32), .val (.long mm), .second, iv (Int32.ofNat kk), iv (0 : Int32), iv (Int32.ofNat (fs.length + 1 + kk)), x, y, z]
abbrev own_Ln (p1 p2 p3 p4 : Int32) (fs rs : List Int32) (kk : Nat) (mm : Int64) (a b c d : Addr) (x y z : Slot) : Array Slot := #[iv p1, iv p2, iv p3, iv p4, iv (Int32.ofNat fs.length), iv (Int32.ofNat rs.length), rv a, rv b, rv c, rv d, .val (.long (p3.toInt64)), .second, iv (1 : Int32), .val (.long mm), .second, iv (Int32.ofNat kk), iv (1 : Int32), iv (Int32.ofNat (fs.length + 2 + kk)), x, y, z]
theorem pf_0 : plainFor ⟨"java/lang/Math", "max", "(II)I"⟩ = true := by first | (simp [plainFor]; done) | decide +kernel
theorem pf_1 : plainFor ⟨"java/lang/Math", "min", "(II)I"⟩ = true := by first | (simp [plainFor]; done) | decide +kernel
theorem pn_0 : plainName "java/lang/Integer" = true := by first | (simp [plainName, overriddenIn]; done) | decide +kernel
theorem pn_1 : plainName own_cA = true := by first | (simp [plainName, overriddenIn]; done) | decide +kernel
theorem pn_2 : plainName "jdk/internal/util/ArraysSupport" = true := by first | (simp [plainName, overriddenIn]; done) | decide +kernel
theorem pn_3 : plainName "java/util/Arrays" = true := by first | (simp [plainName, overriddenIn]; done) | decide +kernel
theorem pn_4 : plainName own_cB = true := by first | (simp [plainName, overriddenIn]; done) | decide +kernel
theorem pn_5 : plainName own_cS = true := by first | (simp [plainName, overriddenIn]; done) | decide +kernel
theorem pn_6 : plainName "jdk/internal/util/Preconditions" = true := by first | (simp [plainName, overriddenIn]; done) | decide +kernel
theorem pn_7 : plainName "java/lang/StringLatin1" = true := by first | (simp [plainName, overriddenIn]; done) | decide +kernel
theorem pn_8 : plainName "com/example/fill_realm/fillrealm/ProblemToStringPinLaw" = true := by first | (simp [plainName, overriddenIn]; done) | decide +kernel
theorem pn_9 : plainName "java/lang/StringUTF16" = true := by first | (simp [plainName, overriddenIn]; done) | decide +kernel
theorem pn_10 : plainName own_cP = true := by first | (simp [plainName, overriddenIn]; done) | decide +kernel
theorem pd_0 : parseMethodDescriptor "(II)I" = some ⟨[.int, .int], some .int⟩ := by decide +kernel
theorem pd_1 : parseMethodDescriptor "(III)I" = some ⟨[.int, .int, .int], some .int⟩ := by decide +kernel
theorem pd_2 : parseMethodDescriptor "(I)I" = some ⟨[.int], some .int⟩ := by decide +kernel
theorem pd_3 : parseMethodDescriptor "([BI)[B" = some ⟨[(.array .byte), .int], some (.array .byte)⟩ := by decide +kernel
theorem pd_4 : parseMethodDescriptor "(I)V" = some ⟨[.int], none⟩ := by decide +kernel
theorem pd_5 : parseMethodDescriptor "()Z" = some ⟨[], some .boolean⟩ := by decide +kernel
theorem pd_6 : parseMethodDescriptor "(II[B)I" = some ⟨[.int, .int, (.array .byte)], some .int⟩ := by decide +kernel
theorem pd_7 : parseMethodDescriptor "(I)Ljava/lang/AbstractStringBuilder;" = some ⟨[.int], some (.object own_cA)⟩ := by decide +kernel
theorem pd_8 : parseMethodDescriptor "()B" = some ⟨[], some .byte⟩ := by decide +kernel
theorem pd_9 : parseMethodDescriptor "()I" = some ⟨[], some .int⟩ := by decide +kernel
theorem pd_10 : parseMethodDescriptor "(Ljava/lang/String;)V" = some ⟨[(.object own_cS)], none⟩ := by decide +kernel
theorem pd_11 : parseMethodDescriptor "([BIB)V" = some ⟨[(.array .byte), .int, .byte], none⟩ := by decide +kernel
theorem pd_12 : parseMethodDescriptor "(ILjava/lang/String;)V" = some ⟨[.int, (.object own_cS)], none⟩ := by decide +kernel
theorem pd_13 : parseMethodDescriptor "(Ljava/lang/String;)Ljava/lang/AbstractStringBuilder;" = some ⟨[(.object own_cS)], some (.object own_cA)⟩ := by decide +kernel
theorem pd_14 : parseMethodDescriptor "()[B" = some ⟨[], some (.array .byte)⟩ := by decide +kernel
theorem pd_15 : parseMethodDescriptor "(II)V" = some ⟨[.int, .int], none⟩ := by decide +kernel
theorem pd_16 : parseMethodDescriptor "([BII)[B" = some ⟨[(.array .byte), .int, .int], some (.array .byte)⟩ := by decide +kernel
theorem pd_17 : parseMethodDescriptor "(Ljava/lang/AbstractStringBuilder;Ljava/lang/Void;)V" = some ⟨[(.object own_cA), (.object "java/lang/Void")], none⟩ := by decide +kernel
theorem pd_18 : parseMethodDescriptor "(Ljava/lang/StringBuilder;)V" = some ⟨[(.object own_cB)], none⟩ := by decide +kernel
theorem pd_19 : parseMethodDescriptor "(IILjava/util/function/BiFunction;)I" = some ⟨[.int, .int, (.object "java/util/function/BiFunction")], some .int⟩ := by decide +kernel
theorem pd_20 : parseMethodDescriptor "([BI)C" = some ⟨[(.array .byte), .int], some .char⟩ := by decide +kernel
theorem pd_21 : parseMethodDescriptor "(I)C" = some ⟨[.int], some .char⟩ := by decide +kernel
theorem pd_22 : parseMethodDescriptor "([CI[BII)I" = some ⟨[(.array .char), .int, (.array .byte), .int, .int], some .int⟩ := by decide +kernel
theorem pd_23 : parseMethodDescriptor "([CII)[B" = some ⟨[(.array .char), .int, .int], some (.array .byte)⟩ := by decide +kernel
theorem pd_24 : parseMethodDescriptor "([BI)B" = some ⟨[(.array .byte), .int], some .byte⟩ := by decide +kernel
theorem pd_25 : parseMethodDescriptor "([CIILjava/lang/Void;)V" = some ⟨[(.array .char), .int, .int, (.object "java/lang/Void")], none⟩ := by decide +kernel
theorem pd_26 : parseMethodDescriptor "([C)V" = some ⟨[(.array .char)], none⟩ := by decide +kernel
theorem pd_27 : parseMethodDescriptor "()V" = some ⟨[], none⟩ := by decide +kernel
theorem pd_28 : parseMethodDescriptor "(Ljava/lang/String;)Ljava/lang/StringBuilder;" = some ⟨[(.object own_cS)], some (.object own_cB)⟩ := by decide +kernel
theorem pd_29 : parseMethodDescriptor "()Ljava/lang/String;" = some ⟨[], some (.object own_cS)⟩ := by decide +kernel
theorem pd_30 : parseMethodDescriptor "(I)Ljava/lang/StringBuilder;" = some ⟨[.int], some (.object own_cB)⟩ := by decide +kernel
theorem pd_31 : parseMethodDescriptor "(II)Ljava/lang/String;" = some ⟨[.int, .int], some (.object own_cS)⟩ := by decide +kernel
theorem pd_32 : parseMethodDescriptor "(Ljava/lang/String;ILjava/lang/String;)V" = some ⟨[(.object own_cS), .int, (.object own_cS)], none⟩ := by decide +kernel
theorem pd_33 : parseMethodDescriptor "(Ljava/lang/String;ILjava/lang/String;)Z" = some ⟨[(.object own_cS), .int, (.object own_cS)], some .boolean⟩ := by decide +kernel
theorem pd_34 : parseMethodDescriptor "(J)I" = some ⟨[.long], some .int⟩ := by decide +kernel
theorem pd_35 : parseMethodDescriptor "(Ljava/lang/String;IJII[J)Z" = some ⟨[(.object own_cS), .int, .long, .int, .int, (.array .long)], some .boolean⟩ := by decide +kernel
abbrev y_0 : MethodName := ⟨"java/lang/Integer", "stringSize", "(I)I"⟩
abbrev y_1 : MethodName := ⟨"java/lang/Integer", "getChars", "(II[B)I"⟩
abbrev y_2 : MethodName := ⟨own_cA, "ensureCapacityInternal", "(I)V"⟩
abbrev y_3 : MethodName := ⟨"java/lang/Math", "max", "(II)I"⟩
abbrev y_4 : MethodName := ⟨"jdk/internal/util/ArraysSupport", "newLength", "(III)I"⟩
abbrev y_5 : MethodName := ⟨own_cA, "newCapacity", "(I)I"⟩
abbrev y_6 : MethodName := ⟨"java/lang/Math", "min", "(II)I"⟩
abbrev y_7 : MethodName := ⟨"java/util/Arrays", "copyOf", "([BI)[B"⟩
abbrev y_8 : MethodName := ⟨own_cA, "isLatin1", "()Z"⟩
abbrev y_9 : MethodName := ⟨own_cA, "append", "(I)Ljava/lang/AbstractStringBuilder;"⟩
abbrev y_10 : MethodName := ⟨own_cB, "append", "(I)Ljava/lang/StringBuilder;"⟩
abbrev y_11 : MethodName := ⟨own_cS, "coder", "()B"⟩
abbrev y_12 : MethodName := ⟨own_cS, "length", "()I"⟩
abbrev y_13 : MethodName := ⟨own_cA, "inflateIfNeededFor", "(Ljava/lang/String;)V"⟩
abbrev y_14 : MethodName := ⟨own_cS, "getBytes", "([BIB)V"⟩
abbrev y_15 : MethodName := ⟨own_cA, "putStringAt", "(ILjava/lang/String;)V"⟩
abbrev y_16 : MethodName := ⟨own_cA, "append", "(Ljava/lang/String;)Ljava/lang/AbstractStringBuilder;"⟩
abbrev y_17 : MethodName := ⟨own_cB, "append", "(Ljava/lang/String;)Ljava/lang/StringBuilder;"⟩
abbrev y_18 : MethodName := ⟨own_cA, "getValue", "()[B"⟩
abbrev y_19 : MethodName := ⟨own_cA, "length", "()I"⟩
abbrev y_20 : MethodName := ⟨own_cB, "length", "()I"⟩
abbrev y_21 : MethodName := ⟨"java/util/Arrays", "checkLength", "(II)V"⟩
abbrev y_22 : MethodName := ⟨"java/util/Arrays", "copyOfRangeByte", "([BII)[B"⟩
abbrev y_23 : MethodName := ⟨"java/util/Arrays", "copyOfRange", "([BII)[B"⟩
abbrev y_24 : MethodName := ⟨own_cS, "<init>", "(Ljava/lang/AbstractStringBuilder;Ljava/lang/Void;)V"⟩
abbrev y_25 : MethodName := ⟨own_cS, "<init>", "(Ljava/lang/StringBuilder;)V"⟩
abbrev y_26 : MethodName := ⟨own_cB, "toString", "()Ljava/lang/String;"⟩
abbrev y_27 : MethodName := ⟨own_cS, "isLatin1", "()Z"⟩
abbrev y_28 : MethodName := ⟨"jdk/internal/util/Preconditions", "checkIndex", "(IILjava/util/function/BiFunction;)I"⟩
abbrev y_29 : MethodName := ⟨own_cS, "checkIndex", "(II)V"⟩
abbrev y_30 : MethodName := ⟨"java/lang/StringLatin1", "charAt", "([BI)C"⟩
abbrev y_31 : MethodName := ⟨own_cS, "charAt", "(I)C"⟩
abbrev y_32 : MethodName := ⟨"com/example/fill_realm/fillrealm/ProblemToStringPinLaw", "seg", "(Ljava/lang/String;ILjava/lang/String;)Z"⟩
abbrev y_33 : MethodName := ⟨"com/example/fill_realm/fillrealm/ProblemToStringPinLaw", "ndig", "(J)I"⟩
abbrev y_34 : MethodName := ⟨"com/example/fill_realm/fillrealm/ProblemToStringPinLaw", "dig", "(Ljava/lang/String;IJII[J)Z"⟩
abbrev y_35 : MethodName := ⟨"java/lang/StringUTF16", "compress", "([CI[BII)I"⟩
abbrev y_36 : MethodName := ⟨"java/lang/StringUTF16", "compress", "([CII)[B"⟩
abbrev y_37 : MethodName := ⟨"java/lang/StringUTF16", "coderFromArrayLen", "([BI)B"⟩
abbrev y_38 : MethodName := ⟨own_cS, "<init>", "([CIILjava/lang/Void;)V"⟩
abbrev y_39 : MethodName := ⟨own_cS, "<init>", "([C)V"⟩
abbrev y_40 : MethodName := ⟨"com/example/fill_realm/fillrealm/ProblemToStringPinLaw", "mk", "(II)Ljava/lang/String;"⟩
abbrev y_41 : MethodName := ⟨own_cA, "<init>", "(I)V"⟩
abbrev y_42 : MethodName := ⟨own_cB, "<init>", "()V"⟩
abbrev y_43 : MethodName := ⟨own_cP, "toString", "()Ljava/lang/String;"⟩
abbrev y_44 : MethodName := ⟨own_cP, "<init>", "(Ljava/lang/String;ILjava/lang/String;)V"⟩
abbrev kk_22 : ByteArray := jdk_33_method_13_code
theorem d22_16 : decode kk_22 16 = .ok (.iload_n 3, 1) := by decide +kernel
theorem d22_17 : decode kk_22 17 = .ok (.bipush 10, 2) := by decide +kernel
theorem d22_19 : decode kk_22 19 = .ok (.if_icmp .ge 23, 3) := by decide +kernel
theorem d22_22 : decode kk_22 22 = .ok (.iload_n 0, 1) := by decide +kernel
theorem d22_23 : decode kk_22 23 = .ok (.iload_n 2, 1) := by decide +kernel
theorem d22_24 : decode kk_22 24 = .ok (.if_icmp .le 7, 3) := by decide +kernel
theorem d22_31 : decode kk_22 31 = .ok (.bipush 10, 2) := by decide +kernel
theorem d22_33 : decode kk_22 33 = .ok (.iload_n 2, 1) := by decide +kernel
theorem d22_34 : decode kk_22 34 = .ok (.imul, 1) := by decide +kernel
theorem d22_35 : decode kk_22 35 = .ok (.istore_n 2, 1) := by decide +kernel
theorem d22_36 : decode kk_22 36 = .ok (.iinc 3 1, 3) := by decide +kernel
theorem d22_39 : decode kk_22 39 = .ok (.goto (-23), 3) := by decide +kernel
theorem d22_0 : decode kk_22 0 = .ok (.iconst 1, 1) := by decide +kernel
theorem d22_1 : decode kk_22 1 = .ok (.istore_n 1, 1) := by decide +kernel
theorem d22_2 : decode kk_22 2 = .ok (.iload_n 0, 1) := by decide +kernel
theorem d22_3 : decode kk_22 3 = .ok (.ifCond .lt 8, 3) := by decide +kernel
theorem d22_6 : decode kk_22 6 = .ok (.iconst 0, 1) := by decide +kernel
theorem d22_7 : decode kk_22 7 = .ok (.istore_n 1, 1) := by decide +kernel
theorem d22_8 : decode kk_22 8 = .ok (.iload_n 0, 1) := by decide +kernel
theorem d22_9 : decode kk_22 9 = .ok (.ineg, 1) := by decide +kernel
theorem d22_10 : decode kk_22 10 = .ok (.istore_n 0, 1) := by decide +kernel
theorem d22_11 : decode kk_22 11 = .ok (.bipush (-10), 2) := by decide +kernel
theorem d22_13 : decode kk_22 13 = .ok (.istore_n 2, 1) := by decide +kernel
theorem d22_14 : decode kk_22 14 = .ok (.iconst 1, 1) := by decide +kernel
theorem d22_15 : decode kk_22 15 = .ok (.istore_n 3, 1) := by decide +kernel
theorem d22_27 : decode kk_22 27 = .ok (.iload_n 3, 1) := by decide +kernel
theorem d22_28 : decode kk_22 28 = .ok (.iload_n 1, 1) := by decide +kernel
theorem d22_29 : decode kk_22 29 = .ok (.iadd, 1) := by decide +kernel
theorem d22_30 : decode kk_22 30 = .ok (.ireturn, 1) := by decide +kernel
theorem d22_42 : decode kk_22 42 = .ok (.bipush 10, 2) := by decide +kernel
theorem d22_44 : decode kk_22 44 = .ok (.iload_n 1, 1) := by decide +kernel
theorem d22_45 : decode kk_22 45 = .ok (.iadd, 1) := by decide +kernel
theorem d22_46 : decode kk_22 46 = .ok (.ireturn, 1) := by decide +kernel
abbrev kk_24 : ByteArray := jdk_33_method_12_code
theorem d24_22 : decode kk_24 22 = .ok (.iload_n 0, 1) := by decide +kernel
theorem d24_23 : decode kk_24 23 = .ok (.bipush (-100), 2) := by decide +kernel
theorem d24_25 : decode kk_24 25 = .ok (.if_icmp .gt 47, 3) := by decide +kernel
theorem d24_28 : decode kk_24 28 = .ok (.iload_n 0, 1) := by decide +kernel
theorem d24_29 : decode kk_24 29 = .ok (.bipush 100, 2) := by decide +kernel
theorem d24_31 : decode kk_24 31 = .ok (.idiv, 1) := by decide +kernel
theorem d24_32 : decode kk_24 32 = .ok (.istore_n 3, 1) := by decide +kernel
theorem d24_33 : decode kk_24 33 = .ok (.iload_n 3, 1) := by decide +kernel
theorem d24_34 : decode kk_24 34 = .ok (.bipush 100, 2) := by decide +kernel
theorem d24_36 : decode kk_24 36 = .ok (.imul, 1) := by decide +kernel
theorem d24_37 : decode kk_24 37 = .ok (.iload_n 0, 1) := by decide +kernel
theorem d24_38 : decode kk_24 38 = .ok (.isub, 1) := by decide +kernel
theorem d24_39 : decode kk_24 39 = .ok (.istore 4, 2) := by decide +kernel
theorem d24_41 : decode kk_24 41 = .ok (.iload_n 3, 1) := by decide +kernel
theorem d24_42 : decode kk_24 42 = .ok (.istore_n 0, 1) := by decide +kernel
theorem d24_43 : decode kk_24 43 = .ok (.aload_n 2, 1) := by decide +kernel
theorem d24_44 : decode kk_24 44 = .ok (.iinc 5 (-1), 3) := by decide +kernel
theorem d24_47 : decode kk_24 47 = .ok (.iload 5, 2) := by decide +kernel
theorem d24_49 : decode kk_24 49 = .ok (.getstatic 83, 3) := by decide +kernel
theorem d24_52 : decode kk_24 52 = .ok (.iload 4, 2) := by decide +kernel
theorem d24_54 : decode kk_24 54 = .ok (.baload, 1) := by decide +kernel
theorem d24_55 : decode kk_24 55 = .ok (.bastore, 1) := by decide +kernel
theorem d24_56 : decode kk_24 56 = .ok (.aload_n 2, 1) := by decide +kernel
theorem d24_57 : decode kk_24 57 = .ok (.iinc 5 (-1), 3) := by decide +kernel
theorem d24_60 : decode kk_24 60 = .ok (.iload 5, 2) := by decide +kernel
theorem d24_62 : decode kk_24 62 = .ok (.getstatic 87, 3) := by decide +kernel
theorem d24_65 : decode kk_24 65 = .ok (.iload 4, 2) := by decide +kernel
theorem d24_67 : decode kk_24 67 = .ok (.baload, 1) := by decide +kernel
theorem d24_68 : decode kk_24 68 = .ok (.bastore, 1) := by decide +kernel
theorem d24_69 : decode kk_24 69 = .ok (.goto (-47), 3) := by decide +kernel
theorem d24_0 : decode kk_24 0 = .ok (.iload_n 1, 1) := by decide +kernel
theorem d24_1 : decode kk_24 1 = .ok (.istore 5, 2) := by decide +kernel
theorem d24_3 : decode kk_24 3 = .ok (.iload_n 0, 1) := by decide +kernel
theorem d24_4 : decode kk_24 4 = .ok (.ifCond .ge 7, 3) := by decide +kernel
theorem d24_11 : decode kk_24 11 = .ok (.iconst 0, 1) := by decide +kernel
theorem d24_12 : decode kk_24 12 = .ok (.istore 6, 2) := by decide +kernel
theorem d24_14 : decode kk_24 14 = .ok (.iload 6, 2) := by decide +kernel
theorem d24_16 : decode kk_24 16 = .ok (.ifCond .ne 6, 3) := by decide +kernel
theorem d24_19 : decode kk_24 19 = .ok (.iload_n 0, 1) := by decide +kernel
theorem d24_20 : decode kk_24 20 = .ok (.ineg, 1) := by decide +kernel
theorem d24_21 : decode kk_24 21 = .ok (.istore_n 0, 1) := by decide +kernel
theorem d24_72 : decode kk_24 72 = .ok (.aload_n 2, 1) := by decide +kernel
theorem d24_73 : decode kk_24 73 = .ok (.iinc 5 (-1), 3) := by decide +kernel
theorem d24_76 : decode kk_24 76 = .ok (.iload 5, 2) := by decide +kernel
theorem d24_78 : decode kk_24 78 = .ok (.getstatic 83, 3) := by decide +kernel
theorem d24_81 : decode kk_24 81 = .ok (.iload_n 0, 1) := by decide +kernel
theorem d24_82 : decode kk_24 82 = .ok (.ineg, 1) := by decide +kernel
theorem d24_83 : decode kk_24 83 = .ok (.baload, 1) := by decide +kernel
theorem d24_84 : decode kk_24 84 = .ok (.bastore, 1) := by decide +kernel
theorem d24_85 : decode kk_24 85 = .ok (.iload_n 0, 1) := by decide +kernel
theorem d24_86 : decode kk_24 86 = .ok (.bipush (-9), 2) := by decide +kernel
theorem d24_88 : decode kk_24 88 = .ok (.if_icmp .ge 16, 3) := by decide +kernel
theorem d24_104 : decode kk_24 104 = .ok (.iload 6, 2) := by decide +kernel
theorem d24_106 : decode kk_24 106 = .ok (.ifCond .eq 12, 3) := by decide +kernel
theorem d24_118 : decode kk_24 118 = .ok (.iload 5, 2) := by decide +kernel
theorem d24_120 : decode kk_24 120 = .ok (.ireturn, 1) := by decide +kernel
theorem d24_91 : decode kk_24 91 = .ok (.aload_n 2, 1) := by decide +kernel
theorem d24_92 : decode kk_24 92 = .ok (.iinc 5 (-1), 3) := by decide +kernel
theorem d24_95 : decode kk_24 95 = .ok (.iload 5, 2) := by decide +kernel
theorem d24_97 : decode kk_24 97 = .ok (.getstatic 87, 3) := by decide +kernel
theorem d24_100 : decode kk_24 100 = .ok (.iload_n 0, 1) := by decide +kernel
theorem d24_101 : decode kk_24 101 = .ok (.ineg, 1) := by decide +kernel
theorem d24_102 : decode kk_24 102 = .ok (.baload, 1) := by decide +kernel
theorem d24_103 : decode kk_24 103 = .ok (.bastore, 1) := by decide +kernel
theorem d24_7 : decode kk_24 7 = .ok (.iconst 1, 1) := by decide +kernel
theorem d24_8 : decode kk_24 8 = .ok (.goto 4, 3) := by decide +kernel
theorem d24_109 : decode kk_24 109 = .ok (.aload_n 2, 1) := by decide +kernel
theorem d24_110 : decode kk_24 110 = .ok (.iinc 5 (-1), 3) := by decide +kernel
theorem d24_113 : decode kk_24 113 = .ok (.iload 5, 2) := by decide +kernel
theorem d24_115 : decode kk_24 115 = .ok (.bipush 45, 2) := by decide +kernel
theorem d24_117 : decode kk_24 117 = .ok (.bastore, 1) := by decide +kernel
abbrev kk_16 : ByteArray := jdk_68_method_9_code
theorem d16_0 : decode kk_16 0 = .ok (.aload_n 0, 1) := by decide +kernel
theorem d16_1 : decode kk_16 1 = .ok (.getfield 15, 3) := by decide +kernel
theorem d16_4 : decode kk_16 4 = .ok (.arraylength, 1) := by decide +kernel
theorem d16_5 : decode kk_16 5 = .ok (.aload_n 0, 1) := by decide +kernel
theorem d16_6 : decode kk_16 6 = .ok (.getfield 22, 3) := by decide +kernel
theorem d16_9 : decode kk_16 9 = .ok (.ishr, 1) := by decide +kernel
theorem d16_10 : decode kk_16 10 = .ok (.istore_n 2, 1) := by decide +kernel
theorem d16_11 : decode kk_16 11 = .ok (.iload_n 1, 1) := by decide +kernel
theorem d16_12 : decode kk_16 12 = .ok (.iload_n 2, 1) := by decide +kernel
theorem d16_13 : decode kk_16 13 = .ok (.isub, 1) := by decide +kernel
theorem d16_14 : decode kk_16 14 = .ok (.ifCond .le 24, 3) := by decide +kernel
theorem d16_38 : decode kk_16 38 = .ok (.return_, 1) := by decide +kernel
theorem d16_17 : decode kk_16 17 = .ok (.aload_n 0, 1) := by decide +kernel
theorem d16_18 : decode kk_16 18 = .ok (.aload_n 0, 1) := by decide +kernel
theorem d16_19 : decode kk_16 19 = .ok (.getfield 15, 3) := by decide +kernel
theorem d16_22 : decode kk_16 22 = .ok (.aload_n 0, 1) := by decide +kernel
theorem d16_23 : decode kk_16 23 = .ok (.iload_n 1, 1) := by decide +kernel
theorem d16_24 : decode kk_16 24 = .ok (.invokevirtual 104, 3) := by decide +kernel
abbrev kk_43 : ByteArray := jdk_68_method_10_code
theorem d43_0 : decode kk_43 0 = .ok (.aload_n 0, 1) := by decide +kernel
theorem d43_1 : decode kk_43 1 = .ok (.getfield 15, 3) := by decide +kernel
theorem d43_4 : decode kk_43 4 = .ok (.arraylength, 1) := by decide +kernel
theorem d43_5 : decode kk_43 5 = .ok (.istore_n 2, 1) := by decide +kernel
theorem d43_6 : decode kk_43 6 = .ok (.iload_n 1, 1) := by decide +kernel
theorem d43_7 : decode kk_43 7 = .ok (.aload_n 0, 1) := by decide +kernel
theorem d43_8 : decode kk_43 8 = .ok (.getfield 22, 3) := by decide +kernel
theorem d43_11 : decode kk_43 11 = .ok (.ishl, 1) := by decide +kernel
theorem d43_12 : decode kk_43 12 = .ok (.istore_n 3, 1) := by decide +kernel
theorem d43_13 : decode kk_43 13 = .ok (.iload_n 3, 1) := by decide +kernel
theorem d43_14 : decode kk_43 14 = .ok (.iload_n 2, 1) := by decide +kernel
theorem d43_15 : decode kk_43 15 = .ok (.isub, 1) := by decide +kernel
theorem d43_16 : decode kk_43 16 = .ok (.istore 4, 2) := by decide +kernel
theorem d43_18 : decode kk_43 18 = .ok (.iload_n 2, 1) := by decide +kernel
theorem d43_19 : decode kk_43 19 = .ok (.iload 4, 2) := by decide +kernel
theorem d43_21 : decode kk_43 21 = .ok (.iload_n 2, 1) := by decide +kernel
theorem d43_22 : decode kk_43 22 = .ok (.iconst 2, 1) := by decide +kernel
theorem d43_23 : decode kk_43 23 = .ok (.aload_n 0, 1) := by decide +kernel
theorem d43_24 : decode kk_43 24 = .ok (.getfield 22, 3) := by decide +kernel
theorem d43_27 : decode kk_43 27 = .ok (.ishl, 1) := by decide +kernel
theorem d43_28 : decode kk_43 28 = .ok (.iadd, 1) := by decide +kernel
theorem d43_29 : decode kk_43 29 = .ok (.invokestatic 114, 3) := by decide +kernel
abbrev kk_44 : ByteArray := jdk_48_method_27_code
theorem d44_0 : decode kk_44 0 = .ok (.iload_n 0, 1) := by decide +kernel
theorem d44_1 : decode kk_44 1 = .ok (.iload_n 1, 1) := by decide +kernel
theorem d44_2 : decode kk_44 2 = .ok (.iload_n 2, 1) := by decide +kernel
theorem d44_3 : decode kk_44 3 = .ok (.invokestatic 194, 3) := by decide +kernel
abbrev kk_45 : ByteArray := jdk_29_method_65_code
theorem d45_0 : decode kk_45 0 = .ok (.iload_n 0, 1) := by decide +kernel
theorem d45_1 : decode kk_45 1 = .ok (.iload_n 1, 1) := by decide +kernel
theorem d45_2 : decode kk_45 2 = .ok (.if_icmp .lt 7, 3) := by decide +kernel
theorem d45_9 : decode kk_45 9 = .ok (.iload_n 1, 1) := by decide +kernel
theorem d45_10 : decode kk_45 10 = .ok (.ireturn, 1) := by decide +kernel
theorem d44_6 : decode kk_44 6 = .ok (.iadd, 1) := by decide +kernel
theorem d44_7 : decode kk_44 7 = .ok (.istore_n 3, 1) := by decide +kernel
theorem d44_8 : decode kk_44 8 = .ok (.iconst 0, 1) := by decide +kernel
theorem d44_9 : decode kk_44 9 = .ok (.iload_n 3, 1) := by decide +kernel
theorem d44_10 : decode kk_44 10 = .ok (.if_icmp .ge 11, 3) := by decide +kernel
theorem d44_13 : decode kk_44 13 = .ok (.iload_n 3, 1) := by decide +kernel
theorem d44_14 : decode kk_44 14 = .ok (.ldc 200, 2) := by decide +kernel
theorem d44_16 : decode kk_44 16 = .ok (.if_icmp .gt 5, 3) := by decide +kernel
theorem d44_19 : decode kk_44 19 = .ok (.iload_n 3, 1) := by decide +kernel
theorem d44_20 : decode kk_44 20 = .ok (.ireturn, 1) := by decide +kernel
theorem d43_32 : decode kk_43 32 = .ok (.istore 5, 2) := by decide +kernel
theorem d43_34 : decode kk_43 34 = .ok (.iload 5, 2) := by decide +kernel
theorem d43_36 : decode kk_43 36 = .ok (.ldc 39, 2) := by decide +kernel
theorem d43_38 : decode kk_43 38 = .ok (.if_icmp .ne 13, 3) := by decide +kernel
theorem d43_51 : decode kk_43 51 = .ok (.iload 5, 2) := by decide +kernel
theorem d43_53 : decode kk_43 53 = .ok (.aload_n 0, 1) := by decide +kernel
theorem d43_54 : decode kk_43 54 = .ok (.getfield 22, 3) := by decide +kernel
theorem d43_57 : decode kk_43 57 = .ok (.ishr, 1) := by decide +kernel
theorem d43_58 : decode kk_43 58 = .ok (.ireturn, 1) := by decide +kernel
theorem d16_27 : decode kk_16 27 = .ok (.aload_n 0, 1) := by decide +kernel
theorem d16_28 : decode kk_16 28 = .ok (.getfield 22, 3) := by decide +kernel
theorem d16_31 : decode kk_16 31 = .ok (.ishl, 1) := by decide +kernel
theorem d16_32 : decode kk_16 32 = .ok (.invokestatic 108, 3) := by decide +kernel
abbrev kk_46 : ByteArray := jdk_65_method_121_code
theorem d46_0 : decode kk_46 0 = .ok (.iload_n 1, 1) := by decide +kernel
theorem d46_1 : decode kk_46 1 = .ok (.aload_n 0, 1) := by decide +kernel
theorem d46_2 : decode kk_46 2 = .ok (.arraylength, 1) := by decide +kernel
theorem d46_3 : decode kk_46 3 = .ok (.if_icmp .ne 11, 3) := by decide +kernel
theorem d46_14 : decode kk_46 14 = .ok (.iload_n 1, 1) := by decide +kernel
theorem d46_15 : decode kk_46 15 = .ok (.newarray .byte, 2) := by decide +kernel
theorem d46_17 : decode kk_46 17 = .ok (.astore_n 2, 1) := by decide +kernel
theorem d46_18 : decode kk_46 18 = .ok (.aload_n 0, 1) := by decide +kernel
theorem d46_19 : decode kk_46 19 = .ok (.iconst 0, 1) := by decide +kernel
theorem d46_20 : decode kk_46 20 = .ok (.aload_n 2, 1) := by decide +kernel
theorem d46_21 : decode kk_46 21 = .ok (.iconst 0, 1) := by decide +kernel
theorem d46_22 : decode kk_46 22 = .ok (.aload_n 0, 1) := by decide +kernel
theorem d46_23 : decode kk_46 23 = .ok (.arraylength, 1) := by decide +kernel
theorem d46_24 : decode kk_46 24 = .ok (.iload_n 1, 1) := by decide +kernel
theorem d46_25 : decode kk_46 25 = .ok (.invokestatic 304, 3) := by decide +kernel
abbrev kk_34 : ByteArray := jdk_29_method_69_code
theorem d34_0 : decode kk_34 0 = .ok (.iload_n 0, 1) := by decide +kernel
theorem d34_1 : decode kk_34 1 = .ok (.iload_n 1, 1) := by decide +kernel
theorem d34_2 : decode kk_34 2 = .ok (.if_icmp .gt 7, 3) := by decide +kernel
theorem d34_5 : decode kk_34 5 = .ok (.iload_n 0, 1) := by decide +kernel
theorem d34_6 : decode kk_34 6 = .ok (.goto 4, 3) := by decide +kernel
theorem d34_10 : decode kk_34 10 = .ok (.ireturn, 1) := by decide +kernel
theorem d46_28 : decode kk_46 28 = .ok (.invokestatic 150, 3) := by decide +kernel
theorem d46_31 : decode kk_46 31 = .ok (.aload_n 2, 1) := by decide +kernel
theorem d46_32 : decode kk_46 32 = .ok (.areturn, 1) := by decide +kernel
theorem d16_35 : decode kk_16 35 = .ok (.putfield 15, 3) := by decide +kernel
abbrev kk_20 : ByteArray := jdk_67_method_15_code
theorem d20_0 : decode kk_20 0 = .ok (.aload_n 0, 1) := by decide +kernel
theorem d20_1 : decode kk_20 1 = .ok (.iload_n 1, 1) := by decide +kernel
theorem d20_2 : decode kk_20 2 = .ok (.invokespecial 53, 3) := by decide +kernel
abbrev kk_21 : ByteArray := jdk_68_method_32_code
theorem d21_0 : decode kk_21 0 = .ok (.aload_n 0, 1) := by decide +kernel
theorem d21_1 : decode kk_21 1 = .ok (.getfield 79, 3) := by decide +kernel
theorem d21_4 : decode kk_21 4 = .ok (.istore_n 2, 1) := by decide +kernel
theorem d21_5 : decode kk_21 5 = .ok (.iload_n 2, 1) := by decide +kernel
theorem d21_6 : decode kk_21 6 = .ok (.iload_n 1, 1) := by decide +kernel
theorem d21_7 : decode kk_21 7 = .ok (.invokestatic 245, 3) := by decide +kernel
theorem d21_10 : decode kk_21 10 = .ok (.iadd, 1) := by decide +kernel
theorem d21_11 : decode kk_21 11 = .ok (.istore_n 3, 1) := by decide +kernel
theorem d21_12 : decode kk_21 12 = .ok (.aload_n 0, 1) := by decide +kernel
theorem d21_13 : decode kk_21 13 = .ok (.iload_n 3, 1) := by decide +kernel
theorem d21_14 : decode kk_21 14 = .ok (.invokevirtual 100, 3) := by decide +kernel
theorem d21_17 : decode kk_21 17 = .ok (.aload_n 0, 1) := by decide +kernel
theorem d21_18 : decode kk_21 18 = .ok (.invokevirtual 83, 3) := by decide +kernel
abbrev kk_23 : ByteArray := jdk_68_method_68_code
theorem d23_0 : decode kk_23 0 = .ok (.getstatic 18, 3) := by decide +kernel
theorem d23_3 : decode kk_23 3 = .ok (.ifCond .eq 14, 3) := by decide +kernel
theorem d23_6 : decode kk_23 6 = .ok (.aload_n 0, 1) := by decide +kernel
theorem d23_7 : decode kk_23 7 = .ok (.getfield 22, 3) := by decide +kernel
theorem d23_10 : decode kk_23 10 = .ok (.ifCond .ne 7, 3) := by decide +kernel
theorem d23_13 : decode kk_23 13 = .ok (.iconst 1, 1) := by decide +kernel
theorem d23_14 : decode kk_23 14 = .ok (.goto 4, 3) := by decide +kernel
theorem d23_18 : decode kk_23 18 = .ok (.ireturn, 1) := by decide +kernel
theorem d21_21 : decode kk_21 21 = .ok (.ifCond .eq 16, 3) := by decide +kernel
theorem d21_24 : decode kk_21 24 = .ok (.iload_n 1, 1) := by decide +kernel
theorem d21_25 : decode kk_21 25 = .ok (.iload_n 3, 1) := by decide +kernel
theorem d21_26 : decode kk_21 26 = .ok (.aload_n 0, 1) := by decide +kernel
theorem d21_27 : decode kk_21 27 = .ok (.getfield 15, 3) := by decide +kernel
theorem d21_30 : decode kk_21 30 = .ok (.invokestatic 248, 3) := by decide +kernel
theorem d21_33 : decode kk_21 33 = .ok (.pop, 1) := by decide +kernel
theorem d21_34 : decode kk_21 34 = .ok (.goto 14, 3) := by decide +kernel
theorem d21_48 : decode kk_21 48 = .ok (.aload_n 0, 1) := by decide +kernel
theorem d21_49 : decode kk_21 49 = .ok (.iload_n 3, 1) := by decide +kernel
theorem d21_50 : decode kk_21 50 = .ok (.putfield 79, 3) := by decide +kernel
theorem d21_53 : decode kk_21 53 = .ok (.aload_n 0, 1) := by decide +kernel
theorem d21_54 : decode kk_21 54 = .ok (.areturn, 1) := by decide +kernel
theorem d20_5 : decode kk_20 5 = .ok (.pop, 1) := by decide +kernel
theorem d20_6 : decode kk_20 6 = .ok (.aload_n 0, 1) := by decide +kernel
theorem d20_7 : decode kk_20 7 = .ok (.areturn, 1) := by decide +kernel
abbrev kk_12 : ByteArray := jdk_67_method_7_code
theorem d12_0 : decode kk_12 0 = .ok (.aload_n 0, 1) := by decide +kernel
theorem d12_1 : decode kk_12 1 = .ok (.aload_n 1, 1) := by decide +kernel
theorem d12_2 : decode kk_12 2 = .ok (.invokespecial 29, 3) := by decide +kernel
abbrev kk_13 : ByteArray := jdk_68_method_22_code
theorem d13_0 : decode kk_13 0 = .ok (.aload_n 1, 1) := by decide +kernel
theorem d13_1 : decode kk_13 1 = .ok (.ifnonnull 8, 3) := by decide +kernel
theorem d13_9 : decode kk_13 9 = .ok (.aload_n 1, 1) := by decide +kernel
theorem d13_10 : decode kk_13 10 = .ok (.invokevirtual 32, 3) := by decide +kernel
abbrev kk_14 : ByteArray := jdk_42_method_54_code
theorem d14_0 : decode kk_14 0 = .ok (.aload_n 0, 1) := by decide +kernel
theorem d14_1 : decode kk_14 1 = .ok (.getfield 9, 3) := by decide +kernel
theorem d14_4 : decode kk_14 4 = .ok (.arraylength, 1) := by decide +kernel
theorem d14_5 : decode kk_14 5 = .ok (.aload_n 0, 1) := by decide +kernel
theorem d14_6 : decode kk_14 6 = .ok (.invokevirtual 335, 3) := by decide +kernel
abbrev kk_15 : ByteArray := jdk_42_method_152_code
theorem d15_0 : decode kk_15 0 = .ok (.getstatic 38, 3) := by decide +kernel
theorem d15_3 : decode kk_15 3 = .ok (.ifCond .eq 10, 3) := by decide +kernel
theorem d15_6 : decode kk_15 6 = .ok (.aload_n 0, 1) := by decide +kernel
theorem d15_7 : decode kk_15 7 = .ok (.getfield 15, 3) := by decide +kernel
theorem d15_10 : decode kk_15 10 = .ok (.goto 4, 3) := by decide +kernel
theorem d15_14 : decode kk_15 14 = .ok (.ireturn, 1) := by decide +kernel
theorem d14_9 : decode kk_14 9 = .ok (.ishr, 1) := by decide +kernel
theorem d14_10 : decode kk_14 10 = .ok (.ireturn, 1) := by decide +kernel
theorem d13_13 : decode kk_13 13 = .ok (.istore_n 2, 1) := by decide +kernel
theorem d13_14 : decode kk_13 14 = .ok (.aload_n 0, 1) := by decide +kernel
theorem d13_15 : decode kk_13 15 = .ok (.aload_n 0, 1) := by decide +kernel
theorem d13_16 : decode kk_13 16 = .ok (.getfield 79, 3) := by decide +kernel
theorem d13_19 : decode kk_13 19 = .ok (.iload_n 2, 1) := by decide +kernel
theorem d13_20 : decode kk_13 20 = .ok (.iadd, 1) := by decide +kernel
theorem d13_21 : decode kk_13 21 = .ok (.invokevirtual 100, 3) := by decide +kernel
theorem d13_24 : decode kk_13 24 = .ok (.aload_n 0, 1) := by decide +kernel
theorem d13_25 : decode kk_13 25 = .ok (.aload_n 0, 1) := by decide +kernel
theorem d13_26 : decode kk_13 26 = .ok (.getfield 79, 3) := by decide +kernel
theorem d13_29 : decode kk_13 29 = .ok (.aload_n 1, 1) := by decide +kernel
theorem d13_30 : decode kk_13 30 = .ok (.invokevirtual 208, 3) := by decide +kernel
abbrev kk_17 : ByteArray := jdk_68_method_73_code
theorem d17_0 : decode kk_17 0 = .ok (.aload_n 0, 1) := by decide +kernel
theorem d17_1 : decode kk_17 1 = .ok (.aload_n 2, 1) := by decide +kernel
theorem d17_2 : decode kk_17 2 = .ok (.invokevirtual 397, 3) := by decide +kernel
abbrev kk_18 : ByteArray := jdk_68_method_71_code
theorem d18_0 : decode kk_18 0 = .ok (.getstatic 18, 3) := by decide +kernel
theorem d18_3 : decode kk_18 3 = .ok (.ifCond .eq 18, 3) := by decide +kernel
theorem d18_6 : decode kk_18 6 = .ok (.aload_n 0, 1) := by decide +kernel
theorem d18_7 : decode kk_18 7 = .ok (.getfield 22, 3) := by decide +kernel
theorem d18_10 : decode kk_18 10 = .ok (.aload_n 1, 1) := by decide +kernel
theorem d18_11 : decode kk_18 11 = .ok (.invokevirtual 40, 3) := by decide +kernel
theorem d18_14 : decode kk_18 14 = .ok (.if_icmp .eq 7, 3) := by decide +kernel
theorem d18_21 : decode kk_18 21 = .ok (.return_, 1) := by decide +kernel
theorem d17_5 : decode kk_17 5 = .ok (.aload_n 2, 1) := by decide +kernel
theorem d17_6 : decode kk_17 6 = .ok (.aload_n 0, 1) := by decide +kernel
theorem d17_7 : decode kk_17 7 = .ok (.getfield 15, 3) := by decide +kernel
theorem d17_10 : decode kk_17 10 = .ok (.iload_n 1, 1) := by decide +kernel
theorem d17_11 : decode kk_17 11 = .ok (.aload_n 0, 1) := by decide +kernel
theorem d17_12 : decode kk_17 12 = .ok (.getfield 22, 3) := by decide +kernel
theorem d17_15 : decode kk_17 15 = .ok (.invokevirtual 399, 3) := by decide +kernel
abbrev kk_19 : ByteArray := jdk_42_method_147_code
theorem d19_0 : decode kk_19 0 = .ok (.aload_n 0, 1) := by decide +kernel
theorem d19_1 : decode kk_19 1 = .ok (.invokevirtual 335, 3) := by decide +kernel
theorem d19_4 : decode kk_19 4 = .ok (.iload_n 3, 1) := by decide +kernel
theorem d19_5 : decode kk_19 5 = .ok (.if_icmp .ne 23, 3) := by decide +kernel
theorem d19_8 : decode kk_19 8 = .ok (.aload_n 0, 1) := by decide +kernel
theorem d19_9 : decode kk_19 9 = .ok (.getfield 9, 3) := by decide +kernel
theorem d19_12 : decode kk_19 12 = .ok (.iconst 0, 1) := by decide +kernel
theorem d19_13 : decode kk_19 13 = .ok (.aload_n 1, 1) := by decide +kernel
theorem d19_14 : decode kk_19 14 = .ok (.iload_n 2, 1) := by decide +kernel
theorem d19_15 : decode kk_19 15 = .ok (.iload_n 3, 1) := by decide +kernel
theorem d19_16 : decode kk_19 16 = .ok (.ishl, 1) := by decide +kernel
theorem d19_17 : decode kk_19 17 = .ok (.aload_n 0, 1) := by decide +kernel
theorem d19_18 : decode kk_19 18 = .ok (.getfield 9, 3) := by decide +kernel
theorem d19_21 : decode kk_19 21 = .ok (.arraylength, 1) := by decide +kernel
theorem d19_22 : decode kk_19 22 = .ok (.invokestatic 212, 3) := by decide +kernel
theorem d19_25 : decode kk_19 25 = .ok (.goto 18, 3) := by decide +kernel
theorem d19_43 : decode kk_19 43 = .ok (.return_, 1) := by decide +kernel
theorem d17_18 : decode kk_17 18 = .ok (.return_, 1) := by decide +kernel
theorem d13_33 : decode kk_13 33 = .ok (.aload_n 0, 1) := by decide +kernel
theorem d13_34 : decode kk_13 34 = .ok (.dup, 1) := by decide +kernel
theorem d13_35 : decode kk_13 35 = .ok (.getfield 79, 3) := by decide +kernel
theorem d13_38 : decode kk_13 38 = .ok (.iload_n 2, 1) := by decide +kernel
theorem d13_39 : decode kk_13 39 = .ok (.iadd, 1) := by decide +kernel
theorem d13_40 : decode kk_13 40 = .ok (.putfield 79, 3) := by decide +kernel
theorem d13_43 : decode kk_13 43 = .ok (.aload_n 0, 1) := by decide +kernel
theorem d13_44 : decode kk_13 44 = .ok (.areturn, 1) := by decide +kernel
theorem d12_5 : decode kk_12 5 = .ok (.pop, 1) := by decide +kernel
theorem d12_6 : decode kk_12 6 = .ok (.aload_n 0, 1) := by decide +kernel
theorem d12_7 : decode kk_12 7 = .ok (.areturn, 1) := by decide +kernel
abbrev kk_25 : ByteArray := jdk_67_method_42_code
theorem d25_0 : decode kk_25 0 = .ok (.new 18, 3) := by decide +kernel
theorem d25_3 : decode kk_25 3 = .ok (.dup, 1) := by decide +kernel
theorem d25_4 : decode kk_25 4 = .ok (.aload_n 0, 1) := by decide +kernel
theorem d25_5 : decode kk_25 5 = .ok (.invokespecial 137, 3) := by decide +kernel
abbrev kk_26 : ByteArray := jdk_42_method_53_code
theorem d26_0 : decode kk_26 0 = .ok (.aload_n 0, 1) := by decide +kernel
theorem d26_1 : decode kk_26 1 = .ok (.aload_n 1, 1) := by decide +kernel
theorem d26_2 : decode kk_26 2 = .ok (.aconst_null, 1) := by decide +kernel
theorem d26_3 : decode kk_26 3 = .ok (.invokespecial 489, 3) := by decide +kernel
abbrev kk_27 : ByteArray := jdk_42_method_150_code
theorem d27_0 : decode kk_27 0 = .ok (.aload_n 0, 1) := by decide +kernel
theorem d27_1 : decode kk_27 1 = .ok (.invokespecial 1, 3) := by decide +kernel
theorem d27_4 : decode kk_27 4 = .ok (.aload_n 1, 1) := by decide +kernel
theorem d27_5 : decode kk_27 5 = .ok (.invokevirtual 552, 3) := by decide +kernel
abbrev kk_28 : ByteArray := jdk_68_method_64_code
theorem d28_0 : decode kk_28 0 = .ok (.aload_n 0, 1) := by decide +kernel
theorem d28_1 : decode kk_28 1 = .ok (.getfield 15, 3) := by decide +kernel
theorem d28_4 : decode kk_28 4 = .ok (.areturn, 1) := by decide +kernel
theorem d27_8 : decode kk_27 8 = .ok (.astore_n 3, 1) := by decide +kernel
theorem d27_9 : decode kk_27 9 = .ok (.aload_n 1, 1) := by decide +kernel
theorem d27_10 : decode kk_27 10 = .ok (.invokevirtual 549, 3) := by decide +kernel
abbrev kk_29 : ByteArray := jdk_67_method_93_code
theorem d29_0 : decode kk_29 0 = .ok (.aload_n 0, 1) := by decide +kernel
theorem d29_1 : decode kk_29 1 = .ok (.invokespecial 343, 3) := by decide +kernel
abbrev kk_30 : ByteArray := jdk_68_method_6_code
theorem d30_0 : decode kk_30 0 = .ok (.aload_n 0, 1) := by decide +kernel
theorem d30_1 : decode kk_30 1 = .ok (.getfield 79, 3) := by decide +kernel
theorem d30_4 : decode kk_30 4 = .ok (.ireturn, 1) := by decide +kernel
theorem d29_4 : decode kk_29 4 = .ok (.ireturn, 1) := by decide +kernel
theorem d27_13 : decode kk_27 13 = .ok (.istore 4, 2) := by decide +kernel
theorem d27_15 : decode kk_27 15 = .ok (.aload_n 1, 1) := by decide +kernel
theorem d27_16 : decode kk_27 16 = .ok (.invokevirtual 1047, 3) := by decide +kernel
theorem d27_19 : decode kk_27 19 = .ok (.ifCond .eq 22, 3) := by decide +kernel
theorem d27_22 : decode kk_27 22 = .ok (.aload_n 0, 1) := by decide +kernel
theorem d27_23 : decode kk_27 23 = .ok (.iconst 0, 1) := by decide +kernel
theorem d27_24 : decode kk_27 24 = .ok (.putfield 15, 3) := by decide +kernel
theorem d27_27 : decode kk_27 27 = .ok (.aload_n 0, 1) := by decide +kernel
theorem d27_28 : decode kk_27 28 = .ok (.aload_n 3, 1) := by decide +kernel
theorem d27_29 : decode kk_27 29 = .ok (.iconst 0, 1) := by decide +kernel
theorem d27_30 : decode kk_27 30 = .ok (.iload 4, 2) := by decide +kernel
theorem d27_32 : decode kk_27 32 = .ok (.invokestatic 54, 3) := by decide +kernel
abbrev kk_31 : ByteArray := jdk_65_method_132_code
theorem d31_0 : decode kk_31 0 = .ok (.iload_n 1, 1) := by decide +kernel
theorem d31_1 : decode kk_31 1 = .ok (.ifCond .ne 9, 3) := by decide +kernel
theorem d31_4 : decode kk_31 4 = .ok (.iload_n 2, 1) := by decide +kernel
theorem d31_5 : decode kk_31 5 = .ok (.aload_n 0, 1) := by decide +kernel
theorem d31_6 : decode kk_31 6 = .ok (.arraylength, 1) := by decide +kernel
theorem d31_7 : decode kk_31 7 = .ok (.if_icmp .eq 10, 3) := by decide +kernel
theorem d31_10 : decode kk_31 10 = .ok (.aload_n 0, 1) := by decide +kernel
theorem d31_11 : decode kk_31 11 = .ok (.iload_n 1, 1) := by decide +kernel
theorem d31_12 : decode kk_31 12 = .ok (.iload_n 2, 1) := by decide +kernel
theorem d31_13 : decode kk_31 13 = .ok (.invokestatic 339, 3) := by decide +kernel
abbrev kk_32 : ByteArray := jdk_65_method_133_code
theorem d32_0 : decode kk_32 0 = .ok (.iload_n 1, 1) := by decide +kernel
theorem d32_1 : decode kk_32 1 = .ok (.iload_n 2, 1) := by decide +kernel
theorem d32_2 : decode kk_32 2 = .ok (.invokestatic 343, 3) := by decide +kernel
abbrev kk_33 : ByteArray := jdk_65_method_131_code
theorem d33_0 : decode kk_33 0 = .ok (.iload_n 1, 1) := by decide +kernel
theorem d33_1 : decode kk_33 1 = .ok (.iload_n 0, 1) := by decide +kernel
theorem d33_2 : decode kk_33 2 = .ok (.if_icmp .ge 35, 3) := by decide +kernel
theorem d33_37 : decode kk_33 37 = .ok (.return_, 1) := by decide +kernel
theorem d32_5 : decode kk_32 5 = .ok (.iload_n 2, 1) := by decide +kernel
theorem d32_6 : decode kk_32 6 = .ok (.iload_n 1, 1) := by decide +kernel
theorem d32_7 : decode kk_32 7 = .ok (.isub, 1) := by decide +kernel
theorem d32_8 : decode kk_32 8 = .ok (.istore_n 3, 1) := by decide +kernel
theorem d32_9 : decode kk_32 9 = .ok (.iload_n 3, 1) := by decide +kernel
theorem d32_10 : decode kk_32 10 = .ok (.newarray .byte, 2) := by decide +kernel
theorem d32_12 : decode kk_32 12 = .ok (.astore 4, 2) := by decide +kernel
theorem d32_14 : decode kk_32 14 = .ok (.aload_n 0, 1) := by decide +kernel
theorem d32_15 : decode kk_32 15 = .ok (.iload_n 1, 1) := by decide +kernel
theorem d32_16 : decode kk_32 16 = .ok (.aload 4, 2) := by decide +kernel
theorem d32_18 : decode kk_32 18 = .ok (.iconst 0, 1) := by decide +kernel
theorem d32_19 : decode kk_32 19 = .ok (.aload_n 0, 1) := by decide +kernel
theorem d32_20 : decode kk_32 20 = .ok (.arraylength, 1) := by decide +kernel
theorem d32_21 : decode kk_32 21 = .ok (.iload_n 1, 1) := by decide +kernel
theorem d32_22 : decode kk_32 22 = .ok (.isub, 1) := by decide +kernel
theorem d32_23 : decode kk_32 23 = .ok (.iload_n 3, 1) := by decide +kernel
theorem d32_24 : decode kk_32 24 = .ok (.invokestatic 304, 3) := by decide +kernel
theorem d34_9 : decode kk_34 9 = .ok (.iload_n 1, 1) := by decide +kernel
theorem d32_27 : decode kk_32 27 = .ok (.invokestatic 150, 3) := by decide +kernel
theorem d32_30 : decode kk_32 30 = .ok (.aload 4, 2) := by decide +kernel
theorem d32_32 : decode kk_32 32 = .ok (.areturn, 1) := by decide +kernel
theorem d31_16 : decode kk_31 16 = .ok (.areturn, 1) := by decide +kernel
theorem d27_35 : decode kk_27 35 = .ok (.putfield 9, 3) := by decide +kernel
theorem d27_38 : decode kk_27 38 = .ok (.goto 59, 3) := by decide +kernel
theorem d27_97 : decode kk_27 97 = .ok (.return_, 1) := by decide +kernel
theorem d26_6 : decode kk_26 6 = .ok (.return_, 1) := by decide +kernel
theorem d25_8 : decode kk_25 8 = .ok (.areturn, 1) := by decide +kernel
theorem d31_17 : decode kk_31 17 = .ok (.aload_n 0, 1) := by decide +kernel
theorem d31_18 : decode kk_31 18 = .ok (.invokevirtual 310, 3) := by decide +kernel
theorem d31_21 : decode kk_31 21 = .ok (.checkcast 311, 3) := by decide +kernel
theorem d31_24 : decode kk_31 24 = .ok (.areturn, 1) := by decide +kernel
abbrev kk_37 : ByteArray := jdk_42_method_56_code
theorem d37_0 : decode kk_37 0 = .ok (.aload_n 0, 1) := by decide +kernel
theorem d37_1 : decode kk_37 1 = .ok (.invokevirtual 492, 3) := by decide +kernel
abbrev kk_38 : ByteArray := jdk_42_method_154_code
theorem d38_0 : decode kk_38 0 = .ok (.getstatic 38, 3) := by decide +kernel
theorem d38_3 : decode kk_38 3 = .ok (.ifCond .eq 14, 3) := by decide +kernel
theorem d38_6 : decode kk_38 6 = .ok (.aload_n 0, 1) := by decide +kernel
theorem d38_7 : decode kk_38 7 = .ok (.getfield 15, 3) := by decide +kernel
theorem d38_10 : decode kk_38 10 = .ok (.ifCond .ne 7, 3) := by decide +kernel
theorem d38_13 : decode kk_38 13 = .ok (.iconst 1, 1) := by decide +kernel
theorem d38_14 : decode kk_38 14 = .ok (.goto 4, 3) := by decide +kernel
theorem d38_18 : decode kk_38 18 = .ok (.ireturn, 1) := by decide +kernel
theorem d37_4 : decode kk_37 4 = .ok (.ifCond .eq 12, 3) := by decide +kernel
theorem d37_7 : decode kk_37 7 = .ok (.aload_n 0, 1) := by decide +kernel
theorem d37_8 : decode kk_37 8 = .ok (.getfield 9, 3) := by decide +kernel
theorem d37_11 : decode kk_37 11 = .ok (.iload_n 1, 1) := by decide +kernel
theorem d37_12 : decode kk_37 12 = .ok (.invokestatic 495, 3) := by decide +kernel
abbrev kk_39 : ByteArray := jdk_43_method_2_code
theorem d39_0 : decode kk_39 0 = .ok (.iload_n 1, 1) := by decide +kernel
theorem d39_1 : decode kk_39 1 = .ok (.aload_n 0, 1) := by decide +kernel
theorem d39_2 : decode kk_39 2 = .ok (.arraylength, 1) := by decide +kernel
theorem d39_3 : decode kk_39 3 = .ok (.invokestatic 9, 3) := by decide +kernel
abbrev kk_40 : ByteArray := jdk_42_method_155_code
theorem d40_0 : decode kk_40 0 = .ok (.iload_n 0, 1) := by decide +kernel
theorem d40_1 : decode kk_40 1 = .ok (.iload_n 1, 1) := by decide +kernel
theorem d40_2 : decode kk_40 2 = .ok (.getstatic 1053, 3) := by decide +kernel
theorem d40_5 : decode kk_40 5 = .ok (.invokestatic 1059, 3) := by decide +kernel
abbrev kk_41 : ByteArray := jdk_41_method_11_code
theorem d41_0 : decode kk_41 0 = .ok (.iload_n 0, 1) := by decide +kernel
theorem d41_1 : decode kk_41 1 = .ok (.ifCond .lt 8, 3) := by decide +kernel
theorem d41_4 : decode kk_41 4 = .ok (.iload_n 0, 1) := by decide +kernel
theorem d41_5 : decode kk_41 5 = .ok (.iload_n 1, 1) := by decide +kernel
theorem d41_6 : decode kk_41 6 = .ok (.if_icmp .lt 10, 3) := by decide +kernel
theorem d41_16 : decode kk_41 16 = .ok (.iload_n 0, 1) := by decide +kernel
theorem d41_17 : decode kk_41 17 = .ok (.ireturn, 1) := by decide +kernel
theorem d40_8 : decode kk_40 8 = .ok (.pop, 1) := by decide +kernel
theorem d40_9 : decode kk_40 9 = .ok (.return_, 1) := by decide +kernel
theorem d39_6 : decode kk_39 6 = .ok (.aload_n 0, 1) := by decide +kernel
theorem d39_7 : decode kk_39 7 = .ok (.iload_n 1, 1) := by decide +kernel
theorem d39_8 : decode kk_39 8 = .ok (.baload, 1) := by decide +kernel
theorem d39_9 : decode kk_39 9 = .ok (.sipush 255, 3) := by decide +kernel
theorem d39_12 : decode kk_39 12 = .ok (.iand, 1) := by decide +kernel
theorem d39_13 : decode kk_39 13 = .ok (.i2c, 1) := by decide +kernel
theorem d39_14 : decode kk_39 14 = .ok (.ireturn, 1) := by decide +kernel
theorem d37_15 : decode kk_37 15 = .ok (.ireturn, 1) := by decide +kernel
abbrev kk_36 : ByteArray := method_4_code
theorem d36_0 : decode kk_36 0 = .ok (.aload_n 2, 1) := by decide +kernel
theorem d36_1 : decode kk_36 1 = .ok (.invokevirtual 22, 3) := by decide +kernel
theorem d36_4 : decode kk_36 4 = .ok (.istore_n 3, 1) := by decide +kernel
theorem d36_5 : decode kk_36 5 = .ok (.iload_n 3, 1) := by decide +kernel
theorem d36_6 : decode kk_36 6 = .ok (.iconst 1, 1) := by decide +kernel
theorem d36_7 : decode kk_36 7 = .ok (.if_icmp .lt 16, 3) := by decide +kernel
theorem d36_23 : decode kk_36 23 = .ok (.iload_n 3, 1) := by decide +kernel
theorem d36_24 : decode kk_36 24 = .ok (.iconst 2, 1) := by decide +kernel
theorem d36_25 : decode kk_36 25 = .ok (.if_icmp .lt 18, 3) := by decide +kernel
theorem d36_43 : decode kk_36 43 = .ok (.iload_n 3, 1) := by decide +kernel
theorem d36_44 : decode kk_36 44 = .ok (.iconst 3, 1) := by decide +kernel
theorem d36_45 : decode kk_36 45 = .ok (.if_icmp .lt 18, 3) := by decide +kernel
theorem d36_63 : decode kk_36 63 = .ok (.iconst 1, 1) := by decide +kernel
theorem d36_64 : decode kk_36 64 = .ok (.goto 4, 3) := by decide +kernel
theorem d36_68 : decode kk_36 68 = .ok (.ireturn, 1) := by decide +kernel
theorem d36_10 : decode kk_36 10 = .ok (.aload_n 0, 1) := by decide +kernel
theorem d36_11 : decode kk_36 11 = .ok (.iload_n 1, 1) := by decide +kernel
theorem d36_12 : decode kk_36 12 = .ok (.invokevirtual 32, 3) := by decide +kernel
theorem d36_15 : decode kk_36 15 = .ok (.aload_n 2, 1) := by decide +kernel
theorem d36_16 : decode kk_36 16 = .ok (.iconst 0, 1) := by decide +kernel
theorem d36_17 : decode kk_36 17 = .ok (.invokevirtual 32, 3) := by decide +kernel
theorem d36_20 : decode kk_36 20 = .ok (.if_icmp .ne 47, 3) := by decide +kernel
theorem d36_28 : decode kk_36 28 = .ok (.aload_n 0, 1) := by decide +kernel
theorem d36_29 : decode kk_36 29 = .ok (.iload_n 1, 1) := by decide +kernel
theorem d36_30 : decode kk_36 30 = .ok (.iconst 1, 1) := by decide +kernel
theorem d36_31 : decode kk_36 31 = .ok (.iadd, 1) := by decide +kernel
theorem d36_32 : decode kk_36 32 = .ok (.invokevirtual 32, 3) := by decide +kernel
theorem d36_35 : decode kk_36 35 = .ok (.aload_n 2, 1) := by decide +kernel
theorem d36_36 : decode kk_36 36 = .ok (.iconst 1, 1) := by decide +kernel
theorem d36_37 : decode kk_36 37 = .ok (.invokevirtual 32, 3) := by decide +kernel
theorem d36_40 : decode kk_36 40 = .ok (.if_icmp .ne 27, 3) := by decide +kernel
theorem d36_48 : decode kk_36 48 = .ok (.aload_n 0, 1) := by decide +kernel
theorem d36_49 : decode kk_36 49 = .ok (.iload_n 1, 1) := by decide +kernel
theorem d36_50 : decode kk_36 50 = .ok (.iconst 2, 1) := by decide +kernel
theorem d36_51 : decode kk_36 51 = .ok (.iadd, 1) := by decide +kernel
theorem d36_52 : decode kk_36 52 = .ok (.invokevirtual 32, 3) := by decide +kernel
theorem d36_55 : decode kk_36 55 = .ok (.aload_n 2, 1) := by decide +kernel
theorem d36_56 : decode kk_36 56 = .ok (.iconst 2, 1) := by decide +kernel
theorem d36_57 : decode kk_36 57 = .ok (.invokevirtual 32, 3) := by decide +kernel
theorem d36_60 : decode kk_36 60 = .ok (.if_icmp .ne 7, 3) := by decide +kernel
abbrev kk_35 : ByteArray := method_5_code
theorem d35_0 : decode kk_35 0 = .ok (.lload_n 0, 1) := by decide +kernel
theorem d35_1 : decode kk_35 1 = .ok (.ldc2_w 40, 3) := by decide +kernel
theorem d35_4 : decode kk_35 4 = .ok (.lcmp, 1) := by decide +kernel
theorem d35_5 : decode kk_35 5 = .ok (.ifCond .ge 5, 3) := by decide +kernel
theorem d35_8 : decode kk_35 8 = .ok (.iconst 1, 1) := by decide +kernel
theorem d35_9 : decode kk_35 9 = .ok (.ireturn, 1) := by decide +kernel
theorem d35_10 : decode kk_35 10 = .ok (.lload_n 0, 1) := by decide +kernel
theorem d35_11 : decode kk_35 11 = .ok (.ldc2_w 42, 3) := by decide +kernel
theorem d35_14 : decode kk_35 14 = .ok (.lcmp, 1) := by decide +kernel
theorem d35_15 : decode kk_35 15 = .ok (.ifCond .ge 5, 3) := by decide +kernel
theorem d35_18 : decode kk_35 18 = .ok (.iconst 2, 1) := by decide +kernel
theorem d35_19 : decode kk_35 19 = .ok (.ireturn, 1) := by decide +kernel
theorem d35_20 : decode kk_35 20 = .ok (.lload_n 0, 1) := by decide +kernel
theorem d35_21 : decode kk_35 21 = .ok (.ldc2_w 44, 3) := by decide +kernel
theorem d35_24 : decode kk_35 24 = .ok (.lcmp, 1) := by decide +kernel
theorem d35_25 : decode kk_35 25 = .ok (.ifCond .ge 5, 3) := by decide +kernel
theorem d35_28 : decode kk_35 28 = .ok (.iconst 3, 1) := by decide +kernel
theorem d35_29 : decode kk_35 29 = .ok (.ireturn, 1) := by decide +kernel
theorem d35_30 : decode kk_35 30 = .ok (.lload_n 0, 1) := by decide +kernel
theorem d35_31 : decode kk_35 31 = .ok (.ldc2_w 46, 3) := by decide +kernel
theorem d35_34 : decode kk_35 34 = .ok (.lcmp, 1) := by decide +kernel
theorem d35_35 : decode kk_35 35 = .ok (.ifCond .ge 5, 3) := by decide +kernel
theorem d35_38 : decode kk_35 38 = .ok (.iconst 4, 1) := by decide +kernel
theorem d35_39 : decode kk_35 39 = .ok (.ireturn, 1) := by decide +kernel
theorem d35_40 : decode kk_35 40 = .ok (.lload_n 0, 1) := by decide +kernel
theorem d35_41 : decode kk_35 41 = .ok (.ldc2_w 48, 3) := by decide +kernel
theorem d35_44 : decode kk_35 44 = .ok (.lcmp, 1) := by decide +kernel
theorem d35_45 : decode kk_35 45 = .ok (.ifCond .ge 5, 3) := by decide +kernel
theorem d35_48 : decode kk_35 48 = .ok (.iconst 5, 1) := by decide +kernel
theorem d35_49 : decode kk_35 49 = .ok (.ireturn, 1) := by decide +kernel
theorem d35_50 : decode kk_35 50 = .ok (.lload_n 0, 1) := by decide +kernel
theorem d35_51 : decode kk_35 51 = .ok (.ldc2_w 50, 3) := by decide +kernel
theorem d35_54 : decode kk_35 54 = .ok (.lcmp, 1) := by decide +kernel
theorem d35_55 : decode kk_35 55 = .ok (.ifCond .ge 6, 3) := by decide +kernel
theorem d35_58 : decode kk_35 58 = .ok (.bipush 6, 2) := by decide +kernel
theorem d35_60 : decode kk_35 60 = .ok (.ireturn, 1) := by decide +kernel
theorem d35_61 : decode kk_35 61 = .ok (.lload_n 0, 1) := by decide +kernel
theorem d35_62 : decode kk_35 62 = .ok (.ldc2_w 52, 3) := by decide +kernel
theorem d35_65 : decode kk_35 65 = .ok (.lcmp, 1) := by decide +kernel
theorem d35_66 : decode kk_35 66 = .ok (.ifCond .ge 6, 3) := by decide +kernel
theorem d35_69 : decode kk_35 69 = .ok (.bipush 7, 2) := by decide +kernel
theorem d35_71 : decode kk_35 71 = .ok (.ireturn, 1) := by decide +kernel
theorem d35_72 : decode kk_35 72 = .ok (.lload_n 0, 1) := by decide +kernel
theorem d35_73 : decode kk_35 73 = .ok (.ldc2_w 54, 3) := by decide +kernel
theorem d35_76 : decode kk_35 76 = .ok (.lcmp, 1) := by decide +kernel
theorem d35_77 : decode kk_35 77 = .ok (.ifCond .ge 6, 3) := by decide +kernel
theorem d35_80 : decode kk_35 80 = .ok (.bipush 8, 2) := by decide +kernel
theorem d35_82 : decode kk_35 82 = .ok (.ireturn, 1) := by decide +kernel
theorem d35_83 : decode kk_35 83 = .ok (.lload_n 0, 1) := by decide +kernel
theorem d35_84 : decode kk_35 84 = .ok (.ldc2_w 56, 3) := by decide +kernel
theorem d35_87 : decode kk_35 87 = .ok (.lcmp, 1) := by decide +kernel
theorem d35_88 : decode kk_35 88 = .ok (.ifCond .ge 6, 3) := by decide +kernel
theorem d35_91 : decode kk_35 91 = .ok (.bipush 9, 2) := by decide +kernel
theorem d35_93 : decode kk_35 93 = .ok (.ireturn, 1) := by decide +kernel
theorem d35_94 : decode kk_35 94 = .ok (.bipush 10, 2) := by decide +kernel
theorem d35_96 : decode kk_35 96 = .ok (.ireturn, 1) := by decide +kernel
abbrev kk_42 : ByteArray := method_6_code
theorem d42_0 : decode kk_42 0 = .ok (.iload 5, 2) := by decide +kernel
theorem d42_2 : decode kk_42 2 = .ok (.iload 4, 2) := by decide +kernel
theorem d42_4 : decode kk_42 4 = .ok (.if_icmp .lt 5, 3) := by decide +kernel
theorem d42_9 : decode kk_42 9 = .ok (.lload_n 2, 1) := by decide +kernel
theorem d42_10 : decode kk_42 10 = .ok (.aload 6, 2) := by decide +kernel
theorem d42_12 : decode kk_42 12 = .ok (.iload 4, 2) := by decide +kernel
theorem d42_14 : decode kk_42 14 = .ok (.iconst 1, 1) := by decide +kernel
theorem d42_15 : decode kk_42 15 = .ok (.isub, 1) := by decide +kernel
theorem d42_16 : decode kk_42 16 = .ok (.iload 5, 2) := by decide +kernel
theorem d42_18 : decode kk_42 18 = .ok (.isub, 1) := by decide +kernel
theorem d42_19 : decode kk_42 19 = .ok (.laload, 1) := by decide +kernel
theorem d42_20 : decode kk_42 20 = .ok (.ldiv, 1) := by decide +kernel
theorem d42_21 : decode kk_42 21 = .ok (.ldc2_w 40, 3) := by decide +kernel
theorem d42_24 : decode kk_42 24 = .ok (.lrem, 1) := by decide +kernel
theorem d42_25 : decode kk_42 25 = .ok (.lstore 7, 2) := by decide +kernel
theorem d42_27 : decode kk_42 27 = .ok (.aload_n 0, 1) := by decide +kernel
theorem d42_28 : decode kk_42 28 = .ok (.iload_n 1, 1) := by decide +kernel
theorem d42_29 : decode kk_42 29 = .ok (.iload 5, 2) := by decide +kernel
theorem d42_31 : decode kk_42 31 = .ok (.iadd, 1) := by decide +kernel
theorem d42_32 : decode kk_42 32 = .ok (.invokevirtual 32, 3) := by decide +kernel
theorem d42_35 : decode kk_42 35 = .ok (.bipush 48, 2) := by decide +kernel
theorem d42_37 : decode kk_42 37 = .ok (.lload 7, 2) := by decide +kernel
theorem d42_39 : decode kk_42 39 = .ok (.l2i, 1) := by decide +kernel
theorem d42_40 : decode kk_42 40 = .ok (.iadd, 1) := by decide +kernel
theorem d42_41 : decode kk_42 41 = .ok (.i2c, 1) := by decide +kernel
theorem d42_42 : decode kk_42 42 = .ok (.if_icmp .ne 7, 3) := by decide +kernel
theorem d42_45 : decode kk_42 45 = .ok (.iconst 1, 1) := by decide +kernel
theorem d42_46 : decode kk_42 46 = .ok (.goto 4, 3) := by decide +kernel
theorem d42_50 : decode kk_42 50 = .ok (.ireturn, 1) := by decide +kernel
theorem d42_7 : decode kk_42 7 = .ok (.iconst 1, 1) := by decide +kernel
theorem d42_8 : decode kk_42 8 = .ok (.ireturn, 1) := by decide +kernel
abbrev kk_6 : ByteArray := jdk_52_method_21_code
theorem d6_3 : decode kk_6 3 = .ok (.iload 5, 2) := by decide +kernel
theorem d6_5 : decode kk_6 5 = .ok (.iload 4, 2) := by decide +kernel
theorem d6_7 : decode kk_6 7 = .ok (.if_icmp .ge 37, 3) := by decide +kernel
theorem d6_10 : decode kk_6 10 = .ok (.aload_n 0, 1) := by decide +kernel
theorem d6_11 : decode kk_6 11 = .ok (.iload_n 1, 1) := by decide +kernel
theorem d6_12 : decode kk_6 12 = .ok (.caload, 1) := by decide +kernel
theorem d6_13 : decode kk_6 13 = .ok (.istore 6, 2) := by decide +kernel
theorem d6_15 : decode kk_6 15 = .ok (.iload 6, 2) := by decide +kernel
theorem d6_17 : decode kk_6 17 = .ok (.sipush 255, 3) := by decide +kernel
theorem d6_20 : decode kk_6 20 = .ok (.if_icmp .le 6, 3) := by decide +kernel
theorem d6_26 : decode kk_6 26 = .ok (.aload_n 2, 1) := by decide +kernel
theorem d6_27 : decode kk_6 27 = .ok (.iload_n 3, 1) := by decide +kernel
theorem d6_28 : decode kk_6 28 = .ok (.iload 6, 2) := by decide +kernel
theorem d6_30 : decode kk_6 30 = .ok (.i2b, 1) := by decide +kernel
theorem d6_31 : decode kk_6 31 = .ok (.bastore, 1) := by decide +kernel
theorem d6_32 : decode kk_6 32 = .ok (.iinc 1 1, 3) := by decide +kernel
theorem d6_35 : decode kk_6 35 = .ok (.iinc 3 1, 3) := by decide +kernel
theorem d6_38 : decode kk_6 38 = .ok (.iinc 5 1, 3) := by decide +kernel
theorem d6_41 : decode kk_6 41 = .ok (.goto (-38), 3) := by decide +kernel
theorem d6_0 : decode kk_6 0 = .ok (.iconst 0, 1) := by decide +kernel
theorem d6_1 : decode kk_6 1 = .ok (.istore 5, 2) := by decide +kernel
theorem d6_44 : decode kk_6 44 = .ok (.iload 4, 2) := by decide +kernel
theorem d6_46 : decode kk_6 46 = .ok (.ireturn, 1) := by decide +kernel
abbrev kk_2 : ByteArray := jdk_42_method_3_code
theorem d2_0 : decode kk_2 0 = .ok (.aload_n 0, 1) := by decide +kernel
theorem d2_1 : decode kk_2 1 = .ok (.aload_n 1, 1) := by decide +kernel
theorem d2_2 : decode kk_2 2 = .ok (.iconst 0, 1) := by decide +kernel
theorem d2_3 : decode kk_2 3 = .ok (.aload_n 1, 1) := by decide +kernel
theorem d2_4 : decode kk_2 4 = .ok (.arraylength, 1) := by decide +kernel
theorem d2_5 : decode kk_2 5 = .ok (.aconst_null, 1) := by decide +kernel
theorem d2_6 : decode kk_2 6 = .ok (.invokespecial 27, 3) := by decide +kernel
abbrev kk_3 : ByteArray := jdk_42_method_149_code
theorem d3_0 : decode kk_3 0 = .ok (.aload_n 0, 1) := by decide +kernel
theorem d3_1 : decode kk_3 1 = .ok (.invokespecial 1, 3) := by decide +kernel
theorem d3_4 : decode kk_3 4 = .ok (.iload_n 3, 1) := by decide +kernel
theorem d3_5 : decode kk_3 5 = .ok (.ifCond .ne 22, 3) := by decide +kernel
theorem d3_27 : decode kk_3 27 = .ok (.getstatic 38, 3) := by decide +kernel
theorem d3_30 : decode kk_3 30 = .ok (.ifCond .eq 28, 3) := by decide +kernel
theorem d3_33 : decode kk_3 33 = .ok (.aload_n 1, 1) := by decide +kernel
theorem d3_34 : decode kk_3 34 = .ok (.iload_n 2, 1) := by decide +kernel
theorem d3_35 : decode kk_3 35 = .ok (.iload_n 3, 1) := by decide +kernel
theorem d3_36 : decode kk_3 36 = .ok (.invokestatic 177, 3) := by decide +kernel
abbrev kk_5 : ByteArray := jdk_52_method_16_code
theorem d5_0 : decode kk_5 0 = .ok (.iload_n 2, 1) := by decide +kernel
theorem d5_1 : decode kk_5 1 = .ok (.newarray .byte, 2) := by decide +kernel
theorem d5_3 : decode kk_5 3 = .ok (.astore_n 3, 1) := by decide +kernel
theorem d5_4 : decode kk_5 4 = .ok (.aload_n 0, 1) := by decide +kernel
theorem d5_5 : decode kk_5 5 = .ok (.iload_n 1, 1) := by decide +kernel
theorem d5_6 : decode kk_5 6 = .ok (.aload_n 3, 1) := by decide +kernel
theorem d5_7 : decode kk_5 7 = .ok (.iconst 0, 1) := by decide +kernel
theorem d5_8 : decode kk_5 8 = .ok (.iload_n 2, 1) := by decide +kernel
theorem d5_9 : decode kk_5 9 = .ok (.invokestatic 115, 3) := by decide +kernel
theorem d5_12 : decode kk_5 12 = .ok (.istore 4, 2) := by decide +kernel
theorem d5_14 : decode kk_5 14 = .ok (.iload 4, 2) := by decide +kernel
theorem d5_16 : decode kk_5 16 = .ok (.iload_n 2, 1) := by decide +kernel
theorem d5_17 : decode kk_5 17 = .ok (.if_icmp .eq 40, 3) := by decide +kernel
theorem d5_57 : decode kk_5 57 = .ok (.aload_n 3, 1) := by decide +kernel
theorem d5_58 : decode kk_5 58 = .ok (.areturn, 1) := by decide +kernel
theorem d3_39 : decode kk_3 39 = .ok (.astore 5, 2) := by decide +kernel
theorem d3_41 : decode kk_3 41 = .ok (.aload_n 0, 1) := by decide +kernel
theorem d3_42 : decode kk_3 42 = .ok (.aload 5, 2) := by decide +kernel
theorem d3_44 : decode kk_3 44 = .ok (.iload_n 3, 1) := by decide +kernel
theorem d3_45 : decode kk_3 45 = .ok (.invokestatic 47, 3) := by decide +kernel
abbrev kk_7 : ByteArray := jdk_52_method_15_code
theorem d7_0 : decode kk_7 0 = .ok (.iload_n 1, 1) := by decide +kernel
theorem d7_1 : decode kk_7 1 = .ok (.aload_n 0, 1) := by decide +kernel
theorem d7_2 : decode kk_7 2 = .ok (.arraylength, 1) := by decide +kernel
theorem d7_3 : decode kk_7 3 = .ok (.isub, 1) := by decide +kernel
theorem d7_4 : decode kk_7 4 = .ok (.bipush 31, 2) := by decide +kernel
theorem d7_6 : decode kk_7 6 = .ok (.iushr, 1) := by decide +kernel
theorem d7_7 : decode kk_7 7 = .ok (.i2b, 1) := by decide +kernel
theorem d7_8 : decode kk_7 8 = .ok (.ireturn, 1) := by decide +kernel
theorem d3_48 : decode kk_3 48 = .ok (.putfield 15, 3) := by decide +kernel
theorem d3_51 : decode kk_3 51 = .ok (.aload_n 0, 1) := by decide +kernel
theorem d3_52 : decode kk_3 52 = .ok (.aload 5, 2) := by decide +kernel
theorem d3_54 : decode kk_3 54 = .ok (.putfield 9, 3) := by decide +kernel
theorem d3_57 : decode kk_3 57 = .ok (.return_, 1) := by decide +kernel
theorem d2_9 : decode kk_2 9 = .ok (.return_, 1) := by decide +kernel
theorem d3_8 : decode kk_3 8 = .ok (.aload_n 0, 1) := by decide +kernel
theorem d3_9 : decode kk_3 9 = .ok (.ldc 7, 2) := by decide +kernel
theorem d3_11 : decode kk_3 11 = .ok (.getfield 9, 3) := by decide +kernel
theorem d3_14 : decode kk_3 14 = .ok (.putfield 9, 3) := by decide +kernel
theorem d3_17 : decode kk_3 17 = .ok (.aload_n 0, 1) := by decide +kernel
theorem d3_18 : decode kk_3 18 = .ok (.ldc 7, 2) := by decide +kernel
theorem d3_20 : decode kk_3 20 = .ok (.getfield 15, 3) := by decide +kernel
theorem d3_23 : decode kk_3 23 = .ok (.putfield 15, 3) := by decide +kernel
theorem d3_26 : decode kk_3 26 = .ok (.return_, 1) := by decide +kernel
abbrev kk_1 : ByteArray := method_3_code
theorem d1_0 : decode kk_1 0 = .ok (.iload_n 1, 1) := by decide +kernel
theorem d1_1 : decode kk_1 1 = .ok (.sipush 255, 3) := by decide +kernel
theorem d1_4 : decode kk_1 4 = .ok (.iand, 1) := by decide +kernel
theorem d1_5 : decode kk_1 5 = .ok (.i2c, 1) := by decide +kernel
theorem d1_6 : decode kk_1 6 = .ok (.istore_n 2, 1) := by decide +kernel
theorem d1_7 : decode kk_1 7 = .ok (.iload_n 1, 1) := by decide +kernel
theorem d1_8 : decode kk_1 8 = .ok (.bipush 8, 2) := by decide +kernel
theorem d1_10 : decode kk_1 10 = .ok (.iushr, 1) := by decide +kernel
theorem d1_11 : decode kk_1 11 = .ok (.sipush 255, 3) := by decide +kernel
theorem d1_14 : decode kk_1 14 = .ok (.iand, 1) := by decide +kernel
theorem d1_15 : decode kk_1 15 = .ok (.i2c, 1) := by decide +kernel
theorem d1_16 : decode kk_1 16 = .ok (.istore_n 3, 1) := by decide +kernel
theorem d1_17 : decode kk_1 17 = .ok (.iload_n 1, 1) := by decide +kernel
theorem d1_18 : decode kk_1 18 = .ok (.bipush 16, 2) := by decide +kernel
theorem d1_20 : decode kk_1 20 = .ok (.iushr, 1) := by decide +kernel
theorem d1_21 : decode kk_1 21 = .ok (.sipush 255, 3) := by decide +kernel
theorem d1_24 : decode kk_1 24 = .ok (.iand, 1) := by decide +kernel
theorem d1_25 : decode kk_1 25 = .ok (.i2c, 1) := by decide +kernel
theorem d1_26 : decode kk_1 26 = .ok (.istore 4, 2) := by decide +kernel
theorem d1_28 : decode kk_1 28 = .ok (.iload_n 0, 1) := by decide +kernel
theorem d1_29 : decode kk_1 29 = .ok (.ifCond .ne 14, 3) := by decide +kernel
theorem d1_32 : decode kk_1 32 = .ok (.new 23, 3) := by decide +kernel
theorem d1_35 : decode kk_1 35 = .ok (.dup, 1) := by decide +kernel
theorem d1_36 : decode kk_1 36 = .ok (.iconst 0, 1) := by decide +kernel
theorem d1_37 : decode kk_1 37 = .ok (.newarray .char, 2) := by decide +kernel
theorem d1_39 : decode kk_1 39 = .ok (.invokespecial 62, 3) := by decide +kernel
theorem d1_42 : decode kk_1 42 = .ok (.areturn, 1) := by decide +kernel
theorem d1_43 : decode kk_1 43 = .ok (.iload_n 0, 1) := by decide +kernel
theorem d1_44 : decode kk_1 44 = .ok (.iconst 1, 1) := by decide +kernel
theorem d1_45 : decode kk_1 45 = .ok (.if_icmp .ne 18, 3) := by decide +kernel
theorem d1_48 : decode kk_1 48 = .ok (.new 23, 3) := by decide +kernel
theorem d1_51 : decode kk_1 51 = .ok (.dup, 1) := by decide +kernel
theorem d1_52 : decode kk_1 52 = .ok (.iconst 1, 1) := by decide +kernel
theorem d1_53 : decode kk_1 53 = .ok (.newarray .char, 2) := by decide +kernel
theorem d1_55 : decode kk_1 55 = .ok (.dup, 1) := by decide +kernel
theorem d1_56 : decode kk_1 56 = .ok (.iconst 0, 1) := by decide +kernel
theorem d1_57 : decode kk_1 57 = .ok (.iload_n 2, 1) := by decide +kernel
theorem d1_58 : decode kk_1 58 = .ok (.castore, 1) := by decide +kernel
theorem d1_59 : decode kk_1 59 = .ok (.invokespecial 62, 3) := by decide +kernel
theorem d1_62 : decode kk_1 62 = .ok (.areturn, 1) := by decide +kernel
theorem d1_63 : decode kk_1 63 = .ok (.iload_n 0, 1) := by decide +kernel
theorem d1_64 : decode kk_1 64 = .ok (.iconst 2, 1) := by decide +kernel
theorem d1_65 : decode kk_1 65 = .ok (.if_icmp .ne 22, 3) := by decide +kernel
theorem d1_68 : decode kk_1 68 = .ok (.new 23, 3) := by decide +kernel
theorem d1_71 : decode kk_1 71 = .ok (.dup, 1) := by decide +kernel
theorem d1_72 : decode kk_1 72 = .ok (.iconst 2, 1) := by decide +kernel
theorem d1_73 : decode kk_1 73 = .ok (.newarray .char, 2) := by decide +kernel
theorem d1_75 : decode kk_1 75 = .ok (.dup, 1) := by decide +kernel
theorem d1_76 : decode kk_1 76 = .ok (.iconst 0, 1) := by decide +kernel
theorem d1_77 : decode kk_1 77 = .ok (.iload_n 2, 1) := by decide +kernel
theorem d1_78 : decode kk_1 78 = .ok (.castore, 1) := by decide +kernel
theorem d1_79 : decode kk_1 79 = .ok (.dup, 1) := by decide +kernel
theorem d1_80 : decode kk_1 80 = .ok (.iconst 1, 1) := by decide +kernel
theorem d1_81 : decode kk_1 81 = .ok (.iload_n 3, 1) := by decide +kernel
theorem d1_82 : decode kk_1 82 = .ok (.castore, 1) := by decide +kernel
theorem d1_83 : decode kk_1 83 = .ok (.invokespecial 62, 3) := by decide +kernel
theorem d1_86 : decode kk_1 86 = .ok (.areturn, 1) := by decide +kernel
theorem d1_87 : decode kk_1 87 = .ok (.new 23, 3) := by decide +kernel
theorem d1_90 : decode kk_1 90 = .ok (.dup, 1) := by decide +kernel
theorem d1_91 : decode kk_1 91 = .ok (.iconst 3, 1) := by decide +kernel
theorem d1_92 : decode kk_1 92 = .ok (.newarray .char, 2) := by decide +kernel
theorem d1_94 : decode kk_1 94 = .ok (.dup, 1) := by decide +kernel
theorem d1_95 : decode kk_1 95 = .ok (.iconst 0, 1) := by decide +kernel
theorem d1_96 : decode kk_1 96 = .ok (.iload_n 2, 1) := by decide +kernel
theorem d1_97 : decode kk_1 97 = .ok (.castore, 1) := by decide +kernel
theorem d1_98 : decode kk_1 98 = .ok (.dup, 1) := by decide +kernel
theorem d1_99 : decode kk_1 99 = .ok (.iconst 1, 1) := by decide +kernel
theorem d1_100 : decode kk_1 100 = .ok (.iload_n 3, 1) := by decide +kernel
theorem d1_101 : decode kk_1 101 = .ok (.castore, 1) := by decide +kernel
theorem d1_102 : decode kk_1 102 = .ok (.dup, 1) := by decide +kernel
theorem d1_103 : decode kk_1 103 = .ok (.iconst 2, 1) := by decide +kernel
theorem d1_104 : decode kk_1 104 = .ok (.iload 4, 2) := by decide +kernel
theorem d1_106 : decode kk_1 106 = .ok (.castore, 1) := by decide +kernel
theorem d1_107 : decode kk_1 107 = .ok (.invokespecial 62, 3) := by decide +kernel
theorem d1_110 : decode kk_1 110 = .ok (.areturn, 1) := by decide +kernel
abbrev kk_9 : ByteArray := prog_8_method_2_code
theorem d9_0 : decode kk_9 0 = .ok (.aload_n 0, 1) := by decide +kernel
theorem d9_1 : decode kk_9 1 = .ok (.getfield 13, 3) := by decide +kernel
theorem d9_4 : decode kk_9 4 = .ok (.ifCond .ne 35, 3) := by decide +kernel
theorem d9_7 : decode kk_9 7 = .ok (.new 20, 3) := by decide +kernel
theorem d9_10 : decode kk_9 10 = .ok (.dup, 1) := by decide +kernel
theorem d9_11 : decode kk_9 11 = .ok (.invokespecial 22, 3) := by decide +kernel
abbrev kk_10 : ByteArray := jdk_67_method_1_code
theorem d10_0 : decode kk_10 0 = .ok (.aload_n 0, 1) := by decide +kernel
theorem d10_1 : decode kk_10 1 = .ok (.bipush 16, 2) := by decide +kernel
theorem d10_3 : decode kk_10 3 = .ok (.invokespecial 1, 3) := by decide +kernel
abbrev kk_11 : ByteArray := jdk_68_method_2_code
theorem d11_0 : decode kk_11 0 = .ok (.aload_n 0, 1) := by decide +kernel
theorem d11_1 : decode kk_11 1 = .ok (.invokespecial 3, 3) := by decide +kernel
theorem d11_4 : decode kk_11 4 = .ok (.getstatic 18, 3) := by decide +kernel
theorem d11_7 : decode kk_11 7 = .ok (.ifCond .eq 18, 3) := by decide +kernel
theorem d11_10 : decode kk_11 10 = .ok (.aload_n 0, 1) := by decide +kernel
theorem d11_11 : decode kk_11 11 = .ok (.iload_n 1, 1) := by decide +kernel
theorem d11_12 : decode kk_11 12 = .ok (.newarray .byte, 2) := by decide +kernel
theorem d11_14 : decode kk_11 14 = .ok (.putfield 15, 3) := by decide +kernel
theorem d11_17 : decode kk_11 17 = .ok (.aload_n 0, 1) := by decide +kernel
theorem d11_18 : decode kk_11 18 = .ok (.iconst 0, 1) := by decide +kernel
theorem d11_19 : decode kk_11 19 = .ok (.putfield 22, 3) := by decide +kernel
theorem d11_22 : decode kk_11 22 = .ok (.goto 16, 3) := by decide +kernel
theorem d11_38 : decode kk_11 38 = .ok (.return_, 1) := by decide +kernel
theorem d10_6 : decode kk_10 6 = .ok (.return_, 1) := by decide +kernel
theorem d9_14 : decode kk_9 14 = .ok (.aload_n 0, 1) := by decide +kernel
theorem d9_15 : decode kk_9 15 = .ok (.getfield 7, 3) := by decide +kernel
theorem d9_18 : decode kk_9 18 = .ok (.invokevirtual 23, 3) := by decide +kernel
theorem d9_21 : decode kk_9 21 = .ok (.ldc 27, 2) := by decide +kernel
theorem d9_23 : decode kk_9 23 = .ok (.invokevirtual 23, 3) := by decide +kernel
theorem d9_26 : decode kk_9 26 = .ok (.aload_n 0, 1) := by decide +kernel
theorem d9_27 : decode kk_9 27 = .ok (.getfield 17, 3) := by decide +kernel
theorem d9_30 : decode kk_9 30 = .ok (.invokevirtual 23, 3) := by decide +kernel
theorem d9_33 : decode kk_9 33 = .ok (.invokevirtual 29, 3) := by decide +kernel
theorem d9_36 : decode kk_9 36 = .ok (.goto 44, 3) := by decide +kernel
theorem d9_80 : decode kk_9 80 = .ok (.areturn, 1) := by decide +kernel
theorem d9_39 : decode kk_9 39 = .ok (.new 20, 3) := by decide +kernel
theorem d9_42 : decode kk_9 42 = .ok (.dup, 1) := by decide +kernel
theorem d9_43 : decode kk_9 43 = .ok (.invokespecial 22, 3) := by decide +kernel
theorem d9_46 : decode kk_9 46 = .ok (.aload_n 0, 1) := by decide +kernel
theorem d9_47 : decode kk_9 47 = .ok (.getfield 7, 3) := by decide +kernel
theorem d9_50 : decode kk_9 50 = .ok (.invokevirtual 23, 3) := by decide +kernel
theorem d9_53 : decode kk_9 53 = .ok (.ldc 33, 2) := by decide +kernel
theorem d9_55 : decode kk_9 55 = .ok (.invokevirtual 23, 3) := by decide +kernel
theorem d9_58 : decode kk_9 58 = .ok (.aload_n 0, 1) := by decide +kernel
theorem d9_59 : decode kk_9 59 = .ok (.getfield 13, 3) := by decide +kernel
theorem d9_62 : decode kk_9 62 = .ok (.invokevirtual 35, 3) := by decide +kernel
theorem d9_65 : decode kk_9 65 = .ok (.ldc 27, 2) := by decide +kernel
theorem d9_67 : decode kk_9 67 = .ok (.invokevirtual 23, 3) := by decide +kernel
theorem d9_70 : decode kk_9 70 = .ok (.aload_n 0, 1) := by decide +kernel
theorem d9_71 : decode kk_9 71 = .ok (.getfield 17, 3) := by decide +kernel
theorem d9_74 : decode kk_9 74 = .ok (.invokevirtual 23, 3) := by decide +kernel
theorem d9_77 : decode kk_9 77 = .ok (.invokevirtual 29, 3) := by decide +kernel
abbrev kk_8 : ByteArray := prog_8_method_1_code
theorem d8_0 : decode kk_8 0 = .ok (.aload_n 0, 1) := by decide +kernel
theorem d8_1 : decode kk_8 1 = .ok (.invokespecial 1, 3) := by decide +kernel
theorem d8_4 : decode kk_8 4 = .ok (.aload_n 0, 1) := by decide +kernel
theorem d8_5 : decode kk_8 5 = .ok (.aload_n 1, 1) := by decide +kernel
theorem d8_6 : decode kk_8 6 = .ok (.putfield 7, 3) := by decide +kernel
theorem d8_9 : decode kk_8 9 = .ok (.aload_n 0, 1) := by decide +kernel
theorem d8_10 : decode kk_8 10 = .ok (.iload_n 2, 1) := by decide +kernel
theorem d8_11 : decode kk_8 11 = .ok (.putfield 13, 3) := by decide +kernel
theorem d8_14 : decode kk_8 14 = .ok (.aload_n 0, 1) := by decide +kernel
theorem d8_15 : decode kk_8 15 = .ok (.aload_n 3, 1) := by decide +kernel
theorem d8_16 : decode kk_8 16 = .ok (.putfield 17, 3) := by decide +kernel
theorem d8_19 : decode kk_8 19 = .ok (.return_, 1) := by decide +kernel
theorem ef_jdk_33_method_13_I (m : MethodId) (x0 : Int32) : entryFrame m #[(.int x0)] 4 = mkF m 0 #[.val (.int x0), .unset, .unset, .unset] [] := by first | (simp [entryFrame, mkF, argsToLocals, Value.category]; done) | rfl
theorem ef_jdk_33_method_12_IIR (m : MethodId) (x0 : Int32) (x1 : Int32) (x2 : Addr) : entryFrame m #[(.int x0), (.int x1), (.ref x2)] 7 = mkF m 0 #[.val (.int x0), .val (.int x1), .val (.ref x2), .unset, .unset, .unset, .unset] [] := by first | (simp [entryFrame, mkF, argsToLocals, Value.category]; done) | rfl
theorem ef_jdk_68_method_9_RI (m : MethodId) (x0 : Addr) (x1 : Int32) : entryFrame m #[(.ref x0), (.int x1)] 3 = mkF m 0 #[.val (.ref x0), .val (.int x1), .unset] [] := by first | (simp [entryFrame, mkF, argsToLocals, Value.category]; done) | rfl
theorem ef_jdk_29_method_65_II (m : MethodId) (x0 : Int32) (x1 : Int32) : entryFrame m #[(.int x0), (.int x1)] 2 = mkF m 0 #[.val (.int x0), .val (.int x1)] [] := by first | (simp [entryFrame, mkF, argsToLocals, Value.category]; done) | rfl
theorem ef_jdk_48_method_27_III (m : MethodId) (x0 : Int32) (x1 : Int32) (x2 : Int32) : entryFrame m #[(.int x0), (.int x1), (.int x2)] 4 = mkF m 0 #[.val (.int x0), .val (.int x1), .val (.int x2), .unset] [] := by first | (simp [entryFrame, mkF, argsToLocals, Value.category]; done) | rfl
theorem ef_jdk_68_method_10_RI (m : MethodId) (x0 : Addr) (x1 : Int32) : entryFrame m #[(.ref x0), (.int x1)] 6 = mkF m 0 #[.val (.ref x0), .val (.int x1), .unset, .unset, .unset, .unset] [] := by first | (simp [entryFrame, mkF, argsToLocals, Value.category]; done) | rfl
theorem ef_jdk_29_method_69_II (m : MethodId) (x0 : Int32) (x1 : Int32) : entryFrame m #[(.int x0), (.int x1)] 2 = mkF m 0 #[.val (.int x0), .val (.int x1)] [] := by first | (simp [entryFrame, mkF, argsToLocals, Value.category]; done) | rfl
theorem ef_jdk_65_method_121_RI (m : MethodId) (x0 : Addr) (x1 : Int32) : entryFrame m #[(.ref x0), (.int x1)] 3 = mkF m 0 #[.val (.ref x0), .val (.int x1), .unset] [] := by first | (simp [entryFrame, mkF, argsToLocals, Value.category]; done) | rfl
theorem ef_jdk_68_method_68_R (m : MethodId) (x0 : Addr) : entryFrame m #[(.ref x0)] 1 = mkF m 0 #[.val (.ref x0)] [] := by first | (simp [entryFrame, mkF, argsToLocals, Value.category]; done) | rfl
theorem ef_jdk_68_method_32_RI (m : MethodId) (x0 : Addr) (x1 : Int32) : entryFrame m #[(.ref x0), (.int x1)] 4 = mkF m 0 #[.val (.ref x0), .val (.int x1), .unset, .unset] [] := by first | (simp [entryFrame, mkF, argsToLocals, Value.category]; done) | rfl
theorem ef_jdk_67_method_15_RI (m : MethodId) (x0 : Addr) (x1 : Int32) : entryFrame m #[(.ref x0), (.int x1)] 2 = mkF m 0 #[.val (.ref x0), .val (.int x1)] [] := by first | (simp [entryFrame, mkF, argsToLocals, Value.category]; done) | rfl
theorem ef_jdk_42_method_152_R (m : MethodId) (x0 : Addr) : entryFrame m #[(.ref x0)] 1 = mkF m 0 #[.val (.ref x0)] [] := by first | (simp [entryFrame, mkF, argsToLocals, Value.category]; done) | rfl
theorem ef_jdk_42_method_54_R (m : MethodId) (x0 : Addr) : entryFrame m #[(.ref x0)] 1 = mkF m 0 #[.val (.ref x0)] [] := by first | (simp [entryFrame, mkF, argsToLocals, Value.category]; done) | rfl
theorem ef_jdk_68_method_71_RR (m : MethodId) (x0 : Addr) (x1 : Addr) : entryFrame m #[(.ref x0), (.ref x1)] 2 = mkF m 0 #[.val (.ref x0), .val (.ref x1)] [] := by first | (simp [entryFrame, mkF, argsToLocals, Value.category]; done) | rfl
theorem ef_jdk_42_method_147_RRII (m : MethodId) (x0 : Addr) (x1 : Addr) (x2 : Int32) (x3 : Int32) : entryFrame m #[(.ref x0), (.ref x1), (.int x2), (.int x3)] 4 = mkF m 0 #[.val (.ref x0), .val (.ref x1), .val (.int x2), .val (.int x3)] [] := by first | (simp [entryFrame, mkF, argsToLocals, Value.category]; done) | rfl
theorem ef_jdk_68_method_73_RIR (m : MethodId) (x0 : Addr) (x1 : Int32) (x2 : Addr) : entryFrame m #[(.ref x0), (.int x1), (.ref x2)] 3 = mkF m 0 #[.val (.ref x0), .val (.int x1), .val (.ref x2)] [] := by first | (simp [entryFrame, mkF, argsToLocals, Value.category]; done) | rfl
theorem ef_jdk_68_method_22_RR (m : MethodId) (x0 : Addr) (x1 : Addr) : entryFrame m #[(.ref x0), (.ref x1)] 3 = mkF m 0 #[.val (.ref x0), .val (.ref x1), .unset] [] := by first | (simp [entryFrame, mkF, argsToLocals, Value.category]; done) | rfl
theorem ef_jdk_67_method_7_RR (m : MethodId) (x0 : Addr) (x1 : Addr) : entryFrame m #[(.ref x0), (.ref x1)] 2 = mkF m 0 #[.val (.ref x0), .val (.ref x1)] [] := by first | (simp [entryFrame, mkF, argsToLocals, Value.category]; done) | rfl
theorem ef_jdk_68_method_64_R (m : MethodId) (x0 : Addr) : entryFrame m #[(.ref x0)] 1 = mkF m 0 #[.val (.ref x0)] [] := by first | (simp [entryFrame, mkF, argsToLocals, Value.category]; done) | rfl
theorem ef_jdk_68_method_6_R (m : MethodId) (x0 : Addr) : entryFrame m #[(.ref x0)] 1 = mkF m 0 #[.val (.ref x0)] [] := by first | (simp [entryFrame, mkF, argsToLocals, Value.category]; done) | rfl
theorem ef_jdk_67_method_93_R (m : MethodId) (x0 : Addr) : entryFrame m #[(.ref x0)] 1 = mkF m 0 #[.val (.ref x0)] [] := by first | (simp [entryFrame, mkF, argsToLocals, Value.category]; done) | rfl
theorem ef_jdk_65_method_131_II (m : MethodId) (x0 : Int32) (x1 : Int32) : entryFrame m #[(.int x0), (.int x1)] 2 = mkF m 0 #[.val (.int x0), .val (.int x1)] [] := by first | (simp [entryFrame, mkF, argsToLocals, Value.category]; done) | rfl
theorem ef_jdk_65_method_133_RII (m : MethodId) (x0 : Addr) (x1 : Int32) (x2 : Int32) : entryFrame m #[(.ref x0), (.int x1), (.int x2)] 5 = mkF m 0 #[.val (.ref x0), .val (.int x1), .val (.int x2), .unset, .unset] [] := by first | (simp [entryFrame, mkF, argsToLocals, Value.category]; done) | rfl
theorem ef_jdk_65_method_132_RII (m : MethodId) (x0 : Addr) (x1 : Int32) (x2 : Int32) : entryFrame m #[(.ref x0), (.int x1), (.int x2)] 3 = mkF m 0 #[.val (.ref x0), .val (.int x1), .val (.int x2)] [] := by first | (simp [entryFrame, mkF, argsToLocals, Value.category]; done) | rfl
theorem ef_jdk_42_method_150_RRn (m : MethodId) (x0 : Addr) (x1 : Addr) : entryFrame m #[(.ref x0), (.ref x1), .null] 5 = mkF m 0 #[.val (.ref x0), .val (.ref x1), .val .null, .unset, .unset] [] := by first | (simp [entryFrame, mkF, argsToLocals, Value.category]; done) | rfl
theorem ef_jdk_42_method_53_RR (m : MethodId) (x0 : Addr) (x1 : Addr) : entryFrame m #[(.ref x0), (.ref x1)] 2 = mkF m 0 #[.val (.ref x0), .val (.ref x1)] [] := by first | (simp [entryFrame, mkF, argsToLocals, Value.category]; done) | rfl
theorem ef_jdk_67_method_42_R (m : MethodId) (x0 : Addr) : entryFrame m #[(.ref x0)] 1 = mkF m 0 #[.val (.ref x0)] [] := by first | (simp [entryFrame, mkF, argsToLocals, Value.category]; done) | rfl
theorem ef_jdk_42_method_154_R (m : MethodId) (x0 : Addr) : entryFrame m #[(.ref x0)] 1 = mkF m 0 #[.val (.ref x0)] [] := by first | (simp [entryFrame, mkF, argsToLocals, Value.category]; done) | rfl
theorem ef_jdk_41_method_11_IIX (m : MethodId) (x0 : Int32) (x1 : Int32) (x2 : Value) (y2 : x2.isRef = true) : entryFrame m #[(.int x0), (.int x1), x2] 3 = mkF m 0 #[.val (.int x0), .val (.int x1), .val x2] [] := by rcases ref_cases y2 with rfl | ⟨y2', rfl⟩ <;> first | (simp [entryFrame, mkF, argsToLocals, Value.category]; done) | rfl
theorem ef_jdk_42_method_155_II (m : MethodId) (x0 : Int32) (x1 : Int32) : entryFrame m #[(.int x0), (.int x1)] 2 = mkF m 0 #[.val (.int x0), .val (.int x1)] [] := by first | (simp [entryFrame, mkF, argsToLocals, Value.category]; done) | rfl
theorem ef_jdk_43_method_2_RI (m : MethodId) (x0 : Addr) (x1 : Int32) : entryFrame m #[(.ref x0), (.int x1)] 2 = mkF m 0 #[.val (.ref x0), .val (.int x1)] [] := by first | (simp [entryFrame, mkF, argsToLocals, Value.category]; done) | rfl
theorem ef_jdk_42_method_56_RI (m : MethodId) (x0 : Addr) (x1 : Int32) : entryFrame m #[(.ref x0), (.int x1)] 2 = mkF m 0 #[.val (.ref x0), .val (.int x1)] [] := by first | (simp [entryFrame, mkF, argsToLocals, Value.category]; done) | rfl
theorem ef_method_4_RIR (m : MethodId) (x0 : Addr) (x1 : Int32) (x2 : Addr) : entryFrame m #[(.ref x0), (.int x1), (.ref x2)] 4 = mkF m 0 #[.val (.ref x0), .val (.int x1), .val (.ref x2), .unset] [] := by first | (simp [entryFrame, mkF, argsToLocals, Value.category]; done) | rfl
theorem ef_method_5_J (m : MethodId) (x0 : Int64) : entryFrame m #[(.long x0)] 2 = mkF m 0 #[.val (.long x0), .second] [] := by first | (simp [entryFrame, mkF, argsToLocals, Value.category]; done) | rfl
theorem ef_method_6_RIJIIR (m : MethodId) (x0 : Addr) (x1 : Int32) (x2 : Int64) (x3 : Int32) (x4 : Int32) (x5 : Addr) : entryFrame m #[(.ref x0), (.int x1), (.long x2), (.int x3), (.int x4), (.ref x5)] 9 = mkF m 0 #[.val (.ref x0), .val (.int x1), .val (.long x2), .second, .val (.int x3), .val (.int x4), .val (.ref x5), .unset, .unset] [] := by first | (simp [entryFrame, mkF, argsToLocals, Value.category]; done) | rfl
theorem ef_jdk_52_method_21_RIRII (m : MethodId) (x0 : Addr) (x1 : Int32) (x2 : Addr) (x3 : Int32) (x4 : Int32) : entryFrame m #[(.ref x0), (.int x1), (.ref x2), (.int x3), (.int x4)] 7 = mkF m 0 #[.val (.ref x0), .val (.int x1), .val (.ref x2), .val (.int x3), .val (.int x4), .unset, .unset] [] := by first | (simp [entryFrame, mkF, argsToLocals, Value.category]; done) | rfl
theorem ef_jdk_52_method_16_RII (m : MethodId) (x0 : Addr) (x1 : Int32) (x2 : Int32) : entryFrame m #[(.ref x0), (.int x1), (.int x2)] 6 = mkF m 0 #[.val (.ref x0), .val (.int x1), .val (.int x2), .unset, .unset, .unset] [] := by first | (simp [entryFrame, mkF, argsToLocals, Value.category]; done) | rfl
theorem ef_jdk_52_method_15_RI (m : MethodId) (x0 : Addr) (x1 : Int32) : entryFrame m #[(.ref x0), (.int x1)] 2 = mkF m 0 #[.val (.ref x0), .val (.int x1)] [] := by first | (simp [entryFrame, mkF, argsToLocals, Value.category]; done) | rfl
theorem ef_jdk_42_method_149_RRIIn (m : MethodId) (x0 : Addr) (x1 : Addr) (x2 : Int32) (x3 : Int32) : entryFrame m #[(.ref x0), (.ref x1), (.int x2), (.int x3), .null] 6 = mkF m 0 #[.val (.ref x0), .val (.ref x1), .val (.int x2), .val (.int x3), .val .null, .unset] [] := by first | (simp [entryFrame, mkF, argsToLocals, Value.category]; done) | rfl
theorem ef_jdk_42_method_3_RR (m : MethodId) (x0 : Addr) (x1 : Addr) : entryFrame m #[(.ref x0), (.ref x1)] 2 = mkF m 0 #[.val (.ref x0), .val (.ref x1)] [] := by first | (simp [entryFrame, mkF, argsToLocals, Value.category]; done) | rfl
theorem ef_method_3_II (m : MethodId) (x0 : Int32) (x1 : Int32) : entryFrame m #[(.int x0), (.int x1)] 5 = mkF m 0 #[.val (.int x0), .val (.int x1), .unset, .unset, .unset] [] := by first | (simp [entryFrame, mkF, argsToLocals, Value.category]; done) | rfl
theorem ef_jdk_68_method_2_RI (m : MethodId) (x0 : Addr) (x1 : Int32) : entryFrame m #[(.ref x0), (.int x1)] 2 = mkF m 0 #[.val (.ref x0), .val (.int x1)] [] := by first | (simp [entryFrame, mkF, argsToLocals, Value.category]; done) | rfl
theorem ef_jdk_67_method_1_R (m : MethodId) (x0 : Addr) : entryFrame m #[(.ref x0)] 1 = mkF m 0 #[.val (.ref x0)] [] := by first | (simp [entryFrame, mkF, argsToLocals, Value.category]; done) | rfl
theorem ef_prog_8_method_2_R (m : MethodId) (x0 : Addr) : entryFrame m #[(.ref x0)] 1 = mkF m 0 #[.val (.ref x0)] [] := by first | (simp [entryFrame, mkF, argsToLocals, Value.category]; done) | rfl
theorem ef_prog_8_method_1_RRIR (m : MethodId) (x0 : Addr) (x1 : Addr) (x2 : Int32) (x3 : Addr) : entryFrame m #[(.ref x0), (.ref x1), (.int x2), (.ref x3)] 4 = mkF m 0 #[.val (.ref x0), .val (.ref x1), .val (.int x2), .val (.ref x3)] [] := by first | (simp [entryFrame, mkF, argsToLocals, Value.category]; done) | rfl
theorem ef_code_IIII (m : MethodId) (x0 : Int32) (x1 : Int32) (x2 : Int32) (x3 : Int32) : entryFrame m #[(.int x0), (.int x1), (.int x2), (.int x3)] maxLocals = mkF m 0 #[.val (.int x0), .val (.int x1), .val (.int x2), .val (.int x3), .unset, .unset, .unset, .unset, .unset, .unset, .unset, .unset, .unset, .unset, .unset, .unset, .unset, .unset, .unset, .unset, .unset] [] := by first | (simp [entryFrame, mkF, argsToLocals, Value.category, maxLocals]; done) | rfl
theorem own_sgS {p : Program} {l : Launch} {e : Env} {s : State} {m : MethodId} {args : Array Value} {below : List Frame} {meth : Method} {c : Code} {T0 : State} {locs : List Loc} (Z : State) (a0 : Array Value) (hw : own_HW Z a0) (dd xx pp ii : Int32) (h0 : Heap) (Z0 : Ext Z.heap h0) (hc2 : ii < (10 : Int32)) (hc3 : ¬ (pp < xx)) (X0 : Stand p l e ({ frames := 0, cells := 0, slots := 0, locals := 0 } : Room) s m args below meth c T0 locs 0 0) (hx : p.tables.exec = Jvm.exec) (hZ : Z.Warmed39 s.vm) (hby : c.code = jdk_33_method_13_code) (hml : c.maxLocals = 4) (hown : s.vm.findClass "java/lang/Integer" = some m.cls) (e0 : T0.heap = h0) (N0 : Fr Z.heap.size locs) :
    ∃ (T' : State) (L' : List Loc), Stand p l e ({ frames := 0, cells := 0, slots := 0, locals := 0 } : Room) s m args below meth c T' L' 0 0 ∧ T'.heap = h0 ∧ Fr Z.heap.size L' ∧ ∀ target, Steps p.tables e below (T'.setTop (mkF m 16 #[iv xx, iv dd, iv ((10 : Int32) * pp), iv (ii + (1 : Int32))] [])) target → Steps p.tables e below (T0.setTop (mkF m 16 #[iv xx, iv dd, iv pp, iv ii] [])) target := by
  refine ⟨_, _, X0, e0, N0, fun target kt => ?_⟩
  show own_S p e below T0 (mkF m 16 #[iv xx, iv dd, iv pp, iv ii] []) _
  refine own_iN X0 hx hby d22_16 ?_
  refine XS.bipush X0.here hx rfl (hb hby d22_17) ?_
  refine own_cn X0 hx hby d22_19 (tlt hc2).2.1 ?_
  refine own_iN X0 hx hby d22_22 ?_
  refine own_iN X0 hx hby d22_23 ?_
  refine own_cy (pc := 24) X0 hx hby d22_24 (flt hc3).2.2.2 31 ?_
  refine XS.bipush X0.here hx rfl (hb hby d22_31) ?_
  refine own_iN X0 hx hby d22_33 ?_
  refine XS.imul X0.here hx rfl (hb hby d22_34) rfl ?_
  refine XS.istoreN X0.here hx rfl (hb hby d22_35) rfl (l' := #[iv xx, iv dd, iv ((10 : Int32) * pp), iv ii]) rfl ?_
  refine XS.iinc X0.here hx rfl (hb hby d22_36) rfl (l' := #[iv xx, iv dd, iv ((10 : Int32) * pp), iv (ii + (1 : Int32))]) rfl ?_
  refine own_go (pc := 39) X0 hx hby d22_39 16 ?_
  show own_S p e below T0 (mkF m 16 #[iv xx, iv dd, iv ((10 : Int32) * pp), iv (ii + (1 : Int32))] []) _
  exact kt
theorem own_lpS {p : Program} {l : Launch} {e : Env} {s : State} {m : MethodId} {args : Array Value} {below : List Frame} {meth : Method} {c : Code} (Z : State) (a0 : Array Value) (hw : own_HW Z a0) (qa dd : Int32) (kk ff : Nat) (hD : own_nk qa kk) (hf : ff ≤ kk - 1) (h0 : Heap) (Z0 : Ext Z.heap h0) (hx : p.tables.exec = Jvm.exec) (hZ : Z.Warmed39 s.vm) (hby : c.code = jdk_33_method_13_code) (hml : c.maxLocals = 4) (hown : s.vm.findClass "java/lang/Integer" = some m.cls) :
    ∀ (d i : Nat), i + d = ff → ∀ (T0 : State) (locs : List Loc), Stand p l e ({ frames := 0, cells := 0, slots := 0, locals := 0 } : Room) s m args below meth c T0 locs 0 0 → T0.heap = h0 → Fr Z.heap.size locs → ∃ (T' : State) (L' : List Loc), Stand p l e ({ frames := 0, cells := 0, slots := 0, locals := 0 } : Room) s m args below meth c T' L' 0 0 ∧ T'.heap = h0 ∧ Fr Z.heap.size L' ∧ ∀ target, Steps p.tables e below (T'.setTop (mkF m 16 #[iv (own_x qa 0), iv dd, iv (own_pt ff), iv (Int32.ofNat (ff + 1))] [])) target → Steps p.tables e below (T0.setTop (mkF m 16 #[iv (own_x qa 0), iv dd, iv (own_pt i), iv (Int32.ofNat (i + 1))] [])) target := by
  intro d
  induction d with
  | zero =>
    intro i hi T0 locs X0 e0 N0
    obtain rfl : i = ff := by omega
    exact ⟨T0, locs, X0, e0, N0, fun _ k => k⟩
  | succ d ih =>
    intro i hi T0 locs X0 e0 N0
    have hlt : i < ff := by omega
    have h10 := hD.2.2.1
    obtain ⟨T1, L1, X1, e1, N1, st1⟩ := own_sgS Z a0 hw dd (own_x qa 0) (own_pt i) (Int32.ofNat (i + 1)) h0 Z0 (own_ofNat_lt (b := 10) (by omega) (by omega)) (own_pt_n hD (by omega)) X0 hx hZ hby hml hown e0 N0
    rw [own_pt_s, own_succ] at st1
    obtain ⟨T2, L2, X2, e2, N2, st2⟩ := ih (i + 1) (by omega) T1 L1 X1 e1 N1
    exact ⟨T2, L2, X2, e2, N2, fun t k => st1 t (st2 t k)⟩
theorem rm1 (l : Launch) (Z : State) (a0 : Array Value) (hw : own_HW Z a0) (ws : List Jvm.Cond) (qa : Int32) (kk : Nat) (h0 : Heap) (Z0 : Ext Z.heap h0) (hc4 : ¬ (qa < (0 : Int32))) (hc5 : own_nk qa kk) (hc6 : kk < 10) :
    own_met l y_0 jdk_33_method_13_code 4 (some .int) ws ({ frames := 0, cells := 0, slots := 0, locals := 0 } : Room) Z #[(.int qa)] h0 (own_qp Z (some (.int ((Int32.ofNat (kk - 1 + 1)) + (0 : Int32)))) h0) := by
  refine own_start (plainFor_of_name pn_0) (fun m => ef_jdk_33_method_13_I m qa) ?_
  intro p e s m below meth c s₁ hx hby hml hown hnm X0 hZ e0 hret hlk
  have N0 := Fr.nil Z.heap.size
  obtain ⟨T2, L2, X2, e2, N2, st2⟩ := own_lpS Z a0 hw qa (0 : Int32) kk (kk - 1) hc5 (Nat.le_refl _) h0 Z0 hx hZ hby hml hown _ 0 (Nat.zero_add _) _ _ X0 e0 N0
  rw [own_pt0] at st2
  obtain ⟨_, hr, hrun, hended, hW, hsame⟩ := X2.leave (v := some (.int ((Int32.ofNat (kk - 1 + 1)) + (0 : Int32)))) (fun h => by rw [hret] at h; cases h) hlk
  refine ⟨_, _, ?_, hrun, hended, _, _, rfl, ?_, ⟨_, rfl⟩, hW, hsame.mono (by decide) (by decide)⟩
  · show own_S p e below s₁ (mkF m 0 #[iv qa, .unset, .unset, .unset] []) _
    refine own_k X0 hx hby d22_0 ?_
    refine XS.istoreN X0.here hx rfl (hb hby d22_1) rfl (l' := #[iv qa, iv (1 : Int32), .unset, .unset]) rfl ?_
    refine own_iN X0 hx hby d22_2 ?_
    refine own_in X0 hx hby d22_3 (flt hc4).1 ?_
    refine own_k X0 hx hby d22_6 ?_
    refine XS.istoreN X0.here hx rfl (hb hby d22_7) rfl (l' := #[iv qa, iv (0 : Int32), .unset, .unset]) rfl ?_
    refine own_iN X0 hx hby d22_8 ?_
    refine XS.ineg X0.here hx rfl (hb hby d22_9) rfl ?_
    show own_S p e below s₁ (mkF m 10 #[iv qa, iv (0 : Int32), .unset, .unset] [(.int (-qa))]) _
    rw [(own_x0 hc4)]
    refine XS.istoreN X0.here hx rfl (hb hby d22_10) rfl (l' := #[iv (own_x qa 0), iv (0 : Int32), .unset, .unset]) rfl ?_
    refine XS.bipush X0.here hx rfl (hb hby d22_11) ?_
    refine XS.istoreN X0.here hx rfl (hb hby d22_13) rfl (l' := #[iv (own_x qa 0), iv (0 : Int32), iv (-10 : Int32), .unset]) rfl ?_
    refine own_k X0 hx hby d22_14 ?_
    refine XS.istoreN X0.here hx rfl (hb hby d22_15) rfl (l' := #[iv (own_x qa 0), iv (0 : Int32), iv (-10 : Int32), iv (1 : Int32)]) rfl ?_
    refine st2 _ ?_
    show own_S p e below T2 (mkF m 16 #[iv (own_x qa 0), iv (0 : Int32), iv (own_pt (kk - 1)), iv (Int32.ofNat (kk - 1 + 1))] []) _
    refine own_iN X2 hx hby d22_16 ?_
    refine XS.bipush X2.here hx rfl (hb hby d22_17) ?_
    refine own_cn X2 hx hby d22_19 (tlt (own_ik_lt hc5 hc6)).2.1 ?_
    refine own_iN X2 hx hby d22_22 ?_
    refine own_iN X2 hx hby d22_23 ?_
    refine own_cn X2 hx hby d22_24 (tlt (own_ik_pt hc5 hc6)).2.2.2 ?_
    refine own_iN X2 hx hby d22_27 ?_
    refine own_iN X2 hx hby d22_28 ?_
    refine XS.iadd X2.here hx rfl (hb hby d22_29) rfl ?_
    exact retI X2 hx hret (hb hby d22_30) hr
  · show own_qp Z (some (.int ((Int32.ofNat (kk - 1 + 1)) + (0 : Int32)))) h0 _ T2.heap _
    rw [e2]
    exact ⟨rfl, N2, rfl⟩
theorem rm3 (l : Launch) (Z : State) (a0 : Array Value) (hw : own_HW Z a0) (ws : List Jvm.Cond) (qa : Int32) (kk : Nat) (h0 : Heap) (Z0 : Ext Z.heap h0) (hc4 : ¬ (qa < (0 : Int32))) (hc5 : own_nk qa kk) (hc7 : kk = 10) :
    own_met l y_0 jdk_33_method_13_code 4 (some .int) ws ({ frames := 0, cells := 0, slots := 0, locals := 0 } : Room) Z #[(.int qa)] h0 (own_qp Z (some (.int (10 : Int32))) h0) := by
  refine own_start (plainFor_of_name pn_0) (fun m => ef_jdk_33_method_13_I m qa) ?_
  intro p e s m below meth c s₁ hx hby hml hown hnm X0 hZ e0 hret hlk
  have N0 := Fr.nil Z.heap.size
  obtain ⟨T4, L4, X4, e4, N4, st4⟩ := own_lpS Z a0 hw qa (0 : Int32) kk (kk - 1) hc5 (Nat.le_refl _) h0 Z0 hx hZ hby hml hown _ 0 (Nat.zero_add _) _ _ X0 e0 N0
  rw [own_pt0] at st4
  obtain ⟨_, hr, hrun, hended, hW, hsame⟩ := X4.leave (v := some (.int (10 : Int32))) (fun h => by rw [hret] at h; cases h) hlk
  refine ⟨_, _, ?_, hrun, hended, _, _, rfl, ?_, ⟨_, rfl⟩, hW, hsame.mono (by decide) (by decide)⟩
  · show own_S p e below s₁ (mkF m 0 #[iv qa, .unset, .unset, .unset] []) _
    refine own_k X0 hx hby d22_0 ?_
    refine XS.istoreN X0.here hx rfl (hb hby d22_1) rfl (l' := #[iv qa, iv (1 : Int32), .unset, .unset]) rfl ?_
    refine own_iN X0 hx hby d22_2 ?_
    refine own_in X0 hx hby d22_3 (flt hc4).1 ?_
    refine own_k X0 hx hby d22_6 ?_
    refine XS.istoreN X0.here hx rfl (hb hby d22_7) rfl (l' := #[iv qa, iv (0 : Int32), .unset, .unset]) rfl ?_
    refine own_iN X0 hx hby d22_8 ?_
    refine XS.ineg X0.here hx rfl (hb hby d22_9) rfl ?_
    show own_S p e below s₁ (mkF m 10 #[iv qa, iv (0 : Int32), .unset, .unset] [(.int (-qa))]) _
    rw [(own_x0 hc4)]
    refine XS.istoreN X0.here hx rfl (hb hby d22_10) rfl (l' := #[iv (own_x qa 0), iv (0 : Int32), .unset, .unset]) rfl ?_
    refine XS.bipush X0.here hx rfl (hb hby d22_11) ?_
    refine XS.istoreN X0.here hx rfl (hb hby d22_13) rfl (l' := #[iv (own_x qa 0), iv (0 : Int32), iv (-10 : Int32), .unset]) rfl ?_
    refine own_k X0 hx hby d22_14 ?_
    refine XS.istoreN X0.here hx rfl (hb hby d22_15) rfl (l' := #[iv (own_x qa 0), iv (0 : Int32), iv (-10 : Int32), iv (1 : Int32)]) rfl ?_
    refine st4 _ ?_
    show own_S p e below T4 (mkF m 16 #[iv (own_x qa 0), iv (0 : Int32), iv (own_pt (kk - 1)), iv (Int32.ofNat (kk - 1 + 1))] []) _
    refine own_iN X4 hx hby d22_16 ?_
    refine XS.bipush X4.here hx rfl (hb hby d22_17) ?_
    refine own_cy (pc := 19) X4 hx hby d22_19 (flt (own_ik_ge hc7)).2.1 42 ?_
    refine XS.bipush X4.here hx rfl (hb hby d22_42) ?_
    refine own_iN X4 hx hby d22_44 ?_
    refine XS.iadd X4.here hx rfl (hb hby d22_45) rfl ?_
    show own_S p e below T4 (mkF m 46 #[iv (own_x qa 0), iv (0 : Int32), iv (own_pt (kk - 1)), iv (Int32.ofNat (kk - 1 + 1))] [(.int ((10 : Int32) + (0 : Int32)))]) _
    rw [(by decide : ((10 : Int32) + (0 : Int32)) = (10 : Int32))]
    exact retI X4 hx hret (hb hby d22_46) hr
  · show own_qp Z (some (.int (10 : Int32))) h0 _ T4.heap _
    rw [e4]
    exact ⟨rfl, N4, rfl⟩
theorem rm5 (l : Launch) (Z : State) (a0 : Array Value) (hw : own_HW Z a0) (ws : List Jvm.Cond) (qa : Int32) (kk : Nat) (h0 : Heap) (Z0 : Ext Z.heap h0) (hc8 : (own_x qa 0) < (0 : Int32)) (hc5 : own_nk qa kk) (hc6 : kk < 10) :
    own_met l y_0 jdk_33_method_13_code 4 (some .int) ws ({ frames := 0, cells := 0, slots := 0, locals := 0 } : Room) Z #[(.int (own_x qa 0))] h0 (own_qp Z (some (.int ((Int32.ofNat (kk - 1 + 1)) + (1 : Int32)))) h0) := by
  refine own_start (plainFor_of_name pn_0) (fun m => ef_jdk_33_method_13_I m (own_x qa 0)) ?_
  intro p e s m below meth c s₁ hx hby hml hown hnm X0 hZ e0 hret hlk
  have N0 := Fr.nil Z.heap.size
  obtain ⟨T6, L6, X6, e6, N6, st6⟩ := own_lpS Z a0 hw qa (1 : Int32) kk (kk - 1) hc5 (Nat.le_refl _) h0 Z0 hx hZ hby hml hown _ 0 (Nat.zero_add _) _ _ X0 e0 N0
  rw [own_pt0] at st6
  obtain ⟨_, hr, hrun, hended, hW, hsame⟩ := X6.leave (v := some (.int ((Int32.ofNat (kk - 1 + 1)) + (1 : Int32)))) (fun h => by rw [hret] at h; cases h) hlk
  refine ⟨_, _, ?_, hrun, hended, _, _, rfl, ?_, ⟨_, rfl⟩, hW, hsame.mono (by decide) (by decide)⟩
  · show own_S p e below s₁ (mkF m 0 #[iv (own_x qa 0), .unset, .unset, .unset] []) _
    refine own_k X0 hx hby d22_0 ?_
    refine XS.istoreN X0.here hx rfl (hb hby d22_1) rfl (l' := #[iv (own_x qa 0), iv (1 : Int32), .unset, .unset]) rfl ?_
    refine own_iN X0 hx hby d22_2 ?_
    refine own_iy (pc := 3) X0 hx hby d22_3 (tlt hc8).1 11 ?_
    refine XS.bipush X0.here hx rfl (hb hby d22_11) ?_
    refine XS.istoreN X0.here hx rfl (hb hby d22_13) rfl (l' := #[iv (own_x qa 0), iv (1 : Int32), iv (-10 : Int32), .unset]) rfl ?_
    refine own_k X0 hx hby d22_14 ?_
    refine XS.istoreN X0.here hx rfl (hb hby d22_15) rfl (l' := #[iv (own_x qa 0), iv (1 : Int32), iv (-10 : Int32), iv (1 : Int32)]) rfl ?_
    refine st6 _ ?_
    show own_S p e below T6 (mkF m 16 #[iv (own_x qa 0), iv (1 : Int32), iv (own_pt (kk - 1)), iv (Int32.ofNat (kk - 1 + 1))] []) _
    refine own_iN X6 hx hby d22_16 ?_
    refine XS.bipush X6.here hx rfl (hb hby d22_17) ?_
    refine own_cn X6 hx hby d22_19 (tlt (own_ik_lt hc5 hc6)).2.1 ?_
    refine own_iN X6 hx hby d22_22 ?_
    refine own_iN X6 hx hby d22_23 ?_
    refine own_cn X6 hx hby d22_24 (tlt (own_ik_pt hc5 hc6)).2.2.2 ?_
    refine own_iN X6 hx hby d22_27 ?_
    refine own_iN X6 hx hby d22_28 ?_
    refine XS.iadd X6.here hx rfl (hb hby d22_29) rfl ?_
    exact retI X6 hx hret (hb hby d22_30) hr
  · show own_qp Z (some (.int ((Int32.ofNat (kk - 1 + 1)) + (1 : Int32)))) h0 _ T6.heap _
    rw [e6]
    exact ⟨rfl, N6, rfl⟩
theorem rm7 (l : Launch) (Z : State) (a0 : Array Value) (hw : own_HW Z a0) (ws : List Jvm.Cond) (qa : Int32) (kk : Nat) (h0 : Heap) (Z0 : Ext Z.heap h0) (hc8 : (own_x qa 0) < (0 : Int32)) (hc5 : own_nk qa kk) (hc7 : kk = 10) :
    own_met l y_0 jdk_33_method_13_code 4 (some .int) ws ({ frames := 0, cells := 0, slots := 0, locals := 0 } : Room) Z #[(.int (own_x qa 0))] h0 (own_qp Z (some (.int (11 : Int32))) h0) := by
  refine own_start (plainFor_of_name pn_0) (fun m => ef_jdk_33_method_13_I m (own_x qa 0)) ?_
  intro p e s m below meth c s₁ hx hby hml hown hnm X0 hZ e0 hret hlk
  have N0 := Fr.nil Z.heap.size
  obtain ⟨T8, L8, X8, e8, N8, st8⟩ := own_lpS Z a0 hw qa (1 : Int32) kk (kk - 1) hc5 (Nat.le_refl _) h0 Z0 hx hZ hby hml hown _ 0 (Nat.zero_add _) _ _ X0 e0 N0
  rw [own_pt0] at st8
  obtain ⟨_, hr, hrun, hended, hW, hsame⟩ := X8.leave (v := some (.int (11 : Int32))) (fun h => by rw [hret] at h; cases h) hlk
  refine ⟨_, _, ?_, hrun, hended, _, _, rfl, ?_, ⟨_, rfl⟩, hW, hsame.mono (by decide) (by decide)⟩
  · show own_S p e below s₁ (mkF m 0 #[iv (own_x qa 0), .unset, .unset, .unset] []) _
    refine own_k X0 hx hby d22_0 ?_
    refine XS.istoreN X0.here hx rfl (hb hby d22_1) rfl (l' := #[iv (own_x qa 0), iv (1 : Int32), .unset, .unset]) rfl ?_
    refine own_iN X0 hx hby d22_2 ?_
    refine own_iy (pc := 3) X0 hx hby d22_3 (tlt hc8).1 11 ?_
    refine XS.bipush X0.here hx rfl (hb hby d22_11) ?_
    refine XS.istoreN X0.here hx rfl (hb hby d22_13) rfl (l' := #[iv (own_x qa 0), iv (1 : Int32), iv (-10 : Int32), .unset]) rfl ?_
    refine own_k X0 hx hby d22_14 ?_
    refine XS.istoreN X0.here hx rfl (hb hby d22_15) rfl (l' := #[iv (own_x qa 0), iv (1 : Int32), iv (-10 : Int32), iv (1 : Int32)]) rfl ?_
    refine st8 _ ?_
    show own_S p e below T8 (mkF m 16 #[iv (own_x qa 0), iv (1 : Int32), iv (own_pt (kk - 1)), iv (Int32.ofNat (kk - 1 + 1))] []) _
    refine own_iN X8 hx hby d22_16 ?_
    refine XS.bipush X8.here hx rfl (hb hby d22_17) ?_
    refine own_cy (pc := 19) X8 hx hby d22_19 (flt (own_ik_ge hc7)).2.1 42 ?_
    refine XS.bipush X8.here hx rfl (hb hby d22_42) ?_
    refine own_iN X8 hx hby d22_44 ?_
    refine XS.iadd X8.here hx rfl (hb hby d22_45) rfl ?_
    show own_S p e below T8 (mkF m 46 #[iv (own_x qa 0), iv (1 : Int32), iv (own_pt (kk - 1)), iv (Int32.ofNat (kk - 1 + 1))] [(.int ((10 : Int32) + (1 : Int32)))]) _
    rw [(by decide : ((10 : Int32) + (1 : Int32)) = (11 : Int32))]
    exact retI X8 hx hret (hb hby d22_46) hr
  · show own_qp Z (some (.int (11 : Int32))) h0 _ T8.heap _
    rw [e8]
    exact ⟨rfl, N8, rfl⟩
theorem own_ssJ (l : Launch) (Z : State) (a0 : Array Value) (hw : own_HW Z a0) (ws : List Jvm.Cond) (qa : Int32) (kk : Nat) (h0 : Heap) (Z0 : Ext Z.heap h0) (hc9 : own_nd qa kk) :
    own_met l y_0 jdk_33_method_13_code 4 (some .int) ws ({ frames := 0, cells := 0, slots := 0, locals := 0 } : Room) Z #[(.int qa)] h0 (own_qp Z (some (.int (Int32.ofNat kk))) h0) := by
  rcases hc9 with ⟨hp, hk⟩ | ⟨k, rfl, hn, hk⟩
  · by_cases c : kk < 10
    · exact own_mono (rm1 l Z a0 hw ws qa kk h0 Z0 hp hk c) fun v h L q => ⟨q.1.trans (by rw [own_ss1 hk]), q.2⟩
    · exact own_mono (rm3 l Z a0 hw ws qa kk h0 Z0 hp hk (own_ten hk c)) fun v h L q => ⟨q.1.trans (by rw [own_ten hk c] <;> rfl), q.2⟩
  · by_cases c : k < 10
    · have M := rm5 l Z a0 hw ws qa k h0 Z0 (own_xn0 hn) hk c
      rw [← own_xneg hn] at M
      exact own_mono M fun v h L q => ⟨q.1.trans (by rw [own_ss2 hk]), q.2⟩
    · have M := rm7 l Z a0 hw ws qa k h0 Z0 (own_xn0 hn) hk (own_ten hk c)
      rw [← own_xneg hn] at M
      exact own_mono M fun v h L q => ⟨q.1.trans (by rw [own_ten hk c] <;> rfl), q.2⟩
theorem own_sgC {p : Program} {l : Launch} {e : Env} {s : State} {m : MethodId} {args : Array Value} {below : List Frame} {meth : Method} {c : Code} {T0 : State} {locs : List Loc} (Z : State) (a0 : Array Value) (hw : own_HW Z a0) (dd : Int32) (w_DO : Addr) (k_w_DO : ClassId) (w_DT : Addr) (k_w_DT : ClassId) (bf : Addr) (kf : ClassId) (us : List Value) (nn xx xd rr da db cp ix : Int32) (jn jm : Nat) (s3 s4 : Option Int32) (h0 : Heap) (Z0 : Ext Z.heap h0) (S_w_DO : own_Sw_DO Z w_DO) (A_w_DO : Arv Z Z.heap w_DO k_w_DO .byte (100 : Int32) own_ones (.int (0 : Int32))) (S_w_DT : own_Sw_DT Z w_DT) (A_w_DT : Arv Z Z.heap w_DT k_w_DT .byte (100 : Int32) own_tens (.int (0 : Int32))) (V_bf : Arv Z h0 bf kf .byte nn us (.int (0 : Int32))) (g_bf : Z.heap.size ≤ bf) (hc10 : ¬ ((-100 : Int32) < xx)) (hc11 : (xx / (100 : Int32)) = xd) (hc12 : ((xd * (100 : Int32)) - xx) = rr) (hc13 : own_ib rr (100 : Int32)) (hc14 : own_get own_ones rr (.int (0 : Int32)) (.int da)) (hc15 : own_ib (cp + (-1 : Int32)) nn) (hc16 : (nar .byte da) = da) (hc17 : ((cp + (-1 : Int32))).toNatClampNeg = jn) (hc18 : jn < us.length) (hc19 : own_get own_tens rr (.int (0 : Int32)) (.int db)) (hc20 : own_ib ((cp + (-1 : Int32)) + (-1 : Int32)) nn) (hc21 : (nar .byte db) = db) (hc22 : (((cp + (-1 : Int32)) + (-1 : Int32))).toNatClampNeg = jm) (hc23 : jm < (us.set jn (.int da)).length) (X0 : Stand p l e ({ frames := 0, cells := 0, slots := 0, locals := 0 } : Room) s m args below meth c T0 locs 0 0) (hx : p.tables.exec = Jvm.exec) (hZ : Z.Warmed39 s.vm) (hby : c.code = jdk_33_method_12_code) (hml : c.maxLocals = 7) (hown : s.vm.findClass "java/lang/Integer" = some m.cls) (e0 : T0.heap = h0) (N0 : Fr Z.heap.size locs) :
    ∃ (T' : State) (L' : List Loc) (h' : Heap), Stand p l e ({ frames := 0, cells := 0, slots := 0, locals := 0 } : Room) s m args below meth c T' L' 0 0 ∧ T'.heap = h' ∧ Fr Z.heap.size L' ∧ Keep h0 h' [bf] ∧ Ext Z.heap h' ∧ Arv Z h' bf kf .byte nn ((us.set jn (.int da)).set jm (.int db)) (.int (0 : Int32)) ∧ ∀ target, Steps p.tables e below (T'.setTop (mkF m 22 #[iv xd, iv ix, rv bf, iv xd, iv rr, iv ((cp + (-1 : Int32)) + (-1 : Int32)), iv dd] [])) target → Steps p.tables e below (T0.setTop (mkF m 22 #[iv xx, iv ix, rv bf, (own_slot s3), (own_slot s4), iv cp, iv dd] [])) target := by
  obtain ⟨T9, X9, e9, st9⟩ := getS2 X0 hx hZ hown (host := "") (Or.inl (own_w hw 142 rfl)) Via.refl e0 (S_w_DO.ext Z0) (g := (mkF m 49 #[iv xd, iv ix, rv bf, iv xd, iv rr, iv (cp + (-1 : Int32)), iv dd] [(.int (cp + (-1 : Int32))), (.ref bf)])) rfl (hb hby d24_49)
  obtain ⟨cl10, Ar10, q10, S10, Nn10, H10, G10⟩ := id (A_w_DO.ext Z0)
  have hin10 : ¬ (rr < 0 ∨ cl10.slots.size ≤ (rr).toNatClampNeg) := inb_of S10 hc13
  have hat10 : cl10.slots[(rr).toNatClampNeg]? = some (.int da) := Has.at H10 hin10 hc14
  obtain ⟨cl11, Ar11, q11, S11, Nn11, H11, G11⟩ := id V_bf
  have hin11 : ¬ ((cp + (-1 : Int32)) < 0 ∨ cl11.slots.size ≤ ((cp + (-1 : Int32))).toNatClampNeg) := inb_of S11 hc15
  obtain ⟨T12, h12, X12, e12, W12, st12⟩ := stB X9 hx hZ e9 Ar11 (j := (cp + (-1 : Int32))) hin11 (g := (mkF m 55 #[iv xd, iv ix, rv bf, iv xd, iv rr, iv (cp + (-1 : Int32)), iv dd] [(.int da), (.int (cp + (-1 : Int32))), (.ref bf)])) rfl rfl (hb hby d24_55)
  rw [hc16] at W12
  have V12 : Arv Z h12 bf kf .byte nn (us.set jn (.int da)) (.int (0 : Int32)) := Arv.set Ar11 q11 S11 Nn11 H11 G11 (by rw [← hc16]; exact fits_nar_byte _) W12 jn hc17 hc18
  have K12 := (Keep.refl h0 [bf]).wr W12 (Or.inl (List.mem_of_getElem? (i := 0) rfl))
  have XX12 := own_extW Z0 W12 g_bf
  have N12 := Fr.snoc X12 N0 g_bf
  obtain ⟨T13, X13, e13, st13⟩ := getS2 X12 hx hZ hown (host := "") (Or.inl (own_w hw 227 rfl)) Via.refl e12 (S_w_DT.ext XX12) (g := (mkF m 62 #[iv xd, iv ix, rv bf, iv xd, iv rr, iv ((cp + (-1 : Int32)) + (-1 : Int32)), iv dd] [(.int ((cp + (-1 : Int32)) + (-1 : Int32))), (.ref bf)])) rfl (hb hby d24_62)
  obtain ⟨cl14, Ar14, q14, S14, Nn14, H14, G14⟩ := id (A_w_DT.ext XX12)
  have hin14 : ¬ (rr < 0 ∨ cl14.slots.size ≤ (rr).toNatClampNeg) := inb_of S14 hc13
  have hat14 : cl14.slots[(rr).toNatClampNeg]? = some (.int db) := Has.at H14 hin14 hc19
  obtain ⟨cl15, Ar15, q15, S15, Nn15, H15, G15⟩ := id V12
  have hin15 : ¬ (((cp + (-1 : Int32)) + (-1 : Int32)) < 0 ∨ cl15.slots.size ≤ (((cp + (-1 : Int32)) + (-1 : Int32))).toNatClampNeg) := inb_of S15 hc20
  obtain ⟨T16, h16, X16, e16, W16, st16⟩ := stB X13 hx hZ e13 Ar15 (j := ((cp + (-1 : Int32)) + (-1 : Int32))) hin15 (g := (mkF m 68 #[iv xd, iv ix, rv bf, iv xd, iv rr, iv ((cp + (-1 : Int32)) + (-1 : Int32)), iv dd] [(.int db), (.int ((cp + (-1 : Int32)) + (-1 : Int32))), (.ref bf)])) rfl rfl (hb hby d24_68)
  rw [hc21] at W16
  have V16 : Arv Z h16 bf kf .byte nn ((us.set jn (.int da)).set jm (.int db)) (.int (0 : Int32)) := Arv.set Ar15 q15 S15 Nn15 H15 G15 (by rw [← hc21]; exact fits_nar_byte _) W16 jm hc22 hc23
  have K16 := K12.wr W16 (Or.inl (List.mem_of_getElem? (i := 0) rfl))
  have XX16 := own_extW XX12 W16 g_bf
  have N16 := Fr.snoc X16 N12 g_bf
  refine ⟨_, _, _, X16, e16, N16, K16, XX16, V16, fun target kt => ?_⟩
  show own_S p e below T0 (mkF m 22 #[iv xx, iv ix, rv bf, (own_slot s3), (own_slot s4), iv cp, iv dd] []) _
  refine own_iN X0 hx hby d24_22 ?_
  refine XS.bipush X0.here hx rfl (hb hby d24_23) ?_
  refine own_cn X0 hx hby d24_25 (flt hc10).2.2.1 ?_
  refine own_iN X0 hx hby d24_28 ?_
  refine XS.bipush X0.here hx rfl (hb hby d24_29) ?_
  refine XS.idiv X0.here hx rfl (hb hby d24_31) rfl (by decide) ?_
  show own_S p e below T0 (mkF m 32 #[iv xx, iv ix, rv bf, (own_slot s3), (own_slot s4), iv cp, iv dd] [(.int (xx / (100 : Int32)))]) _
  rw [hc11]
  refine XS.istoreN X0.here hx rfl (hb hby d24_32) rfl (l' := #[iv xx, iv ix, rv bf, iv xd, (own_slot s4), iv cp, iv dd]) (by cases s3 <;> rfl) ?_
  refine own_iN X0 hx hby d24_33 ?_
  refine XS.bipush X0.here hx rfl (hb hby d24_34) ?_
  refine XS.imul X0.here hx rfl (hb hby d24_36) rfl ?_
  refine own_iN X0 hx hby d24_37 ?_
  refine XS.isub X0.here hx rfl (hb hby d24_38) rfl ?_
  show own_S p e below T0 (mkF m 39 #[iv xx, iv ix, rv bf, iv xd, (own_slot s4), iv cp, iv dd] [(.int ((xd * (100 : Int32)) - xx))]) _
  rw [hc12]
  refine XS.istore X0.here hx rfl (hb hby d24_39) rfl (l' := #[iv xx, iv ix, rv bf, iv xd, iv rr, iv cp, iv dd]) (by cases s4 <;> rfl) ?_
  refine own_iN X0 hx hby d24_41 ?_
  refine XS.istoreN X0.here hx rfl (hb hby d24_42) rfl (l' := #[iv xd, iv ix, rv bf, iv xd, iv rr, iv cp, iv dd]) rfl ?_
  refine own_aN X0 hx hby d24_43 ?_
  refine XS.iinc X0.here hx rfl (hb hby d24_44) rfl (l' := #[iv xd, iv ix, rv bf, iv xd, iv rr, iv (cp + (-1 : Int32)), iv dd]) rfl ?_
  refine own_i X0 hx hby d24_47 ?_
  refine st9 _ ?_
  refine own_i X9 hx hby d24_52 ?_
  refine X9.baloadBytes hx (j := rr) (v := (.int da)) (by rw [e9]; exact Ar10.1) (State.isArrayOf_alike hZ.alike Ar10.2.1) Ar10.2.2 hin10 hat10 (g := (mkF m 54 #[iv xd, iv ix, rv bf, iv xd, iv rr, iv (cp + (-1 : Int32)), iv dd] [(.int rr), (.ref w_DO), (.int (cp + (-1 : Int32))), (.ref bf)])) rfl rfl (hb hby d24_54) _ ?_
  refine st12 _ ?_
  refine own_aN X12 hx hby d24_56 ?_
  refine XS.iinc X12.here hx rfl (hb hby d24_57) rfl (l' := #[iv xd, iv ix, rv bf, iv xd, iv rr, iv ((cp + (-1 : Int32)) + (-1 : Int32)), iv dd]) rfl ?_
  refine own_i X12 hx hby d24_60 ?_
  refine st13 _ ?_
  refine own_i X13 hx hby d24_65 ?_
  refine X13.baloadBytes hx (j := rr) (v := (.int db)) (by rw [e13]; exact Ar14.1) (State.isArrayOf_alike hZ.alike Ar14.2.1) Ar14.2.2 hin14 hat14 (g := (mkF m 67 #[iv xd, iv ix, rv bf, iv xd, iv rr, iv ((cp + (-1 : Int32)) + (-1 : Int32)), iv dd] [(.int rr), (.ref w_DT), (.int ((cp + (-1 : Int32)) + (-1 : Int32))), (.ref bf)])) rfl rfl (hb hby d24_67) _ ?_
  refine st16 _ ?_
  refine own_go (pc := 69) X16 hx hby d24_69 22 ?_
  show own_S p e below T16 (mkF m 22 #[iv xd, iv ix, rv bf, iv xd, iv rr, iv ((cp + (-1 : Int32)) + (-1 : Int32)), iv dd] []) _
  exact kt
theorem own_lpC {p : Program} {l : Launch} {e : Env} {s : State} {m : MethodId} {args : Array Value} {below : List Frame} {meth : Method} {c : Code} (Z : State) (a0 : Array Value) (hw : own_HW Z a0) (bf : Addr) (kf : ClassId) (us xs : List Value) (n0 kk : Nat) (qa : Int32) (nn : Int32) (w_DO : Addr) (k_w_DO : ClassId) (w_DT : Addr) (k_w_DT : ClassId) (dd : Int32) (ff : Nat) (S_w_DO : own_Sw_DO Z w_DO) (A_w_DO : Arv Z Z.heap w_DO k_w_DO .byte (100 : Int32) own_ones (.int (0 : Int32))) (S_w_DT : own_Sw_DT Z w_DT) (A_w_DT : Arv Z Z.heap w_DT k_w_DT .byte (100 : Int32) own_tens (.int (0 : Int32))) (hD : own_nk qa kk) (hG : own_gx us xs n0 kk qa) (hnn : nn = Int32.ofNat us.length) (hf : ff ≤ (kk - 1) / 2) (g_bf : Z.heap.size ≤ bf) (hx : p.tables.exec = Jvm.exec) (hZ : Z.Warmed39 s.vm) (hby : c.code = jdk_33_method_12_code) (hml : c.maxLocals = 7) (hown : s.vm.findClass "java/lang/Integer" = some m.cls) :
    ∀ (d i : Nat), i + d = ff → ∀ (T0 : State) (locs : List Loc) (h0 : Heap) (s3 : Option Int32) (s4 : Option Int32), Ext Z.heap h0 → Arv Z h0 bf kf .byte nn (own_mix (n0 + kk - 2 * i) us xs) (.int (0 : Int32)) → Stand p l e ({ frames := 0, cells := 0, slots := 0, locals := 0 } : Room) s m args below meth c T0 locs 0 0 → T0.heap = h0 → Fr Z.heap.size locs → ∃ (T' : State) (L' : List Loc) (h' : Heap) (s3' : Option Int32) (s4' : Option Int32), Stand p l e ({ frames := 0, cells := 0, slots := 0, locals := 0 } : Room) s m args below meth c T' L' 0 0 ∧ T'.heap = h' ∧ Fr Z.heap.size L' ∧ Keep h0 h' [bf] ∧ Ext Z.heap h' ∧ Arv Z h' bf kf .byte nn (own_mix (n0 + kk - 2 * ff) us xs) (.int (0 : Int32)) ∧ ∀ target, Steps p.tables e below (T'.setTop (mkF m 22 #[iv (own_x qa ff), iv (Int32.ofNat (n0 + kk)), rv bf, (own_slot s3'), (own_slot s4'), iv (Int32.ofNat (n0 + kk - 2 * ff)), iv dd] [])) target → Steps p.tables e below (T0.setTop (mkF m 22 #[iv (own_x qa i), iv (Int32.ofNat (n0 + kk)), rv bf, (own_slot s3), (own_slot s4), iv (Int32.ofNat (n0 + kk - 2 * i)), iv dd] [])) target := by
  intro d
  induction d with
  | zero =>
    intro i hi T0 locs h0 s3 s4 Z0 V_bf X0 e0 N0
    obtain rfl : i = ff := by omega
    exact ⟨T0, locs, h0, s3, s4, X0, e0, N0, Keep.refl _ _, Z0, V_bf, fun _ k => k⟩
  | succ d ih =>
    intro i hi T0 locs h0 s3 s4 Z0 V_bf X0 e0 N0
    have hlt : i < ff := by omega
    have hxl := hG.1
    have hl := hG.2.1
    have hl2 := hG.2.2.1
    have hm := own_more (j := i) hD (by omega)
    have hp := own_nd_pow hD
    have hb1 := own_back (n := n0 + kk - 2 * i - 1) (by omega)
    have hb2 := own_back (n := n0 + kk - 2 * i - 1 - 1) (by omega)
    have hn1 : Int32.ofNat (n0 + kk - 2 * i - 1) < nn := by rw [hnn]; exact own_ofNat_lt (by omega) (by omega)
    have hn2 : Int32.ofNat (n0 + kk - 2 * i - 1 - 1) < nn := by rw [hnn]; exact own_ofNat_lt (by omega) (by omega)
    obtain ⟨T1, L1, h1, X1, e1, N1, K1, E1, q_V_bf, st1⟩ := own_sgC Z a0 hw dd w_DO k_w_DO w_DT k_w_DT bf kf (own_mix (n0 + kk - 2 * i) us xs) nn (own_x qa i) (own_x qa (i + 1)) (own_r qa i) (own_d qa (2 * i)) (own_d qa (2 * i + 1)) (Int32.ofNat (n0 + kk - 2 * i)) (Int32.ofNat (n0 + kk)) (n0 + kk - 2 * i - 1) (n0 + kk - 2 * i - 1 - 1) s3 s4 h0 Z0 S_w_DO A_w_DO S_w_DT A_w_DT V_bf g_bf (own_nlt (by decide : (-100 : Int32).toInt = -100) (own_xI qa i) (by omega)) (own_xd qa i) (own_xr qa i) (own_rib qa i) (own_r1 qa i) (by rw [own_dec (by omega)]; exact ⟨hb1.2, hn1⟩) (own_dnb qa _) (by rw [own_dec (by omega)]; exact hb1.1) (by rw [own_mix_len hG.1.symm]; omega) (own_r2 qa i) (by rw [own_dec (by omega), own_dec (by omega)]; exact ⟨hb2.2, hn2⟩) (own_dnb qa _) (by rw [own_dec (by omega), own_dec (by omega)]; exact hb2.1) (by rw [List.length_set, own_mix_len hG.1.symm]; omega) X0 hx hZ hby hml hown e0 N0
    rw [own_gx_set hG (by omega), (by omega : n0 + kk - 2 * i - 1 = n0 + kk - (2 * i + 1)), own_gx_set hG (by omega), (by omega : n0 + kk - (2 * i + 1) - 1 = n0 + kk - 2 * (i + 1))] at q_V_bf
    rw [own_dec (by omega), own_dec (by omega), (by omega : n0 + kk - 2 * i - 1 - 1 = n0 + kk - 2 * (i + 1))] at st1
    obtain ⟨T2, L2, h2, s3', s4', X2, e2, N2, K2, E2, r_V_bf, st2⟩ := ih (i + 1) (by omega) T1 L1 h1 (some (own_x qa (i + 1))) (some (own_r qa i)) E1 q_V_bf X1 e1 N1
    exact ⟨T2, L2, h2, s3', s4', X2, e2, N2, K1.trans K2 (allS (Or.inl (List.mem_of_getElem? (i := 0) rfl)) all0), E2, r_V_bf, fun t k => st1 t (st2 t k)⟩
def Qrm17 (Z : State) (kk : Nat) (bf : Addr) (kf : ClassId) (us xs : List Value) (n0 : Nat) (h0 : Heap) (v : Option Value) (h : Heap) (L : List Loc) : Prop := v = some (.int ((Int32.ofNat (n0 + kk - 2 * ((kk - 1) / 2))) + (-1 : Int32))) ∧ Fr Z.heap.size L ∧ Keep h0 h [bf] ∧ Arv Z h bf kf .byte (Int32.ofNat us.length) xs (.int (0 : Int32))
theorem rm17 (l : Launch) (Z : State) (a0 : Array Value) (hw : own_HW Z a0) (ws : List Jvm.Cond) (qa : Int32) (kk : Nat) (w_DO : Addr) (k_w_DO : ClassId) (w_DT : Addr) (k_w_DT : ClassId) (bf : Addr) (kf : ClassId) (us xs : List Value) (n0 : Nat) (h0 : Heap) (Z0 : Ext Z.heap h0) (S_w_DO : own_Sw_DO Z w_DO) (A_w_DO : Arv Z Z.heap w_DO k_w_DO .byte (100 : Int32) own_ones (.int (0 : Int32))) (S_w_DT : own_Sw_DT Z w_DT) (A_w_DT : Arv Z Z.heap w_DT k_w_DT .byte (100 : Int32) own_tens (.int (0 : Int32))) (V_bf : Arv Z h0 bf kf .byte (Int32.ofNat us.length) us (.int (0 : Int32))) (g_bf : Z.heap.size ≤ bf) (hc4 : ¬ (qa < (0 : Int32))) (hc5 : own_nk qa kk) (hc24 : own_gx us xs n0 kk qa) (hc25 : own_par kk 1) :
    own_met l y_1 jdk_33_method_12_code 7 (some .int) ws ({ frames := 0, cells := 0, slots := 0, locals := 0 } : Room) Z #[(.int qa), (.int (Int32.ofNat (n0 + kk))), (.ref bf)] h0 (Qrm17 Z kk bf kf us xs n0 h0) := by
  refine own_start (plainFor_of_name pn_0) (fun m => ef_jdk_33_method_12_IIR m qa (Int32.ofNat (n0 + kk)) bf) ?_
  intro p e s m below meth c s₁ hx hby hml hown hnm X0 hZ e0 hret hlk
  have N0 := Fr.nil Z.heap.size
  have vp18 : Arv Z h0 bf kf .byte (Int32.ofNat us.length) (own_mix (n0 + kk - 2 * 0) us xs) (.int (0 : Int32)) := by rw [Nat.mul_zero, Nat.sub_zero, own_gx_start hc24]; exact V_bf
  obtain ⟨T19, L19, h19, y19_0, y19_1, X19, e19, N19, K19q, XX19, q19_V_bf, st19⟩ := own_lpC Z a0 hw bf kf us xs n0 kk qa (Int32.ofNat us.length) w_DO k_w_DO w_DT k_w_DT (0 : Int32) ((kk - 1) / 2) S_w_DO A_w_DO S_w_DT A_w_DT hc5 hc24 rfl (Nat.le_refl _) g_bf hx hZ hby hml hown _ 0 (Nat.zero_add _) _ _ _ none none Z0 vp18 X0 e0 N0
  have K19 := (Keep.refl h0 [bf]).trans K19q (allS (Or.inl (List.mem_of_getElem? (i := 0) rfl)) all0)
  obtain ⟨T20, X20, e20, st20⟩ := getS2 X19 hx hZ hown (host := "") (Or.inl (own_w hw 142 rfl)) Via.refl e19 (S_w_DO.ext XX19) (g := (mkF m 78 #[iv (own_x qa ((kk - 1) / 2)), iv (Int32.ofNat (n0 + kk)), rv bf, (own_slot y19_0), (own_slot y19_1), iv ((Int32.ofNat (n0 + kk - 2 * ((kk - 1) / 2))) + (-1 : Int32)), iv (0 : Int32)] [(.int ((Int32.ofNat (n0 + kk - 2 * ((kk - 1) / 2))) + (-1 : Int32))), (.ref bf)])) rfl (hb hby d24_78)
  obtain ⟨cl21, Ar21, q21, S21, Nn21, H21, G21⟩ := id (A_w_DO.ext XX19)
  have hin21 : ¬ ((own_r qa ((kk - 1) / 2)) < 0 ∨ cl21.slots.size ≤ ((own_r qa ((kk - 1) / 2))).toNatClampNeg) := inb_of S21 (own_rib qa _)
  have hat21 : cl21.slots[((own_r qa ((kk - 1) / 2))).toNatClampNeg]? = some (.int (own_d qa (2 * ((kk - 1) / 2)))) := Has.at H21 hin21 (own_r1 qa _)
  obtain ⟨cl22, Ar22, q22, S22, Nn22, H22, G22⟩ := id q19_V_bf
  have hin22 : ¬ (((Int32.ofNat (n0 + kk - 2 * ((kk - 1) / 2))) + (-1 : Int32)) < 0 ∨ cl22.slots.size ≤ (((Int32.ofNat (n0 + kk - 2 * ((kk - 1) / 2))) + (-1 : Int32))).toNatClampNeg) := inb_of S22 (own_t_ib1 hc5 hc24)
  obtain ⟨T23, h23, X23, e23, W23, st23⟩ := stB X20 hx hZ e20 Ar22 (j := ((Int32.ofNat (n0 + kk - 2 * ((kk - 1) / 2))) + (-1 : Int32))) hin22 (g := (mkF m 84 #[iv (own_x qa ((kk - 1) / 2)), iv (Int32.ofNat (n0 + kk)), rv bf, (own_slot y19_0), (own_slot y19_1), iv ((Int32.ofNat (n0 + kk - 2 * ((kk - 1) / 2))) + (-1 : Int32)), iv (0 : Int32)] [(.int (own_d qa (2 * ((kk - 1) / 2)))), (.int ((Int32.ofNat (n0 + kk - 2 * ((kk - 1) / 2))) + (-1 : Int32))), (.ref bf)])) rfl rfl (hb hby d24_84)
  rw [(own_dnb qa _)] at W23
  have V23 : Arv Z h23 bf kf .byte (Int32.ofNat us.length) ((own_mix (n0 + kk - 2 * ((kk - 1) / 2)) us xs).set (n0 + kk - 2 * ((kk - 1) / 2) - 1) (.int (own_d qa (2 * ((kk - 1) / 2))))) (.int (0 : Int32)) := Arv.set Ar22 q22 S22 Nn22 H22 G22 (by rw [← (own_dnb qa _)]; exact fits_nar_byte _) W23 (n0 + kk - 2 * ((kk - 1) / 2) - 1) (own_t_n1 hc5 hc24) (own_t_l1 hc5 hc24)
  rw [own_gx_o hc24 hc25] at V23
  have K23 := K19.wr W23 (Or.inl (List.mem_of_getElem? (i := 0) rfl))
  have N23 := Fr.snoc X23 N19 g_bf
  obtain ⟨_, hr, hrun, hended, hW, hsame⟩ := X23.leave (v := some (.int ((Int32.ofNat (n0 + kk - 2 * ((kk - 1) / 2))) + (-1 : Int32)))) (fun h => by rw [hret] at h; cases h) hlk
  refine ⟨_, _, ?_, hrun, hended, _, _, rfl, ?_, ⟨_, rfl⟩, hW, hsame.mono (by decide) (by decide)⟩
  · show own_S p e below s₁ (mkF m 0 #[iv qa, iv (Int32.ofNat (n0 + kk)), rv bf, .unset, .unset, .unset, .unset] []) _
    refine own_iN X0 hx hby d24_0 ?_
    refine XS.istore X0.here hx rfl (hb hby d24_1) rfl (l' := #[iv qa, iv (Int32.ofNat (n0 + kk)), rv bf, .unset, .unset, iv (Int32.ofNat (n0 + kk)), .unset]) rfl ?_
    refine own_iN X0 hx hby d24_3 ?_
    refine own_iy (pc := 4) X0 hx hby d24_4 (flt hc4).2.1 11 ?_
    refine own_k X0 hx hby d24_11 ?_
    refine XS.istore X0.here hx rfl (hb hby d24_12) rfl (l' := #[iv qa, iv (Int32.ofNat (n0 + kk)), rv bf, .unset, .unset, iv (Int32.ofNat (n0 + kk)), iv (0 : Int32)]) rfl ?_
    refine own_i X0 hx hby d24_14 ?_
    refine own_in X0 hx hby d24_16 (teq (rfl : (0 : Int32) = (0 : Int32))).2 ?_
    refine own_iN X0 hx hby d24_19 ?_
    refine XS.ineg X0.here hx rfl (hb hby d24_20) rfl ?_
    show own_S p e below s₁ (mkF m 21 #[iv qa, iv (Int32.ofNat (n0 + kk)), rv bf, .unset, .unset, iv (Int32.ofNat (n0 + kk)), iv (0 : Int32)] [(.int (-qa))]) _
    rw [(own_x0 hc4)]
    refine XS.istoreN X0.here hx rfl (hb hby d24_21) rfl (l' := #[iv (own_x qa 0), iv (Int32.ofNat (n0 + kk)), rv bf, .unset, .unset, iv (Int32.ofNat (n0 + kk)), iv (0 : Int32)]) rfl ?_
    refine st19 _ ?_
    show own_S p e below T19 (mkF m 22 #[iv (own_x qa ((kk - 1) / 2)), iv (Int32.ofNat (n0 + kk)), rv bf, (own_slot y19_0), (own_slot y19_1), iv (Int32.ofNat (n0 + kk - 2 * ((kk - 1) / 2))), iv (0 : Int32)] []) _
    refine own_iN X19 hx hby d24_22 ?_
    refine XS.bipush X19.here hx rfl (hb hby d24_23) ?_
    refine own_cy (pc := 25) X19 hx hby d24_25 (tlt (own_t_100 hc5)).2.2.1 72 ?_
    refine own_aN X19 hx hby d24_72 ?_
    refine XS.iinc X19.here hx rfl (hb hby d24_73) rfl (l' := #[iv (own_x qa ((kk - 1) / 2)), iv (Int32.ofNat (n0 + kk)), rv bf, (own_slot y19_0), (own_slot y19_1), iv ((Int32.ofNat (n0 + kk - 2 * ((kk - 1) / 2))) + (-1 : Int32)), iv (0 : Int32)]) rfl ?_
    refine own_i X19 hx hby d24_76 ?_
    refine st20 _ ?_
    refine own_iN X20 hx hby d24_81 ?_
    refine XS.ineg X20.here hx rfl (hb hby d24_82) rfl ?_
    show own_S p e below T20 (mkF m 83 #[iv (own_x qa ((kk - 1) / 2)), iv (Int32.ofNat (n0 + kk)), rv bf, (own_slot y19_0), (own_slot y19_1), iv ((Int32.ofNat (n0 + kk - 2 * ((kk - 1) / 2))) + (-1 : Int32)), iv (0 : Int32)] [(.int (-(own_x qa ((kk - 1) / 2)))), (.ref w_DO), (.int ((Int32.ofNat (n0 + kk - 2 * ((kk - 1) / 2))) + (-1 : Int32))), (.ref bf)]) _
    rw [(own_xn (own_less hc5))]
    refine X20.baloadBytes hx (j := (own_r qa ((kk - 1) / 2))) (v := (.int (own_d qa (2 * ((kk - 1) / 2))))) (by rw [e20]; exact Ar21.1) (State.isArrayOf_alike hZ.alike Ar21.2.1) Ar21.2.2 hin21 hat21 (g := (mkF m 83 #[iv (own_x qa ((kk - 1) / 2)), iv (Int32.ofNat (n0 + kk)), rv bf, (own_slot y19_0), (own_slot y19_1), iv ((Int32.ofNat (n0 + kk - 2 * ((kk - 1) / 2))) + (-1 : Int32)), iv (0 : Int32)] [(.int (own_r qa ((kk - 1) / 2))), (.ref w_DO), (.int ((Int32.ofNat (n0 + kk - 2 * ((kk - 1) / 2))) + (-1 : Int32))), (.ref bf)])) rfl rfl (hb hby d24_83) _ ?_
    refine st23 _ ?_
    refine own_iN X23 hx hby d24_85 ?_
    refine XS.bipush X23.here hx rfl (hb hby d24_86) ?_
    refine own_cy (pc := 88) X23 hx hby d24_88 (flt (own_t_9o hc5 hc25)).2.1 104 ?_
    refine own_i X23 hx hby d24_104 ?_
    refine own_iy (pc := 106) X23 hx hby d24_106 (teq (rfl : (0 : Int32) = (0 : Int32))).1 118 ?_
    refine own_i X23 hx hby d24_118 ?_
    exact retI X23 hx hret (hb hby d24_120) hr
  · show Qrm17 Z kk bf kf us xs n0 h0 _ T23.heap _
    rw [e23]
    exact ⟨rfl, N23, K23, V23⟩
def Qrm24 (Z : State) (kk : Nat) (bf : Addr) (kf : ClassId) (us xs : List Value) (n0 : Nat) (h0 : Heap) (v : Option Value) (h : Heap) (L : List Loc) : Prop := v = some (.int (((Int32.ofNat (n0 + kk - 2 * ((kk - 1) / 2))) + (-1 : Int32)) + (-1 : Int32))) ∧ Fr Z.heap.size L ∧ Keep h0 h [bf] ∧ Arv Z h bf kf .byte (Int32.ofNat us.length) xs (.int (0 : Int32))
theorem rm24 (l : Launch) (Z : State) (a0 : Array Value) (hw : own_HW Z a0) (ws : List Jvm.Cond) (qa : Int32) (kk : Nat) (w_DO : Addr) (k_w_DO : ClassId) (w_DT : Addr) (k_w_DT : ClassId) (bf : Addr) (kf : ClassId) (us xs : List Value) (n0 : Nat) (h0 : Heap) (Z0 : Ext Z.heap h0) (S_w_DO : own_Sw_DO Z w_DO) (A_w_DO : Arv Z Z.heap w_DO k_w_DO .byte (100 : Int32) own_ones (.int (0 : Int32))) (S_w_DT : own_Sw_DT Z w_DT) (A_w_DT : Arv Z Z.heap w_DT k_w_DT .byte (100 : Int32) own_tens (.int (0 : Int32))) (V_bf : Arv Z h0 bf kf .byte (Int32.ofNat us.length) us (.int (0 : Int32))) (g_bf : Z.heap.size ≤ bf) (hc4 : ¬ (qa < (0 : Int32))) (hc5 : own_nk qa kk) (hc24 : own_gx us xs n0 kk qa) (hc26 : own_par kk 2) :
    own_met l y_1 jdk_33_method_12_code 7 (some .int) ws ({ frames := 0, cells := 0, slots := 0, locals := 0 } : Room) Z #[(.int qa), (.int (Int32.ofNat (n0 + kk))), (.ref bf)] h0 (Qrm24 Z kk bf kf us xs n0 h0) := by
  refine own_start (plainFor_of_name pn_0) (fun m => ef_jdk_33_method_12_IIR m qa (Int32.ofNat (n0 + kk)) bf) ?_
  intro p e s m below meth c s₁ hx hby hml hown hnm X0 hZ e0 hret hlk
  have N0 := Fr.nil Z.heap.size
  have vp25 : Arv Z h0 bf kf .byte (Int32.ofNat us.length) (own_mix (n0 + kk - 2 * 0) us xs) (.int (0 : Int32)) := by rw [Nat.mul_zero, Nat.sub_zero, own_gx_start hc24]; exact V_bf
  obtain ⟨T26, L26, h26, y26_0, y26_1, X26, e26, N26, K26q, XX26, q26_V_bf, st26⟩ := own_lpC Z a0 hw bf kf us xs n0 kk qa (Int32.ofNat us.length) w_DO k_w_DO w_DT k_w_DT (0 : Int32) ((kk - 1) / 2) S_w_DO A_w_DO S_w_DT A_w_DT hc5 hc24 rfl (Nat.le_refl _) g_bf hx hZ hby hml hown _ 0 (Nat.zero_add _) _ _ _ none none Z0 vp25 X0 e0 N0
  have K26 := (Keep.refl h0 [bf]).trans K26q (allS (Or.inl (List.mem_of_getElem? (i := 0) rfl)) all0)
  obtain ⟨T27, X27, e27, st27⟩ := getS2 X26 hx hZ hown (host := "") (Or.inl (own_w hw 142 rfl)) Via.refl e26 (S_w_DO.ext XX26) (g := (mkF m 78 #[iv (own_x qa ((kk - 1) / 2)), iv (Int32.ofNat (n0 + kk)), rv bf, (own_slot y26_0), (own_slot y26_1), iv ((Int32.ofNat (n0 + kk - 2 * ((kk - 1) / 2))) + (-1 : Int32)), iv (0 : Int32)] [(.int ((Int32.ofNat (n0 + kk - 2 * ((kk - 1) / 2))) + (-1 : Int32))), (.ref bf)])) rfl (hb hby d24_78)
  obtain ⟨cl28, Ar28, q28, S28, Nn28, H28, G28⟩ := id (A_w_DO.ext XX26)
  have hin28 : ¬ ((own_r qa ((kk - 1) / 2)) < 0 ∨ cl28.slots.size ≤ ((own_r qa ((kk - 1) / 2))).toNatClampNeg) := inb_of S28 (own_rib qa _)
  have hat28 : cl28.slots[((own_r qa ((kk - 1) / 2))).toNatClampNeg]? = some (.int (own_d qa (2 * ((kk - 1) / 2)))) := Has.at H28 hin28 (own_r1 qa _)
  obtain ⟨cl29, Ar29, q29, S29, Nn29, H29, G29⟩ := id q26_V_bf
  have hin29 : ¬ (((Int32.ofNat (n0 + kk - 2 * ((kk - 1) / 2))) + (-1 : Int32)) < 0 ∨ cl29.slots.size ≤ (((Int32.ofNat (n0 + kk - 2 * ((kk - 1) / 2))) + (-1 : Int32))).toNatClampNeg) := inb_of S29 (own_t_ib1 hc5 hc24)
  obtain ⟨T30, h30, X30, e30, W30, st30⟩ := stB X27 hx hZ e27 Ar29 (j := ((Int32.ofNat (n0 + kk - 2 * ((kk - 1) / 2))) + (-1 : Int32))) hin29 (g := (mkF m 84 #[iv (own_x qa ((kk - 1) / 2)), iv (Int32.ofNat (n0 + kk)), rv bf, (own_slot y26_0), (own_slot y26_1), iv ((Int32.ofNat (n0 + kk - 2 * ((kk - 1) / 2))) + (-1 : Int32)), iv (0 : Int32)] [(.int (own_d qa (2 * ((kk - 1) / 2)))), (.int ((Int32.ofNat (n0 + kk - 2 * ((kk - 1) / 2))) + (-1 : Int32))), (.ref bf)])) rfl rfl (hb hby d24_84)
  rw [(own_dnb qa _)] at W30
  have V30 : Arv Z h30 bf kf .byte (Int32.ofNat us.length) ((own_mix (n0 + kk - 2 * ((kk - 1) / 2)) us xs).set (n0 + kk - 2 * ((kk - 1) / 2) - 1) (.int (own_d qa (2 * ((kk - 1) / 2))))) (.int (0 : Int32)) := Arv.set Ar29 q29 S29 Nn29 H29 G29 (by rw [← (own_dnb qa _)]; exact fits_nar_byte _) W30 (n0 + kk - 2 * ((kk - 1) / 2) - 1) (own_t_n1 hc5 hc24) (own_t_l1 hc5 hc24)
  rw [own_gx_e hc24 hc26] at V30
  have K30 := K26.wr W30 (Or.inl (List.mem_of_getElem? (i := 0) rfl))
  have XX30 := own_extW XX26 W30 g_bf
  have N30 := Fr.snoc X30 N26 g_bf
  obtain ⟨T31, X31, e31, st31⟩ := getS2 X30 hx hZ hown (host := "") (Or.inl (own_w hw 227 rfl)) Via.refl e30 (S_w_DT.ext XX30) (g := (mkF m 97 #[iv (own_x qa ((kk - 1) / 2)), iv (Int32.ofNat (n0 + kk)), rv bf, (own_slot y26_0), (own_slot y26_1), iv (((Int32.ofNat (n0 + kk - 2 * ((kk - 1) / 2))) + (-1 : Int32)) + (-1 : Int32)), iv (0 : Int32)] [(.int (((Int32.ofNat (n0 + kk - 2 * ((kk - 1) / 2))) + (-1 : Int32)) + (-1 : Int32))), (.ref bf)])) rfl (hb hby d24_97)
  obtain ⟨cl32, Ar32, q32, S32, Nn32, H32, G32⟩ := id (A_w_DT.ext XX30)
  have hin32 : ¬ ((own_r qa ((kk - 1) / 2)) < 0 ∨ cl32.slots.size ≤ ((own_r qa ((kk - 1) / 2))).toNatClampNeg) := inb_of S32 (own_rib qa _)
  have hat32 : cl32.slots[((own_r qa ((kk - 1) / 2))).toNatClampNeg]? = some (.int (own_d qa (2 * ((kk - 1) / 2) + 1))) := Has.at H32 hin32 (own_r2 qa _)
  obtain ⟨cl33, Ar33, q33, S33, Nn33, H33, G33⟩ := id V30
  have hin33 : ¬ ((((Int32.ofNat (n0 + kk - 2 * ((kk - 1) / 2))) + (-1 : Int32)) + (-1 : Int32)) < 0 ∨ cl33.slots.size ≤ ((((Int32.ofNat (n0 + kk - 2 * ((kk - 1) / 2))) + (-1 : Int32)) + (-1 : Int32))).toNatClampNeg) := inb_of S33 (own_t_ib2 hc5 hc24 hc26)
  obtain ⟨T34, h34, X34, e34, W34, st34⟩ := stB X31 hx hZ e31 Ar33 (j := (((Int32.ofNat (n0 + kk - 2 * ((kk - 1) / 2))) + (-1 : Int32)) + (-1 : Int32))) hin33 (g := (mkF m 103 #[iv (own_x qa ((kk - 1) / 2)), iv (Int32.ofNat (n0 + kk)), rv bf, (own_slot y26_0), (own_slot y26_1), iv (((Int32.ofNat (n0 + kk - 2 * ((kk - 1) / 2))) + (-1 : Int32)) + (-1 : Int32)), iv (0 : Int32)] [(.int (own_d qa (2 * ((kk - 1) / 2) + 1))), (.int (((Int32.ofNat (n0 + kk - 2 * ((kk - 1) / 2))) + (-1 : Int32)) + (-1 : Int32))), (.ref bf)])) rfl rfl (hb hby d24_103)
  rw [(own_dnb qa _)] at W34
  have V34 : Arv Z h34 bf kf .byte (Int32.ofNat us.length) ((own_mix (n0 + kk - 2 * ((kk - 1) / 2) - 1) us xs).set (n0 + kk - 2 * ((kk - 1) / 2) - 1 - 1) (.int (own_d qa (2 * ((kk - 1) / 2) + 1)))) (.int (0 : Int32)) := Arv.set Ar33 q33 S33 Nn33 H33 G33 (by rw [← (own_dnb qa _)]; exact fits_nar_byte _) W34 (n0 + kk - 2 * ((kk - 1) / 2) - 1 - 1) (own_t_n2 hc5 hc24 hc26) (own_t_l2 hc24 hc26)
  rw [own_gx_e2 hc24 hc26] at V34
  have K34 := K30.wr W34 (Or.inl (List.mem_of_getElem? (i := 0) rfl))
  have N34 := Fr.snoc X34 N30 g_bf
  obtain ⟨_, hr, hrun, hended, hW, hsame⟩ := X34.leave (v := some (.int (((Int32.ofNat (n0 + kk - 2 * ((kk - 1) / 2))) + (-1 : Int32)) + (-1 : Int32)))) (fun h => by rw [hret] at h; cases h) hlk
  refine ⟨_, _, ?_, hrun, hended, _, _, rfl, ?_, ⟨_, rfl⟩, hW, hsame.mono (by decide) (by decide)⟩
  · show own_S p e below s₁ (mkF m 0 #[iv qa, iv (Int32.ofNat (n0 + kk)), rv bf, .unset, .unset, .unset, .unset] []) _
    refine own_iN X0 hx hby d24_0 ?_
    refine XS.istore X0.here hx rfl (hb hby d24_1) rfl (l' := #[iv qa, iv (Int32.ofNat (n0 + kk)), rv bf, .unset, .unset, iv (Int32.ofNat (n0 + kk)), .unset]) rfl ?_
    refine own_iN X0 hx hby d24_3 ?_
    refine own_iy (pc := 4) X0 hx hby d24_4 (flt hc4).2.1 11 ?_
    refine own_k X0 hx hby d24_11 ?_
    refine XS.istore X0.here hx rfl (hb hby d24_12) rfl (l' := #[iv qa, iv (Int32.ofNat (n0 + kk)), rv bf, .unset, .unset, iv (Int32.ofNat (n0 + kk)), iv (0 : Int32)]) rfl ?_
    refine own_i X0 hx hby d24_14 ?_
    refine own_in X0 hx hby d24_16 (teq (rfl : (0 : Int32) = (0 : Int32))).2 ?_
    refine own_iN X0 hx hby d24_19 ?_
    refine XS.ineg X0.here hx rfl (hb hby d24_20) rfl ?_
    show own_S p e below s₁ (mkF m 21 #[iv qa, iv (Int32.ofNat (n0 + kk)), rv bf, .unset, .unset, iv (Int32.ofNat (n0 + kk)), iv (0 : Int32)] [(.int (-qa))]) _
    rw [(own_x0 hc4)]
    refine XS.istoreN X0.here hx rfl (hb hby d24_21) rfl (l' := #[iv (own_x qa 0), iv (Int32.ofNat (n0 + kk)), rv bf, .unset, .unset, iv (Int32.ofNat (n0 + kk)), iv (0 : Int32)]) rfl ?_
    refine st26 _ ?_
    show own_S p e below T26 (mkF m 22 #[iv (own_x qa ((kk - 1) / 2)), iv (Int32.ofNat (n0 + kk)), rv bf, (own_slot y26_0), (own_slot y26_1), iv (Int32.ofNat (n0 + kk - 2 * ((kk - 1) / 2))), iv (0 : Int32)] []) _
    refine own_iN X26 hx hby d24_22 ?_
    refine XS.bipush X26.here hx rfl (hb hby d24_23) ?_
    refine own_cy (pc := 25) X26 hx hby d24_25 (tlt (own_t_100 hc5)).2.2.1 72 ?_
    refine own_aN X26 hx hby d24_72 ?_
    refine XS.iinc X26.here hx rfl (hb hby d24_73) rfl (l' := #[iv (own_x qa ((kk - 1) / 2)), iv (Int32.ofNat (n0 + kk)), rv bf, (own_slot y26_0), (own_slot y26_1), iv ((Int32.ofNat (n0 + kk - 2 * ((kk - 1) / 2))) + (-1 : Int32)), iv (0 : Int32)]) rfl ?_
    refine own_i X26 hx hby d24_76 ?_
    refine st27 _ ?_
    refine own_iN X27 hx hby d24_81 ?_
    refine XS.ineg X27.here hx rfl (hb hby d24_82) rfl ?_
    show own_S p e below T27 (mkF m 83 #[iv (own_x qa ((kk - 1) / 2)), iv (Int32.ofNat (n0 + kk)), rv bf, (own_slot y26_0), (own_slot y26_1), iv ((Int32.ofNat (n0 + kk - 2 * ((kk - 1) / 2))) + (-1 : Int32)), iv (0 : Int32)] [(.int (-(own_x qa ((kk - 1) / 2)))), (.ref w_DO), (.int ((Int32.ofNat (n0 + kk - 2 * ((kk - 1) / 2))) + (-1 : Int32))), (.ref bf)]) _
    rw [(own_xn (own_less hc5))]
    refine X27.baloadBytes hx (j := (own_r qa ((kk - 1) / 2))) (v := (.int (own_d qa (2 * ((kk - 1) / 2))))) (by rw [e27]; exact Ar28.1) (State.isArrayOf_alike hZ.alike Ar28.2.1) Ar28.2.2 hin28 hat28 (g := (mkF m 83 #[iv (own_x qa ((kk - 1) / 2)), iv (Int32.ofNat (n0 + kk)), rv bf, (own_slot y26_0), (own_slot y26_1), iv ((Int32.ofNat (n0 + kk - 2 * ((kk - 1) / 2))) + (-1 : Int32)), iv (0 : Int32)] [(.int (own_r qa ((kk - 1) / 2))), (.ref w_DO), (.int ((Int32.ofNat (n0 + kk - 2 * ((kk - 1) / 2))) + (-1 : Int32))), (.ref bf)])) rfl rfl (hb hby d24_83) _ ?_
    refine st30 _ ?_
    refine own_iN X30 hx hby d24_85 ?_
    refine XS.bipush X30.here hx rfl (hb hby d24_86) ?_
    refine own_cn X30 hx hby d24_88 (tlt (own_t_9e hc5 hc26)).2.1 ?_
    refine own_aN X30 hx hby d24_91 ?_
    refine XS.iinc X30.here hx rfl (hb hby d24_92) rfl (l' := #[iv (own_x qa ((kk - 1) / 2)), iv (Int32.ofNat (n0 + kk)), rv bf, (own_slot y26_0), (own_slot y26_1), iv (((Int32.ofNat (n0 + kk - 2 * ((kk - 1) / 2))) + (-1 : Int32)) + (-1 : Int32)), iv (0 : Int32)]) rfl ?_
    refine own_i X30 hx hby d24_95 ?_
    refine st31 _ ?_
    refine own_iN X31 hx hby d24_100 ?_
    refine XS.ineg X31.here hx rfl (hb hby d24_101) rfl ?_
    show own_S p e below T31 (mkF m 102 #[iv (own_x qa ((kk - 1) / 2)), iv (Int32.ofNat (n0 + kk)), rv bf, (own_slot y26_0), (own_slot y26_1), iv (((Int32.ofNat (n0 + kk - 2 * ((kk - 1) / 2))) + (-1 : Int32)) + (-1 : Int32)), iv (0 : Int32)] [(.int (-(own_x qa ((kk - 1) / 2)))), (.ref w_DT), (.int (((Int32.ofNat (n0 + kk - 2 * ((kk - 1) / 2))) + (-1 : Int32)) + (-1 : Int32))), (.ref bf)]) _
    rw [(own_xn (own_less hc5))]
    refine X31.baloadBytes hx (j := (own_r qa ((kk - 1) / 2))) (v := (.int (own_d qa (2 * ((kk - 1) / 2) + 1)))) (by rw [e31]; exact Ar32.1) (State.isArrayOf_alike hZ.alike Ar32.2.1) Ar32.2.2 hin32 hat32 (g := (mkF m 102 #[iv (own_x qa ((kk - 1) / 2)), iv (Int32.ofNat (n0 + kk)), rv bf, (own_slot y26_0), (own_slot y26_1), iv (((Int32.ofNat (n0 + kk - 2 * ((kk - 1) / 2))) + (-1 : Int32)) + (-1 : Int32)), iv (0 : Int32)] [(.int (own_r qa ((kk - 1) / 2))), (.ref w_DT), (.int (((Int32.ofNat (n0 + kk - 2 * ((kk - 1) / 2))) + (-1 : Int32)) + (-1 : Int32))), (.ref bf)])) rfl rfl (hb hby d24_102) _ ?_
    refine st34 _ ?_
    refine own_i X34 hx hby d24_104 ?_
    refine own_iy (pc := 106) X34 hx hby d24_106 (teq (rfl : (0 : Int32) = (0 : Int32))).1 118 ?_
    refine own_i X34 hx hby d24_118 ?_
    exact retI X34 hx hret (hb hby d24_120) hr
  · show Qrm24 Z kk bf kf us xs n0 h0 _ T34.heap _
    rw [e34]
    exact ⟨rfl, N34, K34, V34⟩
def Qrm35 (Z : State) (kk : Nat) (bf : Addr) (kf : ClassId) (us xs : List Value) (n0 : Nat) (h0 : Heap) (v : Option Value) (h : Heap) (L : List Loc) : Prop := v = some (.int (((Int32.ofNat (n0 + kk - 2 * ((kk - 1) / 2))) + (-1 : Int32)) + (-1 : Int32))) ∧ Fr Z.heap.size L ∧ Keep h0 h [bf] ∧ Arv Z h bf kf .byte (Int32.ofNat us.length) (xs.set (n0 - 1) (.int (45 : Int32))) (.int (0 : Int32))
theorem rm35 (l : Launch) (Z : State) (a0 : Array Value) (hw : own_HW Z a0) (ws : List Jvm.Cond) (qa : Int32) (kk : Nat) (w_DO : Addr) (k_w_DO : ClassId) (w_DT : Addr) (k_w_DT : ClassId) (bf : Addr) (kf : ClassId) (us xs : List Value) (n0 : Nat) (h0 : Heap) (Z0 : Ext Z.heap h0) (S_w_DO : own_Sw_DO Z w_DO) (A_w_DO : Arv Z Z.heap w_DO k_w_DO .byte (100 : Int32) own_ones (.int (0 : Int32))) (S_w_DT : own_Sw_DT Z w_DT) (A_w_DT : Arv Z Z.heap w_DT k_w_DT .byte (100 : Int32) own_tens (.int (0 : Int32))) (V_bf : Arv Z h0 bf kf .byte (Int32.ofNat us.length) us (.int (0 : Int32))) (g_bf : Z.heap.size ≤ bf) (hc8 : (own_x qa 0) < (0 : Int32)) (hc5 : own_nk qa kk) (hc24 : own_gx us xs n0 kk qa) (hc25 : own_par kk 1) (hc27 : 0 < n0) :
    own_met l y_1 jdk_33_method_12_code 7 (some .int) ws ({ frames := 0, cells := 0, slots := 0, locals := 0 } : Room) Z #[(.int (own_x qa 0)), (.int (Int32.ofNat (n0 + kk))), (.ref bf)] h0 (Qrm35 Z kk bf kf us xs n0 h0) := by
  refine own_start (plainFor_of_name pn_0) (fun m => ef_jdk_33_method_12_IIR m (own_x qa 0) (Int32.ofNat (n0 + kk)) bf) ?_
  intro p e s m below meth c s₁ hx hby hml hown hnm X0 hZ e0 hret hlk
  have N0 := Fr.nil Z.heap.size
  have vp36 : Arv Z h0 bf kf .byte (Int32.ofNat us.length) (own_mix (n0 + kk - 2 * 0) us xs) (.int (0 : Int32)) := by rw [Nat.mul_zero, Nat.sub_zero, own_gx_start hc24]; exact V_bf
  obtain ⟨T37, L37, h37, y37_0, y37_1, X37, e37, N37, K37q, XX37, q37_V_bf, st37⟩ := own_lpC Z a0 hw bf kf us xs n0 kk qa (Int32.ofNat us.length) w_DO k_w_DO w_DT k_w_DT (1 : Int32) ((kk - 1) / 2) S_w_DO A_w_DO S_w_DT A_w_DT hc5 hc24 rfl (Nat.le_refl _) g_bf hx hZ hby hml hown _ 0 (Nat.zero_add _) _ _ _ none none Z0 vp36 X0 e0 N0
  have K37 := (Keep.refl h0 [bf]).trans K37q (allS (Or.inl (List.mem_of_getElem? (i := 0) rfl)) all0)
  obtain ⟨T38, X38, e38, st38⟩ := getS2 X37 hx hZ hown (host := "") (Or.inl (own_w hw 142 rfl)) Via.refl e37 (S_w_DO.ext XX37) (g := (mkF m 78 #[iv (own_x qa ((kk - 1) / 2)), iv (Int32.ofNat (n0 + kk)), rv bf, (own_slot y37_0), (own_slot y37_1), iv ((Int32.ofNat (n0 + kk - 2 * ((kk - 1) / 2))) + (-1 : Int32)), iv (1 : Int32)] [(.int ((Int32.ofNat (n0 + kk - 2 * ((kk - 1) / 2))) + (-1 : Int32))), (.ref bf)])) rfl (hb hby d24_78)
  obtain ⟨cl39, Ar39, q39, S39, Nn39, H39, G39⟩ := id (A_w_DO.ext XX37)
  have hin39 : ¬ ((own_r qa ((kk - 1) / 2)) < 0 ∨ cl39.slots.size ≤ ((own_r qa ((kk - 1) / 2))).toNatClampNeg) := inb_of S39 (own_rib qa _)
  have hat39 : cl39.slots[((own_r qa ((kk - 1) / 2))).toNatClampNeg]? = some (.int (own_d qa (2 * ((kk - 1) / 2)))) := Has.at H39 hin39 (own_r1 qa _)
  obtain ⟨cl40, Ar40, q40, S40, Nn40, H40, G40⟩ := id q37_V_bf
  have hin40 : ¬ (((Int32.ofNat (n0 + kk - 2 * ((kk - 1) / 2))) + (-1 : Int32)) < 0 ∨ cl40.slots.size ≤ (((Int32.ofNat (n0 + kk - 2 * ((kk - 1) / 2))) + (-1 : Int32))).toNatClampNeg) := inb_of S40 (own_t_ib1 hc5 hc24)
  obtain ⟨T41, h41, X41, e41, W41, st41⟩ := stB X38 hx hZ e38 Ar40 (j := ((Int32.ofNat (n0 + kk - 2 * ((kk - 1) / 2))) + (-1 : Int32))) hin40 (g := (mkF m 84 #[iv (own_x qa ((kk - 1) / 2)), iv (Int32.ofNat (n0 + kk)), rv bf, (own_slot y37_0), (own_slot y37_1), iv ((Int32.ofNat (n0 + kk - 2 * ((kk - 1) / 2))) + (-1 : Int32)), iv (1 : Int32)] [(.int (own_d qa (2 * ((kk - 1) / 2)))), (.int ((Int32.ofNat (n0 + kk - 2 * ((kk - 1) / 2))) + (-1 : Int32))), (.ref bf)])) rfl rfl (hb hby d24_84)
  rw [(own_dnb qa _)] at W41
  have V41 : Arv Z h41 bf kf .byte (Int32.ofNat us.length) ((own_mix (n0 + kk - 2 * ((kk - 1) / 2)) us xs).set (n0 + kk - 2 * ((kk - 1) / 2) - 1) (.int (own_d qa (2 * ((kk - 1) / 2))))) (.int (0 : Int32)) := Arv.set Ar40 q40 S40 Nn40 H40 G40 (by rw [← (own_dnb qa _)]; exact fits_nar_byte _) W41 (n0 + kk - 2 * ((kk - 1) / 2) - 1) (own_t_n1 hc5 hc24) (own_t_l1 hc5 hc24)
  rw [own_gx_o hc24 hc25] at V41
  have K41 := K37.wr W41 (Or.inl (List.mem_of_getElem? (i := 0) rfl))
  have N41 := Fr.snoc X41 N37 g_bf
  obtain ⟨cl42, Ar42, q42, S42, Nn42, H42, G42⟩ := id V41
  have hin42 : ¬ ((((Int32.ofNat (n0 + kk - 2 * ((kk - 1) / 2))) + (-1 : Int32)) + (-1 : Int32)) < 0 ∨ cl42.slots.size ≤ ((((Int32.ofNat (n0 + kk - 2 * ((kk - 1) / 2))) + (-1 : Int32)) + (-1 : Int32))).toNatClampNeg) := inb_of S42 (own_m_ib (own_ret_o hc25) hc24 hc27)
  obtain ⟨T43, h43, X43, e43, W43, st43⟩ := stB X41 hx hZ e41 Ar42 (j := (((Int32.ofNat (n0 + kk - 2 * ((kk - 1) / 2))) + (-1 : Int32)) + (-1 : Int32))) hin42 (g := (mkF m 117 #[iv (own_x qa ((kk - 1) / 2)), iv (Int32.ofNat (n0 + kk)), rv bf, (own_slot y37_0), (own_slot y37_1), iv (((Int32.ofNat (n0 + kk - 2 * ((kk - 1) / 2))) + (-1 : Int32)) + (-1 : Int32)), iv (1 : Int32)] [(.int (45 : Int32)), (.int (((Int32.ofNat (n0 + kk - 2 * ((kk - 1) / 2))) + (-1 : Int32)) + (-1 : Int32))), (.ref bf)])) rfl rfl (hb hby d24_117)
  have V43 : Arv Z h43 bf kf .byte (Int32.ofNat us.length) (xs.set (n0 - 1) (.int (45 : Int32))) (.int (0 : Int32)) := Arv.set Ar42 q42 S42 Nn42 H42 G42 (fits_nar_byte _) W43 (n0 - 1) (own_m_n (own_ret_o hc25) hc24 hc27) (own_t_l3 hc24 hc27)
  have K43 := K41.wr W43 (Or.inl (List.mem_of_getElem? (i := 0) rfl))
  have N43 := Fr.snoc X43 N41 g_bf
  obtain ⟨_, hr, hrun, hended, hW, hsame⟩ := X43.leave (v := some (.int (((Int32.ofNat (n0 + kk - 2 * ((kk - 1) / 2))) + (-1 : Int32)) + (-1 : Int32)))) (fun h => by rw [hret] at h; cases h) hlk
  refine ⟨_, _, ?_, hrun, hended, _, _, rfl, ?_, ⟨_, rfl⟩, hW, hsame.mono (by decide) (by decide)⟩
  · show own_S p e below s₁ (mkF m 0 #[iv (own_x qa 0), iv (Int32.ofNat (n0 + kk)), rv bf, .unset, .unset, .unset, .unset] []) _
    refine own_iN X0 hx hby d24_0 ?_
    refine XS.istore X0.here hx rfl (hb hby d24_1) rfl (l' := #[iv (own_x qa 0), iv (Int32.ofNat (n0 + kk)), rv bf, .unset, .unset, iv (Int32.ofNat (n0 + kk)), .unset]) rfl ?_
    refine own_iN X0 hx hby d24_3 ?_
    refine own_in X0 hx hby d24_4 (tlt hc8).2.1 ?_
    refine own_k X0 hx hby d24_7 ?_
    refine own_go (pc := 8) X0 hx hby d24_8 12 ?_
    refine XS.istore X0.here hx rfl (hb hby d24_12) rfl (l' := #[iv (own_x qa 0), iv (Int32.ofNat (n0 + kk)), rv bf, .unset, .unset, iv (Int32.ofNat (n0 + kk)), iv (1 : Int32)]) rfl ?_
    refine own_i X0 hx hby d24_14 ?_
    refine own_iy (pc := 16) X0 hx hby d24_16 (feq (by decide : ¬ ((1 : Int32) = (0 : Int32)))).2 22 ?_
    refine st37 _ ?_
    show own_S p e below T37 (mkF m 22 #[iv (own_x qa ((kk - 1) / 2)), iv (Int32.ofNat (n0 + kk)), rv bf, (own_slot y37_0), (own_slot y37_1), iv (Int32.ofNat (n0 + kk - 2 * ((kk - 1) / 2))), iv (1 : Int32)] []) _
    refine own_iN X37 hx hby d24_22 ?_
    refine XS.bipush X37.here hx rfl (hb hby d24_23) ?_
    refine own_cy (pc := 25) X37 hx hby d24_25 (tlt (own_t_100 hc5)).2.2.1 72 ?_
    refine own_aN X37 hx hby d24_72 ?_
    refine XS.iinc X37.here hx rfl (hb hby d24_73) rfl (l' := #[iv (own_x qa ((kk - 1) / 2)), iv (Int32.ofNat (n0 + kk)), rv bf, (own_slot y37_0), (own_slot y37_1), iv ((Int32.ofNat (n0 + kk - 2 * ((kk - 1) / 2))) + (-1 : Int32)), iv (1 : Int32)]) rfl ?_
    refine own_i X37 hx hby d24_76 ?_
    refine st38 _ ?_
    refine own_iN X38 hx hby d24_81 ?_
    refine XS.ineg X38.here hx rfl (hb hby d24_82) rfl ?_
    show own_S p e below T38 (mkF m 83 #[iv (own_x qa ((kk - 1) / 2)), iv (Int32.ofNat (n0 + kk)), rv bf, (own_slot y37_0), (own_slot y37_1), iv ((Int32.ofNat (n0 + kk - 2 * ((kk - 1) / 2))) + (-1 : Int32)), iv (1 : Int32)] [(.int (-(own_x qa ((kk - 1) / 2)))), (.ref w_DO), (.int ((Int32.ofNat (n0 + kk - 2 * ((kk - 1) / 2))) + (-1 : Int32))), (.ref bf)]) _
    rw [(own_xn (own_less hc5))]
    refine X38.baloadBytes hx (j := (own_r qa ((kk - 1) / 2))) (v := (.int (own_d qa (2 * ((kk - 1) / 2))))) (by rw [e38]; exact Ar39.1) (State.isArrayOf_alike hZ.alike Ar39.2.1) Ar39.2.2 hin39 hat39 (g := (mkF m 83 #[iv (own_x qa ((kk - 1) / 2)), iv (Int32.ofNat (n0 + kk)), rv bf, (own_slot y37_0), (own_slot y37_1), iv ((Int32.ofNat (n0 + kk - 2 * ((kk - 1) / 2))) + (-1 : Int32)), iv (1 : Int32)] [(.int (own_r qa ((kk - 1) / 2))), (.ref w_DO), (.int ((Int32.ofNat (n0 + kk - 2 * ((kk - 1) / 2))) + (-1 : Int32))), (.ref bf)])) rfl rfl (hb hby d24_83) _ ?_
    refine st41 _ ?_
    refine own_iN X41 hx hby d24_85 ?_
    refine XS.bipush X41.here hx rfl (hb hby d24_86) ?_
    refine own_cy (pc := 88) X41 hx hby d24_88 (flt (own_t_9o hc5 hc25)).2.1 104 ?_
    refine own_i X41 hx hby d24_104 ?_
    refine own_in X41 hx hby d24_106 (feq (by decide : ¬ ((1 : Int32) = (0 : Int32)))).1 ?_
    refine own_aN X41 hx hby d24_109 ?_
    refine XS.iinc X41.here hx rfl (hb hby d24_110) rfl (l' := #[iv (own_x qa ((kk - 1) / 2)), iv (Int32.ofNat (n0 + kk)), rv bf, (own_slot y37_0), (own_slot y37_1), iv (((Int32.ofNat (n0 + kk - 2 * ((kk - 1) / 2))) + (-1 : Int32)) + (-1 : Int32)), iv (1 : Int32)]) rfl ?_
    refine own_i X41 hx hby d24_113 ?_
    refine XS.bipush X41.here hx rfl (hb hby d24_115) ?_
    refine st43 _ ?_
    refine own_i X43 hx hby d24_118 ?_
    exact retI X43 hx hret (hb hby d24_120) hr
  · show Qrm35 Z kk bf kf us xs n0 h0 _ T43.heap _
    rw [e43]
    exact ⟨rfl, N43, K43, V43⟩
def Qrm44 (Z : State) (kk : Nat) (bf : Addr) (kf : ClassId) (us xs : List Value) (n0 : Nat) (h0 : Heap) (v : Option Value) (h : Heap) (L : List Loc) : Prop := v = some (.int ((((Int32.ofNat (n0 + kk - 2 * ((kk - 1) / 2))) + (-1 : Int32)) + (-1 : Int32)) + (-1 : Int32))) ∧ Fr Z.heap.size L ∧ Keep h0 h [bf] ∧ Arv Z h bf kf .byte (Int32.ofNat us.length) (xs.set (n0 - 1) (.int (45 : Int32))) (.int (0 : Int32))
theorem rm44 (l : Launch) (Z : State) (a0 : Array Value) (hw : own_HW Z a0) (ws : List Jvm.Cond) (qa : Int32) (kk : Nat) (w_DO : Addr) (k_w_DO : ClassId) (w_DT : Addr) (k_w_DT : ClassId) (bf : Addr) (kf : ClassId) (us xs : List Value) (n0 : Nat) (h0 : Heap) (Z0 : Ext Z.heap h0) (S_w_DO : own_Sw_DO Z w_DO) (A_w_DO : Arv Z Z.heap w_DO k_w_DO .byte (100 : Int32) own_ones (.int (0 : Int32))) (S_w_DT : own_Sw_DT Z w_DT) (A_w_DT : Arv Z Z.heap w_DT k_w_DT .byte (100 : Int32) own_tens (.int (0 : Int32))) (V_bf : Arv Z h0 bf kf .byte (Int32.ofNat us.length) us (.int (0 : Int32))) (g_bf : Z.heap.size ≤ bf) (hc8 : (own_x qa 0) < (0 : Int32)) (hc5 : own_nk qa kk) (hc24 : own_gx us xs n0 kk qa) (hc26 : own_par kk 2) (hc27 : 0 < n0) :
    own_met l y_1 jdk_33_method_12_code 7 (some .int) ws ({ frames := 0, cells := 0, slots := 0, locals := 0 } : Room) Z #[(.int (own_x qa 0)), (.int (Int32.ofNat (n0 + kk))), (.ref bf)] h0 (Qrm44 Z kk bf kf us xs n0 h0) := by
  refine own_start (plainFor_of_name pn_0) (fun m => ef_jdk_33_method_12_IIR m (own_x qa 0) (Int32.ofNat (n0 + kk)) bf) ?_
  intro p e s m below meth c s₁ hx hby hml hown hnm X0 hZ e0 hret hlk
  have N0 := Fr.nil Z.heap.size
  have vp45 : Arv Z h0 bf kf .byte (Int32.ofNat us.length) (own_mix (n0 + kk - 2 * 0) us xs) (.int (0 : Int32)) := by rw [Nat.mul_zero, Nat.sub_zero, own_gx_start hc24]; exact V_bf
  obtain ⟨T46, L46, h46, y46_0, y46_1, X46, e46, N46, K46q, XX46, q46_V_bf, st46⟩ := own_lpC Z a0 hw bf kf us xs n0 kk qa (Int32.ofNat us.length) w_DO k_w_DO w_DT k_w_DT (1 : Int32) ((kk - 1) / 2) S_w_DO A_w_DO S_w_DT A_w_DT hc5 hc24 rfl (Nat.le_refl _) g_bf hx hZ hby hml hown _ 0 (Nat.zero_add _) _ _ _ none none Z0 vp45 X0 e0 N0
  have K46 := (Keep.refl h0 [bf]).trans K46q (allS (Or.inl (List.mem_of_getElem? (i := 0) rfl)) all0)
  obtain ⟨T47, X47, e47, st47⟩ := getS2 X46 hx hZ hown (host := "") (Or.inl (own_w hw 142 rfl)) Via.refl e46 (S_w_DO.ext XX46) (g := (mkF m 78 #[iv (own_x qa ((kk - 1) / 2)), iv (Int32.ofNat (n0 + kk)), rv bf, (own_slot y46_0), (own_slot y46_1), iv ((Int32.ofNat (n0 + kk - 2 * ((kk - 1) / 2))) + (-1 : Int32)), iv (1 : Int32)] [(.int ((Int32.ofNat (n0 + kk - 2 * ((kk - 1) / 2))) + (-1 : Int32))), (.ref bf)])) rfl (hb hby d24_78)
  obtain ⟨cl48, Ar48, q48, S48, Nn48, H48, G48⟩ := id (A_w_DO.ext XX46)
  have hin48 : ¬ ((own_r qa ((kk - 1) / 2)) < 0 ∨ cl48.slots.size ≤ ((own_r qa ((kk - 1) / 2))).toNatClampNeg) := inb_of S48 (own_rib qa _)
  have hat48 : cl48.slots[((own_r qa ((kk - 1) / 2))).toNatClampNeg]? = some (.int (own_d qa (2 * ((kk - 1) / 2)))) := Has.at H48 hin48 (own_r1 qa _)
  obtain ⟨cl49, Ar49, q49, S49, Nn49, H49, G49⟩ := id q46_V_bf
  have hin49 : ¬ (((Int32.ofNat (n0 + kk - 2 * ((kk - 1) / 2))) + (-1 : Int32)) < 0 ∨ cl49.slots.size ≤ (((Int32.ofNat (n0 + kk - 2 * ((kk - 1) / 2))) + (-1 : Int32))).toNatClampNeg) := inb_of S49 (own_t_ib1 hc5 hc24)
  obtain ⟨T50, h50, X50, e50, W50, st50⟩ := stB X47 hx hZ e47 Ar49 (j := ((Int32.ofNat (n0 + kk - 2 * ((kk - 1) / 2))) + (-1 : Int32))) hin49 (g := (mkF m 84 #[iv (own_x qa ((kk - 1) / 2)), iv (Int32.ofNat (n0 + kk)), rv bf, (own_slot y46_0), (own_slot y46_1), iv ((Int32.ofNat (n0 + kk - 2 * ((kk - 1) / 2))) + (-1 : Int32)), iv (1 : Int32)] [(.int (own_d qa (2 * ((kk - 1) / 2)))), (.int ((Int32.ofNat (n0 + kk - 2 * ((kk - 1) / 2))) + (-1 : Int32))), (.ref bf)])) rfl rfl (hb hby d24_84)
  rw [(own_dnb qa _)] at W50
  have V50 : Arv Z h50 bf kf .byte (Int32.ofNat us.length) ((own_mix (n0 + kk - 2 * ((kk - 1) / 2)) us xs).set (n0 + kk - 2 * ((kk - 1) / 2) - 1) (.int (own_d qa (2 * ((kk - 1) / 2))))) (.int (0 : Int32)) := Arv.set Ar49 q49 S49 Nn49 H49 G49 (by rw [← (own_dnb qa _)]; exact fits_nar_byte _) W50 (n0 + kk - 2 * ((kk - 1) / 2) - 1) (own_t_n1 hc5 hc24) (own_t_l1 hc5 hc24)
  rw [own_gx_e hc24 hc26] at V50
  have K50 := K46.wr W50 (Or.inl (List.mem_of_getElem? (i := 0) rfl))
  have XX50 := own_extW XX46 W50 g_bf
  have N50 := Fr.snoc X50 N46 g_bf
  obtain ⟨T51, X51, e51, st51⟩ := getS2 X50 hx hZ hown (host := "") (Or.inl (own_w hw 227 rfl)) Via.refl e50 (S_w_DT.ext XX50) (g := (mkF m 97 #[iv (own_x qa ((kk - 1) / 2)), iv (Int32.ofNat (n0 + kk)), rv bf, (own_slot y46_0), (own_slot y46_1), iv (((Int32.ofNat (n0 + kk - 2 * ((kk - 1) / 2))) + (-1 : Int32)) + (-1 : Int32)), iv (1 : Int32)] [(.int (((Int32.ofNat (n0 + kk - 2 * ((kk - 1) / 2))) + (-1 : Int32)) + (-1 : Int32))), (.ref bf)])) rfl (hb hby d24_97)
  obtain ⟨cl52, Ar52, q52, S52, Nn52, H52, G52⟩ := id (A_w_DT.ext XX50)
  have hin52 : ¬ ((own_r qa ((kk - 1) / 2)) < 0 ∨ cl52.slots.size ≤ ((own_r qa ((kk - 1) / 2))).toNatClampNeg) := inb_of S52 (own_rib qa _)
  have hat52 : cl52.slots[((own_r qa ((kk - 1) / 2))).toNatClampNeg]? = some (.int (own_d qa (2 * ((kk - 1) / 2) + 1))) := Has.at H52 hin52 (own_r2 qa _)
  obtain ⟨cl53, Ar53, q53, S53, Nn53, H53, G53⟩ := id V50
  have hin53 : ¬ ((((Int32.ofNat (n0 + kk - 2 * ((kk - 1) / 2))) + (-1 : Int32)) + (-1 : Int32)) < 0 ∨ cl53.slots.size ≤ ((((Int32.ofNat (n0 + kk - 2 * ((kk - 1) / 2))) + (-1 : Int32)) + (-1 : Int32))).toNatClampNeg) := inb_of S53 (own_t_ib2 hc5 hc24 hc26)
  obtain ⟨T54, h54, X54, e54, W54, st54⟩ := stB X51 hx hZ e51 Ar53 (j := (((Int32.ofNat (n0 + kk - 2 * ((kk - 1) / 2))) + (-1 : Int32)) + (-1 : Int32))) hin53 (g := (mkF m 103 #[iv (own_x qa ((kk - 1) / 2)), iv (Int32.ofNat (n0 + kk)), rv bf, (own_slot y46_0), (own_slot y46_1), iv (((Int32.ofNat (n0 + kk - 2 * ((kk - 1) / 2))) + (-1 : Int32)) + (-1 : Int32)), iv (1 : Int32)] [(.int (own_d qa (2 * ((kk - 1) / 2) + 1))), (.int (((Int32.ofNat (n0 + kk - 2 * ((kk - 1) / 2))) + (-1 : Int32)) + (-1 : Int32))), (.ref bf)])) rfl rfl (hb hby d24_103)
  rw [(own_dnb qa _)] at W54
  have V54 : Arv Z h54 bf kf .byte (Int32.ofNat us.length) ((own_mix (n0 + kk - 2 * ((kk - 1) / 2) - 1) us xs).set (n0 + kk - 2 * ((kk - 1) / 2) - 1 - 1) (.int (own_d qa (2 * ((kk - 1) / 2) + 1)))) (.int (0 : Int32)) := Arv.set Ar53 q53 S53 Nn53 H53 G53 (by rw [← (own_dnb qa _)]; exact fits_nar_byte _) W54 (n0 + kk - 2 * ((kk - 1) / 2) - 1 - 1) (own_t_n2 hc5 hc24 hc26) (own_t_l2 hc24 hc26)
  rw [own_gx_e2 hc24 hc26] at V54
  have K54 := K50.wr W54 (Or.inl (List.mem_of_getElem? (i := 0) rfl))
  have N54 := Fr.snoc X54 N50 g_bf
  obtain ⟨cl55, Ar55, q55, S55, Nn55, H55, G55⟩ := id V54
  have hin55 : ¬ (((((Int32.ofNat (n0 + kk - 2 * ((kk - 1) / 2))) + (-1 : Int32)) + (-1 : Int32)) + (-1 : Int32)) < 0 ∨ cl55.slots.size ≤ (((((Int32.ofNat (n0 + kk - 2 * ((kk - 1) / 2))) + (-1 : Int32)) + (-1 : Int32)) + (-1 : Int32))).toNatClampNeg) := inb_of S55 (own_m_ib (own_ret_e hc26) hc24 hc27)
  obtain ⟨T56, h56, X56, e56, W56, st56⟩ := stB X54 hx hZ e54 Ar55 (j := ((((Int32.ofNat (n0 + kk - 2 * ((kk - 1) / 2))) + (-1 : Int32)) + (-1 : Int32)) + (-1 : Int32))) hin55 (g := (mkF m 117 #[iv (own_x qa ((kk - 1) / 2)), iv (Int32.ofNat (n0 + kk)), rv bf, (own_slot y46_0), (own_slot y46_1), iv ((((Int32.ofNat (n0 + kk - 2 * ((kk - 1) / 2))) + (-1 : Int32)) + (-1 : Int32)) + (-1 : Int32)), iv (1 : Int32)] [(.int (45 : Int32)), (.int ((((Int32.ofNat (n0 + kk - 2 * ((kk - 1) / 2))) + (-1 : Int32)) + (-1 : Int32)) + (-1 : Int32))), (.ref bf)])) rfl rfl (hb hby d24_117)
  have V56 : Arv Z h56 bf kf .byte (Int32.ofNat us.length) (xs.set (n0 - 1) (.int (45 : Int32))) (.int (0 : Int32)) := Arv.set Ar55 q55 S55 Nn55 H55 G55 (fits_nar_byte _) W56 (n0 - 1) (own_m_n (own_ret_e hc26) hc24 hc27) (own_t_l3 hc24 hc27)
  have K56 := K54.wr W56 (Or.inl (List.mem_of_getElem? (i := 0) rfl))
  have N56 := Fr.snoc X56 N54 g_bf
  obtain ⟨_, hr, hrun, hended, hW, hsame⟩ := X56.leave (v := some (.int ((((Int32.ofNat (n0 + kk - 2 * ((kk - 1) / 2))) + (-1 : Int32)) + (-1 : Int32)) + (-1 : Int32)))) (fun h => by rw [hret] at h; cases h) hlk
  refine ⟨_, _, ?_, hrun, hended, _, _, rfl, ?_, ⟨_, rfl⟩, hW, hsame.mono (by decide) (by decide)⟩
  · show own_S p e below s₁ (mkF m 0 #[iv (own_x qa 0), iv (Int32.ofNat (n0 + kk)), rv bf, .unset, .unset, .unset, .unset] []) _
    refine own_iN X0 hx hby d24_0 ?_
    refine XS.istore X0.here hx rfl (hb hby d24_1) rfl (l' := #[iv (own_x qa 0), iv (Int32.ofNat (n0 + kk)), rv bf, .unset, .unset, iv (Int32.ofNat (n0 + kk)), .unset]) rfl ?_
    refine own_iN X0 hx hby d24_3 ?_
    refine own_in X0 hx hby d24_4 (tlt hc8).2.1 ?_
    refine own_k X0 hx hby d24_7 ?_
    refine own_go (pc := 8) X0 hx hby d24_8 12 ?_
    refine XS.istore X0.here hx rfl (hb hby d24_12) rfl (l' := #[iv (own_x qa 0), iv (Int32.ofNat (n0 + kk)), rv bf, .unset, .unset, iv (Int32.ofNat (n0 + kk)), iv (1 : Int32)]) rfl ?_
    refine own_i X0 hx hby d24_14 ?_
    refine own_iy (pc := 16) X0 hx hby d24_16 (feq (by decide : ¬ ((1 : Int32) = (0 : Int32)))).2 22 ?_
    refine st46 _ ?_
    show own_S p e below T46 (mkF m 22 #[iv (own_x qa ((kk - 1) / 2)), iv (Int32.ofNat (n0 + kk)), rv bf, (own_slot y46_0), (own_slot y46_1), iv (Int32.ofNat (n0 + kk - 2 * ((kk - 1) / 2))), iv (1 : Int32)] []) _
    refine own_iN X46 hx hby d24_22 ?_
    refine XS.bipush X46.here hx rfl (hb hby d24_23) ?_
    refine own_cy (pc := 25) X46 hx hby d24_25 (tlt (own_t_100 hc5)).2.2.1 72 ?_
    refine own_aN X46 hx hby d24_72 ?_
    refine XS.iinc X46.here hx rfl (hb hby d24_73) rfl (l' := #[iv (own_x qa ((kk - 1) / 2)), iv (Int32.ofNat (n0 + kk)), rv bf, (own_slot y46_0), (own_slot y46_1), iv ((Int32.ofNat (n0 + kk - 2 * ((kk - 1) / 2))) + (-1 : Int32)), iv (1 : Int32)]) rfl ?_
    refine own_i X46 hx hby d24_76 ?_
    refine st47 _ ?_
    refine own_iN X47 hx hby d24_81 ?_
    refine XS.ineg X47.here hx rfl (hb hby d24_82) rfl ?_
    show own_S p e below T47 (mkF m 83 #[iv (own_x qa ((kk - 1) / 2)), iv (Int32.ofNat (n0 + kk)), rv bf, (own_slot y46_0), (own_slot y46_1), iv ((Int32.ofNat (n0 + kk - 2 * ((kk - 1) / 2))) + (-1 : Int32)), iv (1 : Int32)] [(.int (-(own_x qa ((kk - 1) / 2)))), (.ref w_DO), (.int ((Int32.ofNat (n0 + kk - 2 * ((kk - 1) / 2))) + (-1 : Int32))), (.ref bf)]) _
    rw [(own_xn (own_less hc5))]
    refine X47.baloadBytes hx (j := (own_r qa ((kk - 1) / 2))) (v := (.int (own_d qa (2 * ((kk - 1) / 2))))) (by rw [e47]; exact Ar48.1) (State.isArrayOf_alike hZ.alike Ar48.2.1) Ar48.2.2 hin48 hat48 (g := (mkF m 83 #[iv (own_x qa ((kk - 1) / 2)), iv (Int32.ofNat (n0 + kk)), rv bf, (own_slot y46_0), (own_slot y46_1), iv ((Int32.ofNat (n0 + kk - 2 * ((kk - 1) / 2))) + (-1 : Int32)), iv (1 : Int32)] [(.int (own_r qa ((kk - 1) / 2))), (.ref w_DO), (.int ((Int32.ofNat (n0 + kk - 2 * ((kk - 1) / 2))) + (-1 : Int32))), (.ref bf)])) rfl rfl (hb hby d24_83) _ ?_
    refine st50 _ ?_
    refine own_iN X50 hx hby d24_85 ?_
    refine XS.bipush X50.here hx rfl (hb hby d24_86) ?_
    refine own_cn X50 hx hby d24_88 (tlt (own_t_9e hc5 hc26)).2.1 ?_
    refine own_aN X50 hx hby d24_91 ?_
    refine XS.iinc X50.here hx rfl (hb hby d24_92) rfl (l' := #[iv (own_x qa ((kk - 1) / 2)), iv (Int32.ofNat (n0 + kk)), rv bf, (own_slot y46_0), (own_slot y46_1), iv (((Int32.ofNat (n0 + kk - 2 * ((kk - 1) / 2))) + (-1 : Int32)) + (-1 : Int32)), iv (1 : Int32)]) rfl ?_
    refine own_i X50 hx hby d24_95 ?_
    refine st51 _ ?_
    refine own_iN X51 hx hby d24_100 ?_
    refine XS.ineg X51.here hx rfl (hb hby d24_101) rfl ?_
    show own_S p e below T51 (mkF m 102 #[iv (own_x qa ((kk - 1) / 2)), iv (Int32.ofNat (n0 + kk)), rv bf, (own_slot y46_0), (own_slot y46_1), iv (((Int32.ofNat (n0 + kk - 2 * ((kk - 1) / 2))) + (-1 : Int32)) + (-1 : Int32)), iv (1 : Int32)] [(.int (-(own_x qa ((kk - 1) / 2)))), (.ref w_DT), (.int (((Int32.ofNat (n0 + kk - 2 * ((kk - 1) / 2))) + (-1 : Int32)) + (-1 : Int32))), (.ref bf)]) _
    rw [(own_xn (own_less hc5))]
    refine X51.baloadBytes hx (j := (own_r qa ((kk - 1) / 2))) (v := (.int (own_d qa (2 * ((kk - 1) / 2) + 1)))) (by rw [e51]; exact Ar52.1) (State.isArrayOf_alike hZ.alike Ar52.2.1) Ar52.2.2 hin52 hat52 (g := (mkF m 102 #[iv (own_x qa ((kk - 1) / 2)), iv (Int32.ofNat (n0 + kk)), rv bf, (own_slot y46_0), (own_slot y46_1), iv (((Int32.ofNat (n0 + kk - 2 * ((kk - 1) / 2))) + (-1 : Int32)) + (-1 : Int32)), iv (1 : Int32)] [(.int (own_r qa ((kk - 1) / 2))), (.ref w_DT), (.int (((Int32.ofNat (n0 + kk - 2 * ((kk - 1) / 2))) + (-1 : Int32)) + (-1 : Int32))), (.ref bf)])) rfl rfl (hb hby d24_102) _ ?_
    refine st54 _ ?_
    refine own_i X54 hx hby d24_104 ?_
    refine own_in X54 hx hby d24_106 (feq (by decide : ¬ ((1 : Int32) = (0 : Int32)))).1 ?_
    refine own_aN X54 hx hby d24_109 ?_
    refine XS.iinc X54.here hx rfl (hb hby d24_110) rfl (l' := #[iv (own_x qa ((kk - 1) / 2)), iv (Int32.ofNat (n0 + kk)), rv bf, (own_slot y46_0), (own_slot y46_1), iv ((((Int32.ofNat (n0 + kk - 2 * ((kk - 1) / 2))) + (-1 : Int32)) + (-1 : Int32)) + (-1 : Int32)), iv (1 : Int32)]) rfl ?_
    refine own_i X54 hx hby d24_113 ?_
    refine XS.bipush X54.here hx rfl (hb hby d24_115) ?_
    refine st56 _ ?_
    refine own_i X56 hx hby d24_118 ?_
    exact retI X56 hx hret (hb hby d24_120) hr
  · show Qrm44 Z kk bf kf us xs n0 h0 _ T56.heap _
    rw [e56]
    exact ⟨rfl, N56, K56, V56⟩
def Qown_gcG (Z : State) (bf : Addr) (kf : ClassId) (ys : List Value) (nn : Int32) (n0 : Nat) (h0 : Heap) (v : Option Value) (h : Heap) (L : List Loc) : Prop := v = some (.int (Int32.ofNat n0)) ∧ Fr Z.heap.size L ∧ Keep h0 h [bf] ∧ Arv Z h bf kf .byte nn ys (.int (0 : Int32))
theorem own_gcG (l : Launch) (Z : State) (a0 : Array Value) (hw : own_HW Z a0) (ws : List Jvm.Cond) (qa : Int32) (kk : Nat) (w_DO : Addr) (k_w_DO : ClassId) (w_DT : Addr) (k_w_DT : ClassId) (bf : Addr) (kf : ClassId) (us ys : List Value) (nn : Int32) (n0 : Nat) (h0 : Heap) (Z0 : Ext Z.heap h0) (S_w_DO : own_Sw_DO Z w_DO) (A_w_DO : Arv Z Z.heap w_DO k_w_DO .byte (100 : Int32) own_ones (.int (0 : Int32))) (S_w_DT : own_Sw_DT Z w_DT) (A_w_DT : Arv Z Z.heap w_DT k_w_DT .byte (100 : Int32) own_tens (.int (0 : Int32))) (V_bf : Arv Z h0 bf kf .byte nn us (.int (0 : Int32))) (g_bf : Z.heap.size ≤ bf) (hc9 : own_nd qa kk) (hc28 : own_gy us ys n0 kk qa) (hc29 : own_ln us nn) :
    own_met l y_1 jdk_33_method_12_code 7 (some .int) ws ({ frames := 0, cells := 0, slots := 0, locals := 0 } : Room) Z #[(.int qa), (.int (Int32.ofNat (n0 + kk))), (.ref bf)] h0 (Qown_gcG Z bf kf ys nn n0 h0) := by
  obtain rfl := hc29
  rcases hc9 with ⟨hp, hk⟩ | ⟨k, rfl, hn, hk⟩
  · have hg := own_gy_p hp hc28
    rcases own_par_cases hk.2.1 with hP | hP
    · exact own_mono (rm17 l Z a0 hw ws qa kk w_DO k_w_DO w_DT k_w_DT bf kf us ys n0 h0 Z0 S_w_DO A_w_DO S_w_DT A_w_DT V_bf g_bf hp hk hg hP) fun v h L ⟨z1, z2, z3, f0⟩ => ⟨z1.trans (by rw [own_ret_o hP]), z2, z3, f0⟩
    · exact own_mono (rm24 l Z a0 hw ws qa kk w_DO k_w_DO w_DT k_w_DT bf kf us ys n0 h0 Z0 S_w_DO A_w_DO S_w_DT A_w_DT V_bf g_bf hp hk hg hP) fun v h L ⟨z1, z2, z3, f0⟩ => ⟨z1.trans (by rw [own_ret_e hP]), z2, z3, f0⟩
  · have hg := own_gy_n hn hc28
    rw [show n0 + (k + 1) = n0 + 1 + k by omega]
    rcases own_par_cases hk.2.1 with hP | hP
    · have M := rm35 l Z a0 hw ws qa k w_DO k_w_DO w_DT k_w_DT bf kf us _ (n0 + 1) h0 Z0 S_w_DO A_w_DO S_w_DT A_w_DT V_bf g_bf (own_xn0 hn) hk hg.1 hP (Nat.succ_pos _)
      rw [← own_xneg hn] at M
      exact own_mono M fun v h L ⟨z1, z2, z3, f0⟩ => ⟨z1.trans (by rw [own_ret_o hP, own_dec (Nat.succ_pos _)] <;> rfl), z2, z3, hg.2 ▸ f0⟩
    · have M := rm44 l Z a0 hw ws qa k w_DO k_w_DO w_DT k_w_DT bf kf us _ (n0 + 1) h0 Z0 S_w_DO A_w_DO S_w_DT A_w_DT V_bf g_bf (own_xn0 hn) hk hg.1 hP (Nat.succ_pos _)
      rw [← own_xneg hn] at M
      exact own_mono M fun v h L ⟨z1, z2, z3, f0⟩ => ⟨z1.trans (by rw [own_ret_e hP, own_dec (Nat.succ_pos _)] <;> rfl), z2, z3, hg.2 ▸ f0⟩
theorem rm57 (l : Launch) (Z : State) (a0 : Array Value) (hw : own_HW Z a0) (ws : List Jvm.Cond) (bb ba : Addr) (kv : ClassId) (cs : List Int32) (tt : Nat) (h0 : Heap) (Z0 : Ext Z.heap h0) (F_bb_value : Fld Z h0 bb own_cA "value" "[B" (.ref ba)) (F_bb_coder : Fld Z h0 bb own_cA "coder" "B" (.int (0 : Int32))) (V_ba : Arv Z h0 ba kv .byte (16 : Int32) (own_buf 16 cs) (.int (0 : Int32))) (hc30 : tt ≤ 16) :
    own_met l y_2 jdk_68_method_9_code 3 none ws ({ frames := 0, cells := 0, slots := 0, locals := 0 } : Room) Z #[(.ref bb), (.int (Int32.ofNat tt))] h0 (own_qp Z none h0) := by
  refine own_start (plainFor_of_name pn_1) (fun m => ef_jdk_68_method_9_RI m bb (Int32.ofNat tt)) ?_
  intro p e s m below meth c s₁ hx hby hml hown hnm X0 hZ e0 hret hlk
  have N0 := Fr.nil Z.heap.size
  obtain ⟨T58, X58, e58, st58⟩ := getF X0 hx hZ hown (host := "") (Or.inl (own_w hw 69 rfl)) Via.refl e0 F_bb_value (g := (mkF m 1 #[rv bb, iv (Int32.ofNat tt), .unset] [(.ref bb)])) rfl rfl (hb hby d16_1)
  obtain ⟨cl59, Ar59, q59, S59, Nn59, H59, G59⟩ := id V_ba
  obtain ⟨T60, X60, e60, st60⟩ := getF X58 hx hZ hown (host := "") (Or.inl (own_w hw 71 rfl)) Via.refl e58 F_bb_coder (g := (mkF m 6 #[rv bb, iv (Int32.ofNat tt), .unset] [(.ref bb), (.int (16 : Int32))])) rfl rfl (hb hby d16_6)
  obtain ⟨_, hr, hrun, hended, hW, hsame⟩ := X60.leave (v := none) (fun _ => rfl) hlk
  refine ⟨_, _, ?_, hrun, hended, _, _, rfl, ?_, ⟨_, rfl⟩, hW, hsame.mono (by decide) (by decide)⟩
  · show own_S p e below s₁ (mkF m 0 #[rv bb, iv (Int32.ofNat tt), .unset] []) _
    refine own_aN X0 hx hby d16_0 ?_
    refine st58 _ ?_
    refine X58.arraylength hx (by rw [e58]; exact Ar59.1) (State.isArrayOf_alike hZ.alike Ar59.2.1) (g := (mkF m 4 #[rv bb, iv (Int32.ofNat tt), .unset] [(.ref ba)])) rfl rfl (hb hby d16_4) _ ?_
    rw [len_of S59 Nn59]
    refine own_aN X58 hx hby d16_5 ?_
    refine st60 _ ?_
    refine XS.ishr X60.here hx rfl (hb hby d16_9) rfl ?_
    show own_S p e below T60 (mkF m 10 #[rv bb, iv (Int32.ofNat tt), .unset] [(.int ((16 : Int32) >>> ((0 : Int32) &&& 31)))]) _
    rw [(by decide : ((16 : Int32) >>> ((0 : Int32) &&& 31)) = (16 : Int32))]
    refine XS.istoreN X60.here hx rfl (hb hby d16_10) rfl (l' := #[rv bb, iv (Int32.ofNat tt), iv (16 : Int32)]) rfl ?_
    refine own_iN X60 hx hby d16_11 ?_
    refine own_iN X60 hx hby d16_12 ?_
    refine XS.isub X60.here hx rfl (hb hby d16_13) rfl ?_
    refine own_iy (pc := 14) X60 hx hby d16_14 (flt (own_ng hc30)).2.2.2 38 ?_
    exact X60.returnOut hx hret (hb hby d16_38) hr
  · show own_qp Z none h0 _ T60.heap _
    rw [e60]
    exact ⟨rfl, N0, rfl⟩
theorem rm61 (l : Launch) (Z : State) (a0 : Array Value) (hw : own_HW Z a0) (ws : List Jvm.Cond) (bb ba : Addr) (kv : ClassId) (cs : List Int32) (tt : Nat) (h0 : Heap) (Z0 : Ext Z.heap h0) (F_bb_value : Fld Z h0 bb own_cA "value" "[B" (.ref ba)) (F_bb_coder : Fld Z h0 bb own_cA "coder" "B" (.int (0 : Int32))) (V_ba : Arv Z h0 ba kv .byte (34 : Int32) (own_buf 34 cs) (.int (0 : Int32))) (hc31 : tt ≤ 34) :
    own_met l y_2 jdk_68_method_9_code 3 none ws ({ frames := 0, cells := 0, slots := 0, locals := 0 } : Room) Z #[(.ref bb), (.int (Int32.ofNat tt))] h0 (own_qp Z none h0) := by
  refine own_start (plainFor_of_name pn_1) (fun m => ef_jdk_68_method_9_RI m bb (Int32.ofNat tt)) ?_
  intro p e s m below meth c s₁ hx hby hml hown hnm X0 hZ e0 hret hlk
  have N0 := Fr.nil Z.heap.size
  obtain ⟨T62, X62, e62, st62⟩ := getF X0 hx hZ hown (host := "") (Or.inl (own_w hw 69 rfl)) Via.refl e0 F_bb_value (g := (mkF m 1 #[rv bb, iv (Int32.ofNat tt), .unset] [(.ref bb)])) rfl rfl (hb hby d16_1)
  obtain ⟨cl63, Ar63, q63, S63, Nn63, H63, G63⟩ := id V_ba
  obtain ⟨T64, X64, e64, st64⟩ := getF X62 hx hZ hown (host := "") (Or.inl (own_w hw 71 rfl)) Via.refl e62 F_bb_coder (g := (mkF m 6 #[rv bb, iv (Int32.ofNat tt), .unset] [(.ref bb), (.int (34 : Int32))])) rfl rfl (hb hby d16_6)
  obtain ⟨_, hr, hrun, hended, hW, hsame⟩ := X64.leave (v := none) (fun _ => rfl) hlk
  refine ⟨_, _, ?_, hrun, hended, _, _, rfl, ?_, ⟨_, rfl⟩, hW, hsame.mono (by decide) (by decide)⟩
  · show own_S p e below s₁ (mkF m 0 #[rv bb, iv (Int32.ofNat tt), .unset] []) _
    refine own_aN X0 hx hby d16_0 ?_
    refine st62 _ ?_
    refine X62.arraylength hx (by rw [e62]; exact Ar63.1) (State.isArrayOf_alike hZ.alike Ar63.2.1) (g := (mkF m 4 #[rv bb, iv (Int32.ofNat tt), .unset] [(.ref ba)])) rfl rfl (hb hby d16_4) _ ?_
    rw [len_of S63 Nn63]
    refine own_aN X62 hx hby d16_5 ?_
    refine st64 _ ?_
    refine XS.ishr X64.here hx rfl (hb hby d16_9) rfl ?_
    show own_S p e below T64 (mkF m 10 #[rv bb, iv (Int32.ofNat tt), .unset] [(.int ((34 : Int32) >>> ((0 : Int32) &&& 31)))]) _
    rw [(by decide : ((34 : Int32) >>> ((0 : Int32) &&& 31)) = (34 : Int32))]
    refine XS.istoreN X64.here hx rfl (hb hby d16_10) rfl (l' := #[rv bb, iv (Int32.ofNat tt), iv (34 : Int32)]) rfl ?_
    refine own_iN X64 hx hby d16_11 ?_
    refine own_iN X64 hx hby d16_12 ?_
    refine XS.isub X64.here hx rfl (hb hby d16_13) rfl ?_
    refine own_iy (pc := 14) X64 hx hby d16_14 (flt (own_ng2 hc31)).2.2.2 38 ?_
    exact X64.returnOut hx hret (hb hby d16_38) hr
  · show own_qp Z none h0 _ T64.heap _
    rw [e64]
    exact ⟨rfl, N0, rfl⟩
theorem rm76 (l : Launch) (Z : State) (a0 : Array Value) (hw : own_HW Z a0) (ws : List Jvm.Cond) (tt : Nat) (h0 : Heap) (Z0 : Ext Z.heap h0) (hc32 : own_gw tt) :
    own_met l y_3 jdk_29_method_65_code 2 (some .int) ws ({ frames := 0, cells := 0, slots := 0, locals := 0 } : Room) Z #[(.int ((Int32.ofNat tt) - (16 : Int32))), (.int (18 : Int32))] h0 (own_qp Z (some (.int (18 : Int32))) h0) := by
  refine own_start pf_0 (fun m => ef_jdk_29_method_65_II m ((Int32.ofNat tt) - (16 : Int32)) (18 : Int32)) ?_
  intro p e s m below meth c s₁ hx hby hml hown hnm X0 hZ e0 hret hlk
  have N0 := Fr.nil Z.heap.size
  obtain ⟨_, hr, hrun, hended, hW, hsame⟩ := X0.leave (v := some (.int (18 : Int32))) (fun h => by rw [hret] at h; cases h) hlk
  refine ⟨_, _, ?_, hrun, hended, _, _, rfl, ?_, ⟨_, rfl⟩, hW, hsame.mono (by decide) (by decide)⟩
  · show own_S p e below s₁ (mkF m 0 #[iv ((Int32.ofNat tt) - (16 : Int32)), iv (18 : Int32)] []) _
    refine own_iN X0 hx hby d45_0 ?_
    refine own_iN X0 hx hby d45_1 ?_
    refine own_cy (pc := 2) X0 hx hby d45_2 (tlt (own_gw2 hc32)).1 9 ?_
    refine own_iN X0 hx hby d45_9 ?_
    exact retI X0 hx hret (hb hby d45_10) hr
  · show own_qp Z (some (.int (18 : Int32))) h0 _ s₁.heap _
    rw [e0]
    exact ⟨rfl, N0, rfl⟩
theorem rm75 (l : Launch) (Z : State) (a0 : Array Value) (hw : own_HW Z a0) (ws : List Jvm.Cond) (tt : Nat) (h0 : Heap) (Z0 : Ext Z.heap h0) (hc32 : own_gw tt) :
    own_met l y_4 jdk_48_method_27_code 4 (some .int) ws ({ frames := 1, cells := 0, slots := 0, locals := 14 } : Room) Z #[(.int (16 : Int32)), (.int ((Int32.ofNat tt) - (16 : Int32))), (.int (18 : Int32))] h0 (own_qp Z (some (.int (34 : Int32))) h0) := by
  refine own_start (plainFor_of_name pn_2) (fun m => ef_jdk_48_method_27_III m (16 : Int32) ((Int32.ofNat tt) - (16 : Int32)) (18 : Int32)) ?_
  intro p e s m below meth c s₁ hx hby hml hown hnm X0 hZ e0 hret hlk
  have N0 := Fr.nil Z.heap.size
  obtain ⟨_, T77, Lc77, X77, hQ77, st77⟩ := own_static (y := y_3) X0 hx hZ hown (own_w hw 246 rfl) (own_w hw 247 rfl) (own_w hw 182 rfl) (own_w hw 248 rfl) (rm76 l Z a0 hw [] tt h0 Z0 hc32) e0 (g := (mkF m 3 #[iv (16 : Int32), iv ((Int32.ofNat tt) - (16 : Int32)), iv (18 : Int32), .unset] [(.int (18 : Int32)), (.int ((Int32.ofNat tt) - (16 : Int32))), (.int (16 : Int32))])) (argsL := [(.int ((Int32.ofNat tt) - (16 : Int32))), (.int (18 : Int32))]) (rest := [(.int (16 : Int32))]) (W := 1) (lenOf pd_0 rfl) (hb hby d44_3) hml
  obtain ⟨rfl, N77q, e77⟩ := hQ77
  have N77 := Fr.app N0 N77q
  obtain ⟨_, hr, hrun, hended, hW, hsame⟩ := X77.leave (v := some (.int (34 : Int32))) (fun h => by rw [hret] at h; cases h) hlk
  refine ⟨_, _, ?_, hrun, hended, _, _, rfl, ?_, ⟨_, rfl⟩, hW, hsame.mono (by decide) (by decide)⟩
  · show own_S p e below s₁ (mkF m 0 #[iv (16 : Int32), iv ((Int32.ofNat tt) - (16 : Int32)), iv (18 : Int32), .unset] []) _
    refine own_iN X0 hx hby d44_0 ?_
    refine own_iN X0 hx hby d44_1 ?_
    refine own_iN X0 hx hby d44_2 ?_
    refine st77 _ ?_
    refine XS.iadd X77.here hx rfl (hb hby d44_6) rfl ?_
    show own_S p e below T77 (mkF m 7 #[iv (16 : Int32), iv ((Int32.ofNat tt) - (16 : Int32)), iv (18 : Int32), .unset] [(.int ((16 : Int32) + (18 : Int32)))]) _
    rw [(by decide : ((16 : Int32) + (18 : Int32)) = (34 : Int32))]
    refine XS.istoreN X77.here hx rfl (hb hby d44_7) rfl (l' := #[iv (16 : Int32), iv ((Int32.ofNat tt) - (16 : Int32)), iv (18 : Int32), iv (34 : Int32)]) rfl ?_
    refine own_k X77 hx hby d44_8 ?_
    refine own_iN X77 hx hby d44_9 ?_
    refine own_cn X77 hx hby d44_10 (tlt (by decide : (0 : Int32) < (34 : Int32))).2.1 ?_
    refine own_iN X77 hx hby d44_13 ?_
    refine X77.ldcInt hx hown (mvT hZ (own_w hw 249 rfl)) (g := (mkF m 14 #[iv (16 : Int32), iv ((Int32.ofNat tt) - (16 : Int32)), iv (18 : Int32), iv (34 : Int32)] [(.int (34 : Int32))])) rfl (hb hby d44_14) _ ?_
    refine own_cn X77 hx hby d44_16 (flt (by decide : ¬ ((2147483639 : Int32) < (34 : Int32)))).2.2.1 ?_
    refine own_iN X77 hx hby d44_19 ?_
    exact retI X77 hx hret (hb hby d44_20) hr
  · show own_qp Z (some (.int (34 : Int32))) h0 _ T77.heap _
    rw [e77]
    exact ⟨rfl, N77, rfl⟩
theorem rm70 (l : Launch) (Z : State) (a0 : Array Value) (hw : own_HW Z a0) (ws : List Jvm.Cond) (bb ba : Addr) (kv : ClassId) (cs : List Int32) (tt : Nat) (h0 : Heap) (Z0 : Ext Z.heap h0) (F_bb_coder : Fld Z h0 bb own_cA "coder" "B" (.int (0 : Int32))) (F_bb_value : Fld Z h0 bb own_cA "value" "[B" (.ref ba)) (V_ba : Arv Z h0 ba kv .byte (16 : Int32) (own_buf 16 cs) (.int (0 : Int32))) (hc32 : own_gw tt) :
    own_met l y_5 jdk_68_method_10_code 6 (some .int) ws ({ frames := 2, cells := 0, slots := 0, locals := 29 } : Room) Z #[(.ref bb), (.int (Int32.ofNat tt))] h0 (own_qp Z (some (.int (34 : Int32))) h0) := by
  refine own_start (plainFor_of_name pn_1) (fun m => ef_jdk_68_method_10_RI m bb (Int32.ofNat tt)) ?_
  intro p e s m below meth c s₁ hx hby hml hown hnm X0 hZ e0 hret hlk
  have N0 := Fr.nil Z.heap.size
  obtain ⟨T71, X71, e71, st71⟩ := getF X0 hx hZ hown (host := "") (Or.inl (own_w hw 69 rfl)) Via.refl e0 F_bb_value (g := (mkF m 1 #[rv bb, iv (Int32.ofNat tt), .unset, .unset, .unset, .unset] [(.ref bb)])) rfl rfl (hb hby d43_1)
  obtain ⟨cl72, Ar72, q72, S72, Nn72, H72, G72⟩ := id V_ba
  obtain ⟨T73, X73, e73, st73⟩ := getF X71 hx hZ hown (host := "") (Or.inl (own_w hw 71 rfl)) Via.refl e71 F_bb_coder (g := (mkF m 8 #[rv bb, iv (Int32.ofNat tt), iv (16 : Int32), .unset, .unset, .unset] [(.ref bb), (.int (Int32.ofNat tt))])) rfl rfl (hb hby d43_8)
  obtain ⟨T74, X74, e74, st74⟩ := getF X73 hx hZ hown (host := "") (Or.inl (own_w hw 71 rfl)) Via.refl e73 F_bb_coder (g := (mkF m 24 #[rv bb, iv (Int32.ofNat tt), iv (16 : Int32), iv (Int32.ofNat tt), iv ((Int32.ofNat tt) - (16 : Int32)), .unset] [(.ref bb), (.int (2 : Int32)), (.int (16 : Int32)), (.int ((Int32.ofNat tt) - (16 : Int32))), (.int (16 : Int32))])) rfl rfl (hb hby d43_24)
  obtain ⟨_, T78, Lc78, X78, hQ78, st78⟩ := own_static (y := y_4) X74 hx hZ hown (own_w hw 242 rfl) (own_w hw 243 rfl) (own_w hw 244 rfl) (own_w hw 245 rfl) (rm75 l Z a0 hw [] tt h0 Z0 hc32) e74 (g := (mkF m 29 #[rv bb, iv (Int32.ofNat tt), iv (16 : Int32), iv (Int32.ofNat tt), iv ((Int32.ofNat tt) - (16 : Int32)), .unset] [(.int (18 : Int32)), (.int ((Int32.ofNat tt) - (16 : Int32))), (.int (16 : Int32))])) (argsL := [(.int (16 : Int32)), (.int ((Int32.ofNat tt) - (16 : Int32))), (.int (18 : Int32))]) (rest := []) (W := 0) (lenOf pd_1 rfl) (hb hby d43_29) hml
  obtain ⟨rfl, N78q, e78⟩ := hQ78
  have N78 := Fr.app N0 N78q
  obtain ⟨T79, X79, e79, st79⟩ := getF X78 hx hZ hown (host := "") (Or.inl (own_w hw 71 rfl)) Via.refl e78 F_bb_coder (g := (mkF m 54 #[rv bb, iv (Int32.ofNat tt), iv (16 : Int32), iv (Int32.ofNat tt), iv ((Int32.ofNat tt) - (16 : Int32)), iv (34 : Int32)] [(.ref bb), (.int (34 : Int32))])) rfl rfl (hb hby d43_54)
  obtain ⟨_, hr, hrun, hended, hW, hsame⟩ := X79.leave (v := some (.int (34 : Int32))) (fun h => by rw [hret] at h; cases h) hlk
  refine ⟨_, _, ?_, hrun, hended, _, _, rfl, ?_, ⟨_, rfl⟩, hW, hsame.mono (by decide) (by decide)⟩
  · show own_S p e below s₁ (mkF m 0 #[rv bb, iv (Int32.ofNat tt), .unset, .unset, .unset, .unset] []) _
    refine own_aN X0 hx hby d43_0 ?_
    refine st71 _ ?_
    refine X71.arraylength hx (by rw [e71]; exact Ar72.1) (State.isArrayOf_alike hZ.alike Ar72.2.1) (g := (mkF m 4 #[rv bb, iv (Int32.ofNat tt), .unset, .unset, .unset, .unset] [(.ref ba)])) rfl rfl (hb hby d43_4) _ ?_
    rw [len_of S72 Nn72]
    refine XS.istoreN X71.here hx rfl (hb hby d43_5) rfl (l' := #[rv bb, iv (Int32.ofNat tt), iv (16 : Int32), .unset, .unset, .unset]) rfl ?_
    refine own_iN X71 hx hby d43_6 ?_
    refine own_aN X71 hx hby d43_7 ?_
    refine st73 _ ?_
    refine XS.ishl X73.here hx rfl (hb hby d43_11) rfl ?_
    show own_S p e below T73 (mkF m 12 #[rv bb, iv (Int32.ofNat tt), iv (16 : Int32), .unset, .unset, .unset] [(.int ((Int32.ofNat tt) <<< ((0 : Int32) &&& 31)))]) _
    rw [(own_shl0 _)]
    refine XS.istoreN X73.here hx rfl (hb hby d43_12) rfl (l' := #[rv bb, iv (Int32.ofNat tt), iv (16 : Int32), iv (Int32.ofNat tt), .unset, .unset]) rfl ?_
    refine own_iN X73 hx hby d43_13 ?_
    refine own_iN X73 hx hby d43_14 ?_
    refine XS.isub X73.here hx rfl (hb hby d43_15) rfl ?_
    refine XS.istore X73.here hx rfl (hb hby d43_16) rfl (l' := #[rv bb, iv (Int32.ofNat tt), iv (16 : Int32), iv (Int32.ofNat tt), iv ((Int32.ofNat tt) - (16 : Int32)), .unset]) rfl ?_
    refine own_iN X73 hx hby d43_18 ?_
    refine own_i X73 hx hby d43_19 ?_
    refine own_iN X73 hx hby d43_21 ?_
    refine own_k X73 hx hby d43_22 ?_
    refine own_aN X73 hx hby d43_23 ?_
    refine st74 _ ?_
    refine XS.ishl X74.here hx rfl (hb hby d43_27) rfl ?_
    show own_S p e below T74 (mkF m 28 #[rv bb, iv (Int32.ofNat tt), iv (16 : Int32), iv (Int32.ofNat tt), iv ((Int32.ofNat tt) - (16 : Int32)), .unset] [(.int ((2 : Int32) <<< ((0 : Int32) &&& 31))), (.int (16 : Int32)), (.int ((Int32.ofNat tt) - (16 : Int32))), (.int (16 : Int32))]) _
    rw [(by decide : ((2 : Int32) <<< ((0 : Int32) &&& 31)) = (2 : Int32))]
    refine XS.iadd X74.here hx rfl (hb hby d43_28) rfl ?_
    show own_S p e below T74 (mkF m 29 #[rv bb, iv (Int32.ofNat tt), iv (16 : Int32), iv (Int32.ofNat tt), iv ((Int32.ofNat tt) - (16 : Int32)), .unset] [(.int ((16 : Int32) + (2 : Int32))), (.int ((Int32.ofNat tt) - (16 : Int32))), (.int (16 : Int32))]) _
    rw [(by decide : ((16 : Int32) + (2 : Int32)) = (18 : Int32))]
    refine st78 _ ?_
    refine XS.istore X78.here hx rfl (hb hby d43_32) rfl (l' := #[rv bb, iv (Int32.ofNat tt), iv (16 : Int32), iv (Int32.ofNat tt), iv ((Int32.ofNat tt) - (16 : Int32)), iv (34 : Int32)]) rfl ?_
    refine own_i X78 hx hby d43_34 ?_
    refine X78.ldcInt hx hown (mvT hZ (own_w hw 250 rfl)) (g := (mkF m 36 #[rv bb, iv (Int32.ofNat tt), iv (16 : Int32), iv (Int32.ofNat tt), iv ((Int32.ofNat tt) - (16 : Int32)), iv (34 : Int32)] [(.int (34 : Int32))])) rfl (hb hby d43_36) _ ?_
    refine own_cy (pc := 38) X78 hx hby d43_38 (feq (by decide : ¬ ((34 : Int32) = (2147483647 : Int32)))).2 51 ?_
    refine own_i X78 hx hby d43_51 ?_
    refine own_aN X78 hx hby d43_53 ?_
    refine st79 _ ?_
    refine XS.ishr X79.here hx rfl (hb hby d43_57) rfl ?_
    show own_S p e below T79 (mkF m 58 #[rv bb, iv (Int32.ofNat tt), iv (16 : Int32), iv (Int32.ofNat tt), iv ((Int32.ofNat tt) - (16 : Int32)), iv (34 : Int32)] [(.int ((34 : Int32) >>> ((0 : Int32) &&& 31)))]) _
    rw [(by decide : ((34 : Int32) >>> ((0 : Int32) &&& 31)) = (34 : Int32))]
    exact retI X79 hx hret (hb hby d43_58) hr
  · show own_qp Z (some (.int (34 : Int32))) h0 _ T79.heap _
    rw [e79]
    exact ⟨rfl, N78, rfl⟩
theorem rm86 (l : Launch) (Z : State) (a0 : Array Value) (hw : own_HW Z a0) (ws : List Jvm.Cond)  (h0 : Heap) (Z0 : Ext Z.heap h0) :
    own_met l y_6 jdk_29_method_69_code 2 (some .int) ws ({ frames := 0, cells := 0, slots := 0, locals := 0 } : Room) Z #[(.int (16 : Int32)), (.int (34 : Int32))] h0 (own_qp Z (some (.int (16 : Int32))) h0) := by
  refine own_start pf_1 (fun m => ef_jdk_29_method_69_II m (16 : Int32) (34 : Int32)) ?_
  intro p e s m below meth c s₁ hx hby hml hown hnm X0 hZ e0 hret hlk
  have N0 := Fr.nil Z.heap.size
  obtain ⟨_, hr, hrun, hended, hW, hsame⟩ := X0.leave (v := some (.int (16 : Int32))) (fun h => by rw [hret] at h; cases h) hlk
  refine ⟨_, _, ?_, hrun, hended, _, _, rfl, ?_, ⟨_, rfl⟩, hW, hsame.mono (by decide) (by decide)⟩
  · show own_S p e below s₁ (mkF m 0 #[iv (16 : Int32), iv (34 : Int32)] []) _
    refine own_iN X0 hx hby d34_0 ?_
    refine own_iN X0 hx hby d34_1 ?_
    refine own_cn X0 hx hby d34_2 (flt (by decide : ¬ ((34 : Int32) < (16 : Int32)))).2.2.1 ?_
    refine own_iN X0 hx hby d34_5 ?_
    refine own_go (pc := 6) X0 hx hby d34_6 10 ?_
    exact retI X0 hx hret (hb hby d34_10) hr
  · show own_qp Z (some (.int (16 : Int32))) h0 _ s₁.heap _
    rw [e0]
    exact ⟨rfl, N0, rfl⟩
def Qrm82 (Z : State) (cs : List Int32) (h0 : Heap) (v : Option Value) (h : Heap) (L : List Loc) : Prop := ∃ b84 : Addr, ∃ k84 : ClassId, v = some (.ref b84) ∧ Fr Z.heap.size L ∧ Keep h0 h [] ∧ h0.size ≤ b84 ∧ Arv Z h b84 k84 .byte (34 : Int32) (own_buf 34 cs) (.int (0 : Int32))
theorem rm82 (l : Launch) (Z : State) (a0 : Array Value) (hw : own_HW Z a0) (ws : List Jvm.Cond) (ba : Addr) (kv : ClassId) (cs : List Int32) (h0 : Heap) (Z0 : Ext Z.heap h0) (V_ba : Arv Z h0 ba kv .byte (16 : Int32) (own_buf 16 cs) (.int (0 : Int32))) (hc33 : cs.length ≤ 16) :
    own_met l y_7 jdk_65_method_121_code 3 (some (.array .byte)) ws ({ frames := 1, cells := 1, slots := 34, locals := 18 } : Room) Z #[(.ref ba), (.int (34 : Int32))] h0 (Qrm82 Z cs h0) := by
  refine own_start (plainFor_of_name pn_3) (fun m => ef_jdk_65_method_121_RI m ba (34 : Int32)) ?_
  intro p e s m below meth c s₁ hx hby hml hown hnm X0 hZ e0 hret hlk
  have N0 := Fr.nil Z.heap.size
  obtain ⟨cl83, Ar83, q83, S83, Nn83, H83, G83⟩ := id V_ba
  obtain ⟨T84, h84, k84, X84, e84, E84, A84, st84⟩ := newP X0 hx hZ (own_w hw 23 rfl) e0 (g := (mkF m 15 #[rv ba, iv (34 : Int32), .unset] [(.int (34 : Int32))])) rfl (hb hby d46_15) rfl (by decide) (cap := 34) (by decide) (by decide) (by decide) (by decide)
  obtain ⟨b84, g84⟩ : ∃ z, z = h0.size := ⟨_, rfl⟩
  rw [← g84] at A84 st84
  have g_b84 := Nat.le_trans Z0.1 (Nat.le_of_eq g84.symm)
  have sz_b84 := Nat.le_trans (Keep.refl h0 []).1 (Nat.le_of_eq g84.symm)
  have V_b84 : Arv Z h84 b84 k84 .byte (34 : Int32) [(.int (0 : Int32)), (.int (0 : Int32)), (.int (0 : Int32)), (.int (0 : Int32)), (.int (0 : Int32)), (.int (0 : Int32)), (.int (0 : Int32)), (.int (0 : Int32)), (.int (0 : Int32)), (.int (0 : Int32)), (.int (0 : Int32)), (.int (0 : Int32)), (.int (0 : Int32)), (.int (0 : Int32)), (.int (0 : Int32)), (.int (0 : Int32)), (.int (0 : Int32)), (.int (0 : Int32)), (.int (0 : Int32)), (.int (0 : Int32)), (.int (0 : Int32)), (.int (0 : Int32)), (.int (0 : Int32)), (.int (0 : Int32)), (.int (0 : Int32)), (.int (0 : Int32)), (.int (0 : Int32)), (.int (0 : Int32)), (.int (0 : Int32)), (.int (0 : Int32)), (.int (0 : Int32)), (.int (0 : Int32)), (.int (0 : Int32)), (.int (0 : Int32))] (.int (0 : Int32)) := (Arv.new A84 (by decide)).pad (pad_rep [] (.int (0 : Int32)) 34)
  have K84 := (Keep.refl h0 []).ext E84
  have XX84 := own_ext2 Z0 E84
  obtain ⟨cl85, Ar85, q85, S85, Nn85, H85, G85⟩ := id (V_ba.ext E84)
  obtain ⟨_, T87, Lc87, X87, hQ87, st87⟩ := own_static (y := y_6) X84 hx hZ hown (own_w hw 180 rfl) (own_w hw 181 rfl) (own_w hw 182 rfl) (own_w hw 183 rfl) (rm86 l Z a0 hw []  h84 XX84 ) e84 (g := (mkF m 25 #[rv ba, iv (34 : Int32), rv b84] [(.int (34 : Int32)), (.int (16 : Int32)), (.int (0 : Int32)), (.ref b84), (.int (0 : Int32)), (.ref ba)])) (argsL := [(.int (16 : Int32)), (.int (34 : Int32))]) (rest := [(.int (0 : Int32)), (.ref b84), (.int (0 : Int32)), (.ref ba)]) (W := 4) (lenOf pd_0 rfl) (hb hby d46_25) hml
  obtain ⟨rfl, N87q, e87⟩ := hQ87
  have N87 := Fr.app N0 N87q
  obtain ⟨T88, h88, L88, X88, e88, N88, K88q, V88, st88⟩ := own_cp X87 hx hZ hown (own_w hw 184 rfl) (own_w hw 119 rfl) (own_w hw 117 rfl) (own_w hw 118 rfl) e87 (V_ba.ext E84) V_b84 (own_cp_grow hc33) N87 g_b84 (g := (mkF m 28 #[rv ba, iv (34 : Int32), rv b84] [(.int (16 : Int32)), (.int (0 : Int32)), (.ref b84), (.int (0 : Int32)), (.ref ba)])) (W := 0) (hb hby d46_28) hml
  have K88 := K84.trans K88q (allS (Or.inr sz_b84) all0)
  obtain ⟨_, hr, hrun, hended, hW, hsame⟩ := X88.leave (v := some (.ref b84)) (fun h => by rw [hret] at h; cases h) hlk
  refine ⟨_, _, ?_, hrun, hended, _, _, rfl, ?_, ⟨_, rfl⟩, hW, hsame.mono (by decide) (by decide)⟩
  · show own_S p e below s₁ (mkF m 0 #[rv ba, iv (34 : Int32), .unset] []) _
    refine own_iN X0 hx hby d46_0 ?_
    refine own_aN X0 hx hby d46_1 ?_
    refine X0.arraylength hx (by rw [e0]; exact Ar83.1) (State.isArrayOf_alike hZ.alike Ar83.2.1) (g := (mkF m 2 #[rv ba, iv (34 : Int32), .unset] [(.ref ba), (.int (34 : Int32))])) rfl rfl (hb hby d46_2) _ ?_
    rw [len_of S83 Nn83]
    refine own_cy (pc := 3) X0 hx hby d46_3 (feq (by decide : ¬ ((34 : Int32) = (16 : Int32)))).2 14 ?_
    refine own_iN X0 hx hby d46_14 ?_
    refine st84 _ ?_
    refine XS.astoreN X84.here hx rfl (hb hby d46_17) rfl rfl (l' := #[rv ba, iv (34 : Int32), rv b84]) rfl ?_
    refine own_aN X84 hx hby d46_18 ?_
    refine own_k X84 hx hby d46_19 ?_
    refine own_aN X84 hx hby d46_20 ?_
    refine own_k X84 hx hby d46_21 ?_
    refine own_aN X84 hx hby d46_22 ?_
    refine X84.arraylength hx (by rw [e84]; exact Ar85.1) (State.isArrayOf_alike hZ.alike Ar85.2.1) (g := (mkF m 23 #[rv ba, iv (34 : Int32), rv b84] [(.ref ba), (.int (0 : Int32)), (.ref b84), (.int (0 : Int32)), (.ref ba)])) rfl rfl (hb hby d46_23) _ ?_
    rw [len_of S85 Nn85]
    refine own_iN X84 hx hby d46_24 ?_
    refine st87 _ ?_
    refine st88 _ ?_
    refine own_aN X88 hx hby d46_31 ?_
    jvm_step X88.here [X88.here.top, hx, (hb hby d46_32), X88.method', hret, Value.isRef, FieldType.isReference]
    first | (intro acts; rw [hr _ acts rfl rfl rfl]) | rw [hr _ _ rfl rfl rfl]
    exact Steps.refl _
  · show Qrm82 Z cs h0 _ T88.heap _
    rw [e88]
    exact ⟨b84, k84, rfl, N88, K88, sz_b84, V88⟩
def Qrm65 (Z : State) (bb : Addr) (cs : List Int32) (h0 : Heap) (v : Option Value) (h : Heap) (L : List Loc) : Prop := ∃ b90 : Addr, ∃ k91 : ClassId, v = none ∧ Fr Z.heap.size L ∧ Keep h0 h [bb] ∧ h0.size ≤ b90 ∧ Exa Z h bb own_cB ∧ Fld Z h bb own_cA "value" "[B" (.ref b90) ∧ Fld Z h bb own_cA "coder" "B" (.int (0 : Int32)) ∧ Fld Z h bb own_cA "count" "I" (.int (Int32.ofNat cs.length)) ∧ Arv Z h b90 k91 .byte (34 : Int32) (own_buf 34 cs) (.int (0 : Int32))
theorem rm65 (l : Launch) (Z : State) (a0 : Array Value) (hw : own_HW Z a0) (ws : List Jvm.Cond) (bb ba : Addr) (kv : ClassId) (cs : List Int32) (tt : Nat) (h0 : Heap) (Z0 : Ext Z.heap h0) (E_bb : Exa Z h0 bb own_cB) (F_bb_value : Fld Z h0 bb own_cA "value" "[B" (.ref ba)) (F_bb_coder : Fld Z h0 bb own_cA "coder" "B" (.int (0 : Int32))) (F_bb_count : Fld Z h0 bb own_cA "count" "I" (.int (Int32.ofNat cs.length))) (V_ba : Arv Z h0 ba kv .byte (16 : Int32) (own_buf 16 cs) (.int (0 : Int32))) (g_bb : Z.heap.size ≤ bb) (hc32 : own_gw tt) (hc33 : cs.length ≤ 16) :
    own_met l y_2 jdk_68_method_9_code 3 none ws ({ frames := 3, cells := 1, slots := 34, locals := 48 } : Room) Z #[(.ref bb), (.int (Int32.ofNat tt))] h0 (Qrm65 Z bb cs h0) := by
  refine own_start (plainFor_of_name pn_1) (fun m => ef_jdk_68_method_9_RI m bb (Int32.ofNat tt)) ?_
  intro p e s m below meth c s₁ hx hby hml hown hnm X0 hZ e0 hret hlk
  have N0 := Fr.nil Z.heap.size
  obtain ⟨T66, X66, e66, st66⟩ := getF X0 hx hZ hown (host := "") (Or.inl (own_w hw 69 rfl)) Via.refl e0 F_bb_value (g := (mkF m 1 #[rv bb, iv (Int32.ofNat tt), .unset] [(.ref bb)])) rfl rfl (hb hby d16_1)
  obtain ⟨cl67, Ar67, q67, S67, Nn67, H67, G67⟩ := id V_ba
  obtain ⟨T68, X68, e68, st68⟩ := getF X66 hx hZ hown (host := "") (Or.inl (own_w hw 71 rfl)) Via.refl e66 F_bb_coder (g := (mkF m 6 #[rv bb, iv (Int32.ofNat tt), .unset] [(.ref bb), (.int (16 : Int32))])) rfl rfl (hb hby d16_6)
  obtain ⟨T69, X69, e69, st69⟩ := getF X68 hx hZ hown (host := "") (Or.inl (own_w hw 69 rfl)) Via.refl e68 F_bb_value (g := (mkF m 19 #[rv bb, iv (Int32.ofNat tt), iv (16 : Int32)] [(.ref bb), (.ref bb)])) rfl rfl (hb hby d16_19)
  obtain ⟨_, T80, Lc80, X80, hQ80, st80⟩ := own_virtual (y := y_5) X69 hx hZ hown (own_w hw 237 rfl) (own_decl (own_w hw 238 rfl) (own_w hw 241 rfl)) (own_w hw 240 rfl) (own_w hw 238 rfl) (own_w hw 65 rfl) (own_w hw 241 rfl) (rm70 l Z a0 hw [] bb ba kv cs tt h0 Z0 F_bb_coder F_bb_value V_ba hc32) e69 E_bb (g := (mkF m 24 #[rv bb, iv (Int32.ofNat tt), iv (16 : Int32)] [(.int (Int32.ofNat tt)), (.ref bb), (.ref ba), (.ref bb)])) (argsL := [(.int (Int32.ofNat tt))]) (rest := [(.ref ba), (.ref bb)]) (W := 2) (lenOf pd_2 rfl) (hb hby d16_24) hml
  obtain ⟨rfl, N80q, e80⟩ := hQ80
  have N80 := Fr.app N0 N80q
  obtain ⟨T81, X81, e81, st81⟩ := getF X80 hx hZ hown (host := "") (Or.inl (own_w hw 71 rfl)) Via.refl e80 F_bb_coder (g := (mkF m 28 #[rv bb, iv (Int32.ofNat tt), iv (16 : Int32)] [(.ref bb), (.int (34 : Int32)), (.ref ba), (.ref bb)])) rfl rfl (hb hby d16_28)
  obtain ⟨_, T89, Lc89, X89, hQ89, st89⟩ := own_static (y := y_7) X81 hx hZ hown (own_w hw 251 rfl) (own_w hw 252 rfl) (own_w hw 172 rfl) (own_w hw 253 rfl) (rm82 l Z a0 hw [] ba kv cs h0 Z0 V_ba hc33) e81 (g := (mkF m 32 #[rv bb, iv (Int32.ofNat tt), iv (16 : Int32)] [(.int (34 : Int32)), (.ref ba), (.ref bb)])) (argsL := [(.ref ba), (.int (34 : Int32))]) (rest := [(.ref bb)]) (W := 1) (lenOf pd_3 rfl) (hb hby d16_32) hml
  obtain ⟨b90, k91, rfl, N89q, K89q, szn_b90, q89_V_b90⟩ := hQ89
  have sz_b90 := Nat.le_trans (Keep.refl h0 [bb]).1 szn_b90
  have K89 := (Keep.refl h0 [bb]).trans K89q all0
  have N89 := Fr.app N80 N89q
  obtain ⟨T92, h92, X92, e92, W92, st92⟩ := putF X89 hx hZ hown (host := "") (Or.inl (own_w hw 69 rfl)) Via.refl rfl (F_bb_value.keep K89q nin0) (E_bb.keep K89q) (Or.inl (own_w hw 70 rfl)) (own_w hw 56 rfl) (ty := (.array .byte)) (by decide) rfl rfl (g := (mkF m 35 #[rv bb, iv (Int32.ofNat tt), iv (16 : Int32)] [(.ref b90), (.ref bb)])) rfl rfl (hb hby d16_35)
  have K92 := K89.wr W92 (Or.inl (List.mem_of_getElem? (i := 0) rfl))
  have N92 := Fr.snoc X92 N89 g_bb
  have f93_F_bb_coder := ((F_bb_coder.keep K89q nin0).other W92 (Or.inr (slot_ne (Or.inl (own_w hw 72 rfl)) (Or.inl (own_w hw 70 rfl)) (by decide) (t := .byte) (t' := (.array .byte)) (by decide) (by decide))))
  have f94_F_bb_count := ((F_bb_count.keep K89q nin0).other W92 (Or.inr (slot_ne (Or.inl (own_w hw 94 rfl)) (Or.inl (own_w hw 70 rfl)) (by decide) (t := .int) (t' := (.array .byte)) (by decide) (by decide))))
  have ne_bb_b90 := Nat.ne_of_lt (Nat.lt_of_lt_of_le E_bb.lt szn_b90)
  obtain ⟨_, hr, hrun, hended, hW, hsame⟩ := X92.leave (v := none) (fun _ => rfl) hlk
  refine ⟨_, _, ?_, hrun, hended, _, _, rfl, ?_, ⟨_, rfl⟩, hW, hsame.mono (by decide) (by decide)⟩
  · show own_S p e below s₁ (mkF m 0 #[rv bb, iv (Int32.ofNat tt), .unset] []) _
    refine own_aN X0 hx hby d16_0 ?_
    refine st66 _ ?_
    refine X66.arraylength hx (by rw [e66]; exact Ar67.1) (State.isArrayOf_alike hZ.alike Ar67.2.1) (g := (mkF m 4 #[rv bb, iv (Int32.ofNat tt), .unset] [(.ref ba)])) rfl rfl (hb hby d16_4) _ ?_
    rw [len_of S67 Nn67]
    refine own_aN X66 hx hby d16_5 ?_
    refine st68 _ ?_
    refine XS.ishr X68.here hx rfl (hb hby d16_9) rfl ?_
    show own_S p e below T68 (mkF m 10 #[rv bb, iv (Int32.ofNat tt), .unset] [(.int ((16 : Int32) >>> ((0 : Int32) &&& 31)))]) _
    rw [(by decide : ((16 : Int32) >>> ((0 : Int32) &&& 31)) = (16 : Int32))]
    refine XS.istoreN X68.here hx rfl (hb hby d16_10) rfl (l' := #[rv bb, iv (Int32.ofNat tt), iv (16 : Int32)]) rfl ?_
    refine own_iN X68 hx hby d16_11 ?_
    refine own_iN X68 hx hby d16_12 ?_
    refine XS.isub X68.here hx rfl (hb hby d16_13) rfl ?_
    refine own_in X68 hx hby d16_14 (tlt (own_gw1 hc32)).2.2.2 ?_
    refine own_aN X68 hx hby d16_17 ?_
    refine own_aN X68 hx hby d16_18 ?_
    refine st69 _ ?_
    refine own_aN X69 hx hby d16_22 ?_
    refine own_iN X69 hx hby d16_23 ?_
    refine st80 _ ?_
    refine own_aN X80 hx hby d16_27 ?_
    refine st81 _ ?_
    refine XS.ishl X81.here hx rfl (hb hby d16_31) rfl ?_
    show own_S p e below T81 (mkF m 32 #[rv bb, iv (Int32.ofNat tt), iv (16 : Int32)] [(.int ((34 : Int32) <<< ((0 : Int32) &&& 31))), (.ref ba), (.ref bb)]) _
    rw [(by decide : ((34 : Int32) <<< ((0 : Int32) &&& 31)) = (34 : Int32))]
    refine st89 _ ?_
    refine st92 _ ?_
    exact X92.returnOut hx hret (hb hby d16_38) hr
  · show Qrm65 Z bb cs h0 _ T92.heap _
    rw [e92]
    exact ⟨b90, k91, rfl, N92, K92, sz_b90, ((E_bb.keep K89q).wr W92), ((F_bb_value.keep K89q nin0).same W92), f93_F_bb_coder, f94_F_bb_count, (q89_V_b90.other W92 (Ne.symm ne_bb_b90))⟩
theorem rm100 (l : Launch) (Z : State) (a0 : Array Value) (hw : own_HW Z a0) (ws : List Jvm.Cond) (w_CS : Int32) (bb : Addr) (h0 : Heap) (Z0 : Ext Z.heap h0) (S_w_CS : own_w_CS Z w_CS) (F_bb_coder : Fld Z h0 bb own_cA "coder" "B" (.int (0 : Int32))) (hc1 : ¬ (w_CS = (0 : Int32))) :
    own_met l y_8 jdk_68_method_68_code 1 (some .boolean) ws ({ frames := 0, cells := 0, slots := 0, locals := 0 } : Room) Z #[(.ref bb)] h0 (own_qp Z (some (.int (1 : Int32))) h0) := by
  refine own_start (plainFor_of_name pn_1) (fun m => ef_jdk_68_method_68_R m bb) ?_
  intro p e s m below meth c s₁ hx hby hml hown hnm X0 hZ e0 hret hlk
  have N0 := Fr.nil Z.heap.size
  obtain ⟨T101, X101, e101, st101⟩ := getS2 X0 hx hZ hown (host := "") (Or.inl (own_w hw 68 rfl)) Via.refl e0 (S_w_CS.ext Z0) (g := (mkF m 0 #[rv bb] [])) rfl (hb hby d23_0)
  obtain ⟨T102, X102, e102, st102⟩ := getF X101 hx hZ hown (host := "") (Or.inl (own_w hw 71 rfl)) Via.refl e101 F_bb_coder (g := (mkF m 7 #[rv bb] [(.ref bb)])) rfl rfl (hb hby d23_7)
  obtain ⟨_, hr, hrun, hended, hW, hsame⟩ := X102.leave (v := some (.int (1 : Int32))) (fun h => by rw [hret] at h; cases h) hlk
  refine ⟨_, _, ?_, hrun, hended, _, _, rfl, ?_, ⟨_, rfl⟩, hW, hsame.mono (by decide) (by decide)⟩
  · show own_S p e below s₁ (mkF m 0 #[rv bb] []) _
    refine st101 _ ?_
    refine own_in X101 hx hby d23_3 (feq hc1).1 ?_
    refine own_aN X101 hx hby d23_6 ?_
    refine st102 _ ?_
    refine own_in X102 hx hby d23_10 (teq (rfl : (0 : Int32) = (0 : Int32))).2 ?_
    refine own_k X102 hx hby d23_13 ?_
    refine own_go (pc := 14) X102 hx hby d23_14 18 ?_
    exact retN X102 hx (t := .boolean) hret (by simp) (hb hby d23_18) hr
  · show own_qp Z (some (.int (1 : Int32))) h0 _ T102.heap _
    rw [e102]
    exact ⟨rfl, N0, rfl⟩
def Qrm96 (Z : State) (qa : Int32) (kk : Nat) (bb ba : Addr) (kv : ClassId) (cs : List Int32) (h0 : Heap) (v : Option Value) (h : Heap) (L : List Loc) : Prop := v = some (.ref bb) ∧ Fr Z.heap.size L ∧ Keep h0 h [ba, bb] ∧ Exa Z h bb own_cB ∧ Fld Z h bb own_cA "coder" "B" (.int (0 : Int32)) ∧ Fld Z h bb own_cA "count" "I" (.int (Int32.ofNat (cs.length + kk))) ∧ Fld Z h bb own_cA "value" "[B" (.ref ba) ∧ Arv Z h ba kv .byte (16 : Int32) (own_buf 16 (cs ++ own_ds qa kk)) (.int (0 : Int32))
theorem rm96 (l : Launch) (Z : State) (a0 : Array Value) (hw : own_HW Z a0) (ws : List Jvm.Cond) (w_CS qa : Int32) (kk : Nat) (w_DO : Addr) (k_w_DO : ClassId) (w_DT : Addr) (k_w_DT : ClassId) (bb ba : Addr) (kv : ClassId) (cs : List Int32) (h0 : Heap) (Z0 : Ext Z.heap h0) (S_w_CS : own_w_CS Z w_CS) (S_w_DO : own_Sw_DO Z w_DO) (A_w_DO : Arv Z Z.heap w_DO k_w_DO .byte (100 : Int32) own_ones (.int (0 : Int32))) (S_w_DT : own_Sw_DT Z w_DT) (A_w_DT : Arv Z Z.heap w_DT k_w_DT .byte (100 : Int32) own_tens (.int (0 : Int32))) (E_bb : Exa Z h0 bb own_cB) (F_bb_coder : Fld Z h0 bb own_cA "coder" "B" (.int (0 : Int32))) (F_bb_count : Fld Z h0 bb own_cA "count" "I" (.int (Int32.ofNat cs.length))) (F_bb_value : Fld Z h0 bb own_cA "value" "[B" (.ref ba)) (V_ba : Arv Z h0 ba kv .byte (16 : Int32) (own_buf 16 cs) (.int (0 : Int32))) (g_bb : Z.heap.size ≤ bb) (g_ba : Z.heap.size ≤ ba) (hc9 : own_nd qa kk) (hc34 : cs.length + kk ≤ 16) (hc1 : ¬ (w_CS = (0 : Int32))) (hc35 : bb ≠ ba) (hc36 : ba ≠ bb) :
    own_met l y_9 jdk_68_method_32_code 4 (some (.object own_cA)) ws ({ frames := 1, cells := 0, slots := 0, locals := 18 } : Room) Z #[(.ref bb), (.int qa)] h0 (Qrm96 Z qa kk bb ba kv cs h0) := by
  refine own_start (plainFor_of_name pn_1) (fun m => ef_jdk_68_method_32_RI m bb qa) ?_
  intro p e s m below meth c s₁ hx hby hml hown hnm X0 hZ e0 hret hlk
  have N0 := Fr.nil Z.heap.size
  obtain ⟨T97, X97, e97, st97⟩ := getF X0 hx hZ hown (host := "") (Or.inl (own_w hw 93 rfl)) Via.refl e0 F_bb_count (g := (mkF m 1 #[rv bb, iv qa, .unset, .unset] [(.ref bb)])) rfl rfl (hb hby d21_1)
  obtain ⟨_, T98, Lc98, X98, hQ98, st98⟩ := own_static (y := y_0) X97 hx hZ hown (own_w hw 130 rfl) (own_w hw 131 rfl) (own_w hw 132 rfl) (own_w hw 133 rfl) (own_ssJ l Z a0 hw [] qa kk h0 Z0 hc9) e97 (g := (mkF m 7 #[rv bb, iv qa, iv (Int32.ofNat cs.length), .unset] [(.int qa), (.int (Int32.ofNat cs.length))])) (argsL := [(.int qa)]) (rest := [(.int (Int32.ofNat cs.length))]) (W := 1) (lenOf pd_2 rfl) (hb hby d21_7) hml
  obtain ⟨rfl, N98q, e98⟩ := hQ98
  have N98 := Fr.app N0 N98q
  obtain ⟨_, T99, Lc99, X99, hQ99, st99⟩ := own_virtual (y := y_2) X98 hx hZ hown (own_w hw 95 rfl) (own_decl (own_w hw 96 rfl) (own_w hw 99 rfl)) (own_w hw 98 rfl) (own_w hw 96 rfl) (own_w hw 65 rfl) (own_w hw 99 rfl) (rm57 l Z a0 hw [] bb ba kv cs (cs.length + kk) h0 Z0 F_bb_value F_bb_coder V_ba hc34) e98 E_bb (g := (mkF m 14 #[rv bb, iv qa, iv (Int32.ofNat cs.length), iv (Int32.ofNat (cs.length + kk))] [(.int (Int32.ofNat (cs.length + kk))), (.ref bb)])) (argsL := [(.int (Int32.ofNat (cs.length + kk)))]) (rest := []) (W := 0) (lenOf pd_4 rfl) (hb hby d21_14) hml
  obtain ⟨rfl, N99q, e99⟩ := hQ99
  have N99 := Fr.app N98 N99q
  obtain ⟨_, T103, Lc103, X103, hQ103, st103⟩ := own_virtual (y := y_8) X99 hx hZ hown (own_w hw 134 rfl) (own_w hw 135 rfl) (own_w hw 137 rfl) (own_w hw 136 rfl) (own_w hw 65 rfl) (own_w hw 138 rfl) (rm100 l Z a0 hw [] w_CS bb h0 Z0 S_w_CS F_bb_coder hc1) e99 E_bb (g := (mkF m 18 #[rv bb, iv qa, iv (Int32.ofNat cs.length), iv (Int32.ofNat (cs.length + kk))] [(.ref bb)])) (argsL := []) (rest := []) (W := 0) (lenOf pd_5 rfl) (hb hby d21_18) hml
  obtain ⟨rfl, N103q, e103⟩ := hQ103
  have N103 := Fr.app N99 N103q
  obtain ⟨T104, X104, e104, st104⟩ := getF X103 hx hZ hown (host := "") (Or.inl (own_w hw 69 rfl)) Via.refl e103 F_bb_value (g := (mkF m 27 #[rv bb, iv qa, iv (Int32.ofNat cs.length), iv (Int32.ofNat (cs.length + kk))] [(.ref bb), (.int (Int32.ofNat (cs.length + kk))), (.int qa)])) rfl rfl (hb hby d21_27)
  obtain ⟨_, T105, Lc105, X105, hQ105, st105⟩ := own_static (y := y_1) X104 hx hZ hown (own_w hw 139 rfl) (own_w hw 140 rfl) (own_w hw 132 rfl) (own_w hw 141 rfl) (own_gcG l Z a0 hw [] qa kk w_DO k_w_DO w_DT k_w_DT ba kv (own_buf 16 cs) (own_buf 16 (cs ++ own_ds qa kk)) (16 : Int32) cs.length h0 Z0 S_w_DO A_w_DO S_w_DT A_w_DT V_ba g_ba hc9 (own_gy_buf hc34 (by decide)) (own_ln_buf rfl (own_le_of hc34))) e104 (g := (mkF m 30 #[rv bb, iv qa, iv (Int32.ofNat cs.length), iv (Int32.ofNat (cs.length + kk))] [(.ref ba), (.int (Int32.ofNat (cs.length + kk))), (.int qa)])) (argsL := [(.int qa), (.int (Int32.ofNat (cs.length + kk))), (.ref ba)]) (rest := []) (W := 0) (lenOf pd_6 rfl) (hb hby d21_30) hml
  obtain ⟨rfl, N105q, K105q, q105_V_ba⟩ := hQ105
  have K105 := (Keep.refl h0 [ba, bb]).trans K105q (allS (Or.inl (List.mem_of_getElem? (i := 0) rfl)) all0)
  have N105 := Fr.app N103 N105q
  obtain ⟨T106, h106, X106, e106, W106, st106⟩ := putF X105 hx hZ hown (host := "") (Or.inl (own_w hw 93 rfl)) Via.refl rfl (F_bb_count.keep K105q (ninS hc35 (nin0))) (E_bb.keep K105q) (Or.inl (own_w hw 94 rfl)) (own_w hw 56 rfl) (ty := .int) (by decide) rfl rfl (g := (mkF m 50 #[rv bb, iv qa, iv (Int32.ofNat cs.length), iv (Int32.ofNat (cs.length + kk))] [(.int (Int32.ofNat (cs.length + kk))), (.ref bb)])) rfl rfl (hb hby d21_50)
  have K106 := K105.wr W106 (Or.inl (List.mem_of_getElem? (i := 1) rfl))
  have N106 := Fr.snoc X106 N105 g_bb
  have f107_F_bb_coder := ((F_bb_coder.keep K105q (ninS hc35 (nin0))).other W106 (Or.inr (slot_ne (Or.inl (own_w hw 72 rfl)) (Or.inl (own_w hw 94 rfl)) (by decide) (t := .byte) (t' := .int) (by decide) (by decide))))
  have f108_F_bb_value := ((F_bb_value.keep K105q (ninS hc35 (nin0))).other W106 (Or.inr (slot_ne (Or.inl (own_w hw 70 rfl)) (Or.inl (own_w hw 94 rfl)) (by decide) (t := (.array .byte)) (t' := .int) (by decide) (by decide))))
  obtain ⟨_, hr, hrun, hended, hW, hsame⟩ := X106.leave (v := some (.ref bb)) (fun h => by rw [hret] at h; cases h) hlk
  refine ⟨_, _, ?_, hrun, hended, _, _, rfl, ?_, ⟨_, rfl⟩, hW, hsame.mono (by decide) (by decide)⟩
  · show own_S p e below s₁ (mkF m 0 #[rv bb, iv qa, .unset, .unset] []) _
    refine own_aN X0 hx hby d21_0 ?_
    refine st97 _ ?_
    refine XS.istoreN X97.here hx rfl (hb hby d21_4) rfl (l' := #[rv bb, iv qa, iv (Int32.ofNat cs.length), .unset]) rfl ?_
    refine own_iN X97 hx hby d21_5 ?_
    refine own_iN X97 hx hby d21_6 ?_
    refine st98 _ ?_
    refine XS.iadd X98.here hx rfl (hb hby d21_10) rfl ?_
    show own_S p e below T98 (mkF m 11 #[rv bb, iv qa, iv (Int32.ofNat cs.length), .unset] [(.int ((Int32.ofNat cs.length) + (Int32.ofNat kk)))]) _
    rw [(Int32.ofNat_add _ _).symm]
    refine XS.istoreN X98.here hx rfl (hb hby d21_11) rfl (l' := #[rv bb, iv qa, iv (Int32.ofNat cs.length), iv (Int32.ofNat (cs.length + kk))]) rfl ?_
    refine own_aN X98 hx hby d21_12 ?_
    refine own_iN X98 hx hby d21_13 ?_
    refine st99 _ ?_
    refine own_aN X99 hx hby d21_17 ?_
    refine st103 _ ?_
    refine own_in X103 hx hby d21_21 (feq (by decide : ¬ ((1 : Int32) = (0 : Int32)))).1 ?_
    refine own_iN X103 hx hby d21_24 ?_
    refine own_iN X103 hx hby d21_25 ?_
    refine own_aN X103 hx hby d21_26 ?_
    refine st104 _ ?_
    refine st105 _ ?_
    refine XS.pop X105.here hx rfl (hb hby d21_33) rfl rfl ?_
    refine own_go (pc := 34) X105 hx hby d21_34 48 ?_
    refine own_aN X105 hx hby d21_48 ?_
    refine own_iN X105 hx hby d21_49 ?_
    refine st106 _ ?_
    refine own_aN X106 hx hby d21_53 ?_
    jvm_step X106.here [X106.here.top, hx, (hb hby d21_54), X106.method', hret, Value.isRef, FieldType.isReference]
    first | (intro acts; rw [hr _ acts rfl rfl rfl]) | rw [hr _ _ rfl rfl rfl]
    exact Steps.refl _
  · show Qrm96 Z qa kk bb ba kv cs h0 _ T106.heap _
    rw [e106]
    exact ⟨rfl, N106, K106, ((E_bb.keep K105q).wr W106), f107_F_bb_coder, ((F_bb_count.keep K105q (ninS hc35 (nin0))).same W106), f108_F_bb_value, (q105_V_ba.other W106 hc36)⟩
def Qrm95 (Z : State) (qa : Int32) (kk : Nat) (bb ba : Addr) (kv : ClassId) (cs : List Int32) (h0 : Heap) (v : Option Value) (h : Heap) (L : List Loc) : Prop := v = some (.ref bb) ∧ Fr Z.heap.size L ∧ Keep h0 h [bb, ba] ∧ Exa Z h bb own_cB ∧ Fld Z h bb own_cA "value" "[B" (.ref ba) ∧ Fld Z h bb own_cA "coder" "B" (.int (0 : Int32)) ∧ Fld Z h bb own_cA "count" "I" (.int (Int32.ofNat (cs.length + kk))) ∧ Arv Z h ba kv .byte (16 : Int32) (own_buf 16 (cs ++ own_ds qa kk)) (.int (0 : Int32))
theorem rm95 (l : Launch) (Z : State) (a0 : Array Value) (hw : own_HW Z a0) (ws : List Jvm.Cond) (w_CS qa : Int32) (kk : Nat) (w_DO : Addr) (k_w_DO : ClassId) (w_DT : Addr) (k_w_DT : ClassId) (bb ba : Addr) (kv : ClassId) (cs : List Int32) (h0 : Heap) (Z0 : Ext Z.heap h0) (S_w_CS : own_w_CS Z w_CS) (S_w_DO : own_Sw_DO Z w_DO) (A_w_DO : Arv Z Z.heap w_DO k_w_DO .byte (100 : Int32) own_ones (.int (0 : Int32))) (S_w_DT : own_Sw_DT Z w_DT) (A_w_DT : Arv Z Z.heap w_DT k_w_DT .byte (100 : Int32) own_tens (.int (0 : Int32))) (E_bb : Exa Z h0 bb own_cB) (F_bb_value : Fld Z h0 bb own_cA "value" "[B" (.ref ba)) (F_bb_coder : Fld Z h0 bb own_cA "coder" "B" (.int (0 : Int32))) (F_bb_count : Fld Z h0 bb own_cA "count" "I" (.int (Int32.ofNat cs.length))) (V_ba : Arv Z h0 ba kv .byte (16 : Int32) (own_buf 16 cs) (.int (0 : Int32))) (g_bb : Z.heap.size ≤ bb) (g_ba : Z.heap.size ≤ ba) (hc9 : own_nd qa kk) (hc34 : cs.length + kk ≤ 16) (hc1 : ¬ (w_CS = (0 : Int32))) (hc35 : bb ≠ ba) (hc36 : ba ≠ bb) :
    own_met l y_10 jdk_67_method_15_code 2 (some (.object own_cB)) ws ({ frames := 2, cells := 0, slots := 0, locals := 33 } : Room) Z #[(.ref bb), (.int qa)] h0 (Qrm95 Z qa kk bb ba kv cs h0) := by
  refine own_start (plainFor_of_name pn_4) (fun m => ef_jdk_67_method_15_RI m bb qa) ?_
  intro p e s m below meth c s₁ hx hby hml hown hnm X0 hZ e0 hret hlk
  have N0 := Fr.nil Z.heap.size
  obtain ⟨_, T109, Lc109, X109, hQ109, st109⟩ := own_super (y := y_9) X0 hx hZ hown (own_w hw 126 rfl) (own_same (own_w hw 127 rfl) (own_w hw 98 rfl) rfl (by decide)) (own_w hw 127 rfl) (own_w hw 80 rfl) (own_w hw 65 rfl) (own_w hw 129 rfl) (rm96 l Z a0 hw [] w_CS qa kk w_DO k_w_DO w_DT k_w_DT bb ba kv cs h0 Z0 S_w_CS S_w_DO A_w_DO S_w_DT A_w_DT E_bb F_bb_coder F_bb_count F_bb_value V_ba g_bb g_ba hc9 hc34 hc1 hc35 hc36) e0 (Ins.self E_bb) (g := (mkF m 2 #[rv bb, iv qa] [(.int qa), (.ref bb)])) (argsL := [(.int qa)]) (rest := []) (W := 0) (lenOf pd_7 rfl) (hb hby d20_2) hml
  obtain ⟨rfl, N109q, K109q, q109_E_bb, q109_F_bb_coder, q109_F_bb_count, q109_F_bb_value, q109_V_ba⟩ := hQ109
  have K109 := (Keep.refl h0 [bb, ba]).trans K109q (allS (Or.inl (List.mem_of_getElem? (i := 1) rfl)) (allS (Or.inl (List.mem_of_getElem? (i := 0) rfl)) all0))
  have N109 := Fr.app N0 N109q
  obtain ⟨_, hr, hrun, hended, hW, hsame⟩ := X109.leave (v := some (.ref bb)) (fun h => by rw [hret] at h; cases h) hlk
  refine ⟨_, _, ?_, hrun, hended, _, _, rfl, ?_, ⟨_, rfl⟩, hW, hsame.mono (by decide) (by decide)⟩
  · show own_S p e below s₁ (mkF m 0 #[rv bb, iv qa] []) _
    refine own_aN X0 hx hby d20_0 ?_
    refine own_iN X0 hx hby d20_1 ?_
    refine st109 _ ?_
    refine XS.pop X109.here hx rfl (hb hby d20_5) rfl rfl ?_
    refine own_aN X109 hx hby d20_6 ?_
    jvm_step X109.here [X109.here.top, hx, (hb hby d20_7), X109.method', hret, Value.isRef, FieldType.isReference]
    first | (intro acts; rw [hr _ acts rfl rfl rfl]) | rw [hr _ _ rfl rfl rfl]
    exact Steps.refl _
  · show Qrm95 Z qa kk bb ba kv cs h0 _ T109.heap _
    exact ⟨rfl, N109, K109, q109_E_bb, q109_F_bb_value, q109_F_bb_coder, q109_F_bb_count, q109_V_ba⟩
def Qown_apI_n16 (Z : State) (qa : Int32) (kk : Nat) (bb ba : Addr) (kv : ClassId) (cs : List Int32) (h0 : Heap) (v : Option Value) (h : Heap) (L : List Loc) : Prop := v = some (.ref bb) ∧ Fr Z.heap.size L ∧ Keep h0 h [bb, ba] ∧ Exa Z h bb own_cB ∧ Fld Z h bb own_cA "value" "[B" (.ref ba) ∧ Fld Z h bb own_cA "coder" "B" (.int (0 : Int32)) ∧ Fld Z h bb own_cA "count" "I" (.int (Int32.ofNat (cs ++ own_ds qa kk).length)) ∧ Arv Z h ba kv .byte (16 : Int32) (own_buf 16 (cs ++ own_ds qa kk)) (.int (0 : Int32))
theorem own_apI_n16 (l : Launch) (Z : State) (a0 : Array Value) (hw : own_HW Z a0) (ws : List Jvm.Cond) (w_CS qa : Int32) (kk : Nat) (w_DO : Addr) (k_w_DO : ClassId) (w_DT : Addr) (k_w_DT : ClassId) (bb ba : Addr) (kv : ClassId) (cs : List Int32) (h0 : Heap) (Z0 : Ext Z.heap h0) (S_w_CS : own_w_CS Z w_CS) (S_w_DO : own_Sw_DO Z w_DO) (A_w_DO : Arv Z Z.heap w_DO k_w_DO .byte (100 : Int32) own_ones (.int (0 : Int32))) (S_w_DT : own_Sw_DT Z w_DT) (A_w_DT : Arv Z Z.heap w_DT k_w_DT .byte (100 : Int32) own_tens (.int (0 : Int32))) (E_bb : Exa Z h0 bb own_cB) (F_bb_value : Fld Z h0 bb own_cA "value" "[B" (.ref ba)) (F_bb_coder : Fld Z h0 bb own_cA "coder" "B" (.int (0 : Int32))) (F_bb_count : Fld Z h0 bb own_cA "count" "I" (.int (Int32.ofNat cs.length))) (V_ba : Arv Z h0 ba kv .byte (16 : Int32) (own_buf 16 cs) (.int (0 : Int32))) (g_bb : Z.heap.size ≤ bb) (g_ba : Z.heap.size ≤ ba) (hc9 : own_nd qa kk) (hc34 : cs.length + kk ≤ 16) (hc1 : ¬ (w_CS = (0 : Int32))) (hc35 : bb ≠ ba) (hc36 : ba ≠ bb) :
    own_met l y_10 jdk_67_method_15_code 2 (some (.object own_cB)) ws ({ frames := 2, cells := 0, slots := 0, locals := 33 } : Room) Z #[(.ref bb), (.int qa)] h0 (Qown_apI_n16 Z qa kk bb ba kv cs h0) := by
  exact own_mono (rm95 l Z a0 hw ws w_CS qa kk w_DO k_w_DO w_DT k_w_DT bb ba kv cs h0 Z0 S_w_CS S_w_DO A_w_DO S_w_DT A_w_DT E_bb F_bb_value F_bb_coder F_bb_count V_ba g_bb g_ba hc9 hc34 hc1 hc35 hc36) fun v h L ⟨z1, z2, z3, f0, f1, f2, f3, f4⟩ => ⟨z1, z2, z3, f0, f1, f2, (by rw [List.length_append, own_ds_len]; exact f3), f4⟩
theorem rm115 (l : Launch) (Z : State) (a0 : Array Value) (hw : own_HW Z a0) (ws : List Jvm.Cond) (w_CS : Int32) (bs : Addr) (h0 : Heap) (Z0 : Ext Z.heap h0) (S_w_CS : own_w_CS Z w_CS) (F_bs_coder : Fld Z h0 bs own_cS "coder" "B" (.int (0 : Int32))) (hc1 : ¬ (w_CS = (0 : Int32))) :
    own_met l y_11 jdk_42_method_152_code 1 (some .byte) ws ({ frames := 0, cells := 0, slots := 0, locals := 0 } : Room) Z #[(.ref bs)] h0 (own_qp Z (some (.int (0 : Int32))) h0) := by
  refine own_start (plainFor_of_name pn_5) (fun m => ef_jdk_42_method_152_R m bs) ?_
  intro p e s m below meth c s₁ hx hby hml hown hnm X0 hZ e0 hret hlk
  have N0 := Fr.nil Z.heap.size
  obtain ⟨T116, X116, e116, st116⟩ := getS2 X0 hx hZ hown (host := "") (Or.inl (own_w hw 18 rfl)) Via.refl e0 (S_w_CS.ext Z0) (g := (mkF m 0 #[rv bs] [])) rfl (hb hby d15_0)
  obtain ⟨T117, X117, e117, st117⟩ := getF X116 hx hZ hown (host := "") (Or.inl (own_w hw 30 rfl)) Via.refl e116 F_bs_coder (g := (mkF m 7 #[rv bs] [(.ref bs)])) rfl rfl (hb hby d15_7)
  obtain ⟨_, hr, hrun, hended, hW, hsame⟩ := X117.leave (v := some (.int (0 : Int32))) (fun h => by rw [hret] at h; cases h) hlk
  refine ⟨_, _, ?_, hrun, hended, _, _, rfl, ?_, ⟨_, rfl⟩, hW, hsame.mono (by decide) (by decide)⟩
  · show own_S p e below s₁ (mkF m 0 #[rv bs] []) _
    refine st116 _ ?_
    refine own_in X116 hx hby d15_3 (feq hc1).1 ?_
    refine own_aN X116 hx hby d15_6 ?_
    refine st117 _ ?_
    refine own_go (pc := 10) X117 hx hby d15_10 14 ?_
    exact retN X117 hx (t := .byte) hret (by simp) (hb hby d15_14) hr
  · show own_qp Z (some (.int (0 : Int32))) h0 _ T117.heap _
    rw [e117]
    exact ⟨rfl, N0, rfl⟩
theorem rm112 (l : Launch) (Z : State) (a0 : Array Value) (hw : own_HW Z a0) (ws : List Jvm.Cond) (w_CS : Int32) (bs be : Addr) (ke : ClassId) (ds : List Int32) (h0 : Heap) (Z0 : Ext Z.heap h0) (S_w_CS : own_w_CS Z w_CS) (E_bs : Exa Z h0 bs own_cS) (F_bs_coder : Fld Z h0 bs own_cS "coder" "B" (.int (0 : Int32))) (F_bs_value : Fld Z h0 bs own_cS "value" "[B" (.ref be)) (V_be : Arv Z h0 be ke .byte (Int32.ofNat ds.length) (own_ch ds) (.int (0 : Int32))) (hc1 : ¬ (w_CS = (0 : Int32))) :
    own_met l y_12 jdk_42_method_54_code 1 (some .int) ws ({ frames := 1, cells := 0, slots := 0, locals := 13 } : Room) Z #[(.ref bs)] h0 (own_qp Z (some (.int (Int32.ofNat ds.length))) h0) := by
  refine own_start (plainFor_of_name pn_5) (fun m => ef_jdk_42_method_54_R m bs) ?_
  intro p e s m below meth c s₁ hx hby hml hown hnm X0 hZ e0 hret hlk
  have N0 := Fr.nil Z.heap.size
  obtain ⟨T113, X113, e113, st113⟩ := getF X0 hx hZ hown (host := "") (Or.inl (own_w hw 32 rfl)) Via.refl e0 F_bs_value (g := (mkF m 1 #[rv bs] [(.ref bs)])) rfl rfl (hb hby d14_1)
  obtain ⟨cl114, Ar114, q114, S114, Nn114, H114, G114⟩ := id V_be
  obtain ⟨_, T118, Lc118, X118, hQ118, st118⟩ := own_virtual (y := y_11) X113 hx hZ hown (own_w hw 88 rfl) (own_w hw 89 rfl) (own_w hw 91 rfl) (own_w hw 90 rfl) (own_w hw 6 rfl) (own_w hw 92 rfl) (rm115 l Z a0 hw [] w_CS bs h0 Z0 S_w_CS F_bs_coder hc1) e113 E_bs (g := (mkF m 6 #[rv bs] [(.ref bs), (.int (Int32.ofNat ds.length))])) (argsL := []) (rest := [(.int (Int32.ofNat ds.length))]) (W := 1) (lenOf pd_8 rfl) (hb hby d14_6) hml
  obtain ⟨rfl, N118q, e118⟩ := hQ118
  have N118 := Fr.app N0 N118q
  obtain ⟨_, hr, hrun, hended, hW, hsame⟩ := X118.leave (v := some (.int (Int32.ofNat ds.length))) (fun h => by rw [hret] at h; cases h) hlk
  refine ⟨_, _, ?_, hrun, hended, _, _, rfl, ?_, ⟨_, rfl⟩, hW, hsame.mono (by decide) (by decide)⟩
  · show own_S p e below s₁ (mkF m 0 #[rv bs] []) _
    refine own_aN X0 hx hby d14_0 ?_
    refine st113 _ ?_
    refine X113.arraylength hx (by rw [e113]; exact Ar114.1) (State.isArrayOf_alike hZ.alike Ar114.2.1) (g := (mkF m 4 #[rv bs] [(.ref be)])) rfl rfl (hb hby d14_4) _ ?_
    rw [len_of S114 Nn114]
    refine own_aN X113 hx hby d14_5 ?_
    refine st118 _ ?_
    refine XS.ishr X118.here hx rfl (hb hby d14_9) rfl ?_
    show own_S p e below T118 (mkF m 10 #[rv bs] [(.int ((Int32.ofNat ds.length) >>> ((0 : Int32) &&& 31)))]) _
    rw [(own_shr0 _)]
    exact retI X118 hx hret (hb hby d14_10) hr
  · show own_qp Z (some (.int (Int32.ofNat ds.length))) h0 _ T118.heap _
    rw [e118]
    exact ⟨rfl, N118, rfl⟩
theorem rm124 (l : Launch) (Z : State) (a0 : Array Value) (hw : own_HW Z a0) (ws : List Jvm.Cond) (w_CS : Int32) (bb bs : Addr) (h0 : Heap) (Z0 : Ext Z.heap h0) (S_w_CS : own_w_CS Z w_CS) (F_bb_coder : Fld Z h0 bb own_cA "coder" "B" (.int (0 : Int32))) (E_bs : Exa Z h0 bs own_cS) (F_bs_coder : Fld Z h0 bs own_cS "coder" "B" (.int (0 : Int32))) (hc1 : ¬ (w_CS = (0 : Int32))) :
    own_met l y_13 jdk_68_method_71_code 2 none ws ({ frames := 1, cells := 0, slots := 0, locals := 13 } : Room) Z #[(.ref bb), (.ref bs)] h0 (own_qp Z none h0) := by
  refine own_start (plainFor_of_name pn_1) (fun m => ef_jdk_68_method_71_RR m bb bs) ?_
  intro p e s m below meth c s₁ hx hby hml hown hnm X0 hZ e0 hret hlk
  have N0 := Fr.nil Z.heap.size
  obtain ⟨T125, X125, e125, st125⟩ := getS2 X0 hx hZ hown (host := "") (Or.inl (own_w hw 68 rfl)) Via.refl e0 (S_w_CS.ext Z0) (g := (mkF m 0 #[rv bb, rv bs] [])) rfl (hb hby d18_0)
  obtain ⟨T126, X126, e126, st126⟩ := getF X125 hx hZ hown (host := "") (Or.inl (own_w hw 71 rfl)) Via.refl e125 F_bb_coder (g := (mkF m 7 #[rv bb, rv bs] [(.ref bb)])) rfl rfl (hb hby d18_7)
  obtain ⟨_, T127, Lc127, X127, hQ127, st127⟩ := own_virtual (y := y_11) X126 hx hZ hown (own_w hw 110 rfl) (own_w hw 89 rfl) (own_w hw 91 rfl) (own_w hw 90 rfl) (own_w hw 6 rfl) (own_w hw 92 rfl) (rm115 l Z a0 hw [] w_CS bs h0 Z0 S_w_CS F_bs_coder hc1) e126 E_bs (g := (mkF m 11 #[rv bb, rv bs] [(.ref bs), (.int (0 : Int32))])) (argsL := []) (rest := [(.int (0 : Int32))]) (W := 1) (lenOf pd_8 rfl) (hb hby d18_11) hml
  obtain ⟨rfl, N127q, e127⟩ := hQ127
  have N127 := Fr.app N0 N127q
  obtain ⟨_, hr, hrun, hended, hW, hsame⟩ := X127.leave (v := none) (fun _ => rfl) hlk
  refine ⟨_, _, ?_, hrun, hended, _, _, rfl, ?_, ⟨_, rfl⟩, hW, hsame.mono (by decide) (by decide)⟩
  · show own_S p e below s₁ (mkF m 0 #[rv bb, rv bs] []) _
    refine st125 _ ?_
    refine own_in X125 hx hby d18_3 (feq hc1).1 ?_
    refine own_aN X125 hx hby d18_6 ?_
    refine st126 _ ?_
    refine own_aN X126 hx hby d18_10 ?_
    refine st127 _ ?_
    refine own_cy (pc := 14) X127 hx hby d18_14 (teq (rfl : (0 : Int32) = (0 : Int32))).1 21 ?_
    exact X127.returnOut hx hret (hb hby d18_21) hr
  · show own_qp Z none h0 _ T127.heap _
    rw [e127]
    exact ⟨rfl, N127, rfl⟩
def Qrm131 (Z : State) (ba : Addr) (kv : ClassId) (cs ds : List Int32) (h0 : Heap) (v : Option Value) (h : Heap) (L : List Loc) : Prop := v = none ∧ Fr Z.heap.size L ∧ Keep h0 h [ba] ∧ Arv Z h ba kv .byte (16 : Int32) (own_buf 16 (cs ++ ds)) (.int (0 : Int32))
theorem rm131 (l : Launch) (Z : State) (a0 : Array Value) (hw : own_HW Z a0) (ws : List Jvm.Cond) (w_CS : Int32) (ba : Addr) (kv : ClassId) (cs : List Int32) (bs be : Addr) (ke : ClassId) (ds : List Int32) (h0 : Heap) (Z0 : Ext Z.heap h0) (S_w_CS : own_w_CS Z w_CS) (E_bs : Exa Z h0 bs own_cS) (F_bs_coder : Fld Z h0 bs own_cS "coder" "B" (.int (0 : Int32))) (F_bs_value : Fld Z h0 bs own_cS "value" "[B" (.ref be)) (V_ba : Arv Z h0 ba kv .byte (16 : Int32) (own_buf 16 cs) (.int (0 : Int32))) (V_be : Arv Z h0 be ke .byte (Int32.ofNat ds.length) (own_ch ds) (.int (0 : Int32))) (g_ba : Z.heap.size ≤ ba) (hc1 : ¬ (w_CS = (0 : Int32))) (hc37 : cs.length + ds.length ≤ 16) :
    own_met l y_14 jdk_42_method_147_code 4 none ws ({ frames := 1, cells := 0, slots := 0, locals := 18 } : Room) Z #[(.ref bs), (.ref ba), (.int (Int32.ofNat cs.length)), (.int (0 : Int32))] h0 (Qrm131 Z ba kv cs ds h0) := by
  refine own_start (plainFor_of_name pn_5) (fun m => ef_jdk_42_method_147_RRII m bs ba (Int32.ofNat cs.length) (0 : Int32)) ?_
  intro p e s m below meth c s₁ hx hby hml hown hnm X0 hZ e0 hret hlk
  have N0 := Fr.nil Z.heap.size
  obtain ⟨_, T132, Lc132, X132, hQ132, st132⟩ := own_virtual (y := y_11) X0 hx hZ hown (own_w hw 88 rfl) (own_w hw 89 rfl) (own_w hw 91 rfl) (own_w hw 90 rfl) (own_w hw 6 rfl) (own_w hw 92 rfl) (rm115 l Z a0 hw [] w_CS bs h0 Z0 S_w_CS F_bs_coder hc1) e0 E_bs (g := (mkF m 1 #[rv bs, rv ba, iv (Int32.ofNat cs.length), iv (0 : Int32)] [(.ref bs)])) (argsL := []) (rest := []) (W := 0) (lenOf pd_8 rfl) (hb hby d19_1) hml
  obtain ⟨rfl, N132q, e132⟩ := hQ132
  have N132 := Fr.app N0 N132q
  obtain ⟨T133, X133, e133, st133⟩ := getF X132 hx hZ hown (host := "") (Or.inl (own_w hw 32 rfl)) Via.refl e132 F_bs_value (g := (mkF m 9 #[rv bs, rv ba, iv (Int32.ofNat cs.length), iv (0 : Int32)] [(.ref bs)])) rfl rfl (hb hby d19_9)
  obtain ⟨T134, X134, e134, st134⟩ := getF X133 hx hZ hown (host := "") (Or.inl (own_w hw 32 rfl)) Via.refl e133 F_bs_value (g := (mkF m 18 #[rv bs, rv ba, iv (Int32.ofNat cs.length), iv (0 : Int32)] [(.ref bs), (.int (Int32.ofNat cs.length)), (.ref ba), (.int (0 : Int32)), (.ref be)])) rfl rfl (hb hby d19_18)
  obtain ⟨cl135, Ar135, q135, S135, Nn135, H135, G135⟩ := id V_be
  obtain ⟨T136, h136, L136, X136, e136, N136, K136q, V136, st136⟩ := own_cp X134 hx hZ hown (own_w hw 116 rfl) (own_w hw 119 rfl) (own_w hw 117 rfl) (own_w hw 118 rfl) e134 V_be V_ba (own_cp_add (ds := ds) hc37 (by decide) (by decide)) N132 g_ba (g := (mkF m 22 #[rv bs, rv ba, iv (Int32.ofNat cs.length), iv (0 : Int32)] [(.int (Int32.ofNat ds.length)), (.int (Int32.ofNat cs.length)), (.ref ba), (.int (0 : Int32)), (.ref be)])) (W := 0) (hb hby d19_22) hml
  have K136 := (Keep.refl h0 [ba]).trans K136q (allS (Or.inl (List.mem_of_getElem? (i := 0) rfl)) all0)
  obtain ⟨_, hr, hrun, hended, hW, hsame⟩ := X136.leave (v := none) (fun _ => rfl) hlk
  refine ⟨_, _, ?_, hrun, hended, _, _, rfl, ?_, ⟨_, rfl⟩, hW, hsame.mono (by decide) (by decide)⟩
  · show own_S p e below s₁ (mkF m 0 #[rv bs, rv ba, iv (Int32.ofNat cs.length), iv (0 : Int32)] []) _
    refine own_aN X0 hx hby d19_0 ?_
    refine st132 _ ?_
    refine own_iN X132 hx hby d19_4 ?_
    refine own_cn X132 hx hby d19_5 (teq (rfl : (0 : Int32) = (0 : Int32))).2 ?_
    refine own_aN X132 hx hby d19_8 ?_
    refine st133 _ ?_
    refine own_k X133 hx hby d19_12 ?_
    refine own_aN X133 hx hby d19_13 ?_
    refine own_iN X133 hx hby d19_14 ?_
    refine own_iN X133 hx hby d19_15 ?_
    refine XS.ishl X133.here hx rfl (hb hby d19_16) rfl ?_
    show own_S p e below T133 (mkF m 17 #[rv bs, rv ba, iv (Int32.ofNat cs.length), iv (0 : Int32)] [(.int ((Int32.ofNat cs.length) <<< ((0 : Int32) &&& 31))), (.ref ba), (.int (0 : Int32)), (.ref be)]) _
    rw [(own_shl0 _)]
    refine own_aN X133 hx hby d19_17 ?_
    refine st134 _ ?_
    refine X134.arraylength hx (by rw [e134]; exact Ar135.1) (State.isArrayOf_alike hZ.alike Ar135.2.1) (g := (mkF m 21 #[rv bs, rv ba, iv (Int32.ofNat cs.length), iv (0 : Int32)] [(.ref be), (.int (Int32.ofNat cs.length)), (.ref ba), (.int (0 : Int32)), (.ref be)])) rfl rfl (hb hby d19_21) _ ?_
    rw [len_of S135 Nn135]
    refine st136 _ ?_
    refine own_go (pc := 25) X136 hx hby d19_25 43 ?_
    exact X136.returnOut hx hret (hb hby d19_43) hr
  · show Qrm131 Z ba kv cs ds h0 _ T136.heap _
    rw [e136]
    exact ⟨rfl, N136, K136, V136⟩
def Qrm123 (Z : State) (ba : Addr) (kv : ClassId) (cs ds : List Int32) (h0 : Heap) (v : Option Value) (h : Heap) (L : List Loc) : Prop := v = none ∧ Fr Z.heap.size L ∧ Keep h0 h [ba] ∧ Arv Z h ba kv .byte (16 : Int32) (own_buf 16 (cs ++ ds)) (.int (0 : Int32))
theorem rm123 (l : Launch) (Z : State) (a0 : Array Value) (hw : own_HW Z a0) (ws : List Jvm.Cond) (w_CS : Int32) (bb ba : Addr) (kv : ClassId) (cs : List Int32) (bs be : Addr) (ke : ClassId) (ds : List Int32) (h0 : Heap) (Z0 : Ext Z.heap h0) (S_w_CS : own_w_CS Z w_CS) (E_bb : Exa Z h0 bb own_cB) (F_bb_coder : Fld Z h0 bb own_cA "coder" "B" (.int (0 : Int32))) (F_bb_value : Fld Z h0 bb own_cA "value" "[B" (.ref ba)) (E_bs : Exa Z h0 bs own_cS) (F_bs_coder : Fld Z h0 bs own_cS "coder" "B" (.int (0 : Int32))) (F_bs_value : Fld Z h0 bs own_cS "value" "[B" (.ref be)) (V_ba : Arv Z h0 ba kv .byte (16 : Int32) (own_buf 16 cs) (.int (0 : Int32))) (V_be : Arv Z h0 be ke .byte (Int32.ofNat ds.length) (own_ch ds) (.int (0 : Int32))) (g_ba : Z.heap.size ≤ ba) (hc1 : ¬ (w_CS = (0 : Int32))) (hc37 : cs.length + ds.length ≤ 16) :
    own_met l y_15 jdk_68_method_73_code 3 none ws ({ frames := 2, cells := 0, slots := 0, locals := 33 } : Room) Z #[(.ref bb), (.int (Int32.ofNat cs.length)), (.ref bs)] h0 (Qrm123 Z ba kv cs ds h0) := by
  refine own_start (plainFor_of_name pn_1) (fun m => ef_jdk_68_method_73_RIR m bb (Int32.ofNat cs.length) bs) ?_
  intro p e s m below meth c s₁ hx hby hml hown hnm X0 hZ e0 hret hlk
  have N0 := Fr.nil Z.heap.size
  obtain ⟨_, T128, Lc128, X128, hQ128, st128⟩ := own_virtual (y := y_13) X0 hx hZ hown (own_w hw 105 rfl) (own_decl (own_w hw 106 rfl) (own_w hw 109 rfl)) (own_w hw 108 rfl) (own_w hw 106 rfl) (own_w hw 65 rfl) (own_w hw 109 rfl) (rm124 l Z a0 hw [] w_CS bb bs h0 Z0 S_w_CS F_bb_coder E_bs F_bs_coder hc1) e0 E_bb (g := (mkF m 2 #[rv bb, iv (Int32.ofNat cs.length), rv bs] [(.ref bs), (.ref bb)])) (argsL := [(.ref bs)]) (rest := []) (W := 0) (lenOf pd_10 rfl) (hb hby d17_2) hml
  obtain ⟨rfl, N128q, e128⟩ := hQ128
  have N128 := Fr.app N0 N128q
  obtain ⟨T129, X129, e129, st129⟩ := getF X128 hx hZ hown (host := "") (Or.inl (own_w hw 69 rfl)) Via.refl e128 F_bb_value (g := (mkF m 7 #[rv bb, iv (Int32.ofNat cs.length), rv bs] [(.ref bb), (.ref bs)])) rfl rfl (hb hby d17_7)
  obtain ⟨T130, X130, e130, st130⟩ := getF X129 hx hZ hown (host := "") (Or.inl (own_w hw 71 rfl)) Via.refl e129 F_bb_coder (g := (mkF m 12 #[rv bb, iv (Int32.ofNat cs.length), rv bs] [(.ref bb), (.int (Int32.ofNat cs.length)), (.ref ba), (.ref bs)])) rfl rfl (hb hby d17_12)
  obtain ⟨_, T137, Lc137, X137, hQ137, st137⟩ := own_virtual (y := y_14) X130 hx hZ hown (own_w hw 111 rfl) (own_w hw 112 rfl) (own_w hw 114 rfl) (own_w hw 113 rfl) (own_w hw 6 rfl) (own_w hw 115 rfl) (rm131 l Z a0 hw [] w_CS ba kv cs bs be ke ds h0 Z0 S_w_CS E_bs F_bs_coder F_bs_value V_ba V_be g_ba hc1 hc37) e130 E_bs (g := (mkF m 15 #[rv bb, iv (Int32.ofNat cs.length), rv bs] [(.int (0 : Int32)), (.int (Int32.ofNat cs.length)), (.ref ba), (.ref bs)])) (argsL := [(.ref ba), (.int (Int32.ofNat cs.length)), (.int (0 : Int32))]) (rest := []) (W := 0) (lenOf pd_11 rfl) (hb hby d17_15) hml
  obtain ⟨rfl, N137q, K137q, q137_V_ba⟩ := hQ137
  have K137 := (Keep.refl h0 [ba]).trans K137q (allS (Or.inl (List.mem_of_getElem? (i := 0) rfl)) all0)
  have N137 := Fr.app N128 N137q
  obtain ⟨_, hr, hrun, hended, hW, hsame⟩ := X137.leave (v := none) (fun _ => rfl) hlk
  refine ⟨_, _, ?_, hrun, hended, _, _, rfl, ?_, ⟨_, rfl⟩, hW, hsame.mono (by decide) (by decide)⟩
  · show own_S p e below s₁ (mkF m 0 #[rv bb, iv (Int32.ofNat cs.length), rv bs] []) _
    refine own_aN X0 hx hby d17_0 ?_
    refine own_aN X0 hx hby d17_1 ?_
    refine st128 _ ?_
    refine own_aN X128 hx hby d17_5 ?_
    refine own_aN X128 hx hby d17_6 ?_
    refine st129 _ ?_
    refine own_iN X129 hx hby d17_10 ?_
    refine own_aN X129 hx hby d17_11 ?_
    refine st130 _ ?_
    refine st137 _ ?_
    exact X137.returnOut hx hret (hb hby d17_18) hr
  · show Qrm123 Z ba kv cs ds h0 _ T137.heap _
    exact ⟨rfl, N137, K137, q137_V_ba⟩
def Qrm111 (Z : State) (bb ba : Addr) (kv : ClassId) (cs ds : List Int32) (h0 : Heap) (v : Option Value) (h : Heap) (L : List Loc) : Prop := v = some (.ref bb) ∧ Fr Z.heap.size L ∧ Keep h0 h [ba, bb] ∧ Exa Z h bb own_cB ∧ Fld Z h bb own_cA "coder" "B" (.int (0 : Int32)) ∧ Fld Z h bb own_cA "count" "I" (.int (Int32.ofNat (cs.length + ds.length))) ∧ Fld Z h bb own_cA "value" "[B" (.ref ba) ∧ Arv Z h ba kv .byte (16 : Int32) (own_buf 16 (cs ++ ds)) (.int (0 : Int32))
theorem rm111 (l : Launch) (Z : State) (a0 : Array Value) (hw : own_HW Z a0) (ws : List Jvm.Cond) (w_CS : Int32) (bb ba : Addr) (kv : ClassId) (cs : List Int32) (bs be : Addr) (ke : ClassId) (ds : List Int32) (h0 : Heap) (Z0 : Ext Z.heap h0) (S_w_CS : own_w_CS Z w_CS) (E_bb : Exa Z h0 bb own_cB) (F_bb_coder : Fld Z h0 bb own_cA "coder" "B" (.int (0 : Int32))) (F_bb_count : Fld Z h0 bb own_cA "count" "I" (.int (Int32.ofNat cs.length))) (F_bb_value : Fld Z h0 bb own_cA "value" "[B" (.ref ba)) (E_bs : Exa Z h0 bs own_cS) (F_bs_coder : Fld Z h0 bs own_cS "coder" "B" (.int (0 : Int32))) (F_bs_value : Fld Z h0 bs own_cS "value" "[B" (.ref be)) (V_ba : Arv Z h0 ba kv .byte (16 : Int32) (own_buf 16 cs) (.int (0 : Int32))) (V_be : Arv Z h0 be ke .byte (Int32.ofNat ds.length) (own_ch ds) (.int (0 : Int32))) (g_bb : Z.heap.size ≤ bb) (g_ba : Z.heap.size ≤ ba) (hc1 : ¬ (w_CS = (0 : Int32))) (hc37 : cs.length + ds.length ≤ 16) (hc35 : bb ≠ ba) (hc36 : ba ≠ bb) :
    own_met l y_16 jdk_68_method_22_code 3 (some (.object own_cA)) ws ({ frames := 3, cells := 0, slots := 0, locals := 47 } : Room) Z #[(.ref bb), (.ref bs)] h0 (Qrm111 Z bb ba kv cs ds h0) := by
  refine own_start (plainFor_of_name pn_1) (fun m => ef_jdk_68_method_22_RR m bb bs) ?_
  intro p e s m below meth c s₁ hx hby hml hown hnm X0 hZ e0 hret hlk
  have N0 := Fr.nil Z.heap.size
  obtain ⟨_, T119, Lc119, X119, hQ119, st119⟩ := own_virtual (y := y_12) X0 hx hZ hown (own_w hw 83 rfl) (own_w hw 84 rfl) (own_w hw 86 rfl) (own_w hw 85 rfl) (own_w hw 6 rfl) (own_w hw 87 rfl) (rm112 l Z a0 hw [] w_CS bs be ke ds h0 Z0 S_w_CS E_bs F_bs_coder F_bs_value V_be hc1) e0 E_bs (g := (mkF m 10 #[rv bb, rv bs, .unset] [(.ref bs)])) (argsL := []) (rest := []) (W := 0) (lenOf pd_9 rfl) (hb hby d13_10) hml
  obtain ⟨rfl, N119q, e119⟩ := hQ119
  have N119 := Fr.app N0 N119q
  obtain ⟨T120, X120, e120, st120⟩ := getF X119 hx hZ hown (host := "") (Or.inl (own_w hw 93 rfl)) Via.refl e119 F_bb_count (g := (mkF m 16 #[rv bb, rv bs, iv (Int32.ofNat ds.length)] [(.ref bb), (.ref bb)])) rfl rfl (hb hby d13_16)
  obtain ⟨_, T121, Lc121, X121, hQ121, st121⟩ := own_virtual (y := y_2) X120 hx hZ hown (own_w hw 95 rfl) (own_decl (own_w hw 96 rfl) (own_w hw 99 rfl)) (own_w hw 98 rfl) (own_w hw 96 rfl) (own_w hw 65 rfl) (own_w hw 99 rfl) (rm57 l Z a0 hw [] bb ba kv cs (cs.length + ds.length) h0 Z0 F_bb_value F_bb_coder V_ba hc37) e120 E_bb (g := (mkF m 21 #[rv bb, rv bs, iv (Int32.ofNat ds.length)] [(.int (Int32.ofNat (cs.length + ds.length))), (.ref bb)])) (argsL := [(.int (Int32.ofNat (cs.length + ds.length)))]) (rest := []) (W := 0) (lenOf pd_4 rfl) (hb hby d13_21) hml
  obtain ⟨rfl, N121q, e121⟩ := hQ121
  have N121 := Fr.app N119 N121q
  obtain ⟨T122, X122, e122, st122⟩ := getF X121 hx hZ hown (host := "") (Or.inl (own_w hw 93 rfl)) Via.refl e121 F_bb_count (g := (mkF m 26 #[rv bb, rv bs, iv (Int32.ofNat ds.length)] [(.ref bb), (.ref bb)])) rfl rfl (hb hby d13_26)
  obtain ⟨_, T138, Lc138, X138, hQ138, st138⟩ := own_virtual (y := y_15) X122 hx hZ hown (own_w hw 100 rfl) (own_decl (own_w hw 101 rfl) (own_w hw 104 rfl)) (own_w hw 103 rfl) (own_w hw 101 rfl) (own_w hw 65 rfl) (own_w hw 104 rfl) (rm123 l Z a0 hw [] w_CS bb ba kv cs bs be ke ds h0 Z0 S_w_CS E_bb F_bb_coder F_bb_value E_bs F_bs_coder F_bs_value V_ba V_be g_ba hc1 hc37) e122 E_bb (g := (mkF m 30 #[rv bb, rv bs, iv (Int32.ofNat ds.length)] [(.ref bs), (.int (Int32.ofNat cs.length)), (.ref bb)])) (argsL := [(.int (Int32.ofNat cs.length)), (.ref bs)]) (rest := []) (W := 0) (lenOf pd_12 rfl) (hb hby d13_30) hml
  obtain ⟨rfl, N138q, K138q, q138_V_ba⟩ := hQ138
  have K138 := (Keep.refl h0 [ba, bb]).trans K138q (allS (Or.inl (List.mem_of_getElem? (i := 0) rfl)) all0)
  have N138 := Fr.app N121 N138q
  obtain ⟨T139, X139, e139, st139⟩ := getF X138 hx hZ hown (host := "") (Or.inl (own_w hw 93 rfl)) Via.refl rfl (F_bb_count.keep K138q (ninS hc35 (nin0))) (g := (mkF m 35 #[rv bb, rv bs, iv (Int32.ofNat ds.length)] [(.ref bb), (.ref bb)])) rfl rfl (hb hby d13_35)
  obtain ⟨T140, h140, X140, e140, W140, st140⟩ := putF X139 hx hZ hown (host := "") (Or.inl (own_w hw 93 rfl)) Via.refl e139 (F_bb_count.keep K138q (ninS hc35 (nin0))) (E_bb.keep K138q) (Or.inl (own_w hw 94 rfl)) (own_w hw 56 rfl) (ty := .int) (by decide) rfl rfl (g := (mkF m 40 #[rv bb, rv bs, iv (Int32.ofNat ds.length)] [(.int (Int32.ofNat (cs.length + ds.length))), (.ref bb)])) rfl rfl (hb hby d13_40)
  have K140 := K138.wr W140 (Or.inl (List.mem_of_getElem? (i := 1) rfl))
  have N140 := Fr.snoc X140 N138 g_bb
  have f141_F_bb_coder := ((F_bb_coder.keep K138q (ninS hc35 (nin0))).other W140 (Or.inr (slot_ne (Or.inl (own_w hw 72 rfl)) (Or.inl (own_w hw 94 rfl)) (by decide) (t := .byte) (t' := .int) (by decide) (by decide))))
  have f142_F_bb_value := ((F_bb_value.keep K138q (ninS hc35 (nin0))).other W140 (Or.inr (slot_ne (Or.inl (own_w hw 70 rfl)) (Or.inl (own_w hw 94 rfl)) (by decide) (t := (.array .byte)) (t' := .int) (by decide) (by decide))))
  obtain ⟨_, hr, hrun, hended, hW, hsame⟩ := X140.leave (v := some (.ref bb)) (fun h => by rw [hret] at h; cases h) hlk
  refine ⟨_, _, ?_, hrun, hended, _, _, rfl, ?_, ⟨_, rfl⟩, hW, hsame.mono (by decide) (by decide)⟩
  · show own_S p e below s₁ (mkF m 0 #[rv bb, rv bs, .unset] []) _
    refine own_aN X0 hx hby d13_0 ?_
    refine XS.ifnonnullYes X0.here hx rfl (pc0 := 1) (pc' := 9) rfl (hb hby d13_1) rfl (by decide) (by decide) ?_
    refine own_aN X0 hx hby d13_9 ?_
    refine st119 _ ?_
    refine XS.istoreN X119.here hx rfl (hb hby d13_13) rfl (l' := #[rv bb, rv bs, iv (Int32.ofNat ds.length)]) rfl ?_
    refine own_aN X119 hx hby d13_14 ?_
    refine own_aN X119 hx hby d13_15 ?_
    refine st120 _ ?_
    refine own_iN X120 hx hby d13_19 ?_
    refine XS.iadd X120.here hx rfl (hb hby d13_20) rfl ?_
    show own_S p e below T120 (mkF m 21 #[rv bb, rv bs, iv (Int32.ofNat ds.length)] [(.int ((Int32.ofNat cs.length) + (Int32.ofNat ds.length))), (.ref bb)]) _
    rw [(Int32.ofNat_add _ _).symm]
    refine st121 _ ?_
    refine own_aN X121 hx hby d13_24 ?_
    refine own_aN X121 hx hby d13_25 ?_
    refine st122 _ ?_
    refine own_aN X122 hx hby d13_29 ?_
    refine st138 _ ?_
    refine own_aN X138 hx hby d13_33 ?_
    refine XS.dup X138.here hx rfl (hb hby d13_34) rfl rfl ?_
    refine st139 _ ?_
    refine own_iN X139 hx hby d13_38 ?_
    refine XS.iadd X139.here hx rfl (hb hby d13_39) rfl ?_
    show own_S p e below T139 (mkF m 40 #[rv bb, rv bs, iv (Int32.ofNat ds.length)] [(.int ((Int32.ofNat cs.length) + (Int32.ofNat ds.length))), (.ref bb)]) _
    rw [(Int32.ofNat_add _ _).symm]
    refine st140 _ ?_
    refine own_aN X140 hx hby d13_43 ?_
    jvm_step X140.here [X140.here.top, hx, (hb hby d13_44), X140.method', hret, Value.isRef, FieldType.isReference]
    first | (intro acts; rw [hr _ acts rfl rfl rfl]) | rw [hr _ _ rfl rfl rfl]
    exact Steps.refl _
  · show Qrm111 Z bb ba kv cs ds h0 _ T140.heap _
    rw [e140]
    exact ⟨rfl, N140, K140, ((E_bb.keep K138q).wr W140), f141_F_bb_coder, ((F_bb_count.keep K138q (ninS hc35 (nin0))).same W140), f142_F_bb_value, (q138_V_ba.other W140 hc36)⟩
def Qrm110 (Z : State) (bb ba : Addr) (kv : ClassId) (cs ds : List Int32) (h0 : Heap) (v : Option Value) (h : Heap) (L : List Loc) : Prop := v = some (.ref bb) ∧ Fr Z.heap.size L ∧ Keep h0 h [bb, ba] ∧ Exa Z h bb own_cB ∧ Fld Z h bb own_cA "value" "[B" (.ref ba) ∧ Fld Z h bb own_cA "coder" "B" (.int (0 : Int32)) ∧ Fld Z h bb own_cA "count" "I" (.int (Int32.ofNat (cs.length + ds.length))) ∧ Arv Z h ba kv .byte (16 : Int32) (own_buf 16 (cs ++ ds)) (.int (0 : Int32))
theorem rm110 (l : Launch) (Z : State) (a0 : Array Value) (hw : own_HW Z a0) (ws : List Jvm.Cond) (w_CS : Int32) (bb ba : Addr) (kv : ClassId) (cs : List Int32) (bs be : Addr) (ke : ClassId) (ds : List Int32) (h0 : Heap) (Z0 : Ext Z.heap h0) (S_w_CS : own_w_CS Z w_CS) (E_bb : Exa Z h0 bb own_cB) (F_bb_value : Fld Z h0 bb own_cA "value" "[B" (.ref ba)) (F_bb_coder : Fld Z h0 bb own_cA "coder" "B" (.int (0 : Int32))) (F_bb_count : Fld Z h0 bb own_cA "count" "I" (.int (Int32.ofNat cs.length))) (V_ba : Arv Z h0 ba kv .byte (16 : Int32) (own_buf 16 cs) (.int (0 : Int32))) (E_bs : Exa Z h0 bs own_cS) (F_bs_coder : Fld Z h0 bs own_cS "coder" "B" (.int (0 : Int32))) (F_bs_value : Fld Z h0 bs own_cS "value" "[B" (.ref be)) (V_be : Arv Z h0 be ke .byte (Int32.ofNat ds.length) (own_ch ds) (.int (0 : Int32))) (g_bb : Z.heap.size ≤ bb) (g_ba : Z.heap.size ≤ ba) (hc1 : ¬ (w_CS = (0 : Int32))) (hc37 : cs.length + ds.length ≤ 16) (hc35 : bb ≠ ba) (hc36 : ba ≠ bb) :
    own_met l y_17 jdk_67_method_7_code 2 (some (.object own_cB)) ws ({ frames := 4, cells := 0, slots := 0, locals := 61 } : Room) Z #[(.ref bb), (.ref bs)] h0 (Qrm110 Z bb ba kv cs ds h0) := by
  refine own_start (plainFor_of_name pn_4) (fun m => ef_jdk_67_method_7_RR m bb bs) ?_
  intro p e s m below meth c s₁ hx hby hml hown hnm X0 hZ e0 hret hlk
  have N0 := Fr.nil Z.heap.size
  obtain ⟨_, T143, Lc143, X143, hQ143, st143⟩ := own_super (y := y_16) X0 hx hZ hown (own_w hw 78 rfl) (own_same (own_w hw 79 rfl) (own_w hw 98 rfl) rfl (by decide)) (own_w hw 79 rfl) (own_w hw 80 rfl) (own_w hw 65 rfl) (own_w hw 82 rfl) (rm111 l Z a0 hw [] w_CS bb ba kv cs bs be ke ds h0 Z0 S_w_CS E_bb F_bb_coder F_bb_count F_bb_value E_bs F_bs_coder F_bs_value V_ba V_be g_bb g_ba hc1 hc37 hc35 hc36) e0 (Ins.self E_bb) (g := (mkF m 2 #[rv bb, rv bs] [(.ref bs), (.ref bb)])) (argsL := [(.ref bs)]) (rest := []) (W := 0) (lenOf pd_13 rfl) (hb hby d12_2) hml
  obtain ⟨rfl, N143q, K143q, q143_E_bb, q143_F_bb_coder, q143_F_bb_count, q143_F_bb_value, q143_V_ba⟩ := hQ143
  have K143 := (Keep.refl h0 [bb, ba]).trans K143q (allS (Or.inl (List.mem_of_getElem? (i := 1) rfl)) (allS (Or.inl (List.mem_of_getElem? (i := 0) rfl)) all0))
  have N143 := Fr.app N0 N143q
  obtain ⟨_, hr, hrun, hended, hW, hsame⟩ := X143.leave (v := some (.ref bb)) (fun h => by rw [hret] at h; cases h) hlk
  refine ⟨_, _, ?_, hrun, hended, _, _, rfl, ?_, ⟨_, rfl⟩, hW, hsame.mono (by decide) (by decide)⟩
  · show own_S p e below s₁ (mkF m 0 #[rv bb, rv bs] []) _
    refine own_aN X0 hx hby d12_0 ?_
    refine own_aN X0 hx hby d12_1 ?_
    refine st143 _ ?_
    refine XS.pop X143.here hx rfl (hb hby d12_5) rfl rfl ?_
    refine own_aN X143 hx hby d12_6 ?_
    jvm_step X143.here [X143.here.top, hx, (hb hby d12_7), X143.method', hret, Value.isRef, FieldType.isReference]
    first | (intro acts; rw [hr _ acts rfl rfl rfl]) | rw [hr _ _ rfl rfl rfl]
    exact Steps.refl _
  · show Qrm110 Z bb ba kv cs ds h0 _ T143.heap _
    exact ⟨rfl, N143, K143, q143_E_bb, q143_F_bb_value, q143_F_bb_coder, q143_F_bb_count, q143_V_ba⟩
def Qown_apS_n16 (Z : State) (bb ba : Addr) (kv : ClassId) (cs ds : List Int32) (h0 : Heap) (v : Option Value) (h : Heap) (L : List Loc) : Prop := v = some (.ref bb) ∧ Fr Z.heap.size L ∧ Keep h0 h [bb, ba] ∧ Exa Z h bb own_cB ∧ Fld Z h bb own_cA "value" "[B" (.ref ba) ∧ Fld Z h bb own_cA "coder" "B" (.int (0 : Int32)) ∧ Fld Z h bb own_cA "count" "I" (.int (Int32.ofNat (cs ++ ds).length)) ∧ Arv Z h ba kv .byte (16 : Int32) (own_buf 16 (cs ++ ds)) (.int (0 : Int32))
theorem own_apS_n16 (l : Launch) (Z : State) (a0 : Array Value) (hw : own_HW Z a0) (ws : List Jvm.Cond) (w_CS : Int32) (bb ba : Addr) (kv : ClassId) (cs : List Int32) (bs be : Addr) (ke : ClassId) (ds : List Int32) (h0 : Heap) (Z0 : Ext Z.heap h0) (S_w_CS : own_w_CS Z w_CS) (E_bb : Exa Z h0 bb own_cB) (F_bb_value : Fld Z h0 bb own_cA "value" "[B" (.ref ba)) (F_bb_coder : Fld Z h0 bb own_cA "coder" "B" (.int (0 : Int32))) (F_bb_count : Fld Z h0 bb own_cA "count" "I" (.int (Int32.ofNat cs.length))) (V_ba : Arv Z h0 ba kv .byte (16 : Int32) (own_buf 16 cs) (.int (0 : Int32))) (E_bs : Exa Z h0 bs own_cS) (F_bs_coder : Fld Z h0 bs own_cS "coder" "B" (.int (0 : Int32))) (F_bs_value : Fld Z h0 bs own_cS "value" "[B" (.ref be)) (V_be : Arv Z h0 be ke .byte (Int32.ofNat ds.length) (own_ch ds) (.int (0 : Int32))) (g_bb : Z.heap.size ≤ bb) (g_ba : Z.heap.size ≤ ba) (hc1 : ¬ (w_CS = (0 : Int32))) (hc37 : cs.length + ds.length ≤ 16) (hc35 : bb ≠ ba) (hc36 : ba ≠ bb) :
    own_met l y_17 jdk_67_method_7_code 2 (some (.object own_cB)) ws ({ frames := 4, cells := 0, slots := 0, locals := 61 } : Room) Z #[(.ref bb), (.ref bs)] h0 (Qown_apS_n16 Z bb ba kv cs ds h0) := by
  exact own_mono (rm110 l Z a0 hw ws w_CS bb ba kv cs bs be ke ds h0 Z0 S_w_CS E_bb F_bb_value F_bb_coder F_bb_count V_ba E_bs F_bs_coder F_bs_value V_be g_bb g_ba hc1 hc37 hc35 hc36) fun v h L ⟨z1, z2, z3, f0, f1, f2, f3, f4⟩ => ⟨z1, z2, z3, f0, f1, f2, (by rw [List.length_append]; exact f3), f4⟩
def Qrm154 (Z : State) (ba : Addr) (kv : ClassId) (cs ds : List Int32) (h0 : Heap) (v : Option Value) (h : Heap) (L : List Loc) : Prop := v = none ∧ Fr Z.heap.size L ∧ Keep h0 h [ba] ∧ Arv Z h ba kv .byte (34 : Int32) (own_buf 34 (cs ++ ds)) (.int (0 : Int32))
theorem rm154 (l : Launch) (Z : State) (a0 : Array Value) (hw : own_HW Z a0) (ws : List Jvm.Cond) (w_CS : Int32) (ba : Addr) (kv : ClassId) (cs : List Int32) (bs be : Addr) (ke : ClassId) (ds : List Int32) (h0 : Heap) (Z0 : Ext Z.heap h0) (S_w_CS : own_w_CS Z w_CS) (E_bs : Exa Z h0 bs own_cS) (F_bs_coder : Fld Z h0 bs own_cS "coder" "B" (.int (0 : Int32))) (F_bs_value : Fld Z h0 bs own_cS "value" "[B" (.ref be)) (V_ba : Arv Z h0 ba kv .byte (34 : Int32) (own_buf 34 cs) (.int (0 : Int32))) (V_be : Arv Z h0 be ke .byte (Int32.ofNat ds.length) (own_ch ds) (.int (0 : Int32))) (g_ba : Z.heap.size ≤ ba) (hc1 : ¬ (w_CS = (0 : Int32))) (hc38 : cs.length + ds.length ≤ 34) :
    own_met l y_14 jdk_42_method_147_code 4 none ws ({ frames := 1, cells := 0, slots := 0, locals := 18 } : Room) Z #[(.ref bs), (.ref ba), (.int (Int32.ofNat cs.length)), (.int (0 : Int32))] h0 (Qrm154 Z ba kv cs ds h0) := by
  refine own_start (plainFor_of_name pn_5) (fun m => ef_jdk_42_method_147_RRII m bs ba (Int32.ofNat cs.length) (0 : Int32)) ?_
  intro p e s m below meth c s₁ hx hby hml hown hnm X0 hZ e0 hret hlk
  have N0 := Fr.nil Z.heap.size
  obtain ⟨_, T155, Lc155, X155, hQ155, st155⟩ := own_virtual (y := y_11) X0 hx hZ hown (own_w hw 88 rfl) (own_w hw 89 rfl) (own_w hw 91 rfl) (own_w hw 90 rfl) (own_w hw 6 rfl) (own_w hw 92 rfl) (rm115 l Z a0 hw [] w_CS bs h0 Z0 S_w_CS F_bs_coder hc1) e0 E_bs (g := (mkF m 1 #[rv bs, rv ba, iv (Int32.ofNat cs.length), iv (0 : Int32)] [(.ref bs)])) (argsL := []) (rest := []) (W := 0) (lenOf pd_8 rfl) (hb hby d19_1) hml
  obtain ⟨rfl, N155q, e155⟩ := hQ155
  have N155 := Fr.app N0 N155q
  obtain ⟨T156, X156, e156, st156⟩ := getF X155 hx hZ hown (host := "") (Or.inl (own_w hw 32 rfl)) Via.refl e155 F_bs_value (g := (mkF m 9 #[rv bs, rv ba, iv (Int32.ofNat cs.length), iv (0 : Int32)] [(.ref bs)])) rfl rfl (hb hby d19_9)
  obtain ⟨T157, X157, e157, st157⟩ := getF X156 hx hZ hown (host := "") (Or.inl (own_w hw 32 rfl)) Via.refl e156 F_bs_value (g := (mkF m 18 #[rv bs, rv ba, iv (Int32.ofNat cs.length), iv (0 : Int32)] [(.ref bs), (.int (Int32.ofNat cs.length)), (.ref ba), (.int (0 : Int32)), (.ref be)])) rfl rfl (hb hby d19_18)
  obtain ⟨cl158, Ar158, q158, S158, Nn158, H158, G158⟩ := id V_be
  obtain ⟨T159, h159, L159, X159, e159, N159, K159q, V159, st159⟩ := own_cp X157 hx hZ hown (own_w hw 116 rfl) (own_w hw 119 rfl) (own_w hw 117 rfl) (own_w hw 118 rfl) e157 V_be V_ba (own_cp_add (ds := ds) hc38 (by decide) (by decide)) N155 g_ba (g := (mkF m 22 #[rv bs, rv ba, iv (Int32.ofNat cs.length), iv (0 : Int32)] [(.int (Int32.ofNat ds.length)), (.int (Int32.ofNat cs.length)), (.ref ba), (.int (0 : Int32)), (.ref be)])) (W := 0) (hb hby d19_22) hml
  have K159 := (Keep.refl h0 [ba]).trans K159q (allS (Or.inl (List.mem_of_getElem? (i := 0) rfl)) all0)
  obtain ⟨_, hr, hrun, hended, hW, hsame⟩ := X159.leave (v := none) (fun _ => rfl) hlk
  refine ⟨_, _, ?_, hrun, hended, _, _, rfl, ?_, ⟨_, rfl⟩, hW, hsame.mono (by decide) (by decide)⟩
  · show own_S p e below s₁ (mkF m 0 #[rv bs, rv ba, iv (Int32.ofNat cs.length), iv (0 : Int32)] []) _
    refine own_aN X0 hx hby d19_0 ?_
    refine st155 _ ?_
    refine own_iN X155 hx hby d19_4 ?_
    refine own_cn X155 hx hby d19_5 (teq (rfl : (0 : Int32) = (0 : Int32))).2 ?_
    refine own_aN X155 hx hby d19_8 ?_
    refine st156 _ ?_
    refine own_k X156 hx hby d19_12 ?_
    refine own_aN X156 hx hby d19_13 ?_
    refine own_iN X156 hx hby d19_14 ?_
    refine own_iN X156 hx hby d19_15 ?_
    refine XS.ishl X156.here hx rfl (hb hby d19_16) rfl ?_
    show own_S p e below T156 (mkF m 17 #[rv bs, rv ba, iv (Int32.ofNat cs.length), iv (0 : Int32)] [(.int ((Int32.ofNat cs.length) <<< ((0 : Int32) &&& 31))), (.ref ba), (.int (0 : Int32)), (.ref be)]) _
    rw [(own_shl0 _)]
    refine own_aN X156 hx hby d19_17 ?_
    refine st157 _ ?_
    refine X157.arraylength hx (by rw [e157]; exact Ar158.1) (State.isArrayOf_alike hZ.alike Ar158.2.1) (g := (mkF m 21 #[rv bs, rv ba, iv (Int32.ofNat cs.length), iv (0 : Int32)] [(.ref be), (.int (Int32.ofNat cs.length)), (.ref ba), (.int (0 : Int32)), (.ref be)])) rfl rfl (hb hby d19_21) _ ?_
    rw [len_of S158 Nn158]
    refine st159 _ ?_
    refine own_go (pc := 25) X159 hx hby d19_25 43 ?_
    exact X159.returnOut hx hret (hb hby d19_43) hr
  · show Qrm154 Z ba kv cs ds h0 _ T159.heap _
    rw [e159]
    exact ⟨rfl, N159, K159, V159⟩
def Qrm150 (Z : State) (ba : Addr) (kv : ClassId) (cs ds : List Int32) (h0 : Heap) (v : Option Value) (h : Heap) (L : List Loc) : Prop := v = none ∧ Fr Z.heap.size L ∧ Keep h0 h [ba] ∧ Arv Z h ba kv .byte (34 : Int32) (own_buf 34 (cs ++ ds)) (.int (0 : Int32))
theorem rm150 (l : Launch) (Z : State) (a0 : Array Value) (hw : own_HW Z a0) (ws : List Jvm.Cond) (w_CS : Int32) (bb ba : Addr) (kv : ClassId) (cs : List Int32) (bs be : Addr) (ke : ClassId) (ds : List Int32) (h0 : Heap) (Z0 : Ext Z.heap h0) (S_w_CS : own_w_CS Z w_CS) (E_bb : Exa Z h0 bb own_cB) (F_bb_coder : Fld Z h0 bb own_cA "coder" "B" (.int (0 : Int32))) (F_bb_value : Fld Z h0 bb own_cA "value" "[B" (.ref ba)) (E_bs : Exa Z h0 bs own_cS) (F_bs_coder : Fld Z h0 bs own_cS "coder" "B" (.int (0 : Int32))) (F_bs_value : Fld Z h0 bs own_cS "value" "[B" (.ref be)) (V_ba : Arv Z h0 ba kv .byte (34 : Int32) (own_buf 34 cs) (.int (0 : Int32))) (V_be : Arv Z h0 be ke .byte (Int32.ofNat ds.length) (own_ch ds) (.int (0 : Int32))) (g_ba : Z.heap.size ≤ ba) (hc1 : ¬ (w_CS = (0 : Int32))) (hc38 : cs.length + ds.length ≤ 34) :
    own_met l y_15 jdk_68_method_73_code 3 none ws ({ frames := 2, cells := 0, slots := 0, locals := 33 } : Room) Z #[(.ref bb), (.int (Int32.ofNat cs.length)), (.ref bs)] h0 (Qrm150 Z ba kv cs ds h0) := by
  refine own_start (plainFor_of_name pn_1) (fun m => ef_jdk_68_method_73_RIR m bb (Int32.ofNat cs.length) bs) ?_
  intro p e s m below meth c s₁ hx hby hml hown hnm X0 hZ e0 hret hlk
  have N0 := Fr.nil Z.heap.size
  obtain ⟨_, T151, Lc151, X151, hQ151, st151⟩ := own_virtual (y := y_13) X0 hx hZ hown (own_w hw 105 rfl) (own_decl (own_w hw 106 rfl) (own_w hw 109 rfl)) (own_w hw 108 rfl) (own_w hw 106 rfl) (own_w hw 65 rfl) (own_w hw 109 rfl) (rm124 l Z a0 hw [] w_CS bb bs h0 Z0 S_w_CS F_bb_coder E_bs F_bs_coder hc1) e0 E_bb (g := (mkF m 2 #[rv bb, iv (Int32.ofNat cs.length), rv bs] [(.ref bs), (.ref bb)])) (argsL := [(.ref bs)]) (rest := []) (W := 0) (lenOf pd_10 rfl) (hb hby d17_2) hml
  obtain ⟨rfl, N151q, e151⟩ := hQ151
  have N151 := Fr.app N0 N151q
  obtain ⟨T152, X152, e152, st152⟩ := getF X151 hx hZ hown (host := "") (Or.inl (own_w hw 69 rfl)) Via.refl e151 F_bb_value (g := (mkF m 7 #[rv bb, iv (Int32.ofNat cs.length), rv bs] [(.ref bb), (.ref bs)])) rfl rfl (hb hby d17_7)
  obtain ⟨T153, X153, e153, st153⟩ := getF X152 hx hZ hown (host := "") (Or.inl (own_w hw 71 rfl)) Via.refl e152 F_bb_coder (g := (mkF m 12 #[rv bb, iv (Int32.ofNat cs.length), rv bs] [(.ref bb), (.int (Int32.ofNat cs.length)), (.ref ba), (.ref bs)])) rfl rfl (hb hby d17_12)
  obtain ⟨_, T160, Lc160, X160, hQ160, st160⟩ := own_virtual (y := y_14) X153 hx hZ hown (own_w hw 111 rfl) (own_w hw 112 rfl) (own_w hw 114 rfl) (own_w hw 113 rfl) (own_w hw 6 rfl) (own_w hw 115 rfl) (rm154 l Z a0 hw [] w_CS ba kv cs bs be ke ds h0 Z0 S_w_CS E_bs F_bs_coder F_bs_value V_ba V_be g_ba hc1 hc38) e153 E_bs (g := (mkF m 15 #[rv bb, iv (Int32.ofNat cs.length), rv bs] [(.int (0 : Int32)), (.int (Int32.ofNat cs.length)), (.ref ba), (.ref bs)])) (argsL := [(.ref ba), (.int (Int32.ofNat cs.length)), (.int (0 : Int32))]) (rest := []) (W := 0) (lenOf pd_11 rfl) (hb hby d17_15) hml
  obtain ⟨rfl, N160q, K160q, q160_V_ba⟩ := hQ160
  have K160 := (Keep.refl h0 [ba]).trans K160q (allS (Or.inl (List.mem_of_getElem? (i := 0) rfl)) all0)
  have N160 := Fr.app N151 N160q
  obtain ⟨_, hr, hrun, hended, hW, hsame⟩ := X160.leave (v := none) (fun _ => rfl) hlk
  refine ⟨_, _, ?_, hrun, hended, _, _, rfl, ?_, ⟨_, rfl⟩, hW, hsame.mono (by decide) (by decide)⟩
  · show own_S p e below s₁ (mkF m 0 #[rv bb, iv (Int32.ofNat cs.length), rv bs] []) _
    refine own_aN X0 hx hby d17_0 ?_
    refine own_aN X0 hx hby d17_1 ?_
    refine st151 _ ?_
    refine own_aN X151 hx hby d17_5 ?_
    refine own_aN X151 hx hby d17_6 ?_
    refine st152 _ ?_
    refine own_iN X152 hx hby d17_10 ?_
    refine own_aN X152 hx hby d17_11 ?_
    refine st153 _ ?_
    refine st160 _ ?_
    exact X160.returnOut hx hret (hb hby d17_18) hr
  · show Qrm150 Z ba kv cs ds h0 _ T160.heap _
    exact ⟨rfl, N160, K160, q160_V_ba⟩
def Qrm145 (Z : State) (bb ba : Addr) (kv : ClassId) (cs ds : List Int32) (h0 : Heap) (v : Option Value) (h : Heap) (L : List Loc) : Prop := v = some (.ref bb) ∧ Fr Z.heap.size L ∧ Keep h0 h [ba, bb] ∧ Exa Z h bb own_cB ∧ Fld Z h bb own_cA "coder" "B" (.int (0 : Int32)) ∧ Fld Z h bb own_cA "count" "I" (.int (Int32.ofNat (cs.length + ds.length))) ∧ Fld Z h bb own_cA "value" "[B" (.ref ba) ∧ Arv Z h ba kv .byte (34 : Int32) (own_buf 34 (cs ++ ds)) (.int (0 : Int32))
theorem rm145 (l : Launch) (Z : State) (a0 : Array Value) (hw : own_HW Z a0) (ws : List Jvm.Cond) (w_CS : Int32) (bb ba : Addr) (kv : ClassId) (cs : List Int32) (bs be : Addr) (ke : ClassId) (ds : List Int32) (h0 : Heap) (Z0 : Ext Z.heap h0) (S_w_CS : own_w_CS Z w_CS) (E_bb : Exa Z h0 bb own_cB) (F_bb_coder : Fld Z h0 bb own_cA "coder" "B" (.int (0 : Int32))) (F_bb_count : Fld Z h0 bb own_cA "count" "I" (.int (Int32.ofNat cs.length))) (F_bb_value : Fld Z h0 bb own_cA "value" "[B" (.ref ba)) (E_bs : Exa Z h0 bs own_cS) (F_bs_coder : Fld Z h0 bs own_cS "coder" "B" (.int (0 : Int32))) (F_bs_value : Fld Z h0 bs own_cS "value" "[B" (.ref be)) (V_ba : Arv Z h0 ba kv .byte (34 : Int32) (own_buf 34 cs) (.int (0 : Int32))) (V_be : Arv Z h0 be ke .byte (Int32.ofNat ds.length) (own_ch ds) (.int (0 : Int32))) (g_bb : Z.heap.size ≤ bb) (g_ba : Z.heap.size ≤ ba) (hc1 : ¬ (w_CS = (0 : Int32))) (hc38 : cs.length + ds.length ≤ 34) (hc35 : bb ≠ ba) (hc36 : ba ≠ bb) :
    own_met l y_16 jdk_68_method_22_code 3 (some (.object own_cA)) ws ({ frames := 3, cells := 0, slots := 0, locals := 47 } : Room) Z #[(.ref bb), (.ref bs)] h0 (Qrm145 Z bb ba kv cs ds h0) := by
  refine own_start (plainFor_of_name pn_1) (fun m => ef_jdk_68_method_22_RR m bb bs) ?_
  intro p e s m below meth c s₁ hx hby hml hown hnm X0 hZ e0 hret hlk
  have N0 := Fr.nil Z.heap.size
  obtain ⟨_, T146, Lc146, X146, hQ146, st146⟩ := own_virtual (y := y_12) X0 hx hZ hown (own_w hw 83 rfl) (own_w hw 84 rfl) (own_w hw 86 rfl) (own_w hw 85 rfl) (own_w hw 6 rfl) (own_w hw 87 rfl) (rm112 l Z a0 hw [] w_CS bs be ke ds h0 Z0 S_w_CS E_bs F_bs_coder F_bs_value V_be hc1) e0 E_bs (g := (mkF m 10 #[rv bb, rv bs, .unset] [(.ref bs)])) (argsL := []) (rest := []) (W := 0) (lenOf pd_9 rfl) (hb hby d13_10) hml
  obtain ⟨rfl, N146q, e146⟩ := hQ146
  have N146 := Fr.app N0 N146q
  obtain ⟨T147, X147, e147, st147⟩ := getF X146 hx hZ hown (host := "") (Or.inl (own_w hw 93 rfl)) Via.refl e146 F_bb_count (g := (mkF m 16 #[rv bb, rv bs, iv (Int32.ofNat ds.length)] [(.ref bb), (.ref bb)])) rfl rfl (hb hby d13_16)
  obtain ⟨_, T148, Lc148, X148, hQ148, st148⟩ := own_virtual (y := y_2) X147 hx hZ hown (own_w hw 95 rfl) (own_decl (own_w hw 96 rfl) (own_w hw 99 rfl)) (own_w hw 98 rfl) (own_w hw 96 rfl) (own_w hw 65 rfl) (own_w hw 99 rfl) (rm61 l Z a0 hw [] bb ba kv cs (cs.length + ds.length) h0 Z0 F_bb_value F_bb_coder V_ba hc38) e147 E_bb (g := (mkF m 21 #[rv bb, rv bs, iv (Int32.ofNat ds.length)] [(.int (Int32.ofNat (cs.length + ds.length))), (.ref bb)])) (argsL := [(.int (Int32.ofNat (cs.length + ds.length)))]) (rest := []) (W := 0) (lenOf pd_4 rfl) (hb hby d13_21) hml
  obtain ⟨rfl, N148q, e148⟩ := hQ148
  have N148 := Fr.app N146 N148q
  obtain ⟨T149, X149, e149, st149⟩ := getF X148 hx hZ hown (host := "") (Or.inl (own_w hw 93 rfl)) Via.refl e148 F_bb_count (g := (mkF m 26 #[rv bb, rv bs, iv (Int32.ofNat ds.length)] [(.ref bb), (.ref bb)])) rfl rfl (hb hby d13_26)
  obtain ⟨_, T161, Lc161, X161, hQ161, st161⟩ := own_virtual (y := y_15) X149 hx hZ hown (own_w hw 100 rfl) (own_decl (own_w hw 101 rfl) (own_w hw 104 rfl)) (own_w hw 103 rfl) (own_w hw 101 rfl) (own_w hw 65 rfl) (own_w hw 104 rfl) (rm150 l Z a0 hw [] w_CS bb ba kv cs bs be ke ds h0 Z0 S_w_CS E_bb F_bb_coder F_bb_value E_bs F_bs_coder F_bs_value V_ba V_be g_ba hc1 hc38) e149 E_bb (g := (mkF m 30 #[rv bb, rv bs, iv (Int32.ofNat ds.length)] [(.ref bs), (.int (Int32.ofNat cs.length)), (.ref bb)])) (argsL := [(.int (Int32.ofNat cs.length)), (.ref bs)]) (rest := []) (W := 0) (lenOf pd_12 rfl) (hb hby d13_30) hml
  obtain ⟨rfl, N161q, K161q, q161_V_ba⟩ := hQ161
  have K161 := (Keep.refl h0 [ba, bb]).trans K161q (allS (Or.inl (List.mem_of_getElem? (i := 0) rfl)) all0)
  have N161 := Fr.app N148 N161q
  obtain ⟨T162, X162, e162, st162⟩ := getF X161 hx hZ hown (host := "") (Or.inl (own_w hw 93 rfl)) Via.refl rfl (F_bb_count.keep K161q (ninS hc35 (nin0))) (g := (mkF m 35 #[rv bb, rv bs, iv (Int32.ofNat ds.length)] [(.ref bb), (.ref bb)])) rfl rfl (hb hby d13_35)
  obtain ⟨T163, h163, X163, e163, W163, st163⟩ := putF X162 hx hZ hown (host := "") (Or.inl (own_w hw 93 rfl)) Via.refl e162 (F_bb_count.keep K161q (ninS hc35 (nin0))) (E_bb.keep K161q) (Or.inl (own_w hw 94 rfl)) (own_w hw 56 rfl) (ty := .int) (by decide) rfl rfl (g := (mkF m 40 #[rv bb, rv bs, iv (Int32.ofNat ds.length)] [(.int (Int32.ofNat (cs.length + ds.length))), (.ref bb)])) rfl rfl (hb hby d13_40)
  have K163 := K161.wr W163 (Or.inl (List.mem_of_getElem? (i := 1) rfl))
  have N163 := Fr.snoc X163 N161 g_bb
  have f164_F_bb_coder := ((F_bb_coder.keep K161q (ninS hc35 (nin0))).other W163 (Or.inr (slot_ne (Or.inl (own_w hw 72 rfl)) (Or.inl (own_w hw 94 rfl)) (by decide) (t := .byte) (t' := .int) (by decide) (by decide))))
  have f165_F_bb_value := ((F_bb_value.keep K161q (ninS hc35 (nin0))).other W163 (Or.inr (slot_ne (Or.inl (own_w hw 70 rfl)) (Or.inl (own_w hw 94 rfl)) (by decide) (t := (.array .byte)) (t' := .int) (by decide) (by decide))))
  obtain ⟨_, hr, hrun, hended, hW, hsame⟩ := X163.leave (v := some (.ref bb)) (fun h => by rw [hret] at h; cases h) hlk
  refine ⟨_, _, ?_, hrun, hended, _, _, rfl, ?_, ⟨_, rfl⟩, hW, hsame.mono (by decide) (by decide)⟩
  · show own_S p e below s₁ (mkF m 0 #[rv bb, rv bs, .unset] []) _
    refine own_aN X0 hx hby d13_0 ?_
    refine XS.ifnonnullYes X0.here hx rfl (pc0 := 1) (pc' := 9) rfl (hb hby d13_1) rfl (by decide) (by decide) ?_
    refine own_aN X0 hx hby d13_9 ?_
    refine st146 _ ?_
    refine XS.istoreN X146.here hx rfl (hb hby d13_13) rfl (l' := #[rv bb, rv bs, iv (Int32.ofNat ds.length)]) rfl ?_
    refine own_aN X146 hx hby d13_14 ?_
    refine own_aN X146 hx hby d13_15 ?_
    refine st147 _ ?_
    refine own_iN X147 hx hby d13_19 ?_
    refine XS.iadd X147.here hx rfl (hb hby d13_20) rfl ?_
    show own_S p e below T147 (mkF m 21 #[rv bb, rv bs, iv (Int32.ofNat ds.length)] [(.int ((Int32.ofNat cs.length) + (Int32.ofNat ds.length))), (.ref bb)]) _
    rw [(Int32.ofNat_add _ _).symm]
    refine st148 _ ?_
    refine own_aN X148 hx hby d13_24 ?_
    refine own_aN X148 hx hby d13_25 ?_
    refine st149 _ ?_
    refine own_aN X149 hx hby d13_29 ?_
    refine st161 _ ?_
    refine own_aN X161 hx hby d13_33 ?_
    refine XS.dup X161.here hx rfl (hb hby d13_34) rfl rfl ?_
    refine st162 _ ?_
    refine own_iN X162 hx hby d13_38 ?_
    refine XS.iadd X162.here hx rfl (hb hby d13_39) rfl ?_
    show own_S p e below T162 (mkF m 40 #[rv bb, rv bs, iv (Int32.ofNat ds.length)] [(.int ((Int32.ofNat cs.length) + (Int32.ofNat ds.length))), (.ref bb)]) _
    rw [(Int32.ofNat_add _ _).symm]
    refine st163 _ ?_
    refine own_aN X163 hx hby d13_43 ?_
    jvm_step X163.here [X163.here.top, hx, (hb hby d13_44), X163.method', hret, Value.isRef, FieldType.isReference]
    first | (intro acts; rw [hr _ acts rfl rfl rfl]) | rw [hr _ _ rfl rfl rfl]
    exact Steps.refl _
  · show Qrm145 Z bb ba kv cs ds h0 _ T163.heap _
    rw [e163]
    exact ⟨rfl, N163, K163, ((E_bb.keep K161q).wr W163), f164_F_bb_coder, ((F_bb_count.keep K161q (ninS hc35 (nin0))).same W163), f165_F_bb_value, (q161_V_ba.other W163 hc36)⟩
def Qrm144 (Z : State) (bb ba : Addr) (kv : ClassId) (cs ds : List Int32) (h0 : Heap) (v : Option Value) (h : Heap) (L : List Loc) : Prop := v = some (.ref bb) ∧ Fr Z.heap.size L ∧ Keep h0 h [bb, ba] ∧ Exa Z h bb own_cB ∧ Fld Z h bb own_cA "value" "[B" (.ref ba) ∧ Fld Z h bb own_cA "coder" "B" (.int (0 : Int32)) ∧ Fld Z h bb own_cA "count" "I" (.int (Int32.ofNat (cs.length + ds.length))) ∧ Arv Z h ba kv .byte (34 : Int32) (own_buf 34 (cs ++ ds)) (.int (0 : Int32))
theorem rm144 (l : Launch) (Z : State) (a0 : Array Value) (hw : own_HW Z a0) (ws : List Jvm.Cond) (w_CS : Int32) (bb ba : Addr) (kv : ClassId) (cs : List Int32) (bs be : Addr) (ke : ClassId) (ds : List Int32) (h0 : Heap) (Z0 : Ext Z.heap h0) (S_w_CS : own_w_CS Z w_CS) (E_bb : Exa Z h0 bb own_cB) (F_bb_value : Fld Z h0 bb own_cA "value" "[B" (.ref ba)) (F_bb_coder : Fld Z h0 bb own_cA "coder" "B" (.int (0 : Int32))) (F_bb_count : Fld Z h0 bb own_cA "count" "I" (.int (Int32.ofNat cs.length))) (V_ba : Arv Z h0 ba kv .byte (34 : Int32) (own_buf 34 cs) (.int (0 : Int32))) (E_bs : Exa Z h0 bs own_cS) (F_bs_coder : Fld Z h0 bs own_cS "coder" "B" (.int (0 : Int32))) (F_bs_value : Fld Z h0 bs own_cS "value" "[B" (.ref be)) (V_be : Arv Z h0 be ke .byte (Int32.ofNat ds.length) (own_ch ds) (.int (0 : Int32))) (g_bb : Z.heap.size ≤ bb) (g_ba : Z.heap.size ≤ ba) (hc1 : ¬ (w_CS = (0 : Int32))) (hc38 : cs.length + ds.length ≤ 34) (hc35 : bb ≠ ba) (hc36 : ba ≠ bb) :
    own_met l y_17 jdk_67_method_7_code 2 (some (.object own_cB)) ws ({ frames := 4, cells := 0, slots := 0, locals := 61 } : Room) Z #[(.ref bb), (.ref bs)] h0 (Qrm144 Z bb ba kv cs ds h0) := by
  refine own_start (plainFor_of_name pn_4) (fun m => ef_jdk_67_method_7_RR m bb bs) ?_
  intro p e s m below meth c s₁ hx hby hml hown hnm X0 hZ e0 hret hlk
  have N0 := Fr.nil Z.heap.size
  obtain ⟨_, T166, Lc166, X166, hQ166, st166⟩ := own_super (y := y_16) X0 hx hZ hown (own_w hw 78 rfl) (own_same (own_w hw 79 rfl) (own_w hw 98 rfl) rfl (by decide)) (own_w hw 79 rfl) (own_w hw 80 rfl) (own_w hw 65 rfl) (own_w hw 82 rfl) (rm145 l Z a0 hw [] w_CS bb ba kv cs bs be ke ds h0 Z0 S_w_CS E_bb F_bb_coder F_bb_count F_bb_value E_bs F_bs_coder F_bs_value V_ba V_be g_bb g_ba hc1 hc38 hc35 hc36) e0 (Ins.self E_bb) (g := (mkF m 2 #[rv bb, rv bs] [(.ref bs), (.ref bb)])) (argsL := [(.ref bs)]) (rest := []) (W := 0) (lenOf pd_13 rfl) (hb hby d12_2) hml
  obtain ⟨rfl, N166q, K166q, q166_E_bb, q166_F_bb_coder, q166_F_bb_count, q166_F_bb_value, q166_V_ba⟩ := hQ166
  have K166 := (Keep.refl h0 [bb, ba]).trans K166q (allS (Or.inl (List.mem_of_getElem? (i := 1) rfl)) (allS (Or.inl (List.mem_of_getElem? (i := 0) rfl)) all0))
  have N166 := Fr.app N0 N166q
  obtain ⟨_, hr, hrun, hended, hW, hsame⟩ := X166.leave (v := some (.ref bb)) (fun h => by rw [hret] at h; cases h) hlk
  refine ⟨_, _, ?_, hrun, hended, _, _, rfl, ?_, ⟨_, rfl⟩, hW, hsame.mono (by decide) (by decide)⟩
  · show own_S p e below s₁ (mkF m 0 #[rv bb, rv bs] []) _
    refine own_aN X0 hx hby d12_0 ?_
    refine own_aN X0 hx hby d12_1 ?_
    refine st166 _ ?_
    refine XS.pop X166.here hx rfl (hb hby d12_5) rfl rfl ?_
    refine own_aN X166 hx hby d12_6 ?_
    jvm_step X166.here [X166.here.top, hx, (hb hby d12_7), X166.method', hret, Value.isRef, FieldType.isReference]
    first | (intro acts; rw [hr _ acts rfl rfl rfl]) | rw [hr _ _ rfl rfl rfl]
    exact Steps.refl _
  · show Qrm144 Z bb ba kv cs ds h0 _ T166.heap _
    exact ⟨rfl, N166, K166, q166_E_bb, q166_F_bb_value, q166_F_bb_coder, q166_F_bb_count, q166_V_ba⟩
def Qown_apS_n34 (Z : State) (bb ba : Addr) (kv : ClassId) (cs ds : List Int32) (h0 : Heap) (v : Option Value) (h : Heap) (L : List Loc) : Prop := v = some (.ref bb) ∧ Fr Z.heap.size L ∧ Keep h0 h [bb, ba] ∧ Exa Z h bb own_cB ∧ Fld Z h bb own_cA "value" "[B" (.ref ba) ∧ Fld Z h bb own_cA "coder" "B" (.int (0 : Int32)) ∧ Fld Z h bb own_cA "count" "I" (.int (Int32.ofNat (cs ++ ds).length)) ∧ Arv Z h ba kv .byte (34 : Int32) (own_buf 34 (cs ++ ds)) (.int (0 : Int32))
theorem own_apS_n34 (l : Launch) (Z : State) (a0 : Array Value) (hw : own_HW Z a0) (ws : List Jvm.Cond) (w_CS : Int32) (bb ba : Addr) (kv : ClassId) (cs : List Int32) (bs be : Addr) (ke : ClassId) (ds : List Int32) (h0 : Heap) (Z0 : Ext Z.heap h0) (S_w_CS : own_w_CS Z w_CS) (E_bb : Exa Z h0 bb own_cB) (F_bb_value : Fld Z h0 bb own_cA "value" "[B" (.ref ba)) (F_bb_coder : Fld Z h0 bb own_cA "coder" "B" (.int (0 : Int32))) (F_bb_count : Fld Z h0 bb own_cA "count" "I" (.int (Int32.ofNat cs.length))) (V_ba : Arv Z h0 ba kv .byte (34 : Int32) (own_buf 34 cs) (.int (0 : Int32))) (E_bs : Exa Z h0 bs own_cS) (F_bs_coder : Fld Z h0 bs own_cS "coder" "B" (.int (0 : Int32))) (F_bs_value : Fld Z h0 bs own_cS "value" "[B" (.ref be)) (V_be : Arv Z h0 be ke .byte (Int32.ofNat ds.length) (own_ch ds) (.int (0 : Int32))) (g_bb : Z.heap.size ≤ bb) (g_ba : Z.heap.size ≤ ba) (hc1 : ¬ (w_CS = (0 : Int32))) (hc38 : cs.length + ds.length ≤ 34) (hc35 : bb ≠ ba) (hc36 : ba ≠ bb) :
    own_met l y_17 jdk_67_method_7_code 2 (some (.object own_cB)) ws ({ frames := 4, cells := 0, slots := 0, locals := 61 } : Room) Z #[(.ref bb), (.ref bs)] h0 (Qown_apS_n34 Z bb ba kv cs ds h0) := by
  exact own_mono (rm144 l Z a0 hw ws w_CS bb ba kv cs bs be ke ds h0 Z0 S_w_CS E_bb F_bb_value F_bb_coder F_bb_count V_ba E_bs F_bs_coder F_bs_value V_be g_bb g_ba hc1 hc38 hc35 hc36) fun v h L ⟨z1, z2, z3, f0, f1, f2, f3, f4⟩ => ⟨z1, z2, z3, f0, f1, f2, (by rw [List.length_append]; exact f3), f4⟩
def Qrm179 (Z : State) (cs ds : List Int32) (b172 : Addr) (k173 : ClassId) (h0 : Heap) (v : Option Value) (h : Heap) (L : List Loc) : Prop := v = none ∧ Fr Z.heap.size L ∧ Keep h0 h [b172] ∧ Arv Z h b172 k173 .byte (34 : Int32) (own_buf 34 (cs ++ ds)) (.int (0 : Int32))
theorem rm179 (l : Launch) (Z : State) (a0 : Array Value) (hw : own_HW Z a0) (ws : List Jvm.Cond) (w_CS : Int32) (cs : List Int32) (bs be : Addr) (ke : ClassId) (ds : List Int32) (b172 : Addr) (k173 : ClassId) (h0 : Heap) (Z0 : Ext Z.heap h0) (S_w_CS : own_w_CS Z w_CS) (E_bs : Exa Z h0 bs own_cS) (F_bs_coder : Fld Z h0 bs own_cS "coder" "B" (.int (0 : Int32))) (F_bs_value : Fld Z h0 bs own_cS "value" "[B" (.ref be)) (V_b172 : Arv Z h0 b172 k173 .byte (34 : Int32) (own_buf 34 cs) (.int (0 : Int32))) (V_be : Arv Z h0 be ke .byte (Int32.ofNat ds.length) (own_ch ds) (.int (0 : Int32))) (g_b172 : Z.heap.size ≤ b172) (hc1 : ¬ (w_CS = (0 : Int32))) (hc39 : own_gw (cs.length + ds.length) ) :
    own_met l y_14 jdk_42_method_147_code 4 none ws ({ frames := 1, cells := 0, slots := 0, locals := 18 } : Room) Z #[(.ref bs), (.ref b172), (.int (Int32.ofNat cs.length)), (.int (0 : Int32))] h0 (Qrm179 Z cs ds b172 k173 h0) := by
  refine own_start (plainFor_of_name pn_5) (fun m => ef_jdk_42_method_147_RRII m bs b172 (Int32.ofNat cs.length) (0 : Int32)) ?_
  intro p e s m below meth c s₁ hx hby hml hown hnm X0 hZ e0 hret hlk
  have N0 := Fr.nil Z.heap.size
  obtain ⟨_, T180, Lc180, X180, hQ180, st180⟩ := own_virtual (y := y_11) X0 hx hZ hown (own_w hw 88 rfl) (own_w hw 89 rfl) (own_w hw 91 rfl) (own_w hw 90 rfl) (own_w hw 6 rfl) (own_w hw 92 rfl) (rm115 l Z a0 hw [] w_CS bs h0 Z0 S_w_CS F_bs_coder hc1) e0 E_bs (g := (mkF m 1 #[rv bs, rv b172, iv (Int32.ofNat cs.length), iv (0 : Int32)] [(.ref bs)])) (argsL := []) (rest := []) (W := 0) (lenOf pd_8 rfl) (hb hby d19_1) hml
  obtain ⟨rfl, N180q, e180⟩ := hQ180
  have N180 := Fr.app N0 N180q
  obtain ⟨T181, X181, e181, st181⟩ := getF X180 hx hZ hown (host := "") (Or.inl (own_w hw 32 rfl)) Via.refl e180 F_bs_value (g := (mkF m 9 #[rv bs, rv b172, iv (Int32.ofNat cs.length), iv (0 : Int32)] [(.ref bs)])) rfl rfl (hb hby d19_9)
  obtain ⟨T182, X182, e182, st182⟩ := getF X181 hx hZ hown (host := "") (Or.inl (own_w hw 32 rfl)) Via.refl e181 F_bs_value (g := (mkF m 18 #[rv bs, rv b172, iv (Int32.ofNat cs.length), iv (0 : Int32)] [(.ref bs), (.int (Int32.ofNat cs.length)), (.ref b172), (.int (0 : Int32)), (.ref be)])) rfl rfl (hb hby d19_18)
  obtain ⟨cl183, Ar183, q183, S183, Nn183, H183, G183⟩ := id V_be
  obtain ⟨T184, h184, L184, X184, e184, N184, K184q, V184, st184⟩ := own_cp X182 hx hZ hown (own_w hw 116 rfl) (own_w hw 119 rfl) (own_w hw 117 rfl) (own_w hw 118 rfl) e182 V_be V_b172 (own_cp_add (ds := ds) (own_gw_le hc39) (by decide) (by decide)) N180 g_b172 (g := (mkF m 22 #[rv bs, rv b172, iv (Int32.ofNat cs.length), iv (0 : Int32)] [(.int (Int32.ofNat ds.length)), (.int (Int32.ofNat cs.length)), (.ref b172), (.int (0 : Int32)), (.ref be)])) (W := 0) (hb hby d19_22) hml
  have K184 := (Keep.refl h0 [b172]).trans K184q (allS (Or.inl (List.mem_of_getElem? (i := 0) rfl)) all0)
  obtain ⟨_, hr, hrun, hended, hW, hsame⟩ := X184.leave (v := none) (fun _ => rfl) hlk
  refine ⟨_, _, ?_, hrun, hended, _, _, rfl, ?_, ⟨_, rfl⟩, hW, hsame.mono (by decide) (by decide)⟩
  · show own_S p e below s₁ (mkF m 0 #[rv bs, rv b172, iv (Int32.ofNat cs.length), iv (0 : Int32)] []) _
    refine own_aN X0 hx hby d19_0 ?_
    refine st180 _ ?_
    refine own_iN X180 hx hby d19_4 ?_
    refine own_cn X180 hx hby d19_5 (teq (rfl : (0 : Int32) = (0 : Int32))).2 ?_
    refine own_aN X180 hx hby d19_8 ?_
    refine st181 _ ?_
    refine own_k X181 hx hby d19_12 ?_
    refine own_aN X181 hx hby d19_13 ?_
    refine own_iN X181 hx hby d19_14 ?_
    refine own_iN X181 hx hby d19_15 ?_
    refine XS.ishl X181.here hx rfl (hb hby d19_16) rfl ?_
    show own_S p e below T181 (mkF m 17 #[rv bs, rv b172, iv (Int32.ofNat cs.length), iv (0 : Int32)] [(.int ((Int32.ofNat cs.length) <<< ((0 : Int32) &&& 31))), (.ref b172), (.int (0 : Int32)), (.ref be)]) _
    rw [(own_shl0 _)]
    refine own_aN X181 hx hby d19_17 ?_
    refine st182 _ ?_
    refine X182.arraylength hx (by rw [e182]; exact Ar183.1) (State.isArrayOf_alike hZ.alike Ar183.2.1) (g := (mkF m 21 #[rv bs, rv b172, iv (Int32.ofNat cs.length), iv (0 : Int32)] [(.ref be), (.int (Int32.ofNat cs.length)), (.ref b172), (.int (0 : Int32)), (.ref be)])) rfl rfl (hb hby d19_21) _ ?_
    rw [len_of S183 Nn183]
    refine st184 _ ?_
    refine own_go (pc := 25) X184 hx hby d19_25 43 ?_
    exact X184.returnOut hx hret (hb hby d19_43) hr
  · show Qrm179 Z cs ds b172 k173 h0 _ T184.heap _
    rw [e184]
    exact ⟨rfl, N184, K184, V184⟩
def Qrm175 (Z : State) (cs ds : List Int32) (b172 : Addr) (k173 : ClassId) (h0 : Heap) (v : Option Value) (h : Heap) (L : List Loc) : Prop := v = none ∧ Fr Z.heap.size L ∧ Keep h0 h [b172] ∧ Arv Z h b172 k173 .byte (34 : Int32) (own_buf 34 (cs ++ ds)) (.int (0 : Int32))
theorem rm175 (l : Launch) (Z : State) (a0 : Array Value) (hw : own_HW Z a0) (ws : List Jvm.Cond) (w_CS : Int32) (bb : Addr) (cs : List Int32) (bs be : Addr) (ke : ClassId) (ds : List Int32) (b172 : Addr) (k173 : ClassId) (h0 : Heap) (Z0 : Ext Z.heap h0) (S_w_CS : own_w_CS Z w_CS) (E_bb : Exa Z h0 bb own_cB) (F_bb_coder : Fld Z h0 bb own_cA "coder" "B" (.int (0 : Int32))) (F_bb_value : Fld Z h0 bb own_cA "value" "[B" (.ref b172)) (E_bs : Exa Z h0 bs own_cS) (F_bs_coder : Fld Z h0 bs own_cS "coder" "B" (.int (0 : Int32))) (F_bs_value : Fld Z h0 bs own_cS "value" "[B" (.ref be)) (V_b172 : Arv Z h0 b172 k173 .byte (34 : Int32) (own_buf 34 cs) (.int (0 : Int32))) (V_be : Arv Z h0 be ke .byte (Int32.ofNat ds.length) (own_ch ds) (.int (0 : Int32))) (g_b172 : Z.heap.size ≤ b172) (hc1 : ¬ (w_CS = (0 : Int32))) (hc39 : own_gw (cs.length + ds.length) ) :
    own_met l y_15 jdk_68_method_73_code 3 none ws ({ frames := 2, cells := 0, slots := 0, locals := 33 } : Room) Z #[(.ref bb), (.int (Int32.ofNat cs.length)), (.ref bs)] h0 (Qrm175 Z cs ds b172 k173 h0) := by
  refine own_start (plainFor_of_name pn_1) (fun m => ef_jdk_68_method_73_RIR m bb (Int32.ofNat cs.length) bs) ?_
  intro p e s m below meth c s₁ hx hby hml hown hnm X0 hZ e0 hret hlk
  have N0 := Fr.nil Z.heap.size
  obtain ⟨_, T176, Lc176, X176, hQ176, st176⟩ := own_virtual (y := y_13) X0 hx hZ hown (own_w hw 105 rfl) (own_decl (own_w hw 106 rfl) (own_w hw 109 rfl)) (own_w hw 108 rfl) (own_w hw 106 rfl) (own_w hw 65 rfl) (own_w hw 109 rfl) (rm124 l Z a0 hw [] w_CS bb bs h0 Z0 S_w_CS F_bb_coder E_bs F_bs_coder hc1) e0 E_bb (g := (mkF m 2 #[rv bb, iv (Int32.ofNat cs.length), rv bs] [(.ref bs), (.ref bb)])) (argsL := [(.ref bs)]) (rest := []) (W := 0) (lenOf pd_10 rfl) (hb hby d17_2) hml
  obtain ⟨rfl, N176q, e176⟩ := hQ176
  have N176 := Fr.app N0 N176q
  obtain ⟨T177, X177, e177, st177⟩ := getF X176 hx hZ hown (host := "") (Or.inl (own_w hw 69 rfl)) Via.refl e176 F_bb_value (g := (mkF m 7 #[rv bb, iv (Int32.ofNat cs.length), rv bs] [(.ref bb), (.ref bs)])) rfl rfl (hb hby d17_7)
  obtain ⟨T178, X178, e178, st178⟩ := getF X177 hx hZ hown (host := "") (Or.inl (own_w hw 71 rfl)) Via.refl e177 F_bb_coder (g := (mkF m 12 #[rv bb, iv (Int32.ofNat cs.length), rv bs] [(.ref bb), (.int (Int32.ofNat cs.length)), (.ref b172), (.ref bs)])) rfl rfl (hb hby d17_12)
  obtain ⟨_, T185, Lc185, X185, hQ185, st185⟩ := own_virtual (y := y_14) X178 hx hZ hown (own_w hw 111 rfl) (own_w hw 112 rfl) (own_w hw 114 rfl) (own_w hw 113 rfl) (own_w hw 6 rfl) (own_w hw 115 rfl) (rm179 l Z a0 hw [] w_CS cs bs be ke ds b172 k173 h0 Z0 S_w_CS E_bs F_bs_coder F_bs_value V_b172 V_be g_b172 hc1 hc39) e178 E_bs (g := (mkF m 15 #[rv bb, iv (Int32.ofNat cs.length), rv bs] [(.int (0 : Int32)), (.int (Int32.ofNat cs.length)), (.ref b172), (.ref bs)])) (argsL := [(.ref b172), (.int (Int32.ofNat cs.length)), (.int (0 : Int32))]) (rest := []) (W := 0) (lenOf pd_11 rfl) (hb hby d17_15) hml
  obtain ⟨rfl, N185q, K185q, q185_V_b172⟩ := hQ185
  have K185 := (Keep.refl h0 [b172]).trans K185q (allS (Or.inl (List.mem_of_getElem? (i := 0) rfl)) all0)
  have N185 := Fr.app N176 N185q
  obtain ⟨_, hr, hrun, hended, hW, hsame⟩ := X185.leave (v := none) (fun _ => rfl) hlk
  refine ⟨_, _, ?_, hrun, hended, _, _, rfl, ?_, ⟨_, rfl⟩, hW, hsame.mono (by decide) (by decide)⟩
  · show own_S p e below s₁ (mkF m 0 #[rv bb, iv (Int32.ofNat cs.length), rv bs] []) _
    refine own_aN X0 hx hby d17_0 ?_
    refine own_aN X0 hx hby d17_1 ?_
    refine st176 _ ?_
    refine own_aN X176 hx hby d17_5 ?_
    refine own_aN X176 hx hby d17_6 ?_
    refine st177 _ ?_
    refine own_iN X177 hx hby d17_10 ?_
    refine own_aN X177 hx hby d17_11 ?_
    refine st178 _ ?_
    refine st185 _ ?_
    exact X185.returnOut hx hret (hb hby d17_18) hr
  · show Qrm175 Z cs ds b172 k173 h0 _ T185.heap _
    exact ⟨rfl, N185, K185, q185_V_b172⟩
def Qrm168 (Z : State) (bb : Addr) (cs ds : List Int32) (h0 : Heap) (v : Option Value) (h : Heap) (L : List Loc) : Prop := ∃ b172 : Addr, ∃ k173 : ClassId, v = some (.ref bb) ∧ Fr Z.heap.size L ∧ Keep h0 h [bb] ∧ h0.size ≤ b172 ∧ Exa Z h bb own_cB ∧ Fld Z h bb own_cA "coder" "B" (.int (0 : Int32)) ∧ Fld Z h bb own_cA "count" "I" (.int (Int32.ofNat (cs.length + ds.length))) ∧ Fld Z h bb own_cA "value" "[B" (.ref b172) ∧ Arv Z h b172 k173 .byte (34 : Int32) (own_buf 34 (cs ++ ds)) (.int (0 : Int32))
theorem rm168 (l : Launch) (Z : State) (a0 : Array Value) (hw : own_HW Z a0) (ws : List Jvm.Cond) (w_CS : Int32) (bb ba : Addr) (kv : ClassId) (cs : List Int32) (bs be : Addr) (ke : ClassId) (ds : List Int32) (h0 : Heap) (Z0 : Ext Z.heap h0) (S_w_CS : own_w_CS Z w_CS) (E_bb : Exa Z h0 bb own_cB) (F_bb_coder : Fld Z h0 bb own_cA "coder" "B" (.int (0 : Int32))) (F_bb_count : Fld Z h0 bb own_cA "count" "I" (.int (Int32.ofNat cs.length))) (F_bb_value : Fld Z h0 bb own_cA "value" "[B" (.ref ba)) (E_bs : Exa Z h0 bs own_cS) (F_bs_coder : Fld Z h0 bs own_cS "coder" "B" (.int (0 : Int32))) (F_bs_value : Fld Z h0 bs own_cS "value" "[B" (.ref be)) (V_ba : Arv Z h0 ba kv .byte (16 : Int32) (own_buf 16 cs) (.int (0 : Int32))) (V_be : Arv Z h0 be ke .byte (Int32.ofNat ds.length) (own_ch ds) (.int (0 : Int32))) (g_bb : Z.heap.size ≤ bb) (hc1 : ¬ (w_CS = (0 : Int32))) (hc39 : own_gw (cs.length + ds.length) ) (hc33 : cs.length ≤ 16) (hc40 : bs ≠ bb) (hc41 : be ≠ bb) :
    own_met l y_16 jdk_68_method_22_code 3 (some (.object own_cA)) ws ({ frames := 4, cells := 1, slots := 34, locals := 62 } : Room) Z #[(.ref bb), (.ref bs)] h0 (Qrm168 Z bb cs ds h0) := by
  refine own_start (plainFor_of_name pn_1) (fun m => ef_jdk_68_method_22_RR m bb bs) ?_
  intro p e s m below meth c s₁ hx hby hml hown hnm X0 hZ e0 hret hlk
  have N0 := Fr.nil Z.heap.size
  obtain ⟨_, T169, Lc169, X169, hQ169, st169⟩ := own_virtual (y := y_12) X0 hx hZ hown (own_w hw 83 rfl) (own_w hw 84 rfl) (own_w hw 86 rfl) (own_w hw 85 rfl) (own_w hw 6 rfl) (own_w hw 87 rfl) (rm112 l Z a0 hw [] w_CS bs be ke ds h0 Z0 S_w_CS E_bs F_bs_coder F_bs_value V_be hc1) e0 E_bs (g := (mkF m 10 #[rv bb, rv bs, .unset] [(.ref bs)])) (argsL := []) (rest := []) (W := 0) (lenOf pd_9 rfl) (hb hby d13_10) hml
  obtain ⟨rfl, N169q, e169⟩ := hQ169
  have N169 := Fr.app N0 N169q
  obtain ⟨T170, X170, e170, st170⟩ := getF X169 hx hZ hown (host := "") (Or.inl (own_w hw 93 rfl)) Via.refl e169 F_bb_count (g := (mkF m 16 #[rv bb, rv bs, iv (Int32.ofNat ds.length)] [(.ref bb), (.ref bb)])) rfl rfl (hb hby d13_16)
  obtain ⟨_, T171, Lc171, X171, hQ171, st171⟩ := own_virtual (y := y_2) X170 hx hZ hown (own_w hw 95 rfl) (own_decl (own_w hw 96 rfl) (own_w hw 99 rfl)) (own_w hw 98 rfl) (own_w hw 96 rfl) (own_w hw 65 rfl) (own_w hw 99 rfl) (rm65 l Z a0 hw [] bb ba kv cs (cs.length + ds.length) h0 Z0 E_bb F_bb_value F_bb_coder F_bb_count V_ba g_bb hc39 hc33) e170 E_bb (g := (mkF m 21 #[rv bb, rv bs, iv (Int32.ofNat ds.length)] [(.int (Int32.ofNat (cs.length + ds.length))), (.ref bb)])) (argsL := [(.int (Int32.ofNat (cs.length + ds.length)))]) (rest := []) (W := 0) (lenOf pd_4 rfl) (hb hby d13_21) hml
  obtain ⟨b172, k173, rfl, N171q, K171q, szn_b172, q171_E_bb, q171_F_bb_value, q171_F_bb_coder, q171_F_bb_count, q171_V_b172⟩ := hQ171
  have g_b172 := Nat.le_trans Z0.1 szn_b172
  have sz_b172 := Nat.le_trans (Keep.refl h0 [bb]).1 szn_b172
  have K171 := (Keep.refl h0 [bb]).trans K171q (allS (Or.inl (List.mem_of_getElem? (i := 0) rfl)) all0)
  have XX171 := own_extK Z0 K171q (allS g_bb all0)
  have N171 := Fr.app N169 N171q
  obtain ⟨T174, X174, e174, st174⟩ := getF X171 hx hZ hown (host := "") (Or.inl (own_w hw 93 rfl)) Via.refl rfl q171_F_bb_count (g := (mkF m 26 #[rv bb, rv bs, iv (Int32.ofNat ds.length)] [(.ref bb), (.ref bb)])) rfl rfl (hb hby d13_26)
  obtain ⟨_, T186, Lc186, X186, hQ186, st186⟩ := own_virtual (y := y_15) X174 hx hZ hown (own_w hw 100 rfl) (own_decl (own_w hw 101 rfl) (own_w hw 104 rfl)) (own_w hw 103 rfl) (own_w hw 101 rfl) (own_w hw 65 rfl) (own_w hw 104 rfl) (rm175 l Z a0 hw [] w_CS bb cs bs be ke ds b172 k173 T171.heap XX171 S_w_CS q171_E_bb q171_F_bb_coder q171_F_bb_value (E_bs.keep K171q) (F_bs_coder.keep K171q (ninS hc40 (nin0))) (F_bs_value.keep K171q (ninS hc40 (nin0))) q171_V_b172 (V_be.keep K171q (ninS hc41 (nin0))) g_b172 hc1 hc39) e174 q171_E_bb (g := (mkF m 30 #[rv bb, rv bs, iv (Int32.ofNat ds.length)] [(.ref bs), (.int (Int32.ofNat cs.length)), (.ref bb)])) (argsL := [(.int (Int32.ofNat cs.length)), (.ref bs)]) (rest := []) (W := 0) (lenOf pd_12 rfl) (hb hby d13_30) hml
  obtain ⟨rfl, N186q, K186q, q186_V_b172⟩ := hQ186
  have K186 := K171.trans K186q (allS (Or.inr sz_b172) all0)
  have N186 := Fr.app N171 N186q
  have ne_bb_b172 := Nat.ne_of_lt (Nat.lt_of_lt_of_le E_bb.lt szn_b172)
  obtain ⟨T187, X187, e187, st187⟩ := getF X186 hx hZ hown (host := "") (Or.inl (own_w hw 93 rfl)) Via.refl rfl (q171_F_bb_count.keep K186q (ninS ne_bb_b172 (nin0))) (g := (mkF m 35 #[rv bb, rv bs, iv (Int32.ofNat ds.length)] [(.ref bb), (.ref bb)])) rfl rfl (hb hby d13_35)
  obtain ⟨T188, h188, X188, e188, W188, st188⟩ := putF X187 hx hZ hown (host := "") (Or.inl (own_w hw 93 rfl)) Via.refl e187 (q171_F_bb_count.keep K186q (ninS ne_bb_b172 (nin0))) (q171_E_bb.keep K186q) (Or.inl (own_w hw 94 rfl)) (own_w hw 56 rfl) (ty := .int) (by decide) rfl rfl (g := (mkF m 40 #[rv bb, rv bs, iv (Int32.ofNat ds.length)] [(.int (Int32.ofNat (cs.length + ds.length))), (.ref bb)])) rfl rfl (hb hby d13_40)
  have K188 := K186.wr W188 (Or.inl (List.mem_of_getElem? (i := 0) rfl))
  have N188 := Fr.snoc X188 N186 g_bb
  have f189_F_bb_coder := ((q171_F_bb_coder.keep K186q (ninS ne_bb_b172 (nin0))).other W188 (Or.inr (slot_ne (Or.inl (own_w hw 72 rfl)) (Or.inl (own_w hw 94 rfl)) (by decide) (t := .byte) (t' := .int) (by decide) (by decide))))
  have f190_F_bb_count := ((q171_F_bb_count.keep K186q (ninS ne_bb_b172 (nin0))).same W188)
  have f191_F_bb_value := ((q171_F_bb_value.keep K186q (ninS ne_bb_b172 (nin0))).other W188 (Or.inr (slot_ne (Or.inl (own_w hw 70 rfl)) (Or.inl (own_w hw 94 rfl)) (by decide) (t := (.array .byte)) (t' := .int) (by decide) (by decide))))
  obtain ⟨_, hr, hrun, hended, hW, hsame⟩ := X188.leave (v := some (.ref bb)) (fun h => by rw [hret] at h; cases h) hlk
  refine ⟨_, _, ?_, hrun, hended, _, _, rfl, ?_, ⟨_, rfl⟩, hW, hsame.mono (by decide) (by decide)⟩
  · show own_S p e below s₁ (mkF m 0 #[rv bb, rv bs, .unset] []) _
    refine own_aN X0 hx hby d13_0 ?_
    refine XS.ifnonnullYes X0.here hx rfl (pc0 := 1) (pc' := 9) rfl (hb hby d13_1) rfl (by decide) (by decide) ?_
    refine own_aN X0 hx hby d13_9 ?_
    refine st169 _ ?_
    refine XS.istoreN X169.here hx rfl (hb hby d13_13) rfl (l' := #[rv bb, rv bs, iv (Int32.ofNat ds.length)]) rfl ?_
    refine own_aN X169 hx hby d13_14 ?_
    refine own_aN X169 hx hby d13_15 ?_
    refine st170 _ ?_
    refine own_iN X170 hx hby d13_19 ?_
    refine XS.iadd X170.here hx rfl (hb hby d13_20) rfl ?_
    show own_S p e below T170 (mkF m 21 #[rv bb, rv bs, iv (Int32.ofNat ds.length)] [(.int ((Int32.ofNat cs.length) + (Int32.ofNat ds.length))), (.ref bb)]) _
    rw [(Int32.ofNat_add _ _).symm]
    refine st171 _ ?_
    refine own_aN X171 hx hby d13_24 ?_
    refine own_aN X171 hx hby d13_25 ?_
    refine st174 _ ?_
    refine own_aN X174 hx hby d13_29 ?_
    refine st186 _ ?_
    refine own_aN X186 hx hby d13_33 ?_
    refine XS.dup X186.here hx rfl (hb hby d13_34) rfl rfl ?_
    refine st187 _ ?_
    refine own_iN X187 hx hby d13_38 ?_
    refine XS.iadd X187.here hx rfl (hb hby d13_39) rfl ?_
    show own_S p e below T187 (mkF m 40 #[rv bb, rv bs, iv (Int32.ofNat ds.length)] [(.int ((Int32.ofNat cs.length) + (Int32.ofNat ds.length))), (.ref bb)]) _
    rw [(Int32.ofNat_add _ _).symm]
    refine st188 _ ?_
    refine own_aN X188 hx hby d13_43 ?_
    jvm_step X188.here [X188.here.top, hx, (hb hby d13_44), X188.method', hret, Value.isRef, FieldType.isReference]
    first | (intro acts; rw [hr _ acts rfl rfl rfl]) | rw [hr _ _ rfl rfl rfl]
    exact Steps.refl _
  · show Qrm168 Z bb cs ds h0 _ T188.heap _
    rw [e188]
    exact ⟨b172, k173, rfl, N188, K188, sz_b172, ((q171_E_bb.keep K186q).wr W188), f189_F_bb_coder, f190_F_bb_count, f191_F_bb_value, (q186_V_b172.other W188 (Ne.symm ne_bb_b172))⟩
def Qrm167 (Z : State) (bb : Addr) (cs ds : List Int32) (h0 : Heap) (v : Option Value) (h : Heap) (L : List Loc) : Prop := ∃ b193 : Addr, ∃ k194 : ClassId, v = some (.ref bb) ∧ Fr Z.heap.size L ∧ Keep h0 h [bb] ∧ h0.size ≤ b193 ∧ Exa Z h bb own_cB ∧ Fld Z h bb own_cA "value" "[B" (.ref b193) ∧ Fld Z h bb own_cA "coder" "B" (.int (0 : Int32)) ∧ Fld Z h bb own_cA "count" "I" (.int (Int32.ofNat (cs.length + ds.length))) ∧ Arv Z h b193 k194 .byte (34 : Int32) (own_buf 34 (cs ++ ds)) (.int (0 : Int32))
theorem rm167 (l : Launch) (Z : State) (a0 : Array Value) (hw : own_HW Z a0) (ws : List Jvm.Cond) (w_CS : Int32) (bb ba : Addr) (kv : ClassId) (cs : List Int32) (bs be : Addr) (ke : ClassId) (ds : List Int32) (h0 : Heap) (Z0 : Ext Z.heap h0) (S_w_CS : own_w_CS Z w_CS) (E_bb : Exa Z h0 bb own_cB) (F_bb_value : Fld Z h0 bb own_cA "value" "[B" (.ref ba)) (F_bb_coder : Fld Z h0 bb own_cA "coder" "B" (.int (0 : Int32))) (F_bb_count : Fld Z h0 bb own_cA "count" "I" (.int (Int32.ofNat cs.length))) (V_ba : Arv Z h0 ba kv .byte (16 : Int32) (own_buf 16 cs) (.int (0 : Int32))) (E_bs : Exa Z h0 bs own_cS) (F_bs_coder : Fld Z h0 bs own_cS "coder" "B" (.int (0 : Int32))) (F_bs_value : Fld Z h0 bs own_cS "value" "[B" (.ref be)) (V_be : Arv Z h0 be ke .byte (Int32.ofNat ds.length) (own_ch ds) (.int (0 : Int32))) (g_bb : Z.heap.size ≤ bb) (hc1 : ¬ (w_CS = (0 : Int32))) (hc39 : own_gw (cs.length + ds.length) ) (hc33 : cs.length ≤ 16) (hc40 : bs ≠ bb) (hc41 : be ≠ bb) :
    own_met l y_17 jdk_67_method_7_code 2 (some (.object own_cB)) ws ({ frames := 5, cells := 1, slots := 34, locals := 76 } : Room) Z #[(.ref bb), (.ref bs)] h0 (Qrm167 Z bb cs ds h0) := by
  refine own_start (plainFor_of_name pn_4) (fun m => ef_jdk_67_method_7_RR m bb bs) ?_
  intro p e s m below meth c s₁ hx hby hml hown hnm X0 hZ e0 hret hlk
  have N0 := Fr.nil Z.heap.size
  obtain ⟨_, T192, Lc192, X192, hQ192, st192⟩ := own_super (y := y_16) X0 hx hZ hown (own_w hw 78 rfl) (own_same (own_w hw 79 rfl) (own_w hw 98 rfl) rfl (by decide)) (own_w hw 79 rfl) (own_w hw 80 rfl) (own_w hw 65 rfl) (own_w hw 82 rfl) (rm168 l Z a0 hw [] w_CS bb ba kv cs bs be ke ds h0 Z0 S_w_CS E_bb F_bb_coder F_bb_count F_bb_value E_bs F_bs_coder F_bs_value V_ba V_be g_bb hc1 hc39 hc33 hc40 hc41) e0 (Ins.self E_bb) (g := (mkF m 2 #[rv bb, rv bs] [(.ref bs), (.ref bb)])) (argsL := [(.ref bs)]) (rest := []) (W := 0) (lenOf pd_13 rfl) (hb hby d12_2) hml
  obtain ⟨b193, k194, rfl, N192q, K192q, szn_b193, q192_E_bb, q192_F_bb_coder, q192_F_bb_count, q192_F_bb_value, q192_V_b193⟩ := hQ192
  have sz_b193 := Nat.le_trans (Keep.refl h0 [bb]).1 szn_b193
  have K192 := (Keep.refl h0 [bb]).trans K192q (allS (Or.inl (List.mem_of_getElem? (i := 0) rfl)) all0)
  have N192 := Fr.app N0 N192q
  obtain ⟨_, hr, hrun, hended, hW, hsame⟩ := X192.leave (v := some (.ref bb)) (fun h => by rw [hret] at h; cases h) hlk
  refine ⟨_, _, ?_, hrun, hended, _, _, rfl, ?_, ⟨_, rfl⟩, hW, hsame.mono (by decide) (by decide)⟩
  · show own_S p e below s₁ (mkF m 0 #[rv bb, rv bs] []) _
    refine own_aN X0 hx hby d12_0 ?_
    refine own_aN X0 hx hby d12_1 ?_
    refine st192 _ ?_
    refine XS.pop X192.here hx rfl (hb hby d12_5) rfl rfl ?_
    refine own_aN X192 hx hby d12_6 ?_
    jvm_step X192.here [X192.here.top, hx, (hb hby d12_7), X192.method', hret, Value.isRef, FieldType.isReference]
    first | (intro acts; rw [hr _ acts rfl rfl rfl]) | rw [hr _ _ rfl rfl rfl]
    exact Steps.refl _
  · show Qrm167 Z bb cs ds h0 _ T192.heap _
    exact ⟨b193, k194, rfl, N192, K192, sz_b193, q192_E_bb, q192_F_bb_value, q192_F_bb_coder, q192_F_bb_count, q192_V_b193⟩
def Qown_apS_g (Z : State) (bb : Addr) (cs ds : List Int32) (h0 : Heap) (v : Option Value) (h : Heap) (L : List Loc) : Prop := ∃ b193 : Addr, ∃ k194 : ClassId, v = some (.ref bb) ∧ Fr Z.heap.size L ∧ Keep h0 h [bb] ∧ h0.size ≤ b193 ∧ Exa Z h bb own_cB ∧ Fld Z h bb own_cA "value" "[B" (.ref b193) ∧ Fld Z h bb own_cA "coder" "B" (.int (0 : Int32)) ∧ Fld Z h bb own_cA "count" "I" (.int (Int32.ofNat (cs ++ ds).length)) ∧ Arv Z h b193 k194 .byte (34 : Int32) (own_buf 34 (cs ++ ds)) (.int (0 : Int32))
theorem own_apS_g (l : Launch) (Z : State) (a0 : Array Value) (hw : own_HW Z a0) (ws : List Jvm.Cond) (w_CS : Int32) (bb ba : Addr) (kv : ClassId) (cs : List Int32) (bs be : Addr) (ke : ClassId) (ds : List Int32) (h0 : Heap) (Z0 : Ext Z.heap h0) (S_w_CS : own_w_CS Z w_CS) (E_bb : Exa Z h0 bb own_cB) (F_bb_value : Fld Z h0 bb own_cA "value" "[B" (.ref ba)) (F_bb_coder : Fld Z h0 bb own_cA "coder" "B" (.int (0 : Int32))) (F_bb_count : Fld Z h0 bb own_cA "count" "I" (.int (Int32.ofNat cs.length))) (V_ba : Arv Z h0 ba kv .byte (16 : Int32) (own_buf 16 cs) (.int (0 : Int32))) (E_bs : Exa Z h0 bs own_cS) (F_bs_coder : Fld Z h0 bs own_cS "coder" "B" (.int (0 : Int32))) (F_bs_value : Fld Z h0 bs own_cS "value" "[B" (.ref be)) (V_be : Arv Z h0 be ke .byte (Int32.ofNat ds.length) (own_ch ds) (.int (0 : Int32))) (g_bb : Z.heap.size ≤ bb) (hc1 : ¬ (w_CS = (0 : Int32))) (hc39 : own_gw (cs.length + ds.length) ) (hc33 : cs.length ≤ 16) (hc40 : bs ≠ bb) (hc41 : be ≠ bb) :
    own_met l y_17 jdk_67_method_7_code 2 (some (.object own_cB)) ws ({ frames := 5, cells := 1, slots := 34, locals := 76 } : Room) Z #[(.ref bb), (.ref bs)] h0 (Qown_apS_g Z bb cs ds h0) := by
  exact own_mono (rm167 l Z a0 hw ws w_CS bb ba kv cs bs be ke ds h0 Z0 S_w_CS E_bb F_bb_value F_bb_coder F_bb_count V_ba E_bs F_bs_coder F_bs_value V_be g_bb hc1 hc39 hc33 hc40 hc41) fun v h L ⟨b193, k194, z1, z2, z3, s0, f0, f1, f2, f3, f4⟩ => ⟨b193, k194, z1, z2, z3, s0, f0, f1, f2, (by rw [List.length_append]; exact f3), f4⟩
theorem rm200 (l : Launch) (Z : State) (a0 : Array Value) (hw : own_HW Z a0) (ws : List Jvm.Cond) (bb ba : Addr) (h0 : Heap) (Z0 : Ext Z.heap h0) (F_bb_value : Fld Z h0 bb own_cA "value" "[B" (.ref ba)) :
    own_met l y_18 jdk_68_method_64_code 1 (some (.array .byte)) ws ({ frames := 0, cells := 0, slots := 0, locals := 0 } : Room) Z #[(.ref bb)] h0 (own_qp Z (some (.ref ba)) h0) := by
  refine own_start (plainFor_of_name pn_1) (fun m => ef_jdk_68_method_64_R m bb) ?_
  intro p e s m below meth c s₁ hx hby hml hown hnm X0 hZ e0 hret hlk
  have N0 := Fr.nil Z.heap.size
  obtain ⟨T201, X201, e201, st201⟩ := getF X0 hx hZ hown (host := "") (Or.inl (own_w hw 69 rfl)) Via.refl e0 F_bb_value (g := (mkF m 1 #[rv bb] [(.ref bb)])) rfl rfl (hb hby d28_1)
  obtain ⟨_, hr, hrun, hended, hW, hsame⟩ := X201.leave (v := some (.ref ba)) (fun h => by rw [hret] at h; cases h) hlk
  refine ⟨_, _, ?_, hrun, hended, _, _, rfl, ?_, ⟨_, rfl⟩, hW, hsame.mono (by decide) (by decide)⟩
  · show own_S p e below s₁ (mkF m 0 #[rv bb] []) _
    refine own_aN X0 hx hby d28_0 ?_
    refine st201 _ ?_
    jvm_step X201.here [X201.here.top, hx, (hb hby d28_4), X201.method', hret, Value.isRef, FieldType.isReference]
    first | (intro acts; rw [hr _ acts rfl rfl rfl]) | rw [hr _ _ rfl rfl rfl]
    exact Steps.refl _
  · show own_qp Z (some (.ref ba)) h0 _ T201.heap _
    rw [e201]
    exact ⟨rfl, N0, rfl⟩
theorem rm204 (l : Launch) (Z : State) (a0 : Array Value) (hw : own_HW Z a0) (ws : List Jvm.Cond) (bb : Addr) (cs : List Int32) (h0 : Heap) (Z0 : Ext Z.heap h0) (F_bb_count : Fld Z h0 bb own_cA "count" "I" (.int (Int32.ofNat cs.length))) :
    own_met l y_19 jdk_68_method_6_code 1 (some .int) ws ({ frames := 0, cells := 0, slots := 0, locals := 0 } : Room) Z #[(.ref bb)] h0 (own_qp Z (some (.int (Int32.ofNat cs.length))) h0) := by
  refine own_start (plainFor_of_name pn_1) (fun m => ef_jdk_68_method_6_R m bb) ?_
  intro p e s m below meth c s₁ hx hby hml hown hnm X0 hZ e0 hret hlk
  have N0 := Fr.nil Z.heap.size
  obtain ⟨T205, X205, e205, st205⟩ := getF X0 hx hZ hown (host := "") (Or.inl (own_w hw 93 rfl)) Via.refl e0 F_bb_count (g := (mkF m 1 #[rv bb] [(.ref bb)])) rfl rfl (hb hby d30_1)
  obtain ⟨_, hr, hrun, hended, hW, hsame⟩ := X205.leave (v := some (.int (Int32.ofNat cs.length))) (fun h => by rw [hret] at h; cases h) hlk
  refine ⟨_, _, ?_, hrun, hended, _, _, rfl, ?_, ⟨_, rfl⟩, hW, hsame.mono (by decide) (by decide)⟩
  · show own_S p e below s₁ (mkF m 0 #[rv bb] []) _
    refine own_aN X0 hx hby d30_0 ?_
    refine st205 _ ?_
    exact retI X205 hx hret (hb hby d30_4) hr
  · show own_qp Z (some (.int (Int32.ofNat cs.length))) h0 _ T205.heap _
    rw [e205]
    exact ⟨rfl, N0, rfl⟩
theorem rm203 (l : Launch) (Z : State) (a0 : Array Value) (hw : own_HW Z a0) (ws : List Jvm.Cond) (bb : Addr) (cs : List Int32) (h0 : Heap) (Z0 : Ext Z.heap h0) (E_bb : Exa Z h0 bb own_cB) (F_bb_count : Fld Z h0 bb own_cA "count" "I" (.int (Int32.ofNat cs.length))) :
    own_met l y_20 jdk_67_method_93_code 1 (some .int) ws ({ frames := 1, cells := 0, slots := 0, locals := 12 } : Room) Z #[(.ref bb)] h0 (own_qp Z (some (.int (Int32.ofNat cs.length))) h0) := by
  refine own_start (plainFor_of_name pn_4) (fun m => ef_jdk_67_method_93_R m bb) ?_
  intro p e s m below meth c s₁ hx hby hml hown hnm X0 hZ e0 hret hlk
  have N0 := Fr.nil Z.heap.size
  obtain ⟨_, T206, Lc206, X206, hQ206, st206⟩ := own_super (y := y_19) X0 hx hZ hown (own_w hw 167 rfl) (own_same (own_w hw 163 rfl) (own_w hw 98 rfl) rfl (by decide)) (own_w hw 163 rfl) (own_w hw 80 rfl) (own_w hw 65 rfl) (own_w hw 168 rfl) (rm204 l Z a0 hw [] bb cs h0 Z0 F_bb_count) e0 (Ins.self E_bb) (g := (mkF m 1 #[rv bb] [(.ref bb)])) (argsL := []) (rest := []) (W := 0) (lenOf pd_9 rfl) (hb hby d29_1) hml
  obtain ⟨rfl, N206q, e206⟩ := hQ206
  have N206 := Fr.app N0 N206q
  obtain ⟨_, hr, hrun, hended, hW, hsame⟩ := X206.leave (v := some (.int (Int32.ofNat cs.length))) (fun h => by rw [hret] at h; cases h) hlk
  refine ⟨_, _, ?_, hrun, hended, _, _, rfl, ?_, ⟨_, rfl⟩, hW, hsame.mono (by decide) (by decide)⟩
  · show own_S p e below s₁ (mkF m 0 #[rv bb] []) _
    refine own_aN X0 hx hby d29_0 ?_
    refine st206 _ ?_
    exact retI X206 hx hret (hb hby d29_4) hr
  · show own_qp Z (some (.int (Int32.ofNat cs.length))) h0 _ T206.heap _
    rw [e206]
    exact ⟨rfl, N206, rfl⟩
theorem rm213 (l : Launch) (Z : State) (a0 : Array Value) (hw : own_HW Z a0) (ws : List Jvm.Cond) (cs : List Int32) (h0 : Heap) (Z0 : Ext Z.heap h0) (hc42 : cs.length < 16) :
    own_met l y_21 jdk_65_method_131_code 2 none ws ({ frames := 0, cells := 0, slots := 0, locals := 0 } : Room) Z #[(.int (0 : Int32)), (.int (Int32.ofNat cs.length))] h0 (own_qp Z none h0) := by
  refine own_start (plainFor_of_name pn_3) (fun m => ef_jdk_65_method_131_II m (0 : Int32) (Int32.ofNat cs.length)) ?_
  intro p e s m below meth c s₁ hx hby hml hown hnm X0 hZ e0 hret hlk
  have N0 := Fr.nil Z.heap.size
  obtain ⟨_, hr, hrun, hended, hW, hsame⟩ := X0.leave (v := none) (fun _ => rfl) hlk
  refine ⟨_, _, ?_, hrun, hended, _, _, rfl, ?_, ⟨_, rfl⟩, hW, hsame.mono (by decide) (by decide)⟩
  · show own_S p e below s₁ (mkF m 0 #[iv (0 : Int32), iv (Int32.ofNat cs.length)] []) _
    refine own_iN X0 hx hby d33_0 ?_
    refine own_iN X0 hx hby d33_1 ?_
    refine own_cy (pc := 2) X0 hx hby d33_2 (flt (own_cl_nn hc42 (by decide))).2.1 37 ?_
    exact X0.returnOut hx hret (hb hby d33_37) hr
  · show own_qp Z none h0 _ s₁.heap _
    rw [e0]
    exact ⟨rfl, N0, rfl⟩
theorem rm217 (l : Launch) (Z : State) (a0 : Array Value) (hw : own_HW Z a0) (ws : List Jvm.Cond) (cs : List Int32) (h0 : Heap) (Z0 : Ext Z.heap h0) (hc42 : cs.length < 16) :
    own_met l y_6 jdk_29_method_69_code 2 (some .int) ws ({ frames := 0, cells := 0, slots := 0, locals := 0 } : Room) Z #[(.int (16 : Int32)), (.int (Int32.ofNat cs.length))] h0 (own_qp Z (some (.int (Int32.ofNat cs.length))) h0) := by
  refine own_start pf_1 (fun m => ef_jdk_29_method_69_II m (16 : Int32) (Int32.ofNat cs.length)) ?_
  intro p e s m below meth c s₁ hx hby hml hown hnm X0 hZ e0 hret hlk
  have N0 := Fr.nil Z.heap.size
  obtain ⟨_, hr, hrun, hended, hW, hsame⟩ := X0.leave (v := some (.int (Int32.ofNat cs.length))) (fun h => by rw [hret] at h; cases h) hlk
  refine ⟨_, _, ?_, hrun, hended, _, _, rfl, ?_, ⟨_, rfl⟩, hW, hsame.mono (by decide) (by decide)⟩
  · show own_S p e below s₁ (mkF m 0 #[iv (16 : Int32), iv (Int32.ofNat cs.length)] []) _
    refine own_iN X0 hx hby d34_0 ?_
    refine own_iN X0 hx hby d34_1 ?_
    refine own_cy (pc := 2) X0 hx hby d34_2 (tlt (own_cl_lt hc42 (by decide) rfl)).2.2.1 9 ?_
    refine own_iN X0 hx hby d34_9 ?_
    exact retI X0 hx hret (hb hby d34_10) hr
  · show own_qp Z (some (.int (Int32.ofNat cs.length))) h0 _ s₁.heap _
    rw [e0]
    exact ⟨rfl, N0, rfl⟩
def Qrm212 (Z : State) (cs : List Int32) (h0 : Heap) (v : Option Value) (h : Heap) (L : List Loc) : Prop := ∃ b215 : Addr, ∃ k215 : ClassId, v = some (.ref b215) ∧ Fr Z.heap.size L ∧ Keep h0 h [] ∧ h0.size ≤ b215 ∧ Arv Z h b215 k215 .byte (Int32.ofNat cs.length) (own_ch cs) (.int (0 : Int32))
theorem rm212 (l : Launch) (Z : State) (a0 : Array Value) (hw : own_HW Z a0) (ws : List Jvm.Cond) (ba : Addr) (kv : ClassId) (cs : List Int32) (h0 : Heap) (Z0 : Ext Z.heap h0) (V_ba : Arv Z h0 ba kv .byte (16 : Int32) (own_buf 16 cs) (.int (0 : Int32))) (hc42 : cs.length < 16) :
    own_met l y_22 jdk_65_method_133_code 5 (some (.array .byte)) ws ({ frames := 1, cells := 1, slots := 16, locals := 18 } : Room) Z #[(.ref ba), (.int (0 : Int32)), (.int (Int32.ofNat cs.length))] h0 (Qrm212 Z cs h0) := by
  refine own_start (plainFor_of_name pn_3) (fun m => ef_jdk_65_method_133_RII m ba (0 : Int32) (Int32.ofNat cs.length)) ?_
  intro p e s m below meth c s₁ hx hby hml hown hnm X0 hZ e0 hret hlk
  have N0 := Fr.nil Z.heap.size
  obtain ⟨_, T214, Lc214, X214, hQ214, st214⟩ := own_static (y := y_21) X0 hx hZ hown (own_w hw 177 rfl) (own_w hw 178 rfl) (own_w hw 172 rfl) (own_w hw 179 rfl) (rm213 l Z a0 hw [] cs h0 Z0 hc42) e0 (g := (mkF m 2 #[rv ba, iv (0 : Int32), iv (Int32.ofNat cs.length), .unset, .unset] [(.int (Int32.ofNat cs.length)), (.int (0 : Int32))])) (argsL := [(.int (0 : Int32)), (.int (Int32.ofNat cs.length))]) (rest := []) (W := 0) (lenOf pd_15 rfl) (hb hby d32_2) hml
  obtain ⟨rfl, N214q, e214⟩ := hQ214
  have N214 := Fr.app N0 N214q
  obtain ⟨T215, h215, k215, X215, e215, E215, A215, st215⟩ := newP X214 hx hZ (own_w hw 23 rfl) e214 (g := (mkF m 10 #[rv ba, iv (0 : Int32), iv (Int32.ofNat cs.length), iv (Int32.ofNat cs.length), .unset] [(.int (Int32.ofNat cs.length))])) rfl (hb hby d32_10) rfl (own_cl_nn hc42 (by decide)) (cap := 16) (own_cl_cap hc42 (by decide)) (by decide) (by decide) (by decide)
  obtain ⟨b215, g215⟩ : ∃ z, z = h0.size := ⟨_, rfl⟩
  rw [← g215] at A215 st215
  have g_b215 := Nat.le_trans Z0.1 (Nat.le_of_eq g215.symm)
  have sz_b215 := Nat.le_trans (Keep.refl h0 []).1 (Nat.le_of_eq g215.symm)
  have V_b215 : Arv Z h215 b215 k215 .byte (Int32.ofNat cs.length) (List.replicate cs.length (.int (0 : Int32))) (.int (0 : Int32)) := (Arv.new A215 (own_cl_nn hc42 (by decide))).pad (pad_rep [] (.int (0 : Int32)) cs.length)
  have K215 := (Keep.refl h0 []).ext E215
  have XX215 := own_ext2 Z0 E215
  obtain ⟨cl216, Ar216, q216, S216, Nn216, H216, G216⟩ := id (V_ba.ext E215)
  obtain ⟨_, T218, Lc218, X218, hQ218, st218⟩ := own_static (y := y_6) X215 hx hZ hown (own_w hw 180 rfl) (own_w hw 181 rfl) (own_w hw 182 rfl) (own_w hw 183 rfl) (rm217 l Z a0 hw [] cs h215 XX215 hc42) e215 (g := (mkF m 24 #[rv ba, iv (0 : Int32), iv (Int32.ofNat cs.length), iv (Int32.ofNat cs.length), rv b215] [(.int (Int32.ofNat cs.length)), (.int (16 : Int32)), (.int (0 : Int32)), (.ref b215), (.int (0 : Int32)), (.ref ba)])) (argsL := [(.int (16 : Int32)), (.int (Int32.ofNat cs.length))]) (rest := [(.int (0 : Int32)), (.ref b215), (.int (0 : Int32)), (.ref ba)]) (W := 4) (lenOf pd_0 rfl) (hb hby d32_24) hml
  obtain ⟨rfl, N218q, e218⟩ := hQ218
  have N218 := Fr.app N214 N218q
  obtain ⟨T219, h219, L219, X219, e219, N219, K219q, V219, st219⟩ := own_cp X218 hx hZ hown (own_w hw 184 rfl) (own_w hw 119 rfl) (own_w hw 117 rfl) (own_w hw 118 rfl) e218 (V_ba.ext E215) V_b215 (own_cp_out (Nat.le_of_lt hc42) (by decide) (by decide)) N218 g_b215 (g := (mkF m 27 #[rv ba, iv (0 : Int32), iv (Int32.ofNat cs.length), iv (Int32.ofNat cs.length), rv b215] [(.int (Int32.ofNat cs.length)), (.int (0 : Int32)), (.ref b215), (.int (0 : Int32)), (.ref ba)])) (W := 0) (hb hby d32_27) hml
  have K219 := K215.trans K219q (allS (Or.inr sz_b215) all0)
  obtain ⟨_, hr, hrun, hended, hW, hsame⟩ := X219.leave (v := some (.ref b215)) (fun h => by rw [hret] at h; cases h) hlk
  refine ⟨_, _, ?_, hrun, hended, _, _, rfl, ?_, ⟨_, rfl⟩, hW, hsame.mono (by decide) (by decide)⟩
  · show own_S p e below s₁ (mkF m 0 #[rv ba, iv (0 : Int32), iv (Int32.ofNat cs.length), .unset, .unset] []) _
    refine own_iN X0 hx hby d32_0 ?_
    refine own_iN X0 hx hby d32_1 ?_
    refine st214 _ ?_
    refine own_iN X214 hx hby d32_5 ?_
    refine own_iN X214 hx hby d32_6 ?_
    refine XS.isub X214.here hx rfl (hb hby d32_7) rfl ?_
    show own_S p e below T214 (mkF m 8 #[rv ba, iv (0 : Int32), iv (Int32.ofNat cs.length), .unset, .unset] [(.int ((Int32.ofNat cs.length) - (0 : Int32)))]) _
    rw [(own_sub0 _)]
    refine XS.istoreN X214.here hx rfl (hb hby d32_8) rfl (l' := #[rv ba, iv (0 : Int32), iv (Int32.ofNat cs.length), iv (Int32.ofNat cs.length), .unset]) rfl ?_
    refine own_iN X214 hx hby d32_9 ?_
    refine st215 _ ?_
    refine XS.astore X215.here hx rfl (hb hby d32_12) rfl rfl (l' := #[rv ba, iv (0 : Int32), iv (Int32.ofNat cs.length), iv (Int32.ofNat cs.length), rv b215]) rfl ?_
    refine own_aN X215 hx hby d32_14 ?_
    refine own_iN X215 hx hby d32_15 ?_
    refine own_a X215 hx hby d32_16 ?_
    refine own_k X215 hx hby d32_18 ?_
    refine own_aN X215 hx hby d32_19 ?_
    refine X215.arraylength hx (by rw [e215]; exact Ar216.1) (State.isArrayOf_alike hZ.alike Ar216.2.1) (g := (mkF m 20 #[rv ba, iv (0 : Int32), iv (Int32.ofNat cs.length), iv (Int32.ofNat cs.length), rv b215] [(.ref ba), (.int (0 : Int32)), (.ref b215), (.int (0 : Int32)), (.ref ba)])) rfl rfl (hb hby d32_20) _ ?_
    rw [len_of S216 Nn216]
    refine own_iN X215 hx hby d32_21 ?_
    refine XS.isub X215.here hx rfl (hb hby d32_22) rfl ?_
    show own_S p e below T215 (mkF m 23 #[rv ba, iv (0 : Int32), iv (Int32.ofNat cs.length), iv (Int32.ofNat cs.length), rv b215] [(.int ((16 : Int32) - (0 : Int32))), (.int (0 : Int32)), (.ref b215), (.int (0 : Int32)), (.ref ba)]) _
    rw [(by decide : ((16 : Int32) - (0 : Int32)) = (16 : Int32))]
    refine own_iN X215 hx hby d32_23 ?_
    refine st218 _ ?_
    refine st219 _ ?_
    refine own_a X219 hx hby d32_30 ?_
    jvm_step X219.here [X219.here.top, hx, (hb hby d32_32), X219.method', hret, Value.isRef, FieldType.isReference]
    first | (intro acts; rw [hr _ acts rfl rfl rfl]) | rw [hr _ _ rfl rfl rfl]
    exact Steps.refl _
  · show Qrm212 Z cs h0 _ T219.heap _
    rw [e219]
    exact ⟨b215, k215, rfl, N219, K219, sz_b215, V219⟩
def Qrm210 (Z : State) (cs : List Int32) (h0 : Heap) (v : Option Value) (h : Heap) (L : List Loc) : Prop := ∃ b221 : Addr, ∃ k222 : ClassId, v = some (.ref b221) ∧ Fr Z.heap.size L ∧ Keep h0 h [] ∧ h0.size ≤ b221 ∧ Arv Z h b221 k222 .byte (Int32.ofNat cs.length) (own_ch cs) (.int (0 : Int32))
theorem rm210 (l : Launch) (Z : State) (a0 : Array Value) (hw : own_HW Z a0) (ws : List Jvm.Cond) (ba : Addr) (kv : ClassId) (cs : List Int32) (h0 : Heap) (Z0 : Ext Z.heap h0) (V_ba : Arv Z h0 ba kv .byte (16 : Int32) (own_buf 16 cs) (.int (0 : Int32))) (hc42 : cs.length < 16) :
    own_met l y_23 jdk_65_method_132_code 3 (some (.array .byte)) ws ({ frames := 2, cells := 1, slots := 16, locals := 34 } : Room) Z #[(.ref ba), (.int (0 : Int32)), (.int (Int32.ofNat cs.length))] h0 (Qrm210 Z cs h0) := by
  refine own_start (plainFor_of_name pn_3) (fun m => ef_jdk_65_method_132_RII m ba (0 : Int32) (Int32.ofNat cs.length)) ?_
  intro p e s m below meth c s₁ hx hby hml hown hnm X0 hZ e0 hret hlk
  have N0 := Fr.nil Z.heap.size
  obtain ⟨cl211, Ar211, q211, S211, Nn211, H211, G211⟩ := id V_ba
  obtain ⟨_, T220, Lc220, X220, hQ220, st220⟩ := own_static (y := y_22) X0 hx hZ hown (own_w hw 174 rfl) (own_w hw 175 rfl) (own_w hw 172 rfl) (own_w hw 176 rfl) (rm212 l Z a0 hw [] ba kv cs h0 Z0 V_ba hc42) e0 (g := (mkF m 13 #[rv ba, iv (0 : Int32), iv (Int32.ofNat cs.length)] [(.int (Int32.ofNat cs.length)), (.int (0 : Int32)), (.ref ba)])) (argsL := [(.ref ba), (.int (0 : Int32)), (.int (Int32.ofNat cs.length))]) (rest := []) (W := 0) (lenOf pd_16 rfl) (hb hby d31_13) hml
  obtain ⟨b221, k222, rfl, N220q, K220q, szn_b221, q220_V_b221⟩ := hQ220
  have sz_b221 := Nat.le_trans (Keep.refl h0 []).1 szn_b221
  have K220 := (Keep.refl h0 []).trans K220q all0
  have N220 := Fr.app N0 N220q
  obtain ⟨_, hr, hrun, hended, hW, hsame⟩ := X220.leave (v := some (.ref b221)) (fun h => by rw [hret] at h; cases h) hlk
  refine ⟨_, _, ?_, hrun, hended, _, _, rfl, ?_, ⟨_, rfl⟩, hW, hsame.mono (by decide) (by decide)⟩
  · show own_S p e below s₁ (mkF m 0 #[rv ba, iv (0 : Int32), iv (Int32.ofNat cs.length)] []) _
    refine own_iN X0 hx hby d31_0 ?_
    refine own_in X0 hx hby d31_1 (teq (rfl : (0 : Int32) = (0 : Int32))).2 ?_
    refine own_iN X0 hx hby d31_4 ?_
    refine own_aN X0 hx hby d31_5 ?_
    refine X0.arraylength hx (by rw [e0]; exact Ar211.1) (State.isArrayOf_alike hZ.alike Ar211.2.1) (g := (mkF m 6 #[rv ba, iv (0 : Int32), iv (Int32.ofNat cs.length)] [(.ref ba), (.int (Int32.ofNat cs.length))])) rfl rfl (hb hby d31_6) _ ?_
    rw [len_of S211 Nn211]
    refine own_cn X0 hx hby d31_7 (feq (own_cl_ne hc42 (by decide) rfl)).1 ?_
    refine own_aN X0 hx hby d31_10 ?_
    refine own_iN X0 hx hby d31_11 ?_
    refine own_iN X0 hx hby d31_12 ?_
    refine st220 _ ?_
    jvm_step X220.here [X220.here.top, hx, (hb hby d31_16), X220.method', hret, Value.isRef, FieldType.isReference]
    first | (intro acts; rw [hr _ acts rfl rfl rfl]) | rw [hr _ _ rfl rfl rfl]
    exact Steps.refl _
  · show Qrm210 Z cs h0 _ T220.heap _
    exact ⟨b221, k222, rfl, N220, K220, sz_b221, q220_V_b221⟩
def Qrm198 (Z : State) (cs : List Int32) (b196 : Addr) (h0 : Heap) (v : Option Value) (h : Heap) (L : List Loc) : Prop := ∃ b224 : Addr, ∃ k225 : ClassId, v = none ∧ Fr Z.heap.size L ∧ Keep h0 h [b196] ∧ h0.size ≤ b224 ∧ Exa Z h b196 own_cS ∧ Fld Z h b196 own_cS "coder" "B" (.int (0 : Int32)) ∧ Fld Z h b196 own_cS "value" "[B" (.ref b224) ∧ Arv Z h b224 k225 .byte (Int32.ofNat cs.length) (own_ch cs) (.int (0 : Int32))
theorem rm198 (l : Launch) (Z : State) (a0 : Array Value) (hw : own_HW Z a0) (ws : List Jvm.Cond) (w_CS : Int32) (bb ba : Addr) (kv : ClassId) (cs : List Int32) (b196 : Addr) (h0 : Heap) (Z0 : Ext Z.heap h0) (S_w_CS : own_w_CS Z w_CS) (E_b196 : Exa Z h0 b196 own_cS) (F_b196_coder : Fld Z h0 b196 own_cS "coder" "B" (.int (0 : Int32))) (F_b196_value : Fld Z h0 b196 own_cS "value" "[B" .null) (E_bb : Exa Z h0 bb own_cB) (F_bb_coder : Fld Z h0 bb own_cA "coder" "B" (.int (0 : Int32))) (F_bb_count : Fld Z h0 bb own_cA "count" "I" (.int (Int32.ofNat cs.length))) (F_bb_value : Fld Z h0 bb own_cA "value" "[B" (.ref ba)) (V_ba : Arv Z h0 ba kv .byte (16 : Int32) (own_buf 16 cs) (.int (0 : Int32))) (g_b196 : Z.heap.size ≤ b196) (hc1 : ¬ (w_CS = (0 : Int32))) (hc43 : ba ≠ b196) (hc42 : cs.length < 16) :
    own_met l y_24 jdk_42_method_150_code 5 none ws ({ frames := 3, cells := 1, slots := 16, locals := 49 } : Room) Z #[(.ref b196), (.ref bb), .null] h0 (Qrm198 Z cs b196 h0) := by
  refine own_start (plainFor_of_name pn_5) (fun m => ef_jdk_42_method_150_RRn m b196 bb) ?_
  intro p e s m below meth c s₁ hx hby hml hown hnm X0 hZ e0 hret hlk
  have N0 := Fr.nil Z.heap.size
  obtain ⟨T199, X199, e199, st199⟩ := initO X0 hx hZ hown (own_w hw 15 rfl) (own_w hw 16 rfl) (own_w hw 17 rfl) e0 (g := (mkF m 1 #[rv b196, rv bb, .val .null, .unset, .unset] [(.ref b196)])) rfl (by rw [hml]; rfl) rfl (hb hby d27_1) (by decide) (W := 0) (by show 2 * 0 + _ ≤ _; exact Nat.le_of_eq rfl) (by decide)
  obtain ⟨_, T202, Lc202, X202, hQ202, st202⟩ := own_virtual (y := y_18) X199 hx hZ hown (own_w hw 156 rfl) (own_w hw 157 rfl) (own_w hw 159 rfl) (own_w hw 158 rfl) (own_w hw 65 rfl) (own_w hw 160 rfl) (rm200 l Z a0 hw [] bb ba h0 Z0 F_bb_value) e199 E_bb (g := (mkF m 5 #[rv b196, rv bb, .val .null, .unset, .unset] [(.ref bb)])) (argsL := []) (rest := []) (W := 0) (lenOf pd_14 rfl) (hb hby d27_5) hml
  obtain ⟨rfl, N202q, e202⟩ := hQ202
  have N202 := Fr.app N0 N202q
  obtain ⟨_, T207, Lc207, X207, hQ207, st207⟩ := own_virtualO (z := y_19) (y := y_20) X202 hx hZ hown (own_w hw 161 rfl) (own_w hw 162 rfl) (own_w hw 98 rfl) rfl (own_w hw 164 rfl) (own_w hw 165 rfl) (own_w hw 57 rfl) (own_w hw 166 rfl) (rm203 l Z a0 hw [] bb cs h0 Z0 E_bb F_bb_count) e202 E_bb (g := (mkF m 10 #[rv b196, rv bb, .val .null, rv ba, .unset] [(.ref bb)])) (argsL := []) (rest := []) (W := 0) (lenOf pd_9 rfl) (hb hby d27_10) hml
  obtain ⟨rfl, N207q, e207⟩ := hQ207
  have N207 := Fr.app N202 N207q
  obtain ⟨_, T208, Lc208, X208, hQ208, st208⟩ := own_virtual (y := y_8) X207 hx hZ hown (own_w hw 169 rfl) (own_w hw 135 rfl) (own_w hw 137 rfl) (own_w hw 136 rfl) (own_w hw 65 rfl) (own_w hw 138 rfl) (rm100 l Z a0 hw [] w_CS bb h0 Z0 S_w_CS F_bb_coder hc1) e207 E_bb (g := (mkF m 16 #[rv b196, rv bb, .val .null, rv ba, iv (Int32.ofNat cs.length)] [(.ref bb)])) (argsL := []) (rest := []) (W := 0) (lenOf pd_5 rfl) (hb hby d27_16) hml
  obtain ⟨rfl, N208q, e208⟩ := hQ208
  have N208 := Fr.app N207 N208q
  obtain ⟨T209, h209, X209, e209, W209, st209⟩ := putFN X208 hx hZ hown (own_w hw 30 rfl) Via.refl e208 F_b196_coder E_b196 (Or.inr ⟨(own_w hw 31 rfl), rfl, hnm⟩) (own_w hw 5 rfl) (ty := .byte) (v' := (.int (0 : Int32))) (by decide) rfl (by decide) (g := (mkF m 24 #[rv b196, rv bb, .val .null, rv ba, iv (Int32.ofNat cs.length)] [(.int (0 : Int32)), (.ref b196)])) rfl rfl (hb hby d27_24)
  have K209 := (Keep.refl h0 [b196]).wr W209 (Or.inl (List.mem_of_getElem? (i := 0) rfl))
  have XX209 := own_extW Z0 W209 g_b196
  have N209 := Fr.snoc X209 N208 g_b196
  obtain ⟨_, T223, Lc223, X223, hQ223, st223⟩ := own_static (y := y_23) X209 hx hZ hown (own_w hw 170 rfl) (own_w hw 171 rfl) (own_w hw 172 rfl) (own_w hw 173 rfl) (rm210 l Z a0 hw [] ba kv cs h209 XX209 (V_ba.other W209 hc43) hc42) e209 (g := (mkF m 32 #[rv b196, rv bb, .val .null, rv ba, iv (Int32.ofNat cs.length)] [(.int (Int32.ofNat cs.length)), (.int (0 : Int32)), (.ref ba), (.ref b196)])) (argsL := [(.ref ba), (.int (0 : Int32)), (.int (Int32.ofNat cs.length))]) (rest := [(.ref b196)]) (W := 1) (lenOf pd_16 rfl) (hb hby d27_32) hml
  obtain ⟨b224, k225, rfl, N223q, K223q, szn_b224, q223_V_b224⟩ := hQ223
  have sz_b224 := Nat.le_trans K209.1 szn_b224
  have K223 := K209.trans K223q all0
  have N223 := Fr.app N209 N223q
  have f226_F_b196_value := ((F_b196_value.other W209 (Or.inr (slot_ne (Or.inr (own_w hw 33 rfl)) (Or.inr (own_w hw 31 rfl)) (by decide) (t := (.array .byte)) (t' := .byte) (by decide) (by decide)))).keep K223q nin0)
  obtain ⟨T227, h227, X227, e227, W227, st227⟩ := putF X223 hx hZ hown (host := "") (Or.inl (own_w hw 32 rfl)) Via.refl rfl f226_F_b196_value ((E_b196.wr W209).keep K223q) (Or.inr ⟨(own_w hw 33 rfl), rfl, hnm⟩) (own_w hw 5 rfl) (ty := (.array .byte)) (by decide) rfl rfl (g := (mkF m 35 #[rv b196, rv bb, .val .null, rv ba, iv (Int32.ofNat cs.length)] [(.ref b224), (.ref b196)])) rfl rfl (hb hby d27_35)
  have K227 := K223.wr W227 (Or.inl (List.mem_of_getElem? (i := 0) rfl))
  have N227 := Fr.snoc X227 N223 g_b196
  have f228_F_b196_coder := (((F_b196_coder.same W209).keep K223q nin0).other W227 (Or.inr (slot_ne (Or.inr (own_w hw 31 rfl)) (Or.inr (own_w hw 33 rfl)) (by decide) (t := .byte) (t' := (.array .byte)) (by decide) (by decide))))
  have ne_b196_b224 := Nat.ne_of_lt (Nat.lt_of_lt_of_le (E_b196.wr W209).lt szn_b224)
  obtain ⟨_, hr, hrun, hended, hW, hsame⟩ := X227.leave (v := none) (fun _ => rfl) hlk
  refine ⟨_, _, ?_, hrun, hended, _, _, rfl, ?_, ⟨_, rfl⟩, hW, hsame.mono (by decide) (by decide)⟩
  · show own_S p e below s₁ (mkF m 0 #[rv b196, rv bb, .val .null, .unset, .unset] []) _
    refine own_aN X0 hx hby d27_0 ?_
    refine st199 _ ?_
    refine own_aN X199 hx hby d27_4 ?_
    refine st202 _ ?_
    refine XS.astoreN X202.here hx rfl (hb hby d27_8) rfl rfl (l' := #[rv b196, rv bb, .val .null, rv ba, .unset]) rfl ?_
    refine own_aN X202 hx hby d27_9 ?_
    refine st207 _ ?_
    refine XS.istore X207.here hx rfl (hb hby d27_13) rfl (l' := #[rv b196, rv bb, .val .null, rv ba, iv (Int32.ofNat cs.length)]) rfl ?_
    refine own_aN X207 hx hby d27_15 ?_
    refine st208 _ ?_
    refine own_in X208 hx hby d27_19 (feq (by decide : ¬ ((1 : Int32) = (0 : Int32)))).1 ?_
    refine own_aN X208 hx hby d27_22 ?_
    refine own_k X208 hx hby d27_23 ?_
    refine st209 _ ?_
    refine own_aN X209 hx hby d27_27 ?_
    refine own_aN X209 hx hby d27_28 ?_
    refine own_k X209 hx hby d27_29 ?_
    refine own_i X209 hx hby d27_30 ?_
    refine st223 _ ?_
    refine st227 _ ?_
    refine own_go (pc := 38) X227 hx hby d27_38 97 ?_
    exact X227.returnOut hx hret (hb hby d27_97) hr
  · show Qrm198 Z cs b196 h0 _ T227.heap _
    rw [e227]
    exact ⟨b224, k225, rfl, N227, K227, sz_b224, (((E_b196.wr W209).keep K223q).wr W227), f228_F_b196_coder, (f226_F_b196_value.same W227), (q223_V_b224.other W227 (Ne.symm ne_b196_b224))⟩
def Qrm197 (Z : State) (cs : List Int32) (b196 : Addr) (h0 : Heap) (v : Option Value) (h : Heap) (L : List Loc) : Prop := ∃ b230 : Addr, ∃ k231 : ClassId, v = none ∧ Fr Z.heap.size L ∧ Keep h0 h [b196] ∧ h0.size ≤ b230 ∧ Exa Z h b196 own_cS ∧ Fld Z h b196 own_cS "coder" "B" (.int (0 : Int32)) ∧ Fld Z h b196 own_cS "value" "[B" (.ref b230) ∧ Arv Z h b230 k231 .byte (Int32.ofNat cs.length) (own_ch cs) (.int (0 : Int32))
theorem rm197 (l : Launch) (Z : State) (a0 : Array Value) (hw : own_HW Z a0) (ws : List Jvm.Cond) (w_CS : Int32) (bb ba : Addr) (kv : ClassId) (cs : List Int32) (b196 : Addr) (h0 : Heap) (Z0 : Ext Z.heap h0) (S_w_CS : own_w_CS Z w_CS) (E_b196 : Exa Z h0 b196 own_cS) (F_b196_coder : Fld Z h0 b196 own_cS "coder" "B" (.int (0 : Int32))) (F_b196_value : Fld Z h0 b196 own_cS "value" "[B" .null) (E_bb : Exa Z h0 bb own_cB) (F_bb_coder : Fld Z h0 bb own_cA "coder" "B" (.int (0 : Int32))) (F_bb_count : Fld Z h0 bb own_cA "count" "I" (.int (Int32.ofNat cs.length))) (F_bb_value : Fld Z h0 bb own_cA "value" "[B" (.ref ba)) (V_ba : Arv Z h0 ba kv .byte (16 : Int32) (own_buf 16 cs) (.int (0 : Int32))) (g_b196 : Z.heap.size ≤ b196) (hc1 : ¬ (w_CS = (0 : Int32))) (hc43 : ba ≠ b196) (hc42 : cs.length < 16) :
    own_met l y_25 jdk_42_method_53_code 2 none ws ({ frames := 4, cells := 1, slots := 16, locals := 65 } : Room) Z #[(.ref b196), (.ref bb)] h0 (Qrm197 Z cs b196 h0) := by
  refine own_start (plainFor_of_name pn_5) (fun m => ef_jdk_42_method_53_RR m b196 bb) ?_
  intro p e s m below meth c s₁ hx hby hml hown hnm X0 hZ e0 hret hlk
  have N0 := Fr.nil Z.heap.size
  obtain ⟨_, T229, Lc229, X229, hQ229, st229⟩ := own_special (y := y_24) X0 hx hZ hown rfl (own_w hw 153 rfl) (own_w hw 154 rfl) (own_w hw 6 rfl) (own_w hw 155 rfl) (rm198 l Z a0 hw [] w_CS bb ba kv cs b196 h0 Z0 S_w_CS E_b196 F_b196_coder F_b196_value E_bb F_bb_coder F_bb_count F_bb_value V_ba g_b196 hc1 hc43 hc42) e0 b196 (g := (mkF m 3 #[rv b196, rv bb] [.null, (.ref bb), (.ref b196)])) (argsL := [(.ref bb), .null]) (rest := []) (W := 0) (lenOf pd_17 rfl) (hb hby d26_3) hml
  obtain ⟨b230, k231, rfl, N229q, K229q, szn_b230, q229_E_b196, q229_F_b196_coder, q229_F_b196_value, q229_V_b230⟩ := hQ229
  have sz_b230 := Nat.le_trans (Keep.refl h0 [b196]).1 szn_b230
  have K229 := (Keep.refl h0 [b196]).trans K229q (allS (Or.inl (List.mem_of_getElem? (i := 0) rfl)) all0)
  have N229 := Fr.app N0 N229q
  obtain ⟨_, hr, hrun, hended, hW, hsame⟩ := X229.leave (v := none) (fun _ => rfl) hlk
  refine ⟨_, _, ?_, hrun, hended, _, _, rfl, ?_, ⟨_, rfl⟩, hW, hsame.mono (by decide) (by decide)⟩
  · show own_S p e below s₁ (mkF m 0 #[rv b196, rv bb] []) _
    refine own_aN X0 hx hby d26_0 ?_
    refine own_aN X0 hx hby d26_1 ?_
    refine XS.aconstNull X0.here hx rfl (hb hby d26_2) ?_
    refine st229 _ ?_
    exact X229.returnOut hx hret (hb hby d26_6) hr
  · show Qrm197 Z cs b196 h0 _ T229.heap _
    exact ⟨b230, k231, rfl, N229, K229, sz_b230, q229_E_b196, q229_F_b196_coder, q229_F_b196_value, q229_V_b230⟩
def Qrm195 (Z : State) (cs : List Int32) (h0 : Heap) (v : Option Value) (h : Heap) (L : List Loc) : Prop := ∃ b196 : Addr, ∃ b233 : Addr, ∃ k234 : ClassId, v = some (.ref b196) ∧ Fr Z.heap.size L ∧ Keep h0 h [] ∧ h0.size ≤ b196 ∧ h0.size ≤ b233 ∧ Exa Z h b196 own_cS ∧ Fld Z h b196 own_cS "coder" "B" (.int (0 : Int32)) ∧ Fld Z h b196 own_cS "value" "[B" (.ref b233) ∧ Arv Z h b233 k234 .byte (Int32.ofNat cs.length) (own_ch cs) (.int (0 : Int32))
theorem rm195 (l : Launch) (Z : State) (a0 : Array Value) (hw : own_HW Z a0) (ws : List Jvm.Cond) (w_CS : Int32) (bb ba : Addr) (kv : ClassId) (cs : List Int32) (h0 : Heap) (Z0 : Ext Z.heap h0) (S_w_CS : own_w_CS Z w_CS) (E_bb : Exa Z h0 bb own_cB) (F_bb_value : Fld Z h0 bb own_cA "value" "[B" (.ref ba)) (F_bb_coder : Fld Z h0 bb own_cA "coder" "B" (.int (0 : Int32))) (F_bb_count : Fld Z h0 bb own_cA "count" "I" (.int (Int32.ofNat cs.length))) (V_ba : Arv Z h0 ba kv .byte (16 : Int32) (own_buf 16 cs) (.int (0 : Int32))) (hc1 : ¬ (w_CS = (0 : Int32))) (hc42 : cs.length < 16) :
    own_met l y_26 jdk_67_method_42_code 1 (some (.object own_cS)) ws ({ frames := 5, cells := 2, slots := 20, locals := 79 } : Room) Z #[(.ref bb)] h0 (Qrm195 Z cs h0) := by
  refine own_start (plainFor_of_name pn_4) (fun m => ef_jdk_67_method_42_R m bb) ?_
  intro p e s m below meth c s₁ hx hby hml hown hnm X0 hZ e0 hret hlk
  have N0 := Fr.nil Z.heap.size
  obtain ⟨T196, h196, X196, e196, E196, A196, D196, -, st196⟩ := newO X0 hx hZ hown (own_w hw 149 rfl) (own_w hw 5 rfl) (own_w hw 6 rfl) e0 (g := (mkF m 0 #[rv bb] [])) rfl (hb hby d25_0) (by decide) (by decide)
  obtain ⟨b196, g196⟩ : ∃ z, z = h0.size := ⟨_, rfl⟩
  rw [← g196] at A196 D196 st196
  have g_b196 := Nat.le_trans Z0.1 (Nat.le_of_eq g196.symm)
  have sz_b196 := Nat.le_trans (Keep.refl h0 []).1 (Nat.le_of_eq g196.symm)
  have F_b196_coder : Fld Z h196 b196 own_cS "coder" "B" (.int (0 : Int32)) := D196 (Or.inr (own_w hw 31 rfl)) (ty := .byte) (by decide)
  have F_b196_value : Fld Z h196 b196 own_cS "value" "[B" .null := D196 (Or.inr (own_w hw 33 rfl)) (ty := (.array .byte)) (by decide)
  have K196 := (Keep.refl h0 []).ext E196
  have XX196 := own_ext2 Z0 E196
  have ne_ba_b196 := Nat.ne_of_lt (Nat.lt_of_lt_of_le V_ba.lt (Nat.le_of_eq g196.symm))
  obtain ⟨_, T232, Lc232, X232, hQ232, st232⟩ := own_special (y := y_25) X196 hx hZ hown rfl (own_w hw 150 rfl) (own_w hw 151 rfl) (own_w hw 6 rfl) (own_w hw 152 rfl) (rm197 l Z a0 hw [] w_CS bb ba kv cs b196 h196 XX196 S_w_CS A196 F_b196_coder F_b196_value (E_bb.ext E196) (F_bb_coder.ext E196) (F_bb_count.ext E196) (F_bb_value.ext E196) (V_ba.ext E196) g_b196 hc1 ne_ba_b196 hc42) e196 b196 (g := (mkF m 5 #[rv bb] [(.ref bb), (.ref b196), (.ref b196)])) (argsL := [(.ref bb)]) (rest := [(.ref b196)]) (W := 1) (lenOf pd_18 rfl) (hb hby d25_5) hml
  obtain ⟨b233, k234, rfl, N232q, K232q, szn_b233, q232_E_b196, q232_F_b196_coder, q232_F_b196_value, q232_V_b233⟩ := hQ232
  have sz_b233 := Nat.le_trans K196.1 szn_b233
  have K232 := K196.trans K232q (allS (Or.inr sz_b196) all0)
  have N232 := Fr.app N0 N232q
  obtain ⟨_, hr, hrun, hended, hW, hsame⟩ := X232.leave (v := some (.ref b196)) (fun h => by rw [hret] at h; cases h) hlk
  refine ⟨_, _, ?_, hrun, hended, _, _, rfl, ?_, ⟨_, rfl⟩, hW, hsame.mono (by decide) (by decide)⟩
  · show own_S p e below s₁ (mkF m 0 #[rv bb] []) _
    refine st196 _ ?_
    refine XS.dup X196.here hx rfl (hb hby d25_3) rfl rfl ?_
    refine own_aN X196 hx hby d25_4 ?_
    refine st232 _ ?_
    jvm_step X232.here [X232.here.top, hx, (hb hby d25_8), X232.method', hret, Value.isRef, FieldType.isReference]
    first | (intro acts; rw [hr _ acts rfl rfl rfl]) | rw [hr _ _ rfl rfl rfl]
    exact Steps.refl _
  · show Qrm195 Z cs h0 _ T232.heap _
    exact ⟨b196, b233, k234, rfl, N232, K232, sz_b196, sz_b233, q232_E_b196, q232_F_b196_coder, q232_F_b196_value, q232_V_b233⟩
theorem rm240 (l : Launch) (Z : State) (a0 : Array Value) (hw : own_HW Z a0) (ws : List Jvm.Cond) (bb ba : Addr) (h0 : Heap) (Z0 : Ext Z.heap h0) (F_bb_value : Fld Z h0 bb own_cA "value" "[B" (.ref ba)) :
    own_met l y_18 jdk_68_method_64_code 1 (some (.array .byte)) ws ({ frames := 0, cells := 0, slots := 0, locals := 0 } : Room) Z #[(.ref bb)] h0 (own_qp Z (some (.ref ba)) h0) := by
  refine own_start (plainFor_of_name pn_1) (fun m => ef_jdk_68_method_64_R m bb) ?_
  intro p e s m below meth c s₁ hx hby hml hown hnm X0 hZ e0 hret hlk
  have N0 := Fr.nil Z.heap.size
  obtain ⟨T241, X241, e241, st241⟩ := getF X0 hx hZ hown (host := "") (Or.inl (own_w hw 69 rfl)) Via.refl e0 F_bb_value (g := (mkF m 1 #[rv bb] [(.ref bb)])) rfl rfl (hb hby d28_1)
  obtain ⟨_, hr, hrun, hended, hW, hsame⟩ := X241.leave (v := some (.ref ba)) (fun h => by rw [hret] at h; cases h) hlk
  refine ⟨_, _, ?_, hrun, hended, _, _, rfl, ?_, ⟨_, rfl⟩, hW, hsame.mono (by decide) (by decide)⟩
  · show own_S p e below s₁ (mkF m 0 #[rv bb] []) _
    refine own_aN X0 hx hby d28_0 ?_
    refine st241 _ ?_
    jvm_step X241.here [X241.here.top, hx, (hb hby d28_4), X241.method', hret, Value.isRef, FieldType.isReference]
    first | (intro acts; rw [hr _ acts rfl rfl rfl]) | rw [hr _ _ rfl rfl rfl]
    exact Steps.refl _
  · show own_qp Z (some (.ref ba)) h0 _ T241.heap _
    rw [e241]
    exact ⟨rfl, N0, rfl⟩
theorem rm244 (l : Launch) (Z : State) (a0 : Array Value) (hw : own_HW Z a0) (ws : List Jvm.Cond) (bb : Addr) (cs : List Int32) (h0 : Heap) (Z0 : Ext Z.heap h0) (F_bb_count : Fld Z h0 bb own_cA "count" "I" (.int (Int32.ofNat cs.length))) :
    own_met l y_19 jdk_68_method_6_code 1 (some .int) ws ({ frames := 0, cells := 0, slots := 0, locals := 0 } : Room) Z #[(.ref bb)] h0 (own_qp Z (some (.int (Int32.ofNat cs.length))) h0) := by
  refine own_start (plainFor_of_name pn_1) (fun m => ef_jdk_68_method_6_R m bb) ?_
  intro p e s m below meth c s₁ hx hby hml hown hnm X0 hZ e0 hret hlk
  have N0 := Fr.nil Z.heap.size
  obtain ⟨T245, X245, e245, st245⟩ := getF X0 hx hZ hown (host := "") (Or.inl (own_w hw 93 rfl)) Via.refl e0 F_bb_count (g := (mkF m 1 #[rv bb] [(.ref bb)])) rfl rfl (hb hby d30_1)
  obtain ⟨_, hr, hrun, hended, hW, hsame⟩ := X245.leave (v := some (.int (Int32.ofNat cs.length))) (fun h => by rw [hret] at h; cases h) hlk
  refine ⟨_, _, ?_, hrun, hended, _, _, rfl, ?_, ⟨_, rfl⟩, hW, hsame.mono (by decide) (by decide)⟩
  · show own_S p e below s₁ (mkF m 0 #[rv bb] []) _
    refine own_aN X0 hx hby d30_0 ?_
    refine st245 _ ?_
    exact retI X245 hx hret (hb hby d30_4) hr
  · show own_qp Z (some (.int (Int32.ofNat cs.length))) h0 _ T245.heap _
    rw [e245]
    exact ⟨rfl, N0, rfl⟩
theorem rm243 (l : Launch) (Z : State) (a0 : Array Value) (hw : own_HW Z a0) (ws : List Jvm.Cond) (bb : Addr) (cs : List Int32) (h0 : Heap) (Z0 : Ext Z.heap h0) (E_bb : Exa Z h0 bb own_cB) (F_bb_count : Fld Z h0 bb own_cA "count" "I" (.int (Int32.ofNat cs.length))) :
    own_met l y_20 jdk_67_method_93_code 1 (some .int) ws ({ frames := 1, cells := 0, slots := 0, locals := 12 } : Room) Z #[(.ref bb)] h0 (own_qp Z (some (.int (Int32.ofNat cs.length))) h0) := by
  refine own_start (plainFor_of_name pn_4) (fun m => ef_jdk_67_method_93_R m bb) ?_
  intro p e s m below meth c s₁ hx hby hml hown hnm X0 hZ e0 hret hlk
  have N0 := Fr.nil Z.heap.size
  obtain ⟨_, T246, Lc246, X246, hQ246, st246⟩ := own_super (y := y_19) X0 hx hZ hown (own_w hw 167 rfl) (own_same (own_w hw 163 rfl) (own_w hw 98 rfl) rfl (by decide)) (own_w hw 163 rfl) (own_w hw 80 rfl) (own_w hw 65 rfl) (own_w hw 168 rfl) (rm244 l Z a0 hw [] bb cs h0 Z0 F_bb_count) e0 (Ins.self E_bb) (g := (mkF m 1 #[rv bb] [(.ref bb)])) (argsL := []) (rest := []) (W := 0) (lenOf pd_9 rfl) (hb hby d29_1) hml
  obtain ⟨rfl, N246q, e246⟩ := hQ246
  have N246 := Fr.app N0 N246q
  obtain ⟨_, hr, hrun, hended, hW, hsame⟩ := X246.leave (v := some (.int (Int32.ofNat cs.length))) (fun h => by rw [hret] at h; cases h) hlk
  refine ⟨_, _, ?_, hrun, hended, _, _, rfl, ?_, ⟨_, rfl⟩, hW, hsame.mono (by decide) (by decide)⟩
  · show own_S p e below s₁ (mkF m 0 #[rv bb] []) _
    refine own_aN X0 hx hby d29_0 ?_
    refine st246 _ ?_
    exact retI X246 hx hret (hb hby d29_4) hr
  · show own_qp Z (some (.int (Int32.ofNat cs.length))) h0 _ T246.heap _
    rw [e246]
    exact ⟨rfl, N246, rfl⟩
theorem rm253 (l : Launch) (Z : State) (a0 : Array Value) (hw : own_HW Z a0) (ws : List Jvm.Cond) (cs : List Int32) (h0 : Heap) (Z0 : Ext Z.heap h0) (hc44 : cs.length < 34) :
    own_met l y_21 jdk_65_method_131_code 2 none ws ({ frames := 0, cells := 0, slots := 0, locals := 0 } : Room) Z #[(.int (0 : Int32)), (.int (Int32.ofNat cs.length))] h0 (own_qp Z none h0) := by
  refine own_start (plainFor_of_name pn_3) (fun m => ef_jdk_65_method_131_II m (0 : Int32) (Int32.ofNat cs.length)) ?_
  intro p e s m below meth c s₁ hx hby hml hown hnm X0 hZ e0 hret hlk
  have N0 := Fr.nil Z.heap.size
  obtain ⟨_, hr, hrun, hended, hW, hsame⟩ := X0.leave (v := none) (fun _ => rfl) hlk
  refine ⟨_, _, ?_, hrun, hended, _, _, rfl, ?_, ⟨_, rfl⟩, hW, hsame.mono (by decide) (by decide)⟩
  · show own_S p e below s₁ (mkF m 0 #[iv (0 : Int32), iv (Int32.ofNat cs.length)] []) _
    refine own_iN X0 hx hby d33_0 ?_
    refine own_iN X0 hx hby d33_1 ?_
    refine own_cy (pc := 2) X0 hx hby d33_2 (flt (own_cl_nn hc44 (by decide))).2.1 37 ?_
    exact X0.returnOut hx hret (hb hby d33_37) hr
  · show own_qp Z none h0 _ s₁.heap _
    rw [e0]
    exact ⟨rfl, N0, rfl⟩
theorem rm257 (l : Launch) (Z : State) (a0 : Array Value) (hw : own_HW Z a0) (ws : List Jvm.Cond) (cs : List Int32) (h0 : Heap) (Z0 : Ext Z.heap h0) (hc44 : cs.length < 34) :
    own_met l y_6 jdk_29_method_69_code 2 (some .int) ws ({ frames := 0, cells := 0, slots := 0, locals := 0 } : Room) Z #[(.int (34 : Int32)), (.int (Int32.ofNat cs.length))] h0 (own_qp Z (some (.int (Int32.ofNat cs.length))) h0) := by
  refine own_start pf_1 (fun m => ef_jdk_29_method_69_II m (34 : Int32) (Int32.ofNat cs.length)) ?_
  intro p e s m below meth c s₁ hx hby hml hown hnm X0 hZ e0 hret hlk
  have N0 := Fr.nil Z.heap.size
  obtain ⟨_, hr, hrun, hended, hW, hsame⟩ := X0.leave (v := some (.int (Int32.ofNat cs.length))) (fun h => by rw [hret] at h; cases h) hlk
  refine ⟨_, _, ?_, hrun, hended, _, _, rfl, ?_, ⟨_, rfl⟩, hW, hsame.mono (by decide) (by decide)⟩
  · show own_S p e below s₁ (mkF m 0 #[iv (34 : Int32), iv (Int32.ofNat cs.length)] []) _
    refine own_iN X0 hx hby d34_0 ?_
    refine own_iN X0 hx hby d34_1 ?_
    refine own_cy (pc := 2) X0 hx hby d34_2 (tlt (own_cl_lt hc44 (by decide) rfl)).2.2.1 9 ?_
    refine own_iN X0 hx hby d34_9 ?_
    exact retI X0 hx hret (hb hby d34_10) hr
  · show own_qp Z (some (.int (Int32.ofNat cs.length))) h0 _ s₁.heap _
    rw [e0]
    exact ⟨rfl, N0, rfl⟩
def Qrm252 (Z : State) (cs : List Int32) (h0 : Heap) (v : Option Value) (h : Heap) (L : List Loc) : Prop := ∃ b255 : Addr, ∃ k255 : ClassId, v = some (.ref b255) ∧ Fr Z.heap.size L ∧ Keep h0 h [] ∧ h0.size ≤ b255 ∧ Arv Z h b255 k255 .byte (Int32.ofNat cs.length) (own_ch cs) (.int (0 : Int32))
theorem rm252 (l : Launch) (Z : State) (a0 : Array Value) (hw : own_HW Z a0) (ws : List Jvm.Cond) (ba : Addr) (kv : ClassId) (cs : List Int32) (h0 : Heap) (Z0 : Ext Z.heap h0) (V_ba : Arv Z h0 ba kv .byte (34 : Int32) (own_buf 34 cs) (.int (0 : Int32))) (hc44 : cs.length < 34) :
    own_met l y_22 jdk_65_method_133_code 5 (some (.array .byte)) ws ({ frames := 1, cells := 1, slots := 34, locals := 18 } : Room) Z #[(.ref ba), (.int (0 : Int32)), (.int (Int32.ofNat cs.length))] h0 (Qrm252 Z cs h0) := by
  refine own_start (plainFor_of_name pn_3) (fun m => ef_jdk_65_method_133_RII m ba (0 : Int32) (Int32.ofNat cs.length)) ?_
  intro p e s m below meth c s₁ hx hby hml hown hnm X0 hZ e0 hret hlk
  have N0 := Fr.nil Z.heap.size
  obtain ⟨_, T254, Lc254, X254, hQ254, st254⟩ := own_static (y := y_21) X0 hx hZ hown (own_w hw 177 rfl) (own_w hw 178 rfl) (own_w hw 172 rfl) (own_w hw 179 rfl) (rm253 l Z a0 hw [] cs h0 Z0 hc44) e0 (g := (mkF m 2 #[rv ba, iv (0 : Int32), iv (Int32.ofNat cs.length), .unset, .unset] [(.int (Int32.ofNat cs.length)), (.int (0 : Int32))])) (argsL := [(.int (0 : Int32)), (.int (Int32.ofNat cs.length))]) (rest := []) (W := 0) (lenOf pd_15 rfl) (hb hby d32_2) hml
  obtain ⟨rfl, N254q, e254⟩ := hQ254
  have N254 := Fr.app N0 N254q
  obtain ⟨T255, h255, k255, X255, e255, E255, A255, st255⟩ := newP X254 hx hZ (own_w hw 23 rfl) e254 (g := (mkF m 10 #[rv ba, iv (0 : Int32), iv (Int32.ofNat cs.length), iv (Int32.ofNat cs.length), .unset] [(.int (Int32.ofNat cs.length))])) rfl (hb hby d32_10) rfl (own_cl_nn hc44 (by decide)) (cap := 34) (own_cl_cap hc44 (by decide)) (by decide) (by decide) (by decide)
  obtain ⟨b255, g255⟩ : ∃ z, z = h0.size := ⟨_, rfl⟩
  rw [← g255] at A255 st255
  have g_b255 := Nat.le_trans Z0.1 (Nat.le_of_eq g255.symm)
  have sz_b255 := Nat.le_trans (Keep.refl h0 []).1 (Nat.le_of_eq g255.symm)
  have V_b255 : Arv Z h255 b255 k255 .byte (Int32.ofNat cs.length) (List.replicate cs.length (.int (0 : Int32))) (.int (0 : Int32)) := (Arv.new A255 (own_cl_nn hc44 (by decide))).pad (pad_rep [] (.int (0 : Int32)) cs.length)
  have K255 := (Keep.refl h0 []).ext E255
  have XX255 := own_ext2 Z0 E255
  obtain ⟨cl256, Ar256, q256, S256, Nn256, H256, G256⟩ := id (V_ba.ext E255)
  obtain ⟨_, T258, Lc258, X258, hQ258, st258⟩ := own_static (y := y_6) X255 hx hZ hown (own_w hw 180 rfl) (own_w hw 181 rfl) (own_w hw 182 rfl) (own_w hw 183 rfl) (rm257 l Z a0 hw [] cs h255 XX255 hc44) e255 (g := (mkF m 24 #[rv ba, iv (0 : Int32), iv (Int32.ofNat cs.length), iv (Int32.ofNat cs.length), rv b255] [(.int (Int32.ofNat cs.length)), (.int (34 : Int32)), (.int (0 : Int32)), (.ref b255), (.int (0 : Int32)), (.ref ba)])) (argsL := [(.int (34 : Int32)), (.int (Int32.ofNat cs.length))]) (rest := [(.int (0 : Int32)), (.ref b255), (.int (0 : Int32)), (.ref ba)]) (W := 4) (lenOf pd_0 rfl) (hb hby d32_24) hml
  obtain ⟨rfl, N258q, e258⟩ := hQ258
  have N258 := Fr.app N254 N258q
  obtain ⟨T259, h259, L259, X259, e259, N259, K259q, V259, st259⟩ := own_cp X258 hx hZ hown (own_w hw 184 rfl) (own_w hw 119 rfl) (own_w hw 117 rfl) (own_w hw 118 rfl) e258 (V_ba.ext E255) V_b255 (own_cp_out (Nat.le_of_lt hc44) (by decide) (by decide)) N258 g_b255 (g := (mkF m 27 #[rv ba, iv (0 : Int32), iv (Int32.ofNat cs.length), iv (Int32.ofNat cs.length), rv b255] [(.int (Int32.ofNat cs.length)), (.int (0 : Int32)), (.ref b255), (.int (0 : Int32)), (.ref ba)])) (W := 0) (hb hby d32_27) hml
  have K259 := K255.trans K259q (allS (Or.inr sz_b255) all0)
  obtain ⟨_, hr, hrun, hended, hW, hsame⟩ := X259.leave (v := some (.ref b255)) (fun h => by rw [hret] at h; cases h) hlk
  refine ⟨_, _, ?_, hrun, hended, _, _, rfl, ?_, ⟨_, rfl⟩, hW, hsame.mono (by decide) (by decide)⟩
  · show own_S p e below s₁ (mkF m 0 #[rv ba, iv (0 : Int32), iv (Int32.ofNat cs.length), .unset, .unset] []) _
    refine own_iN X0 hx hby d32_0 ?_
    refine own_iN X0 hx hby d32_1 ?_
    refine st254 _ ?_
    refine own_iN X254 hx hby d32_5 ?_
    refine own_iN X254 hx hby d32_6 ?_
    refine XS.isub X254.here hx rfl (hb hby d32_7) rfl ?_
    show own_S p e below T254 (mkF m 8 #[rv ba, iv (0 : Int32), iv (Int32.ofNat cs.length), .unset, .unset] [(.int ((Int32.ofNat cs.length) - (0 : Int32)))]) _
    rw [(own_sub0 _)]
    refine XS.istoreN X254.here hx rfl (hb hby d32_8) rfl (l' := #[rv ba, iv (0 : Int32), iv (Int32.ofNat cs.length), iv (Int32.ofNat cs.length), .unset]) rfl ?_
    refine own_iN X254 hx hby d32_9 ?_
    refine st255 _ ?_
    refine XS.astore X255.here hx rfl (hb hby d32_12) rfl rfl (l' := #[rv ba, iv (0 : Int32), iv (Int32.ofNat cs.length), iv (Int32.ofNat cs.length), rv b255]) rfl ?_
    refine own_aN X255 hx hby d32_14 ?_
    refine own_iN X255 hx hby d32_15 ?_
    refine own_a X255 hx hby d32_16 ?_
    refine own_k X255 hx hby d32_18 ?_
    refine own_aN X255 hx hby d32_19 ?_
    refine X255.arraylength hx (by rw [e255]; exact Ar256.1) (State.isArrayOf_alike hZ.alike Ar256.2.1) (g := (mkF m 20 #[rv ba, iv (0 : Int32), iv (Int32.ofNat cs.length), iv (Int32.ofNat cs.length), rv b255] [(.ref ba), (.int (0 : Int32)), (.ref b255), (.int (0 : Int32)), (.ref ba)])) rfl rfl (hb hby d32_20) _ ?_
    rw [len_of S256 Nn256]
    refine own_iN X255 hx hby d32_21 ?_
    refine XS.isub X255.here hx rfl (hb hby d32_22) rfl ?_
    show own_S p e below T255 (mkF m 23 #[rv ba, iv (0 : Int32), iv (Int32.ofNat cs.length), iv (Int32.ofNat cs.length), rv b255] [(.int ((34 : Int32) - (0 : Int32))), (.int (0 : Int32)), (.ref b255), (.int (0 : Int32)), (.ref ba)]) _
    rw [(by decide : ((34 : Int32) - (0 : Int32)) = (34 : Int32))]
    refine own_iN X255 hx hby d32_23 ?_
    refine st258 _ ?_
    refine st259 _ ?_
    refine own_a X259 hx hby d32_30 ?_
    jvm_step X259.here [X259.here.top, hx, (hb hby d32_32), X259.method', hret, Value.isRef, FieldType.isReference]
    first | (intro acts; rw [hr _ acts rfl rfl rfl]) | rw [hr _ _ rfl rfl rfl]
    exact Steps.refl _
  · show Qrm252 Z cs h0 _ T259.heap _
    rw [e259]
    exact ⟨b255, k255, rfl, N259, K259, sz_b255, V259⟩
def Qrm250 (Z : State) (cs : List Int32) (h0 : Heap) (v : Option Value) (h : Heap) (L : List Loc) : Prop := ∃ b261 : Addr, ∃ k262 : ClassId, v = some (.ref b261) ∧ Fr Z.heap.size L ∧ Keep h0 h [] ∧ h0.size ≤ b261 ∧ Arv Z h b261 k262 .byte (Int32.ofNat cs.length) (own_ch cs) (.int (0 : Int32))
theorem rm250 (l : Launch) (Z : State) (a0 : Array Value) (hw : own_HW Z a0) (ws : List Jvm.Cond) (ba : Addr) (kv : ClassId) (cs : List Int32) (h0 : Heap) (Z0 : Ext Z.heap h0) (V_ba : Arv Z h0 ba kv .byte (34 : Int32) (own_buf 34 cs) (.int (0 : Int32))) (hc44 : cs.length < 34) :
    own_met l y_23 jdk_65_method_132_code 3 (some (.array .byte)) ws ({ frames := 2, cells := 1, slots := 34, locals := 34 } : Room) Z #[(.ref ba), (.int (0 : Int32)), (.int (Int32.ofNat cs.length))] h0 (Qrm250 Z cs h0) := by
  refine own_start (plainFor_of_name pn_3) (fun m => ef_jdk_65_method_132_RII m ba (0 : Int32) (Int32.ofNat cs.length)) ?_
  intro p e s m below meth c s₁ hx hby hml hown hnm X0 hZ e0 hret hlk
  have N0 := Fr.nil Z.heap.size
  obtain ⟨cl251, Ar251, q251, S251, Nn251, H251, G251⟩ := id V_ba
  obtain ⟨_, T260, Lc260, X260, hQ260, st260⟩ := own_static (y := y_22) X0 hx hZ hown (own_w hw 174 rfl) (own_w hw 175 rfl) (own_w hw 172 rfl) (own_w hw 176 rfl) (rm252 l Z a0 hw [] ba kv cs h0 Z0 V_ba hc44) e0 (g := (mkF m 13 #[rv ba, iv (0 : Int32), iv (Int32.ofNat cs.length)] [(.int (Int32.ofNat cs.length)), (.int (0 : Int32)), (.ref ba)])) (argsL := [(.ref ba), (.int (0 : Int32)), (.int (Int32.ofNat cs.length))]) (rest := []) (W := 0) (lenOf pd_16 rfl) (hb hby d31_13) hml
  obtain ⟨b261, k262, rfl, N260q, K260q, szn_b261, q260_V_b261⟩ := hQ260
  have sz_b261 := Nat.le_trans (Keep.refl h0 []).1 szn_b261
  have K260 := (Keep.refl h0 []).trans K260q all0
  have N260 := Fr.app N0 N260q
  obtain ⟨_, hr, hrun, hended, hW, hsame⟩ := X260.leave (v := some (.ref b261)) (fun h => by rw [hret] at h; cases h) hlk
  refine ⟨_, _, ?_, hrun, hended, _, _, rfl, ?_, ⟨_, rfl⟩, hW, hsame.mono (by decide) (by decide)⟩
  · show own_S p e below s₁ (mkF m 0 #[rv ba, iv (0 : Int32), iv (Int32.ofNat cs.length)] []) _
    refine own_iN X0 hx hby d31_0 ?_
    refine own_in X0 hx hby d31_1 (teq (rfl : (0 : Int32) = (0 : Int32))).2 ?_
    refine own_iN X0 hx hby d31_4 ?_
    refine own_aN X0 hx hby d31_5 ?_
    refine X0.arraylength hx (by rw [e0]; exact Ar251.1) (State.isArrayOf_alike hZ.alike Ar251.2.1) (g := (mkF m 6 #[rv ba, iv (0 : Int32), iv (Int32.ofNat cs.length)] [(.ref ba), (.int (Int32.ofNat cs.length))])) rfl rfl (hb hby d31_6) _ ?_
    rw [len_of S251 Nn251]
    refine own_cn X0 hx hby d31_7 (feq (own_cl_ne hc44 (by decide) rfl)).1 ?_
    refine own_aN X0 hx hby d31_10 ?_
    refine own_iN X0 hx hby d31_11 ?_
    refine own_iN X0 hx hby d31_12 ?_
    refine st260 _ ?_
    jvm_step X260.here [X260.here.top, hx, (hb hby d31_16), X260.method', hret, Value.isRef, FieldType.isReference]
    first | (intro acts; rw [hr _ acts rfl rfl rfl]) | rw [hr _ _ rfl rfl rfl]
    exact Steps.refl _
  · show Qrm250 Z cs h0 _ T260.heap _
    exact ⟨b261, k262, rfl, N260, K260, sz_b261, q260_V_b261⟩
def Qrm238 (Z : State) (cs : List Int32) (b236 : Addr) (h0 : Heap) (v : Option Value) (h : Heap) (L : List Loc) : Prop := ∃ b264 : Addr, ∃ k265 : ClassId, v = none ∧ Fr Z.heap.size L ∧ Keep h0 h [b236] ∧ h0.size ≤ b264 ∧ Exa Z h b236 own_cS ∧ Fld Z h b236 own_cS "coder" "B" (.int (0 : Int32)) ∧ Fld Z h b236 own_cS "value" "[B" (.ref b264) ∧ Arv Z h b264 k265 .byte (Int32.ofNat cs.length) (own_ch cs) (.int (0 : Int32))
theorem rm238 (l : Launch) (Z : State) (a0 : Array Value) (hw : own_HW Z a0) (ws : List Jvm.Cond) (w_CS : Int32) (bb ba : Addr) (kv : ClassId) (cs : List Int32) (b236 : Addr) (h0 : Heap) (Z0 : Ext Z.heap h0) (S_w_CS : own_w_CS Z w_CS) (E_b236 : Exa Z h0 b236 own_cS) (F_b236_coder : Fld Z h0 b236 own_cS "coder" "B" (.int (0 : Int32))) (F_b236_value : Fld Z h0 b236 own_cS "value" "[B" .null) (E_bb : Exa Z h0 bb own_cB) (F_bb_coder : Fld Z h0 bb own_cA "coder" "B" (.int (0 : Int32))) (F_bb_count : Fld Z h0 bb own_cA "count" "I" (.int (Int32.ofNat cs.length))) (F_bb_value : Fld Z h0 bb own_cA "value" "[B" (.ref ba)) (V_ba : Arv Z h0 ba kv .byte (34 : Int32) (own_buf 34 cs) (.int (0 : Int32))) (g_b236 : Z.heap.size ≤ b236) (hc1 : ¬ (w_CS = (0 : Int32))) (hc45 : ba ≠ b236) (hc44 : cs.length < 34) :
    own_met l y_24 jdk_42_method_150_code 5 none ws ({ frames := 3, cells := 1, slots := 34, locals := 49 } : Room) Z #[(.ref b236), (.ref bb), .null] h0 (Qrm238 Z cs b236 h0) := by
  refine own_start (plainFor_of_name pn_5) (fun m => ef_jdk_42_method_150_RRn m b236 bb) ?_
  intro p e s m below meth c s₁ hx hby hml hown hnm X0 hZ e0 hret hlk
  have N0 := Fr.nil Z.heap.size
  obtain ⟨T239, X239, e239, st239⟩ := initO X0 hx hZ hown (own_w hw 15 rfl) (own_w hw 16 rfl) (own_w hw 17 rfl) e0 (g := (mkF m 1 #[rv b236, rv bb, .val .null, .unset, .unset] [(.ref b236)])) rfl (by rw [hml]; rfl) rfl (hb hby d27_1) (by decide) (W := 0) (by show 2 * 0 + _ ≤ _; exact Nat.le_of_eq rfl) (by decide)
  obtain ⟨_, T242, Lc242, X242, hQ242, st242⟩ := own_virtual (y := y_18) X239 hx hZ hown (own_w hw 156 rfl) (own_w hw 157 rfl) (own_w hw 159 rfl) (own_w hw 158 rfl) (own_w hw 65 rfl) (own_w hw 160 rfl) (rm240 l Z a0 hw [] bb ba h0 Z0 F_bb_value) e239 E_bb (g := (mkF m 5 #[rv b236, rv bb, .val .null, .unset, .unset] [(.ref bb)])) (argsL := []) (rest := []) (W := 0) (lenOf pd_14 rfl) (hb hby d27_5) hml
  obtain ⟨rfl, N242q, e242⟩ := hQ242
  have N242 := Fr.app N0 N242q
  obtain ⟨_, T247, Lc247, X247, hQ247, st247⟩ := own_virtualO (z := y_19) (y := y_20) X242 hx hZ hown (own_w hw 161 rfl) (own_w hw 162 rfl) (own_w hw 98 rfl) rfl (own_w hw 164 rfl) (own_w hw 165 rfl) (own_w hw 57 rfl) (own_w hw 166 rfl) (rm243 l Z a0 hw [] bb cs h0 Z0 E_bb F_bb_count) e242 E_bb (g := (mkF m 10 #[rv b236, rv bb, .val .null, rv ba, .unset] [(.ref bb)])) (argsL := []) (rest := []) (W := 0) (lenOf pd_9 rfl) (hb hby d27_10) hml
  obtain ⟨rfl, N247q, e247⟩ := hQ247
  have N247 := Fr.app N242 N247q
  obtain ⟨_, T248, Lc248, X248, hQ248, st248⟩ := own_virtual (y := y_8) X247 hx hZ hown (own_w hw 169 rfl) (own_w hw 135 rfl) (own_w hw 137 rfl) (own_w hw 136 rfl) (own_w hw 65 rfl) (own_w hw 138 rfl) (rm100 l Z a0 hw [] w_CS bb h0 Z0 S_w_CS F_bb_coder hc1) e247 E_bb (g := (mkF m 16 #[rv b236, rv bb, .val .null, rv ba, iv (Int32.ofNat cs.length)] [(.ref bb)])) (argsL := []) (rest := []) (W := 0) (lenOf pd_5 rfl) (hb hby d27_16) hml
  obtain ⟨rfl, N248q, e248⟩ := hQ248
  have N248 := Fr.app N247 N248q
  obtain ⟨T249, h249, X249, e249, W249, st249⟩ := putFN X248 hx hZ hown (own_w hw 30 rfl) Via.refl e248 F_b236_coder E_b236 (Or.inr ⟨(own_w hw 31 rfl), rfl, hnm⟩) (own_w hw 5 rfl) (ty := .byte) (v' := (.int (0 : Int32))) (by decide) rfl (by decide) (g := (mkF m 24 #[rv b236, rv bb, .val .null, rv ba, iv (Int32.ofNat cs.length)] [(.int (0 : Int32)), (.ref b236)])) rfl rfl (hb hby d27_24)
  have K249 := (Keep.refl h0 [b236]).wr W249 (Or.inl (List.mem_of_getElem? (i := 0) rfl))
  have XX249 := own_extW Z0 W249 g_b236
  have N249 := Fr.snoc X249 N248 g_b236
  obtain ⟨_, T263, Lc263, X263, hQ263, st263⟩ := own_static (y := y_23) X249 hx hZ hown (own_w hw 170 rfl) (own_w hw 171 rfl) (own_w hw 172 rfl) (own_w hw 173 rfl) (rm250 l Z a0 hw [] ba kv cs h249 XX249 (V_ba.other W249 hc45) hc44) e249 (g := (mkF m 32 #[rv b236, rv bb, .val .null, rv ba, iv (Int32.ofNat cs.length)] [(.int (Int32.ofNat cs.length)), (.int (0 : Int32)), (.ref ba), (.ref b236)])) (argsL := [(.ref ba), (.int (0 : Int32)), (.int (Int32.ofNat cs.length))]) (rest := [(.ref b236)]) (W := 1) (lenOf pd_16 rfl) (hb hby d27_32) hml
  obtain ⟨b264, k265, rfl, N263q, K263q, szn_b264, q263_V_b264⟩ := hQ263
  have sz_b264 := Nat.le_trans K249.1 szn_b264
  have K263 := K249.trans K263q all0
  have N263 := Fr.app N249 N263q
  have f266_F_b236_value := ((F_b236_value.other W249 (Or.inr (slot_ne (Or.inr (own_w hw 33 rfl)) (Or.inr (own_w hw 31 rfl)) (by decide) (t := (.array .byte)) (t' := .byte) (by decide) (by decide)))).keep K263q nin0)
  obtain ⟨T267, h267, X267, e267, W267, st267⟩ := putF X263 hx hZ hown (host := "") (Or.inl (own_w hw 32 rfl)) Via.refl rfl f266_F_b236_value ((E_b236.wr W249).keep K263q) (Or.inr ⟨(own_w hw 33 rfl), rfl, hnm⟩) (own_w hw 5 rfl) (ty := (.array .byte)) (by decide) rfl rfl (g := (mkF m 35 #[rv b236, rv bb, .val .null, rv ba, iv (Int32.ofNat cs.length)] [(.ref b264), (.ref b236)])) rfl rfl (hb hby d27_35)
  have K267 := K263.wr W267 (Or.inl (List.mem_of_getElem? (i := 0) rfl))
  have N267 := Fr.snoc X267 N263 g_b236
  have f268_F_b236_coder := (((F_b236_coder.same W249).keep K263q nin0).other W267 (Or.inr (slot_ne (Or.inr (own_w hw 31 rfl)) (Or.inr (own_w hw 33 rfl)) (by decide) (t := .byte) (t' := (.array .byte)) (by decide) (by decide))))
  have ne_b236_b264 := Nat.ne_of_lt (Nat.lt_of_lt_of_le (E_b236.wr W249).lt szn_b264)
  obtain ⟨_, hr, hrun, hended, hW, hsame⟩ := X267.leave (v := none) (fun _ => rfl) hlk
  refine ⟨_, _, ?_, hrun, hended, _, _, rfl, ?_, ⟨_, rfl⟩, hW, hsame.mono (by decide) (by decide)⟩
  · show own_S p e below s₁ (mkF m 0 #[rv b236, rv bb, .val .null, .unset, .unset] []) _
    refine own_aN X0 hx hby d27_0 ?_
    refine st239 _ ?_
    refine own_aN X239 hx hby d27_4 ?_
    refine st242 _ ?_
    refine XS.astoreN X242.here hx rfl (hb hby d27_8) rfl rfl (l' := #[rv b236, rv bb, .val .null, rv ba, .unset]) rfl ?_
    refine own_aN X242 hx hby d27_9 ?_
    refine st247 _ ?_
    refine XS.istore X247.here hx rfl (hb hby d27_13) rfl (l' := #[rv b236, rv bb, .val .null, rv ba, iv (Int32.ofNat cs.length)]) rfl ?_
    refine own_aN X247 hx hby d27_15 ?_
    refine st248 _ ?_
    refine own_in X248 hx hby d27_19 (feq (by decide : ¬ ((1 : Int32) = (0 : Int32)))).1 ?_
    refine own_aN X248 hx hby d27_22 ?_
    refine own_k X248 hx hby d27_23 ?_
    refine st249 _ ?_
    refine own_aN X249 hx hby d27_27 ?_
    refine own_aN X249 hx hby d27_28 ?_
    refine own_k X249 hx hby d27_29 ?_
    refine own_i X249 hx hby d27_30 ?_
    refine st263 _ ?_
    refine st267 _ ?_
    refine own_go (pc := 38) X267 hx hby d27_38 97 ?_
    exact X267.returnOut hx hret (hb hby d27_97) hr
  · show Qrm238 Z cs b236 h0 _ T267.heap _
    rw [e267]
    exact ⟨b264, k265, rfl, N267, K267, sz_b264, (((E_b236.wr W249).keep K263q).wr W267), f268_F_b236_coder, (f266_F_b236_value.same W267), (q263_V_b264.other W267 (Ne.symm ne_b236_b264))⟩
def Qrm237 (Z : State) (cs : List Int32) (b236 : Addr) (h0 : Heap) (v : Option Value) (h : Heap) (L : List Loc) : Prop := ∃ b270 : Addr, ∃ k271 : ClassId, v = none ∧ Fr Z.heap.size L ∧ Keep h0 h [b236] ∧ h0.size ≤ b270 ∧ Exa Z h b236 own_cS ∧ Fld Z h b236 own_cS "coder" "B" (.int (0 : Int32)) ∧ Fld Z h b236 own_cS "value" "[B" (.ref b270) ∧ Arv Z h b270 k271 .byte (Int32.ofNat cs.length) (own_ch cs) (.int (0 : Int32))
theorem rm237 (l : Launch) (Z : State) (a0 : Array Value) (hw : own_HW Z a0) (ws : List Jvm.Cond) (w_CS : Int32) (bb ba : Addr) (kv : ClassId) (cs : List Int32) (b236 : Addr) (h0 : Heap) (Z0 : Ext Z.heap h0) (S_w_CS : own_w_CS Z w_CS) (E_b236 : Exa Z h0 b236 own_cS) (F_b236_coder : Fld Z h0 b236 own_cS "coder" "B" (.int (0 : Int32))) (F_b236_value : Fld Z h0 b236 own_cS "value" "[B" .null) (E_bb : Exa Z h0 bb own_cB) (F_bb_coder : Fld Z h0 bb own_cA "coder" "B" (.int (0 : Int32))) (F_bb_count : Fld Z h0 bb own_cA "count" "I" (.int (Int32.ofNat cs.length))) (F_bb_value : Fld Z h0 bb own_cA "value" "[B" (.ref ba)) (V_ba : Arv Z h0 ba kv .byte (34 : Int32) (own_buf 34 cs) (.int (0 : Int32))) (g_b236 : Z.heap.size ≤ b236) (hc1 : ¬ (w_CS = (0 : Int32))) (hc45 : ba ≠ b236) (hc44 : cs.length < 34) :
    own_met l y_25 jdk_42_method_53_code 2 none ws ({ frames := 4, cells := 1, slots := 34, locals := 65 } : Room) Z #[(.ref b236), (.ref bb)] h0 (Qrm237 Z cs b236 h0) := by
  refine own_start (plainFor_of_name pn_5) (fun m => ef_jdk_42_method_53_RR m b236 bb) ?_
  intro p e s m below meth c s₁ hx hby hml hown hnm X0 hZ e0 hret hlk
  have N0 := Fr.nil Z.heap.size
  obtain ⟨_, T269, Lc269, X269, hQ269, st269⟩ := own_special (y := y_24) X0 hx hZ hown rfl (own_w hw 153 rfl) (own_w hw 154 rfl) (own_w hw 6 rfl) (own_w hw 155 rfl) (rm238 l Z a0 hw [] w_CS bb ba kv cs b236 h0 Z0 S_w_CS E_b236 F_b236_coder F_b236_value E_bb F_bb_coder F_bb_count F_bb_value V_ba g_b236 hc1 hc45 hc44) e0 b236 (g := (mkF m 3 #[rv b236, rv bb] [.null, (.ref bb), (.ref b236)])) (argsL := [(.ref bb), .null]) (rest := []) (W := 0) (lenOf pd_17 rfl) (hb hby d26_3) hml
  obtain ⟨b270, k271, rfl, N269q, K269q, szn_b270, q269_E_b236, q269_F_b236_coder, q269_F_b236_value, q269_V_b270⟩ := hQ269
  have sz_b270 := Nat.le_trans (Keep.refl h0 [b236]).1 szn_b270
  have K269 := (Keep.refl h0 [b236]).trans K269q (allS (Or.inl (List.mem_of_getElem? (i := 0) rfl)) all0)
  have N269 := Fr.app N0 N269q
  obtain ⟨_, hr, hrun, hended, hW, hsame⟩ := X269.leave (v := none) (fun _ => rfl) hlk
  refine ⟨_, _, ?_, hrun, hended, _, _, rfl, ?_, ⟨_, rfl⟩, hW, hsame.mono (by decide) (by decide)⟩
  · show own_S p e below s₁ (mkF m 0 #[rv b236, rv bb] []) _
    refine own_aN X0 hx hby d26_0 ?_
    refine own_aN X0 hx hby d26_1 ?_
    refine XS.aconstNull X0.here hx rfl (hb hby d26_2) ?_
    refine st269 _ ?_
    exact X269.returnOut hx hret (hb hby d26_6) hr
  · show Qrm237 Z cs b236 h0 _ T269.heap _
    exact ⟨b270, k271, rfl, N269, K269, sz_b270, q269_E_b236, q269_F_b236_coder, q269_F_b236_value, q269_V_b270⟩
def Qrm235 (Z : State) (cs : List Int32) (h0 : Heap) (v : Option Value) (h : Heap) (L : List Loc) : Prop := ∃ b236 : Addr, ∃ b273 : Addr, ∃ k274 : ClassId, v = some (.ref b236) ∧ Fr Z.heap.size L ∧ Keep h0 h [] ∧ h0.size ≤ b236 ∧ h0.size ≤ b273 ∧ Exa Z h b236 own_cS ∧ Fld Z h b236 own_cS "coder" "B" (.int (0 : Int32)) ∧ Fld Z h b236 own_cS "value" "[B" (.ref b273) ∧ Arv Z h b273 k274 .byte (Int32.ofNat cs.length) (own_ch cs) (.int (0 : Int32))
theorem rm235 (l : Launch) (Z : State) (a0 : Array Value) (hw : own_HW Z a0) (ws : List Jvm.Cond) (w_CS : Int32) (bb ba : Addr) (kv : ClassId) (cs : List Int32) (h0 : Heap) (Z0 : Ext Z.heap h0) (S_w_CS : own_w_CS Z w_CS) (E_bb : Exa Z h0 bb own_cB) (F_bb_value : Fld Z h0 bb own_cA "value" "[B" (.ref ba)) (F_bb_coder : Fld Z h0 bb own_cA "coder" "B" (.int (0 : Int32))) (F_bb_count : Fld Z h0 bb own_cA "count" "I" (.int (Int32.ofNat cs.length))) (V_ba : Arv Z h0 ba kv .byte (34 : Int32) (own_buf 34 cs) (.int (0 : Int32))) (hc1 : ¬ (w_CS = (0 : Int32))) (hc44 : cs.length < 34) :
    own_met l y_26 jdk_67_method_42_code 1 (some (.object own_cS)) ws ({ frames := 5, cells := 2, slots := 38, locals := 79 } : Room) Z #[(.ref bb)] h0 (Qrm235 Z cs h0) := by
  refine own_start (plainFor_of_name pn_4) (fun m => ef_jdk_67_method_42_R m bb) ?_
  intro p e s m below meth c s₁ hx hby hml hown hnm X0 hZ e0 hret hlk
  have N0 := Fr.nil Z.heap.size
  obtain ⟨T236, h236, X236, e236, E236, A236, D236, -, st236⟩ := newO X0 hx hZ hown (own_w hw 149 rfl) (own_w hw 5 rfl) (own_w hw 6 rfl) e0 (g := (mkF m 0 #[rv bb] [])) rfl (hb hby d25_0) (by decide) (by decide)
  obtain ⟨b236, g236⟩ : ∃ z, z = h0.size := ⟨_, rfl⟩
  rw [← g236] at A236 D236 st236
  have g_b236 := Nat.le_trans Z0.1 (Nat.le_of_eq g236.symm)
  have sz_b236 := Nat.le_trans (Keep.refl h0 []).1 (Nat.le_of_eq g236.symm)
  have F_b236_coder : Fld Z h236 b236 own_cS "coder" "B" (.int (0 : Int32)) := D236 (Or.inr (own_w hw 31 rfl)) (ty := .byte) (by decide)
  have F_b236_value : Fld Z h236 b236 own_cS "value" "[B" .null := D236 (Or.inr (own_w hw 33 rfl)) (ty := (.array .byte)) (by decide)
  have K236 := (Keep.refl h0 []).ext E236
  have XX236 := own_ext2 Z0 E236
  have ne_ba_b236 := Nat.ne_of_lt (Nat.lt_of_lt_of_le V_ba.lt (Nat.le_of_eq g236.symm))
  obtain ⟨_, T272, Lc272, X272, hQ272, st272⟩ := own_special (y := y_25) X236 hx hZ hown rfl (own_w hw 150 rfl) (own_w hw 151 rfl) (own_w hw 6 rfl) (own_w hw 152 rfl) (rm237 l Z a0 hw [] w_CS bb ba kv cs b236 h236 XX236 S_w_CS A236 F_b236_coder F_b236_value (E_bb.ext E236) (F_bb_coder.ext E236) (F_bb_count.ext E236) (F_bb_value.ext E236) (V_ba.ext E236) g_b236 hc1 ne_ba_b236 hc44) e236 b236 (g := (mkF m 5 #[rv bb] [(.ref bb), (.ref b236), (.ref b236)])) (argsL := [(.ref bb)]) (rest := [(.ref b236)]) (W := 1) (lenOf pd_18 rfl) (hb hby d25_5) hml
  obtain ⟨b273, k274, rfl, N272q, K272q, szn_b273, q272_E_b236, q272_F_b236_coder, q272_F_b236_value, q272_V_b273⟩ := hQ272
  have sz_b273 := Nat.le_trans K236.1 szn_b273
  have K272 := K236.trans K272q (allS (Or.inr sz_b236) all0)
  have N272 := Fr.app N0 N272q
  obtain ⟨_, hr, hrun, hended, hW, hsame⟩ := X272.leave (v := some (.ref b236)) (fun h => by rw [hret] at h; cases h) hlk
  refine ⟨_, _, ?_, hrun, hended, _, _, rfl, ?_, ⟨_, rfl⟩, hW, hsame.mono (by decide) (by decide)⟩
  · show own_S p e below s₁ (mkF m 0 #[rv bb] []) _
    refine st236 _ ?_
    refine XS.dup X236.here hx rfl (hb hby d25_3) rfl rfl ?_
    refine own_aN X236 hx hby d25_4 ?_
    refine st272 _ ?_
    jvm_step X272.here [X272.here.top, hx, (hb hby d25_8), X272.method', hret, Value.isRef, FieldType.isReference]
    first | (intro acts; rw [hr _ acts rfl rfl rfl]) | rw [hr _ _ rfl rfl rfl]
    exact Steps.refl _
  · show Qrm235 Z cs h0 _ T272.heap _
    exact ⟨b236, b273, k274, rfl, N272, K272, sz_b236, sz_b273, q272_E_b236, q272_F_b236_coder, q272_F_b236_value, q272_V_b273⟩
theorem rm280 (l : Launch) (Z : State) (a0 : Array Value) (hw : own_HW Z a0) (ws : List Jvm.Cond) (bb ba : Addr) (h0 : Heap) (Z0 : Ext Z.heap h0) (F_bb_value : Fld Z h0 bb own_cA "value" "[B" (.ref ba)) :
    own_met l y_18 jdk_68_method_64_code 1 (some (.array .byte)) ws ({ frames := 0, cells := 0, slots := 0, locals := 0 } : Room) Z #[(.ref bb)] h0 (own_qp Z (some (.ref ba)) h0) := by
  refine own_start (plainFor_of_name pn_1) (fun m => ef_jdk_68_method_64_R m bb) ?_
  intro p e s m below meth c s₁ hx hby hml hown hnm X0 hZ e0 hret hlk
  have N0 := Fr.nil Z.heap.size
  obtain ⟨T281, X281, e281, st281⟩ := getF X0 hx hZ hown (host := "") (Or.inl (own_w hw 69 rfl)) Via.refl e0 F_bb_value (g := (mkF m 1 #[rv bb] [(.ref bb)])) rfl rfl (hb hby d28_1)
  obtain ⟨_, hr, hrun, hended, hW, hsame⟩ := X281.leave (v := some (.ref ba)) (fun h => by rw [hret] at h; cases h) hlk
  refine ⟨_, _, ?_, hrun, hended, _, _, rfl, ?_, ⟨_, rfl⟩, hW, hsame.mono (by decide) (by decide)⟩
  · show own_S p e below s₁ (mkF m 0 #[rv bb] []) _
    refine own_aN X0 hx hby d28_0 ?_
    refine st281 _ ?_
    jvm_step X281.here [X281.here.top, hx, (hb hby d28_4), X281.method', hret, Value.isRef, FieldType.isReference]
    first | (intro acts; rw [hr _ acts rfl rfl rfl]) | rw [hr _ _ rfl rfl rfl]
    exact Steps.refl _
  · show own_qp Z (some (.ref ba)) h0 _ T281.heap _
    rw [e281]
    exact ⟨rfl, N0, rfl⟩
theorem rm284 (l : Launch) (Z : State) (a0 : Array Value) (hw : own_HW Z a0) (ws : List Jvm.Cond) (bb : Addr) (cs : List Int32) (h0 : Heap) (Z0 : Ext Z.heap h0) (F_bb_count : Fld Z h0 bb own_cA "count" "I" (.int (Int32.ofNat cs.length))) :
    own_met l y_19 jdk_68_method_6_code 1 (some .int) ws ({ frames := 0, cells := 0, slots := 0, locals := 0 } : Room) Z #[(.ref bb)] h0 (own_qp Z (some (.int (Int32.ofNat cs.length))) h0) := by
  refine own_start (plainFor_of_name pn_1) (fun m => ef_jdk_68_method_6_R m bb) ?_
  intro p e s m below meth c s₁ hx hby hml hown hnm X0 hZ e0 hret hlk
  have N0 := Fr.nil Z.heap.size
  obtain ⟨T285, X285, e285, st285⟩ := getF X0 hx hZ hown (host := "") (Or.inl (own_w hw 93 rfl)) Via.refl e0 F_bb_count (g := (mkF m 1 #[rv bb] [(.ref bb)])) rfl rfl (hb hby d30_1)
  obtain ⟨_, hr, hrun, hended, hW, hsame⟩ := X285.leave (v := some (.int (Int32.ofNat cs.length))) (fun h => by rw [hret] at h; cases h) hlk
  refine ⟨_, _, ?_, hrun, hended, _, _, rfl, ?_, ⟨_, rfl⟩, hW, hsame.mono (by decide) (by decide)⟩
  · show own_S p e below s₁ (mkF m 0 #[rv bb] []) _
    refine own_aN X0 hx hby d30_0 ?_
    refine st285 _ ?_
    exact retI X285 hx hret (hb hby d30_4) hr
  · show own_qp Z (some (.int (Int32.ofNat cs.length))) h0 _ T285.heap _
    rw [e285]
    exact ⟨rfl, N0, rfl⟩
theorem rm283 (l : Launch) (Z : State) (a0 : Array Value) (hw : own_HW Z a0) (ws : List Jvm.Cond) (bb : Addr) (cs : List Int32) (h0 : Heap) (Z0 : Ext Z.heap h0) (E_bb : Exa Z h0 bb own_cB) (F_bb_count : Fld Z h0 bb own_cA "count" "I" (.int (Int32.ofNat cs.length))) :
    own_met l y_20 jdk_67_method_93_code 1 (some .int) ws ({ frames := 1, cells := 0, slots := 0, locals := 12 } : Room) Z #[(.ref bb)] h0 (own_qp Z (some (.int (Int32.ofNat cs.length))) h0) := by
  refine own_start (plainFor_of_name pn_4) (fun m => ef_jdk_67_method_93_R m bb) ?_
  intro p e s m below meth c s₁ hx hby hml hown hnm X0 hZ e0 hret hlk
  have N0 := Fr.nil Z.heap.size
  obtain ⟨_, T286, Lc286, X286, hQ286, st286⟩ := own_super (y := y_19) X0 hx hZ hown (own_w hw 167 rfl) (own_same (own_w hw 163 rfl) (own_w hw 98 rfl) rfl (by decide)) (own_w hw 163 rfl) (own_w hw 80 rfl) (own_w hw 65 rfl) (own_w hw 168 rfl) (rm284 l Z a0 hw [] bb cs h0 Z0 F_bb_count) e0 (Ins.self E_bb) (g := (mkF m 1 #[rv bb] [(.ref bb)])) (argsL := []) (rest := []) (W := 0) (lenOf pd_9 rfl) (hb hby d29_1) hml
  obtain ⟨rfl, N286q, e286⟩ := hQ286
  have N286 := Fr.app N0 N286q
  obtain ⟨_, hr, hrun, hended, hW, hsame⟩ := X286.leave (v := some (.int (Int32.ofNat cs.length))) (fun h => by rw [hret] at h; cases h) hlk
  refine ⟨_, _, ?_, hrun, hended, _, _, rfl, ?_, ⟨_, rfl⟩, hW, hsame.mono (by decide) (by decide)⟩
  · show own_S p e below s₁ (mkF m 0 #[rv bb] []) _
    refine own_aN X0 hx hby d29_0 ?_
    refine st286 _ ?_
    exact retI X286 hx hret (hb hby d29_4) hr
  · show own_qp Z (some (.int (Int32.ofNat cs.length))) h0 _ T286.heap _
    rw [e286]
    exact ⟨rfl, N286, rfl⟩
def Qrm290 (Z : State) (kv : ClassId) (cs : List Int32) (h0 : Heap) (v : Option Value) (h : Heap) (L : List Loc) : Prop := ∃ b292 : Addr, v = some (.ref b292) ∧ Fr Z.heap.size L ∧ Keep h0 h [] ∧ h0.size ≤ b292 ∧ Arv Z h b292 kv .byte (Int32.ofNat cs.length) (own_ch cs) (.int (0 : Int32)) ∧ Exa Z h b292 "[B"
theorem rm290 (l : Launch) (Z : State) (a0 : Array Value) (hw : own_HW Z a0) (ws : List Jvm.Cond) (ba : Addr) (kv : ClassId) (cs : List Int32) (h0 : Heap) (Z0 : Ext Z.heap h0) (E_ba : Exa Z h0 ba "[B") (V_ba : Arv Z h0 ba kv .byte (16 : Int32) (own_buf 16 cs) (.int (0 : Int32))) (hc46 : (Int32.ofNat cs.length) = (16 : Int32)) (hc47 : cs.length = 16) :
    own_met l y_23 jdk_65_method_132_code 3 (some (.array .byte)) ws ({ frames := 1, cells := 1, slots := 16, locals := 14 } : Room) Z #[(.ref ba), (.int (0 : Int32)), (.int (Int32.ofNat cs.length))] h0 (Qrm290 Z kv cs h0) := by
  refine own_start (plainFor_of_name pn_3) (fun m => ef_jdk_65_method_132_RII m ba (0 : Int32) (Int32.ofNat cs.length)) ?_
  intro p e s m below meth c s₁ hx hby hml hown hnm X0 hZ e0 hret hlk
  have N0 := Fr.nil Z.heap.size
  obtain ⟨cl291, Ar291, q291, S291, Nn291, H291, G291⟩ := id V_ba
  obtain ⟨T292, h292, X292, e292, E292, V292, EX292, st292⟩ := cloneH X0 hx hZ hown (own_w hw 228 rfl) (own_w hw 229 rfl) (own_w hw 233 rfl) (own_w hw 231 rfl) (own_w hw 232 rfl) (own_w hw 234 rfl) e0 (Arv.arh V_ba) E_ba (g := (mkF m 18 #[rv ba, iv (0 : Int32), iv (Int32.ofNat cs.length)] [(.ref ba)])) rfl (by rw [hml]; rfl) rfl (hb hby d31_18) (by decide) (W := 0) (by show 2 * 0 + _ ≤ _; exact Nat.le_of_eq rfl) (by decide) (cap := 16) (by decide) (by decide) (by decide)
  obtain ⟨b292, g292⟩ : ∃ z, z = h0.size := ⟨_, rfl⟩
  rw [← g292] at V292 EX292 st292
  have sz_b292 := Nat.le_trans (Keep.refl h0 []).1 (Nat.le_of_eq g292.symm)
  have V_b292 : Arv Z h292 b292 kv .byte (Int32.ofNat cs.length) (own_ch cs) (.int (0 : Int32)) := own_full hc47 V292
  have K292 := (Keep.refl h0 []).ext E292
  obtain ⟨T293, X293, e293, st293⟩ := castY X292 hx hZ hown (own_w hw 235 rfl) e292 (Ins.self EX292) (g := (mkF m 21 #[rv ba, iv (0 : Int32), iv (Int32.ofNat cs.length)] [(.ref b292)])) rfl rfl (hb hby d31_21)
  obtain ⟨_, hr, hrun, hended, hW, hsame⟩ := X293.leave (v := some (.ref b292)) (fun h => by rw [hret] at h; cases h) hlk
  refine ⟨_, _, ?_, hrun, hended, _, _, rfl, ?_, ⟨_, rfl⟩, hW, hsame.mono (by decide) (by decide)⟩
  · show own_S p e below s₁ (mkF m 0 #[rv ba, iv (0 : Int32), iv (Int32.ofNat cs.length)] []) _
    refine own_iN X0 hx hby d31_0 ?_
    refine own_in X0 hx hby d31_1 (teq (rfl : (0 : Int32) = (0 : Int32))).2 ?_
    refine own_iN X0 hx hby d31_4 ?_
    refine own_aN X0 hx hby d31_5 ?_
    refine X0.arraylength hx (by rw [e0]; exact Ar291.1) (State.isArrayOf_alike hZ.alike Ar291.2.1) (g := (mkF m 6 #[rv ba, iv (0 : Int32), iv (Int32.ofNat cs.length)] [(.ref ba), (.int (Int32.ofNat cs.length))])) rfl rfl (hb hby d31_6) _ ?_
    rw [len_of S291 Nn291]
    refine own_cy (pc := 7) X0 hx hby d31_7 (teq hc46).1 17 ?_
    refine own_aN X0 hx hby d31_17 ?_
    refine st292 _ ?_
    refine st293 _ ?_
    jvm_step X293.here [X293.here.top, hx, (hb hby d31_24), X293.method', hret, Value.isRef, FieldType.isReference]
    first | (intro acts; rw [hr _ acts rfl rfl rfl]) | rw [hr _ _ rfl rfl rfl]
    exact Steps.refl _
  · show Qrm290 Z kv cs h0 _ T293.heap _
    rw [e293]
    exact ⟨b292, rfl, N0, K292, sz_b292, V_b292, EX292⟩
def Qrm278 (Z : State) (kv : ClassId) (cs : List Int32) (b276 : Addr) (h0 : Heap) (v : Option Value) (h : Heap) (L : List Loc) : Prop := ∃ b295 : Addr, v = none ∧ Fr Z.heap.size L ∧ Keep h0 h [b276] ∧ h0.size ≤ b295 ∧ Exa Z h b276 own_cS ∧ Fld Z h b276 own_cS "coder" "B" (.int (0 : Int32)) ∧ Fld Z h b276 own_cS "value" "[B" (.ref b295) ∧ Arv Z h b295 kv .byte (Int32.ofNat cs.length) (own_ch cs) (.int (0 : Int32)) ∧ Exa Z h b295 "[B"
theorem rm278 (l : Launch) (Z : State) (a0 : Array Value) (hw : own_HW Z a0) (ws : List Jvm.Cond) (w_CS : Int32) (bb ba : Addr) (kv : ClassId) (cs : List Int32) (b276 : Addr) (h0 : Heap) (Z0 : Ext Z.heap h0) (S_w_CS : own_w_CS Z w_CS) (E_b276 : Exa Z h0 b276 own_cS) (F_b276_coder : Fld Z h0 b276 own_cS "coder" "B" (.int (0 : Int32))) (F_b276_value : Fld Z h0 b276 own_cS "value" "[B" .null) (E_bb : Exa Z h0 bb own_cB) (F_bb_coder : Fld Z h0 bb own_cA "coder" "B" (.int (0 : Int32))) (F_bb_count : Fld Z h0 bb own_cA "count" "I" (.int (Int32.ofNat cs.length))) (F_bb_value : Fld Z h0 bb own_cA "value" "[B" (.ref ba)) (E_ba : Exa Z h0 ba "[B") (V_ba : Arv Z h0 ba kv .byte (16 : Int32) (own_buf 16 cs) (.int (0 : Int32))) (g_b276 : Z.heap.size ≤ b276) (hc1 : ¬ (w_CS = (0 : Int32))) (hc48 : ba ≠ b276) (hc46 : (Int32.ofNat cs.length) = (16 : Int32)) (hc47 : cs.length = 16) :
    own_met l y_24 jdk_42_method_150_code 5 none ws ({ frames := 2, cells := 1, slots := 16, locals := 29 } : Room) Z #[(.ref b276), (.ref bb), .null] h0 (Qrm278 Z kv cs b276 h0) := by
  refine own_start (plainFor_of_name pn_5) (fun m => ef_jdk_42_method_150_RRn m b276 bb) ?_
  intro p e s m below meth c s₁ hx hby hml hown hnm X0 hZ e0 hret hlk
  have N0 := Fr.nil Z.heap.size
  obtain ⟨T279, X279, e279, st279⟩ := initO X0 hx hZ hown (own_w hw 15 rfl) (own_w hw 16 rfl) (own_w hw 17 rfl) e0 (g := (mkF m 1 #[rv b276, rv bb, .val .null, .unset, .unset] [(.ref b276)])) rfl (by rw [hml]; rfl) rfl (hb hby d27_1) (by decide) (W := 0) (by show 2 * 0 + _ ≤ _; exact Nat.le_of_eq rfl) (by decide)
  obtain ⟨_, T282, Lc282, X282, hQ282, st282⟩ := own_virtual (y := y_18) X279 hx hZ hown (own_w hw 156 rfl) (own_w hw 157 rfl) (own_w hw 159 rfl) (own_w hw 158 rfl) (own_w hw 65 rfl) (own_w hw 160 rfl) (rm280 l Z a0 hw [] bb ba h0 Z0 F_bb_value) e279 E_bb (g := (mkF m 5 #[rv b276, rv bb, .val .null, .unset, .unset] [(.ref bb)])) (argsL := []) (rest := []) (W := 0) (lenOf pd_14 rfl) (hb hby d27_5) hml
  obtain ⟨rfl, N282q, e282⟩ := hQ282
  have N282 := Fr.app N0 N282q
  obtain ⟨_, T287, Lc287, X287, hQ287, st287⟩ := own_virtualO (z := y_19) (y := y_20) X282 hx hZ hown (own_w hw 161 rfl) (own_w hw 162 rfl) (own_w hw 98 rfl) rfl (own_w hw 164 rfl) (own_w hw 165 rfl) (own_w hw 57 rfl) (own_w hw 166 rfl) (rm283 l Z a0 hw [] bb cs h0 Z0 E_bb F_bb_count) e282 E_bb (g := (mkF m 10 #[rv b276, rv bb, .val .null, rv ba, .unset] [(.ref bb)])) (argsL := []) (rest := []) (W := 0) (lenOf pd_9 rfl) (hb hby d27_10) hml
  obtain ⟨rfl, N287q, e287⟩ := hQ287
  have N287 := Fr.app N282 N287q
  obtain ⟨_, T288, Lc288, X288, hQ288, st288⟩ := own_virtual (y := y_8) X287 hx hZ hown (own_w hw 169 rfl) (own_w hw 135 rfl) (own_w hw 137 rfl) (own_w hw 136 rfl) (own_w hw 65 rfl) (own_w hw 138 rfl) (rm100 l Z a0 hw [] w_CS bb h0 Z0 S_w_CS F_bb_coder hc1) e287 E_bb (g := (mkF m 16 #[rv b276, rv bb, .val .null, rv ba, iv (Int32.ofNat cs.length)] [(.ref bb)])) (argsL := []) (rest := []) (W := 0) (lenOf pd_5 rfl) (hb hby d27_16) hml
  obtain ⟨rfl, N288q, e288⟩ := hQ288
  have N288 := Fr.app N287 N288q
  obtain ⟨T289, h289, X289, e289, W289, st289⟩ := putFN X288 hx hZ hown (own_w hw 30 rfl) Via.refl e288 F_b276_coder E_b276 (Or.inr ⟨(own_w hw 31 rfl), rfl, hnm⟩) (own_w hw 5 rfl) (ty := .byte) (v' := (.int (0 : Int32))) (by decide) rfl (by decide) (g := (mkF m 24 #[rv b276, rv bb, .val .null, rv ba, iv (Int32.ofNat cs.length)] [(.int (0 : Int32)), (.ref b276)])) rfl rfl (hb hby d27_24)
  have K289 := (Keep.refl h0 [b276]).wr W289 (Or.inl (List.mem_of_getElem? (i := 0) rfl))
  have XX289 := own_extW Z0 W289 g_b276
  have N289 := Fr.snoc X289 N288 g_b276
  obtain ⟨_, T294, Lc294, X294, hQ294, st294⟩ := own_static (y := y_23) X289 hx hZ hown (own_w hw 170 rfl) (own_w hw 171 rfl) (own_w hw 172 rfl) (own_w hw 173 rfl) (rm290 l Z a0 hw [] ba kv cs h289 XX289 (E_ba.wr W289) (V_ba.other W289 hc48) hc46 hc47) e289 (g := (mkF m 32 #[rv b276, rv bb, .val .null, rv ba, iv (Int32.ofNat cs.length)] [(.int (Int32.ofNat cs.length)), (.int (0 : Int32)), (.ref ba), (.ref b276)])) (argsL := [(.ref ba), (.int (0 : Int32)), (.int (Int32.ofNat cs.length))]) (rest := [(.ref b276)]) (W := 1) (lenOf pd_16 rfl) (hb hby d27_32) hml
  obtain ⟨b295, rfl, N294q, K294q, szn_b295, q294_V_b295, q294_E_b295⟩ := hQ294
  have sz_b295 := Nat.le_trans K289.1 szn_b295
  have K294 := K289.trans K294q all0
  have N294 := Fr.app N289 N294q
  have f296_F_b276_value := ((F_b276_value.other W289 (Or.inr (slot_ne (Or.inr (own_w hw 33 rfl)) (Or.inr (own_w hw 31 rfl)) (by decide) (t := (.array .byte)) (t' := .byte) (by decide) (by decide)))).keep K294q nin0)
  obtain ⟨T297, h297, X297, e297, W297, st297⟩ := putF X294 hx hZ hown (host := "") (Or.inl (own_w hw 32 rfl)) Via.refl rfl f296_F_b276_value ((E_b276.wr W289).keep K294q) (Or.inr ⟨(own_w hw 33 rfl), rfl, hnm⟩) (own_w hw 5 rfl) (ty := (.array .byte)) (by decide) rfl rfl (g := (mkF m 35 #[rv b276, rv bb, .val .null, rv ba, iv (Int32.ofNat cs.length)] [(.ref b295), (.ref b276)])) rfl rfl (hb hby d27_35)
  have K297 := K294.wr W297 (Or.inl (List.mem_of_getElem? (i := 0) rfl))
  have N297 := Fr.snoc X297 N294 g_b276
  have f298_F_b276_coder := (((F_b276_coder.same W289).keep K294q nin0).other W297 (Or.inr (slot_ne (Or.inr (own_w hw 31 rfl)) (Or.inr (own_w hw 33 rfl)) (by decide) (t := .byte) (t' := (.array .byte)) (by decide) (by decide))))
  have ne_b276_b295 := Nat.ne_of_lt (Nat.lt_of_lt_of_le (E_b276.wr W289).lt szn_b295)
  obtain ⟨_, hr, hrun, hended, hW, hsame⟩ := X297.leave (v := none) (fun _ => rfl) hlk
  refine ⟨_, _, ?_, hrun, hended, _, _, rfl, ?_, ⟨_, rfl⟩, hW, hsame.mono (by decide) (by decide)⟩
  · show own_S p e below s₁ (mkF m 0 #[rv b276, rv bb, .val .null, .unset, .unset] []) _
    refine own_aN X0 hx hby d27_0 ?_
    refine st279 _ ?_
    refine own_aN X279 hx hby d27_4 ?_
    refine st282 _ ?_
    refine XS.astoreN X282.here hx rfl (hb hby d27_8) rfl rfl (l' := #[rv b276, rv bb, .val .null, rv ba, .unset]) rfl ?_
    refine own_aN X282 hx hby d27_9 ?_
    refine st287 _ ?_
    refine XS.istore X287.here hx rfl (hb hby d27_13) rfl (l' := #[rv b276, rv bb, .val .null, rv ba, iv (Int32.ofNat cs.length)]) rfl ?_
    refine own_aN X287 hx hby d27_15 ?_
    refine st288 _ ?_
    refine own_in X288 hx hby d27_19 (feq (by decide : ¬ ((1 : Int32) = (0 : Int32)))).1 ?_
    refine own_aN X288 hx hby d27_22 ?_
    refine own_k X288 hx hby d27_23 ?_
    refine st289 _ ?_
    refine own_aN X289 hx hby d27_27 ?_
    refine own_aN X289 hx hby d27_28 ?_
    refine own_k X289 hx hby d27_29 ?_
    refine own_i X289 hx hby d27_30 ?_
    refine st294 _ ?_
    refine st297 _ ?_
    refine own_go (pc := 38) X297 hx hby d27_38 97 ?_
    exact X297.returnOut hx hret (hb hby d27_97) hr
  · show Qrm278 Z kv cs b276 h0 _ T297.heap _
    rw [e297]
    exact ⟨b295, rfl, N297, K297, sz_b295, (((E_b276.wr W289).keep K294q).wr W297), f298_F_b276_coder, (f296_F_b276_value.same W297), (q294_V_b295.other W297 (Ne.symm ne_b276_b295)), (q294_E_b295.wr W297)⟩
def Qrm277 (Z : State) (kv : ClassId) (cs : List Int32) (b276 : Addr) (h0 : Heap) (v : Option Value) (h : Heap) (L : List Loc) : Prop := ∃ b300 : Addr, v = none ∧ Fr Z.heap.size L ∧ Keep h0 h [b276] ∧ h0.size ≤ b300 ∧ Exa Z h b276 own_cS ∧ Fld Z h b276 own_cS "coder" "B" (.int (0 : Int32)) ∧ Fld Z h b276 own_cS "value" "[B" (.ref b300) ∧ Arv Z h b300 kv .byte (Int32.ofNat cs.length) (own_ch cs) (.int (0 : Int32)) ∧ Exa Z h b300 "[B"
theorem rm277 (l : Launch) (Z : State) (a0 : Array Value) (hw : own_HW Z a0) (ws : List Jvm.Cond) (w_CS : Int32) (bb ba : Addr) (kv : ClassId) (cs : List Int32) (b276 : Addr) (h0 : Heap) (Z0 : Ext Z.heap h0) (S_w_CS : own_w_CS Z w_CS) (E_b276 : Exa Z h0 b276 own_cS) (F_b276_coder : Fld Z h0 b276 own_cS "coder" "B" (.int (0 : Int32))) (F_b276_value : Fld Z h0 b276 own_cS "value" "[B" .null) (E_bb : Exa Z h0 bb own_cB) (F_bb_coder : Fld Z h0 bb own_cA "coder" "B" (.int (0 : Int32))) (F_bb_count : Fld Z h0 bb own_cA "count" "I" (.int (Int32.ofNat cs.length))) (F_bb_value : Fld Z h0 bb own_cA "value" "[B" (.ref ba)) (E_ba : Exa Z h0 ba "[B") (V_ba : Arv Z h0 ba kv .byte (16 : Int32) (own_buf 16 cs) (.int (0 : Int32))) (g_b276 : Z.heap.size ≤ b276) (hc1 : ¬ (w_CS = (0 : Int32))) (hc48 : ba ≠ b276) (hc46 : (Int32.ofNat cs.length) = (16 : Int32)) (hc47 : cs.length = 16) :
    own_met l y_25 jdk_42_method_53_code 2 none ws ({ frames := 3, cells := 1, slots := 16, locals := 45 } : Room) Z #[(.ref b276), (.ref bb)] h0 (Qrm277 Z kv cs b276 h0) := by
  refine own_start (plainFor_of_name pn_5) (fun m => ef_jdk_42_method_53_RR m b276 bb) ?_
  intro p e s m below meth c s₁ hx hby hml hown hnm X0 hZ e0 hret hlk
  have N0 := Fr.nil Z.heap.size
  obtain ⟨_, T299, Lc299, X299, hQ299, st299⟩ := own_special (y := y_24) X0 hx hZ hown rfl (own_w hw 153 rfl) (own_w hw 154 rfl) (own_w hw 6 rfl) (own_w hw 155 rfl) (rm278 l Z a0 hw [] w_CS bb ba kv cs b276 h0 Z0 S_w_CS E_b276 F_b276_coder F_b276_value E_bb F_bb_coder F_bb_count F_bb_value E_ba V_ba g_b276 hc1 hc48 hc46 hc47) e0 b276 (g := (mkF m 3 #[rv b276, rv bb] [.null, (.ref bb), (.ref b276)])) (argsL := [(.ref bb), .null]) (rest := []) (W := 0) (lenOf pd_17 rfl) (hb hby d26_3) hml
  obtain ⟨b300, rfl, N299q, K299q, szn_b300, q299_E_b276, q299_F_b276_coder, q299_F_b276_value, q299_V_b300, q299_E_b300⟩ := hQ299
  have sz_b300 := Nat.le_trans (Keep.refl h0 [b276]).1 szn_b300
  have K299 := (Keep.refl h0 [b276]).trans K299q (allS (Or.inl (List.mem_of_getElem? (i := 0) rfl)) all0)
  have N299 := Fr.app N0 N299q
  obtain ⟨_, hr, hrun, hended, hW, hsame⟩ := X299.leave (v := none) (fun _ => rfl) hlk
  refine ⟨_, _, ?_, hrun, hended, _, _, rfl, ?_, ⟨_, rfl⟩, hW, hsame.mono (by decide) (by decide)⟩
  · show own_S p e below s₁ (mkF m 0 #[rv b276, rv bb] []) _
    refine own_aN X0 hx hby d26_0 ?_
    refine own_aN X0 hx hby d26_1 ?_
    refine XS.aconstNull X0.here hx rfl (hb hby d26_2) ?_
    refine st299 _ ?_
    exact X299.returnOut hx hret (hb hby d26_6) hr
  · show Qrm277 Z kv cs b276 h0 _ T299.heap _
    exact ⟨b300, rfl, N299, K299, sz_b300, q299_E_b276, q299_F_b276_coder, q299_F_b276_value, q299_V_b300, q299_E_b300⟩
def Qrm275 (Z : State) (kv : ClassId) (cs : List Int32) (h0 : Heap) (v : Option Value) (h : Heap) (L : List Loc) : Prop := ∃ b276 : Addr, ∃ b302 : Addr, v = some (.ref b276) ∧ Fr Z.heap.size L ∧ Keep h0 h [] ∧ h0.size ≤ b276 ∧ h0.size ≤ b302 ∧ Exa Z h b276 own_cS ∧ Fld Z h b276 own_cS "coder" "B" (.int (0 : Int32)) ∧ Fld Z h b276 own_cS "value" "[B" (.ref b302) ∧ Arv Z h b302 kv .byte (Int32.ofNat cs.length) (own_ch cs) (.int (0 : Int32)) ∧ Exa Z h b302 "[B"
theorem rm275 (l : Launch) (Z : State) (a0 : Array Value) (hw : own_HW Z a0) (ws : List Jvm.Cond) (w_CS : Int32) (bb ba : Addr) (kv : ClassId) (cs : List Int32) (h0 : Heap) (Z0 : Ext Z.heap h0) (S_w_CS : own_w_CS Z w_CS) (E_bb : Exa Z h0 bb own_cB) (F_bb_value : Fld Z h0 bb own_cA "value" "[B" (.ref ba)) (F_bb_coder : Fld Z h0 bb own_cA "coder" "B" (.int (0 : Int32))) (F_bb_count : Fld Z h0 bb own_cA "count" "I" (.int (Int32.ofNat cs.length))) (V_ba : Arv Z h0 ba kv .byte (16 : Int32) (own_buf 16 cs) (.int (0 : Int32))) (E_ba : Exa Z h0 ba "[B") (hc1 : ¬ (w_CS = (0 : Int32))) (hc46 : (Int32.ofNat cs.length) = (16 : Int32)) (hc47 : cs.length = 16) :
    own_met l y_26 jdk_67_method_42_code 1 (some (.object own_cS)) ws ({ frames := 5, cells := 2, slots := 20, locals := 79 } : Room) Z #[(.ref bb)] h0 (Qrm275 Z kv cs h0) := by
  refine own_start (plainFor_of_name pn_4) (fun m => ef_jdk_67_method_42_R m bb) ?_
  intro p e s m below meth c s₁ hx hby hml hown hnm X0 hZ e0 hret hlk
  have N0 := Fr.nil Z.heap.size
  obtain ⟨T276, h276, X276, e276, E276, A276, D276, -, st276⟩ := newO X0 hx hZ hown (own_w hw 149 rfl) (own_w hw 5 rfl) (own_w hw 6 rfl) e0 (g := (mkF m 0 #[rv bb] [])) rfl (hb hby d25_0) (by decide) (by decide)
  obtain ⟨b276, g276⟩ : ∃ z, z = h0.size := ⟨_, rfl⟩
  rw [← g276] at A276 D276 st276
  have g_b276 := Nat.le_trans Z0.1 (Nat.le_of_eq g276.symm)
  have sz_b276 := Nat.le_trans (Keep.refl h0 []).1 (Nat.le_of_eq g276.symm)
  have F_b276_coder : Fld Z h276 b276 own_cS "coder" "B" (.int (0 : Int32)) := D276 (Or.inr (own_w hw 31 rfl)) (ty := .byte) (by decide)
  have F_b276_value : Fld Z h276 b276 own_cS "value" "[B" .null := D276 (Or.inr (own_w hw 33 rfl)) (ty := (.array .byte)) (by decide)
  have K276 := (Keep.refl h0 []).ext E276
  have XX276 := own_ext2 Z0 E276
  have ne_ba_b276 := Nat.ne_of_lt (Nat.lt_of_lt_of_le V_ba.lt (Nat.le_of_eq g276.symm))
  obtain ⟨_, T301, Lc301, X301, hQ301, st301⟩ := own_special (y := y_25) X276 hx hZ hown rfl (own_w hw 150 rfl) (own_w hw 151 rfl) (own_w hw 6 rfl) (own_w hw 152 rfl) (rm277 l Z a0 hw [] w_CS bb ba kv cs b276 h276 XX276 S_w_CS A276 F_b276_coder F_b276_value (E_bb.ext E276) (F_bb_coder.ext E276) (F_bb_count.ext E276) (F_bb_value.ext E276) (E_ba.ext E276) (V_ba.ext E276) g_b276 hc1 ne_ba_b276 hc46 hc47) e276 b276 (g := (mkF m 5 #[rv bb] [(.ref bb), (.ref b276), (.ref b276)])) (argsL := [(.ref bb)]) (rest := [(.ref b276)]) (W := 1) (lenOf pd_18 rfl) (hb hby d25_5) hml
  obtain ⟨b302, rfl, N301q, K301q, szn_b302, q301_E_b276, q301_F_b276_coder, q301_F_b276_value, q301_V_b302, q301_E_b302⟩ := hQ301
  have sz_b302 := Nat.le_trans K276.1 szn_b302
  have K301 := K276.trans K301q (allS (Or.inr sz_b276) all0)
  have N301 := Fr.app N0 N301q
  obtain ⟨_, hr, hrun, hended, hW, hsame⟩ := X301.leave (v := some (.ref b276)) (fun h => by rw [hret] at h; cases h) hlk
  refine ⟨_, _, ?_, hrun, hended, _, _, rfl, ?_, ⟨_, rfl⟩, hW, hsame.mono (by decide) (by decide)⟩
  · show own_S p e below s₁ (mkF m 0 #[rv bb] []) _
    refine st276 _ ?_
    refine XS.dup X276.here hx rfl (hb hby d25_3) rfl rfl ?_
    refine own_aN X276 hx hby d25_4 ?_
    refine st301 _ ?_
    jvm_step X301.here [X301.here.top, hx, (hb hby d25_8), X301.method', hret, Value.isRef, FieldType.isReference]
    first | (intro acts; rw [hr _ acts rfl rfl rfl]) | rw [hr _ _ rfl rfl rfl]
    exact Steps.refl _
  · show Qrm275 Z kv cs h0 _ T301.heap _
    exact ⟨b276, b302, rfl, N301, K301, sz_b276, sz_b302, q301_E_b276, q301_F_b276_coder, q301_F_b276_value, q301_V_b302, q301_E_b302⟩
def Qown_ts16 (Z : State) (cs : List Int32) (h0 : Heap) (v : Option Value) (h : Heap) (L : List Loc) : Prop := ∃ (b a : Addr) (k : ClassId), v = some (.ref b) ∧ Fr Z.heap.size L ∧ Keep h0 h [] ∧ h0.size ≤ b ∧ h0.size ≤ a ∧ Exa Z h b own_cS ∧ Fld Z h b own_cS "coder" "B" (.int (0 : Int32)) ∧ Fld Z h b own_cS "value" "[B" (.ref a) ∧ Arv Z h a k .byte (Int32.ofNat cs.length) (own_ch cs) (.int (0 : Int32))
theorem own_ts16 (l : Launch) (Z : State) (a0 : Array Value) (hw : own_HW Z a0) (ws : List Jvm.Cond) (w_CS : Int32) (bb ba : Addr) (kv : ClassId) (cs : List Int32) (h0 : Heap) (Z0 : Ext Z.heap h0) (S_w_CS : own_w_CS Z w_CS) (E_bb : Exa Z h0 bb own_cB) (F_bb_value : Fld Z h0 bb own_cA "value" "[B" (.ref ba)) (F_bb_coder : Fld Z h0 bb own_cA "coder" "B" (.int (0 : Int32))) (F_bb_count : Fld Z h0 bb own_cA "count" "I" (.int (Int32.ofNat cs.length))) (V_ba : Arv Z h0 ba kv .byte (16 : Int32) (own_buf 16 cs) (.int (0 : Int32))) (E_ba : Exa Z h0 ba "[B") (hc1 : ¬ (w_CS = (0 : Int32))) (hc33 : cs.length ≤ 16) :
    own_met l y_26 jdk_67_method_42_code 1 (some (.object own_cS)) ws ({ frames := 5, cells := 2, slots := 20, locals := 79 } : Room) Z #[(.ref bb)] h0 (Qown_ts16 Z cs h0) := by
  by_cases c : cs.length < 16
  · exact own_mono (rm195 l Z a0 hw ws w_CS bb ba kv cs h0 Z0 S_w_CS E_bb F_bb_value F_bb_coder F_bb_count V_ba hc1 c) fun v h L ⟨b196, b233, k234, z1, z2, z3, s0, s1, f0, f1, f2, f3⟩ => ⟨b196, b233, k234, z1, z2, z3, s0, s1, f0, f1, f2, f3⟩
  · exact own_mono (rm275 l Z a0 hw ws w_CS bb ba kv cs h0 Z0 S_w_CS E_bb F_bb_value F_bb_coder F_bb_count V_ba E_ba hc1 (congrArg Int32.ofNat (own_e16 hc33 c)) (own_e16 hc33 c)) fun v h L ⟨b276, b302, z1, z2, z3, s0, s1, f0, f1, f2, f3, f4⟩ => ⟨b276, b302, kv, z1, z2, z3, s0, s1, f0, f1, f2, f3⟩
theorem rm306 (l : Launch) (Z : State) (a0 : Array Value) (hw : own_HW Z a0) (ws : List Jvm.Cond) (w_CS : Int32) (cs : List Int32) (bs be : Addr) (ke : ClassId) (h0 : Heap) (Z0 : Ext Z.heap h0) (S_w_CS : own_w_CS Z w_CS) (E_bs : Exa Z h0 bs own_cS) (F_bs_coder : Fld Z h0 bs own_cS "coder" "B" (.int (0 : Int32))) (F_bs_value : Fld Z h0 bs own_cS "value" "[B" (.ref be)) (V_be : Arv Z h0 be ke .byte (Int32.ofNat cs.length) (own_ch cs) (.int (0 : Int32))) (hc1 : ¬ (w_CS = (0 : Int32))) :
    own_met l y_12 jdk_42_method_54_code 1 (some .int) ws ({ frames := 1, cells := 0, slots := 0, locals := 13 } : Room) Z #[(.ref bs)] h0 (own_qp Z (some (.int (Int32.ofNat cs.length))) h0) := by
  refine own_start (plainFor_of_name pn_5) (fun m => ef_jdk_42_method_54_R m bs) ?_
  intro p e s m below meth c s₁ hx hby hml hown hnm X0 hZ e0 hret hlk
  have N0 := Fr.nil Z.heap.size
  obtain ⟨T307, X307, e307, st307⟩ := getF X0 hx hZ hown (host := "") (Or.inl (own_w hw 32 rfl)) Via.refl e0 F_bs_value (g := (mkF m 1 #[rv bs] [(.ref bs)])) rfl rfl (hb hby d14_1)
  obtain ⟨cl308, Ar308, q308, S308, Nn308, H308, G308⟩ := id V_be
  obtain ⟨_, T309, Lc309, X309, hQ309, st309⟩ := own_virtual (y := y_11) X307 hx hZ hown (own_w hw 88 rfl) (own_w hw 89 rfl) (own_w hw 91 rfl) (own_w hw 90 rfl) (own_w hw 6 rfl) (own_w hw 92 rfl) (rm115 l Z a0 hw [] w_CS bs h0 Z0 S_w_CS F_bs_coder hc1) e307 E_bs (g := (mkF m 6 #[rv bs] [(.ref bs), (.int (Int32.ofNat cs.length))])) (argsL := []) (rest := [(.int (Int32.ofNat cs.length))]) (W := 1) (lenOf pd_8 rfl) (hb hby d14_6) hml
  obtain ⟨rfl, N309q, e309⟩ := hQ309
  have N309 := Fr.app N0 N309q
  obtain ⟨_, hr, hrun, hended, hW, hsame⟩ := X309.leave (v := some (.int (Int32.ofNat cs.length))) (fun h => by rw [hret] at h; cases h) hlk
  refine ⟨_, _, ?_, hrun, hended, _, _, rfl, ?_, ⟨_, rfl⟩, hW, hsame.mono (by decide) (by decide)⟩
  · show own_S p e below s₁ (mkF m 0 #[rv bs] []) _
    refine own_aN X0 hx hby d14_0 ?_
    refine st307 _ ?_
    refine X307.arraylength hx (by rw [e307]; exact Ar308.1) (State.isArrayOf_alike hZ.alike Ar308.2.1) (g := (mkF m 4 #[rv bs] [(.ref be)])) rfl rfl (hb hby d14_4) _ ?_
    rw [len_of S308 Nn308]
    refine own_aN X307 hx hby d14_5 ?_
    refine st309 _ ?_
    refine XS.ishr X309.here hx rfl (hb hby d14_9) rfl ?_
    show own_S p e below T309 (mkF m 10 #[rv bs] [(.int ((Int32.ofNat cs.length) >>> ((0 : Int32) &&& 31)))]) _
    rw [(own_shr0 _)]
    exact retI X309 hx hret (hb hby d14_10) hr
  · show own_qp Z (some (.int (Int32.ofNat cs.length))) h0 _ T309.heap _
    rw [e309]
    exact ⟨rfl, N309, rfl⟩
theorem rm311 (l : Launch) (Z : State) (a0 : Array Value) (hw : own_HW Z a0) (ws : List Jvm.Cond) (w_CS : Int32) (bs : Addr) (h0 : Heap) (Z0 : Ext Z.heap h0) (S_w_CS : own_w_CS Z w_CS) (F_bs_coder : Fld Z h0 bs own_cS "coder" "B" (.int (0 : Int32))) (hc1 : ¬ (w_CS = (0 : Int32))) :
    own_met l y_27 jdk_42_method_154_code 1 (some .boolean) ws ({ frames := 0, cells := 0, slots := 0, locals := 0 } : Room) Z #[(.ref bs)] h0 (own_qp Z (some (.int (1 : Int32))) h0) := by
  refine own_start (plainFor_of_name pn_5) (fun m => ef_jdk_42_method_154_R m bs) ?_
  intro p e s m below meth c s₁ hx hby hml hown hnm X0 hZ e0 hret hlk
  have N0 := Fr.nil Z.heap.size
  obtain ⟨T312, X312, e312, st312⟩ := getS2 X0 hx hZ hown (host := "") (Or.inl (own_w hw 18 rfl)) Via.refl e0 (S_w_CS.ext Z0) (g := (mkF m 0 #[rv bs] [])) rfl (hb hby d38_0)
  obtain ⟨T313, X313, e313, st313⟩ := getF X312 hx hZ hown (host := "") (Or.inl (own_w hw 30 rfl)) Via.refl e312 F_bs_coder (g := (mkF m 7 #[rv bs] [(.ref bs)])) rfl rfl (hb hby d38_7)
  obtain ⟨_, hr, hrun, hended, hW, hsame⟩ := X313.leave (v := some (.int (1 : Int32))) (fun h => by rw [hret] at h; cases h) hlk
  refine ⟨_, _, ?_, hrun, hended, _, _, rfl, ?_, ⟨_, rfl⟩, hW, hsame.mono (by decide) (by decide)⟩
  · show own_S p e below s₁ (mkF m 0 #[rv bs] []) _
    refine st312 _ ?_
    refine own_in X312 hx hby d38_3 (feq hc1).1 ?_
    refine own_aN X312 hx hby d38_6 ?_
    refine st313 _ ?_
    refine own_in X313 hx hby d38_10 (teq (rfl : (0 : Int32) = (0 : Int32))).2 ?_
    refine own_k X313 hx hby d38_13 ?_
    refine own_go (pc := 14) X313 hx hby d38_14 18 ?_
    exact retN X313 hx (t := .boolean) hret (by simp) (hb hby d38_18) hr
  · show own_qp Z (some (.int (1 : Int32))) h0 _ T313.heap _
    rw [e313]
    exact ⟨rfl, N0, rfl⟩
theorem rm320 (l : Launch) (Z : State) (a0 : Array Value) (hw : own_HW Z a0) (ws : List Jvm.Cond) (w_SF : Value) (ii : Int32) (cs : List Int32) (cc yy : Int32) (h0 : Heap) (Z0 : Ext Z.heap h0) (R_w_SF : w_SF.isRef = true) (hc49 : own_at cs ii yy cc) :
    own_met l y_28 jdk_41_method_11_code 3 (some .int) ws ({ frames := 0, cells := 0, slots := 0, locals := 0 } : Room) Z #[(.int ii), (.int (Int32.ofNat cs.length)), w_SF] h0 (own_qp Z (some (.int ii)) h0) := by
  refine own_start (plainFor_of_name pn_6) (fun m => ef_jdk_41_method_11_IIX m ii (Int32.ofNat cs.length) w_SF R_w_SF) ?_
  intro p e s m below meth c s₁ hx hby hml hown hnm X0 hZ e0 hret hlk
  have N0 := Fr.nil Z.heap.size
  obtain ⟨_, hr, hrun, hended, hW, hsame⟩ := X0.leave (v := some (.int ii)) (fun h => by rw [hret] at h; cases h) hlk
  refine ⟨_, _, ?_, hrun, hended, _, _, rfl, ?_, ⟨_, rfl⟩, hW, hsame.mono (by decide) (by decide)⟩
  · show own_S p e below s₁ (mkF m 0 #[iv ii, iv (Int32.ofNat cs.length), .val w_SF] []) _
    refine own_iN X0 hx hby d41_0 ?_
    refine own_in X0 hx hby d41_1 (flt hc49.1).1 ?_
    refine own_iN X0 hx hby d41_4 ?_
    refine own_iN X0 hx hby d41_5 ?_
    refine own_cy (pc := 6) X0 hx hby d41_6 (tlt hc49.2.1).1 16 ?_
    refine own_iN X0 hx hby d41_16 ?_
    exact retI X0 hx hret (hb hby d41_17) hr
  · show own_qp Z (some (.int ii)) h0 _ s₁.heap _
    rw [e0]
    exact ⟨rfl, N0, rfl⟩
theorem rm318 (l : Launch) (Z : State) (a0 : Array Value) (hw : own_HW Z a0) (ws : List Jvm.Cond) (w_SF : Value) (ii : Int32) (cs : List Int32) (cc yy : Int32) (h0 : Heap) (Z0 : Ext Z.heap h0) (S_w_SF : own_w_SF Z w_SF) (R_w_SF : w_SF.isRef = true) (hc49 : own_at cs ii yy cc) :
    own_met l y_29 jdk_42_method_155_code 2 none ws ({ frames := 1, cells := 0, slots := 0, locals := 14 } : Room) Z #[(.int ii), (.int (Int32.ofNat cs.length))] h0 (own_qp Z none h0) := by
  refine own_start (plainFor_of_name pn_5) (fun m => ef_jdk_42_method_155_II m ii (Int32.ofNat cs.length)) ?_
  intro p e s m below meth c s₁ hx hby hml hown hnm X0 hZ e0 hret hlk
  have N0 := Fr.nil Z.heap.size
  obtain ⟨T319, X319, e319, st319⟩ := getS2 X0 hx hZ hown (host := "") (Or.inl (own_w hw 210 rfl)) Via.refl e0 (S_w_SF.ext Z0) (g := (mkF m 2 #[iv ii, iv (Int32.ofNat cs.length)] [(.int (Int32.ofNat cs.length)), (.int ii)])) rfl (hb hby d40_2)
  obtain ⟨_, T321, Lc321, X321, hQ321, st321⟩ := own_static (y := y_28) X319 hx hZ hown (own_w hw 212 rfl) (own_w hw 213 rfl) (own_w hw 211 rfl) (own_w hw 214 rfl) (rm320 l Z a0 hw [] w_SF ii cs cc yy h0 Z0 R_w_SF hc49) e319 (g := (mkF m 5 #[iv ii, iv (Int32.ofNat cs.length)] [w_SF, (.int (Int32.ofNat cs.length)), (.int ii)])) (argsL := [(.int ii), (.int (Int32.ofNat cs.length)), w_SF]) (rest := []) (W := 0) (lenOf pd_19 rfl) (hb hby d40_5) hml
  obtain ⟨rfl, N321q, e321⟩ := hQ321
  have N321 := Fr.app N0 N321q
  obtain ⟨_, hr, hrun, hended, hW, hsame⟩ := X321.leave (v := none) (fun _ => rfl) hlk
  refine ⟨_, _, ?_, hrun, hended, _, _, rfl, ?_, ⟨_, rfl⟩, hW, hsame.mono (by decide) (by decide)⟩
  · show own_S p e below s₁ (mkF m 0 #[iv ii, iv (Int32.ofNat cs.length)] []) _
    refine own_iN X0 hx hby d40_0 ?_
    refine own_iN X0 hx hby d40_1 ?_
    refine st319 _ ?_
    refine st321 _ ?_
    refine XS.pop X321.here hx rfl (hb hby d40_8) rfl rfl ?_
    exact X321.returnOut hx hret (hb hby d40_9) hr
  · show own_qp Z none h0 _ T321.heap _
    rw [e321]
    exact ⟨rfl, N321, rfl⟩
theorem rm316 (l : Launch) (Z : State) (a0 : Array Value) (hw : own_HW Z a0) (ws : List Jvm.Cond) (w_SF : Value) (ii : Int32) (cs : List Int32) (be : Addr) (ke : ClassId) (cc yy : Int32) (h0 : Heap) (Z0 : Ext Z.heap h0) (S_w_SF : own_w_SF Z w_SF) (R_w_SF : w_SF.isRef = true) (V_be : Arv Z h0 be ke .byte (Int32.ofNat cs.length) (own_ch cs) (.int (0 : Int32))) (hc49 : own_at cs ii yy cc) :
    own_met l y_30 jdk_43_method_2_code 2 (some .char) ws ({ frames := 2, cells := 0, slots := 0, locals := 27 } : Room) Z #[(.ref be), (.int ii)] h0 (own_qp Z (some (.int cc)) h0) := by
  refine own_start (plainFor_of_name pn_7) (fun m => ef_jdk_43_method_2_RI m be ii) ?_
  intro p e s m below meth c s₁ hx hby hml hown hnm X0 hZ e0 hret hlk
  have N0 := Fr.nil Z.heap.size
  obtain ⟨cl317, Ar317, q317, S317, Nn317, H317, G317⟩ := id V_be
  obtain ⟨_, T322, Lc322, X322, hQ322, st322⟩ := own_static (y := y_29) X0 hx hZ hown (own_w hw 207 rfl) (own_w hw 208 rfl) (own_w hw 6 rfl) (own_w hw 209 rfl) (rm318 l Z a0 hw [] w_SF ii cs cc yy h0 Z0 S_w_SF R_w_SF hc49) e0 (g := (mkF m 3 #[rv be, iv ii] [(.int (Int32.ofNat cs.length)), (.int ii)])) (argsL := [(.int ii), (.int (Int32.ofNat cs.length))]) (rest := []) (W := 0) (lenOf pd_15 rfl) (hb hby d39_3) hml
  obtain ⟨rfl, N322q, e322⟩ := hQ322
  have N322 := Fr.app N0 N322q
  obtain ⟨cl323, Ar323, q323, S323, Nn323, H323, G323⟩ := id V_be
  have hin323 : ¬ (ii < 0 ∨ cl323.slots.size ≤ (ii).toNatClampNeg) := inb_of S323 (own_g_ib hc49)
  have hat323 : cl323.slots[(ii).toNatClampNeg]? = some (.int yy) := Has.at H323 hin323 (own_g_get hc49)
  obtain ⟨_, hr, hrun, hended, hW, hsame⟩ := X322.leave (v := some (.int cc)) (fun h => by rw [hret] at h; cases h) hlk
  refine ⟨_, _, ?_, hrun, hended, _, _, rfl, ?_, ⟨_, rfl⟩, hW, hsame.mono (by decide) (by decide)⟩
  · show own_S p e below s₁ (mkF m 0 #[rv be, iv ii] []) _
    refine own_iN X0 hx hby d39_0 ?_
    refine own_aN X0 hx hby d39_1 ?_
    refine X0.arraylength hx (by rw [e0]; exact Ar317.1) (State.isArrayOf_alike hZ.alike Ar317.2.1) (g := (mkF m 2 #[rv be, iv ii] [(.ref be), (.int ii)])) rfl rfl (hb hby d39_2) _ ?_
    rw [len_of S317 Nn317]
    refine st322 _ ?_
    refine own_aN X322 hx hby d39_6 ?_
    refine own_iN X322 hx hby d39_7 ?_
    refine X322.baloadBytes hx (j := ii) (v := (.int yy)) (by rw [e322]; exact Ar323.1) (State.isArrayOf_alike hZ.alike Ar323.2.1) Ar323.2.2 hin323 hat323 (g := (mkF m 8 #[rv be, iv ii] [(.int ii), (.ref be)])) rfl rfl (hb hby d39_8) _ ?_
    refine XS.sipush X322.here hx rfl (hb hby d39_9) ?_
    refine XS.iand X322.here hx rfl (hb hby d39_12) rfl ?_
    show own_S p e below T322 (mkF m 13 #[rv be, iv ii] [(.int (yy &&& (255 : Int32)))]) _
    rw [hc49.2.2.2.2]
    refine XS.i2c X322.here hx rfl (hb hby d39_13) rfl ?_
    show own_S p e below T322 (mkF m 14 #[rv be, iv ii] [(.int (cc.toUInt32.toUInt16.toUInt32.toInt32))]) _
    rw [(own_g_i2c hc49)]
    rw [← (own_g_nar hc49)] at hr
    exact retN X322 hx (t := .char) hret (by simp) (hb hby d39_14) hr
  · show own_qp Z (some (.int cc)) h0 _ T322.heap _
    rw [e322]
    exact ⟨rfl, N322, rfl⟩
theorem rm310 (l : Launch) (Z : State) (a0 : Array Value) (hw : own_HW Z a0) (ws : List Jvm.Cond) (w_CS : Int32) (w_SF : Value) (ii : Int32) (cs : List Int32) (bs be : Addr) (ke : ClassId) (cc yy : Int32) (h0 : Heap) (Z0 : Ext Z.heap h0) (S_w_CS : own_w_CS Z w_CS) (S_w_SF : own_w_SF Z w_SF) (R_w_SF : w_SF.isRef = true) (E_bs : Exa Z h0 bs own_cS) (F_bs_coder : Fld Z h0 bs own_cS "coder" "B" (.int (0 : Int32))) (F_bs_value : Fld Z h0 bs own_cS "value" "[B" (.ref be)) (V_be : Arv Z h0 be ke .byte (Int32.ofNat cs.length) (own_ch cs) (.int (0 : Int32))) (hc1 : ¬ (w_CS = (0 : Int32))) (hc49 : own_at cs ii yy cc) :
    own_met l y_31 jdk_42_method_56_code 2 (some .char) ws ({ frames := 3, cells := 0, slots := 0, locals := 40 } : Room) Z #[(.ref bs), (.int ii)] h0 (own_qp Z (some (.int cc)) h0) := by
  refine own_start (plainFor_of_name pn_5) (fun m => ef_jdk_42_method_56_RI m bs ii) ?_
  intro p e s m below meth c s₁ hx hby hml hown hnm X0 hZ e0 hret hlk
  have N0 := Fr.nil Z.heap.size
  obtain ⟨_, T314, Lc314, X314, hQ314, st314⟩ := own_virtual (y := y_27) X0 hx hZ hown (own_w hw 198 rfl) (own_w hw 199 rfl) (own_w hw 201 rfl) (own_w hw 200 rfl) (own_w hw 6 rfl) (own_w hw 202 rfl) (rm311 l Z a0 hw [] w_CS bs h0 Z0 S_w_CS F_bs_coder hc1) e0 E_bs (g := (mkF m 1 #[rv bs, iv ii] [(.ref bs)])) (argsL := []) (rest := []) (W := 0) (lenOf pd_5 rfl) (hb hby d37_1) hml
  obtain ⟨rfl, N314q, e314⟩ := hQ314
  have N314 := Fr.app N0 N314q
  obtain ⟨T315, X315, e315, st315⟩ := getF X314 hx hZ hown (host := "") (Or.inl (own_w hw 32 rfl)) Via.refl e314 F_bs_value (g := (mkF m 8 #[rv bs, iv ii] [(.ref bs)])) rfl rfl (hb hby d37_8)
  obtain ⟨_, T324, Lc324, X324, hQ324, st324⟩ := own_static (y := y_30) X315 hx hZ hown (own_w hw 203 rfl) (own_w hw 204 rfl) (own_w hw 205 rfl) (own_w hw 206 rfl) (rm316 l Z a0 hw [] w_SF ii cs be ke cc yy h0 Z0 S_w_SF R_w_SF V_be hc49) e315 (g := (mkF m 12 #[rv bs, iv ii] [(.int ii), (.ref be)])) (argsL := [(.ref be), (.int ii)]) (rest := []) (W := 0) (lenOf pd_20 rfl) (hb hby d37_12) hml
  obtain ⟨rfl, N324q, e324⟩ := hQ324
  have N324 := Fr.app N314 N324q
  obtain ⟨_, hr, hrun, hended, hW, hsame⟩ := X324.leave (v := some (.int cc)) (fun h => by rw [hret] at h; cases h) hlk
  refine ⟨_, _, ?_, hrun, hended, _, _, rfl, ?_, ⟨_, rfl⟩, hW, hsame.mono (by decide) (by decide)⟩
  · show own_S p e below s₁ (mkF m 0 #[rv bs, iv ii] []) _
    refine own_aN X0 hx hby d37_0 ?_
    refine st314 _ ?_
    refine own_in X314 hx hby d37_4 (feq (by decide : ¬ ((1 : Int32) = (0 : Int32)))).1 ?_
    refine own_aN X314 hx hby d37_7 ?_
    refine st315 _ ?_
    refine own_iN X315 hx hby d37_11 ?_
    refine st324 _ ?_
    rw [← (own_g_nar hc49)] at hr
    exact retN X324 hx (t := .char) hret (by simp) (hb hby d37_15) hr
  · show own_qp Z (some (.int cc)) h0 _ T324.heap _
    rw [e324]
    exact ⟨rfl, N324, rfl⟩
theorem rm345 (l : Launch) (Z : State) (a0 : Array Value) (hw : own_HW Z a0) (ws : List Jvm.Cond) (w_CS : Int32) (bs : Addr) (od : Nat) (bt bu : Addr) (kt : ClassId) (ts : List Int32) (h0 : Heap) (Z0 : Ext Z.heap h0) (S_w_CS : own_w_CS Z w_CS) (E_bt : Exa Z h0 bt own_cS) (F_bt_coder : Fld Z h0 bt own_cS "coder" "B" (.int (0 : Int32))) (F_bt_value : Fld Z h0 bt own_cS "value" "[B" (.ref bu)) (V_bu : Arv Z h0 bu kt .byte (Int32.ofNat ts.length) (own_ch ts) (.int (0 : Int32))) (hc1 : ¬ (w_CS = (0 : Int32))) (hc50 : ts.length = 0) :
    own_met l y_32 method_4_code 4 (some .boolean) ws ({ frames := 4, cells := 0, slots := 0, locals := 54 } : Room) Z #[(.ref bs), (.int (Int32.ofNat od)), (.ref bt)] h0 (own_qp Z (some (.int (1 : Int32))) h0) := by
  refine own_start (plainFor_of_name pn_8) (fun m => ef_method_4_RIR m bs (Int32.ofNat od) bt) ?_
  intro p e s m below meth c s₁ hx hby hml hown hnm X0 hZ e0 hret hlk
  have N0 := Fr.nil Z.heap.size
  obtain ⟨_, T346, Lc346, X346, hQ346, st346⟩ := own_virtual (y := y_12) X0 hx hZ hown (own_w hw 189 rfl) (own_w hw 84 rfl) (own_w hw 86 rfl) (own_w hw 85 rfl) (own_w hw 6 rfl) (own_w hw 87 rfl) (rm306 l Z a0 hw [] w_CS ts bt bu kt h0 Z0 S_w_CS E_bt F_bt_coder F_bt_value V_bu hc1) e0 E_bt (g := (mkF m 1 #[rv bs, iv (Int32.ofNat od), rv bt, .unset] [(.ref bt)])) (argsL := []) (rest := []) (W := 0) (lenOf pd_9 rfl) (hb hby d36_1) hml
  obtain ⟨rfl, N346q, e346⟩ := hQ346
  have N346 := Fr.app N0 N346q
  obtain ⟨_, hr, hrun, hended, hW, hsame⟩ := X346.leave (v := some (.int (1 : Int32))) (fun h => by rw [hret] at h; cases h) hlk
  refine ⟨_, _, ?_, hrun, hended, _, _, rfl, ?_, ⟨_, rfl⟩, hW, hsame.mono (by decide) (by decide)⟩
  · show own_S p e below s₁ (mkF m 0 #[rv bs, iv (Int32.ofNat od), rv bt, .unset] []) _
    refine own_aN X0 hx hby d36_0 ?_
    refine st346 _ ?_
    refine XS.istoreN X346.here hx rfl (hb hby d36_4) rfl (l' := #[rv bs, iv (Int32.ofNat od), rv bt, iv (Int32.ofNat ts.length)]) rfl ?_
    refine own_iN X346 hx hby d36_5 ?_
    refine own_k X346 hx hby d36_6 ?_
    refine own_cy (pc := 7) X346 hx hby d36_7 (tlt (own_tl_y hc50 (by decide))).1 23 ?_
    refine own_iN X346 hx hby d36_23 ?_
    refine own_k X346 hx hby d36_24 ?_
    refine own_cy (pc := 25) X346 hx hby d36_25 (tlt (own_tl_y hc50 (by decide))).1 43 ?_
    refine own_iN X346 hx hby d36_43 ?_
    refine own_k X346 hx hby d36_44 ?_
    refine own_cy (pc := 45) X346 hx hby d36_45 (tlt (own_tl_y hc50 (by decide))).1 63 ?_
    refine own_k X346 hx hby d36_63 ?_
    refine own_go (pc := 64) X346 hx hby d36_64 68 ?_
    exact retN X346 hx (t := .boolean) hret (by simp) (hb hby d36_68) hr
  · show own_qp Z (some (.int (1 : Int32))) h0 _ T346.heap _
    rw [e346]
    exact ⟨rfl, N346, rfl⟩
theorem rm347 (l : Launch) (Z : State) (a0 : Array Value) (hw : own_HW Z a0) (ws : List Jvm.Cond) (w_CS : Int32) (w_SF : Value) (cs : List Int32) (bs be : Addr) (ke : ClassId) (od : Nat) (bt bu : Addr) (kt : ClassId) (ts : List Int32) (cy0 cz0 : Int32) (h0 : Heap) (Z0 : Ext Z.heap h0) (S_w_CS : own_w_CS Z w_CS) (S_w_SF : own_w_SF Z w_SF) (R_w_SF : w_SF.isRef = true) (E_bs : Exa Z h0 bs own_cS) (F_bs_coder : Fld Z h0 bs own_cS "coder" "B" (.int (0 : Int32))) (F_bs_value : Fld Z h0 bs own_cS "value" "[B" (.ref be)) (V_be : Arv Z h0 be ke .byte (Int32.ofNat cs.length) (own_ch cs) (.int (0 : Int32))) (E_bt : Exa Z h0 bt own_cS) (F_bt_coder : Fld Z h0 bt own_cS "coder" "B" (.int (0 : Int32))) (F_bt_value : Fld Z h0 bt own_cS "value" "[B" (.ref bu)) (V_bu : Arv Z h0 bu kt .byte (Int32.ofNat ts.length) (own_ch ts) (.int (0 : Int32))) (hc1 : ¬ (w_CS = (0 : Int32))) (hc51 : ts.length = 1) (hc52 : own_at cs (Int32.ofNat od) cy0 cz0) (hc53 : own_at ts (0 : Int32) cy0 cz0) :
    own_met l y_32 method_4_code 4 (some .boolean) ws ({ frames := 4, cells := 0, slots := 0, locals := 54 } : Room) Z #[(.ref bs), (.int (Int32.ofNat od)), (.ref bt)] h0 (own_qp Z (some (.int (1 : Int32))) h0) := by
  refine own_start (plainFor_of_name pn_8) (fun m => ef_method_4_RIR m bs (Int32.ofNat od) bt) ?_
  intro p e s m below meth c s₁ hx hby hml hown hnm X0 hZ e0 hret hlk
  have N0 := Fr.nil Z.heap.size
  obtain ⟨_, T348, Lc348, X348, hQ348, st348⟩ := own_virtual (y := y_12) X0 hx hZ hown (own_w hw 189 rfl) (own_w hw 84 rfl) (own_w hw 86 rfl) (own_w hw 85 rfl) (own_w hw 6 rfl) (own_w hw 87 rfl) (rm306 l Z a0 hw [] w_CS ts bt bu kt h0 Z0 S_w_CS E_bt F_bt_coder F_bt_value V_bu hc1) e0 E_bt (g := (mkF m 1 #[rv bs, iv (Int32.ofNat od), rv bt, .unset] [(.ref bt)])) (argsL := []) (rest := []) (W := 0) (lenOf pd_9 rfl) (hb hby d36_1) hml
  obtain ⟨rfl, N348q, e348⟩ := hQ348
  have N348 := Fr.app N0 N348q
  obtain ⟨_, T349, Lc349, X349, hQ349, st349⟩ := own_virtual (y := y_31) X348 hx hZ hown (own_w hw 193 rfl) (own_w hw 194 rfl) (own_w hw 196 rfl) (own_w hw 195 rfl) (own_w hw 6 rfl) (own_w hw 197 rfl) (rm310 l Z a0 hw [] w_CS w_SF (Int32.ofNat od) cs bs be ke cz0 cy0 h0 Z0 S_w_CS S_w_SF R_w_SF E_bs F_bs_coder F_bs_value V_be hc1 hc52) e348 E_bs (g := (mkF m 12 #[rv bs, iv (Int32.ofNat od), rv bt, iv (Int32.ofNat ts.length)] [(.int (Int32.ofNat od)), (.ref bs)])) (argsL := [(.int (Int32.ofNat od))]) (rest := []) (W := 0) (lenOf pd_21 rfl) (hb hby d36_12) hml
  obtain ⟨rfl, N349q, e349⟩ := hQ349
  have N349 := Fr.app N348 N349q
  obtain ⟨_, T350, Lc350, X350, hQ350, st350⟩ := own_virtual (y := y_31) X349 hx hZ hown (own_w hw 193 rfl) (own_w hw 194 rfl) (own_w hw 196 rfl) (own_w hw 195 rfl) (own_w hw 6 rfl) (own_w hw 197 rfl) (rm310 l Z a0 hw [] w_CS w_SF (0 : Int32) ts bt bu kt cz0 cy0 h0 Z0 S_w_CS S_w_SF R_w_SF E_bt F_bt_coder F_bt_value V_bu hc1 hc53) e349 E_bt (g := (mkF m 17 #[rv bs, iv (Int32.ofNat od), rv bt, iv (Int32.ofNat ts.length)] [(.int (0 : Int32)), (.ref bt), (.int cz0)])) (argsL := [(.int (0 : Int32))]) (rest := [(.int cz0)]) (W := 1) (lenOf pd_21 rfl) (hb hby d36_17) hml
  obtain ⟨rfl, N350q, e350⟩ := hQ350
  have N350 := Fr.app N349 N350q
  obtain ⟨_, hr, hrun, hended, hW, hsame⟩ := X350.leave (v := some (.int (1 : Int32))) (fun h => by rw [hret] at h; cases h) hlk
  refine ⟨_, _, ?_, hrun, hended, _, _, rfl, ?_, ⟨_, rfl⟩, hW, hsame.mono (by decide) (by decide)⟩
  · show own_S p e below s₁ (mkF m 0 #[rv bs, iv (Int32.ofNat od), rv bt, .unset] []) _
    refine own_aN X0 hx hby d36_0 ?_
    refine st348 _ ?_
    refine XS.istoreN X348.here hx rfl (hb hby d36_4) rfl (l' := #[rv bs, iv (Int32.ofNat od), rv bt, iv (Int32.ofNat ts.length)]) rfl ?_
    refine own_iN X348 hx hby d36_5 ?_
    refine own_k X348 hx hby d36_6 ?_
    refine own_cn X348 hx hby d36_7 (flt (own_tl_n hc51 (by decide))).1 ?_
    refine own_aN X348 hx hby d36_10 ?_
    refine own_iN X348 hx hby d36_11 ?_
    refine st349 _ ?_
    refine own_aN X349 hx hby d36_15 ?_
    refine own_k X349 hx hby d36_16 ?_
    refine st350 _ ?_
    refine own_cn X350 hx hby d36_20 (teq (rfl : cz0 = cz0)).2 ?_
    refine own_iN X350 hx hby d36_23 ?_
    refine own_k X350 hx hby d36_24 ?_
    refine own_cy (pc := 25) X350 hx hby d36_25 (tlt (own_tl_y hc51 (by decide))).1 43 ?_
    refine own_iN X350 hx hby d36_43 ?_
    refine own_k X350 hx hby d36_44 ?_
    refine own_cy (pc := 45) X350 hx hby d36_45 (tlt (own_tl_y hc51 (by decide))).1 63 ?_
    refine own_k X350 hx hby d36_63 ?_
    refine own_go (pc := 64) X350 hx hby d36_64 68 ?_
    exact retN X350 hx (t := .boolean) hret (by simp) (hb hby d36_68) hr
  · show own_qp Z (some (.int (1 : Int32))) h0 _ T350.heap _
    rw [e350]
    exact ⟨rfl, N350, rfl⟩
theorem rm351 (l : Launch) (Z : State) (a0 : Array Value) (hw : own_HW Z a0) (ws : List Jvm.Cond) (w_CS : Int32) (w_SF : Value) (cs : List Int32) (bs be : Addr) (ke : ClassId) (od : Nat) (bt bu : Addr) (kt : ClassId) (ts : List Int32) (cy0 cy1 cz0 cz1 : Int32) (h0 : Heap) (Z0 : Ext Z.heap h0) (S_w_CS : own_w_CS Z w_CS) (S_w_SF : own_w_SF Z w_SF) (R_w_SF : w_SF.isRef = true) (E_bs : Exa Z h0 bs own_cS) (F_bs_coder : Fld Z h0 bs own_cS "coder" "B" (.int (0 : Int32))) (F_bs_value : Fld Z h0 bs own_cS "value" "[B" (.ref be)) (V_be : Arv Z h0 be ke .byte (Int32.ofNat cs.length) (own_ch cs) (.int (0 : Int32))) (E_bt : Exa Z h0 bt own_cS) (F_bt_coder : Fld Z h0 bt own_cS "coder" "B" (.int (0 : Int32))) (F_bt_value : Fld Z h0 bt own_cS "value" "[B" (.ref bu)) (V_bu : Arv Z h0 bu kt .byte (Int32.ofNat ts.length) (own_ch ts) (.int (0 : Int32))) (hc1 : ¬ (w_CS = (0 : Int32))) (hc54 : ts.length = 2) (hc52 : own_at cs (Int32.ofNat od) cy0 cz0) (hc53 : own_at ts (0 : Int32) cy0 cz0) (hc55 : own_at cs (Int32.ofNat (od + 1)) cy1 cz1) (hc56 : own_at ts (1 : Int32) cy1 cz1) :
    own_met l y_32 method_4_code 4 (some .boolean) ws ({ frames := 4, cells := 0, slots := 0, locals := 54 } : Room) Z #[(.ref bs), (.int (Int32.ofNat od)), (.ref bt)] h0 (own_qp Z (some (.int (1 : Int32))) h0) := by
  refine own_start (plainFor_of_name pn_8) (fun m => ef_method_4_RIR m bs (Int32.ofNat od) bt) ?_
  intro p e s m below meth c s₁ hx hby hml hown hnm X0 hZ e0 hret hlk
  have N0 := Fr.nil Z.heap.size
  obtain ⟨_, T352, Lc352, X352, hQ352, st352⟩ := own_virtual (y := y_12) X0 hx hZ hown (own_w hw 189 rfl) (own_w hw 84 rfl) (own_w hw 86 rfl) (own_w hw 85 rfl) (own_w hw 6 rfl) (own_w hw 87 rfl) (rm306 l Z a0 hw [] w_CS ts bt bu kt h0 Z0 S_w_CS E_bt F_bt_coder F_bt_value V_bu hc1) e0 E_bt (g := (mkF m 1 #[rv bs, iv (Int32.ofNat od), rv bt, .unset] [(.ref bt)])) (argsL := []) (rest := []) (W := 0) (lenOf pd_9 rfl) (hb hby d36_1) hml
  obtain ⟨rfl, N352q, e352⟩ := hQ352
  have N352 := Fr.app N0 N352q
  obtain ⟨_, T353, Lc353, X353, hQ353, st353⟩ := own_virtual (y := y_31) X352 hx hZ hown (own_w hw 193 rfl) (own_w hw 194 rfl) (own_w hw 196 rfl) (own_w hw 195 rfl) (own_w hw 6 rfl) (own_w hw 197 rfl) (rm310 l Z a0 hw [] w_CS w_SF (Int32.ofNat od) cs bs be ke cz0 cy0 h0 Z0 S_w_CS S_w_SF R_w_SF E_bs F_bs_coder F_bs_value V_be hc1 hc52) e352 E_bs (g := (mkF m 12 #[rv bs, iv (Int32.ofNat od), rv bt, iv (Int32.ofNat ts.length)] [(.int (Int32.ofNat od)), (.ref bs)])) (argsL := [(.int (Int32.ofNat od))]) (rest := []) (W := 0) (lenOf pd_21 rfl) (hb hby d36_12) hml
  obtain ⟨rfl, N353q, e353⟩ := hQ353
  have N353 := Fr.app N352 N353q
  obtain ⟨_, T354, Lc354, X354, hQ354, st354⟩ := own_virtual (y := y_31) X353 hx hZ hown (own_w hw 193 rfl) (own_w hw 194 rfl) (own_w hw 196 rfl) (own_w hw 195 rfl) (own_w hw 6 rfl) (own_w hw 197 rfl) (rm310 l Z a0 hw [] w_CS w_SF (0 : Int32) ts bt bu kt cz0 cy0 h0 Z0 S_w_CS S_w_SF R_w_SF E_bt F_bt_coder F_bt_value V_bu hc1 hc53) e353 E_bt (g := (mkF m 17 #[rv bs, iv (Int32.ofNat od), rv bt, iv (Int32.ofNat ts.length)] [(.int (0 : Int32)), (.ref bt), (.int cz0)])) (argsL := [(.int (0 : Int32))]) (rest := [(.int cz0)]) (W := 1) (lenOf pd_21 rfl) (hb hby d36_17) hml
  obtain ⟨rfl, N354q, e354⟩ := hQ354
  have N354 := Fr.app N353 N354q
  obtain ⟨_, T355, Lc355, X355, hQ355, st355⟩ := own_virtual (y := y_31) X354 hx hZ hown (own_w hw 193 rfl) (own_w hw 194 rfl) (own_w hw 196 rfl) (own_w hw 195 rfl) (own_w hw 6 rfl) (own_w hw 197 rfl) (rm310 l Z a0 hw [] w_CS w_SF (Int32.ofNat (od + 1)) cs bs be ke cz1 cy1 h0 Z0 S_w_CS S_w_SF R_w_SF E_bs F_bs_coder F_bs_value V_be hc1 hc55) e354 E_bs (g := (mkF m 32 #[rv bs, iv (Int32.ofNat od), rv bt, iv (Int32.ofNat ts.length)] [(.int (Int32.ofNat (od + 1))), (.ref bs)])) (argsL := [(.int (Int32.ofNat (od + 1)))]) (rest := []) (W := 0) (lenOf pd_21 rfl) (hb hby d36_32) hml
  obtain ⟨rfl, N355q, e355⟩ := hQ355
  have N355 := Fr.app N354 N355q
  obtain ⟨_, T356, Lc356, X356, hQ356, st356⟩ := own_virtual (y := y_31) X355 hx hZ hown (own_w hw 193 rfl) (own_w hw 194 rfl) (own_w hw 196 rfl) (own_w hw 195 rfl) (own_w hw 6 rfl) (own_w hw 197 rfl) (rm310 l Z a0 hw [] w_CS w_SF (1 : Int32) ts bt bu kt cz1 cy1 h0 Z0 S_w_CS S_w_SF R_w_SF E_bt F_bt_coder F_bt_value V_bu hc1 hc56) e355 E_bt (g := (mkF m 37 #[rv bs, iv (Int32.ofNat od), rv bt, iv (Int32.ofNat ts.length)] [(.int (1 : Int32)), (.ref bt), (.int cz1)])) (argsL := [(.int (1 : Int32))]) (rest := [(.int cz1)]) (W := 1) (lenOf pd_21 rfl) (hb hby d36_37) hml
  obtain ⟨rfl, N356q, e356⟩ := hQ356
  have N356 := Fr.app N355 N356q
  obtain ⟨_, hr, hrun, hended, hW, hsame⟩ := X356.leave (v := some (.int (1 : Int32))) (fun h => by rw [hret] at h; cases h) hlk
  refine ⟨_, _, ?_, hrun, hended, _, _, rfl, ?_, ⟨_, rfl⟩, hW, hsame.mono (by decide) (by decide)⟩
  · show own_S p e below s₁ (mkF m 0 #[rv bs, iv (Int32.ofNat od), rv bt, .unset] []) _
    refine own_aN X0 hx hby d36_0 ?_
    refine st352 _ ?_
    refine XS.istoreN X352.here hx rfl (hb hby d36_4) rfl (l' := #[rv bs, iv (Int32.ofNat od), rv bt, iv (Int32.ofNat ts.length)]) rfl ?_
    refine own_iN X352 hx hby d36_5 ?_
    refine own_k X352 hx hby d36_6 ?_
    refine own_cn X352 hx hby d36_7 (flt (own_tl_n hc54 (by decide))).1 ?_
    refine own_aN X352 hx hby d36_10 ?_
    refine own_iN X352 hx hby d36_11 ?_
    refine st353 _ ?_
    refine own_aN X353 hx hby d36_15 ?_
    refine own_k X353 hx hby d36_16 ?_
    refine st354 _ ?_
    refine own_cn X354 hx hby d36_20 (teq (rfl : cz0 = cz0)).2 ?_
    refine own_iN X354 hx hby d36_23 ?_
    refine own_k X354 hx hby d36_24 ?_
    refine own_cn X354 hx hby d36_25 (flt (own_tl_n hc54 (by decide))).1 ?_
    refine own_aN X354 hx hby d36_28 ?_
    refine own_iN X354 hx hby d36_29 ?_
    refine own_k X354 hx hby d36_30 ?_
    refine XS.iadd X354.here hx rfl (hb hby d36_31) rfl ?_
    show own_S p e below T354 (mkF m 32 #[rv bs, iv (Int32.ofNat od), rv bt, iv (Int32.ofNat ts.length)] [(.int ((Int32.ofNat od) + (1 : Int32))), (.ref bs)]) _
    rw [(own_succ od)]
    refine st355 _ ?_
    refine own_aN X355 hx hby d36_35 ?_
    refine own_k X355 hx hby d36_36 ?_
    refine st356 _ ?_
    refine own_cn X356 hx hby d36_40 (teq (rfl : cz1 = cz1)).2 ?_
    refine own_iN X356 hx hby d36_43 ?_
    refine own_k X356 hx hby d36_44 ?_
    refine own_cy (pc := 45) X356 hx hby d36_45 (tlt (own_tl_y hc54 (by decide))).1 63 ?_
    refine own_k X356 hx hby d36_63 ?_
    refine own_go (pc := 64) X356 hx hby d36_64 68 ?_
    exact retN X356 hx (t := .boolean) hret (by simp) (hb hby d36_68) hr
  · show own_qp Z (some (.int (1 : Int32))) h0 _ T356.heap _
    rw [e356]
    exact ⟨rfl, N356, rfl⟩
theorem rm357 (l : Launch) (Z : State) (a0 : Array Value) (hw : own_HW Z a0) (ws : List Jvm.Cond) (w_CS : Int32) (w_SF : Value) (cs : List Int32) (bs be : Addr) (ke : ClassId) (od : Nat) (bt bu : Addr) (kt : ClassId) (ts : List Int32) (cy0 cy1 cy2 cz0 cz1 cz2 : Int32) (h0 : Heap) (Z0 : Ext Z.heap h0) (S_w_CS : own_w_CS Z w_CS) (S_w_SF : own_w_SF Z w_SF) (R_w_SF : w_SF.isRef = true) (E_bs : Exa Z h0 bs own_cS) (F_bs_coder : Fld Z h0 bs own_cS "coder" "B" (.int (0 : Int32))) (F_bs_value : Fld Z h0 bs own_cS "value" "[B" (.ref be)) (V_be : Arv Z h0 be ke .byte (Int32.ofNat cs.length) (own_ch cs) (.int (0 : Int32))) (E_bt : Exa Z h0 bt own_cS) (F_bt_coder : Fld Z h0 bt own_cS "coder" "B" (.int (0 : Int32))) (F_bt_value : Fld Z h0 bt own_cS "value" "[B" (.ref bu)) (V_bu : Arv Z h0 bu kt .byte (Int32.ofNat ts.length) (own_ch ts) (.int (0 : Int32))) (hc1 : ¬ (w_CS = (0 : Int32))) (hc57 : ts.length = 3) (hc52 : own_at cs (Int32.ofNat od) cy0 cz0) (hc53 : own_at ts (0 : Int32) cy0 cz0) (hc55 : own_at cs (Int32.ofNat (od + 1)) cy1 cz1) (hc56 : own_at ts (1 : Int32) cy1 cz1) (hc58 : own_at cs (Int32.ofNat (od + 2)) cy2 cz2) (hc59 : own_at ts (2 : Int32) cy2 cz2) :
    own_met l y_32 method_4_code 4 (some .boolean) ws ({ frames := 4, cells := 0, slots := 0, locals := 54 } : Room) Z #[(.ref bs), (.int (Int32.ofNat od)), (.ref bt)] h0 (own_qp Z (some (.int (1 : Int32))) h0) := by
  refine own_start (plainFor_of_name pn_8) (fun m => ef_method_4_RIR m bs (Int32.ofNat od) bt) ?_
  intro p e s m below meth c s₁ hx hby hml hown hnm X0 hZ e0 hret hlk
  have N0 := Fr.nil Z.heap.size
  obtain ⟨_, T358, Lc358, X358, hQ358, st358⟩ := own_virtual (y := y_12) X0 hx hZ hown (own_w hw 189 rfl) (own_w hw 84 rfl) (own_w hw 86 rfl) (own_w hw 85 rfl) (own_w hw 6 rfl) (own_w hw 87 rfl) (rm306 l Z a0 hw [] w_CS ts bt bu kt h0 Z0 S_w_CS E_bt F_bt_coder F_bt_value V_bu hc1) e0 E_bt (g := (mkF m 1 #[rv bs, iv (Int32.ofNat od), rv bt, .unset] [(.ref bt)])) (argsL := []) (rest := []) (W := 0) (lenOf pd_9 rfl) (hb hby d36_1) hml
  obtain ⟨rfl, N358q, e358⟩ := hQ358
  have N358 := Fr.app N0 N358q
  obtain ⟨_, T359, Lc359, X359, hQ359, st359⟩ := own_virtual (y := y_31) X358 hx hZ hown (own_w hw 193 rfl) (own_w hw 194 rfl) (own_w hw 196 rfl) (own_w hw 195 rfl) (own_w hw 6 rfl) (own_w hw 197 rfl) (rm310 l Z a0 hw [] w_CS w_SF (Int32.ofNat od) cs bs be ke cz0 cy0 h0 Z0 S_w_CS S_w_SF R_w_SF E_bs F_bs_coder F_bs_value V_be hc1 hc52) e358 E_bs (g := (mkF m 12 #[rv bs, iv (Int32.ofNat od), rv bt, iv (Int32.ofNat ts.length)] [(.int (Int32.ofNat od)), (.ref bs)])) (argsL := [(.int (Int32.ofNat od))]) (rest := []) (W := 0) (lenOf pd_21 rfl) (hb hby d36_12) hml
  obtain ⟨rfl, N359q, e359⟩ := hQ359
  have N359 := Fr.app N358 N359q
  obtain ⟨_, T360, Lc360, X360, hQ360, st360⟩ := own_virtual (y := y_31) X359 hx hZ hown (own_w hw 193 rfl) (own_w hw 194 rfl) (own_w hw 196 rfl) (own_w hw 195 rfl) (own_w hw 6 rfl) (own_w hw 197 rfl) (rm310 l Z a0 hw [] w_CS w_SF (0 : Int32) ts bt bu kt cz0 cy0 h0 Z0 S_w_CS S_w_SF R_w_SF E_bt F_bt_coder F_bt_value V_bu hc1 hc53) e359 E_bt (g := (mkF m 17 #[rv bs, iv (Int32.ofNat od), rv bt, iv (Int32.ofNat ts.length)] [(.int (0 : Int32)), (.ref bt), (.int cz0)])) (argsL := [(.int (0 : Int32))]) (rest := [(.int cz0)]) (W := 1) (lenOf pd_21 rfl) (hb hby d36_17) hml
  obtain ⟨rfl, N360q, e360⟩ := hQ360
  have N360 := Fr.app N359 N360q
  obtain ⟨_, T361, Lc361, X361, hQ361, st361⟩ := own_virtual (y := y_31) X360 hx hZ hown (own_w hw 193 rfl) (own_w hw 194 rfl) (own_w hw 196 rfl) (own_w hw 195 rfl) (own_w hw 6 rfl) (own_w hw 197 rfl) (rm310 l Z a0 hw [] w_CS w_SF (Int32.ofNat (od + 1)) cs bs be ke cz1 cy1 h0 Z0 S_w_CS S_w_SF R_w_SF E_bs F_bs_coder F_bs_value V_be hc1 hc55) e360 E_bs (g := (mkF m 32 #[rv bs, iv (Int32.ofNat od), rv bt, iv (Int32.ofNat ts.length)] [(.int (Int32.ofNat (od + 1))), (.ref bs)])) (argsL := [(.int (Int32.ofNat (od + 1)))]) (rest := []) (W := 0) (lenOf pd_21 rfl) (hb hby d36_32) hml
  obtain ⟨rfl, N361q, e361⟩ := hQ361
  have N361 := Fr.app N360 N361q
  obtain ⟨_, T362, Lc362, X362, hQ362, st362⟩ := own_virtual (y := y_31) X361 hx hZ hown (own_w hw 193 rfl) (own_w hw 194 rfl) (own_w hw 196 rfl) (own_w hw 195 rfl) (own_w hw 6 rfl) (own_w hw 197 rfl) (rm310 l Z a0 hw [] w_CS w_SF (1 : Int32) ts bt bu kt cz1 cy1 h0 Z0 S_w_CS S_w_SF R_w_SF E_bt F_bt_coder F_bt_value V_bu hc1 hc56) e361 E_bt (g := (mkF m 37 #[rv bs, iv (Int32.ofNat od), rv bt, iv (Int32.ofNat ts.length)] [(.int (1 : Int32)), (.ref bt), (.int cz1)])) (argsL := [(.int (1 : Int32))]) (rest := [(.int cz1)]) (W := 1) (lenOf pd_21 rfl) (hb hby d36_37) hml
  obtain ⟨rfl, N362q, e362⟩ := hQ362
  have N362 := Fr.app N361 N362q
  obtain ⟨_, T363, Lc363, X363, hQ363, st363⟩ := own_virtual (y := y_31) X362 hx hZ hown (own_w hw 193 rfl) (own_w hw 194 rfl) (own_w hw 196 rfl) (own_w hw 195 rfl) (own_w hw 6 rfl) (own_w hw 197 rfl) (rm310 l Z a0 hw [] w_CS w_SF (Int32.ofNat (od + 2)) cs bs be ke cz2 cy2 h0 Z0 S_w_CS S_w_SF R_w_SF E_bs F_bs_coder F_bs_value V_be hc1 hc58) e362 E_bs (g := (mkF m 52 #[rv bs, iv (Int32.ofNat od), rv bt, iv (Int32.ofNat ts.length)] [(.int (Int32.ofNat (od + 2))), (.ref bs)])) (argsL := [(.int (Int32.ofNat (od + 2)))]) (rest := []) (W := 0) (lenOf pd_21 rfl) (hb hby d36_52) hml
  obtain ⟨rfl, N363q, e363⟩ := hQ363
  have N363 := Fr.app N362 N363q
  obtain ⟨_, T364, Lc364, X364, hQ364, st364⟩ := own_virtual (y := y_31) X363 hx hZ hown (own_w hw 193 rfl) (own_w hw 194 rfl) (own_w hw 196 rfl) (own_w hw 195 rfl) (own_w hw 6 rfl) (own_w hw 197 rfl) (rm310 l Z a0 hw [] w_CS w_SF (2 : Int32) ts bt bu kt cz2 cy2 h0 Z0 S_w_CS S_w_SF R_w_SF E_bt F_bt_coder F_bt_value V_bu hc1 hc59) e363 E_bt (g := (mkF m 57 #[rv bs, iv (Int32.ofNat od), rv bt, iv (Int32.ofNat ts.length)] [(.int (2 : Int32)), (.ref bt), (.int cz2)])) (argsL := [(.int (2 : Int32))]) (rest := [(.int cz2)]) (W := 1) (lenOf pd_21 rfl) (hb hby d36_57) hml
  obtain ⟨rfl, N364q, e364⟩ := hQ364
  have N364 := Fr.app N363 N364q
  obtain ⟨_, hr, hrun, hended, hW, hsame⟩ := X364.leave (v := some (.int (1 : Int32))) (fun h => by rw [hret] at h; cases h) hlk
  refine ⟨_, _, ?_, hrun, hended, _, _, rfl, ?_, ⟨_, rfl⟩, hW, hsame.mono (by decide) (by decide)⟩
  · show own_S p e below s₁ (mkF m 0 #[rv bs, iv (Int32.ofNat od), rv bt, .unset] []) _
    refine own_aN X0 hx hby d36_0 ?_
    refine st358 _ ?_
    refine XS.istoreN X358.here hx rfl (hb hby d36_4) rfl (l' := #[rv bs, iv (Int32.ofNat od), rv bt, iv (Int32.ofNat ts.length)]) rfl ?_
    refine own_iN X358 hx hby d36_5 ?_
    refine own_k X358 hx hby d36_6 ?_
    refine own_cn X358 hx hby d36_7 (flt (own_tl_n hc57 (by decide))).1 ?_
    refine own_aN X358 hx hby d36_10 ?_
    refine own_iN X358 hx hby d36_11 ?_
    refine st359 _ ?_
    refine own_aN X359 hx hby d36_15 ?_
    refine own_k X359 hx hby d36_16 ?_
    refine st360 _ ?_
    refine own_cn X360 hx hby d36_20 (teq (rfl : cz0 = cz0)).2 ?_
    refine own_iN X360 hx hby d36_23 ?_
    refine own_k X360 hx hby d36_24 ?_
    refine own_cn X360 hx hby d36_25 (flt (own_tl_n hc57 (by decide))).1 ?_
    refine own_aN X360 hx hby d36_28 ?_
    refine own_iN X360 hx hby d36_29 ?_
    refine own_k X360 hx hby d36_30 ?_
    refine XS.iadd X360.here hx rfl (hb hby d36_31) rfl ?_
    show own_S p e below T360 (mkF m 32 #[rv bs, iv (Int32.ofNat od), rv bt, iv (Int32.ofNat ts.length)] [(.int ((Int32.ofNat od) + (1 : Int32))), (.ref bs)]) _
    rw [(own_succ od)]
    refine st361 _ ?_
    refine own_aN X361 hx hby d36_35 ?_
    refine own_k X361 hx hby d36_36 ?_
    refine st362 _ ?_
    refine own_cn X362 hx hby d36_40 (teq (rfl : cz1 = cz1)).2 ?_
    refine own_iN X362 hx hby d36_43 ?_
    refine own_k X362 hx hby d36_44 ?_
    refine own_cn X362 hx hby d36_45 (flt (own_tl_n hc57 (by decide))).1 ?_
    refine own_aN X362 hx hby d36_48 ?_
    refine own_iN X362 hx hby d36_49 ?_
    refine own_k X362 hx hby d36_50 ?_
    refine XS.iadd X362.here hx rfl (hb hby d36_51) rfl ?_
    show own_S p e below T362 (mkF m 52 #[rv bs, iv (Int32.ofNat od), rv bt, iv (Int32.ofNat ts.length)] [(.int ((Int32.ofNat od) + (2 : Int32))), (.ref bs)]) _
    rw [(own_ad2 od)]
    refine st363 _ ?_
    refine own_aN X363 hx hby d36_55 ?_
    refine own_k X363 hx hby d36_56 ?_
    refine st364 _ ?_
    refine own_cn X364 hx hby d36_60 (teq (rfl : cz2 = cz2)).2 ?_
    refine own_k X364 hx hby d36_63 ?_
    refine own_go (pc := 64) X364 hx hby d36_64 68 ?_
    exact retN X364 hx (t := .boolean) hret (by simp) (hb hby d36_68) hr
  · show own_qp Z (some (.int (1 : Int32))) h0 _ T364.heap _
    rw [e364]
    exact ⟨rfl, N364, rfl⟩
theorem own_sgJ (l : Launch) (Z : State) (a0 : Array Value) (hw : own_HW Z a0) (ws : List Jvm.Cond) (w_CS : Int32) (w_SF : Value) (cs : List Int32) (bs be : Addr) (ke : ClassId) (od : Nat) (bt bu : Addr) (kt : ClassId) (ts : List Int32) (h0 : Heap) (Z0 : Ext Z.heap h0) (S_w_CS : own_w_CS Z w_CS) (R_w_SF : w_SF.isRef = true) (S_w_SF : own_w_SF Z w_SF) (E_bs : Exa Z h0 bs own_cS) (F_bs_coder : Fld Z h0 bs own_cS "coder" "B" (.int (0 : Int32))) (F_bs_value : Fld Z h0 bs own_cS "value" "[B" (.ref be)) (V_be : Arv Z h0 be ke .byte (Int32.ofNat cs.length) (own_ch cs) (.int (0 : Int32))) (E_bt : Exa Z h0 bt own_cS) (F_bt_coder : Fld Z h0 bt own_cS "coder" "B" (.int (0 : Int32))) (F_bt_value : Fld Z h0 bt own_cS "value" "[B" (.ref bu)) (V_bu : Arv Z h0 bu kt .byte (Int32.ofNat ts.length) (own_ch ts) (.int (0 : Int32))) (hc1 : ¬ (w_CS = (0 : Int32))) (hc60 : own_sg cs od ts) :
    own_met l y_32 method_4_code 4 (some .boolean) ws ({ frames := 4, cells := 0, slots := 0, locals := 54 } : Room) Z #[(.ref bs), (.int (Int32.ofNat od)), (.ref bt)] h0 (own_qp Z (some (.int (1 : Int32))) h0) := by
  rcases own_sg_cases hc60 with hl | hl | hl | hl
  · exact own_mono (rm345 l Z a0 hw ws w_CS bs od bt bu kt ts h0 Z0 S_w_CS E_bt F_bt_coder F_bt_value V_bu hc1 hl) fun v h L q => q
  · obtain ⟨cy0, e0, f0⟩ := own_sg_get hc60 (i := 0) (by omega)
    exact own_mono (rm347 l Z a0 hw ws w_CS w_SF cs bs be ke od bt bu kt ts cy0 (cy0 &&& (255 : Int32)) h0 Z0 S_w_CS S_w_SF R_w_SF E_bs F_bs_coder F_bs_value V_be E_bt F_bt_coder F_bt_value V_bu hc1 hl (own_sg_a hc60 (i := 0) e0) (own_sg_b hc60 (i := 0) f0)) fun v h L q => q
  · obtain ⟨cy0, e0, f0⟩ := own_sg_get hc60 (i := 0) (by omega)
    obtain ⟨cy1, e1, f1⟩ := own_sg_get hc60 (i := 1) (by omega)
    exact own_mono (rm351 l Z a0 hw ws w_CS w_SF cs bs be ke od bt bu kt ts cy0 cy1 (cy0 &&& (255 : Int32)) (cy1 &&& (255 : Int32)) h0 Z0 S_w_CS S_w_SF R_w_SF E_bs F_bs_coder F_bs_value V_be E_bt F_bt_coder F_bt_value V_bu hc1 hl (own_sg_a hc60 (i := 0) e0) (own_sg_b hc60 (i := 0) f0) (own_sg_a hc60 (i := 1) e1) (own_sg_b hc60 (i := 1) f1)) fun v h L q => q
  · obtain ⟨cy0, e0, f0⟩ := own_sg_get hc60 (i := 0) (by omega)
    obtain ⟨cy1, e1, f1⟩ := own_sg_get hc60 (i := 1) (by omega)
    obtain ⟨cy2, e2, f2⟩ := own_sg_get hc60 (i := 2) (by omega)
    exact own_mono (rm357 l Z a0 hw ws w_CS w_SF cs bs be ke od bt bu kt ts cy0 cy1 cy2 (cy0 &&& (255 : Int32)) (cy1 &&& (255 : Int32)) (cy2 &&& (255 : Int32)) h0 Z0 S_w_CS S_w_SF R_w_SF E_bs F_bs_coder F_bs_value V_be E_bt F_bt_coder F_bt_value V_bu hc1 hl (own_sg_a hc60 (i := 0) e0) (own_sg_b hc60 (i := 0) f0) (own_sg_a hc60 (i := 1) e1) (own_sg_b hc60 (i := 1) f1) (own_sg_a hc60 (i := 2) e2) (own_sg_b hc60 (i := 2) f2)) fun v h L q => q
theorem rm375 (l : Launch) (Z : State) (a0 : Array Value) (hw : own_HW Z a0) (ws : List Jvm.Cond) (mm : Int64) (h0 : Heap) (Z0 : Ext Z.heap h0) (hc61 : (lcmpW mm (10 : Int64)) < (0 : Int32)) :
    own_met l y_33 method_5_code 2 (some .int) ws ({ frames := 0, cells := 0, slots := 0, locals := 0 } : Room) Z #[(.long mm)] h0 (own_qp Z (some (.int (1 : Int32))) h0) := by
  refine own_start (plainFor_of_name pn_8) (fun m => ef_method_5_J m mm) ?_
  intro p e s m below meth c s₁ hx hby hml hown hnm X0 hZ e0 hret hlk
  have N0 := Fr.nil Z.heap.size
  obtain ⟨_, hr, hrun, hended, hW, hsame⟩ := X0.leave (v := some (.int (1 : Int32))) (fun h => by rw [hret] at h; cases h) hlk
  refine ⟨_, _, ?_, hrun, hended, _, _, rfl, ?_, ⟨_, rfl⟩, hW, hsame.mono (by decide) (by decide)⟩
  · show own_S p e below s₁ (mkF m 0 #[.val (.long mm), .second] []) _
    refine XS.lloadN X0.here hx rfl (hb hby d35_0) rfl ?_
    refine X0.ldc2Long hx hown (mvT hZ (own_w hw 188 rfl)) (g := (mkF m 1 #[.val (.long mm), .second] [(.long mm)])) rfl (hb hby d35_1) _ ?_
    refine XS.lcmp X0.here hx rfl (hb hby d35_4) rfl ?_
    refine own_in X0 hx hby d35_5 (tlt hc61).2.1 ?_
    refine own_k X0 hx hby d35_8 ?_
    exact retI X0 hx hret (hb hby d35_9) hr
  · show own_qp Z (some (.int (1 : Int32))) h0 _ s₁.heap _
    rw [e0]
    exact ⟨rfl, N0, rfl⟩
theorem rm376 (l : Launch) (Z : State) (a0 : Array Value) (hw : own_HW Z a0) (ws : List Jvm.Cond) (mm : Int64) (h0 : Heap) (Z0 : Ext Z.heap h0) (hc62 : ¬ ((lcmpW mm (10 : Int64)) < (0 : Int32))) (hc63 : (lcmpW mm (100 : Int64)) < (0 : Int32)) :
    own_met l y_33 method_5_code 2 (some .int) ws ({ frames := 0, cells := 0, slots := 0, locals := 0 } : Room) Z #[(.long mm)] h0 (own_qp Z (some (.int (2 : Int32))) h0) := by
  refine own_start (plainFor_of_name pn_8) (fun m => ef_method_5_J m mm) ?_
  intro p e s m below meth c s₁ hx hby hml hown hnm X0 hZ e0 hret hlk
  have N0 := Fr.nil Z.heap.size
  obtain ⟨_, hr, hrun, hended, hW, hsame⟩ := X0.leave (v := some (.int (2 : Int32))) (fun h => by rw [hret] at h; cases h) hlk
  refine ⟨_, _, ?_, hrun, hended, _, _, rfl, ?_, ⟨_, rfl⟩, hW, hsame.mono (by decide) (by decide)⟩
  · show own_S p e below s₁ (mkF m 0 #[.val (.long mm), .second] []) _
    refine XS.lloadN X0.here hx rfl (hb hby d35_0) rfl ?_
    refine X0.ldc2Long hx hown (mvT hZ (own_w hw 188 rfl)) (g := (mkF m 1 #[.val (.long mm), .second] [(.long mm)])) rfl (hb hby d35_1) _ ?_
    refine XS.lcmp X0.here hx rfl (hb hby d35_4) rfl ?_
    refine own_iy (pc := 5) X0 hx hby d35_5 (flt hc62).2.1 10 ?_
    refine XS.lloadN X0.here hx rfl (hb hby d35_10) rfl ?_
    refine X0.ldc2Long hx hown (mvT hZ (own_w hw 216 rfl)) (g := (mkF m 11 #[.val (.long mm), .second] [(.long mm)])) rfl (hb hby d35_11) _ ?_
    refine XS.lcmp X0.here hx rfl (hb hby d35_14) rfl ?_
    refine own_in X0 hx hby d35_15 (tlt hc63).2.1 ?_
    refine own_k X0 hx hby d35_18 ?_
    exact retI X0 hx hret (hb hby d35_19) hr
  · show own_qp Z (some (.int (2 : Int32))) h0 _ s₁.heap _
    rw [e0]
    exact ⟨rfl, N0, rfl⟩
theorem rm377 (l : Launch) (Z : State) (a0 : Array Value) (hw : own_HW Z a0) (ws : List Jvm.Cond) (mm : Int64) (h0 : Heap) (Z0 : Ext Z.heap h0) (hc62 : ¬ ((lcmpW mm (10 : Int64)) < (0 : Int32))) (hc64 : ¬ ((lcmpW mm (100 : Int64)) < (0 : Int32))) (hc65 : (lcmpW mm (1000 : Int64)) < (0 : Int32)) :
    own_met l y_33 method_5_code 2 (some .int) ws ({ frames := 0, cells := 0, slots := 0, locals := 0 } : Room) Z #[(.long mm)] h0 (own_qp Z (some (.int (3 : Int32))) h0) := by
  refine own_start (plainFor_of_name pn_8) (fun m => ef_method_5_J m mm) ?_
  intro p e s m below meth c s₁ hx hby hml hown hnm X0 hZ e0 hret hlk
  have N0 := Fr.nil Z.heap.size
  obtain ⟨_, hr, hrun, hended, hW, hsame⟩ := X0.leave (v := some (.int (3 : Int32))) (fun h => by rw [hret] at h; cases h) hlk
  refine ⟨_, _, ?_, hrun, hended, _, _, rfl, ?_, ⟨_, rfl⟩, hW, hsame.mono (by decide) (by decide)⟩
  · show own_S p e below s₁ (mkF m 0 #[.val (.long mm), .second] []) _
    refine XS.lloadN X0.here hx rfl (hb hby d35_0) rfl ?_
    refine X0.ldc2Long hx hown (mvT hZ (own_w hw 188 rfl)) (g := (mkF m 1 #[.val (.long mm), .second] [(.long mm)])) rfl (hb hby d35_1) _ ?_
    refine XS.lcmp X0.here hx rfl (hb hby d35_4) rfl ?_
    refine own_iy (pc := 5) X0 hx hby d35_5 (flt hc62).2.1 10 ?_
    refine XS.lloadN X0.here hx rfl (hb hby d35_10) rfl ?_
    refine X0.ldc2Long hx hown (mvT hZ (own_w hw 216 rfl)) (g := (mkF m 11 #[.val (.long mm), .second] [(.long mm)])) rfl (hb hby d35_11) _ ?_
    refine XS.lcmp X0.here hx rfl (hb hby d35_14) rfl ?_
    refine own_iy (pc := 15) X0 hx hby d35_15 (flt hc64).2.1 20 ?_
    refine XS.lloadN X0.here hx rfl (hb hby d35_20) rfl ?_
    refine X0.ldc2Long hx hown (mvT hZ (own_w hw 217 rfl)) (g := (mkF m 21 #[.val (.long mm), .second] [(.long mm)])) rfl (hb hby d35_21) _ ?_
    refine XS.lcmp X0.here hx rfl (hb hby d35_24) rfl ?_
    refine own_in X0 hx hby d35_25 (tlt hc65).2.1 ?_
    refine own_k X0 hx hby d35_28 ?_
    exact retI X0 hx hret (hb hby d35_29) hr
  · show own_qp Z (some (.int (3 : Int32))) h0 _ s₁.heap _
    rw [e0]
    exact ⟨rfl, N0, rfl⟩
theorem rm378 (l : Launch) (Z : State) (a0 : Array Value) (hw : own_HW Z a0) (ws : List Jvm.Cond) (mm : Int64) (h0 : Heap) (Z0 : Ext Z.heap h0) (hc62 : ¬ ((lcmpW mm (10 : Int64)) < (0 : Int32))) (hc64 : ¬ ((lcmpW mm (100 : Int64)) < (0 : Int32))) (hc66 : ¬ ((lcmpW mm (1000 : Int64)) < (0 : Int32))) (hc67 : (lcmpW mm (10000 : Int64)) < (0 : Int32)) :
    own_met l y_33 method_5_code 2 (some .int) ws ({ frames := 0, cells := 0, slots := 0, locals := 0 } : Room) Z #[(.long mm)] h0 (own_qp Z (some (.int (4 : Int32))) h0) := by
  refine own_start (plainFor_of_name pn_8) (fun m => ef_method_5_J m mm) ?_
  intro p e s m below meth c s₁ hx hby hml hown hnm X0 hZ e0 hret hlk
  have N0 := Fr.nil Z.heap.size
  obtain ⟨_, hr, hrun, hended, hW, hsame⟩ := X0.leave (v := some (.int (4 : Int32))) (fun h => by rw [hret] at h; cases h) hlk
  refine ⟨_, _, ?_, hrun, hended, _, _, rfl, ?_, ⟨_, rfl⟩, hW, hsame.mono (by decide) (by decide)⟩
  · show own_S p e below s₁ (mkF m 0 #[.val (.long mm), .second] []) _
    refine XS.lloadN X0.here hx rfl (hb hby d35_0) rfl ?_
    refine X0.ldc2Long hx hown (mvT hZ (own_w hw 188 rfl)) (g := (mkF m 1 #[.val (.long mm), .second] [(.long mm)])) rfl (hb hby d35_1) _ ?_
    refine XS.lcmp X0.here hx rfl (hb hby d35_4) rfl ?_
    refine own_iy (pc := 5) X0 hx hby d35_5 (flt hc62).2.1 10 ?_
    refine XS.lloadN X0.here hx rfl (hb hby d35_10) rfl ?_
    refine X0.ldc2Long hx hown (mvT hZ (own_w hw 216 rfl)) (g := (mkF m 11 #[.val (.long mm), .second] [(.long mm)])) rfl (hb hby d35_11) _ ?_
    refine XS.lcmp X0.here hx rfl (hb hby d35_14) rfl ?_
    refine own_iy (pc := 15) X0 hx hby d35_15 (flt hc64).2.1 20 ?_
    refine XS.lloadN X0.here hx rfl (hb hby d35_20) rfl ?_
    refine X0.ldc2Long hx hown (mvT hZ (own_w hw 217 rfl)) (g := (mkF m 21 #[.val (.long mm), .second] [(.long mm)])) rfl (hb hby d35_21) _ ?_
    refine XS.lcmp X0.here hx rfl (hb hby d35_24) rfl ?_
    refine own_iy (pc := 25) X0 hx hby d35_25 (flt hc66).2.1 30 ?_
    refine XS.lloadN X0.here hx rfl (hb hby d35_30) rfl ?_
    refine X0.ldc2Long hx hown (mvT hZ (own_w hw 218 rfl)) (g := (mkF m 31 #[.val (.long mm), .second] [(.long mm)])) rfl (hb hby d35_31) _ ?_
    refine XS.lcmp X0.here hx rfl (hb hby d35_34) rfl ?_
    refine own_in X0 hx hby d35_35 (tlt hc67).2.1 ?_
    refine own_k X0 hx hby d35_38 ?_
    exact retI X0 hx hret (hb hby d35_39) hr
  · show own_qp Z (some (.int (4 : Int32))) h0 _ s₁.heap _
    rw [e0]
    exact ⟨rfl, N0, rfl⟩
theorem rm379 (l : Launch) (Z : State) (a0 : Array Value) (hw : own_HW Z a0) (ws : List Jvm.Cond) (mm : Int64) (h0 : Heap) (Z0 : Ext Z.heap h0) (hc62 : ¬ ((lcmpW mm (10 : Int64)) < (0 : Int32))) (hc64 : ¬ ((lcmpW mm (100 : Int64)) < (0 : Int32))) (hc66 : ¬ ((lcmpW mm (1000 : Int64)) < (0 : Int32))) (hc68 : ¬ ((lcmpW mm (10000 : Int64)) < (0 : Int32))) (hc69 : (lcmpW mm (100000 : Int64)) < (0 : Int32)) :
    own_met l y_33 method_5_code 2 (some .int) ws ({ frames := 0, cells := 0, slots := 0, locals := 0 } : Room) Z #[(.long mm)] h0 (own_qp Z (some (.int (5 : Int32))) h0) := by
  refine own_start (plainFor_of_name pn_8) (fun m => ef_method_5_J m mm) ?_
  intro p e s m below meth c s₁ hx hby hml hown hnm X0 hZ e0 hret hlk
  have N0 := Fr.nil Z.heap.size
  obtain ⟨_, hr, hrun, hended, hW, hsame⟩ := X0.leave (v := some (.int (5 : Int32))) (fun h => by rw [hret] at h; cases h) hlk
  refine ⟨_, _, ?_, hrun, hended, _, _, rfl, ?_, ⟨_, rfl⟩, hW, hsame.mono (by decide) (by decide)⟩
  · show own_S p e below s₁ (mkF m 0 #[.val (.long mm), .second] []) _
    refine XS.lloadN X0.here hx rfl (hb hby d35_0) rfl ?_
    refine X0.ldc2Long hx hown (mvT hZ (own_w hw 188 rfl)) (g := (mkF m 1 #[.val (.long mm), .second] [(.long mm)])) rfl (hb hby d35_1) _ ?_
    refine XS.lcmp X0.here hx rfl (hb hby d35_4) rfl ?_
    refine own_iy (pc := 5) X0 hx hby d35_5 (flt hc62).2.1 10 ?_
    refine XS.lloadN X0.here hx rfl (hb hby d35_10) rfl ?_
    refine X0.ldc2Long hx hown (mvT hZ (own_w hw 216 rfl)) (g := (mkF m 11 #[.val (.long mm), .second] [(.long mm)])) rfl (hb hby d35_11) _ ?_
    refine XS.lcmp X0.here hx rfl (hb hby d35_14) rfl ?_
    refine own_iy (pc := 15) X0 hx hby d35_15 (flt hc64).2.1 20 ?_
    refine XS.lloadN X0.here hx rfl (hb hby d35_20) rfl ?_
    refine X0.ldc2Long hx hown (mvT hZ (own_w hw 217 rfl)) (g := (mkF m 21 #[.val (.long mm), .second] [(.long mm)])) rfl (hb hby d35_21) _ ?_
    refine XS.lcmp X0.here hx rfl (hb hby d35_24) rfl ?_
    refine own_iy (pc := 25) X0 hx hby d35_25 (flt hc66).2.1 30 ?_
    refine XS.lloadN X0.here hx rfl (hb hby d35_30) rfl ?_
    refine X0.ldc2Long hx hown (mvT hZ (own_w hw 218 rfl)) (g := (mkF m 31 #[.val (.long mm), .second] [(.long mm)])) rfl (hb hby d35_31) _ ?_
    refine XS.lcmp X0.here hx rfl (hb hby d35_34) rfl ?_
    refine own_iy (pc := 35) X0 hx hby d35_35 (flt hc68).2.1 40 ?_
    refine XS.lloadN X0.here hx rfl (hb hby d35_40) rfl ?_
    refine X0.ldc2Long hx hown (mvT hZ (own_w hw 219 rfl)) (g := (mkF m 41 #[.val (.long mm), .second] [(.long mm)])) rfl (hb hby d35_41) _ ?_
    refine XS.lcmp X0.here hx rfl (hb hby d35_44) rfl ?_
    refine own_in X0 hx hby d35_45 (tlt hc69).2.1 ?_
    refine own_k X0 hx hby d35_48 ?_
    exact retI X0 hx hret (hb hby d35_49) hr
  · show own_qp Z (some (.int (5 : Int32))) h0 _ s₁.heap _
    rw [e0]
    exact ⟨rfl, N0, rfl⟩
theorem rm380 (l : Launch) (Z : State) (a0 : Array Value) (hw : own_HW Z a0) (ws : List Jvm.Cond) (mm : Int64) (h0 : Heap) (Z0 : Ext Z.heap h0) (hc62 : ¬ ((lcmpW mm (10 : Int64)) < (0 : Int32))) (hc64 : ¬ ((lcmpW mm (100 : Int64)) < (0 : Int32))) (hc66 : ¬ ((lcmpW mm (1000 : Int64)) < (0 : Int32))) (hc68 : ¬ ((lcmpW mm (10000 : Int64)) < (0 : Int32))) (hc70 : ¬ ((lcmpW mm (100000 : Int64)) < (0 : Int32))) (hc71 : (lcmpW mm (1000000 : Int64)) < (0 : Int32)) :
    own_met l y_33 method_5_code 2 (some .int) ws ({ frames := 0, cells := 0, slots := 0, locals := 0 } : Room) Z #[(.long mm)] h0 (own_qp Z (some (.int (6 : Int32))) h0) := by
  refine own_start (plainFor_of_name pn_8) (fun m => ef_method_5_J m mm) ?_
  intro p e s m below meth c s₁ hx hby hml hown hnm X0 hZ e0 hret hlk
  have N0 := Fr.nil Z.heap.size
  obtain ⟨_, hr, hrun, hended, hW, hsame⟩ := X0.leave (v := some (.int (6 : Int32))) (fun h => by rw [hret] at h; cases h) hlk
  refine ⟨_, _, ?_, hrun, hended, _, _, rfl, ?_, ⟨_, rfl⟩, hW, hsame.mono (by decide) (by decide)⟩
  · show own_S p e below s₁ (mkF m 0 #[.val (.long mm), .second] []) _
    refine XS.lloadN X0.here hx rfl (hb hby d35_0) rfl ?_
    refine X0.ldc2Long hx hown (mvT hZ (own_w hw 188 rfl)) (g := (mkF m 1 #[.val (.long mm), .second] [(.long mm)])) rfl (hb hby d35_1) _ ?_
    refine XS.lcmp X0.here hx rfl (hb hby d35_4) rfl ?_
    refine own_iy (pc := 5) X0 hx hby d35_5 (flt hc62).2.1 10 ?_
    refine XS.lloadN X0.here hx rfl (hb hby d35_10) rfl ?_
    refine X0.ldc2Long hx hown (mvT hZ (own_w hw 216 rfl)) (g := (mkF m 11 #[.val (.long mm), .second] [(.long mm)])) rfl (hb hby d35_11) _ ?_
    refine XS.lcmp X0.here hx rfl (hb hby d35_14) rfl ?_
    refine own_iy (pc := 15) X0 hx hby d35_15 (flt hc64).2.1 20 ?_
    refine XS.lloadN X0.here hx rfl (hb hby d35_20) rfl ?_
    refine X0.ldc2Long hx hown (mvT hZ (own_w hw 217 rfl)) (g := (mkF m 21 #[.val (.long mm), .second] [(.long mm)])) rfl (hb hby d35_21) _ ?_
    refine XS.lcmp X0.here hx rfl (hb hby d35_24) rfl ?_
    refine own_iy (pc := 25) X0 hx hby d35_25 (flt hc66).2.1 30 ?_
    refine XS.lloadN X0.here hx rfl (hb hby d35_30) rfl ?_
    refine X0.ldc2Long hx hown (mvT hZ (own_w hw 218 rfl)) (g := (mkF m 31 #[.val (.long mm), .second] [(.long mm)])) rfl (hb hby d35_31) _ ?_
    refine XS.lcmp X0.here hx rfl (hb hby d35_34) rfl ?_
    refine own_iy (pc := 35) X0 hx hby d35_35 (flt hc68).2.1 40 ?_
    refine XS.lloadN X0.here hx rfl (hb hby d35_40) rfl ?_
    refine X0.ldc2Long hx hown (mvT hZ (own_w hw 219 rfl)) (g := (mkF m 41 #[.val (.long mm), .second] [(.long mm)])) rfl (hb hby d35_41) _ ?_
    refine XS.lcmp X0.here hx rfl (hb hby d35_44) rfl ?_
    refine own_iy (pc := 45) X0 hx hby d35_45 (flt hc70).2.1 50 ?_
    refine XS.lloadN X0.here hx rfl (hb hby d35_50) rfl ?_
    refine X0.ldc2Long hx hown (mvT hZ (own_w hw 220 rfl)) (g := (mkF m 51 #[.val (.long mm), .second] [(.long mm)])) rfl (hb hby d35_51) _ ?_
    refine XS.lcmp X0.here hx rfl (hb hby d35_54) rfl ?_
    refine own_in X0 hx hby d35_55 (tlt hc71).2.1 ?_
    refine XS.bipush X0.here hx rfl (hb hby d35_58) ?_
    exact retI X0 hx hret (hb hby d35_60) hr
  · show own_qp Z (some (.int (6 : Int32))) h0 _ s₁.heap _
    rw [e0]
    exact ⟨rfl, N0, rfl⟩
theorem rm381 (l : Launch) (Z : State) (a0 : Array Value) (hw : own_HW Z a0) (ws : List Jvm.Cond) (mm : Int64) (h0 : Heap) (Z0 : Ext Z.heap h0) (hc62 : ¬ ((lcmpW mm (10 : Int64)) < (0 : Int32))) (hc64 : ¬ ((lcmpW mm (100 : Int64)) < (0 : Int32))) (hc66 : ¬ ((lcmpW mm (1000 : Int64)) < (0 : Int32))) (hc68 : ¬ ((lcmpW mm (10000 : Int64)) < (0 : Int32))) (hc70 : ¬ ((lcmpW mm (100000 : Int64)) < (0 : Int32))) (hc72 : ¬ ((lcmpW mm (1000000 : Int64)) < (0 : Int32))) (hc73 : (lcmpW mm (10000000 : Int64)) < (0 : Int32)) :
    own_met l y_33 method_5_code 2 (some .int) ws ({ frames := 0, cells := 0, slots := 0, locals := 0 } : Room) Z #[(.long mm)] h0 (own_qp Z (some (.int (7 : Int32))) h0) := by
  refine own_start (plainFor_of_name pn_8) (fun m => ef_method_5_J m mm) ?_
  intro p e s m below meth c s₁ hx hby hml hown hnm X0 hZ e0 hret hlk
  have N0 := Fr.nil Z.heap.size
  obtain ⟨_, hr, hrun, hended, hW, hsame⟩ := X0.leave (v := some (.int (7 : Int32))) (fun h => by rw [hret] at h; cases h) hlk
  refine ⟨_, _, ?_, hrun, hended, _, _, rfl, ?_, ⟨_, rfl⟩, hW, hsame.mono (by decide) (by decide)⟩
  · show own_S p e below s₁ (mkF m 0 #[.val (.long mm), .second] []) _
    refine XS.lloadN X0.here hx rfl (hb hby d35_0) rfl ?_
    refine X0.ldc2Long hx hown (mvT hZ (own_w hw 188 rfl)) (g := (mkF m 1 #[.val (.long mm), .second] [(.long mm)])) rfl (hb hby d35_1) _ ?_
    refine XS.lcmp X0.here hx rfl (hb hby d35_4) rfl ?_
    refine own_iy (pc := 5) X0 hx hby d35_5 (flt hc62).2.1 10 ?_
    refine XS.lloadN X0.here hx rfl (hb hby d35_10) rfl ?_
    refine X0.ldc2Long hx hown (mvT hZ (own_w hw 216 rfl)) (g := (mkF m 11 #[.val (.long mm), .second] [(.long mm)])) rfl (hb hby d35_11) _ ?_
    refine XS.lcmp X0.here hx rfl (hb hby d35_14) rfl ?_
    refine own_iy (pc := 15) X0 hx hby d35_15 (flt hc64).2.1 20 ?_
    refine XS.lloadN X0.here hx rfl (hb hby d35_20) rfl ?_
    refine X0.ldc2Long hx hown (mvT hZ (own_w hw 217 rfl)) (g := (mkF m 21 #[.val (.long mm), .second] [(.long mm)])) rfl (hb hby d35_21) _ ?_
    refine XS.lcmp X0.here hx rfl (hb hby d35_24) rfl ?_
    refine own_iy (pc := 25) X0 hx hby d35_25 (flt hc66).2.1 30 ?_
    refine XS.lloadN X0.here hx rfl (hb hby d35_30) rfl ?_
    refine X0.ldc2Long hx hown (mvT hZ (own_w hw 218 rfl)) (g := (mkF m 31 #[.val (.long mm), .second] [(.long mm)])) rfl (hb hby d35_31) _ ?_
    refine XS.lcmp X0.here hx rfl (hb hby d35_34) rfl ?_
    refine own_iy (pc := 35) X0 hx hby d35_35 (flt hc68).2.1 40 ?_
    refine XS.lloadN X0.here hx rfl (hb hby d35_40) rfl ?_
    refine X0.ldc2Long hx hown (mvT hZ (own_w hw 219 rfl)) (g := (mkF m 41 #[.val (.long mm), .second] [(.long mm)])) rfl (hb hby d35_41) _ ?_
    refine XS.lcmp X0.here hx rfl (hb hby d35_44) rfl ?_
    refine own_iy (pc := 45) X0 hx hby d35_45 (flt hc70).2.1 50 ?_
    refine XS.lloadN X0.here hx rfl (hb hby d35_50) rfl ?_
    refine X0.ldc2Long hx hown (mvT hZ (own_w hw 220 rfl)) (g := (mkF m 51 #[.val (.long mm), .second] [(.long mm)])) rfl (hb hby d35_51) _ ?_
    refine XS.lcmp X0.here hx rfl (hb hby d35_54) rfl ?_
    refine own_iy (pc := 55) X0 hx hby d35_55 (flt hc72).2.1 61 ?_
    refine XS.lloadN X0.here hx rfl (hb hby d35_61) rfl ?_
    refine X0.ldc2Long hx hown (mvT hZ (own_w hw 221 rfl)) (g := (mkF m 62 #[.val (.long mm), .second] [(.long mm)])) rfl (hb hby d35_62) _ ?_
    refine XS.lcmp X0.here hx rfl (hb hby d35_65) rfl ?_
    refine own_in X0 hx hby d35_66 (tlt hc73).2.1 ?_
    refine XS.bipush X0.here hx rfl (hb hby d35_69) ?_
    exact retI X0 hx hret (hb hby d35_71) hr
  · show own_qp Z (some (.int (7 : Int32))) h0 _ s₁.heap _
    rw [e0]
    exact ⟨rfl, N0, rfl⟩
theorem rm382 (l : Launch) (Z : State) (a0 : Array Value) (hw : own_HW Z a0) (ws : List Jvm.Cond) (mm : Int64) (h0 : Heap) (Z0 : Ext Z.heap h0) (hc62 : ¬ ((lcmpW mm (10 : Int64)) < (0 : Int32))) (hc64 : ¬ ((lcmpW mm (100 : Int64)) < (0 : Int32))) (hc66 : ¬ ((lcmpW mm (1000 : Int64)) < (0 : Int32))) (hc68 : ¬ ((lcmpW mm (10000 : Int64)) < (0 : Int32))) (hc70 : ¬ ((lcmpW mm (100000 : Int64)) < (0 : Int32))) (hc72 : ¬ ((lcmpW mm (1000000 : Int64)) < (0 : Int32))) (hc74 : ¬ ((lcmpW mm (10000000 : Int64)) < (0 : Int32))) (hc75 : (lcmpW mm (100000000 : Int64)) < (0 : Int32)) :
    own_met l y_33 method_5_code 2 (some .int) ws ({ frames := 0, cells := 0, slots := 0, locals := 0 } : Room) Z #[(.long mm)] h0 (own_qp Z (some (.int (8 : Int32))) h0) := by
  refine own_start (plainFor_of_name pn_8) (fun m => ef_method_5_J m mm) ?_
  intro p e s m below meth c s₁ hx hby hml hown hnm X0 hZ e0 hret hlk
  have N0 := Fr.nil Z.heap.size
  obtain ⟨_, hr, hrun, hended, hW, hsame⟩ := X0.leave (v := some (.int (8 : Int32))) (fun h => by rw [hret] at h; cases h) hlk
  refine ⟨_, _, ?_, hrun, hended, _, _, rfl, ?_, ⟨_, rfl⟩, hW, hsame.mono (by decide) (by decide)⟩
  · show own_S p e below s₁ (mkF m 0 #[.val (.long mm), .second] []) _
    refine XS.lloadN X0.here hx rfl (hb hby d35_0) rfl ?_
    refine X0.ldc2Long hx hown (mvT hZ (own_w hw 188 rfl)) (g := (mkF m 1 #[.val (.long mm), .second] [(.long mm)])) rfl (hb hby d35_1) _ ?_
    refine XS.lcmp X0.here hx rfl (hb hby d35_4) rfl ?_
    refine own_iy (pc := 5) X0 hx hby d35_5 (flt hc62).2.1 10 ?_
    refine XS.lloadN X0.here hx rfl (hb hby d35_10) rfl ?_
    refine X0.ldc2Long hx hown (mvT hZ (own_w hw 216 rfl)) (g := (mkF m 11 #[.val (.long mm), .second] [(.long mm)])) rfl (hb hby d35_11) _ ?_
    refine XS.lcmp X0.here hx rfl (hb hby d35_14) rfl ?_
    refine own_iy (pc := 15) X0 hx hby d35_15 (flt hc64).2.1 20 ?_
    refine XS.lloadN X0.here hx rfl (hb hby d35_20) rfl ?_
    refine X0.ldc2Long hx hown (mvT hZ (own_w hw 217 rfl)) (g := (mkF m 21 #[.val (.long mm), .second] [(.long mm)])) rfl (hb hby d35_21) _ ?_
    refine XS.lcmp X0.here hx rfl (hb hby d35_24) rfl ?_
    refine own_iy (pc := 25) X0 hx hby d35_25 (flt hc66).2.1 30 ?_
    refine XS.lloadN X0.here hx rfl (hb hby d35_30) rfl ?_
    refine X0.ldc2Long hx hown (mvT hZ (own_w hw 218 rfl)) (g := (mkF m 31 #[.val (.long mm), .second] [(.long mm)])) rfl (hb hby d35_31) _ ?_
    refine XS.lcmp X0.here hx rfl (hb hby d35_34) rfl ?_
    refine own_iy (pc := 35) X0 hx hby d35_35 (flt hc68).2.1 40 ?_
    refine XS.lloadN X0.here hx rfl (hb hby d35_40) rfl ?_
    refine X0.ldc2Long hx hown (mvT hZ (own_w hw 219 rfl)) (g := (mkF m 41 #[.val (.long mm), .second] [(.long mm)])) rfl (hb hby d35_41) _ ?_
    refine XS.lcmp X0.here hx rfl (hb hby d35_44) rfl ?_
    refine own_iy (pc := 45) X0 hx hby d35_45 (flt hc70).2.1 50 ?_
    refine XS.lloadN X0.here hx rfl (hb hby d35_50) rfl ?_
    refine X0.ldc2Long hx hown (mvT hZ (own_w hw 220 rfl)) (g := (mkF m 51 #[.val (.long mm), .second] [(.long mm)])) rfl (hb hby d35_51) _ ?_
    refine XS.lcmp X0.here hx rfl (hb hby d35_54) rfl ?_
    refine own_iy (pc := 55) X0 hx hby d35_55 (flt hc72).2.1 61 ?_
    refine XS.lloadN X0.here hx rfl (hb hby d35_61) rfl ?_
    refine X0.ldc2Long hx hown (mvT hZ (own_w hw 221 rfl)) (g := (mkF m 62 #[.val (.long mm), .second] [(.long mm)])) rfl (hb hby d35_62) _ ?_
    refine XS.lcmp X0.here hx rfl (hb hby d35_65) rfl ?_
    refine own_iy (pc := 66) X0 hx hby d35_66 (flt hc74).2.1 72 ?_
    refine XS.lloadN X0.here hx rfl (hb hby d35_72) rfl ?_
    refine X0.ldc2Long hx hown (mvT hZ (own_w hw 222 rfl)) (g := (mkF m 73 #[.val (.long mm), .second] [(.long mm)])) rfl (hb hby d35_73) _ ?_
    refine XS.lcmp X0.here hx rfl (hb hby d35_76) rfl ?_
    refine own_in X0 hx hby d35_77 (tlt hc75).2.1 ?_
    refine XS.bipush X0.here hx rfl (hb hby d35_80) ?_
    exact retI X0 hx hret (hb hby d35_82) hr
  · show own_qp Z (some (.int (8 : Int32))) h0 _ s₁.heap _
    rw [e0]
    exact ⟨rfl, N0, rfl⟩
theorem rm383 (l : Launch) (Z : State) (a0 : Array Value) (hw : own_HW Z a0) (ws : List Jvm.Cond) (mm : Int64) (h0 : Heap) (Z0 : Ext Z.heap h0) (hc62 : ¬ ((lcmpW mm (10 : Int64)) < (0 : Int32))) (hc64 : ¬ ((lcmpW mm (100 : Int64)) < (0 : Int32))) (hc66 : ¬ ((lcmpW mm (1000 : Int64)) < (0 : Int32))) (hc68 : ¬ ((lcmpW mm (10000 : Int64)) < (0 : Int32))) (hc70 : ¬ ((lcmpW mm (100000 : Int64)) < (0 : Int32))) (hc72 : ¬ ((lcmpW mm (1000000 : Int64)) < (0 : Int32))) (hc74 : ¬ ((lcmpW mm (10000000 : Int64)) < (0 : Int32))) (hc76 : ¬ ((lcmpW mm (100000000 : Int64)) < (0 : Int32))) (hc77 : (lcmpW mm (1000000000 : Int64)) < (0 : Int32)) :
    own_met l y_33 method_5_code 2 (some .int) ws ({ frames := 0, cells := 0, slots := 0, locals := 0 } : Room) Z #[(.long mm)] h0 (own_qp Z (some (.int (9 : Int32))) h0) := by
  refine own_start (plainFor_of_name pn_8) (fun m => ef_method_5_J m mm) ?_
  intro p e s m below meth c s₁ hx hby hml hown hnm X0 hZ e0 hret hlk
  have N0 := Fr.nil Z.heap.size
  obtain ⟨_, hr, hrun, hended, hW, hsame⟩ := X0.leave (v := some (.int (9 : Int32))) (fun h => by rw [hret] at h; cases h) hlk
  refine ⟨_, _, ?_, hrun, hended, _, _, rfl, ?_, ⟨_, rfl⟩, hW, hsame.mono (by decide) (by decide)⟩
  · show own_S p e below s₁ (mkF m 0 #[.val (.long mm), .second] []) _
    refine XS.lloadN X0.here hx rfl (hb hby d35_0) rfl ?_
    refine X0.ldc2Long hx hown (mvT hZ (own_w hw 188 rfl)) (g := (mkF m 1 #[.val (.long mm), .second] [(.long mm)])) rfl (hb hby d35_1) _ ?_
    refine XS.lcmp X0.here hx rfl (hb hby d35_4) rfl ?_
    refine own_iy (pc := 5) X0 hx hby d35_5 (flt hc62).2.1 10 ?_
    refine XS.lloadN X0.here hx rfl (hb hby d35_10) rfl ?_
    refine X0.ldc2Long hx hown (mvT hZ (own_w hw 216 rfl)) (g := (mkF m 11 #[.val (.long mm), .second] [(.long mm)])) rfl (hb hby d35_11) _ ?_
    refine XS.lcmp X0.here hx rfl (hb hby d35_14) rfl ?_
    refine own_iy (pc := 15) X0 hx hby d35_15 (flt hc64).2.1 20 ?_
    refine XS.lloadN X0.here hx rfl (hb hby d35_20) rfl ?_
    refine X0.ldc2Long hx hown (mvT hZ (own_w hw 217 rfl)) (g := (mkF m 21 #[.val (.long mm), .second] [(.long mm)])) rfl (hb hby d35_21) _ ?_
    refine XS.lcmp X0.here hx rfl (hb hby d35_24) rfl ?_
    refine own_iy (pc := 25) X0 hx hby d35_25 (flt hc66).2.1 30 ?_
    refine XS.lloadN X0.here hx rfl (hb hby d35_30) rfl ?_
    refine X0.ldc2Long hx hown (mvT hZ (own_w hw 218 rfl)) (g := (mkF m 31 #[.val (.long mm), .second] [(.long mm)])) rfl (hb hby d35_31) _ ?_
    refine XS.lcmp X0.here hx rfl (hb hby d35_34) rfl ?_
    refine own_iy (pc := 35) X0 hx hby d35_35 (flt hc68).2.1 40 ?_
    refine XS.lloadN X0.here hx rfl (hb hby d35_40) rfl ?_
    refine X0.ldc2Long hx hown (mvT hZ (own_w hw 219 rfl)) (g := (mkF m 41 #[.val (.long mm), .second] [(.long mm)])) rfl (hb hby d35_41) _ ?_
    refine XS.lcmp X0.here hx rfl (hb hby d35_44) rfl ?_
    refine own_iy (pc := 45) X0 hx hby d35_45 (flt hc70).2.1 50 ?_
    refine XS.lloadN X0.here hx rfl (hb hby d35_50) rfl ?_
    refine X0.ldc2Long hx hown (mvT hZ (own_w hw 220 rfl)) (g := (mkF m 51 #[.val (.long mm), .second] [(.long mm)])) rfl (hb hby d35_51) _ ?_
    refine XS.lcmp X0.here hx rfl (hb hby d35_54) rfl ?_
    refine own_iy (pc := 55) X0 hx hby d35_55 (flt hc72).2.1 61 ?_
    refine XS.lloadN X0.here hx rfl (hb hby d35_61) rfl ?_
    refine X0.ldc2Long hx hown (mvT hZ (own_w hw 221 rfl)) (g := (mkF m 62 #[.val (.long mm), .second] [(.long mm)])) rfl (hb hby d35_62) _ ?_
    refine XS.lcmp X0.here hx rfl (hb hby d35_65) rfl ?_
    refine own_iy (pc := 66) X0 hx hby d35_66 (flt hc74).2.1 72 ?_
    refine XS.lloadN X0.here hx rfl (hb hby d35_72) rfl ?_
    refine X0.ldc2Long hx hown (mvT hZ (own_w hw 222 rfl)) (g := (mkF m 73 #[.val (.long mm), .second] [(.long mm)])) rfl (hb hby d35_73) _ ?_
    refine XS.lcmp X0.here hx rfl (hb hby d35_76) rfl ?_
    refine own_iy (pc := 77) X0 hx hby d35_77 (flt hc76).2.1 83 ?_
    refine XS.lloadN X0.here hx rfl (hb hby d35_83) rfl ?_
    refine X0.ldc2Long hx hown (mvT hZ (own_w hw 223 rfl)) (g := (mkF m 84 #[.val (.long mm), .second] [(.long mm)])) rfl (hb hby d35_84) _ ?_
    refine XS.lcmp X0.here hx rfl (hb hby d35_87) rfl ?_
    refine own_in X0 hx hby d35_88 (tlt hc77).2.1 ?_
    refine XS.bipush X0.here hx rfl (hb hby d35_91) ?_
    exact retI X0 hx hret (hb hby d35_93) hr
  · show own_qp Z (some (.int (9 : Int32))) h0 _ s₁.heap _
    rw [e0]
    exact ⟨rfl, N0, rfl⟩
theorem rm384 (l : Launch) (Z : State) (a0 : Array Value) (hw : own_HW Z a0) (ws : List Jvm.Cond) (mm : Int64) (h0 : Heap) (Z0 : Ext Z.heap h0) (hc62 : ¬ ((lcmpW mm (10 : Int64)) < (0 : Int32))) (hc64 : ¬ ((lcmpW mm (100 : Int64)) < (0 : Int32))) (hc66 : ¬ ((lcmpW mm (1000 : Int64)) < (0 : Int32))) (hc68 : ¬ ((lcmpW mm (10000 : Int64)) < (0 : Int32))) (hc70 : ¬ ((lcmpW mm (100000 : Int64)) < (0 : Int32))) (hc72 : ¬ ((lcmpW mm (1000000 : Int64)) < (0 : Int32))) (hc74 : ¬ ((lcmpW mm (10000000 : Int64)) < (0 : Int32))) (hc76 : ¬ ((lcmpW mm (100000000 : Int64)) < (0 : Int32))) (hc78 : ¬ ((lcmpW mm (1000000000 : Int64)) < (0 : Int32))) :
    own_met l y_33 method_5_code 2 (some .int) ws ({ frames := 0, cells := 0, slots := 0, locals := 0 } : Room) Z #[(.long mm)] h0 (own_qp Z (some (.int (10 : Int32))) h0) := by
  refine own_start (plainFor_of_name pn_8) (fun m => ef_method_5_J m mm) ?_
  intro p e s m below meth c s₁ hx hby hml hown hnm X0 hZ e0 hret hlk
  have N0 := Fr.nil Z.heap.size
  obtain ⟨_, hr, hrun, hended, hW, hsame⟩ := X0.leave (v := some (.int (10 : Int32))) (fun h => by rw [hret] at h; cases h) hlk
  refine ⟨_, _, ?_, hrun, hended, _, _, rfl, ?_, ⟨_, rfl⟩, hW, hsame.mono (by decide) (by decide)⟩
  · show own_S p e below s₁ (mkF m 0 #[.val (.long mm), .second] []) _
    refine XS.lloadN X0.here hx rfl (hb hby d35_0) rfl ?_
    refine X0.ldc2Long hx hown (mvT hZ (own_w hw 188 rfl)) (g := (mkF m 1 #[.val (.long mm), .second] [(.long mm)])) rfl (hb hby d35_1) _ ?_
    refine XS.lcmp X0.here hx rfl (hb hby d35_4) rfl ?_
    refine own_iy (pc := 5) X0 hx hby d35_5 (flt hc62).2.1 10 ?_
    refine XS.lloadN X0.here hx rfl (hb hby d35_10) rfl ?_
    refine X0.ldc2Long hx hown (mvT hZ (own_w hw 216 rfl)) (g := (mkF m 11 #[.val (.long mm), .second] [(.long mm)])) rfl (hb hby d35_11) _ ?_
    refine XS.lcmp X0.here hx rfl (hb hby d35_14) rfl ?_
    refine own_iy (pc := 15) X0 hx hby d35_15 (flt hc64).2.1 20 ?_
    refine XS.lloadN X0.here hx rfl (hb hby d35_20) rfl ?_
    refine X0.ldc2Long hx hown (mvT hZ (own_w hw 217 rfl)) (g := (mkF m 21 #[.val (.long mm), .second] [(.long mm)])) rfl (hb hby d35_21) _ ?_
    refine XS.lcmp X0.here hx rfl (hb hby d35_24) rfl ?_
    refine own_iy (pc := 25) X0 hx hby d35_25 (flt hc66).2.1 30 ?_
    refine XS.lloadN X0.here hx rfl (hb hby d35_30) rfl ?_
    refine X0.ldc2Long hx hown (mvT hZ (own_w hw 218 rfl)) (g := (mkF m 31 #[.val (.long mm), .second] [(.long mm)])) rfl (hb hby d35_31) _ ?_
    refine XS.lcmp X0.here hx rfl (hb hby d35_34) rfl ?_
    refine own_iy (pc := 35) X0 hx hby d35_35 (flt hc68).2.1 40 ?_
    refine XS.lloadN X0.here hx rfl (hb hby d35_40) rfl ?_
    refine X0.ldc2Long hx hown (mvT hZ (own_w hw 219 rfl)) (g := (mkF m 41 #[.val (.long mm), .second] [(.long mm)])) rfl (hb hby d35_41) _ ?_
    refine XS.lcmp X0.here hx rfl (hb hby d35_44) rfl ?_
    refine own_iy (pc := 45) X0 hx hby d35_45 (flt hc70).2.1 50 ?_
    refine XS.lloadN X0.here hx rfl (hb hby d35_50) rfl ?_
    refine X0.ldc2Long hx hown (mvT hZ (own_w hw 220 rfl)) (g := (mkF m 51 #[.val (.long mm), .second] [(.long mm)])) rfl (hb hby d35_51) _ ?_
    refine XS.lcmp X0.here hx rfl (hb hby d35_54) rfl ?_
    refine own_iy (pc := 55) X0 hx hby d35_55 (flt hc72).2.1 61 ?_
    refine XS.lloadN X0.here hx rfl (hb hby d35_61) rfl ?_
    refine X0.ldc2Long hx hown (mvT hZ (own_w hw 221 rfl)) (g := (mkF m 62 #[.val (.long mm), .second] [(.long mm)])) rfl (hb hby d35_62) _ ?_
    refine XS.lcmp X0.here hx rfl (hb hby d35_65) rfl ?_
    refine own_iy (pc := 66) X0 hx hby d35_66 (flt hc74).2.1 72 ?_
    refine XS.lloadN X0.here hx rfl (hb hby d35_72) rfl ?_
    refine X0.ldc2Long hx hown (mvT hZ (own_w hw 222 rfl)) (g := (mkF m 73 #[.val (.long mm), .second] [(.long mm)])) rfl (hb hby d35_73) _ ?_
    refine XS.lcmp X0.here hx rfl (hb hby d35_76) rfl ?_
    refine own_iy (pc := 77) X0 hx hby d35_77 (flt hc76).2.1 83 ?_
    refine XS.lloadN X0.here hx rfl (hb hby d35_83) rfl ?_
    refine X0.ldc2Long hx hown (mvT hZ (own_w hw 223 rfl)) (g := (mkF m 84 #[.val (.long mm), .second] [(.long mm)])) rfl (hb hby d35_84) _ ?_
    refine XS.lcmp X0.here hx rfl (hb hby d35_87) rfl ?_
    refine own_iy (pc := 88) X0 hx hby d35_88 (flt hc78).2.1 94 ?_
    refine XS.bipush X0.here hx rfl (hb hby d35_94) ?_
    exact retI X0 hx hret (hb hby d35_96) hr
  · show own_qp Z (some (.int (10 : Int32))) h0 _ s₁.heap _
    rw [e0]
    exact ⟨rfl, N0, rfl⟩
theorem own_ndJ (l : Launch) (Z : State) (a0 : Array Value) (hw : own_HW Z a0) (ws : List Jvm.Cond) (mm : Int64) (kk : Nat) (h0 : Heap) (Z0 : Ext Z.heap h0) (hc79 : own_nm mm kk) :
    own_met l y_33 method_5_code 2 (some .int) ws ({ frames := 0, cells := 0, slots := 0, locals := 0 } : Room) Z #[(.long mm)] h0 (own_qp Z (some (.int (Int32.ofNat kk))) h0) := by
  obtain ⟨h0', h1, h2, h3, h4⟩ := hc79
  rcases own_ten_cases h1 h2 with rfl | rfl | rfl | rfl | rfl | rfl | rfl | rfl | rfl | rfl
  · exact own_mono (rm375 l Z a0 hw ws mm h0 Z0 (own_llt (by decide : (10 : Int64).toInt = 10) (by omega))) fun v h L q => q
  · exact own_mono (rm376 l Z a0 hw ws mm h0 Z0 (own_lge (by decide : (10 : Int64).toInt = 10) (by omega)) (own_llt (by decide : (100 : Int64).toInt = 100) (by omega))) fun v h L q => q
  · exact own_mono (rm377 l Z a0 hw ws mm h0 Z0 (own_lge (by decide : (10 : Int64).toInt = 10) (by omega)) (own_lge (by decide : (100 : Int64).toInt = 100) (by omega)) (own_llt (by decide : (1000 : Int64).toInt = 1000) (by omega))) fun v h L q => q
  · exact own_mono (rm378 l Z a0 hw ws mm h0 Z0 (own_lge (by decide : (10 : Int64).toInt = 10) (by omega)) (own_lge (by decide : (100 : Int64).toInt = 100) (by omega)) (own_lge (by decide : (1000 : Int64).toInt = 1000) (by omega)) (own_llt (by decide : (10000 : Int64).toInt = 10000) (by omega))) fun v h L q => q
  · exact own_mono (rm379 l Z a0 hw ws mm h0 Z0 (own_lge (by decide : (10 : Int64).toInt = 10) (by omega)) (own_lge (by decide : (100 : Int64).toInt = 100) (by omega)) (own_lge (by decide : (1000 : Int64).toInt = 1000) (by omega)) (own_lge (by decide : (10000 : Int64).toInt = 10000) (by omega)) (own_llt (by decide : (100000 : Int64).toInt = 100000) (by omega))) fun v h L q => q
  · exact own_mono (rm380 l Z a0 hw ws mm h0 Z0 (own_lge (by decide : (10 : Int64).toInt = 10) (by omega)) (own_lge (by decide : (100 : Int64).toInt = 100) (by omega)) (own_lge (by decide : (1000 : Int64).toInt = 1000) (by omega)) (own_lge (by decide : (10000 : Int64).toInt = 10000) (by omega)) (own_lge (by decide : (100000 : Int64).toInt = 100000) (by omega)) (own_llt (by decide : (1000000 : Int64).toInt = 1000000) (by omega))) fun v h L q => q
  · exact own_mono (rm381 l Z a0 hw ws mm h0 Z0 (own_lge (by decide : (10 : Int64).toInt = 10) (by omega)) (own_lge (by decide : (100 : Int64).toInt = 100) (by omega)) (own_lge (by decide : (1000 : Int64).toInt = 1000) (by omega)) (own_lge (by decide : (10000 : Int64).toInt = 10000) (by omega)) (own_lge (by decide : (100000 : Int64).toInt = 100000) (by omega)) (own_lge (by decide : (1000000 : Int64).toInt = 1000000) (by omega)) (own_llt (by decide : (10000000 : Int64).toInt = 10000000) (by omega))) fun v h L q => q
  · exact own_mono (rm382 l Z a0 hw ws mm h0 Z0 (own_lge (by decide : (10 : Int64).toInt = 10) (by omega)) (own_lge (by decide : (100 : Int64).toInt = 100) (by omega)) (own_lge (by decide : (1000 : Int64).toInt = 1000) (by omega)) (own_lge (by decide : (10000 : Int64).toInt = 10000) (by omega)) (own_lge (by decide : (100000 : Int64).toInt = 100000) (by omega)) (own_lge (by decide : (1000000 : Int64).toInt = 1000000) (by omega)) (own_lge (by decide : (10000000 : Int64).toInt = 10000000) (by omega)) (own_llt (by decide : (100000000 : Int64).toInt = 100000000) (by omega))) fun v h L q => q
  · exact own_mono (rm383 l Z a0 hw ws mm h0 Z0 (own_lge (by decide : (10 : Int64).toInt = 10) (by omega)) (own_lge (by decide : (100 : Int64).toInt = 100) (by omega)) (own_lge (by decide : (1000 : Int64).toInt = 1000) (by omega)) (own_lge (by decide : (10000 : Int64).toInt = 10000) (by omega)) (own_lge (by decide : (100000 : Int64).toInt = 100000) (by omega)) (own_lge (by decide : (1000000 : Int64).toInt = 1000000) (by omega)) (own_lge (by decide : (10000000 : Int64).toInt = 10000000) (by omega)) (own_lge (by decide : (100000000 : Int64).toInt = 100000000) (by omega)) (own_llt (by decide : (1000000000 : Int64).toInt = 1000000000) (by omega))) fun v h L q => q
  · exact own_mono (rm384 l Z a0 hw ws mm h0 Z0 (own_lge (by decide : (10 : Int64).toInt = 10) (by omega)) (own_lge (by decide : (100 : Int64).toInt = 100) (by omega)) (own_lge (by decide : (1000 : Int64).toInt = 1000) (by omega)) (own_lge (by decide : (10000 : Int64).toInt = 10000) (by omega)) (own_lge (by decide : (100000 : Int64).toInt = 100000) (by omega)) (own_lge (by decide : (1000000 : Int64).toInt = 1000000) (by omega)) (own_lge (by decide : (10000000 : Int64).toInt = 10000000) (by omega)) (own_lge (by decide : (100000000 : Int64).toInt = 100000000) (by omega)) (own_lge (by decide : (1000000000 : Int64).toInt = 1000000000) (by omega))) fun v h L q => q
theorem rm389 (l : Launch) (Z : State) (a0 : Array Value) (hw : own_HW Z a0) (ws : List Jvm.Cond) (w_CS : Int32) (w_SF : Value) (kk : Nat) (cs : List Int32) (bs be : Addr) (ke : ClassId) (cc yy : Int32) (od dj : Nat) (pw mm dl : Int64) (bp : Addr) (kp : ClassId) (h0 : Heap) (Z0 : Ext Z.heap h0) (S_w_CS : own_w_CS Z w_CS) (S_w_SF : own_w_SF Z w_SF) (R_w_SF : w_SF.isRef = true) (E_bs : Exa Z h0 bs own_cS) (F_bs_coder : Fld Z h0 bs own_cS "coder" "B" (.int (0 : Int32))) (F_bs_value : Fld Z h0 bs own_cS "value" "[B" (.ref be)) (V_be : Arv Z h0 be ke .byte (Int32.ofNat cs.length) (own_ch cs) (.int (0 : Int32))) (V_bp : Arv Z h0 bp kp .long (10 : Int32) [(.long (1 : Int64)), (.long (10 : Int64)), (.long (100 : Int64)), (.long (1000 : Int64)), (.long (10000 : Int64)), (.long (100000 : Int64)), (.long (1000000 : Int64)), (.long (10000000 : Int64)), (.long (100000000 : Int64)), (.long (1000000000 : Int64))] (.long (0 : Int64))) (hc80 : (Int32.ofNat dj) < (Int32.ofNat kk)) (hc81 : ((Int32.ofNat kk) - (1 : Int32)) = (Int32.ofNat (kk - 1))) (hc82 : ((Int32.ofNat (kk - 1)) - (Int32.ofNat dj)) = (Int32.ofNat (kk - 1 - dj))) (hc83 : own_ib (Int32.ofNat (kk - 1 - dj)) (10 : Int32)) (hc84 : own_get [(.long (1 : Int64)), (.long (10 : Int64)), (.long (100 : Int64)), (.long (1000 : Int64)), (.long (10000 : Int64)), (.long (100000 : Int64)), (.long (1000000 : Int64)), (.long (10000000 : Int64)), (.long (100000000 : Int64)), (.long (1000000000 : Int64))] (Int32.ofNat (kk - 1 - dj)) (.long (0 : Int64)) (.long pw)) (hc85 : ¬ (pw = (0 : Int64))) (hc86 : ((mm / pw) - ((mm / pw) / (10 : Int64)) * (10 : Int64)) = dl) (hc87 : ((Int32.ofNat od) + (Int32.ofNat dj)) = (Int32.ofNat (od + dj))) (hc1 : ¬ (w_CS = (0 : Int32))) (hc88 : own_at cs (Int32.ofNat (od + dj)) yy cc) (hc89 : (((48 : Int32) + (dl.toInt32)).toUInt32.toUInt16.toUInt32.toInt32) = cc) :
    own_met l y_34 method_6_code 9 (some .boolean) ws ({ frames := 4, cells := 0, slots := 0, locals := 53 } : Room) Z #[(.ref bs), (.int (Int32.ofNat od)), (.long mm), (.int (Int32.ofNat kk)), (.int (Int32.ofNat dj)), (.ref bp)] h0 (own_qp Z (some (.int (1 : Int32))) h0) := by
  refine own_start (plainFor_of_name pn_8) (fun m => ef_method_6_RIJIIR m bs (Int32.ofNat od) mm (Int32.ofNat kk) (Int32.ofNat dj) bp) ?_
  intro p e s m below meth c s₁ hx hby hml hown hnm X0 hZ e0 hret hlk
  have N0 := Fr.nil Z.heap.size
  obtain ⟨cl390, Ar390, q390, S390, Nn390, H390, G390⟩ := id V_bp
  have hin390 : ¬ ((Int32.ofNat (kk - 1 - dj)) < 0 ∨ cl390.slots.size ≤ ((Int32.ofNat (kk - 1 - dj))).toNatClampNeg) := inb_of S390 hc83
  have hat390 : cl390.slots[((Int32.ofNat (kk - 1 - dj))).toNatClampNeg]? = some (.long pw) := Has.at H390 hin390 hc84
  obtain ⟨_, T391, Lc391, X391, hQ391, st391⟩ := own_virtual (y := y_31) X0 hx hZ hown (own_w hw 193 rfl) (own_w hw 194 rfl) (own_w hw 196 rfl) (own_w hw 195 rfl) (own_w hw 6 rfl) (own_w hw 197 rfl) (rm310 l Z a0 hw [] w_CS w_SF (Int32.ofNat (od + dj)) cs bs be ke cc yy h0 Z0 S_w_CS S_w_SF R_w_SF E_bs F_bs_coder F_bs_value V_be hc1 hc88) e0 E_bs (g := (mkF m 32 #[rv bs, iv (Int32.ofNat od), .val (.long mm), .second, iv (Int32.ofNat kk), iv (Int32.ofNat dj), rv bp, .val (.long dl), .second] [(.int (Int32.ofNat (od + dj))), (.ref bs)])) (argsL := [(.int (Int32.ofNat (od + dj)))]) (rest := []) (W := 0) (lenOf pd_21 rfl) (hb hby d42_32) hml
  obtain ⟨rfl, N391q, e391⟩ := hQ391
  have N391 := Fr.app N0 N391q
  obtain ⟨_, hr, hrun, hended, hW, hsame⟩ := X391.leave (v := some (.int (1 : Int32))) (fun h => by rw [hret] at h; cases h) hlk
  refine ⟨_, _, ?_, hrun, hended, _, _, rfl, ?_, ⟨_, rfl⟩, hW, hsame.mono (by decide) (by decide)⟩
  · show own_S p e below s₁ (mkF m 0 #[rv bs, iv (Int32.ofNat od), .val (.long mm), .second, iv (Int32.ofNat kk), iv (Int32.ofNat dj), rv bp, .unset, .unset] []) _
    refine own_i X0 hx hby d42_0 ?_
    refine own_i X0 hx hby d42_2 ?_
    refine own_cy (pc := 4) X0 hx hby d42_4 (tlt hc80).1 9 ?_
    refine XS.lloadN X0.here hx rfl (hb hby d42_9) rfl ?_
    refine own_a X0 hx hby d42_10 ?_
    refine own_i X0 hx hby d42_12 ?_
    refine own_k X0 hx hby d42_14 ?_
    refine XS.isub X0.here hx rfl (hb hby d42_15) rfl ?_
    show own_S p e below s₁ (mkF m 16 #[rv bs, iv (Int32.ofNat od), .val (.long mm), .second, iv (Int32.ofNat kk), iv (Int32.ofNat dj), rv bp, .unset, .unset] [(.int ((Int32.ofNat kk) - (1 : Int32))), (.ref bp), (.long mm)]) _
    rw [hc81]
    refine own_i X0 hx hby d42_16 ?_
    refine XS.isub X0.here hx rfl (hb hby d42_18) rfl ?_
    show own_S p e below s₁ (mkF m 19 #[rv bs, iv (Int32.ofNat od), .val (.long mm), .second, iv (Int32.ofNat kk), iv (Int32.ofNat dj), rv bp, .unset, .unset] [(.int ((Int32.ofNat (kk - 1)) - (Int32.ofNat dj))), (.ref bp), (.long mm)]) _
    rw [hc82]
    refine X0.laload hx (j := (Int32.ofNat (kk - 1 - dj))) (v := (.long pw)) (by rw [e0]; exact Ar390.1) (State.isArrayOf_alike hZ.alike Ar390.2.1) Ar390.2.2 hin390 hat390 (g := (mkF m 19 #[rv bs, iv (Int32.ofNat od), .val (.long mm), .second, iv (Int32.ofNat kk), iv (Int32.ofNat dj), rv bp, .unset, .unset] [(.int (Int32.ofNat (kk - 1 - dj))), (.ref bp), (.long mm)])) rfl rfl (hb hby d42_19) _ ?_
    refine XS.ldiv X0.here hx rfl (hb hby d42_20) rfl hc85 ?_
    refine X0.ldc2Long hx hown (mvT hZ (own_w hw 188 rfl)) (g := (mkF m 21 #[rv bs, iv (Int32.ofNat od), .val (.long mm), .second, iv (Int32.ofNat kk), iv (Int32.ofNat dj), rv bp, .unset, .unset] [(.long (mm / pw))])) rfl (hb hby d42_21) _ ?_
    refine XS.lrem X0.here hx rfl (hb hby d42_24) rfl (by decide) ?_
    show own_S p e below s₁ (mkF m 25 #[rv bs, iv (Int32.ofNat od), .val (.long mm), .second, iv (Int32.ofNat kk), iv (Int32.ofNat dj), rv bp, .unset, .unset] [(.long ((mm / pw) - ((mm / pw) / (10 : Int64)) * (10 : Int64)))]) _
    rw [hc86]
    refine XS.lstore X0.here hx rfl (hb hby d42_25) rfl (l' := #[rv bs, iv (Int32.ofNat od), .val (.long mm), .second, iv (Int32.ofNat kk), iv (Int32.ofNat dj), rv bp, .val (.long dl), .second]) rfl ?_
    refine own_aN X0 hx hby d42_27 ?_
    refine own_iN X0 hx hby d42_28 ?_
    refine own_i X0 hx hby d42_29 ?_
    refine XS.iadd X0.here hx rfl (hb hby d42_31) rfl ?_
    show own_S p e below s₁ (mkF m 32 #[rv bs, iv (Int32.ofNat od), .val (.long mm), .second, iv (Int32.ofNat kk), iv (Int32.ofNat dj), rv bp, .val (.long dl), .second] [(.int ((Int32.ofNat od) + (Int32.ofNat dj))), (.ref bs)]) _
    rw [hc87]
    refine st391 _ ?_
    refine XS.bipush X391.here hx rfl (hb hby d42_35) ?_
    refine XS.lload X391.here hx rfl (hb hby d42_37) rfl ?_
    refine XS.l2i X391.here hx rfl (hb hby d42_39) rfl ?_
    refine XS.iadd X391.here hx rfl (hb hby d42_40) rfl ?_
    refine XS.i2c X391.here hx rfl (hb hby d42_41) rfl ?_
    show own_S p e below T391 (mkF m 42 #[rv bs, iv (Int32.ofNat od), .val (.long mm), .second, iv (Int32.ofNat kk), iv (Int32.ofNat dj), rv bp, .val (.long dl), .second] [(.int (((48 : Int32) + (dl.toInt32)).toUInt32.toUInt16.toUInt32.toInt32)), (.int cc)]) _
    rw [hc89]
    refine own_cn X391 hx hby d42_42 (teq (rfl : cc = cc)).2 ?_
    refine own_k X391 hx hby d42_45 ?_
    refine own_go (pc := 46) X391 hx hby d42_46 50 ?_
    exact retN X391 hx (t := .boolean) hret (by simp) (hb hby d42_50) hr
  · show own_qp Z (some (.int (1 : Int32))) h0 _ T391.heap _
    rw [e391]
    exact ⟨rfl, N391, rfl⟩
theorem rm392 (l : Launch) (Z : State) (a0 : Array Value) (hw : own_HW Z a0) (ws : List Jvm.Cond) (kk : Nat) (bs : Addr) (od dj : Nat) (mm : Int64) (bp : Addr) (h0 : Heap) (Z0 : Ext Z.heap h0) (hc90 : ¬ ((Int32.ofNat dj) < (Int32.ofNat kk))) :
    own_met l y_34 method_6_code 9 (some .boolean) ws ({ frames := 4, cells := 0, slots := 0, locals := 53 } : Room) Z #[(.ref bs), (.int (Int32.ofNat od)), (.long mm), (.int (Int32.ofNat kk)), (.int (Int32.ofNat dj)), (.ref bp)] h0 (own_qp Z (some (.int (1 : Int32))) h0) := by
  refine own_start (plainFor_of_name pn_8) (fun m => ef_method_6_RIJIIR m bs (Int32.ofNat od) mm (Int32.ofNat kk) (Int32.ofNat dj) bp) ?_
  intro p e s m below meth c s₁ hx hby hml hown hnm X0 hZ e0 hret hlk
  have N0 := Fr.nil Z.heap.size
  obtain ⟨_, hr, hrun, hended, hW, hsame⟩ := X0.leave (v := some (.int (1 : Int32))) (fun h => by rw [hret] at h; cases h) hlk
  refine ⟨_, _, ?_, hrun, hended, _, _, rfl, ?_, ⟨_, rfl⟩, hW, hsame.mono (by decide) (by decide)⟩
  · show own_S p e below s₁ (mkF m 0 #[rv bs, iv (Int32.ofNat od), .val (.long mm), .second, iv (Int32.ofNat kk), iv (Int32.ofNat dj), rv bp, .unset, .unset] []) _
    refine own_i X0 hx hby d42_0 ?_
    refine own_i X0 hx hby d42_2 ?_
    refine own_cn X0 hx hby d42_4 (flt hc90).1 ?_
    refine own_k X0 hx hby d42_7 ?_
    exact retN X0 hx (t := .boolean) hret (by simp) (hb hby d42_8) hr
  · show own_qp Z (some (.int (1 : Int32))) h0 _ s₁.heap _
    rw [e0]
    exact ⟨rfl, N0, rfl⟩
theorem own_dkJ (l : Launch) (Z : State) (a0 : Array Value) (hw : own_HW Z a0) (ws : List Jvm.Cond) (w_CS : Int32) (w_SF : Value) (kk : Nat) (cs : List Int32) (bs be : Addr) (ke : ClassId) (od dj : Nat) (mm : Int64) (bp : Addr) (kp : ClassId) (h0 : Heap) (Z0 : Ext Z.heap h0) (S_w_CS : own_w_CS Z w_CS) (R_w_SF : w_SF.isRef = true) (S_w_SF : own_w_SF Z w_SF) (E_bs : Exa Z h0 bs own_cS) (F_bs_coder : Fld Z h0 bs own_cS "coder" "B" (.int (0 : Int32))) (F_bs_value : Fld Z h0 bs own_cS "value" "[B" (.ref be)) (V_be : Arv Z h0 be ke .byte (Int32.ofNat cs.length) (own_ch cs) (.int (0 : Int32))) (V_bp : Arv Z h0 bp kp .long (10 : Int32) [(.long (1 : Int64)), (.long (10 : Int64)), (.long (100 : Int64)), (.long (1000 : Int64)), (.long (10000 : Int64)), (.long (100000 : Int64)), (.long (1000000 : Int64)), (.long (10000000 : Int64)), (.long (100000000 : Int64)), (.long (1000000000 : Int64))] (.long (0 : Int64))) (hc1 : ¬ (w_CS = (0 : Int32))) (hc91 : own_sub cs od kk mm) (hc92 : dj < 10) :
    own_met l y_34 method_6_code 9 (some .boolean) ws ({ frames := 4, cells := 0, slots := 0, locals := 53 } : Room) Z #[(.ref bs), (.int (Int32.ofNat od)), (.long mm), (.int (Int32.ofNat kk)), (.int (Int32.ofNat dj)), (.ref bp)] h0 (own_qp Z (some (.int (1 : Int32))) h0) := by
  have hn := hc91.1
  have h1 := hn.2.1
  have h2 := hn.2.2.1
  by_cases hj : dj < kk
  · exact own_mono (rm389 l Z a0 hw ws w_CS w_SF kk cs bs be ke (own_dc mm (kk - 1 - dj)) (own_dc mm (kk - 1 - dj)) od dj (own_pw (kk - 1 - dj)) mm (own_dl mm (kk - 1 - dj)) bp kp h0 Z0 S_w_CS S_w_SF R_w_SF E_bs F_bs_coder F_bs_value V_be V_bp (own_ofNat_lt hj (by omega)) (own_ofNat_sub (b := 1) (by omega) (by omega)) (own_ofNat_sub (by omega) (by omega)) ⟨(own_back (by omega)).2, own_ofNat_lt (b := 10) (by omega) (by omega)⟩ (own_pws (by omega)) (own_pw0 (by omega)) (own_dld (by omega) hn.1) (Int32.ofNat_add _ _).symm hc1 (own_sub_at hc91 hj) (own_dlc mm _)) fun v h L q => q
  · exact own_mono (rm392 l Z a0 hw ws kk bs od dj mm bp h0 Z0 (own_nlt (own_toI (by omega)) (own_toI (by omega)) (by omega))) fun v h L q => q
theorem own_sg1 {p : Program} {l : Launch} {e : Env} {s : State} {m : MethodId} {args : Array Value} {below : List Frame} {meth : Method} {c : Code} {T0 : State} {locs : List Loc} (Z : State) (a0 : Array Value) (hw : own_HW Z a0) (us : List Value) (nn : Int32) (jn : Nat) (ii : Int32) (ba : Addr) (cc : Int32) (ka : ClassId) (bd : Addr) (kd : ClassId) (vs : List Value) (x6 : Option Int32) (h0 : Heap) (Z0 : Ext Z.heap h0) (V_ba : Arv Z h0 ba ka .char nn vs (.int (0 : Int32))) (V_bd : Arv Z h0 bd kd .byte nn us (.int (0 : Int32))) (g_bd : Z.heap.size ≤ bd) (hc93 : ii < nn) (hc94 : own_ib ii nn) (hc95 : own_get vs ii (.int (0 : Int32)) (.int cc)) (hc96 : ¬ ((255 : Int32) < cc)) (hc97 : (ii).toNatClampNeg = jn) (hc18 : jn < us.length) (hc98 : ba ≠ bd) (X0 : Stand p l e ({ frames := 0, cells := 0, slots := 0, locals := 0 } : Room) s m args below meth c T0 locs 0 0) (hx : p.tables.exec = Jvm.exec) (hZ : Z.Warmed39 s.vm) (hby : c.code = jdk_52_method_21_code) (hml : c.maxLocals = 7) (hown : s.vm.findClass "java/lang/StringUTF16" = some m.cls) (e0 : T0.heap = h0) (N0 : Fr Z.heap.size locs) :
    ∃ (T' : State) (L' : List Loc) (h' : Heap), Stand p l e ({ frames := 0, cells := 0, slots := 0, locals := 0 } : Room) s m args below meth c T' L' 0 0 ∧ T'.heap = h' ∧ Fr Z.heap.size L' ∧ Keep h0 h' [bd] ∧ Ext Z.heap h' ∧ Arv Z h' ba ka .char nn vs (.int (0 : Int32)) ∧ Arv Z h' bd kd .byte nn (us.set jn (.int (cc.toInt8.toInt32))) (.int (0 : Int32)) ∧ ∀ target, Steps p.tables e below (T'.setTop (mkF m 3 #[rv ba, iv (ii + (1 : Int32)), rv bd, iv (ii + (1 : Int32)), iv nn, iv (ii + (1 : Int32)), iv cc] [])) target → Steps p.tables e below (T0.setTop (mkF m 3 #[rv ba, iv ii, rv bd, iv ii, iv nn, iv ii, (own_slot x6)] [])) target := by
  obtain ⟨cl393, Ar393, q393, S393, Nn393, H393, G393⟩ := id V_ba
  have hin393 : ¬ (ii < 0 ∨ cl393.slots.size ≤ (ii).toNatClampNeg) := inb_of S393 hc94
  have hat393 : cl393.slots[(ii).toNatClampNeg]? = some (.int cc) := Has.at H393 hin393 hc95
  obtain ⟨cl394, Ar394, q394, S394, Nn394, H394, G394⟩ := id V_bd
  have hin394 : ¬ (ii < 0 ∨ cl394.slots.size ≤ (ii).toNatClampNeg) := inb_of S394 hc94
  obtain ⟨T395, h395, X395, e395, W395, st395⟩ := stB X0 hx hZ e0 Ar394 (j := ii) hin394 (g := (mkF m 31 #[rv ba, iv ii, rv bd, iv ii, iv nn, iv ii, iv cc] [(.int (cc.toInt8.toInt32)), (.int ii), (.ref bd)])) rfl rfl (hb hby d6_31)
  rw [own_nb] at W395
  have V395 : Arv Z h395 bd kd .byte nn (us.set jn (.int (cc.toInt8.toInt32))) (.int (0 : Int32)) := Arv.set Ar394 q394 S394 Nn394 H394 G394 (fits_nar_byte _) W395 jn hc97 hc18
  have K395 := (Keep.refl h0 [bd]).wr W395 (Or.inl (List.mem_of_getElem? (i := 0) rfl))
  have XX395 := own_extW Z0 W395 g_bd
  have N395 := Fr.snoc X395 N0 g_bd
  refine ⟨_, _, _, X395, e395, N395, K395, XX395, (V_ba.other W395 hc98), V395, fun target kt => ?_⟩
  show own_S p e below T0 (mkF m 3 #[rv ba, iv ii, rv bd, iv ii, iv nn, iv ii, (own_slot x6)] []) _
  refine own_i X0 hx hby d6_3 ?_
  refine own_i X0 hx hby d6_5 ?_
  refine own_cn X0 hx hby d6_7 (tlt hc93).2.1 ?_
  refine own_aN X0 hx hby d6_10 ?_
  refine own_iN X0 hx hby d6_11 ?_
  refine X0.caload hx (j := ii) (v := (.int cc)) (by rw [e0]; exact Ar393.1) (State.isArrayOf_alike hZ.alike Ar393.2.1) Ar393.2.2 hin393 hat393 (g := (mkF m 12 #[rv ba, iv ii, rv bd, iv ii, iv nn, iv ii, (own_slot x6)] [(.int ii), (.ref ba)])) rfl rfl (hb hby d6_12) _ ?_
  refine XS.istore X0.here hx rfl (hb hby d6_13) rfl (l' := #[rv ba, iv ii, rv bd, iv ii, iv nn, iv ii, iv cc]) (by cases x6 <;> rfl) ?_
  refine own_i X0 hx hby d6_15 ?_
  refine XS.sipush X0.here hx rfl (hb hby d6_17) ?_
  refine own_cy (pc := 20) X0 hx hby d6_20 (flt hc96).2.2.2 26 ?_
  refine own_aN X0 hx hby d6_26 ?_
  refine own_iN X0 hx hby d6_27 ?_
  refine own_i X0 hx hby d6_28 ?_
  refine XS.i2b X0.here hx rfl (hb hby d6_30) rfl ?_
  refine st395 _ ?_
  refine XS.iinc X395.here hx rfl (hb hby d6_32) rfl (l' := #[rv ba, iv (ii + (1 : Int32)), rv bd, iv ii, iv nn, iv ii, iv cc]) rfl ?_
  refine XS.iinc X395.here hx rfl (hb hby d6_35) rfl (l' := #[rv ba, iv (ii + (1 : Int32)), rv bd, iv (ii + (1 : Int32)), iv nn, iv ii, iv cc]) rfl ?_
  refine XS.iinc X395.here hx rfl (hb hby d6_38) rfl (l' := #[rv ba, iv (ii + (1 : Int32)), rv bd, iv (ii + (1 : Int32)), iv nn, iv (ii + (1 : Int32)), iv cc]) rfl ?_
  refine own_go (pc := 41) X395 hx hby d6_41 3 ?_
  show own_S p e below T395 (mkF m 3 #[rv ba, iv (ii + (1 : Int32)), rv bd, iv (ii + (1 : Int32)), iv nn, iv (ii + (1 : Int32)), iv cc] []) _
  exact kt
theorem own_lp1 {p : Program} {l : Launch} {e : Env} {s : State} {m : MethodId} {args : Array Value} {below : List Frame} {meth : Method} {c : Code} (Z : State) (a0 : Array Value) (hw : own_HW Z a0) (ba : Addr) (ka : ClassId) (bd : Addr) (kd : ClassId) (zs : List Int32) (us : List Value) (ff : Nat) (hz : own_s1 zs) (hu : us.length = zs.length) (hf : ff ≤ zs.length) (h8 : own_all8 zs) (g_bd : Z.heap.size ≤ bd) (hne : ba ≠ bd) (hx : p.tables.exec = Jvm.exec) (hZ : Z.Warmed39 s.vm) (hby : c.code = jdk_52_method_21_code) (hml : c.maxLocals = 7) (hown : s.vm.findClass "java/lang/StringUTF16" = some m.cls) :
    ∀ (d i : Nat), i + d = ff → ∀ (T0 : State) (locs : List Loc) (h0 : Heap) (x6 : Option Int32), Ext Z.heap h0 → Arv Z h0 ba ka .char (Int32.ofNat zs.length) (own_ch zs) (.int (0 : Int32)) → Arv Z h0 bd kd .byte (Int32.ofNat zs.length) (own_mix i (own_ch (own_bl zs)) us) (.int (0 : Int32)) → Stand p l e ({ frames := 0, cells := 0, slots := 0, locals := 0 } : Room) s m args below meth c T0 locs 0 0 → T0.heap = h0 → Fr Z.heap.size locs → ∃ (T' : State) (L' : List Loc) (h' : Heap) (x6' : Option Int32), Stand p l e ({ frames := 0, cells := 0, slots := 0, locals := 0 } : Room) s m args below meth c T' L' 0 0 ∧ T'.heap = h' ∧ Fr Z.heap.size L' ∧ Keep h0 h' [bd] ∧ Ext Z.heap h' ∧ Arv Z h' ba ka .char (Int32.ofNat zs.length) (own_ch zs) (.int (0 : Int32)) ∧ Arv Z h' bd kd .byte (Int32.ofNat zs.length) (own_mix ff (own_ch (own_bl zs)) us) (.int (0 : Int32)) ∧ ∀ target, Steps p.tables e below (T'.setTop (mkF m 3 #[rv ba, iv (Int32.ofNat ff), rv bd, iv (Int32.ofNat ff), iv (Int32.ofNat zs.length), iv (Int32.ofNat ff), (own_slot x6')] [])) target → Steps p.tables e below (T0.setTop (mkF m 3 #[rv ba, iv (Int32.ofNat i), rv bd, iv (Int32.ofNat i), iv (Int32.ofNat zs.length), iv (Int32.ofNat i), (own_slot x6)] [])) target := by
  intro d
  induction d with
  | zero =>
    intro i hi T0 locs h0 x6 Z0 V_ba V_bd X0 e0 N0
    obtain rfl : i = ff := by omega
    exact ⟨T0, locs, h0, x6, X0, e0, N0, Keep.refl _ _, Z0, V_ba, V_bd, fun _ k => k⟩
  | succ d ih =>
    intro i hi T0 locs h0 x6 Z0 V_ba V_bd X0 e0 N0
    have hlt : i < ff := by omega
    have hs := hz.2
    have hb' := own_back (n := i) (by omega)
    have hl : (own_ch (own_bl zs)).length = us.length := by rw [hu, own_ch_len, own_bl_len]
    obtain ⟨T1, L1, h1, X1, e1, N1, K1, E1, q_V_ba, q_V_bd, st1⟩ := own_sg1 Z a0 hw (own_mix i (own_ch (own_bl zs)) us) (Int32.ofNat zs.length) i (Int32.ofNat i) ba (zs.getD i 0) ka bd kd (own_ch zs) x6 h0 Z0 V_ba V_bd g_bd (own_ofNat_lt (by omega) (by omega)) ⟨hb'.2, own_ofNat_lt (by omega) (by omega)⟩ (own_get_of i hb'.1 (own_ch_get zs i (by omega))) (h8 i (by omega)) hb'.1 (by rw [own_mix_len hl]; omega) hne X0 hx hZ hby hml hown e0 N0
    rw [own_mix_set hl (by omega) (own_bl_get zs i (by omega))] at q_V_bd
    rw [own_succ] at st1
    obtain ⟨T2, L2, h2, x6', X2, e2, N2, K2, E2, r_V_ba, r_V_bd, st2⟩ := ih (i + 1) (by omega) T1 L1 h1 (some (zs.getD i 0)) E1 q_V_ba q_V_bd X1 e1 N1
    exact ⟨T2, L2, h2, x6', X2, e2, N2, K1.trans K2 (allS (Or.inl (List.mem_of_getElem? (i := 0) rfl)) all0), E2, r_V_ba, r_V_bd, fun t k => st1 t (st2 t k)⟩
def Qrm396 (Z : State) (bd : Addr) (kd : ClassId) (zs : List Int32) (h0 : Heap) (v : Option Value) (h : Heap) (L : List Loc) : Prop := v = some (.int (Int32.ofNat zs.length)) ∧ Fr Z.heap.size L ∧ Keep h0 h [bd] ∧ Arv Z h bd kd .byte (Int32.ofNat zs.length) (own_ch (own_bl zs)) (.int (0 : Int32))
theorem rm396 (l : Launch) (Z : State) (a0 : Array Value) (hw : own_HW Z a0) (ws : List Jvm.Cond) (us : List Value) (ba : Addr) (ka : ClassId) (bd : Addr) (kd : ClassId) (zs : List Int32) (h0 : Heap) (Z0 : Ext Z.heap h0) (V_ba : Arv Z h0 ba ka .char (Int32.ofNat zs.length) (own_ch zs) (.int (0 : Int32))) (V_bd : Arv Z h0 bd kd .byte (Int32.ofNat zs.length) us (.int (0 : Int32))) (g_bd : Z.heap.size ≤ bd) (hc99 : own_s1 zs) (hc100 : us.length = zs.length) (hc101 : own_all8 zs) (hc98 : ba ≠ bd) :
    own_met l y_35 jdk_52_method_21_code 7 (some .int) ws ({ frames := 0, cells := 0, slots := 0, locals := 0 } : Room) Z #[(.ref ba), (.int (0 : Int32)), (.ref bd), (.int (0 : Int32)), (.int (Int32.ofNat zs.length))] h0 (Qrm396 Z bd kd zs h0) := by
  refine own_start (plainFor_of_name pn_9) (fun m => ef_jdk_52_method_21_RIRII m ba (0 : Int32) bd (0 : Int32) (Int32.ofNat zs.length)) ?_
  intro p e s m below meth c s₁ hx hby hml hown hnm X0 hZ e0 hret hlk
  have N0 := Fr.nil Z.heap.size
  obtain ⟨T397, L397, h397, y397_0, X397, e397, N397, K397q, XX397, q397_V_ba, q397_V_bd, st397⟩ := own_lp1 Z a0 hw ba ka bd kd zs us zs.length  hc99 hc100 (Nat.le_refl _) hc101 g_bd hc98 hx hZ hby hml hown _ 0 (Nat.zero_add _) _ _ _ none Z0 V_ba V_bd X0 e0 N0
  rw [own_mix_all zs.length (by rw [own_ch_len, own_bl_len]) hc100] at q397_V_bd
  have K397 := (Keep.refl h0 [bd]).trans K397q (allS (Or.inl (List.mem_of_getElem? (i := 0) rfl)) all0)
  obtain ⟨_, hr, hrun, hended, hW, hsame⟩ := X397.leave (v := some (.int (Int32.ofNat zs.length))) (fun h => by rw [hret] at h; cases h) hlk
  refine ⟨_, _, ?_, hrun, hended, _, _, rfl, ?_, ⟨_, rfl⟩, hW, hsame.mono (by decide) (by decide)⟩
  · show own_S p e below s₁ (mkF m 0 #[rv ba, iv (0 : Int32), rv bd, iv (0 : Int32), iv (Int32.ofNat zs.length), .unset, .unset] []) _
    refine own_k X0 hx hby d6_0 ?_
    refine XS.istore X0.here hx rfl (hb hby d6_1) rfl (l' := #[rv ba, iv (0 : Int32), rv bd, iv (0 : Int32), iv (Int32.ofNat zs.length), iv (0 : Int32), .unset]) rfl ?_
    refine st397 _ ?_
    show own_S p e below T397 (mkF m 3 #[rv ba, iv (Int32.ofNat zs.length), rv bd, iv (Int32.ofNat zs.length), iv (Int32.ofNat zs.length), iv (Int32.ofNat zs.length), (own_slot y397_0)] []) _
    refine own_i X397 hx hby d6_3 ?_
    refine own_i X397 hx hby d6_5 ?_
    refine own_cy (pc := 7) X397 hx hby d6_7 (flt (Int32.lt_irrefl : ¬ ((Int32.ofNat zs.length) < (Int32.ofNat zs.length)))).2.1 44 ?_
    refine own_i X397 hx hby d6_44 ?_
    exact retI X397 hx hret (hb hby d6_46) hr
  · show Qrm396 Z bd kd zs h0 _ T397.heap _
    rw [e397]
    exact ⟨rfl, N397, K397, q397_V_bd⟩
def Qrm403 (Z : State) (zs : List Int32) (h0 : Heap) (v : Option Value) (h : Heap) (L : List Loc) : Prop := ∃ b404 : Addr, ∃ k404 : ClassId, v = some (.ref b404) ∧ Fr Z.heap.size L ∧ Keep h0 h [] ∧ h0.size ≤ b404 ∧ Arv Z h b404 k404 .byte (Int32.ofNat zs.length) (own_ch (own_bl zs)) (.int (0 : Int32))
theorem rm403 (l : Launch) (Z : State) (a0 : Array Value) (hw : own_HW Z a0) (ws : List Jvm.Cond) (ba : Addr) (ka : ClassId) (zs : List Int32) (h0 : Heap) (Z0 : Ext Z.heap h0) (V_ba : Arv Z h0 ba ka .char (Int32.ofNat zs.length) (own_ch zs) (.int (0 : Int32))) (hc99 : own_s1 zs) (hc101 : own_all8 zs) :
    own_met l y_36 jdk_52_method_16_code 6 (some (.array .byte)) ws ({ frames := 1, cells := 1, slots := 3, locals := 18 } : Room) Z #[(.ref ba), (.int (0 : Int32)), (.int (Int32.ofNat zs.length))] h0 (Qrm403 Z zs h0) := by
  refine own_start (plainFor_of_name pn_9) (fun m => ef_jdk_52_method_16_RII m ba (0 : Int32) (Int32.ofNat zs.length)) ?_
  intro p e s m below meth c s₁ hx hby hml hown hnm X0 hZ e0 hret hlk
  have N0 := Fr.nil Z.heap.size
  obtain ⟨T404, h404, k404, X404, e404, E404, A404, st404⟩ := newP X0 hx hZ (own_w hw 23 rfl) e0 (g := (mkF m 1 #[rv ba, iv (0 : Int32), iv (Int32.ofNat zs.length), .unset, .unset, .unset] [(.int (Int32.ofNat zs.length))])) rfl (hb hby d5_1) rfl (own_z_nn hc99) (cap := 3) (own_z_cap hc99) (by decide) (by decide) (by decide)
  obtain ⟨b404, g404⟩ : ∃ z, z = h0.size := ⟨_, rfl⟩
  rw [← g404] at A404 st404
  have g_b404 := Nat.le_trans Z0.1 (Nat.le_of_eq g404.symm)
  have sz_b404 := Nat.le_trans (Keep.refl h0 []).1 (Nat.le_of_eq g404.symm)
  have V_b404 : Arv Z h404 b404 k404 .byte (Int32.ofNat zs.length) (List.replicate zs.length (.int (0 : Int32))) (.int (0 : Int32)) := (Arv.new A404 (own_z_nn hc99)).pad (pad_rep [] (.int (0 : Int32)) zs.length)
  have K404 := (Keep.refl h0 []).ext E404
  have XX404 := own_ext2 Z0 E404
  have ne_ba_b404 := Nat.ne_of_lt (Nat.lt_of_lt_of_le V_ba.lt (Nat.le_of_eq g404.symm))
  obtain ⟨_, T405, Lc405, X405, hQ405, st405⟩ := own_static (y := y_35) X404 hx hZ hown (own_w hw 24 rfl) (own_w hw 25 rfl) (own_w hw 21 rfl) (own_w hw 26 rfl) (rm396 l Z a0 hw [] (List.replicate zs.length (.int (0 : Int32))) ba ka b404 k404 zs h404 XX404 (V_ba.ext E404) V_b404 g_b404 hc99 List.length_replicate hc101 ne_ba_b404) e404 (g := (mkF m 9 #[rv ba, iv (0 : Int32), iv (Int32.ofNat zs.length), rv b404, .unset, .unset] [(.int (Int32.ofNat zs.length)), (.int (0 : Int32)), (.ref b404), (.int (0 : Int32)), (.ref ba)])) (argsL := [(.ref ba), (.int (0 : Int32)), (.ref b404), (.int (0 : Int32)), (.int (Int32.ofNat zs.length))]) (rest := []) (W := 0) (lenOf pd_22 rfl) (hb hby d5_9) hml
  obtain ⟨rfl, N405q, K405q, q405_V_b404⟩ := hQ405
  have K405 := K404.trans K405q (allS (Or.inr sz_b404) all0)
  have N405 := Fr.app N0 N405q
  obtain ⟨_, hr, hrun, hended, hW, hsame⟩ := X405.leave (v := some (.ref b404)) (fun h => by rw [hret] at h; cases h) hlk
  refine ⟨_, _, ?_, hrun, hended, _, _, rfl, ?_, ⟨_, rfl⟩, hW, hsame.mono (by decide) (by decide)⟩
  · show own_S p e below s₁ (mkF m 0 #[rv ba, iv (0 : Int32), iv (Int32.ofNat zs.length), .unset, .unset, .unset] []) _
    refine own_iN X0 hx hby d5_0 ?_
    refine st404 _ ?_
    refine XS.astoreN X404.here hx rfl (hb hby d5_3) rfl rfl (l' := #[rv ba, iv (0 : Int32), iv (Int32.ofNat zs.length), rv b404, .unset, .unset]) rfl ?_
    refine own_aN X404 hx hby d5_4 ?_
    refine own_iN X404 hx hby d5_5 ?_
    refine own_aN X404 hx hby d5_6 ?_
    refine own_k X404 hx hby d5_7 ?_
    refine own_iN X404 hx hby d5_8 ?_
    refine st405 _ ?_
    refine XS.istore X405.here hx rfl (hb hby d5_12) rfl (l' := #[rv ba, iv (0 : Int32), iv (Int32.ofNat zs.length), rv b404, iv (Int32.ofNat zs.length), .unset]) rfl ?_
    refine own_i X405 hx hby d5_14 ?_
    refine own_iN X405 hx hby d5_16 ?_
    refine own_cy (pc := 17) X405 hx hby d5_17 (teq (rfl : (Int32.ofNat zs.length) = (Int32.ofNat zs.length))).1 57 ?_
    refine own_aN X405 hx hby d5_57 ?_
    jvm_step X405.here [X405.here.top, hx, (hb hby d5_58), X405.method', hret, Value.isRef, FieldType.isReference]
    first | (intro acts; rw [hr _ acts rfl rfl rfl]) | rw [hr _ _ rfl rfl rfl]
    exact Steps.refl _
  · show Qrm403 Z zs h0 _ T405.heap _
    exact ⟨b404, k404, rfl, N405, K405, sz_b404, q405_V_b404⟩
theorem rm409 (l : Launch) (Z : State) (a0 : Array Value) (hw : own_HW Z a0) (ws : List Jvm.Cond) (zs : List Int32) (b407 : Addr) (k408 : ClassId) (h0 : Heap) (Z0 : Ext Z.heap h0) (V_b407 : Arv Z h0 b407 k408 .byte (Int32.ofNat zs.length) (own_ch (own_bl zs)) (.int (0 : Int32))) :
    own_met l y_37 jdk_52_method_15_code 2 (some .byte) ws ({ frames := 0, cells := 0, slots := 0, locals := 0 } : Room) Z #[(.ref b407), (.int (Int32.ofNat zs.length))] h0 (own_qp Z (some (.int (0 : Int32))) h0) := by
  refine own_start (plainFor_of_name pn_9) (fun m => ef_jdk_52_method_15_RI m b407 (Int32.ofNat zs.length)) ?_
  intro p e s m below meth c s₁ hx hby hml hown hnm X0 hZ e0 hret hlk
  have N0 := Fr.nil Z.heap.size
  obtain ⟨cl410, Ar410, q410, S410, Nn410, H410, G410⟩ := id V_b407
  obtain ⟨_, hr, hrun, hended, hW, hsame⟩ := X0.leave (v := some (.int (0 : Int32))) (fun h => by rw [hret] at h; cases h) hlk
  refine ⟨_, _, ?_, hrun, hended, _, _, rfl, ?_, ⟨_, rfl⟩, hW, hsame.mono (by decide) (by decide)⟩
  · show own_S p e below s₁ (mkF m 0 #[rv b407, iv (Int32.ofNat zs.length)] []) _
    refine own_iN X0 hx hby d7_0 ?_
    refine own_aN X0 hx hby d7_1 ?_
    refine X0.arraylength hx (by rw [e0]; exact Ar410.1) (State.isArrayOf_alike hZ.alike Ar410.2.1) (g := (mkF m 2 #[rv b407, iv (Int32.ofNat zs.length)] [(.ref b407), (.int (Int32.ofNat zs.length))])) rfl rfl (hb hby d7_2) _ ?_
    rw [len_of S410 Nn410]
    refine XS.isub X0.here hx rfl (hb hby d7_3) rfl ?_
    refine XS.bipush X0.here hx rfl (hb hby d7_4) ?_
    refine XS.iushr X0.here hx rfl (hb hby d7_6) rfl ?_
    show own_S p e below s₁ (mkF m 7 #[rv b407, iv (Int32.ofNat zs.length)] [(.int ((((Int32.ofNat zs.length) - (Int32.ofNat zs.length)).toUInt32 >>> ((31 : Int32) &&& 31).toUInt32).toInt32))]) _
    rw [(own_z_c0 _)]
    refine XS.i2b X0.here hx rfl (hb hby d7_7) rfl ?_
    show own_S p e below s₁ (mkF m 8 #[rv b407, iv (Int32.ofNat zs.length)] [(.int ((0 : Int32).toInt8.toInt32))]) _
    rw [(by decide : ((0 : Int32).toInt8.toInt32) = (0 : Int32))]
    exact retN X0 hx (t := .byte) hret (by simp) (hb hby d7_8) hr
  · show own_qp Z (some (.int (0 : Int32))) h0 _ s₁.heap _
    rw [e0]
    exact ⟨rfl, N0, rfl⟩
def Qrm400 (Z : State) (bb : Addr) (zs : List Int32) (h0 : Heap) (v : Option Value) (h : Heap) (L : List Loc) : Prop := ∃ b407 : Addr, ∃ k408 : ClassId, v = none ∧ Fr Z.heap.size L ∧ Keep h0 h [bb] ∧ h0.size ≤ b407 ∧ Exa Z h bb own_cS ∧ Fld Z h bb own_cS "coder" "B" (.int (0 : Int32)) ∧ Fld Z h bb own_cS "value" "[B" (.ref b407) ∧ Arv Z h b407 k408 .byte (Int32.ofNat zs.length) (own_ch (own_bl zs)) (.int (0 : Int32))
theorem rm400 (l : Launch) (Z : State) (a0 : Array Value) (hw : own_HW Z a0) (ws : List Jvm.Cond) (w_CS : Int32) (bb ba : Addr) (ka : ClassId) (zs : List Int32) (h0 : Heap) (Z0 : Ext Z.heap h0) (S_w_CS : own_w_CS Z w_CS) (E_bb : Exa Z h0 bb own_cS) (F_bb_coder : Fld Z h0 bb own_cS "coder" "B" (.int (0 : Int32))) (F_bb_value : Fld Z h0 bb own_cS "value" "[B" .null) (V_ba : Arv Z h0 ba ka .char (Int32.ofNat zs.length) (own_ch zs) (.int (0 : Int32))) (g_bb : Z.heap.size ≤ bb) (hc99 : own_s1 zs) (hc1 : ¬ (w_CS = (0 : Int32))) (hc101 : own_all8 zs) :
    own_met l y_38 jdk_42_method_149_code 6 none ws ({ frames := 2, cells := 1, slots := 3, locals := 35 } : Room) Z #[(.ref bb), (.ref ba), (.int (0 : Int32)), (.int (Int32.ofNat zs.length)), .null] h0 (Qrm400 Z bb zs h0) := by
  refine own_start (plainFor_of_name pn_5) (fun m => ef_jdk_42_method_149_RRIIn m bb ba (0 : Int32) (Int32.ofNat zs.length)) ?_
  intro p e s m below meth c s₁ hx hby hml hown hnm X0 hZ e0 hret hlk
  have N0 := Fr.nil Z.heap.size
  obtain ⟨T401, X401, e401, st401⟩ := initO X0 hx hZ hown (own_w hw 15 rfl) (own_w hw 16 rfl) (own_w hw 17 rfl) e0 (g := (mkF m 1 #[rv bb, rv ba, iv (0 : Int32), iv (Int32.ofNat zs.length), .val .null, .unset] [(.ref bb)])) rfl (by rw [hml]; rfl) rfl (hb hby d3_1) (by decide) (W := 0) (by show 2 * 0 + _ ≤ _; exact Nat.le_of_eq rfl) (by decide)
  obtain ⟨T402, X402, e402, st402⟩ := getS2 X401 hx hZ hown (host := "") (Or.inl (own_w hw 18 rfl)) Via.refl e401 (S_w_CS.ext Z0) (g := (mkF m 27 #[rv bb, rv ba, iv (0 : Int32), iv (Int32.ofNat zs.length), .val .null, .unset] [])) rfl (hb hby d3_27)
  obtain ⟨_, T406, Lc406, X406, hQ406, st406⟩ := own_static (y := y_36) X402 hx hZ hown (own_w hw 19 rfl) (own_w hw 20 rfl) (own_w hw 21 rfl) (own_w hw 22 rfl) (rm403 l Z a0 hw [] ba ka zs h0 Z0 V_ba hc99 hc101) e402 (g := (mkF m 36 #[rv bb, rv ba, iv (0 : Int32), iv (Int32.ofNat zs.length), .val .null, .unset] [(.int (Int32.ofNat zs.length)), (.int (0 : Int32)), (.ref ba)])) (argsL := [(.ref ba), (.int (0 : Int32)), (.int (Int32.ofNat zs.length))]) (rest := []) (W := 0) (lenOf pd_23 rfl) (hb hby d3_36) hml
  obtain ⟨b407, k408, rfl, N406q, K406q, szn_b407, q406_V_b407⟩ := hQ406
  have sz_b407 := Nat.le_trans (Keep.refl h0 [bb]).1 szn_b407
  have K406 := (Keep.refl h0 [bb]).trans K406q all0
  have XX406 := own_extK Z0 K406q all0
  have N406 := Fr.app N0 N406q
  obtain ⟨_, T411, Lc411, X411, hQ411, st411⟩ := own_static (y := y_37) X406 hx hZ hown (own_w hw 27 rfl) (own_w hw 28 rfl) (own_w hw 21 rfl) (own_w hw 29 rfl) (rm409 l Z a0 hw [] zs b407 k408 T406.heap XX406 q406_V_b407) rfl (g := (mkF m 45 #[rv bb, rv ba, iv (0 : Int32), iv (Int32.ofNat zs.length), .val .null, rv b407] [(.int (Int32.ofNat zs.length)), (.ref b407), (.ref bb)])) (argsL := [(.ref b407), (.int (Int32.ofNat zs.length))]) (rest := [(.ref bb)]) (W := 1) (lenOf pd_24 rfl) (hb hby d3_45) hml
  obtain ⟨rfl, N411q, e411⟩ := hQ411
  have N411 := Fr.app N406 N411q
  obtain ⟨T412, h412, X412, e412, W412, st412⟩ := putFN X411 hx hZ hown (own_w hw 30 rfl) Via.refl e411 (F_bb_coder.keep K406q nin0) (E_bb.keep K406q) (Or.inr ⟨(own_w hw 31 rfl), rfl, hnm⟩) (own_w hw 5 rfl) (ty := .byte) (v' := (.int (0 : Int32))) (by decide) rfl (by decide) (g := (mkF m 48 #[rv bb, rv ba, iv (0 : Int32), iv (Int32.ofNat zs.length), .val .null, rv b407] [(.int (0 : Int32)), (.ref bb)])) rfl rfl (hb hby d3_48)
  have K412 := K406.wr W412 (Or.inl (List.mem_of_getElem? (i := 0) rfl))
  have N412 := Fr.snoc X412 N411 g_bb
  have f413_F_bb_value := ((F_bb_value.keep K406q nin0).other W412 (Or.inr (slot_ne (Or.inr (own_w hw 33 rfl)) (Or.inr (own_w hw 31 rfl)) (by decide) (t := (.array .byte)) (t' := .byte) (by decide) (by decide))))
  obtain ⟨T414, h414, X414, e414, W414, st414⟩ := putF X412 hx hZ hown (host := "") (Or.inl (own_w hw 32 rfl)) Via.refl e412 f413_F_bb_value ((E_bb.keep K406q).wr W412) (Or.inr ⟨(own_w hw 33 rfl), rfl, hnm⟩) (own_w hw 5 rfl) (ty := (.array .byte)) (by decide) rfl rfl (g := (mkF m 54 #[rv bb, rv ba, iv (0 : Int32), iv (Int32.ofNat zs.length), .val .null, rv b407] [(.ref b407), (.ref bb)])) rfl rfl (hb hby d3_54)
  have K414 := K412.wr W414 (Or.inl (List.mem_of_getElem? (i := 0) rfl))
  have N414 := Fr.snoc X414 N412 g_bb
  have f415_F_bb_coder := (((F_bb_coder.keep K406q nin0).same W412).other W414 (Or.inr (slot_ne (Or.inr (own_w hw 31 rfl)) (Or.inr (own_w hw 33 rfl)) (by decide) (t := .byte) (t' := (.array .byte)) (by decide) (by decide))))
  have ne_bb_b407 := Nat.ne_of_lt (Nat.lt_of_lt_of_le E_bb.lt szn_b407)
  have f416_V_b407 := ((q406_V_b407.other W412 (Ne.symm ne_bb_b407)).other W414 (Ne.symm ne_bb_b407))
  obtain ⟨_, hr, hrun, hended, hW, hsame⟩ := X414.leave (v := none) (fun _ => rfl) hlk
  refine ⟨_, _, ?_, hrun, hended, _, _, rfl, ?_, ⟨_, rfl⟩, hW, hsame.mono (by decide) (by decide)⟩
  · show own_S p e below s₁ (mkF m 0 #[rv bb, rv ba, iv (0 : Int32), iv (Int32.ofNat zs.length), .val .null, .unset] []) _
    refine own_aN X0 hx hby d3_0 ?_
    refine st401 _ ?_
    refine own_iN X401 hx hby d3_4 ?_
    refine own_iy (pc := 5) X401 hx hby d3_5 (feq (own_z_ne hc99)).2 27 ?_
    refine st402 _ ?_
    refine own_in X402 hx hby d3_30 (feq hc1).1 ?_
    refine own_aN X402 hx hby d3_33 ?_
    refine own_iN X402 hx hby d3_34 ?_
    refine own_iN X402 hx hby d3_35 ?_
    refine st406 _ ?_
    refine XS.astore X406.here hx rfl (hb hby d3_39) rfl rfl (l' := #[rv bb, rv ba, iv (0 : Int32), iv (Int32.ofNat zs.length), .val .null, rv b407]) rfl ?_
    refine own_aN X406 hx hby d3_41 ?_
    refine own_a X406 hx hby d3_42 ?_
    refine own_iN X406 hx hby d3_44 ?_
    refine st411 _ ?_
    refine st412 _ ?_
    refine own_aN X412 hx hby d3_51 ?_
    refine own_a X412 hx hby d3_52 ?_
    refine st414 _ ?_
    exact X414.returnOut hx hret (hb hby d3_57) hr
  · show Qrm400 Z bb zs h0 _ T414.heap _
    rw [e414]
    exact ⟨b407, k408, rfl, N414, K414, sz_b407, (((E_bb.keep K406q).wr W412).wr W414), f415_F_bb_coder, (f413_F_bb_value.same W414), f416_V_b407⟩
def Qrm398 (Z : State) (bb : Addr) (zs : List Int32) (h0 : Heap) (v : Option Value) (h : Heap) (L : List Loc) : Prop := ∃ b418 : Addr, ∃ k419 : ClassId, v = none ∧ Fr Z.heap.size L ∧ Keep h0 h [bb] ∧ h0.size ≤ b418 ∧ Exa Z h bb own_cS ∧ Fld Z h bb own_cS "coder" "B" (.int (0 : Int32)) ∧ Fld Z h bb own_cS "value" "[B" (.ref b418) ∧ Arv Z h b418 k419 .byte (Int32.ofNat zs.length) (own_ch (own_bl zs)) (.int (0 : Int32))
theorem rm398 (l : Launch) (Z : State) (a0 : Array Value) (hw : own_HW Z a0) (ws : List Jvm.Cond) (w_CS : Int32) (bb ba : Addr) (ka : ClassId) (zs : List Int32) (h0 : Heap) (Z0 : Ext Z.heap h0) (S_w_CS : own_w_CS Z w_CS) (E_bb : Exa Z h0 bb own_cS) (F_bb_coder : Fld Z h0 bb own_cS "coder" "B" (.int (0 : Int32))) (F_bb_value : Fld Z h0 bb own_cS "value" "[B" .null) (V_ba : Arv Z h0 ba ka .char (Int32.ofNat zs.length) (own_ch zs) (.int (0 : Int32))) (g_bb : Z.heap.size ≤ bb) (hc99 : own_s1 zs) (hc1 : ¬ (w_CS = (0 : Int32))) (hc101 : own_all8 zs) :
    own_met l y_39 jdk_42_method_3_code 2 none ws ({ frames := 3, cells := 1, slots := 3, locals := 52 } : Room) Z #[(.ref bb), (.ref ba)] h0 (Qrm398 Z bb zs h0) := by
  refine own_start (plainFor_of_name pn_5) (fun m => ef_jdk_42_method_3_RR m bb ba) ?_
  intro p e s m below meth c s₁ hx hby hml hown hnm X0 hZ e0 hret hlk
  have N0 := Fr.nil Z.heap.size
  obtain ⟨cl399, Ar399, q399, S399, Nn399, H399, G399⟩ := id V_ba
  obtain ⟨_, T417, Lc417, X417, hQ417, st417⟩ := own_special (y := y_38) X0 hx hZ hown rfl (own_w hw 11 rfl) (own_w hw 12 rfl) (own_w hw 6 rfl) (own_w hw 14 rfl) (rm400 l Z a0 hw [] w_CS bb ba ka zs h0 Z0 S_w_CS E_bb F_bb_coder F_bb_value V_ba g_bb hc99 hc1 hc101) e0 bb (g := (mkF m 6 #[rv bb, rv ba] [.null, (.int (Int32.ofNat zs.length)), (.int (0 : Int32)), (.ref ba), (.ref bb)])) (argsL := [(.ref ba), (.int (0 : Int32)), (.int (Int32.ofNat zs.length)), .null]) (rest := []) (W := 0) (lenOf pd_25 rfl) (hb hby d2_6) hml
  obtain ⟨b418, k419, rfl, N417q, K417q, szn_b418, q417_E_bb, q417_F_bb_coder, q417_F_bb_value, q417_V_b418⟩ := hQ417
  have sz_b418 := Nat.le_trans (Keep.refl h0 [bb]).1 szn_b418
  have K417 := (Keep.refl h0 [bb]).trans K417q (allS (Or.inl (List.mem_of_getElem? (i := 0) rfl)) all0)
  have N417 := Fr.app N0 N417q
  obtain ⟨_, hr, hrun, hended, hW, hsame⟩ := X417.leave (v := none) (fun _ => rfl) hlk
  refine ⟨_, _, ?_, hrun, hended, _, _, rfl, ?_, ⟨_, rfl⟩, hW, hsame.mono (by decide) (by decide)⟩
  · show own_S p e below s₁ (mkF m 0 #[rv bb, rv ba] []) _
    refine own_aN X0 hx hby d2_0 ?_
    refine own_aN X0 hx hby d2_1 ?_
    refine own_k X0 hx hby d2_2 ?_
    refine own_aN X0 hx hby d2_3 ?_
    refine X0.arraylength hx (by rw [e0]; exact Ar399.1) (State.isArrayOf_alike hZ.alike Ar399.2.1) (g := (mkF m 4 #[rv bb, rv ba] [(.ref ba), (.int (0 : Int32)), (.ref ba), (.ref bb)])) rfl rfl (hb hby d2_4) _ ?_
    rw [len_of S399 Nn399]
    refine XS.aconstNull X0.here hx rfl (hb hby d2_5) ?_
    refine st417 _ ?_
    exact X417.returnOut hx hret (hb hby d2_9) hr
  · show Qrm398 Z bb zs h0 _ T417.heap _
    exact ⟨b418, k419, rfl, N417, K417, sz_b418, q417_E_bb, q417_F_bb_coder, q417_F_bb_value, q417_V_b418⟩
theorem own_hEL {Z : State} {a0 : Array Value} (hw : own_HW Z a0) : EW Z a0 consts_1 := (EW.cons (own_w hw 143 rfl) (by decide) (EW.cons (own_w hw 120 rfl) (by decide) (EW.cons (own_w hw 34 rfl) (by decide) EW.nil)))
theorem own_wS {Z : State} {a0 : Array Value} (hw : own_HW Z a0) : ∀ a ∈ Bundle.stringAtoms, a.before a0 Z = true := by
  intro a ha
  simp only [Bundle.stringAtoms, List.mem_cons, List.not_mem_nil, or_false] at ha
  rcases ha with rfl | rfl | rfl | rfl | rfl | rfl | rfl
  · exact own_w hw 6 rfl
  · exact own_w hw 5 rfl
  · exact own_w hw 23 rfl
  · exact own_w hw 33 rfl
  · exact own_w hw 31 rfl
  · exact own_w hw 35 rfl
  · exact own_w hw 36 rfl
def Qrm420 (Z : State) (bb : Addr) (h0 : Heap) (v : Option Value) (h : Heap) (L : List Loc) : Prop := v = none ∧ Fr Z.heap.size L ∧ Keep h0 h [bb] ∧ Exa Z h bb own_cS ∧ own_rep Z h bb []
theorem rm420 (l : Launch) (Z : State) (a0 : Array Value) (hw : own_HW Z a0) (ws : List Jvm.Cond) (bb ba : Addr) (h0 : Heap) (Z0 : Ext Z.heap h0) (E_bb : Exa Z h0 bb own_cS) (F_bb_coder : Fld Z h0 bb own_cS "coder" "B" (.int (0 : Int32))) (F_bb_value : Fld Z h0 bb own_cS "value" "[B" .null) (g_bb : Z.heap.size ≤ bb) :
    own_metW l y_38 jdk_42_method_149_code 6 none ws ({ frames := 1, cells := 4, slots := 8, locals := 12 } : Room) Z #[(.ref bb), (.ref ba), (.int (0 : Int32)), (.int (0 : Int32)), .null] h0 (Qrm420 Z bb h0) := by
  refine own_startW (plainFor_of_name pn_5) (fun m => ef_jdk_42_method_149_RRIIn m bb ba (0 : Int32) (0 : Int32)) ?_
  intro p e s m below meth c s₁ hx hby hml hown hnm X0 hZ e0 hret hlk hs0 hC0
  have N0 := Fr.nil Z.heap.size
  have CR0 : CHr Z consts_1 s.vm h0 s.vm h0 := CHr.refl hC0
  have hS0 : s.Since s.vm 0 := (State.WarmedH.refl s).since 0
  have hk0 : 0 ≤ h0.size := Nat.zero_le _
  have sf421_bb : Safe Z consts_1 s.vm h0 bb := own_safe hZ.alike E_bb (own_w hw 5 rfl) F_bb_value
  obtain ⟨T422, X422, e422, st422⟩ := initO X0 hx hZ hown (own_w hw 15 rfl) (own_w hw 16 rfl) (own_w hw 17 rfl) e0 (g := (mkF m 1 #[rv bb, rv ba, iv (0 : Int32), iv (0 : Int32), .val .null, .unset] [(.ref bb)])) rfl (by rw [hml]; rfl) rfl (hb hby d3_1) (by decide) (W := 0) (by show 2 * 0 + _ ≤ _; exact Nat.le_of_eq rfl) (by decide)
  obtain ⟨ba423, T423, h423, k1_423, bb423, kb423, X423, e423, E423, hS423, hk423, hZ423, hown423, EA423, FC423, FV423, AV423, -, -, hC423, -, hn423, st423⟩ := ldcCH (s := s) (vm0 := s.vm) X422 hx hZ hown (own_w hw 34 rfl) (own_wS hw) e422 hS0 hk0 (own_hEL hw) (List.mem_of_getElem? (i := 2) rfl) CR0.1 (vs := []) (z := (0 : Int32)) ⟨by decide, rfl⟩ (by decide) (by decide) (g := (mkF m 9 #[rv bb, rv ba, iv (0 : Int32), iv (0 : Int32), .val .null, .unset] [(.ref bb)])) rfl (hb hby d3_9) (n := 0) (by decide) (by decide) (by decide) (by decide)
  have sf423_bb := hC423.safe E_bb.lt sf421_bb
  have CR423 := CR0.trans hC423
  have ne_bb_bb423 := (hn423 _ sf423_bb).2
  have K423 := (Keep.refl h0 [bb]).ext E423
  obtain ⟨T424, X424, e424, st424⟩ := getF X423 hx hZ423 hown423 (host := "") (Or.inl (own_w hw 32 rfl)) Via.refl e423 FV423 (g := (mkF m 11 #[rv bb, rv ba, iv (0 : Int32), iv (0 : Int32), .val .null, .unset] [(.ref ba423), (.ref bb)])) rfl rfl (hb hby d3_11)
  obtain ⟨T425, h425, X425, e425, W425, st425⟩ := putF X424 hx hZ423 hown423 (host := "") (Or.inl (own_w hw 32 rfl)) Via.refl e424 (F_bb_value.ext E423) (E_bb.ext E423) (Or.inr ⟨(own_w hw 33 rfl), rfl, hnm⟩) (own_w hw 5 rfl) (ty := (.array .byte)) (by decide) rfl rfl (g := (mkF m 14 #[rv bb, rv ba, iv (0 : Int32), iv (0 : Int32), .val .null, .unset] [(.ref bb423), (.ref bb)])) rfl rfl (hb hby d3_14)
  have K425 := K423.wr W425 (Or.inl (List.mem_of_getElem? (i := 0) rfl))
  have N425 := Fr.snoc X425 N0 g_bb
  have CQ425 := CHr.wr W425 sf423_bb CR423.1
  have sf425_bb := Safe.wr W425 sf423_bb CR423.1 sf423_bb
  have CR425 := CR423.trans CQ425
  have hk425 := Nat.le_trans hk423 CQ425.2.1
  obtain ⟨ba426, T426, h426, k1_426, bb426, kb426, X426, e426, E426, hS426, hk426, hZ426, hown426, EA426, FC426, FV426, AV426, -, -, hC426, -, hn426, st426⟩ := ldcCH (s := s) (vm0 := T423.vm) X425 hx hZ423 hown423 (own_w hw 34 rfl) (own_wS hw) e425 hS423 hk425 (own_hEL hw) (List.mem_of_getElem? (i := 2) rfl) CR425.1 (vs := []) (z := (0 : Int32)) ⟨by decide, rfl⟩ (by decide) (by decide) (g := (mkF m 18 #[rv bb, rv ba, iv (0 : Int32), iv (0 : Int32), .val .null, .unset] [(.ref bb)])) rfl (hb hby d3_18) (n := 0) (by decide) (by decide) (by decide) (by decide)
  have sf426_bb := hC426.safe ((E_bb.ext E423).wr W425).lt sf425_bb
  have CR426 := CR425.trans hC426
  have K426 := K425.ext E426
  obtain ⟨T427, X427, e427, st427⟩ := getF X426 hx hZ426 hown426 (host := "") (Or.inl (own_w hw 30 rfl)) Via.refl e426 FC426 (g := (mkF m 20 #[rv bb, rv ba, iv (0 : Int32), iv (0 : Int32), .val .null, .unset] [(.ref ba426), (.ref bb)])) rfl rfl (hb hby d3_20)
  have f428_F_bb_coder := (((F_bb_coder.ext E423).other W425 (Or.inr (slot_ne (Or.inr (own_w hw 31 rfl)) (Or.inr (own_w hw 33 rfl)) (by decide) (t := .byte) (t' := (.array .byte)) (by decide) (by decide)))).ext E426)
  obtain ⟨T429, h429, X429, e429, W429, st429⟩ := putFN X427 hx hZ426 hown426 (own_w hw 30 rfl) Via.refl e427 f428_F_bb_coder (((E_bb.ext E423).wr W425).ext E426) (Or.inr ⟨(own_w hw 31 rfl), rfl, hnm⟩) (own_w hw 5 rfl) (ty := .byte) (v' := (.int (0 : Int32))) (by decide) rfl (by decide) (g := (mkF m 23 #[rv bb, rv ba, iv (0 : Int32), iv (0 : Int32), .val .null, .unset] [(.int (0 : Int32)), (.ref bb)])) rfl rfl (hb hby d3_23)
  have K429 := K426.wr W429 (Or.inl (List.mem_of_getElem? (i := 0) rfl))
  have N429 := Fr.snoc X429 N425 g_bb
  have CQ429 := CHr.wr W429 sf426_bb CR426.1
  have CR429 := CR426.trans CQ429
  have hk429 := Nat.le_trans hk426 CQ429.2.1
  have f430_F_bb_value := ((((F_bb_value.ext E423).same W425).ext E426).other W429 (Or.inr (slot_ne (Or.inr (own_w hw 33 rfl)) (Or.inr (own_w hw 31 rfl)) (by decide) (t := (.array .byte)) (t' := .byte) (by decide) (by decide))))
  have f431_V_bb423 := (((AV423.other W425 (Ne.symm ne_bb_bb423)).ext E426).other W429 (Ne.symm ne_bb_bb423))
  have T432_bb : own_rep Z h429 bb [] := ⟨bb423, kb423, f430_F_bb_value, (f428_F_bb_coder.same W429), f431_V_bb423⟩
  obtain ⟨_, hr, hrun, hended, hend⟩ := leaveW (s := s) (vm₁ := T426.vm) X429 hS426 (by rw [e429]; exact hk429) (v := none) (fun _ => rfl) hlk
  refine ⟨_, _, ?_, hrun, hended, _, _, rfl, ?_, ?_, hend.1, hend.2.1, hend.2.2.1, hend.2.2.2.mono (by decide) (by decide)⟩
  · show own_S p e below s₁ (mkF m 0 #[rv bb, rv ba, iv (0 : Int32), iv (0 : Int32), .val .null, .unset] []) _
    refine own_aN X0 hx hby d3_0 ?_
    refine st422 _ ?_
    refine own_iN X422 hx hby d3_4 ?_
    refine own_in X422 hx hby d3_5 (teq (rfl : (0 : Int32) = (0 : Int32))).2 ?_
    refine own_aN X422 hx hby d3_8 ?_
    refine st423 _ ?_
    refine st424 _ ?_
    refine st425 _ ?_
    refine own_aN X425 hx hby d3_17 ?_
    refine st426 _ ?_
    refine st427 _ ?_
    refine st429 _ ?_
    exact X429.returnOut hx hret (hb hby d3_26) hr
  · show Qrm420 Z bb h0 _ T429.heap _
    rw [e429]
    exact ⟨rfl, N429, K429, ((((E_bb.ext E423).wr W425).ext E426).wr W429), T432_bb⟩
  · rw [hs0]
    show CHr Z consts_1 s.vm h0 T429.vm T429.heap
    rw [e429]
    exact CR429.trans (CHv.at (s := s) (vm0 := T426.vm) X429 hZ426 (own_hEL hw) CR429.1)
def Qrm433 (Z : State) (bb : Addr) (h0 : Heap) (v : Option Value) (h : Heap) (L : List Loc) : Prop := v = none ∧ Fr Z.heap.size L ∧ Keep h0 h [bb] ∧ Exa Z h bb own_cS ∧ own_rep Z h bb []
theorem rm433 (l : Launch) (Z : State) (a0 : Array Value) (hw : own_HW Z a0) (ws : List Jvm.Cond) (bb ba : Addr) (ka : ClassId) (h0 : Heap) (Z0 : Ext Z.heap h0) (E_bb : Exa Z h0 bb own_cS) (F_bb_coder : Fld Z h0 bb own_cS "coder" "B" (.int (0 : Int32))) (F_bb_value : Fld Z h0 bb own_cS "value" "[B" .null) (V_ba : Arv Z h0 ba ka .char (0 : Int32) [] (.int (0 : Int32))) (g_bb : Z.heap.size ≤ bb) :
    own_metW l y_39 jdk_42_method_3_code 2 none ws ({ frames := 2, cells := 4, slots := 8, locals := 29 } : Room) Z #[(.ref bb), (.ref ba)] h0 (Qrm433 Z bb h0) := by
  refine own_startW (plainFor_of_name pn_5) (fun m => ef_jdk_42_method_3_RR m bb ba) ?_
  intro p e s m below meth c s₁ hx hby hml hown hnm X0 hZ e0 hret hlk hs0 hC0
  have N0 := Fr.nil Z.heap.size
  have CR0 : CHr Z consts_1 s.vm h0 s.vm h0 := CHr.refl hC0
  have hS0 : s.Since s.vm 0 := (State.WarmedH.refl s).since 0
  have hk0 : 0 ≤ h0.size := Nat.zero_le _
  obtain ⟨cl434, Ar434, q434, S434, Nn434, H434, G434⟩ := id V_ba
  obtain ⟨_, T435, Lc435, X435, hQ435, hS435, hZ435, hown435, hC435, st435⟩ := own_specialW (y := y_38) (s := s) (vm0 := s.vm) X0 hx hZ hown rfl (own_w hw 11 rfl) (own_w hw 12 rfl) (own_w hw 6 rfl) (own_w hw 14 rfl) (rm420 l Z a0 hw [] bb ba h0 Z0 E_bb F_bb_coder F_bb_value g_bb) e0 (own_hEL hw) CR0.1 hS0 hk0 bb (g := (mkF m 6 #[rv bb, rv ba] [.null, (.int (0 : Int32)), (.int (0 : Int32)), (.ref ba), (.ref bb)])) (argsL := [(.ref ba), (.int (0 : Int32)), (.int (0 : Int32)), .null]) (rest := []) (W := 0) (lenOf pd_25 rfl) (hb hby d2_6) hml
  obtain ⟨rfl, N435q, K435q, q435_E_bb, q435_T_bb⟩ := hQ435
  have XX435 := own_extK Z0 K435q (allS g_bb all0)
  have N435 := Fr.app N0 N435q
  have CR435 := CR0.trans hC435
  have hk435 : T435.heap.size ≤ T435.heap.size := Nat.le_refl _
  obtain ⟨h435, e435⟩ : ∃ z, T435.heap = z := ⟨_, rfl⟩
  rw [e435] at K435q XX435 CR435 hS435 hk435 q435_E_bb q435_T_bb
  have K435 := (Keep.refl h0 [bb]).trans K435q (allS (Or.inl (List.mem_of_getElem? (i := 0) rfl)) all0)
  obtain ⟨_, hr, hrun, hended, hend⟩ := leaveW (s := s) (vm₁ := T435.vm) X435 hS435 (by rw [e435]; exact hk435) (v := none) (fun _ => rfl) hlk
  refine ⟨_, _, ?_, hrun, hended, _, _, rfl, ?_, ?_, hend.1, hend.2.1, hend.2.2.1, hend.2.2.2.mono (by decide) (by decide)⟩
  · show own_S p e below s₁ (mkF m 0 #[rv bb, rv ba] []) _
    refine own_aN X0 hx hby d2_0 ?_
    refine own_aN X0 hx hby d2_1 ?_
    refine own_k X0 hx hby d2_2 ?_
    refine own_aN X0 hx hby d2_3 ?_
    refine X0.arraylength hx (by rw [e0]; exact Ar434.1) (State.isArrayOf_alike hZ.alike Ar434.2.1) (g := (mkF m 4 #[rv bb, rv ba] [(.ref ba), (.int (0 : Int32)), (.ref ba), (.ref bb)])) rfl rfl (hb hby d2_4) _ ?_
    rw [len_of S434 Nn434]
    refine XS.aconstNull X0.here hx rfl (hb hby d2_5) ?_
    refine st435 _ ?_
    exact X435.returnOut hx hret (hb hby d2_9) hr
  · show Qrm433 Z bb h0 _ T435.heap _
    rw [e435]
    exact ⟨rfl, N435, K435, q435_E_bb, q435_T_bb⟩
  · rw [hs0]
    show CHr Z consts_1 s.vm h0 T435.vm T435.heap
    rw [e435]
    exact CR435.trans (CHv.at (s := s) (vm0 := T435.vm) X435 hZ435 (own_hEL hw) CR435.1)
def Qrm436 (Z : State)  (h0 : Heap) (v : Option Value) (h : Heap) (L : List Loc) : Prop := ∃ b437 : Addr, v = some (.ref b437) ∧ Fr Z.heap.size L ∧ Keep h0 h [] ∧ h0.size ≤ b437 ∧ Exa Z h b437 own_cS ∧ own_rep Z h b437 []
theorem rm436 (l : Launch) (Z : State) (a0 : Array Value) (hw : own_HW Z a0) (ws : List Jvm.Cond) (pb ca cb cd : Int32) (h0 : Heap) (Z0 : Ext Z.heap h0) (hc102 : ((pb &&& (255 : Int32)).toUInt32.toUInt16.toUInt32.toInt32) = ca) (hc103 : ((((pb.toUInt32 >>> ((8 : Int32) &&& 31).toUInt32).toInt32) &&& (255 : Int32)).toUInt32.toUInt16.toUInt32.toInt32) = cb) (hc104 : ((((pb.toUInt32 >>> ((16 : Int32) &&& 31).toUInt32).toInt32) &&& (255 : Int32)).toUInt32.toUInt16.toUInt32.toInt32) = cd) :
    own_metW l y_40 method_3_code 5 (some (.object own_cS)) ws ({ frames := 6, cells := 6, slots := 20, locals := 90 } : Room) Z #[(.int (0 : Int32)), (.int pb)] h0 (Qrm436 Z  h0) := by
  refine own_startW (plainFor_of_name pn_8) (fun m => ef_method_3_II m (0 : Int32) pb) ?_
  intro p e s m below meth c s₁ hx hby hml hown hnm X0 hZ e0 hret hlk hs0 hC0
  have N0 := Fr.nil Z.heap.size
  have CR0 : CHr Z consts_1 s.vm h0 s.vm h0 := CHr.refl hC0
  have hS0 : s.Since s.vm 0 := (State.WarmedH.refl s).since 0
  have hk0 : 0 ≤ h0.size := Nat.zero_le _
  obtain ⟨T437, h437, X437, e437, E437, A437, D437, -, st437⟩ := newO X0 hx hZ hown (own_w hw 4 rfl) (own_w hw 5 rfl) (own_w hw 6 rfl) e0 (g := (mkF m 32 #[iv (0 : Int32), iv pb, iv ca, iv cb, iv cd] [])) rfl (hb hby d1_32) (by decide) (by decide)
  obtain ⟨b437, g437⟩ : ∃ z, z = h0.size := ⟨_, rfl⟩
  rw [← g437] at A437 D437 st437
  have g_b437 := Nat.le_trans Z0.1 (Nat.le_of_eq g437.symm)
  have sz_b437 := Nat.le_trans (Keep.refl h0 []).1 (Nat.le_of_eq g437.symm)
  have F_b437_coder : Fld Z h437 b437 own_cS "coder" "B" (.int (0 : Int32)) := D437 (Or.inr (own_w hw 31 rfl)) (ty := .byte) (by decide)
  have F_b437_value : Fld Z h437 b437 own_cS "value" "[B" .null := D437 (Or.inr (own_w hw 33 rfl)) (ty := (.array .byte)) (by decide)
  have K437 := (Keep.refl h0 []).ext E437
  have XX437 := own_ext2 Z0 E437
  have CQ437 := CHr.ext E437 CR0.1
  have CR437 := CR0.trans CQ437
  have hk437 := Nat.le_trans hk0 CQ437.2.1
  obtain ⟨T438, h438, k438, X438, e438, E438, A438, EX438, st438⟩ := newPE X437 hx hZ (own_w hw 7 rfl) e437 (g := (mkF m 37 #[iv (0 : Int32), iv pb, iv ca, iv cb, iv cd] [(.int (0 : Int32)), (.ref b437), (.ref b437)])) rfl (hb hby d1_37) rfl (by decide) (cap := 0) (by decide) (by decide) (by decide) (by decide) (ad := "[C") (by decide)
  obtain ⟨b438, g438⟩ : ∃ z, z = h437.size := ⟨_, rfl⟩
  rw [← g438] at A438 EX438 st438
  have V_b438 : Arv Z h438 b438 k438 .char (0 : Int32) [] (.int (0 : Int32)) := Arv.new A438 (by decide)
  have K438 := K437.ext E438
  have XX438 := own_ext2 XX437 E438
  have CQ438 := CHr.ext E438 CR437.1
  have CR438 := CR437.trans CQ438
  have hk438 := Nat.le_trans hk437 CQ438.2.1
  obtain ⟨_, T439, Lc439, X439, hQ439, hS439, hZ439, hown439, hC439, st439⟩ := own_specialW (y := y_39) (s := s) (vm0 := s.vm) X438 hx hZ hown rfl (own_w hw 8 rfl) (own_w hw 9 rfl) (own_w hw 6 rfl) (own_w hw 10 rfl) (rm433 l Z a0 hw [] b437 b438 k438 h438 XX438 (A437.ext E438) (F_b437_coder.ext E438) (F_b437_value.ext E438) V_b438 g_b437) e438 (own_hEL hw) CR438.1 hS0 hk438 b437 (g := (mkF m 39 #[iv (0 : Int32), iv pb, iv ca, iv cb, iv cd] [(.ref b438), (.ref b437), (.ref b437)])) (argsL := [(.ref b438)]) (rest := [(.ref b437)]) (W := 1) (lenOf pd_26 rfl) (hb hby d1_39) hml
  obtain ⟨rfl, N439q, K439q, q439_E_b437, q439_T_b437⟩ := hQ439
  have XX439 := own_extK XX438 K439q (allS g_b437 all0)
  have N439 := Fr.app N0 N439q
  have CR439 := CR438.trans hC439
  have hk439 : T439.heap.size ≤ T439.heap.size := Nat.le_refl _
  obtain ⟨h439, e439⟩ : ∃ z, T439.heap = z := ⟨_, rfl⟩
  rw [e439] at K439q XX439 CR439 hS439 hk439 q439_E_b437 q439_T_b437
  have K439 := K438.trans K439q (allS (Or.inr sz_b437) all0)
  obtain ⟨_, hr, hrun, hended, hend⟩ := leaveW (s := s) (vm₁ := T439.vm) X439 hS439 (by rw [e439]; exact hk439) (v := some (.ref b437)) (fun h => by rw [hret] at h; cases h) hlk
  refine ⟨_, _, ?_, hrun, hended, _, _, rfl, ?_, ?_, hend.1, hend.2.1, hend.2.2.1, hend.2.2.2.mono (by decide) (by decide)⟩
  · show own_S p e below s₁ (mkF m 0 #[iv (0 : Int32), iv pb, .unset, .unset, .unset] []) _
    refine own_iN X0 hx hby d1_0 ?_
    refine XS.sipush X0.here hx rfl (hb hby d1_1) ?_
    refine XS.iand X0.here hx rfl (hb hby d1_4) rfl ?_
    refine XS.i2c X0.here hx rfl (hb hby d1_5) rfl ?_
    show own_S p e below s₁ (mkF m 6 #[iv (0 : Int32), iv pb, .unset, .unset, .unset] [(.int ((pb &&& (255 : Int32)).toUInt32.toUInt16.toUInt32.toInt32))]) _
    rw [hc102]
    refine XS.istoreN X0.here hx rfl (hb hby d1_6) rfl (l' := #[iv (0 : Int32), iv pb, iv ca, .unset, .unset]) rfl ?_
    refine own_iN X0 hx hby d1_7 ?_
    refine XS.bipush X0.here hx rfl (hb hby d1_8) ?_
    refine XS.iushr X0.here hx rfl (hb hby d1_10) rfl ?_
    refine XS.sipush X0.here hx rfl (hb hby d1_11) ?_
    refine XS.iand X0.here hx rfl (hb hby d1_14) rfl ?_
    refine XS.i2c X0.here hx rfl (hb hby d1_15) rfl ?_
    show own_S p e below s₁ (mkF m 16 #[iv (0 : Int32), iv pb, iv ca, .unset, .unset] [(.int ((((pb.toUInt32 >>> ((8 : Int32) &&& 31).toUInt32).toInt32) &&& (255 : Int32)).toUInt32.toUInt16.toUInt32.toInt32))]) _
    rw [hc103]
    refine XS.istoreN X0.here hx rfl (hb hby d1_16) rfl (l' := #[iv (0 : Int32), iv pb, iv ca, iv cb, .unset]) rfl ?_
    refine own_iN X0 hx hby d1_17 ?_
    refine XS.bipush X0.here hx rfl (hb hby d1_18) ?_
    refine XS.iushr X0.here hx rfl (hb hby d1_20) rfl ?_
    refine XS.sipush X0.here hx rfl (hb hby d1_21) ?_
    refine XS.iand X0.here hx rfl (hb hby d1_24) rfl ?_
    refine XS.i2c X0.here hx rfl (hb hby d1_25) rfl ?_
    show own_S p e below s₁ (mkF m 26 #[iv (0 : Int32), iv pb, iv ca, iv cb, .unset] [(.int ((((pb.toUInt32 >>> ((16 : Int32) &&& 31).toUInt32).toInt32) &&& (255 : Int32)).toUInt32.toUInt16.toUInt32.toInt32))]) _
    rw [hc104]
    refine XS.istore X0.here hx rfl (hb hby d1_26) rfl (l' := #[iv (0 : Int32), iv pb, iv ca, iv cb, iv cd]) rfl ?_
    refine own_iN X0 hx hby d1_28 ?_
    refine own_in X0 hx hby d1_29 (teq (rfl : (0 : Int32) = (0 : Int32))).2 ?_
    refine st437 _ ?_
    refine XS.dup X437.here hx rfl (hb hby d1_35) rfl rfl ?_
    refine own_k X437 hx hby d1_36 ?_
    refine st438 _ ?_
    refine st439 _ ?_
    jvm_step X439.here [X439.here.top, hx, (hb hby d1_42), X439.method', hret, Value.isRef, FieldType.isReference]
    first | (intro acts; rw [hr _ acts rfl rfl rfl]) | rw [hr _ _ rfl rfl rfl]
    exact Steps.refl _
  · show Qrm436 Z  h0 _ T439.heap _
    rw [e439]
    exact ⟨b437, rfl, N439, K439, sz_b437, q439_E_b437, q439_T_b437⟩
  · rw [hs0]
    show CHr Z consts_1 s.vm h0 T439.vm T439.heap
    rw [e439]
    exact CR439.trans (CHv.at (s := s) (vm0 := T439.vm) X439 hZ439 (own_hEL hw) CR439.1)
def Qrm440 (Z : State) (ca : Int32) (h0 : Heap) (v : Option Value) (h : Heap) (L : List Loc) : Prop := ∃ b441 : Addr, ∃ b448 : Addr, ∃ k449 : ClassId, v = some (.ref b441) ∧ Fr Z.heap.size L ∧ Keep h0 h [] ∧ h0.size ≤ b441 ∧ h0.size ≤ b448 ∧ Exa Z h b441 own_cS ∧ Fld Z h b441 own_cS "coder" "B" (.int (0 : Int32)) ∧ Fld Z h b441 own_cS "value" "[B" (.ref b448) ∧ Arv Z h b448 k449 .byte (Int32.ofNat [ca].length) (own_ch (own_bl [ca])) (.int (0 : Int32))
theorem rm440 (l : Launch) (Z : State) (a0 : Array Value) (hw : own_HW Z a0) (ws : List Jvm.Cond) (w_CS pb ca cb cd : Int32) (h0 : Heap) (Z0 : Ext Z.heap h0) (S_w_CS : own_w_CS Z w_CS) (hc102 : ((pb &&& (255 : Int32)).toUInt32.toUInt16.toUInt32.toInt32) = ca) (hc103 : ((((pb.toUInt32 >>> ((8 : Int32) &&& 31).toUInt32).toInt32) &&& (255 : Int32)).toUInt32.toUInt16.toUInt32.toInt32) = cb) (hc104 : ((((pb.toUInt32 >>> ((16 : Int32) &&& 31).toUInt32).toInt32) &&& (255 : Int32)).toUInt32.toUInt16.toUInt32.toInt32) = cd) (hc105 : own_m8 ca) (hc1 : ¬ (w_CS = (0 : Int32))) :
    own_metW l y_40 method_3_code 5 (some (.object own_cS)) ws ({ frames := 6, cells := 6, slots := 20, locals := 90 } : Room) Z #[(.int (1 : Int32)), (.int pb)] h0 (Qrm440 Z ca h0) := by
  refine own_startW (plainFor_of_name pn_8) (fun m => ef_method_3_II m (1 : Int32) pb) ?_
  intro p e s m below meth c s₁ hx hby hml hown hnm X0 hZ e0 hret hlk hs0 hC0
  have N0 := Fr.nil Z.heap.size
  have CR0 : CHr Z consts_1 s.vm h0 s.vm h0 := CHr.refl hC0
  have hS0 : s.Since s.vm 0 := (State.WarmedH.refl s).since 0
  have hk0 : 0 ≤ h0.size := Nat.zero_le _
  obtain ⟨T441, h441, X441, e441, E441, A441, D441, -, st441⟩ := newO X0 hx hZ hown (own_w hw 4 rfl) (own_w hw 5 rfl) (own_w hw 6 rfl) e0 (g := (mkF m 48 #[iv (1 : Int32), iv pb, iv ca, iv cb, iv cd] [])) rfl (hb hby d1_48) (by decide) (by decide)
  obtain ⟨b441, g441⟩ : ∃ z, z = h0.size := ⟨_, rfl⟩
  rw [← g441] at A441 D441 st441
  have g_b441 := Nat.le_trans Z0.1 (Nat.le_of_eq g441.symm)
  have sz_b441 := Nat.le_trans (Keep.refl h0 []).1 (Nat.le_of_eq g441.symm)
  have F_b441_coder : Fld Z h441 b441 own_cS "coder" "B" (.int (0 : Int32)) := D441 (Or.inr (own_w hw 31 rfl)) (ty := .byte) (by decide)
  have F_b441_value : Fld Z h441 b441 own_cS "value" "[B" .null := D441 (Or.inr (own_w hw 33 rfl)) (ty := (.array .byte)) (by decide)
  have K441 := (Keep.refl h0 []).ext E441
  have XX441 := own_ext2 Z0 E441
  have CQ441 := CHr.ext E441 CR0.1
  have CR441 := CR0.trans CQ441
  have hk441 := Nat.le_trans hk0 CQ441.2.1
  obtain ⟨T442, h442, k442, X442, e442, E442, A442, EX442, st442⟩ := newPE X441 hx hZ (own_w hw 7 rfl) e441 (g := (mkF m 53 #[iv (1 : Int32), iv pb, iv ca, iv cb, iv cd] [(.int (1 : Int32)), (.ref b441), (.ref b441)])) rfl (hb hby d1_53) rfl (by decide) (cap := 1) (by decide) (by decide) (by decide) (by decide) (ad := "[C") (by decide)
  obtain ⟨b442, g442⟩ : ∃ z, z = h441.size := ⟨_, rfl⟩
  rw [← g442] at A442 EX442 st442
  have g_b442 := Nat.le_trans XX441.1 (Nat.le_of_eq g442.symm)
  have sz_b442 := Nat.le_trans K441.1 (Nat.le_of_eq g442.symm)
  have V_b442 : Arv Z h442 b442 k442 .char (1 : Int32) [(.int (0 : Int32))] (.int (0 : Int32)) := (Arv.new A442 (by decide)).pad (pad_rep [] (.int (0 : Int32)) 1)
  have K442 := K441.ext E442
  have XX442 := own_ext2 XX441 E442
  have CQ442 := CHr.ext E442 CR441.1
  have CR442 := CR441.trans CQ442
  have hk442 := Nat.le_trans hk441 CQ442.2.1
  have sf443_b442 : Safe Z consts_1 s.vm h442 b442 := Safe.exa hZ.alike EX442 (by decide) (by decide)
  obtain ⟨cl444, Ar444, q444, S444, Nn444, H444, G444⟩ := id V_b442
  have hin444 : ¬ ((0 : Int32) < 0 ∨ cl444.slots.size ≤ ((0 : Int32)).toNatClampNeg) := inb_of S444 ⟨by decide, by decide⟩
  obtain ⟨T445, h445, X445, e445, W445, st445⟩ := stC X442 hx hZ e442 Ar444 (j := (0 : Int32)) hin444 (g := (mkF m 58 #[iv (1 : Int32), iv pb, iv ca, iv cb, iv cd] [(.int ca), (.int (0 : Int32)), (.ref b442), (.ref b442), (.ref b441), (.ref b441)])) rfl rfl (hb hby d1_58)
  rw [(own_m8a hc105)] at W445
  have V445 : Arv Z h445 b442 k442 .char (1 : Int32) [(.int ca)] (.int (0 : Int32)) := Arv.set Ar444 q444 S444 Nn444 H444 G444 (by rw [← (own_m8a hc105)]; exact fits_nar_char _) W445 0 rfl (Nat.le_of_ble_eq_true rfl)
  have K445 := K442.wr W445 (Or.inr sz_b442)
  have XX445 := own_extW XX442 W445 g_b442
  have N445 := Fr.snoc X445 N0 g_b442
  have CQ445 := CHr.wr W445 sf443_b442 CR442.1
  have CR445 := CR442.trans CQ445
  have hk445 := Nat.le_trans hk442 CQ445.2.1
  have ne_b441_b442 := Nat.ne_of_lt (Nat.lt_of_lt_of_le A441.lt (Nat.le_of_eq g442.symm))
  have sf446_b441 : Safe Z consts_1 s.vm h445 b441 := own_safe hZ.alike ((A441.ext E442).wr W445) (own_w hw 5 rfl) ((F_b441_value.ext E442).other W445 (Or.inl ne_b441_b442))
  obtain ⟨_, T447, Lc447, X447, hQ447, st447⟩ := own_special (y := y_39) X445 hx hZ hown rfl (own_w hw 8 rfl) (own_w hw 9 rfl) (own_w hw 6 rfl) (own_w hw 10 rfl) (rm398 l Z a0 hw [] w_CS b441 b442 k442 [ca] h445 XX445 S_w_CS ((A441.ext E442).wr W445) ((F_b441_coder.ext E442).other W445 (Or.inl ne_b441_b442)) ((F_b441_value.ext E442).other W445 (Or.inl ne_b441_b442)) V445 g_b441 ⟨Nat.le_of_ble_eq_true rfl, Nat.le_of_ble_eq_true rfl⟩ hc1 (own_a8_1 hc105)) e445 b441 (g := (mkF m 59 #[iv (1 : Int32), iv pb, iv ca, iv cb, iv cd] [(.ref b442), (.ref b441), (.ref b441)])) (argsL := [(.ref b442)]) (rest := [(.ref b441)]) (W := 1) (lenOf pd_26 rfl) (hb hby d1_59) hml
  obtain ⟨b448, k449, rfl, N447q, K447q, szn_b448, q447_E_b441, q447_F_b441_coder, q447_F_b441_value, q447_V_b448⟩ := hQ447
  have sz_b448 := Nat.le_trans K445.1 szn_b448
  have K447 := K445.trans K447q (allS (Or.inr sz_b441) all0)
  have N447 := Fr.app N445 N447q
  have hs447 : ∀ x ∈ [b441], Safe Z consts_1 s.vm h445 x := (allS sf446_b441 all0)
  have CQ447 := CHr.keep K447q hs447 CR445.1
  have CR447 := CR445.trans CQ447
  have hk447 := Nat.le_trans hk445 CQ447.2.1
  obtain ⟨_, hr, hrun, hended, hend⟩ := leaveW (s := s) (vm₁ := s.vm) X447 hS0 hk447 (v := some (.ref b441)) (fun h => by rw [hret] at h; cases h) hlk
  refine ⟨_, _, ?_, hrun, hended, _, _, rfl, ?_, ?_, hend.1, hend.2.1, hend.2.2.1, hend.2.2.2.mono (by decide) (by decide)⟩
  · show own_S p e below s₁ (mkF m 0 #[iv (1 : Int32), iv pb, .unset, .unset, .unset] []) _
    refine own_iN X0 hx hby d1_0 ?_
    refine XS.sipush X0.here hx rfl (hb hby d1_1) ?_
    refine XS.iand X0.here hx rfl (hb hby d1_4) rfl ?_
    refine XS.i2c X0.here hx rfl (hb hby d1_5) rfl ?_
    show own_S p e below s₁ (mkF m 6 #[iv (1 : Int32), iv pb, .unset, .unset, .unset] [(.int ((pb &&& (255 : Int32)).toUInt32.toUInt16.toUInt32.toInt32))]) _
    rw [hc102]
    refine XS.istoreN X0.here hx rfl (hb hby d1_6) rfl (l' := #[iv (1 : Int32), iv pb, iv ca, .unset, .unset]) rfl ?_
    refine own_iN X0 hx hby d1_7 ?_
    refine XS.bipush X0.here hx rfl (hb hby d1_8) ?_
    refine XS.iushr X0.here hx rfl (hb hby d1_10) rfl ?_
    refine XS.sipush X0.here hx rfl (hb hby d1_11) ?_
    refine XS.iand X0.here hx rfl (hb hby d1_14) rfl ?_
    refine XS.i2c X0.here hx rfl (hb hby d1_15) rfl ?_
    show own_S p e below s₁ (mkF m 16 #[iv (1 : Int32), iv pb, iv ca, .unset, .unset] [(.int ((((pb.toUInt32 >>> ((8 : Int32) &&& 31).toUInt32).toInt32) &&& (255 : Int32)).toUInt32.toUInt16.toUInt32.toInt32))]) _
    rw [hc103]
    refine XS.istoreN X0.here hx rfl (hb hby d1_16) rfl (l' := #[iv (1 : Int32), iv pb, iv ca, iv cb, .unset]) rfl ?_
    refine own_iN X0 hx hby d1_17 ?_
    refine XS.bipush X0.here hx rfl (hb hby d1_18) ?_
    refine XS.iushr X0.here hx rfl (hb hby d1_20) rfl ?_
    refine XS.sipush X0.here hx rfl (hb hby d1_21) ?_
    refine XS.iand X0.here hx rfl (hb hby d1_24) rfl ?_
    refine XS.i2c X0.here hx rfl (hb hby d1_25) rfl ?_
    show own_S p e below s₁ (mkF m 26 #[iv (1 : Int32), iv pb, iv ca, iv cb, .unset] [(.int ((((pb.toUInt32 >>> ((16 : Int32) &&& 31).toUInt32).toInt32) &&& (255 : Int32)).toUInt32.toUInt16.toUInt32.toInt32))]) _
    rw [hc104]
    refine XS.istore X0.here hx rfl (hb hby d1_26) rfl (l' := #[iv (1 : Int32), iv pb, iv ca, iv cb, iv cd]) rfl ?_
    refine own_iN X0 hx hby d1_28 ?_
    refine own_iy (pc := 29) X0 hx hby d1_29 (feq (by decide : ¬ ((1 : Int32) = (0 : Int32)))).2 43 ?_
    refine own_iN X0 hx hby d1_43 ?_
    refine own_k X0 hx hby d1_44 ?_
    refine own_cn X0 hx hby d1_45 (teq (rfl : (1 : Int32) = (1 : Int32))).2 ?_
    refine st441 _ ?_
    refine XS.dup X441.here hx rfl (hb hby d1_51) rfl rfl ?_
    refine own_k X441 hx hby d1_52 ?_
    refine st442 _ ?_
    refine XS.dup X442.here hx rfl (hb hby d1_55) rfl rfl ?_
    refine own_k X442 hx hby d1_56 ?_
    refine own_iN X442 hx hby d1_57 ?_
    refine st445 _ ?_
    refine st447 _ ?_
    jvm_step X447.here [X447.here.top, hx, (hb hby d1_62), X447.method', hret, Value.isRef, FieldType.isReference]
    first | (intro acts; rw [hr _ acts rfl rfl rfl]) | rw [hr _ _ rfl rfl rfl]
    exact Steps.refl _
  · show Qrm440 Z ca h0 _ T447.heap _
    exact ⟨b441, b448, k449, rfl, N447, K447, sz_b441, sz_b448, q447_E_b441, q447_F_b441_coder, q447_F_b441_value, q447_V_b448⟩
  · rw [hs0]
    show CHr Z consts_1 s.vm h0 T447.vm T447.heap
    skip
    exact CR447.trans (CHv.at (s := s) (vm0 := s.vm) X447 hZ (own_hEL hw) CR447.1)
def Qrm450 (Z : State) (ca cb : Int32) (h0 : Heap) (v : Option Value) (h : Heap) (L : List Loc) : Prop := ∃ b451 : Addr, ∃ b461 : Addr, ∃ k462 : ClassId, v = some (.ref b451) ∧ Fr Z.heap.size L ∧ Keep h0 h [] ∧ h0.size ≤ b451 ∧ h0.size ≤ b461 ∧ Exa Z h b451 own_cS ∧ Fld Z h b451 own_cS "coder" "B" (.int (0 : Int32)) ∧ Fld Z h b451 own_cS "value" "[B" (.ref b461) ∧ Arv Z h b461 k462 .byte (Int32.ofNat [ca, cb].length) (own_ch (own_bl [ca, cb])) (.int (0 : Int32))
theorem rm450 (l : Launch) (Z : State) (a0 : Array Value) (hw : own_HW Z a0) (ws : List Jvm.Cond) (w_CS pb ca cb cd : Int32) (h0 : Heap) (Z0 : Ext Z.heap h0) (S_w_CS : own_w_CS Z w_CS) (hc102 : ((pb &&& (255 : Int32)).toUInt32.toUInt16.toUInt32.toInt32) = ca) (hc103 : ((((pb.toUInt32 >>> ((8 : Int32) &&& 31).toUInt32).toInt32) &&& (255 : Int32)).toUInt32.toUInt16.toUInt32.toInt32) = cb) (hc104 : ((((pb.toUInt32 >>> ((16 : Int32) &&& 31).toUInt32).toInt32) &&& (255 : Int32)).toUInt32.toUInt16.toUInt32.toInt32) = cd) (hc105 : own_m8 ca) (hc106 : own_m8 cb) (hc1 : ¬ (w_CS = (0 : Int32))) :
    own_metW l y_40 method_3_code 5 (some (.object own_cS)) ws ({ frames := 6, cells := 6, slots := 20, locals := 90 } : Room) Z #[(.int (2 : Int32)), (.int pb)] h0 (Qrm450 Z ca cb h0) := by
  refine own_startW (plainFor_of_name pn_8) (fun m => ef_method_3_II m (2 : Int32) pb) ?_
  intro p e s m below meth c s₁ hx hby hml hown hnm X0 hZ e0 hret hlk hs0 hC0
  have N0 := Fr.nil Z.heap.size
  have CR0 : CHr Z consts_1 s.vm h0 s.vm h0 := CHr.refl hC0
  have hS0 : s.Since s.vm 0 := (State.WarmedH.refl s).since 0
  have hk0 : 0 ≤ h0.size := Nat.zero_le _
  obtain ⟨T451, h451, X451, e451, E451, A451, D451, -, st451⟩ := newO X0 hx hZ hown (own_w hw 4 rfl) (own_w hw 5 rfl) (own_w hw 6 rfl) e0 (g := (mkF m 68 #[iv (2 : Int32), iv pb, iv ca, iv cb, iv cd] [])) rfl (hb hby d1_68) (by decide) (by decide)
  obtain ⟨b451, g451⟩ : ∃ z, z = h0.size := ⟨_, rfl⟩
  rw [← g451] at A451 D451 st451
  have g_b451 := Nat.le_trans Z0.1 (Nat.le_of_eq g451.symm)
  have sz_b451 := Nat.le_trans (Keep.refl h0 []).1 (Nat.le_of_eq g451.symm)
  have F_b451_coder : Fld Z h451 b451 own_cS "coder" "B" (.int (0 : Int32)) := D451 (Or.inr (own_w hw 31 rfl)) (ty := .byte) (by decide)
  have F_b451_value : Fld Z h451 b451 own_cS "value" "[B" .null := D451 (Or.inr (own_w hw 33 rfl)) (ty := (.array .byte)) (by decide)
  have K451 := (Keep.refl h0 []).ext E451
  have XX451 := own_ext2 Z0 E451
  have CQ451 := CHr.ext E451 CR0.1
  have CR451 := CR0.trans CQ451
  have hk451 := Nat.le_trans hk0 CQ451.2.1
  obtain ⟨T452, h452, k452, X452, e452, E452, A452, EX452, st452⟩ := newPE X451 hx hZ (own_w hw 7 rfl) e451 (g := (mkF m 73 #[iv (2 : Int32), iv pb, iv ca, iv cb, iv cd] [(.int (2 : Int32)), (.ref b451), (.ref b451)])) rfl (hb hby d1_73) rfl (by decide) (cap := 2) (by decide) (by decide) (by decide) (by decide) (ad := "[C") (by decide)
  obtain ⟨b452, g452⟩ : ∃ z, z = h451.size := ⟨_, rfl⟩
  rw [← g452] at A452 EX452 st452
  have g_b452 := Nat.le_trans XX451.1 (Nat.le_of_eq g452.symm)
  have sz_b452 := Nat.le_trans K451.1 (Nat.le_of_eq g452.symm)
  have V_b452 : Arv Z h452 b452 k452 .char (2 : Int32) [(.int (0 : Int32)), (.int (0 : Int32))] (.int (0 : Int32)) := (Arv.new A452 (by decide)).pad (pad_rep [] (.int (0 : Int32)) 2)
  have K452 := K451.ext E452
  have XX452 := own_ext2 XX451 E452
  have CQ452 := CHr.ext E452 CR451.1
  have CR452 := CR451.trans CQ452
  have hk452 := Nat.le_trans hk451 CQ452.2.1
  have sf453_b452 : Safe Z consts_1 s.vm h452 b452 := Safe.exa hZ.alike EX452 (by decide) (by decide)
  obtain ⟨cl454, Ar454, q454, S454, Nn454, H454, G454⟩ := id V_b452
  have hin454 : ¬ ((0 : Int32) < 0 ∨ cl454.slots.size ≤ ((0 : Int32)).toNatClampNeg) := inb_of S454 ⟨by decide, by decide⟩
  obtain ⟨T455, h455, X455, e455, W455, st455⟩ := stC X452 hx hZ e452 Ar454 (j := (0 : Int32)) hin454 (g := (mkF m 78 #[iv (2 : Int32), iv pb, iv ca, iv cb, iv cd] [(.int ca), (.int (0 : Int32)), (.ref b452), (.ref b452), (.ref b451), (.ref b451)])) rfl rfl (hb hby d1_78)
  rw [(own_m8a hc105)] at W455
  have V455 : Arv Z h455 b452 k452 .char (2 : Int32) [(.int ca), (.int (0 : Int32))] (.int (0 : Int32)) := Arv.set Ar454 q454 S454 Nn454 H454 G454 (by rw [← (own_m8a hc105)]; exact fits_nar_char _) W455 0 rfl (Nat.le_of_ble_eq_true rfl)
  have K455 := K452.wr W455 (Or.inr sz_b452)
  have XX455 := own_extW XX452 W455 g_b452
  have N455 := Fr.snoc X455 N0 g_b452
  have CQ455 := CHr.wr W455 sf453_b452 CR452.1
  have sf455_b452 := Safe.wr W455 sf453_b452 CR452.1 sf453_b452
  have CR455 := CR452.trans CQ455
  have hk455 := Nat.le_trans hk452 CQ455.2.1
  obtain ⟨cl456, Ar456, q456, S456, Nn456, H456, G456⟩ := id V455
  have hin456 : ¬ ((1 : Int32) < 0 ∨ cl456.slots.size ≤ ((1 : Int32)).toNatClampNeg) := inb_of S456 ⟨by decide, by decide⟩
  obtain ⟨T457, h457, X457, e457, W457, st457⟩ := stC X455 hx hZ e455 Ar456 (j := (1 : Int32)) hin456 (g := (mkF m 82 #[iv (2 : Int32), iv pb, iv ca, iv cb, iv cd] [(.int cb), (.int (1 : Int32)), (.ref b452), (.ref b452), (.ref b451), (.ref b451)])) rfl rfl (hb hby d1_82)
  rw [(own_m8a hc106)] at W457
  have V457 : Arv Z h457 b452 k452 .char (2 : Int32) [(.int ca), (.int cb)] (.int (0 : Int32)) := Arv.set Ar456 q456 S456 Nn456 H456 G456 (by rw [← (own_m8a hc106)]; exact fits_nar_char _) W457 1 rfl (Nat.le_of_ble_eq_true rfl)
  have K457 := K455.wr W457 (Or.inr sz_b452)
  have XX457 := own_extW XX455 W457 g_b452
  have N457 := Fr.snoc X457 N455 g_b452
  have CQ457 := CHr.wr W457 sf455_b452 CR455.1
  have CR457 := CR455.trans CQ457
  have hk457 := Nat.le_trans hk455 CQ457.2.1
  have ne_b451_b452 := Nat.ne_of_lt (Nat.lt_of_lt_of_le A451.lt (Nat.le_of_eq g452.symm))
  have f459_F_b451_value := (((F_b451_value.ext E452).other W455 (Or.inl ne_b451_b452)).other W457 (Or.inl ne_b451_b452))
  have sf458_b451 : Safe Z consts_1 s.vm h457 b451 := own_safe hZ.alike (((A451.ext E452).wr W455).wr W457) (own_w hw 5 rfl) f459_F_b451_value
  have f463_F_b451_coder := (((F_b451_coder.ext E452).other W455 (Or.inl ne_b451_b452)).other W457 (Or.inl ne_b451_b452))
  obtain ⟨_, T460, Lc460, X460, hQ460, st460⟩ := own_special (y := y_39) X457 hx hZ hown rfl (own_w hw 8 rfl) (own_w hw 9 rfl) (own_w hw 6 rfl) (own_w hw 10 rfl) (rm398 l Z a0 hw [] w_CS b451 b452 k452 [ca, cb] h457 XX457 S_w_CS (((A451.ext E452).wr W455).wr W457) f463_F_b451_coder f459_F_b451_value V457 g_b451 ⟨Nat.le_of_ble_eq_true rfl, Nat.le_of_ble_eq_true rfl⟩ hc1 (own_a8_2 hc105 hc106)) e457 b451 (g := (mkF m 83 #[iv (2 : Int32), iv pb, iv ca, iv cb, iv cd] [(.ref b452), (.ref b451), (.ref b451)])) (argsL := [(.ref b452)]) (rest := [(.ref b451)]) (W := 1) (lenOf pd_26 rfl) (hb hby d1_83) hml
  obtain ⟨b461, k462, rfl, N460q, K460q, szn_b461, q460_E_b451, q460_F_b451_coder, q460_F_b451_value, q460_V_b461⟩ := hQ460
  have sz_b461 := Nat.le_trans K457.1 szn_b461
  have K460 := K457.trans K460q (allS (Or.inr sz_b451) all0)
  have N460 := Fr.app N457 N460q
  have hs460 : ∀ x ∈ [b451], Safe Z consts_1 s.vm h457 x := (allS sf458_b451 all0)
  have CQ460 := CHr.keep K460q hs460 CR457.1
  have CR460 := CR457.trans CQ460
  have hk460 := Nat.le_trans hk457 CQ460.2.1
  obtain ⟨_, hr, hrun, hended, hend⟩ := leaveW (s := s) (vm₁ := s.vm) X460 hS0 hk460 (v := some (.ref b451)) (fun h => by rw [hret] at h; cases h) hlk
  refine ⟨_, _, ?_, hrun, hended, _, _, rfl, ?_, ?_, hend.1, hend.2.1, hend.2.2.1, hend.2.2.2.mono (by decide) (by decide)⟩
  · show own_S p e below s₁ (mkF m 0 #[iv (2 : Int32), iv pb, .unset, .unset, .unset] []) _
    refine own_iN X0 hx hby d1_0 ?_
    refine XS.sipush X0.here hx rfl (hb hby d1_1) ?_
    refine XS.iand X0.here hx rfl (hb hby d1_4) rfl ?_
    refine XS.i2c X0.here hx rfl (hb hby d1_5) rfl ?_
    show own_S p e below s₁ (mkF m 6 #[iv (2 : Int32), iv pb, .unset, .unset, .unset] [(.int ((pb &&& (255 : Int32)).toUInt32.toUInt16.toUInt32.toInt32))]) _
    rw [hc102]
    refine XS.istoreN X0.here hx rfl (hb hby d1_6) rfl (l' := #[iv (2 : Int32), iv pb, iv ca, .unset, .unset]) rfl ?_
    refine own_iN X0 hx hby d1_7 ?_
    refine XS.bipush X0.here hx rfl (hb hby d1_8) ?_
    refine XS.iushr X0.here hx rfl (hb hby d1_10) rfl ?_
    refine XS.sipush X0.here hx rfl (hb hby d1_11) ?_
    refine XS.iand X0.here hx rfl (hb hby d1_14) rfl ?_
    refine XS.i2c X0.here hx rfl (hb hby d1_15) rfl ?_
    show own_S p e below s₁ (mkF m 16 #[iv (2 : Int32), iv pb, iv ca, .unset, .unset] [(.int ((((pb.toUInt32 >>> ((8 : Int32) &&& 31).toUInt32).toInt32) &&& (255 : Int32)).toUInt32.toUInt16.toUInt32.toInt32))]) _
    rw [hc103]
    refine XS.istoreN X0.here hx rfl (hb hby d1_16) rfl (l' := #[iv (2 : Int32), iv pb, iv ca, iv cb, .unset]) rfl ?_
    refine own_iN X0 hx hby d1_17 ?_
    refine XS.bipush X0.here hx rfl (hb hby d1_18) ?_
    refine XS.iushr X0.here hx rfl (hb hby d1_20) rfl ?_
    refine XS.sipush X0.here hx rfl (hb hby d1_21) ?_
    refine XS.iand X0.here hx rfl (hb hby d1_24) rfl ?_
    refine XS.i2c X0.here hx rfl (hb hby d1_25) rfl ?_
    show own_S p e below s₁ (mkF m 26 #[iv (2 : Int32), iv pb, iv ca, iv cb, .unset] [(.int ((((pb.toUInt32 >>> ((16 : Int32) &&& 31).toUInt32).toInt32) &&& (255 : Int32)).toUInt32.toUInt16.toUInt32.toInt32))]) _
    rw [hc104]
    refine XS.istore X0.here hx rfl (hb hby d1_26) rfl (l' := #[iv (2 : Int32), iv pb, iv ca, iv cb, iv cd]) rfl ?_
    refine own_iN X0 hx hby d1_28 ?_
    refine own_iy (pc := 29) X0 hx hby d1_29 (feq (by decide : ¬ ((2 : Int32) = (0 : Int32)))).2 43 ?_
    refine own_iN X0 hx hby d1_43 ?_
    refine own_k X0 hx hby d1_44 ?_
    refine own_cy (pc := 45) X0 hx hby d1_45 (feq (by decide : ¬ ((2 : Int32) = (1 : Int32)))).2 63 ?_
    refine own_iN X0 hx hby d1_63 ?_
    refine own_k X0 hx hby d1_64 ?_
    refine own_cn X0 hx hby d1_65 (teq (rfl : (2 : Int32) = (2 : Int32))).2 ?_
    refine st451 _ ?_
    refine XS.dup X451.here hx rfl (hb hby d1_71) rfl rfl ?_
    refine own_k X451 hx hby d1_72 ?_
    refine st452 _ ?_
    refine XS.dup X452.here hx rfl (hb hby d1_75) rfl rfl ?_
    refine own_k X452 hx hby d1_76 ?_
    refine own_iN X452 hx hby d1_77 ?_
    refine st455 _ ?_
    refine XS.dup X455.here hx rfl (hb hby d1_79) rfl rfl ?_
    refine own_k X455 hx hby d1_80 ?_
    refine own_iN X455 hx hby d1_81 ?_
    refine st457 _ ?_
    refine st460 _ ?_
    jvm_step X460.here [X460.here.top, hx, (hb hby d1_86), X460.method', hret, Value.isRef, FieldType.isReference]
    first | (intro acts; rw [hr _ acts rfl rfl rfl]) | rw [hr _ _ rfl rfl rfl]
    exact Steps.refl _
  · show Qrm450 Z ca cb h0 _ T460.heap _
    exact ⟨b451, b461, k462, rfl, N460, K460, sz_b451, sz_b461, q460_E_b451, q460_F_b451_coder, q460_F_b451_value, q460_V_b461⟩
  · rw [hs0]
    show CHr Z consts_1 s.vm h0 T460.vm T460.heap
    skip
    exact CR460.trans (CHv.at (s := s) (vm0 := s.vm) X460 hZ (own_hEL hw) CR460.1)
def Qrm464 (Z : State) (ca cb cd : Int32) (h0 : Heap) (v : Option Value) (h : Heap) (L : List Loc) : Prop := ∃ b465 : Addr, ∃ b477 : Addr, ∃ k478 : ClassId, v = some (.ref b465) ∧ Fr Z.heap.size L ∧ Keep h0 h [] ∧ h0.size ≤ b465 ∧ h0.size ≤ b477 ∧ Exa Z h b465 own_cS ∧ Fld Z h b465 own_cS "coder" "B" (.int (0 : Int32)) ∧ Fld Z h b465 own_cS "value" "[B" (.ref b477) ∧ Arv Z h b477 k478 .byte (Int32.ofNat [ca, cb, cd].length) (own_ch (own_bl [ca, cb, cd])) (.int (0 : Int32))
theorem rm464 (l : Launch) (Z : State) (a0 : Array Value) (hw : own_HW Z a0) (ws : List Jvm.Cond) (w_CS pb ca cb cd : Int32) (h0 : Heap) (Z0 : Ext Z.heap h0) (S_w_CS : own_w_CS Z w_CS) (hc102 : ((pb &&& (255 : Int32)).toUInt32.toUInt16.toUInt32.toInt32) = ca) (hc103 : ((((pb.toUInt32 >>> ((8 : Int32) &&& 31).toUInt32).toInt32) &&& (255 : Int32)).toUInt32.toUInt16.toUInt32.toInt32) = cb) (hc104 : ((((pb.toUInt32 >>> ((16 : Int32) &&& 31).toUInt32).toInt32) &&& (255 : Int32)).toUInt32.toUInt16.toUInt32.toInt32) = cd) (hc105 : own_m8 ca) (hc106 : own_m8 cb) (hc107 : own_m8 cd) (hc1 : ¬ (w_CS = (0 : Int32))) :
    own_metW l y_40 method_3_code 5 (some (.object own_cS)) ws ({ frames := 6, cells := 6, slots := 20, locals := 90 } : Room) Z #[(.int (3 : Int32)), (.int pb)] h0 (Qrm464 Z ca cb cd h0) := by
  refine own_startW (plainFor_of_name pn_8) (fun m => ef_method_3_II m (3 : Int32) pb) ?_
  intro p e s m below meth c s₁ hx hby hml hown hnm X0 hZ e0 hret hlk hs0 hC0
  have N0 := Fr.nil Z.heap.size
  have CR0 : CHr Z consts_1 s.vm h0 s.vm h0 := CHr.refl hC0
  have hS0 : s.Since s.vm 0 := (State.WarmedH.refl s).since 0
  have hk0 : 0 ≤ h0.size := Nat.zero_le _
  obtain ⟨T465, h465, X465, e465, E465, A465, D465, -, st465⟩ := newO X0 hx hZ hown (own_w hw 4 rfl) (own_w hw 5 rfl) (own_w hw 6 rfl) e0 (g := (mkF m 87 #[iv (3 : Int32), iv pb, iv ca, iv cb, iv cd] [])) rfl (hb hby d1_87) (by decide) (by decide)
  obtain ⟨b465, g465⟩ : ∃ z, z = h0.size := ⟨_, rfl⟩
  rw [← g465] at A465 D465 st465
  have g_b465 := Nat.le_trans Z0.1 (Nat.le_of_eq g465.symm)
  have sz_b465 := Nat.le_trans (Keep.refl h0 []).1 (Nat.le_of_eq g465.symm)
  have F_b465_coder : Fld Z h465 b465 own_cS "coder" "B" (.int (0 : Int32)) := D465 (Or.inr (own_w hw 31 rfl)) (ty := .byte) (by decide)
  have F_b465_value : Fld Z h465 b465 own_cS "value" "[B" .null := D465 (Or.inr (own_w hw 33 rfl)) (ty := (.array .byte)) (by decide)
  have K465 := (Keep.refl h0 []).ext E465
  have XX465 := own_ext2 Z0 E465
  have CQ465 := CHr.ext E465 CR0.1
  have CR465 := CR0.trans CQ465
  have hk465 := Nat.le_trans hk0 CQ465.2.1
  obtain ⟨T466, h466, k466, X466, e466, E466, A466, EX466, st466⟩ := newPE X465 hx hZ (own_w hw 7 rfl) e465 (g := (mkF m 92 #[iv (3 : Int32), iv pb, iv ca, iv cb, iv cd] [(.int (3 : Int32)), (.ref b465), (.ref b465)])) rfl (hb hby d1_92) rfl (by decide) (cap := 3) (by decide) (by decide) (by decide) (by decide) (ad := "[C") (by decide)
  obtain ⟨b466, g466⟩ : ∃ z, z = h465.size := ⟨_, rfl⟩
  rw [← g466] at A466 EX466 st466
  have g_b466 := Nat.le_trans XX465.1 (Nat.le_of_eq g466.symm)
  have sz_b466 := Nat.le_trans K465.1 (Nat.le_of_eq g466.symm)
  have V_b466 : Arv Z h466 b466 k466 .char (3 : Int32) [(.int (0 : Int32)), (.int (0 : Int32)), (.int (0 : Int32))] (.int (0 : Int32)) := (Arv.new A466 (by decide)).pad (pad_rep [] (.int (0 : Int32)) 3)
  have K466 := K465.ext E466
  have XX466 := own_ext2 XX465 E466
  have CQ466 := CHr.ext E466 CR465.1
  have CR466 := CR465.trans CQ466
  have hk466 := Nat.le_trans hk465 CQ466.2.1
  have sf467_b466 : Safe Z consts_1 s.vm h466 b466 := Safe.exa hZ.alike EX466 (by decide) (by decide)
  obtain ⟨cl468, Ar468, q468, S468, Nn468, H468, G468⟩ := id V_b466
  have hin468 : ¬ ((0 : Int32) < 0 ∨ cl468.slots.size ≤ ((0 : Int32)).toNatClampNeg) := inb_of S468 ⟨by decide, by decide⟩
  obtain ⟨T469, h469, X469, e469, W469, st469⟩ := stC X466 hx hZ e466 Ar468 (j := (0 : Int32)) hin468 (g := (mkF m 97 #[iv (3 : Int32), iv pb, iv ca, iv cb, iv cd] [(.int ca), (.int (0 : Int32)), (.ref b466), (.ref b466), (.ref b465), (.ref b465)])) rfl rfl (hb hby d1_97)
  rw [(own_m8a hc105)] at W469
  have V469 : Arv Z h469 b466 k466 .char (3 : Int32) [(.int ca), (.int (0 : Int32)), (.int (0 : Int32))] (.int (0 : Int32)) := Arv.set Ar468 q468 S468 Nn468 H468 G468 (by rw [← (own_m8a hc105)]; exact fits_nar_char _) W469 0 rfl (Nat.le_of_ble_eq_true rfl)
  have K469 := K466.wr W469 (Or.inr sz_b466)
  have XX469 := own_extW XX466 W469 g_b466
  have N469 := Fr.snoc X469 N0 g_b466
  have CQ469 := CHr.wr W469 sf467_b466 CR466.1
  have sf469_b466 := Safe.wr W469 sf467_b466 CR466.1 sf467_b466
  have CR469 := CR466.trans CQ469
  have hk469 := Nat.le_trans hk466 CQ469.2.1
  obtain ⟨cl470, Ar470, q470, S470, Nn470, H470, G470⟩ := id V469
  have hin470 : ¬ ((1 : Int32) < 0 ∨ cl470.slots.size ≤ ((1 : Int32)).toNatClampNeg) := inb_of S470 ⟨by decide, by decide⟩
  obtain ⟨T471, h471, X471, e471, W471, st471⟩ := stC X469 hx hZ e469 Ar470 (j := (1 : Int32)) hin470 (g := (mkF m 101 #[iv (3 : Int32), iv pb, iv ca, iv cb, iv cd] [(.int cb), (.int (1 : Int32)), (.ref b466), (.ref b466), (.ref b465), (.ref b465)])) rfl rfl (hb hby d1_101)
  rw [(own_m8a hc106)] at W471
  have V471 : Arv Z h471 b466 k466 .char (3 : Int32) [(.int ca), (.int cb), (.int (0 : Int32))] (.int (0 : Int32)) := Arv.set Ar470 q470 S470 Nn470 H470 G470 (by rw [← (own_m8a hc106)]; exact fits_nar_char _) W471 1 rfl (Nat.le_of_ble_eq_true rfl)
  have K471 := K469.wr W471 (Or.inr sz_b466)
  have XX471 := own_extW XX469 W471 g_b466
  have N471 := Fr.snoc X471 N469 g_b466
  have CQ471 := CHr.wr W471 sf469_b466 CR469.1
  have sf471_b466 := Safe.wr W471 sf469_b466 CR469.1 sf469_b466
  have CR471 := CR469.trans CQ471
  have hk471 := Nat.le_trans hk469 CQ471.2.1
  obtain ⟨cl472, Ar472, q472, S472, Nn472, H472, G472⟩ := id V471
  have hin472 : ¬ ((2 : Int32) < 0 ∨ cl472.slots.size ≤ ((2 : Int32)).toNatClampNeg) := inb_of S472 ⟨by decide, by decide⟩
  obtain ⟨T473, h473, X473, e473, W473, st473⟩ := stC X471 hx hZ e471 Ar472 (j := (2 : Int32)) hin472 (g := (mkF m 106 #[iv (3 : Int32), iv pb, iv ca, iv cb, iv cd] [(.int cd), (.int (2 : Int32)), (.ref b466), (.ref b466), (.ref b465), (.ref b465)])) rfl rfl (hb hby d1_106)
  rw [(own_m8a hc107)] at W473
  have V473 : Arv Z h473 b466 k466 .char (3 : Int32) [(.int ca), (.int cb), (.int cd)] (.int (0 : Int32)) := Arv.set Ar472 q472 S472 Nn472 H472 G472 (by rw [← (own_m8a hc107)]; exact fits_nar_char _) W473 2 rfl (Nat.le_of_ble_eq_true rfl)
  have K473 := K471.wr W473 (Or.inr sz_b466)
  have XX473 := own_extW XX471 W473 g_b466
  have N473 := Fr.snoc X473 N471 g_b466
  have CQ473 := CHr.wr W473 sf471_b466 CR471.1
  have CR473 := CR471.trans CQ473
  have hk473 := Nat.le_trans hk471 CQ473.2.1
  have ne_b465_b466 := Nat.ne_of_lt (Nat.lt_of_lt_of_le A465.lt (Nat.le_of_eq g466.symm))
  have f475_F_b465_value := ((((F_b465_value.ext E466).other W469 (Or.inl ne_b465_b466)).other W471 (Or.inl ne_b465_b466)).other W473 (Or.inl ne_b465_b466))
  have sf474_b465 : Safe Z consts_1 s.vm h473 b465 := own_safe hZ.alike ((((A465.ext E466).wr W469).wr W471).wr W473) (own_w hw 5 rfl) f475_F_b465_value
  have f479_F_b465_coder := ((((F_b465_coder.ext E466).other W469 (Or.inl ne_b465_b466)).other W471 (Or.inl ne_b465_b466)).other W473 (Or.inl ne_b465_b466))
  obtain ⟨_, T476, Lc476, X476, hQ476, st476⟩ := own_special (y := y_39) X473 hx hZ hown rfl (own_w hw 8 rfl) (own_w hw 9 rfl) (own_w hw 6 rfl) (own_w hw 10 rfl) (rm398 l Z a0 hw [] w_CS b465 b466 k466 [ca, cb, cd] h473 XX473 S_w_CS ((((A465.ext E466).wr W469).wr W471).wr W473) f479_F_b465_coder f475_F_b465_value V473 g_b465 ⟨Nat.le_of_ble_eq_true rfl, Nat.le_of_ble_eq_true rfl⟩ hc1 (own_a8_3 hc105 hc106 hc107)) e473 b465 (g := (mkF m 107 #[iv (3 : Int32), iv pb, iv ca, iv cb, iv cd] [(.ref b466), (.ref b465), (.ref b465)])) (argsL := [(.ref b466)]) (rest := [(.ref b465)]) (W := 1) (lenOf pd_26 rfl) (hb hby d1_107) hml
  obtain ⟨b477, k478, rfl, N476q, K476q, szn_b477, q476_E_b465, q476_F_b465_coder, q476_F_b465_value, q476_V_b477⟩ := hQ476
  have sz_b477 := Nat.le_trans K473.1 szn_b477
  have K476 := K473.trans K476q (allS (Or.inr sz_b465) all0)
  have N476 := Fr.app N473 N476q
  have hs476 : ∀ x ∈ [b465], Safe Z consts_1 s.vm h473 x := (allS sf474_b465 all0)
  have CQ476 := CHr.keep K476q hs476 CR473.1
  have CR476 := CR473.trans CQ476
  have hk476 := Nat.le_trans hk473 CQ476.2.1
  obtain ⟨_, hr, hrun, hended, hend⟩ := leaveW (s := s) (vm₁ := s.vm) X476 hS0 hk476 (v := some (.ref b465)) (fun h => by rw [hret] at h; cases h) hlk
  refine ⟨_, _, ?_, hrun, hended, _, _, rfl, ?_, ?_, hend.1, hend.2.1, hend.2.2.1, hend.2.2.2.mono (by decide) (by decide)⟩
  · show own_S p e below s₁ (mkF m 0 #[iv (3 : Int32), iv pb, .unset, .unset, .unset] []) _
    refine own_iN X0 hx hby d1_0 ?_
    refine XS.sipush X0.here hx rfl (hb hby d1_1) ?_
    refine XS.iand X0.here hx rfl (hb hby d1_4) rfl ?_
    refine XS.i2c X0.here hx rfl (hb hby d1_5) rfl ?_
    show own_S p e below s₁ (mkF m 6 #[iv (3 : Int32), iv pb, .unset, .unset, .unset] [(.int ((pb &&& (255 : Int32)).toUInt32.toUInt16.toUInt32.toInt32))]) _
    rw [hc102]
    refine XS.istoreN X0.here hx rfl (hb hby d1_6) rfl (l' := #[iv (3 : Int32), iv pb, iv ca, .unset, .unset]) rfl ?_
    refine own_iN X0 hx hby d1_7 ?_
    refine XS.bipush X0.here hx rfl (hb hby d1_8) ?_
    refine XS.iushr X0.here hx rfl (hb hby d1_10) rfl ?_
    refine XS.sipush X0.here hx rfl (hb hby d1_11) ?_
    refine XS.iand X0.here hx rfl (hb hby d1_14) rfl ?_
    refine XS.i2c X0.here hx rfl (hb hby d1_15) rfl ?_
    show own_S p e below s₁ (mkF m 16 #[iv (3 : Int32), iv pb, iv ca, .unset, .unset] [(.int ((((pb.toUInt32 >>> ((8 : Int32) &&& 31).toUInt32).toInt32) &&& (255 : Int32)).toUInt32.toUInt16.toUInt32.toInt32))]) _
    rw [hc103]
    refine XS.istoreN X0.here hx rfl (hb hby d1_16) rfl (l' := #[iv (3 : Int32), iv pb, iv ca, iv cb, .unset]) rfl ?_
    refine own_iN X0 hx hby d1_17 ?_
    refine XS.bipush X0.here hx rfl (hb hby d1_18) ?_
    refine XS.iushr X0.here hx rfl (hb hby d1_20) rfl ?_
    refine XS.sipush X0.here hx rfl (hb hby d1_21) ?_
    refine XS.iand X0.here hx rfl (hb hby d1_24) rfl ?_
    refine XS.i2c X0.here hx rfl (hb hby d1_25) rfl ?_
    show own_S p e below s₁ (mkF m 26 #[iv (3 : Int32), iv pb, iv ca, iv cb, .unset] [(.int ((((pb.toUInt32 >>> ((16 : Int32) &&& 31).toUInt32).toInt32) &&& (255 : Int32)).toUInt32.toUInt16.toUInt32.toInt32))]) _
    rw [hc104]
    refine XS.istore X0.here hx rfl (hb hby d1_26) rfl (l' := #[iv (3 : Int32), iv pb, iv ca, iv cb, iv cd]) rfl ?_
    refine own_iN X0 hx hby d1_28 ?_
    refine own_iy (pc := 29) X0 hx hby d1_29 (feq (by decide : ¬ ((3 : Int32) = (0 : Int32)))).2 43 ?_
    refine own_iN X0 hx hby d1_43 ?_
    refine own_k X0 hx hby d1_44 ?_
    refine own_cy (pc := 45) X0 hx hby d1_45 (feq (by decide : ¬ ((3 : Int32) = (1 : Int32)))).2 63 ?_
    refine own_iN X0 hx hby d1_63 ?_
    refine own_k X0 hx hby d1_64 ?_
    refine own_cy (pc := 65) X0 hx hby d1_65 (feq (by decide : ¬ ((3 : Int32) = (2 : Int32)))).2 87 ?_
    refine st465 _ ?_
    refine XS.dup X465.here hx rfl (hb hby d1_90) rfl rfl ?_
    refine own_k X465 hx hby d1_91 ?_
    refine st466 _ ?_
    refine XS.dup X466.here hx rfl (hb hby d1_94) rfl rfl ?_
    refine own_k X466 hx hby d1_95 ?_
    refine own_iN X466 hx hby d1_96 ?_
    refine st469 _ ?_
    refine XS.dup X469.here hx rfl (hb hby d1_98) rfl rfl ?_
    refine own_k X469 hx hby d1_99 ?_
    refine own_iN X469 hx hby d1_100 ?_
    refine st471 _ ?_
    refine XS.dup X471.here hx rfl (hb hby d1_102) rfl rfl ?_
    refine own_k X471 hx hby d1_103 ?_
    refine own_i X471 hx hby d1_104 ?_
    refine st473 _ ?_
    refine st476 _ ?_
    jvm_step X476.here [X476.here.top, hx, (hb hby d1_110), X476.method', hret, Value.isRef, FieldType.isReference]
    first | (intro acts; rw [hr _ acts rfl rfl rfl]) | rw [hr _ _ rfl rfl rfl]
    exact Steps.refl _
  · show Qrm464 Z ca cb cd h0 _ T476.heap _
    exact ⟨b465, b477, k478, rfl, N476, K476, sz_b465, sz_b477, q476_E_b465, q476_F_b465_coder, q476_F_b465_value, q476_V_b477⟩
  · rw [hs0]
    show CHr Z consts_1 s.vm h0 T476.vm T476.heap
    skip
    exact CR476.trans (CHv.at (s := s) (vm0 := s.vm) X476 hZ (own_hEL hw) CR476.1)
def Qown_mkJ (Z : State) (fs : List Int32) (h0 : Heap) (v : Option Value) (h : Heap) (L : List Loc) : Prop := ∃ b : Addr, v = some (.ref b) ∧ Fr Z.heap.size L ∧ Keep h0 h [] ∧ h0.size ≤ b ∧ Exa Z h b own_cS ∧ own_rep Z h b fs
theorem own_mkJ (l : Launch) (Z : State) (a0 : Array Value) (hw : own_HW Z a0) (ws : List Jvm.Cond) (w_CS pb : Int32) (fs : List Int32) (h0 : Heap) (Z0 : Ext Z.heap h0) (S_w_CS : own_w_CS Z w_CS) (hc1 : ¬ (w_CS = (0 : Int32))) (hc108 : own_mk fs pb) :
    own_metW l y_40 method_3_code 5 (some (.object own_cS)) ws ({ frames := 6, cells := 6, slots := 20, locals := 90 } : Room) Z #[(.int (Int32.ofNat fs.length)), (.int pb)] h0 (Qown_mkJ Z fs h0) := by
  rcases hc108 with rfl | rfl | rfl | rfl
  · exact own_monoW (rm436 l Z a0 hw ws pb (own_c pb) (own_c ((pb.toUInt32 >>> ((8 : Int32) &&& 31).toUInt32).toInt32)) (own_c ((pb.toUInt32 >>> ((16 : Int32) &&& 31).toUInt32).toInt32)) h0 Z0 rfl rfl rfl) fun v h L ⟨b437, z1, z2, z3, s0, f0, f1⟩ => ⟨b437, z1, z2, z3, s0, f0, f1⟩
  · exact own_monoW (rm440 l Z a0 hw ws w_CS pb (own_c pb) (own_c ((pb.toUInt32 >>> ((8 : Int32) &&& 31).toUInt32).toInt32)) (own_c ((pb.toUInt32 >>> ((16 : Int32) &&& 31).toUInt32).toInt32)) h0 Z0 S_w_CS rfl rfl rfl (own_m8_c _) hc1) fun v h L ⟨b441, b448, k449, z1, z2, z3, s0, s1, f0, f1, f2, f3⟩ => ⟨b441, z1, z2, z3, s0, f0, b448, k449, f2, f1, f3⟩
  · exact own_monoW (rm450 l Z a0 hw ws w_CS pb (own_c pb) (own_c ((pb.toUInt32 >>> ((8 : Int32) &&& 31).toUInt32).toInt32)) (own_c ((pb.toUInt32 >>> ((16 : Int32) &&& 31).toUInt32).toInt32)) h0 Z0 S_w_CS rfl rfl rfl (own_m8_c _) (own_m8_c _) hc1) fun v h L ⟨b451, b461, k462, z1, z2, z3, s0, s1, f0, f1, f2, f3⟩ => ⟨b451, z1, z2, z3, s0, f0, b461, k462, f2, f1, f3⟩
  · exact own_monoW (rm464 l Z a0 hw ws w_CS pb (own_c pb) (own_c ((pb.toUInt32 >>> ((8 : Int32) &&& 31).toUInt32).toInt32)) (own_c ((pb.toUInt32 >>> ((16 : Int32) &&& 31).toUInt32).toInt32)) h0 Z0 S_w_CS rfl rfl rfl (own_m8_c _) (own_m8_c _) (own_m8_c _) hc1) fun v h L ⟨b465, b477, k478, z1, z2, z3, s0, s1, f0, f1, f2, f3⟩ => ⟨b465, z1, z2, z3, s0, f0, b477, k478, f2, f1, f3⟩
def Qrm489 (Z : State) (b483 : Addr) (h0 : Heap) (v : Option Value) (h : Heap) (L : List Loc) : Prop := ∃ b492 : Addr, ∃ k492 : ClassId, v = none ∧ Fr Z.heap.size L ∧ Keep h0 h [b483] ∧ h0.size ≤ b492 ∧ Exa Z h b483 own_cB ∧ Fld Z h b483 own_cA "coder" "B" (.int (0 : Int32)) ∧ Fld Z h b483 own_cA "count" "I" (.int (0 : Int32)) ∧ Fld Z h b483 own_cA "value" "[B" (.ref b492) ∧ Arv Z h b492 k492 .byte (16 : Int32) [(.int (0 : Int32)), (.int (0 : Int32)), (.int (0 : Int32)), (.int (0 : Int32)), (.int (0 : Int32)), (.int (0 : Int32)), (.int (0 : Int32)), (.int (0 : Int32)), (.int (0 : Int32)), (.int (0 : Int32)), (.int (0 : Int32)), (.int (0 : Int32)), (.int (0 : Int32)), (.int (0 : Int32)), (.int (0 : Int32)), (.int (0 : Int32))] (.int (0 : Int32)) ∧ Exa Z h b492 "[B"
theorem rm489 (l : Launch) (Z : State) (a0 : Array Value) (hw : own_HW Z a0) (ws : List Jvm.Cond) (w_CS : Int32) (b483 : Addr) (h0 : Heap) (Z0 : Ext Z.heap h0) (S_w_CS : own_w_CS Z w_CS) (E_b483 : Exa Z h0 b483 own_cB) (F_b483_coder : Fld Z h0 b483 own_cA "coder" "B" (.int (0 : Int32))) (F_b483_count : Fld Z h0 b483 own_cA "count" "I" (.int (0 : Int32))) (F_b483_value : Fld Z h0 b483 own_cA "value" "[B" .null) (g_b483 : Z.heap.size ≤ b483) (hc1 : ¬ (w_CS = (0 : Int32))) :
    own_met l y_41 jdk_68_method_2_code 2 none ws ({ frames := 1, cells := 1, slots := 16, locals := 12 } : Room) Z #[(.ref b483), (.int (16 : Int32))] h0 (Qrm489 Z b483 h0) := by
  refine own_start (plainFor_of_name pn_1) (fun m => ef_jdk_68_method_2_RI m b483 (16 : Int32)) ?_
  intro p e s m below meth c s₁ hx hby hml hown hnm X0 hZ e0 hret hlk
  have N0 := Fr.nil Z.heap.size
  obtain ⟨T490, X490, e490, st490⟩ := initO X0 hx hZ hown (own_w hw 67 rfl) (own_w hw 16 rfl) (own_w hw 17 rfl) e0 (g := (mkF m 1 #[rv b483, iv (16 : Int32)] [(.ref b483)])) rfl (by rw [hml]; rfl) rfl (hb hby d11_1) (by decide) (W := 0) (by show 2 * 0 + _ ≤ _; exact Nat.le_of_eq rfl) (by decide)
  obtain ⟨T491, X491, e491, st491⟩ := getS2 X490 hx hZ hown (host := "") (Or.inl (own_w hw 68 rfl)) Via.refl e490 (S_w_CS.ext Z0) (g := (mkF m 4 #[rv b483, iv (16 : Int32)] [])) rfl (hb hby d11_4)
  obtain ⟨T492, h492, k492, X492, e492, E492, A492, EX492, st492⟩ := newPE X491 hx hZ (own_w hw 23 rfl) e491 (g := (mkF m 12 #[rv b483, iv (16 : Int32)] [(.int (16 : Int32)), (.ref b483)])) rfl (hb hby d11_12) rfl (by decide) (cap := 16) (by decide) (by decide) (by decide) (by decide) (ad := "[B") (by decide)
  obtain ⟨b492, g492⟩ : ∃ z, z = h0.size := ⟨_, rfl⟩
  rw [← g492] at A492 EX492 st492
  have sz_b492 := Nat.le_trans (Keep.refl h0 [b483]).1 (Nat.le_of_eq g492.symm)
  have V_b492 : Arv Z h492 b492 k492 .byte (16 : Int32) [(.int (0 : Int32)), (.int (0 : Int32)), (.int (0 : Int32)), (.int (0 : Int32)), (.int (0 : Int32)), (.int (0 : Int32)), (.int (0 : Int32)), (.int (0 : Int32)), (.int (0 : Int32)), (.int (0 : Int32)), (.int (0 : Int32)), (.int (0 : Int32)), (.int (0 : Int32)), (.int (0 : Int32)), (.int (0 : Int32)), (.int (0 : Int32))] (.int (0 : Int32)) := (Arv.new A492 (by decide)).pad (pad_rep [] (.int (0 : Int32)) 16)
  have K492 := (Keep.refl h0 [b483]).ext E492
  obtain ⟨T493, h493, X493, e493, W493, st493⟩ := putF X492 hx hZ hown (host := "") (Or.inl (own_w hw 69 rfl)) Via.refl e492 (F_b483_value.ext E492) (E_b483.ext E492) (Or.inl (own_w hw 70 rfl)) (own_w hw 56 rfl) (ty := (.array .byte)) (by decide) rfl rfl (g := (mkF m 14 #[rv b483, iv (16 : Int32)] [(.ref b492), (.ref b483)])) rfl rfl (hb hby d11_14)
  have K493 := K492.wr W493 (Or.inl (List.mem_of_getElem? (i := 0) rfl))
  have N493 := Fr.snoc X493 N0 g_b483
  have f494_F_b483_coder := ((F_b483_coder.ext E492).other W493 (Or.inr (slot_ne (Or.inl (own_w hw 72 rfl)) (Or.inl (own_w hw 70 rfl)) (by decide) (t := .byte) (t' := (.array .byte)) (by decide) (by decide))))
  obtain ⟨T495, h495, X495, e495, W495, st495⟩ := putFN X493 hx hZ hown (own_w hw 71 rfl) Via.refl e493 f494_F_b483_coder ((E_b483.ext E492).wr W493) (Or.inl (own_w hw 72 rfl)) (own_w hw 56 rfl) (ty := .byte) (v' := (.int (0 : Int32))) (by decide) rfl (by decide) (g := (mkF m 19 #[rv b483, iv (16 : Int32)] [(.int (0 : Int32)), (.ref b483)])) rfl rfl (hb hby d11_19)
  have K495 := K493.wr W495 (Or.inl (List.mem_of_getElem? (i := 0) rfl))
  have N495 := Fr.snoc X495 N493 g_b483
  have f496_F_b483_count := (((F_b483_count.ext E492).other W493 (Or.inr (slot_ne (Or.inl (own_w hw 94 rfl)) (Or.inl (own_w hw 70 rfl)) (by decide) (t := .int) (t' := (.array .byte)) (by decide) (by decide)))).other W495 (Or.inr (slot_ne (Or.inl (own_w hw 94 rfl)) (Or.inl (own_w hw 72 rfl)) (by decide) (t := .int) (t' := .byte) (by decide) (by decide))))
  have f497_F_b483_value := (((F_b483_value.ext E492).same W493).other W495 (Or.inr (slot_ne (Or.inl (own_w hw 70 rfl)) (Or.inl (own_w hw 72 rfl)) (by decide) (t := (.array .byte)) (t' := .byte) (by decide) (by decide))))
  have ne_b483_b492 := Nat.ne_of_lt (Nat.lt_of_lt_of_le E_b483.lt (Nat.le_of_eq g492.symm))
  have f498_V_b492 := ((V_b492.other W493 (Ne.symm ne_b483_b492)).other W495 (Ne.symm ne_b483_b492))
  obtain ⟨_, hr, hrun, hended, hW, hsame⟩ := X495.leave (v := none) (fun _ => rfl) hlk
  refine ⟨_, _, ?_, hrun, hended, _, _, rfl, ?_, ⟨_, rfl⟩, hW, hsame.mono (by decide) (by decide)⟩
  · show own_S p e below s₁ (mkF m 0 #[rv b483, iv (16 : Int32)] []) _
    refine own_aN X0 hx hby d11_0 ?_
    refine st490 _ ?_
    refine st491 _ ?_
    refine own_in X491 hx hby d11_7 (feq hc1).1 ?_
    refine own_aN X491 hx hby d11_10 ?_
    refine own_iN X491 hx hby d11_11 ?_
    refine st492 _ ?_
    refine st493 _ ?_
    refine own_aN X493 hx hby d11_17 ?_
    refine own_k X493 hx hby d11_18 ?_
    refine st495 _ ?_
    refine own_go (pc := 22) X495 hx hby d11_22 38 ?_
    exact X495.returnOut hx hret (hb hby d11_38) hr
  · show Qrm489 Z b483 h0 _ T495.heap _
    rw [e495]
    exact ⟨b492, k492, rfl, N495, K495, sz_b492, (((E_b483.ext E492).wr W493).wr W495), (f494_F_b483_coder.same W495), f496_F_b483_count, f497_F_b483_value, f498_V_b492, ((EX492.wr W493).wr W495)⟩
def Qrm488 (Z : State) (b483 : Addr) (h0 : Heap) (v : Option Value) (h : Heap) (L : List Loc) : Prop := ∃ b500 : Addr, ∃ k501 : ClassId, v = none ∧ Fr Z.heap.size L ∧ Keep h0 h [b483] ∧ h0.size ≤ b500 ∧ Exa Z h b483 own_cB ∧ Fld Z h b483 own_cA "coder" "B" (.int (0 : Int32)) ∧ Fld Z h b483 own_cA "count" "I" (.int (0 : Int32)) ∧ Fld Z h b483 own_cA "value" "[B" (.ref b500) ∧ Arv Z h b500 k501 .byte (16 : Int32) [(.int (0 : Int32)), (.int (0 : Int32)), (.int (0 : Int32)), (.int (0 : Int32)), (.int (0 : Int32)), (.int (0 : Int32)), (.int (0 : Int32)), (.int (0 : Int32)), (.int (0 : Int32)), (.int (0 : Int32)), (.int (0 : Int32)), (.int (0 : Int32)), (.int (0 : Int32)), (.int (0 : Int32)), (.int (0 : Int32)), (.int (0 : Int32))] (.int (0 : Int32)) ∧ Exa Z h b500 "[B"
theorem rm488 (l : Launch) (Z : State) (a0 : Array Value) (hw : own_HW Z a0) (ws : List Jvm.Cond) (w_CS : Int32) (b483 : Addr) (h0 : Heap) (Z0 : Ext Z.heap h0) (S_w_CS : own_w_CS Z w_CS) (E_b483 : Exa Z h0 b483 own_cB) (F_b483_coder : Fld Z h0 b483 own_cA "coder" "B" (.int (0 : Int32))) (F_b483_count : Fld Z h0 b483 own_cA "count" "I" (.int (0 : Int32))) (F_b483_value : Fld Z h0 b483 own_cA "value" "[B" .null) (g_b483 : Z.heap.size ≤ b483) (hc1 : ¬ (w_CS = (0 : Int32))) :
    own_met l y_42 jdk_67_method_1_code 1 none ws ({ frames := 2, cells := 1, slots := 16, locals := 25 } : Room) Z #[(.ref b483)] h0 (Qrm488 Z b483 h0) := by
  refine own_start (plainFor_of_name pn_4) (fun m => ef_jdk_67_method_1_R m b483) ?_
  intro p e s m below meth c s₁ hx hby hml hown hnm X0 hZ e0 hret hlk
  have N0 := Fr.nil Z.heap.size
  obtain ⟨_, T499, Lc499, X499, hQ499, st499⟩ := own_special (y := y_41) X0 hx hZ hown rfl (own_w hw 61 rfl) (own_w hw 62 rfl) (own_w hw 65 rfl) (own_w hw 66 rfl) (rm489 l Z a0 hw [] w_CS b483 h0 Z0 S_w_CS E_b483 F_b483_coder F_b483_count F_b483_value g_b483 hc1) e0 b483 (g := (mkF m 3 #[rv b483] [(.int (16 : Int32)), (.ref b483)])) (argsL := [(.int (16 : Int32))]) (rest := []) (W := 0) (lenOf pd_4 rfl) (hb hby d10_3) hml
  obtain ⟨b500, k501, rfl, N499q, K499q, szn_b500, q499_E_b483, q499_F_b483_coder, q499_F_b483_count, q499_F_b483_value, q499_V_b500, q499_E_b500⟩ := hQ499
  have sz_b500 := Nat.le_trans (Keep.refl h0 [b483]).1 szn_b500
  have K499 := (Keep.refl h0 [b483]).trans K499q (allS (Or.inl (List.mem_of_getElem? (i := 0) rfl)) all0)
  have N499 := Fr.app N0 N499q
  obtain ⟨_, hr, hrun, hended, hW, hsame⟩ := X499.leave (v := none) (fun _ => rfl) hlk
  refine ⟨_, _, ?_, hrun, hended, _, _, rfl, ?_, ⟨_, rfl⟩, hW, hsame.mono (by decide) (by decide)⟩
  · show own_S p e below s₁ (mkF m 0 #[rv b483] []) _
    refine own_aN X0 hx hby d10_0 ?_
    refine XS.bipush X0.here hx rfl (hb hby d10_1) ?_
    refine st499 _ ?_
    exact X499.returnOut hx hret (hb hby d10_6) hr
  · show Qrm488 Z b483 h0 _ T499.heap _
    exact ⟨b500, k501, rfl, N499, K499, sz_b500, q499_E_b483, q499_F_b483_coder, q499_F_b483_count, q499_F_b483_value, q499_V_b500, q499_E_b500⟩
def Qrm481 (Z : State) (fs rs : List Int32) (h0 : Heap) (v : Option Value) (h : Heap) (L : List Loc) : Prop := ∃ b528 : Addr, ∃ b529 : Addr, ∃ k530 : ClassId, v = some (.ref b528) ∧ Fr Z.heap.size L ∧ Keep h0 h [] ∧ h0.size ≤ b528 ∧ h0.size ≤ b529 ∧ Exa Z h b528 own_cS ∧ Fld Z h b528 own_cS "coder" "B" (.int (0 : Int32)) ∧ Fld Z h b528 own_cS "value" "[B" (.ref b529) ∧ Arv Z h b529 k530 .byte (Int32.ofNat (((([] : List Int32) ++ fs) ++ [(58 : Int32), (32 : Int32)]) ++ rs).length) (own_ch (((([] : List Int32) ++ fs) ++ [(58 : Int32), (32 : Int32)]) ++ rs)) (.int (0 : Int32))
theorem rm481 (l : Launch) (Z : State) (a0 : Array Value) (hw : own_HW Z a0) (ws : List Jvm.Cond) (w_CS qa : Int32) (fs rs : List Int32) (pr f1 e1 : Addr) (k1 : ClassId) (r1 e2 : Addr) (k2 : ClassId) (h0 : Heap) (Z0 : Ext Z.heap h0) (S_w_CS : own_w_CS Z w_CS) (E_pr : Exa Z h0 pr own_cP) (F_pr_file : Fld Z h0 pr own_cP "file" "Ljava/lang/String;" (.ref f1)) (F_pr_line : Fld Z h0 pr own_cP "line" "I" (.int qa)) (F_pr_reason : Fld Z h0 pr own_cP "reason" "Ljava/lang/String;" (.ref r1)) (E_f1 : Exa Z h0 f1 own_cS) (F_f1_coder : Fld Z h0 f1 own_cS "coder" "B" (.int (0 : Int32))) (F_f1_value : Fld Z h0 f1 own_cS "value" "[B" (.ref e1)) (V_e1 : Arv Z h0 e1 k1 .byte (Int32.ofNat fs.length) (own_ch fs) (.int (0 : Int32))) (E_r1 : Exa Z h0 r1 own_cS) (F_r1_coder : Fld Z h0 r1 own_cS "coder" "B" (.int (0 : Int32))) (F_r1_value : Fld Z h0 r1 own_cS "value" "[B" (.ref e2)) (V_e2 : Arv Z h0 e2 k2 .byte (Int32.ofNat rs.length) (own_ch rs) (.int (0 : Int32))) (hc109 : qa = (0 : Int32)) (hc1 : ¬ (w_CS = (0 : Int32))) (hc110 : ([] : List Int32).length + fs.length ≤ 16) (hc111 : (([] : List Int32) ++ fs).length + [(58 : Int32), (32 : Int32)].length ≤ 16) (hc112 : ((([] : List Int32) ++ fs) ++ [(58 : Int32), (32 : Int32)]).length + rs.length ≤ 16) (hc113 : (((([] : List Int32) ++ fs) ++ [(58 : Int32), (32 : Int32)]) ++ rs).length ≤ 16) :
    own_metW l y_43 prog_8_method_2_code 1 (some (.object own_cS)) ws ({ frames := 7, cells := 9, slots := 140, locals := 130 } : Room) Z #[(.ref pr)] h0 (Qrm481 Z fs rs h0) := by
  refine own_startW (plainFor_of_name pn_10) (fun m => ef_prog_8_method_2_R m pr) ?_
  intro p e s m below meth c s₁ hx hby hml hown hnm X0 hZ e0 hret hlk hs0 hC0
  have N0 := Fr.nil Z.heap.size
  have CR0 : CHr Z consts_1 s.vm h0 s.vm h0 := CHr.refl hC0
  have hS0 : s.Since s.vm 0 := (State.WarmedH.refl s).since 0
  have hk0 : 0 ≤ h0.size := Nat.zero_le _
  obtain ⟨T482, X482, e482, st482⟩ := getF X0 hx hZ hown (host := "") (Or.inl (own_w hw 46 rfl)) Via.refl e0 F_pr_line (g := (mkF m 1 #[rv pr] [(.ref pr)])) rfl rfl (hb hby d9_1)
  obtain ⟨T483, h483, X483, e483, E483, A483, D483, -, st483⟩ := newO X482 hx hZ hown (own_w hw 55 rfl) (own_w hw 56 rfl) (own_w hw 57 rfl) e482 (g := (mkF m 7 #[rv pr] [])) rfl (hb hby d9_7) (by decide) (by decide)
  obtain ⟨b483, g483⟩ : ∃ z, z = h0.size := ⟨_, rfl⟩
  rw [← g483] at A483 D483 st483
  have g_b483 := Nat.le_trans Z0.1 (Nat.le_of_eq g483.symm)
  have sz_b483 := Nat.le_trans (Keep.refl h0 []).1 (Nat.le_of_eq g483.symm)
  have F_b483_value : Fld Z h483 b483 own_cA "value" "[B" .null := D483 (Or.inl (own_w hw 70 rfl)) (ty := (.array .byte)) (by decide)
  have F_b483_coder : Fld Z h483 b483 own_cA "coder" "B" (.int (0 : Int32)) := D483 (Or.inl (own_w hw 72 rfl)) (ty := .byte) (by decide)
  have F_b483_count : Fld Z h483 b483 own_cA "count" "I" (.int (0 : Int32)) := D483 (Or.inl (own_w hw 94 rfl)) (ty := .int) (by decide)
  have K483 := (Keep.refl h0 []).ext E483
  have XX483 := own_ext2 Z0 E483
  have CQ483 := CHr.ext E483 CR0.1
  have CR483 := CR0.trans CQ483
  have hk483 := Nat.le_trans hk0 CQ483.2.1
  have sf487_b483 : Safe Z consts_1 s.vm h483 b483 := Safe.exa hZ.alike A483 (by decide) (by decide)
  obtain ⟨_, T502, Lc502, X502, hQ502, st502⟩ := own_special (y := y_42) X483 hx hZ hown rfl (own_w hw 58 rfl) (own_w hw 59 rfl) (own_w hw 57 rfl) (own_w hw 60 rfl) (rm488 l Z a0 hw [] w_CS b483 h483 XX483 S_w_CS A483 F_b483_coder F_b483_count F_b483_value g_b483 hc1) e483 b483 (g := (mkF m 11 #[rv pr] [(.ref b483), (.ref b483)])) (argsL := []) (rest := [(.ref b483)]) (W := 1) (lenOf pd_27 rfl) (hb hby d9_11) hml
  obtain ⟨b503, k504, rfl, N502q, K502q, szn_b503, q502_E_b483, q502_F_b483_coder, q502_F_b483_count, q502_F_b483_value, q502_V_b503, q502_E_b503⟩ := hQ502
  have g_b503 := Nat.le_trans XX483.1 szn_b503
  have sz_b503 := Nat.le_trans K483.1 szn_b503
  have K502 := K483.trans K502q (allS (Or.inr sz_b483) all0)
  have XX502 := own_extK XX483 K502q (allS g_b483 all0)
  have N502 := Fr.app N0 N502q
  have hs502 : ∀ x ∈ [b483], Safe Z consts_1 s.vm h483 x := (allS sf487_b483 all0)
  have CQ502 := CHr.keep K502q hs502 CR483.1
  have sf502_b483 := Safe.keep K502q hs502 CR483.1 sf487_b483
  have sf502_b503 := Safe.keep K502q hs502 CR483.1 (Safe.new szn_b503)
  have CR502 := CR483.trans CQ502
  have hk502 := Nat.le_trans hk483 CQ502.2.1
  have ne_pr_b483 := Nat.ne_of_lt (Nat.lt_of_lt_of_le E_pr.lt (Nat.le_of_eq g483.symm))
  obtain ⟨T505, X505, e505, st505⟩ := getF X502 hx hZ hown (host := "") (Or.inl (own_w hw 44 rfl)) Via.refl rfl ((F_pr_file.ext E483).keep K502q (ninS ne_pr_b483 (nin0))) (g := (mkF m 15 #[rv pr] [(.ref pr), (.ref b483)])) rfl rfl (hb hby d9_15)
  have ne_f1_b483 := Nat.ne_of_lt (Nat.lt_of_lt_of_le E_f1.lt (Nat.le_of_eq g483.symm))
  have ne_e1_b483 := Nat.ne_of_lt (Nat.lt_of_lt_of_le V_e1.lt (Nat.le_of_eq g483.symm))
  have ne_b483_b503 := Nat.ne_of_lt (Nat.lt_of_lt_of_le A483.lt szn_b503)
  obtain ⟨_, T508, Lc508, X508, hQ508, st508⟩ := own_virtual (y := y_17) X505 hx hZ hown (own_w hw 73 rfl) (own_w hw 74 rfl) (own_w hw 76 rfl) (own_w hw 75 rfl) (own_w hw 57 rfl) (own_w hw 77 rfl) (own_apS_n16 l Z a0 hw [] w_CS b483 b503 k504 ([] : List Int32) f1 e1 k1 fs T502.heap XX502 S_w_CS q502_E_b483 q502_F_b483_value q502_F_b483_coder q502_F_b483_count q502_V_b503 ((E_f1.ext E483).keep K502q) ((F_f1_coder.ext E483).keep K502q (ninS ne_f1_b483 (nin0))) ((F_f1_value.ext E483).keep K502q (ninS ne_f1_b483 (nin0))) ((V_e1.ext E483).keep K502q (ninS ne_e1_b483 (nin0))) g_b483 g_b503 hc1 hc110 ne_b483_b503 (Ne.symm ne_b483_b503)) e505 q502_E_b483 (g := (mkF m 18 #[rv pr] [(.ref f1), (.ref b483)])) (argsL := [(.ref f1)]) (rest := []) (W := 0) (lenOf pd_28 rfl) (hb hby d9_18) hml
  obtain ⟨rfl, N508q, K508q, q508_E_b483, q508_F_b483_value, q508_F_b483_coder, q508_F_b483_count, q508_V_b503⟩ := hQ508
  have K508 := K502.trans K508q (allS (Or.inr sz_b483) (allS (Or.inr sz_b503) all0))
  have XX508 := own_extK XX502 K508q (allS g_b483 (allS g_b503 all0))
  have N508 := Fr.app N502 N508q
  have hs508 : ∀ x ∈ [b483, b503], Safe Z consts_1 s.vm T502.heap x := (allS sf502_b483 (allS sf502_b503 all0))
  have CQ508 := CHr.keep K508q hs508 CR502.1
  have sf508_b483 := Safe.keep K508q hs508 CR502.1 sf502_b483
  have sf508_b503 := Safe.keep K508q hs508 CR502.1 sf502_b503
  have CR508 := CR502.trans CQ508
  have hk508 := Nat.le_trans hk502 CQ508.2.1
  obtain ⟨ba509, T509, h509, k1_509, bb509, kb509, X509, e509, E509, hS509, hk509, hZ509, hown509, EA509, FC509, FV509, AV509, -, -, hC509, -, hn509, st509⟩ := ldcCH (s := s) (vm0 := s.vm) X508 hx hZ hown (own_w hw 143 rfl) (own_wS hw) rfl hS0 hk508 (own_hEL hw) (List.mem_of_getElem? (i := 0) rfl) CR508.1 (vs := [(.int (58 : Int32)), (.int (32 : Int32))]) (z := (2 : Int32)) ⟨by decide, rfl⟩ (by decide) (by decide) (g := (mkF m 21 #[rv pr] [(.ref b483)])) rfl (hb hby d9_21) (n := 8) (by decide) (by decide) (by decide) (by decide)
  have sf509_b483 := hC509.safe q508_E_b483.lt sf508_b483
  have sf509_b503 := hC509.safe q508_V_b503.lt sf508_b503
  have CR509 := CR508.trans hC509
  have K509 := K508.ext E509
  have XX509 := own_ext2 XX508 E509
  obtain ⟨_, T514, Lc514, X514, hQ514, st514⟩ := own_virtual (y := y_17) X509 hx hZ509 hown509 (own_w hw 73 rfl) (own_w hw 74 rfl) (own_w hw 76 rfl) (own_w hw 75 rfl) (own_w hw 57 rfl) (own_w hw 77 rfl) (own_apS_n16 l Z a0 hw [] w_CS b483 b503 k504 (([] : List Int32) ++ fs) ba509 bb509 kb509 [(58 : Int32), (32 : Int32)] h509 XX509 S_w_CS (q508_E_b483.ext E509) (q508_F_b483_value.ext E509) (q508_F_b483_coder.ext E509) (q508_F_b483_count.ext E509) (q508_V_b503.ext E509) EA509 FC509 FV509 AV509 g_b483 g_b503 hc1 hc111 ne_b483_b503 (Ne.symm ne_b483_b503)) e509 (q508_E_b483.ext E509) (g := (mkF m 23 #[rv pr] [(.ref ba509), (.ref b483)])) (argsL := [(.ref ba509)]) (rest := []) (W := 0) (lenOf pd_28 rfl) (hb hby d9_23) hml
  obtain ⟨rfl, N514q, K514q, q514_E_b483, q514_F_b483_value, q514_F_b483_coder, q514_F_b483_count, q514_V_b503⟩ := hQ514
  have K514 := K509.trans K514q (allS (Or.inr sz_b483) (allS (Or.inr sz_b503) all0))
  have XX514 := own_extK XX509 K514q (allS g_b483 (allS g_b503 all0))
  have N514 := Fr.app N508 N514q
  have hs514 : ∀ x ∈ [b483, b503], Safe Z consts_1 T509.vm h509 x := (allS sf509_b483 (allS sf509_b503 all0))
  have CQ514 := CHr.keep K514q hs514 CR509.1
  have sf514_b483 := Safe.keep K514q hs514 CR509.1 sf509_b483
  have sf514_b503 := Safe.keep K514q hs514 CR509.1 sf509_b503
  have CR514 := CR509.trans CQ514
  have hk514 := Nat.le_trans hk509 CQ514.2.1
  have ne_pr_b503 := Nat.ne_of_lt (Nat.lt_of_lt_of_le (E_pr.ext E483).lt szn_b503)
  have f515_F_pr_reason := (((((F_pr_reason.ext E483).keep K502q (ninS ne_pr_b483 (nin0))).keep K508q (ninS ne_pr_b483 (ninS ne_pr_b503 (nin0)))).ext E509).keep K514q (ninS ne_pr_b483 (ninS ne_pr_b503 (nin0))))
  obtain ⟨T516, X516, e516, st516⟩ := getF X514 hx hZ509 hown509 (host := "") (Or.inl (own_w hw 48 rfl)) Via.refl rfl f515_F_pr_reason (g := (mkF m 27 #[rv pr] [(.ref pr), (.ref b483)])) rfl rfl (hb hby d9_27)
  have f520_E_r1 := (((((E_r1.ext E483).keep K502q).keep K508q).ext E509).keep K514q)
  have ne_r1_b483 := Nat.ne_of_lt (Nat.lt_of_lt_of_le E_r1.lt (Nat.le_of_eq g483.symm))
  have ne_r1_b503 := Nat.ne_of_lt (Nat.lt_of_lt_of_le (E_r1.ext E483).lt szn_b503)
  have f522_F_r1_coder := (((((F_r1_coder.ext E483).keep K502q (ninS ne_r1_b483 (nin0))).keep K508q (ninS ne_r1_b483 (ninS ne_r1_b503 (nin0)))).ext E509).keep K514q (ninS ne_r1_b483 (ninS ne_r1_b503 (nin0))))
  have f523_F_r1_value := (((((F_r1_value.ext E483).keep K502q (ninS ne_r1_b483 (nin0))).keep K508q (ninS ne_r1_b483 (ninS ne_r1_b503 (nin0)))).ext E509).keep K514q (ninS ne_r1_b483 (ninS ne_r1_b503 (nin0))))
  have ne_e2_b483 := Nat.ne_of_lt (Nat.lt_of_lt_of_le V_e2.lt (Nat.le_of_eq g483.symm))
  have ne_e2_b503 := Nat.ne_of_lt (Nat.lt_of_lt_of_le (V_e2.ext E483).lt szn_b503)
  have f524_V_e2 := (((((V_e2.ext E483).keep K502q (ninS ne_e2_b483 (nin0))).keep K508q (ninS ne_e2_b483 (ninS ne_e2_b503 (nin0)))).ext E509).keep K514q (ninS ne_e2_b483 (ninS ne_e2_b503 (nin0))))
  obtain ⟨_, T521, Lc521, X521, hQ521, st521⟩ := own_virtual (y := y_17) X516 hx hZ509 hown509 (own_w hw 73 rfl) (own_w hw 74 rfl) (own_w hw 76 rfl) (own_w hw 75 rfl) (own_w hw 57 rfl) (own_w hw 77 rfl) (own_apS_n16 l Z a0 hw [] w_CS b483 b503 k504 ((([] : List Int32) ++ fs) ++ [(58 : Int32), (32 : Int32)]) r1 e2 k2 rs T514.heap XX514 S_w_CS q514_E_b483 q514_F_b483_value q514_F_b483_coder q514_F_b483_count q514_V_b503 f520_E_r1 f522_F_r1_coder f523_F_r1_value f524_V_e2 g_b483 g_b503 hc1 hc112 ne_b483_b503 (Ne.symm ne_b483_b503)) e516 q514_E_b483 (g := (mkF m 30 #[rv pr] [(.ref r1), (.ref b483)])) (argsL := [(.ref r1)]) (rest := []) (W := 0) (lenOf pd_28 rfl) (hb hby d9_30) hml
  obtain ⟨rfl, N521q, K521q, q521_E_b483, q521_F_b483_value, q521_F_b483_coder, q521_F_b483_count, q521_V_b503⟩ := hQ521
  have K521 := K514.trans K521q (allS (Or.inr sz_b483) (allS (Or.inr sz_b503) all0))
  have XX521 := own_extK XX514 K521q (allS g_b483 (allS g_b503 all0))
  have N521 := Fr.app N514 N521q
  have hs521 : ∀ x ∈ [b483, b503], Safe Z consts_1 T509.vm T514.heap x := (allS sf514_b483 (allS sf514_b503 all0))
  have CQ521 := CHr.keep K521q hs521 CR514.1
  have CR521 := CR514.trans CQ521
  have hk521 := Nat.le_trans hk514 CQ521.2.1
  have f531_E_b503 := ((((q502_E_b503.keep K508q).ext E509).keep K514q).keep K521q)
  obtain ⟨_, T527, Lc527, X527, hQ527, st527⟩ := own_virtual (y := y_26) X521 hx hZ509 hown509 (own_w hw 144 rfl) (own_w hw 145 rfl) (own_w hw 147 rfl) (own_w hw 146 rfl) (own_w hw 57 rfl) (own_w hw 148 rfl) (own_ts16 l Z a0 hw [] w_CS b483 b503 k504 (((([] : List Int32) ++ fs) ++ [(58 : Int32), (32 : Int32)]) ++ rs) T521.heap XX521 S_w_CS q521_E_b483 q521_F_b483_value q521_F_b483_coder q521_F_b483_count q521_V_b503 f531_E_b503 hc1 hc113) rfl q521_E_b483 (g := (mkF m 33 #[rv pr] [(.ref b483)])) (argsL := []) (rest := []) (W := 0) (lenOf pd_29 rfl) (hb hby d9_33) hml
  obtain ⟨b528, b529, k530, rfl, N527q, K527q, szn_b528, szn_b529, q527_E_b528, q527_F_b528_coder, q527_F_b528_value, q527_V_b529⟩ := hQ527
  have sz_b528 := Nat.le_trans K521.1 szn_b528
  have sz_b529 := Nat.le_trans K521.1 szn_b529
  have K527 := K521.trans K527q all0
  have N527 := Fr.app N521 N527q
  have hs527 : ∀ x ∈ ([] : List Addr), Safe Z consts_1 T509.vm T521.heap x := all0
  have CQ527 := CHr.keep K527q hs527 CR521.1
  have CR527 := CR521.trans CQ527
  have hk527 := Nat.le_trans hk521 CQ527.2.1
  obtain ⟨_, hr, hrun, hended, hend⟩ := leaveW (s := s) (vm₁ := T509.vm) X527 hS509 hk527 (v := some (.ref b528)) (fun h => by rw [hret] at h; cases h) hlk
  refine ⟨_, _, ?_, hrun, hended, _, _, rfl, ?_, ?_, hend.1, hend.2.1, hend.2.2.1, hend.2.2.2.mono (by decide) (by decide)⟩
  · show own_S p e below s₁ (mkF m 0 #[rv pr] []) _
    refine own_aN X0 hx hby d9_0 ?_
    refine st482 _ ?_
    refine own_in X482 hx hby d9_4 (teq hc109).2 ?_
    refine st483 _ ?_
    refine XS.dup X483.here hx rfl (hb hby d9_10) rfl rfl ?_
    refine st502 _ ?_
    refine own_aN X502 hx hby d9_14 ?_
    refine st505 _ ?_
    refine st508 _ ?_
    refine st509 _ ?_
    refine st514 _ ?_
    refine own_aN X514 hx hby d9_26 ?_
    refine st516 _ ?_
    refine st521 _ ?_
    refine st527 _ ?_
    refine own_go (pc := 36) X527 hx hby d9_36 80 ?_
    jvm_step X527.here [X527.here.top, hx, (hb hby d9_80), X527.method', hret, Value.isRef, FieldType.isReference]
    first | (intro acts; rw [hr _ acts rfl rfl rfl]) | rw [hr _ _ rfl rfl rfl]
    exact Steps.refl _
  · show Qrm481 Z fs rs h0 _ T527.heap _
    exact ⟨b528, b529, k530, rfl, N527, K527, sz_b528, sz_b529, q527_E_b528, q527_F_b528_coder, q527_F_b528_value, q527_V_b529⟩
  · rw [hs0]
    show CHr Z consts_1 s.vm h0 T527.vm T527.heap
    skip
    exact CR527.trans (CHv.at (s := s) (vm0 := T509.vm) X527 hZ509 (own_hEL hw) CR527.1)
def Qrm532 (Z : State) (qa : Int32) (kk : Nat) (fs rs : List Int32) (h0 : Heap) (v : Option Value) (h : Heap) (L : List Loc) : Prop := ∃ b577 : Addr, ∃ b578 : Addr, ∃ k579 : ClassId, v = some (.ref b577) ∧ Fr Z.heap.size L ∧ Keep h0 h [] ∧ h0.size ≤ b577 ∧ h0.size ≤ b578 ∧ Exa Z h b577 own_cS ∧ Fld Z h b577 own_cS "coder" "B" (.int (0 : Int32)) ∧ Fld Z h b577 own_cS "value" "[B" (.ref b578) ∧ Arv Z h b578 k579 .byte (Int32.ofNat (((((([] : List Int32) ++ fs) ++ [(58 : Int32)]) ++ own_ds qa kk) ++ [(58 : Int32), (32 : Int32)]) ++ rs).length) (own_ch (((((([] : List Int32) ++ fs) ++ [(58 : Int32)]) ++ own_ds qa kk) ++ [(58 : Int32), (32 : Int32)]) ++ rs)) (.int (0 : Int32))
theorem rm532 (l : Launch) (Z : State) (a0 : Array Value) (hw : own_HW Z a0) (ws : List Jvm.Cond) (w_CS qa : Int32) (kk : Nat) (w_DO : Addr) (k_w_DO : ClassId) (w_DT : Addr) (k_w_DT : ClassId) (fs rs : List Int32) (pr f1 e1 : Addr) (k1 : ClassId) (r1 e2 : Addr) (k2 : ClassId) (h0 : Heap) (Z0 : Ext Z.heap h0) (S_w_CS : own_w_CS Z w_CS) (S_w_DO : own_Sw_DO Z w_DO) (A_w_DO : Arv Z Z.heap w_DO k_w_DO .byte (100 : Int32) own_ones (.int (0 : Int32))) (S_w_DT : own_Sw_DT Z w_DT) (A_w_DT : Arv Z Z.heap w_DT k_w_DT .byte (100 : Int32) own_tens (.int (0 : Int32))) (E_pr : Exa Z h0 pr own_cP) (F_pr_file : Fld Z h0 pr own_cP "file" "Ljava/lang/String;" (.ref f1)) (F_pr_line : Fld Z h0 pr own_cP "line" "I" (.int qa)) (F_pr_reason : Fld Z h0 pr own_cP "reason" "Ljava/lang/String;" (.ref r1)) (E_f1 : Exa Z h0 f1 own_cS) (F_f1_coder : Fld Z h0 f1 own_cS "coder" "B" (.int (0 : Int32))) (F_f1_value : Fld Z h0 f1 own_cS "value" "[B" (.ref e1)) (V_e1 : Arv Z h0 e1 k1 .byte (Int32.ofNat fs.length) (own_ch fs) (.int (0 : Int32))) (E_r1 : Exa Z h0 r1 own_cS) (F_r1_coder : Fld Z h0 r1 own_cS "coder" "B" (.int (0 : Int32))) (F_r1_value : Fld Z h0 r1 own_cS "value" "[B" (.ref e2)) (V_e2 : Arv Z h0 e2 k2 .byte (Int32.ofNat rs.length) (own_ch rs) (.int (0 : Int32))) (hc114 : ¬ (qa = (0 : Int32))) (hc1 : ¬ (w_CS = (0 : Int32))) (hc110 : ([] : List Int32).length + fs.length ≤ 16) (hc115 : (([] : List Int32) ++ fs).length + [(58 : Int32)].length ≤ 16) (hc9 : own_nd qa kk) (hc116 : ((([] : List Int32) ++ fs) ++ [(58 : Int32)]).length + kk ≤ 16) (hc117 : (((([] : List Int32) ++ fs) ++ [(58 : Int32)]) ++ own_ds qa kk).length + [(58 : Int32), (32 : Int32)].length ≤ 16) (hc118 : ((((([] : List Int32) ++ fs) ++ [(58 : Int32)]) ++ own_ds qa kk) ++ [(58 : Int32), (32 : Int32)]).length + rs.length ≤ 16) (hc119 : (((((([] : List Int32) ++ fs) ++ [(58 : Int32)]) ++ own_ds qa kk) ++ [(58 : Int32), (32 : Int32)]) ++ rs).length ≤ 16) :
    own_metW l y_43 prog_8_method_2_code 1 (some (.object own_cS)) ws ({ frames := 7, cells := 9, slots := 140, locals := 130 } : Room) Z #[(.ref pr)] h0 (Qrm532 Z qa kk fs rs h0) := by
  refine own_startW (plainFor_of_name pn_10) (fun m => ef_prog_8_method_2_R m pr) ?_
  intro p e s m below meth c s₁ hx hby hml hown hnm X0 hZ e0 hret hlk hs0 hC0
  have N0 := Fr.nil Z.heap.size
  have CR0 : CHr Z consts_1 s.vm h0 s.vm h0 := CHr.refl hC0
  have hS0 : s.Since s.vm 0 := (State.WarmedH.refl s).since 0
  have hk0 : 0 ≤ h0.size := Nat.zero_le _
  obtain ⟨T533, X533, e533, st533⟩ := getF X0 hx hZ hown (host := "") (Or.inl (own_w hw 46 rfl)) Via.refl e0 F_pr_line (g := (mkF m 1 #[rv pr] [(.ref pr)])) rfl rfl (hb hby d9_1)
  obtain ⟨T534, h534, X534, e534, E534, A534, D534, -, st534⟩ := newO X533 hx hZ hown (own_w hw 55 rfl) (own_w hw 56 rfl) (own_w hw 57 rfl) e533 (g := (mkF m 39 #[rv pr] [])) rfl (hb hby d9_39) (by decide) (by decide)
  obtain ⟨b534, g534⟩ : ∃ z, z = h0.size := ⟨_, rfl⟩
  rw [← g534] at A534 D534 st534
  have g_b534 := Nat.le_trans Z0.1 (Nat.le_of_eq g534.symm)
  have sz_b534 := Nat.le_trans (Keep.refl h0 []).1 (Nat.le_of_eq g534.symm)
  have F_b534_value : Fld Z h534 b534 own_cA "value" "[B" .null := D534 (Or.inl (own_w hw 70 rfl)) (ty := (.array .byte)) (by decide)
  have F_b534_coder : Fld Z h534 b534 own_cA "coder" "B" (.int (0 : Int32)) := D534 (Or.inl (own_w hw 72 rfl)) (ty := .byte) (by decide)
  have F_b534_count : Fld Z h534 b534 own_cA "count" "I" (.int (0 : Int32)) := D534 (Or.inl (own_w hw 94 rfl)) (ty := .int) (by decide)
  have K534 := (Keep.refl h0 []).ext E534
  have XX534 := own_ext2 Z0 E534
  have CQ534 := CHr.ext E534 CR0.1
  have CR534 := CR0.trans CQ534
  have hk534 := Nat.le_trans hk0 CQ534.2.1
  have sf538_b534 : Safe Z consts_1 s.vm h534 b534 := Safe.exa hZ.alike A534 (by decide) (by decide)
  obtain ⟨_, T539, Lc539, X539, hQ539, st539⟩ := own_special (y := y_42) X534 hx hZ hown rfl (own_w hw 58 rfl) (own_w hw 59 rfl) (own_w hw 57 rfl) (own_w hw 60 rfl) (rm488 l Z a0 hw [] w_CS b534 h534 XX534 S_w_CS A534 F_b534_coder F_b534_count F_b534_value g_b534 hc1) e534 b534 (g := (mkF m 43 #[rv pr] [(.ref b534), (.ref b534)])) (argsL := []) (rest := [(.ref b534)]) (W := 1) (lenOf pd_27 rfl) (hb hby d9_43) hml
  obtain ⟨b540, k541, rfl, N539q, K539q, szn_b540, q539_E_b534, q539_F_b534_coder, q539_F_b534_count, q539_F_b534_value, q539_V_b540, q539_E_b540⟩ := hQ539
  have g_b540 := Nat.le_trans XX534.1 szn_b540
  have sz_b540 := Nat.le_trans K534.1 szn_b540
  have K539 := K534.trans K539q (allS (Or.inr sz_b534) all0)
  have XX539 := own_extK XX534 K539q (allS g_b534 all0)
  have N539 := Fr.app N0 N539q
  have hs539 : ∀ x ∈ [b534], Safe Z consts_1 s.vm h534 x := (allS sf538_b534 all0)
  have CQ539 := CHr.keep K539q hs539 CR534.1
  have sf539_b534 := Safe.keep K539q hs539 CR534.1 sf538_b534
  have sf539_b540 := Safe.keep K539q hs539 CR534.1 (Safe.new szn_b540)
  have CR539 := CR534.trans CQ539
  have hk539 := Nat.le_trans hk534 CQ539.2.1
  have ne_pr_b534 := Nat.ne_of_lt (Nat.lt_of_lt_of_le E_pr.lt (Nat.le_of_eq g534.symm))
  obtain ⟨T542, X542, e542, st542⟩ := getF X539 hx hZ hown (host := "") (Or.inl (own_w hw 44 rfl)) Via.refl rfl ((F_pr_file.ext E534).keep K539q (ninS ne_pr_b534 (nin0))) (g := (mkF m 47 #[rv pr] [(.ref pr), (.ref b534)])) rfl rfl (hb hby d9_47)
  have ne_f1_b534 := Nat.ne_of_lt (Nat.lt_of_lt_of_le E_f1.lt (Nat.le_of_eq g534.symm))
  have ne_e1_b534 := Nat.ne_of_lt (Nat.lt_of_lt_of_le V_e1.lt (Nat.le_of_eq g534.symm))
  have ne_b534_b540 := Nat.ne_of_lt (Nat.lt_of_lt_of_le A534.lt szn_b540)
  obtain ⟨_, T545, Lc545, X545, hQ545, st545⟩ := own_virtual (y := y_17) X542 hx hZ hown (own_w hw 73 rfl) (own_w hw 74 rfl) (own_w hw 76 rfl) (own_w hw 75 rfl) (own_w hw 57 rfl) (own_w hw 77 rfl) (own_apS_n16 l Z a0 hw [] w_CS b534 b540 k541 ([] : List Int32) f1 e1 k1 fs T539.heap XX539 S_w_CS q539_E_b534 q539_F_b534_value q539_F_b534_coder q539_F_b534_count q539_V_b540 ((E_f1.ext E534).keep K539q) ((F_f1_coder.ext E534).keep K539q (ninS ne_f1_b534 (nin0))) ((F_f1_value.ext E534).keep K539q (ninS ne_f1_b534 (nin0))) ((V_e1.ext E534).keep K539q (ninS ne_e1_b534 (nin0))) g_b534 g_b540 hc1 hc110 ne_b534_b540 (Ne.symm ne_b534_b540)) e542 q539_E_b534 (g := (mkF m 50 #[rv pr] [(.ref f1), (.ref b534)])) (argsL := [(.ref f1)]) (rest := []) (W := 0) (lenOf pd_28 rfl) (hb hby d9_50) hml
  obtain ⟨rfl, N545q, K545q, q545_E_b534, q545_F_b534_value, q545_F_b534_coder, q545_F_b534_count, q545_V_b540⟩ := hQ545
  have K545 := K539.trans K545q (allS (Or.inr sz_b534) (allS (Or.inr sz_b540) all0))
  have XX545 := own_extK XX539 K545q (allS g_b534 (allS g_b540 all0))
  have N545 := Fr.app N539 N545q
  have hs545 : ∀ x ∈ [b534, b540], Safe Z consts_1 s.vm T539.heap x := (allS sf539_b534 (allS sf539_b540 all0))
  have CQ545 := CHr.keep K545q hs545 CR539.1
  have sf545_b534 := Safe.keep K545q hs545 CR539.1 sf539_b534
  have sf545_b540 := Safe.keep K545q hs545 CR539.1 sf539_b540
  have CR545 := CR539.trans CQ545
  have hk545 := Nat.le_trans hk539 CQ545.2.1
  obtain ⟨ba546, T546, h546, k1_546, bb546, kb546, X546, e546, E546, hS546, hk546, hZ546, hown546, EA546, FC546, FV546, AV546, -, -, hC546, -, hn546, st546⟩ := ldcCH (s := s) (vm0 := s.vm) X545 hx hZ hown (own_w hw 120 rfl) (own_wS hw) rfl hS0 hk545 (own_hEL hw) (List.mem_of_getElem? (i := 1) rfl) CR545.1 (vs := [(.int (58 : Int32))]) (z := (1 : Int32)) ⟨by decide, rfl⟩ (by decide) (by decide) (g := (mkF m 53 #[rv pr] [(.ref b534)])) rfl (hb hby d9_53) (n := 4) (by decide) (by decide) (by decide) (by decide)
  have sf546_b534 := hC546.safe q545_E_b534.lt sf545_b534
  have sf546_b540 := hC546.safe q545_V_b540.lt sf545_b540
  have CR546 := CR545.trans hC546
  have K546 := K545.ext E546
  have XX546 := own_ext2 XX545 E546
  obtain ⟨_, T551, Lc551, X551, hQ551, st551⟩ := own_virtual (y := y_17) X546 hx hZ546 hown546 (own_w hw 73 rfl) (own_w hw 74 rfl) (own_w hw 76 rfl) (own_w hw 75 rfl) (own_w hw 57 rfl) (own_w hw 77 rfl) (own_apS_n16 l Z a0 hw [] w_CS b534 b540 k541 (([] : List Int32) ++ fs) ba546 bb546 kb546 [(58 : Int32)] h546 XX546 S_w_CS (q545_E_b534.ext E546) (q545_F_b534_value.ext E546) (q545_F_b534_coder.ext E546) (q545_F_b534_count.ext E546) (q545_V_b540.ext E546) EA546 FC546 FV546 AV546 g_b534 g_b540 hc1 hc115 ne_b534_b540 (Ne.symm ne_b534_b540)) e546 (q545_E_b534.ext E546) (g := (mkF m 55 #[rv pr] [(.ref ba546), (.ref b534)])) (argsL := [(.ref ba546)]) (rest := []) (W := 0) (lenOf pd_28 rfl) (hb hby d9_55) hml
  obtain ⟨rfl, N551q, K551q, q551_E_b534, q551_F_b534_value, q551_F_b534_coder, q551_F_b534_count, q551_V_b540⟩ := hQ551
  have K551 := K546.trans K551q (allS (Or.inr sz_b534) (allS (Or.inr sz_b540) all0))
  have XX551 := own_extK XX546 K551q (allS g_b534 (allS g_b540 all0))
  have N551 := Fr.app N545 N551q
  have hs551 : ∀ x ∈ [b534, b540], Safe Z consts_1 T546.vm h546 x := (allS sf546_b534 (allS sf546_b540 all0))
  have CQ551 := CHr.keep K551q hs551 CR546.1
  have sf551_b534 := Safe.keep K551q hs551 CR546.1 sf546_b534
  have sf551_b540 := Safe.keep K551q hs551 CR546.1 sf546_b540
  have CR551 := CR546.trans CQ551
  have hk551 := Nat.le_trans hk546 CQ551.2.1
  have ne_pr_b540 := Nat.ne_of_lt (Nat.lt_of_lt_of_le (E_pr.ext E534).lt szn_b540)
  have f552_F_pr_line := (((((F_pr_line.ext E534).keep K539q (ninS ne_pr_b534 (nin0))).keep K545q (ninS ne_pr_b534 (ninS ne_pr_b540 (nin0)))).ext E546).keep K551q (ninS ne_pr_b534 (ninS ne_pr_b540 (nin0))))
  obtain ⟨T553, X553, e553, st553⟩ := getF X551 hx hZ546 hown546 (host := "") (Or.inl (own_w hw 46 rfl)) Via.refl rfl f552_F_pr_line (g := (mkF m 59 #[rv pr] [(.ref pr), (.ref b534)])) rfl rfl (hb hby d9_59)
  have f557_E_r1 := (((((E_r1.ext E534).keep K539q).keep K545q).ext E546).keep K551q)
  obtain ⟨_, T558, Lc558, X558, hQ558, st558⟩ := own_virtual (y := y_10) X553 hx hZ546 hown546 (own_w hw 121 rfl) (own_w hw 122 rfl) (own_w hw 124 rfl) (own_w hw 123 rfl) (own_w hw 57 rfl) (own_w hw 125 rfl) (own_apI_n16 l Z a0 hw [] w_CS qa kk w_DO k_w_DO w_DT k_w_DT b534 b540 k541 ((([] : List Int32) ++ fs) ++ [(58 : Int32)]) T551.heap XX551 S_w_CS S_w_DO A_w_DO S_w_DT A_w_DT q551_E_b534 q551_F_b534_value q551_F_b534_coder q551_F_b534_count q551_V_b540 g_b534 g_b540 hc9 hc116 hc1 ne_b534_b540 (Ne.symm ne_b534_b540)) e553 q551_E_b534 (g := (mkF m 62 #[rv pr] [(.int qa), (.ref b534)])) (argsL := [(.int qa)]) (rest := []) (W := 0) (lenOf pd_30 rfl) (hb hby d9_62) hml
  obtain ⟨rfl, N558q, K558q, q558_E_b534, q558_F_b534_value, q558_F_b534_coder, q558_F_b534_count, q558_V_b540⟩ := hQ558
  have K558 := K551.trans K558q (allS (Or.inr sz_b534) (allS (Or.inr sz_b540) all0))
  have XX558 := own_extK XX551 K558q (allS g_b534 (allS g_b540 all0))
  have N558 := Fr.app N551 N558q
  have hs558 : ∀ x ∈ [b534, b540], Safe Z consts_1 T546.vm T551.heap x := (allS sf551_b534 (allS sf551_b540 all0))
  have CQ558 := CHr.keep K558q hs558 CR551.1
  have sf558_b534 := Safe.keep K558q hs558 CR551.1 sf551_b534
  have sf558_b540 := Safe.keep K558q hs558 CR551.1 sf551_b540
  have CR558 := CR551.trans CQ558
  have hk558 := Nat.le_trans hk551 CQ558.2.1
  obtain ⟨ba559, T559, h559, k1_559, bb559, kb559, X559, e559, E559, hS559, hk559, hZ559, hown559, EA559, FC559, FV559, AV559, -, -, hC559, -, hn559, st559⟩ := ldcCH (s := s) (vm0 := T546.vm) X558 hx hZ546 hown546 (own_w hw 143 rfl) (own_wS hw) rfl hS546 hk558 (own_hEL hw) (List.mem_of_getElem? (i := 0) rfl) CR558.1 (vs := [(.int (58 : Int32)), (.int (32 : Int32))]) (z := (2 : Int32)) ⟨by decide, rfl⟩ (by decide) (by decide) (g := (mkF m 65 #[rv pr] [(.ref b534)])) rfl (hb hby d9_65) (n := 8) (by decide) (by decide) (by decide) (by decide)
  have sf559_b534 := hC559.safe q558_E_b534.lt sf558_b534
  have sf559_b540 := hC559.safe q558_V_b540.lt sf558_b540
  have CR559 := CR558.trans hC559
  have K559 := K558.ext E559
  have XX559 := own_ext2 XX558 E559
  obtain ⟨_, T565, Lc565, X565, hQ565, st565⟩ := own_virtual (y := y_17) X559 hx hZ559 hown559 (own_w hw 73 rfl) (own_w hw 74 rfl) (own_w hw 76 rfl) (own_w hw 75 rfl) (own_w hw 57 rfl) (own_w hw 77 rfl) (own_apS_n16 l Z a0 hw [] w_CS b534 b540 k541 (((([] : List Int32) ++ fs) ++ [(58 : Int32)]) ++ own_ds qa kk) ba559 bb559 kb559 [(58 : Int32), (32 : Int32)] h559 XX559 S_w_CS (q558_E_b534.ext E559) (q558_F_b534_value.ext E559) (q558_F_b534_coder.ext E559) (q558_F_b534_count.ext E559) (q558_V_b540.ext E559) EA559 FC559 FV559 AV559 g_b534 g_b540 hc1 hc117 ne_b534_b540 (Ne.symm ne_b534_b540)) e559 (q558_E_b534.ext E559) (g := (mkF m 67 #[rv pr] [(.ref ba559), (.ref b534)])) (argsL := [(.ref ba559)]) (rest := []) (W := 0) (lenOf pd_28 rfl) (hb hby d9_67) hml
  obtain ⟨rfl, N565q, K565q, q565_E_b534, q565_F_b534_value, q565_F_b534_coder, q565_F_b534_count, q565_V_b540⟩ := hQ565
  have K565 := K559.trans K565q (allS (Or.inr sz_b534) (allS (Or.inr sz_b540) all0))
  have XX565 := own_extK XX559 K565q (allS g_b534 (allS g_b540 all0))
  have N565 := Fr.app N558 N565q
  have hs565 : ∀ x ∈ [b534, b540], Safe Z consts_1 T559.vm h559 x := (allS sf559_b534 (allS sf559_b540 all0))
  have CQ565 := CHr.keep K565q hs565 CR559.1
  have sf565_b534 := Safe.keep K565q hs565 CR559.1 sf559_b534
  have sf565_b540 := Safe.keep K565q hs565 CR559.1 sf559_b540
  have CR565 := CR559.trans CQ565
  have hk565 := Nat.le_trans hk559 CQ565.2.1
  have f566_F_pr_reason := ((((((((F_pr_reason.ext E534).keep K539q (ninS ne_pr_b534 (nin0))).keep K545q (ninS ne_pr_b534 (ninS ne_pr_b540 (nin0)))).ext E546).keep K551q (ninS ne_pr_b534 (ninS ne_pr_b540 (nin0)))).keep K558q (ninS ne_pr_b534 (ninS ne_pr_b540 (nin0)))).ext E559).keep K565q (ninS ne_pr_b534 (ninS ne_pr_b540 (nin0))))
  obtain ⟨T567, X567, e567, st567⟩ := getF X565 hx hZ559 hown559 (host := "") (Or.inl (own_w hw 48 rfl)) Via.refl rfl f566_F_pr_reason (g := (mkF m 71 #[rv pr] [(.ref pr), (.ref b534)])) rfl rfl (hb hby d9_71)
  have ne_r1_b534 := Nat.ne_of_lt (Nat.lt_of_lt_of_le E_r1.lt (Nat.le_of_eq g534.symm))
  have ne_r1_b540 := Nat.ne_of_lt (Nat.lt_of_lt_of_le (E_r1.ext E534).lt szn_b540)
  have f571_F_r1_coder := ((((((((F_r1_coder.ext E534).keep K539q (ninS ne_r1_b534 (nin0))).keep K545q (ninS ne_r1_b534 (ninS ne_r1_b540 (nin0)))).ext E546).keep K551q (ninS ne_r1_b534 (ninS ne_r1_b540 (nin0)))).keep K558q (ninS ne_r1_b534 (ninS ne_r1_b540 (nin0)))).ext E559).keep K565q (ninS ne_r1_b534 (ninS ne_r1_b540 (nin0))))
  have f572_F_r1_value := ((((((((F_r1_value.ext E534).keep K539q (ninS ne_r1_b534 (nin0))).keep K545q (ninS ne_r1_b534 (ninS ne_r1_b540 (nin0)))).ext E546).keep K551q (ninS ne_r1_b534 (ninS ne_r1_b540 (nin0)))).keep K558q (ninS ne_r1_b534 (ninS ne_r1_b540 (nin0)))).ext E559).keep K565q (ninS ne_r1_b534 (ninS ne_r1_b540 (nin0))))
  have ne_e2_b534 := Nat.ne_of_lt (Nat.lt_of_lt_of_le V_e2.lt (Nat.le_of_eq g534.symm))
  have ne_e2_b540 := Nat.ne_of_lt (Nat.lt_of_lt_of_le (V_e2.ext E534).lt szn_b540)
  have f573_V_e2 := ((((((((V_e2.ext E534).keep K539q (ninS ne_e2_b534 (nin0))).keep K545q (ninS ne_e2_b534 (ninS ne_e2_b540 (nin0)))).ext E546).keep K551q (ninS ne_e2_b534 (ninS ne_e2_b540 (nin0)))).keep K558q (ninS ne_e2_b534 (ninS ne_e2_b540 (nin0)))).ext E559).keep K565q (ninS ne_e2_b534 (ninS ne_e2_b540 (nin0))))
  obtain ⟨_, T570, Lc570, X570, hQ570, st570⟩ := own_virtual (y := y_17) X567 hx hZ559 hown559 (own_w hw 73 rfl) (own_w hw 74 rfl) (own_w hw 76 rfl) (own_w hw 75 rfl) (own_w hw 57 rfl) (own_w hw 77 rfl) (own_apS_n16 l Z a0 hw [] w_CS b534 b540 k541 ((((([] : List Int32) ++ fs) ++ [(58 : Int32)]) ++ own_ds qa kk) ++ [(58 : Int32), (32 : Int32)]) r1 e2 k2 rs T565.heap XX565 S_w_CS q565_E_b534 q565_F_b534_value q565_F_b534_coder q565_F_b534_count q565_V_b540 (((f557_E_r1.keep K558q).ext E559).keep K565q) f571_F_r1_coder f572_F_r1_value f573_V_e2 g_b534 g_b540 hc1 hc118 ne_b534_b540 (Ne.symm ne_b534_b540)) e567 q565_E_b534 (g := (mkF m 74 #[rv pr] [(.ref r1), (.ref b534)])) (argsL := [(.ref r1)]) (rest := []) (W := 0) (lenOf pd_28 rfl) (hb hby d9_74) hml
  obtain ⟨rfl, N570q, K570q, q570_E_b534, q570_F_b534_value, q570_F_b534_coder, q570_F_b534_count, q570_V_b540⟩ := hQ570
  have K570 := K565.trans K570q (allS (Or.inr sz_b534) (allS (Or.inr sz_b540) all0))
  have XX570 := own_extK XX565 K570q (allS g_b534 (allS g_b540 all0))
  have N570 := Fr.app N565 N570q
  have hs570 : ∀ x ∈ [b534, b540], Safe Z consts_1 T559.vm T565.heap x := (allS sf565_b534 (allS sf565_b540 all0))
  have CQ570 := CHr.keep K570q hs570 CR565.1
  have CR570 := CR565.trans CQ570
  have hk570 := Nat.le_trans hk565 CQ570.2.1
  have f580_E_b540 := (((((((q539_E_b540.keep K545q).ext E546).keep K551q).keep K558q).ext E559).keep K565q).keep K570q)
  obtain ⟨_, T576, Lc576, X576, hQ576, st576⟩ := own_virtual (y := y_26) X570 hx hZ559 hown559 (own_w hw 144 rfl) (own_w hw 145 rfl) (own_w hw 147 rfl) (own_w hw 146 rfl) (own_w hw 57 rfl) (own_w hw 148 rfl) (own_ts16 l Z a0 hw [] w_CS b534 b540 k541 (((((([] : List Int32) ++ fs) ++ [(58 : Int32)]) ++ own_ds qa kk) ++ [(58 : Int32), (32 : Int32)]) ++ rs) T570.heap XX570 S_w_CS q570_E_b534 q570_F_b534_value q570_F_b534_coder q570_F_b534_count q570_V_b540 f580_E_b540 hc1 hc119) rfl q570_E_b534 (g := (mkF m 77 #[rv pr] [(.ref b534)])) (argsL := []) (rest := []) (W := 0) (lenOf pd_29 rfl) (hb hby d9_77) hml
  obtain ⟨b577, b578, k579, rfl, N576q, K576q, szn_b577, szn_b578, q576_E_b577, q576_F_b577_coder, q576_F_b577_value, q576_V_b578⟩ := hQ576
  have sz_b577 := Nat.le_trans K570.1 szn_b577
  have sz_b578 := Nat.le_trans K570.1 szn_b578
  have K576 := K570.trans K576q all0
  have N576 := Fr.app N570 N576q
  have hs576 : ∀ x ∈ ([] : List Addr), Safe Z consts_1 T559.vm T570.heap x := all0
  have CQ576 := CHr.keep K576q hs576 CR570.1
  have CR576 := CR570.trans CQ576
  have hk576 := Nat.le_trans hk570 CQ576.2.1
  obtain ⟨_, hr, hrun, hended, hend⟩ := leaveW (s := s) (vm₁ := T559.vm) X576 hS559 hk576 (v := some (.ref b577)) (fun h => by rw [hret] at h; cases h) hlk
  refine ⟨_, _, ?_, hrun, hended, _, _, rfl, ?_, ?_, hend.1, hend.2.1, hend.2.2.1, hend.2.2.2.mono (by decide) (by decide)⟩
  · show own_S p e below s₁ (mkF m 0 #[rv pr] []) _
    refine own_aN X0 hx hby d9_0 ?_
    refine st533 _ ?_
    refine own_iy (pc := 4) X533 hx hby d9_4 (feq hc114).2 39 ?_
    refine st534 _ ?_
    refine XS.dup X534.here hx rfl (hb hby d9_42) rfl rfl ?_
    refine st539 _ ?_
    refine own_aN X539 hx hby d9_46 ?_
    refine st542 _ ?_
    refine st545 _ ?_
    refine st546 _ ?_
    refine st551 _ ?_
    refine own_aN X551 hx hby d9_58 ?_
    refine st553 _ ?_
    refine st558 _ ?_
    refine st559 _ ?_
    refine st565 _ ?_
    refine own_aN X565 hx hby d9_70 ?_
    refine st567 _ ?_
    refine st570 _ ?_
    refine st576 _ ?_
    jvm_step X576.here [X576.here.top, hx, (hb hby d9_80), X576.method', hret, Value.isRef, FieldType.isReference]
    first | (intro acts; rw [hr _ acts rfl rfl rfl]) | rw [hr _ _ rfl rfl rfl]
    exact Steps.refl _
  · show Qrm532 Z qa kk fs rs h0 _ T576.heap _
    exact ⟨b577, b578, k579, rfl, N576, K576, sz_b577, sz_b578, q576_E_b577, q576_F_b577_coder, q576_F_b577_value, q576_V_b578⟩
  · rw [hs0]
    show CHr Z consts_1 s.vm h0 T576.vm T576.heap
    skip
    exact CR576.trans (CHv.at (s := s) (vm0 := T559.vm) X576 hZ559 (own_hEL hw) CR576.1)
def Qrm581 (Z : State) (qa : Int32) (kk : Nat) (fs rs : List Int32) (h0 : Heap) (v : Option Value) (h : Heap) (L : List Loc) : Prop := ∃ b628 : Addr, ∃ b629 : Addr, ∃ k630 : ClassId, v = some (.ref b628) ∧ Fr Z.heap.size L ∧ Keep h0 h [] ∧ h0.size ≤ b628 ∧ h0.size ≤ b629 ∧ Exa Z h b628 own_cS ∧ Fld Z h b628 own_cS "coder" "B" (.int (0 : Int32)) ∧ Fld Z h b628 own_cS "value" "[B" (.ref b629) ∧ Arv Z h b629 k630 .byte (Int32.ofNat (((((([] : List Int32) ++ fs) ++ [(58 : Int32)]) ++ own_ds qa kk) ++ [(58 : Int32), (32 : Int32)]) ++ rs).length) (own_ch (((((([] : List Int32) ++ fs) ++ [(58 : Int32)]) ++ own_ds qa kk) ++ [(58 : Int32), (32 : Int32)]) ++ rs)) (.int (0 : Int32))
theorem rm581 (l : Launch) (Z : State) (a0 : Array Value) (hw : own_HW Z a0) (ws : List Jvm.Cond) (w_CS qa : Int32) (kk : Nat) (w_DO : Addr) (k_w_DO : ClassId) (w_DT : Addr) (k_w_DT : ClassId) (fs rs : List Int32) (pr f1 e1 : Addr) (k1 : ClassId) (r1 e2 : Addr) (k2 : ClassId) (h0 : Heap) (Z0 : Ext Z.heap h0) (S_w_CS : own_w_CS Z w_CS) (S_w_DO : own_Sw_DO Z w_DO) (A_w_DO : Arv Z Z.heap w_DO k_w_DO .byte (100 : Int32) own_ones (.int (0 : Int32))) (S_w_DT : own_Sw_DT Z w_DT) (A_w_DT : Arv Z Z.heap w_DT k_w_DT .byte (100 : Int32) own_tens (.int (0 : Int32))) (E_pr : Exa Z h0 pr own_cP) (F_pr_file : Fld Z h0 pr own_cP "file" "Ljava/lang/String;" (.ref f1)) (F_pr_line : Fld Z h0 pr own_cP "line" "I" (.int qa)) (F_pr_reason : Fld Z h0 pr own_cP "reason" "Ljava/lang/String;" (.ref r1)) (E_f1 : Exa Z h0 f1 own_cS) (F_f1_coder : Fld Z h0 f1 own_cS "coder" "B" (.int (0 : Int32))) (F_f1_value : Fld Z h0 f1 own_cS "value" "[B" (.ref e1)) (V_e1 : Arv Z h0 e1 k1 .byte (Int32.ofNat fs.length) (own_ch fs) (.int (0 : Int32))) (E_r1 : Exa Z h0 r1 own_cS) (F_r1_coder : Fld Z h0 r1 own_cS "coder" "B" (.int (0 : Int32))) (F_r1_value : Fld Z h0 r1 own_cS "value" "[B" (.ref e2)) (V_e2 : Arv Z h0 e2 k2 .byte (Int32.ofNat rs.length) (own_ch rs) (.int (0 : Int32))) (hc114 : ¬ (qa = (0 : Int32))) (hc1 : ¬ (w_CS = (0 : Int32))) (hc110 : ([] : List Int32).length + fs.length ≤ 16) (hc115 : (([] : List Int32) ++ fs).length + [(58 : Int32)].length ≤ 16) (hc9 : own_nd qa kk) (hc116 : ((([] : List Int32) ++ fs) ++ [(58 : Int32)]).length + kk ≤ 16) (hc120 : own_gw ((((([] : List Int32) ++ fs) ++ [(58 : Int32)]) ++ own_ds qa kk).length + [(58 : Int32), (32 : Int32)].length) ) (hc121 : (((([] : List Int32) ++ fs) ++ [(58 : Int32)]) ++ own_ds qa kk).length ≤ 16) (hc122 : ((((([] : List Int32) ++ fs) ++ [(58 : Int32)]) ++ own_ds qa kk) ++ [(58 : Int32), (32 : Int32)]).length + rs.length ≤ 34) (hc123 : (((((([] : List Int32) ++ fs) ++ [(58 : Int32)]) ++ own_ds qa kk) ++ [(58 : Int32), (32 : Int32)]) ++ rs).length < 34) :
    own_metW l y_43 prog_8_method_2_code 1 (some (.object own_cS)) ws ({ frames := 7, cells := 9, slots := 140, locals := 130 } : Room) Z #[(.ref pr)] h0 (Qrm581 Z qa kk fs rs h0) := by
  refine own_startW (plainFor_of_name pn_10) (fun m => ef_prog_8_method_2_R m pr) ?_
  intro p e s m below meth c s₁ hx hby hml hown hnm X0 hZ e0 hret hlk hs0 hC0
  have N0 := Fr.nil Z.heap.size
  have CR0 : CHr Z consts_1 s.vm h0 s.vm h0 := CHr.refl hC0
  have hS0 : s.Since s.vm 0 := (State.WarmedH.refl s).since 0
  have hk0 : 0 ≤ h0.size := Nat.zero_le _
  obtain ⟨T582, X582, e582, st582⟩ := getF X0 hx hZ hown (host := "") (Or.inl (own_w hw 46 rfl)) Via.refl e0 F_pr_line (g := (mkF m 1 #[rv pr] [(.ref pr)])) rfl rfl (hb hby d9_1)
  obtain ⟨T583, h583, X583, e583, E583, A583, D583, -, st583⟩ := newO X582 hx hZ hown (own_w hw 55 rfl) (own_w hw 56 rfl) (own_w hw 57 rfl) e582 (g := (mkF m 39 #[rv pr] [])) rfl (hb hby d9_39) (by decide) (by decide)
  obtain ⟨b583, g583⟩ : ∃ z, z = h0.size := ⟨_, rfl⟩
  rw [← g583] at A583 D583 st583
  have g_b583 := Nat.le_trans Z0.1 (Nat.le_of_eq g583.symm)
  have sz_b583 := Nat.le_trans (Keep.refl h0 []).1 (Nat.le_of_eq g583.symm)
  have F_b583_value : Fld Z h583 b583 own_cA "value" "[B" .null := D583 (Or.inl (own_w hw 70 rfl)) (ty := (.array .byte)) (by decide)
  have F_b583_coder : Fld Z h583 b583 own_cA "coder" "B" (.int (0 : Int32)) := D583 (Or.inl (own_w hw 72 rfl)) (ty := .byte) (by decide)
  have F_b583_count : Fld Z h583 b583 own_cA "count" "I" (.int (0 : Int32)) := D583 (Or.inl (own_w hw 94 rfl)) (ty := .int) (by decide)
  have K583 := (Keep.refl h0 []).ext E583
  have XX583 := own_ext2 Z0 E583
  have CQ583 := CHr.ext E583 CR0.1
  have CR583 := CR0.trans CQ583
  have hk583 := Nat.le_trans hk0 CQ583.2.1
  have sf587_b583 : Safe Z consts_1 s.vm h583 b583 := Safe.exa hZ.alike A583 (by decide) (by decide)
  obtain ⟨_, T588, Lc588, X588, hQ588, st588⟩ := own_special (y := y_42) X583 hx hZ hown rfl (own_w hw 58 rfl) (own_w hw 59 rfl) (own_w hw 57 rfl) (own_w hw 60 rfl) (rm488 l Z a0 hw [] w_CS b583 h583 XX583 S_w_CS A583 F_b583_coder F_b583_count F_b583_value g_b583 hc1) e583 b583 (g := (mkF m 43 #[rv pr] [(.ref b583), (.ref b583)])) (argsL := []) (rest := [(.ref b583)]) (W := 1) (lenOf pd_27 rfl) (hb hby d9_43) hml
  obtain ⟨b589, k590, rfl, N588q, K588q, szn_b589, q588_E_b583, q588_F_b583_coder, q588_F_b583_count, q588_F_b583_value, q588_V_b589, q588_E_b589⟩ := hQ588
  have g_b589 := Nat.le_trans XX583.1 szn_b589
  have sz_b589 := Nat.le_trans K583.1 szn_b589
  have K588 := K583.trans K588q (allS (Or.inr sz_b583) all0)
  have XX588 := own_extK XX583 K588q (allS g_b583 all0)
  have N588 := Fr.app N0 N588q
  have hs588 : ∀ x ∈ [b583], Safe Z consts_1 s.vm h583 x := (allS sf587_b583 all0)
  have CQ588 := CHr.keep K588q hs588 CR583.1
  have sf588_b583 := Safe.keep K588q hs588 CR583.1 sf587_b583
  have sf588_b589 := Safe.keep K588q hs588 CR583.1 (Safe.new szn_b589)
  have CR588 := CR583.trans CQ588
  have hk588 := Nat.le_trans hk583 CQ588.2.1
  have ne_pr_b583 := Nat.ne_of_lt (Nat.lt_of_lt_of_le E_pr.lt (Nat.le_of_eq g583.symm))
  obtain ⟨T591, X591, e591, st591⟩ := getF X588 hx hZ hown (host := "") (Or.inl (own_w hw 44 rfl)) Via.refl rfl ((F_pr_file.ext E583).keep K588q (ninS ne_pr_b583 (nin0))) (g := (mkF m 47 #[rv pr] [(.ref pr), (.ref b583)])) rfl rfl (hb hby d9_47)
  have ne_f1_b583 := Nat.ne_of_lt (Nat.lt_of_lt_of_le E_f1.lt (Nat.le_of_eq g583.symm))
  have ne_e1_b583 := Nat.ne_of_lt (Nat.lt_of_lt_of_le V_e1.lt (Nat.le_of_eq g583.symm))
  have ne_b583_b589 := Nat.ne_of_lt (Nat.lt_of_lt_of_le A583.lt szn_b589)
  obtain ⟨_, T594, Lc594, X594, hQ594, st594⟩ := own_virtual (y := y_17) X591 hx hZ hown (own_w hw 73 rfl) (own_w hw 74 rfl) (own_w hw 76 rfl) (own_w hw 75 rfl) (own_w hw 57 rfl) (own_w hw 77 rfl) (own_apS_n16 l Z a0 hw [] w_CS b583 b589 k590 ([] : List Int32) f1 e1 k1 fs T588.heap XX588 S_w_CS q588_E_b583 q588_F_b583_value q588_F_b583_coder q588_F_b583_count q588_V_b589 ((E_f1.ext E583).keep K588q) ((F_f1_coder.ext E583).keep K588q (ninS ne_f1_b583 (nin0))) ((F_f1_value.ext E583).keep K588q (ninS ne_f1_b583 (nin0))) ((V_e1.ext E583).keep K588q (ninS ne_e1_b583 (nin0))) g_b583 g_b589 hc1 hc110 ne_b583_b589 (Ne.symm ne_b583_b589)) e591 q588_E_b583 (g := (mkF m 50 #[rv pr] [(.ref f1), (.ref b583)])) (argsL := [(.ref f1)]) (rest := []) (W := 0) (lenOf pd_28 rfl) (hb hby d9_50) hml
  obtain ⟨rfl, N594q, K594q, q594_E_b583, q594_F_b583_value, q594_F_b583_coder, q594_F_b583_count, q594_V_b589⟩ := hQ594
  have K594 := K588.trans K594q (allS (Or.inr sz_b583) (allS (Or.inr sz_b589) all0))
  have XX594 := own_extK XX588 K594q (allS g_b583 (allS g_b589 all0))
  have N594 := Fr.app N588 N594q
  have hs594 : ∀ x ∈ [b583, b589], Safe Z consts_1 s.vm T588.heap x := (allS sf588_b583 (allS sf588_b589 all0))
  have CQ594 := CHr.keep K594q hs594 CR588.1
  have sf594_b583 := Safe.keep K594q hs594 CR588.1 sf588_b583
  have sf594_b589 := Safe.keep K594q hs594 CR588.1 sf588_b589
  have CR594 := CR588.trans CQ594
  have hk594 := Nat.le_trans hk588 CQ594.2.1
  obtain ⟨ba595, T595, h595, k1_595, bb595, kb595, X595, e595, E595, hS595, hk595, hZ595, hown595, EA595, FC595, FV595, AV595, -, -, hC595, -, hn595, st595⟩ := ldcCH (s := s) (vm0 := s.vm) X594 hx hZ hown (own_w hw 120 rfl) (own_wS hw) rfl hS0 hk594 (own_hEL hw) (List.mem_of_getElem? (i := 1) rfl) CR594.1 (vs := [(.int (58 : Int32))]) (z := (1 : Int32)) ⟨by decide, rfl⟩ (by decide) (by decide) (g := (mkF m 53 #[rv pr] [(.ref b583)])) rfl (hb hby d9_53) (n := 4) (by decide) (by decide) (by decide) (by decide)
  have sf595_b583 := hC595.safe q594_E_b583.lt sf594_b583
  have sf595_b589 := hC595.safe q594_V_b589.lt sf594_b589
  have CR595 := CR594.trans hC595
  have K595 := K594.ext E595
  have XX595 := own_ext2 XX594 E595
  obtain ⟨_, T600, Lc600, X600, hQ600, st600⟩ := own_virtual (y := y_17) X595 hx hZ595 hown595 (own_w hw 73 rfl) (own_w hw 74 rfl) (own_w hw 76 rfl) (own_w hw 75 rfl) (own_w hw 57 rfl) (own_w hw 77 rfl) (own_apS_n16 l Z a0 hw [] w_CS b583 b589 k590 (([] : List Int32) ++ fs) ba595 bb595 kb595 [(58 : Int32)] h595 XX595 S_w_CS (q594_E_b583.ext E595) (q594_F_b583_value.ext E595) (q594_F_b583_coder.ext E595) (q594_F_b583_count.ext E595) (q594_V_b589.ext E595) EA595 FC595 FV595 AV595 g_b583 g_b589 hc1 hc115 ne_b583_b589 (Ne.symm ne_b583_b589)) e595 (q594_E_b583.ext E595) (g := (mkF m 55 #[rv pr] [(.ref ba595), (.ref b583)])) (argsL := [(.ref ba595)]) (rest := []) (W := 0) (lenOf pd_28 rfl) (hb hby d9_55) hml
  obtain ⟨rfl, N600q, K600q, q600_E_b583, q600_F_b583_value, q600_F_b583_coder, q600_F_b583_count, q600_V_b589⟩ := hQ600
  have K600 := K595.trans K600q (allS (Or.inr sz_b583) (allS (Or.inr sz_b589) all0))
  have XX600 := own_extK XX595 K600q (allS g_b583 (allS g_b589 all0))
  have N600 := Fr.app N594 N600q
  have hs600 : ∀ x ∈ [b583, b589], Safe Z consts_1 T595.vm h595 x := (allS sf595_b583 (allS sf595_b589 all0))
  have CQ600 := CHr.keep K600q hs600 CR595.1
  have sf600_b583 := Safe.keep K600q hs600 CR595.1 sf595_b583
  have sf600_b589 := Safe.keep K600q hs600 CR595.1 sf595_b589
  have CR600 := CR595.trans CQ600
  have hk600 := Nat.le_trans hk595 CQ600.2.1
  have ne_pr_b589 := Nat.ne_of_lt (Nat.lt_of_lt_of_le (E_pr.ext E583).lt szn_b589)
  have f601_F_pr_line := (((((F_pr_line.ext E583).keep K588q (ninS ne_pr_b583 (nin0))).keep K594q (ninS ne_pr_b583 (ninS ne_pr_b589 (nin0)))).ext E595).keep K600q (ninS ne_pr_b583 (ninS ne_pr_b589 (nin0))))
  obtain ⟨T602, X602, e602, st602⟩ := getF X600 hx hZ595 hown595 (host := "") (Or.inl (own_w hw 46 rfl)) Via.refl rfl f601_F_pr_line (g := (mkF m 59 #[rv pr] [(.ref pr), (.ref b583)])) rfl rfl (hb hby d9_59)
  have f606_E_r1 := (((((E_r1.ext E583).keep K588q).keep K594q).ext E595).keep K600q)
  obtain ⟨_, T607, Lc607, X607, hQ607, st607⟩ := own_virtual (y := y_10) X602 hx hZ595 hown595 (own_w hw 121 rfl) (own_w hw 122 rfl) (own_w hw 124 rfl) (own_w hw 123 rfl) (own_w hw 57 rfl) (own_w hw 125 rfl) (own_apI_n16 l Z a0 hw [] w_CS qa kk w_DO k_w_DO w_DT k_w_DT b583 b589 k590 ((([] : List Int32) ++ fs) ++ [(58 : Int32)]) T600.heap XX600 S_w_CS S_w_DO A_w_DO S_w_DT A_w_DT q600_E_b583 q600_F_b583_value q600_F_b583_coder q600_F_b583_count q600_V_b589 g_b583 g_b589 hc9 hc116 hc1 ne_b583_b589 (Ne.symm ne_b583_b589)) e602 q600_E_b583 (g := (mkF m 62 #[rv pr] [(.int qa), (.ref b583)])) (argsL := [(.int qa)]) (rest := []) (W := 0) (lenOf pd_30 rfl) (hb hby d9_62) hml
  obtain ⟨rfl, N607q, K607q, q607_E_b583, q607_F_b583_value, q607_F_b583_coder, q607_F_b583_count, q607_V_b589⟩ := hQ607
  have K607 := K600.trans K607q (allS (Or.inr sz_b583) (allS (Or.inr sz_b589) all0))
  have XX607 := own_extK XX600 K607q (allS g_b583 (allS g_b589 all0))
  have N607 := Fr.app N600 N607q
  have hs607 : ∀ x ∈ [b583, b589], Safe Z consts_1 T595.vm T600.heap x := (allS sf600_b583 (allS sf600_b589 all0))
  have CQ607 := CHr.keep K607q hs607 CR600.1
  have sf607_b583 := Safe.keep K607q hs607 CR600.1 sf600_b583
  have CR607 := CR600.trans CQ607
  have hk607 := Nat.le_trans hk600 CQ607.2.1
  obtain ⟨ba608, T608, h608, k1_608, bb608, kb608, X608, e608, E608, hS608, hk608, hZ608, hown608, EA608, FC608, FV608, AV608, -, -, hC608, -, hn608, st608⟩ := ldcCH (s := s) (vm0 := T595.vm) X607 hx hZ595 hown595 (own_w hw 143 rfl) (own_wS hw) rfl hS595 hk607 (own_hEL hw) (List.mem_of_getElem? (i := 0) rfl) CR607.1 (vs := [(.int (58 : Int32)), (.int (32 : Int32))]) (z := (2 : Int32)) ⟨by decide, rfl⟩ (by decide) (by decide) (g := (mkF m 65 #[rv pr] [(.ref b583)])) rfl (hb hby d9_65) (n := 8) (by decide) (by decide) (by decide) (by decide)
  have sf608_b583 := hC608.safe q607_E_b583.lt sf607_b583
  have CR608 := CR607.trans hC608
  have ne_b583_ba608 := (hn608 _ sf608_b583).1
  have ne_b583_bb608 := (hn608 _ sf608_b583).2
  have K608 := K607.ext E608
  have XX608 := own_ext2 XX607 E608
  obtain ⟨_, T614, Lc614, X614, hQ614, st614⟩ := own_virtual (y := y_17) X608 hx hZ608 hown608 (own_w hw 73 rfl) (own_w hw 74 rfl) (own_w hw 76 rfl) (own_w hw 75 rfl) (own_w hw 57 rfl) (own_w hw 77 rfl) (own_apS_g l Z a0 hw [] w_CS b583 b589 k590 (((([] : List Int32) ++ fs) ++ [(58 : Int32)]) ++ own_ds qa kk) ba608 bb608 kb608 [(58 : Int32), (32 : Int32)] h608 XX608 S_w_CS (q607_E_b583.ext E608) (q607_F_b583_value.ext E608) (q607_F_b583_coder.ext E608) (q607_F_b583_count.ext E608) (q607_V_b589.ext E608) EA608 FC608 FV608 AV608 g_b583 hc1 hc120 hc121 (Ne.symm ne_b583_ba608) (Ne.symm ne_b583_bb608)) e608 (q607_E_b583.ext E608) (g := (mkF m 67 #[rv pr] [(.ref ba608), (.ref b583)])) (argsL := [(.ref ba608)]) (rest := []) (W := 0) (lenOf pd_28 rfl) (hb hby d9_67) hml
  obtain ⟨b615, k616, rfl, N614q, K614q, szn_b615, q614_E_b583, q614_F_b583_value, q614_F_b583_coder, q614_F_b583_count, q614_V_b615⟩ := hQ614
  have g_b615 := Nat.le_trans XX608.1 szn_b615
  have sz_b615 := Nat.le_trans K608.1 szn_b615
  have K614 := K608.trans K614q (allS (Or.inr sz_b583) all0)
  have XX614 := own_extK XX608 K614q (allS g_b583 all0)
  have N614 := Fr.app N607 N614q
  have hs614 : ∀ x ∈ [b583], Safe Z consts_1 T608.vm h608 x := (allS sf608_b583 all0)
  have CQ614 := CHr.keep K614q hs614 CR608.1
  have sf614_b583 := Safe.keep K614q hs614 CR608.1 sf608_b583
  have sf614_b615 := Safe.keep K614q hs614 CR608.1 (Safe.new szn_b615)
  have CR614 := CR608.trans CQ614
  have hk614 := Nat.le_trans hk608 CQ614.2.1
  have f617_F_pr_reason := ((((((((F_pr_reason.ext E583).keep K588q (ninS ne_pr_b583 (nin0))).keep K594q (ninS ne_pr_b583 (ninS ne_pr_b589 (nin0)))).ext E595).keep K600q (ninS ne_pr_b583 (ninS ne_pr_b589 (nin0)))).keep K607q (ninS ne_pr_b583 (ninS ne_pr_b589 (nin0)))).ext E608).keep K614q (ninS ne_pr_b583 (nin0)))
  obtain ⟨T618, X618, e618, st618⟩ := getF X614 hx hZ608 hown608 (host := "") (Or.inl (own_w hw 48 rfl)) Via.refl rfl f617_F_pr_reason (g := (mkF m 71 #[rv pr] [(.ref pr), (.ref b583)])) rfl rfl (hb hby d9_71)
  have ne_r1_b583 := Nat.ne_of_lt (Nat.lt_of_lt_of_le E_r1.lt (Nat.le_of_eq g583.symm))
  have ne_r1_b589 := Nat.ne_of_lt (Nat.lt_of_lt_of_le (E_r1.ext E583).lt szn_b589)
  have f622_F_r1_coder := ((((((((F_r1_coder.ext E583).keep K588q (ninS ne_r1_b583 (nin0))).keep K594q (ninS ne_r1_b583 (ninS ne_r1_b589 (nin0)))).ext E595).keep K600q (ninS ne_r1_b583 (ninS ne_r1_b589 (nin0)))).keep K607q (ninS ne_r1_b583 (ninS ne_r1_b589 (nin0)))).ext E608).keep K614q (ninS ne_r1_b583 (nin0)))
  have f623_F_r1_value := ((((((((F_r1_value.ext E583).keep K588q (ninS ne_r1_b583 (nin0))).keep K594q (ninS ne_r1_b583 (ninS ne_r1_b589 (nin0)))).ext E595).keep K600q (ninS ne_r1_b583 (ninS ne_r1_b589 (nin0)))).keep K607q (ninS ne_r1_b583 (ninS ne_r1_b589 (nin0)))).ext E608).keep K614q (ninS ne_r1_b583 (nin0)))
  have ne_e2_b583 := Nat.ne_of_lt (Nat.lt_of_lt_of_le V_e2.lt (Nat.le_of_eq g583.symm))
  have ne_e2_b589 := Nat.ne_of_lt (Nat.lt_of_lt_of_le (V_e2.ext E583).lt szn_b589)
  have f624_V_e2 := ((((((((V_e2.ext E583).keep K588q (ninS ne_e2_b583 (nin0))).keep K594q (ninS ne_e2_b583 (ninS ne_e2_b589 (nin0)))).ext E595).keep K600q (ninS ne_e2_b583 (ninS ne_e2_b589 (nin0)))).keep K607q (ninS ne_e2_b583 (ninS ne_e2_b589 (nin0)))).ext E608).keep K614q (ninS ne_e2_b583 (nin0)))
  have ne_b583_b615 := Nat.ne_of_lt (Nat.lt_of_lt_of_le (q607_E_b583.ext E608).lt szn_b615)
  obtain ⟨_, T621, Lc621, X621, hQ621, st621⟩ := own_virtual (y := y_17) X618 hx hZ608 hown608 (own_w hw 73 rfl) (own_w hw 74 rfl) (own_w hw 76 rfl) (own_w hw 75 rfl) (own_w hw 57 rfl) (own_w hw 77 rfl) (own_apS_n34 l Z a0 hw [] w_CS b583 b615 k616 ((((([] : List Int32) ++ fs) ++ [(58 : Int32)]) ++ own_ds qa kk) ++ [(58 : Int32), (32 : Int32)]) r1 e2 k2 rs T614.heap XX614 S_w_CS q614_E_b583 q614_F_b583_value q614_F_b583_coder q614_F_b583_count q614_V_b615 (((f606_E_r1.keep K607q).ext E608).keep K614q) f622_F_r1_coder f623_F_r1_value f624_V_e2 g_b583 g_b615 hc1 hc122 ne_b583_b615 (Ne.symm ne_b583_b615)) e618 q614_E_b583 (g := (mkF m 74 #[rv pr] [(.ref r1), (.ref b583)])) (argsL := [(.ref r1)]) (rest := []) (W := 0) (lenOf pd_28 rfl) (hb hby d9_74) hml
  obtain ⟨rfl, N621q, K621q, q621_E_b583, q621_F_b583_value, q621_F_b583_coder, q621_F_b583_count, q621_V_b615⟩ := hQ621
  have K621 := K614.trans K621q (allS (Or.inr sz_b583) (allS (Or.inr sz_b615) all0))
  have XX621 := own_extK XX614 K621q (allS g_b583 (allS g_b615 all0))
  have N621 := Fr.app N614 N621q
  have hs621 : ∀ x ∈ [b583, b615], Safe Z consts_1 T608.vm T614.heap x := (allS sf614_b583 (allS sf614_b615 all0))
  have CQ621 := CHr.keep K621q hs621 CR614.1
  have CR621 := CR614.trans CQ621
  have hk621 := Nat.le_trans hk614 CQ621.2.1
  obtain ⟨_, T627, Lc627, X627, hQ627, st627⟩ := own_virtual (y := y_26) X621 hx hZ608 hown608 (own_w hw 144 rfl) (own_w hw 145 rfl) (own_w hw 147 rfl) (own_w hw 146 rfl) (own_w hw 57 rfl) (own_w hw 148 rfl) (rm235 l Z a0 hw [] w_CS b583 b615 k616 (((((([] : List Int32) ++ fs) ++ [(58 : Int32)]) ++ own_ds qa kk) ++ [(58 : Int32), (32 : Int32)]) ++ rs) T621.heap XX621 S_w_CS q621_E_b583 q621_F_b583_value q621_F_b583_coder q621_F_b583_count q621_V_b615 hc1 hc123) rfl q621_E_b583 (g := (mkF m 77 #[rv pr] [(.ref b583)])) (argsL := []) (rest := []) (W := 0) (lenOf pd_29 rfl) (hb hby d9_77) hml
  obtain ⟨b628, b629, k630, rfl, N627q, K627q, szn_b628, szn_b629, q627_E_b628, q627_F_b628_coder, q627_F_b628_value, q627_V_b629⟩ := hQ627
  have sz_b628 := Nat.le_trans K621.1 szn_b628
  have sz_b629 := Nat.le_trans K621.1 szn_b629
  have K627 := K621.trans K627q all0
  have N627 := Fr.app N621 N627q
  have hs627 : ∀ x ∈ ([] : List Addr), Safe Z consts_1 T608.vm T621.heap x := all0
  have CQ627 := CHr.keep K627q hs627 CR621.1
  have CR627 := CR621.trans CQ627
  have hk627 := Nat.le_trans hk621 CQ627.2.1
  obtain ⟨_, hr, hrun, hended, hend⟩ := leaveW (s := s) (vm₁ := T608.vm) X627 hS608 hk627 (v := some (.ref b628)) (fun h => by rw [hret] at h; cases h) hlk
  refine ⟨_, _, ?_, hrun, hended, _, _, rfl, ?_, ?_, hend.1, hend.2.1, hend.2.2.1, hend.2.2.2.mono (by decide) (by decide)⟩
  · show own_S p e below s₁ (mkF m 0 #[rv pr] []) _
    refine own_aN X0 hx hby d9_0 ?_
    refine st582 _ ?_
    refine own_iy (pc := 4) X582 hx hby d9_4 (feq hc114).2 39 ?_
    refine st583 _ ?_
    refine XS.dup X583.here hx rfl (hb hby d9_42) rfl rfl ?_
    refine st588 _ ?_
    refine own_aN X588 hx hby d9_46 ?_
    refine st591 _ ?_
    refine st594 _ ?_
    refine st595 _ ?_
    refine st600 _ ?_
    refine own_aN X600 hx hby d9_58 ?_
    refine st602 _ ?_
    refine st607 _ ?_
    refine st608 _ ?_
    refine st614 _ ?_
    refine own_aN X614 hx hby d9_70 ?_
    refine st618 _ ?_
    refine st621 _ ?_
    refine st627 _ ?_
    jvm_step X627.here [X627.here.top, hx, (hb hby d9_80), X627.method', hret, Value.isRef, FieldType.isReference]
    first | (intro acts; rw [hr _ acts rfl rfl rfl]) | rw [hr _ _ rfl rfl rfl]
    exact Steps.refl _
  · show Qrm581 Z qa kk fs rs h0 _ T627.heap _
    exact ⟨b628, b629, k630, rfl, N627, K627, sz_b628, sz_b629, q627_E_b628, q627_F_b628_coder, q627_F_b628_value, q627_V_b629⟩
  · rw [hs0]
    show CHr Z consts_1 s.vm h0 T627.vm T627.heap
    skip
    exact CR627.trans (CHv.at (s := s) (vm0 := T608.vm) X627 hZ608 (own_hEL hw) CR627.1)
def Qrm631 (Z : State) (qa : Int32) (kk : Nat) (fs rs : List Int32) (h0 : Heap) (v : Option Value) (h : Heap) (L : List Loc) : Prop := ∃ b678 : Addr, ∃ b679 : Addr, ∃ k680 : ClassId, v = some (.ref b678) ∧ Fr Z.heap.size L ∧ Keep h0 h [] ∧ h0.size ≤ b678 ∧ h0.size ≤ b679 ∧ Exa Z h b678 own_cS ∧ Fld Z h b678 own_cS "coder" "B" (.int (0 : Int32)) ∧ Fld Z h b678 own_cS "value" "[B" (.ref b679) ∧ Arv Z h b679 k680 .byte (Int32.ofNat (((((([] : List Int32) ++ fs) ++ [(58 : Int32)]) ++ own_ds qa kk) ++ [(58 : Int32), (32 : Int32)]) ++ rs).length) (own_ch (((((([] : List Int32) ++ fs) ++ [(58 : Int32)]) ++ own_ds qa kk) ++ [(58 : Int32), (32 : Int32)]) ++ rs)) (.int (0 : Int32))
theorem rm631 (l : Launch) (Z : State) (a0 : Array Value) (hw : own_HW Z a0) (ws : List Jvm.Cond) (w_CS qa : Int32) (kk : Nat) (w_DO : Addr) (k_w_DO : ClassId) (w_DT : Addr) (k_w_DT : ClassId) (fs rs : List Int32) (pr f1 e1 : Addr) (k1 : ClassId) (r1 e2 : Addr) (k2 : ClassId) (h0 : Heap) (Z0 : Ext Z.heap h0) (S_w_CS : own_w_CS Z w_CS) (S_w_DO : own_Sw_DO Z w_DO) (A_w_DO : Arv Z Z.heap w_DO k_w_DO .byte (100 : Int32) own_ones (.int (0 : Int32))) (S_w_DT : own_Sw_DT Z w_DT) (A_w_DT : Arv Z Z.heap w_DT k_w_DT .byte (100 : Int32) own_tens (.int (0 : Int32))) (E_pr : Exa Z h0 pr own_cP) (F_pr_file : Fld Z h0 pr own_cP "file" "Ljava/lang/String;" (.ref f1)) (F_pr_line : Fld Z h0 pr own_cP "line" "I" (.int qa)) (F_pr_reason : Fld Z h0 pr own_cP "reason" "Ljava/lang/String;" (.ref r1)) (E_f1 : Exa Z h0 f1 own_cS) (F_f1_coder : Fld Z h0 f1 own_cS "coder" "B" (.int (0 : Int32))) (F_f1_value : Fld Z h0 f1 own_cS "value" "[B" (.ref e1)) (V_e1 : Arv Z h0 e1 k1 .byte (Int32.ofNat fs.length) (own_ch fs) (.int (0 : Int32))) (E_r1 : Exa Z h0 r1 own_cS) (F_r1_coder : Fld Z h0 r1 own_cS "coder" "B" (.int (0 : Int32))) (F_r1_value : Fld Z h0 r1 own_cS "value" "[B" (.ref e2)) (V_e2 : Arv Z h0 e2 k2 .byte (Int32.ofNat rs.length) (own_ch rs) (.int (0 : Int32))) (hc114 : ¬ (qa = (0 : Int32))) (hc1 : ¬ (w_CS = (0 : Int32))) (hc110 : ([] : List Int32).length + fs.length ≤ 16) (hc115 : (([] : List Int32) ++ fs).length + [(58 : Int32)].length ≤ 16) (hc9 : own_nd qa kk) (hc116 : ((([] : List Int32) ++ fs) ++ [(58 : Int32)]).length + kk ≤ 16) (hc117 : (((([] : List Int32) ++ fs) ++ [(58 : Int32)]) ++ own_ds qa kk).length + [(58 : Int32), (32 : Int32)].length ≤ 16) (hc124 : own_gw (((((([] : List Int32) ++ fs) ++ [(58 : Int32)]) ++ own_ds qa kk) ++ [(58 : Int32), (32 : Int32)]).length + rs.length) ) (hc125 : ((((([] : List Int32) ++ fs) ++ [(58 : Int32)]) ++ own_ds qa kk) ++ [(58 : Int32), (32 : Int32)]).length ≤ 16) (hc123 : (((((([] : List Int32) ++ fs) ++ [(58 : Int32)]) ++ own_ds qa kk) ++ [(58 : Int32), (32 : Int32)]) ++ rs).length < 34) :
    own_metW l y_43 prog_8_method_2_code 1 (some (.object own_cS)) ws ({ frames := 7, cells := 9, slots := 140, locals := 130 } : Room) Z #[(.ref pr)] h0 (Qrm631 Z qa kk fs rs h0) := by
  refine own_startW (plainFor_of_name pn_10) (fun m => ef_prog_8_method_2_R m pr) ?_
  intro p e s m below meth c s₁ hx hby hml hown hnm X0 hZ e0 hret hlk hs0 hC0
  have N0 := Fr.nil Z.heap.size
  have CR0 : CHr Z consts_1 s.vm h0 s.vm h0 := CHr.refl hC0
  have hS0 : s.Since s.vm 0 := (State.WarmedH.refl s).since 0
  have hk0 : 0 ≤ h0.size := Nat.zero_le _
  obtain ⟨T632, X632, e632, st632⟩ := getF X0 hx hZ hown (host := "") (Or.inl (own_w hw 46 rfl)) Via.refl e0 F_pr_line (g := (mkF m 1 #[rv pr] [(.ref pr)])) rfl rfl (hb hby d9_1)
  obtain ⟨T633, h633, X633, e633, E633, A633, D633, -, st633⟩ := newO X632 hx hZ hown (own_w hw 55 rfl) (own_w hw 56 rfl) (own_w hw 57 rfl) e632 (g := (mkF m 39 #[rv pr] [])) rfl (hb hby d9_39) (by decide) (by decide)
  obtain ⟨b633, g633⟩ : ∃ z, z = h0.size := ⟨_, rfl⟩
  rw [← g633] at A633 D633 st633
  have g_b633 := Nat.le_trans Z0.1 (Nat.le_of_eq g633.symm)
  have sz_b633 := Nat.le_trans (Keep.refl h0 []).1 (Nat.le_of_eq g633.symm)
  have F_b633_value : Fld Z h633 b633 own_cA "value" "[B" .null := D633 (Or.inl (own_w hw 70 rfl)) (ty := (.array .byte)) (by decide)
  have F_b633_coder : Fld Z h633 b633 own_cA "coder" "B" (.int (0 : Int32)) := D633 (Or.inl (own_w hw 72 rfl)) (ty := .byte) (by decide)
  have F_b633_count : Fld Z h633 b633 own_cA "count" "I" (.int (0 : Int32)) := D633 (Or.inl (own_w hw 94 rfl)) (ty := .int) (by decide)
  have K633 := (Keep.refl h0 []).ext E633
  have XX633 := own_ext2 Z0 E633
  have CQ633 := CHr.ext E633 CR0.1
  have CR633 := CR0.trans CQ633
  have hk633 := Nat.le_trans hk0 CQ633.2.1
  have sf637_b633 : Safe Z consts_1 s.vm h633 b633 := Safe.exa hZ.alike A633 (by decide) (by decide)
  obtain ⟨_, T638, Lc638, X638, hQ638, st638⟩ := own_special (y := y_42) X633 hx hZ hown rfl (own_w hw 58 rfl) (own_w hw 59 rfl) (own_w hw 57 rfl) (own_w hw 60 rfl) (rm488 l Z a0 hw [] w_CS b633 h633 XX633 S_w_CS A633 F_b633_coder F_b633_count F_b633_value g_b633 hc1) e633 b633 (g := (mkF m 43 #[rv pr] [(.ref b633), (.ref b633)])) (argsL := []) (rest := [(.ref b633)]) (W := 1) (lenOf pd_27 rfl) (hb hby d9_43) hml
  obtain ⟨b639, k640, rfl, N638q, K638q, szn_b639, q638_E_b633, q638_F_b633_coder, q638_F_b633_count, q638_F_b633_value, q638_V_b639, q638_E_b639⟩ := hQ638
  have g_b639 := Nat.le_trans XX633.1 szn_b639
  have sz_b639 := Nat.le_trans K633.1 szn_b639
  have K638 := K633.trans K638q (allS (Or.inr sz_b633) all0)
  have XX638 := own_extK XX633 K638q (allS g_b633 all0)
  have N638 := Fr.app N0 N638q
  have hs638 : ∀ x ∈ [b633], Safe Z consts_1 s.vm h633 x := (allS sf637_b633 all0)
  have CQ638 := CHr.keep K638q hs638 CR633.1
  have sf638_b633 := Safe.keep K638q hs638 CR633.1 sf637_b633
  have sf638_b639 := Safe.keep K638q hs638 CR633.1 (Safe.new szn_b639)
  have CR638 := CR633.trans CQ638
  have hk638 := Nat.le_trans hk633 CQ638.2.1
  have ne_pr_b633 := Nat.ne_of_lt (Nat.lt_of_lt_of_le E_pr.lt (Nat.le_of_eq g633.symm))
  obtain ⟨T641, X641, e641, st641⟩ := getF X638 hx hZ hown (host := "") (Or.inl (own_w hw 44 rfl)) Via.refl rfl ((F_pr_file.ext E633).keep K638q (ninS ne_pr_b633 (nin0))) (g := (mkF m 47 #[rv pr] [(.ref pr), (.ref b633)])) rfl rfl (hb hby d9_47)
  have ne_f1_b633 := Nat.ne_of_lt (Nat.lt_of_lt_of_le E_f1.lt (Nat.le_of_eq g633.symm))
  have ne_e1_b633 := Nat.ne_of_lt (Nat.lt_of_lt_of_le V_e1.lt (Nat.le_of_eq g633.symm))
  have ne_b633_b639 := Nat.ne_of_lt (Nat.lt_of_lt_of_le A633.lt szn_b639)
  obtain ⟨_, T644, Lc644, X644, hQ644, st644⟩ := own_virtual (y := y_17) X641 hx hZ hown (own_w hw 73 rfl) (own_w hw 74 rfl) (own_w hw 76 rfl) (own_w hw 75 rfl) (own_w hw 57 rfl) (own_w hw 77 rfl) (own_apS_n16 l Z a0 hw [] w_CS b633 b639 k640 ([] : List Int32) f1 e1 k1 fs T638.heap XX638 S_w_CS q638_E_b633 q638_F_b633_value q638_F_b633_coder q638_F_b633_count q638_V_b639 ((E_f1.ext E633).keep K638q) ((F_f1_coder.ext E633).keep K638q (ninS ne_f1_b633 (nin0))) ((F_f1_value.ext E633).keep K638q (ninS ne_f1_b633 (nin0))) ((V_e1.ext E633).keep K638q (ninS ne_e1_b633 (nin0))) g_b633 g_b639 hc1 hc110 ne_b633_b639 (Ne.symm ne_b633_b639)) e641 q638_E_b633 (g := (mkF m 50 #[rv pr] [(.ref f1), (.ref b633)])) (argsL := [(.ref f1)]) (rest := []) (W := 0) (lenOf pd_28 rfl) (hb hby d9_50) hml
  obtain ⟨rfl, N644q, K644q, q644_E_b633, q644_F_b633_value, q644_F_b633_coder, q644_F_b633_count, q644_V_b639⟩ := hQ644
  have K644 := K638.trans K644q (allS (Or.inr sz_b633) (allS (Or.inr sz_b639) all0))
  have XX644 := own_extK XX638 K644q (allS g_b633 (allS g_b639 all0))
  have N644 := Fr.app N638 N644q
  have hs644 : ∀ x ∈ [b633, b639], Safe Z consts_1 s.vm T638.heap x := (allS sf638_b633 (allS sf638_b639 all0))
  have CQ644 := CHr.keep K644q hs644 CR638.1
  have sf644_b633 := Safe.keep K644q hs644 CR638.1 sf638_b633
  have sf644_b639 := Safe.keep K644q hs644 CR638.1 sf638_b639
  have CR644 := CR638.trans CQ644
  have hk644 := Nat.le_trans hk638 CQ644.2.1
  obtain ⟨ba645, T645, h645, k1_645, bb645, kb645, X645, e645, E645, hS645, hk645, hZ645, hown645, EA645, FC645, FV645, AV645, -, -, hC645, -, hn645, st645⟩ := ldcCH (s := s) (vm0 := s.vm) X644 hx hZ hown (own_w hw 120 rfl) (own_wS hw) rfl hS0 hk644 (own_hEL hw) (List.mem_of_getElem? (i := 1) rfl) CR644.1 (vs := [(.int (58 : Int32))]) (z := (1 : Int32)) ⟨by decide, rfl⟩ (by decide) (by decide) (g := (mkF m 53 #[rv pr] [(.ref b633)])) rfl (hb hby d9_53) (n := 4) (by decide) (by decide) (by decide) (by decide)
  have sf645_b633 := hC645.safe q644_E_b633.lt sf644_b633
  have sf645_b639 := hC645.safe q644_V_b639.lt sf644_b639
  have CR645 := CR644.trans hC645
  have K645 := K644.ext E645
  have XX645 := own_ext2 XX644 E645
  obtain ⟨_, T650, Lc650, X650, hQ650, st650⟩ := own_virtual (y := y_17) X645 hx hZ645 hown645 (own_w hw 73 rfl) (own_w hw 74 rfl) (own_w hw 76 rfl) (own_w hw 75 rfl) (own_w hw 57 rfl) (own_w hw 77 rfl) (own_apS_n16 l Z a0 hw [] w_CS b633 b639 k640 (([] : List Int32) ++ fs) ba645 bb645 kb645 [(58 : Int32)] h645 XX645 S_w_CS (q644_E_b633.ext E645) (q644_F_b633_value.ext E645) (q644_F_b633_coder.ext E645) (q644_F_b633_count.ext E645) (q644_V_b639.ext E645) EA645 FC645 FV645 AV645 g_b633 g_b639 hc1 hc115 ne_b633_b639 (Ne.symm ne_b633_b639)) e645 (q644_E_b633.ext E645) (g := (mkF m 55 #[rv pr] [(.ref ba645), (.ref b633)])) (argsL := [(.ref ba645)]) (rest := []) (W := 0) (lenOf pd_28 rfl) (hb hby d9_55) hml
  obtain ⟨rfl, N650q, K650q, q650_E_b633, q650_F_b633_value, q650_F_b633_coder, q650_F_b633_count, q650_V_b639⟩ := hQ650
  have K650 := K645.trans K650q (allS (Or.inr sz_b633) (allS (Or.inr sz_b639) all0))
  have XX650 := own_extK XX645 K650q (allS g_b633 (allS g_b639 all0))
  have N650 := Fr.app N644 N650q
  have hs650 : ∀ x ∈ [b633, b639], Safe Z consts_1 T645.vm h645 x := (allS sf645_b633 (allS sf645_b639 all0))
  have CQ650 := CHr.keep K650q hs650 CR645.1
  have sf650_b633 := Safe.keep K650q hs650 CR645.1 sf645_b633
  have sf650_b639 := Safe.keep K650q hs650 CR645.1 sf645_b639
  have CR650 := CR645.trans CQ650
  have hk650 := Nat.le_trans hk645 CQ650.2.1
  have ne_pr_b639 := Nat.ne_of_lt (Nat.lt_of_lt_of_le (E_pr.ext E633).lt szn_b639)
  have f651_F_pr_line := (((((F_pr_line.ext E633).keep K638q (ninS ne_pr_b633 (nin0))).keep K644q (ninS ne_pr_b633 (ninS ne_pr_b639 (nin0)))).ext E645).keep K650q (ninS ne_pr_b633 (ninS ne_pr_b639 (nin0))))
  obtain ⟨T652, X652, e652, st652⟩ := getF X650 hx hZ645 hown645 (host := "") (Or.inl (own_w hw 46 rfl)) Via.refl rfl f651_F_pr_line (g := (mkF m 59 #[rv pr] [(.ref pr), (.ref b633)])) rfl rfl (hb hby d9_59)
  have f656_E_r1 := (((((E_r1.ext E633).keep K638q).keep K644q).ext E645).keep K650q)
  obtain ⟨_, T657, Lc657, X657, hQ657, st657⟩ := own_virtual (y := y_10) X652 hx hZ645 hown645 (own_w hw 121 rfl) (own_w hw 122 rfl) (own_w hw 124 rfl) (own_w hw 123 rfl) (own_w hw 57 rfl) (own_w hw 125 rfl) (own_apI_n16 l Z a0 hw [] w_CS qa kk w_DO k_w_DO w_DT k_w_DT b633 b639 k640 ((([] : List Int32) ++ fs) ++ [(58 : Int32)]) T650.heap XX650 S_w_CS S_w_DO A_w_DO S_w_DT A_w_DT q650_E_b633 q650_F_b633_value q650_F_b633_coder q650_F_b633_count q650_V_b639 g_b633 g_b639 hc9 hc116 hc1 ne_b633_b639 (Ne.symm ne_b633_b639)) e652 q650_E_b633 (g := (mkF m 62 #[rv pr] [(.int qa), (.ref b633)])) (argsL := [(.int qa)]) (rest := []) (W := 0) (lenOf pd_30 rfl) (hb hby d9_62) hml
  obtain ⟨rfl, N657q, K657q, q657_E_b633, q657_F_b633_value, q657_F_b633_coder, q657_F_b633_count, q657_V_b639⟩ := hQ657
  have K657 := K650.trans K657q (allS (Or.inr sz_b633) (allS (Or.inr sz_b639) all0))
  have XX657 := own_extK XX650 K657q (allS g_b633 (allS g_b639 all0))
  have N657 := Fr.app N650 N657q
  have hs657 : ∀ x ∈ [b633, b639], Safe Z consts_1 T645.vm T650.heap x := (allS sf650_b633 (allS sf650_b639 all0))
  have CQ657 := CHr.keep K657q hs657 CR650.1
  have sf657_b633 := Safe.keep K657q hs657 CR650.1 sf650_b633
  have sf657_b639 := Safe.keep K657q hs657 CR650.1 sf650_b639
  have CR657 := CR650.trans CQ657
  have hk657 := Nat.le_trans hk650 CQ657.2.1
  obtain ⟨ba658, T658, h658, k1_658, bb658, kb658, X658, e658, E658, hS658, hk658, hZ658, hown658, EA658, FC658, FV658, AV658, -, -, hC658, -, hn658, st658⟩ := ldcCH (s := s) (vm0 := T645.vm) X657 hx hZ645 hown645 (own_w hw 143 rfl) (own_wS hw) rfl hS645 hk657 (own_hEL hw) (List.mem_of_getElem? (i := 0) rfl) CR657.1 (vs := [(.int (58 : Int32)), (.int (32 : Int32))]) (z := (2 : Int32)) ⟨by decide, rfl⟩ (by decide) (by decide) (g := (mkF m 65 #[rv pr] [(.ref b633)])) rfl (hb hby d9_65) (n := 8) (by decide) (by decide) (by decide) (by decide)
  have sf658_b633 := hC658.safe q657_E_b633.lt sf657_b633
  have sf658_b639 := hC658.safe q657_V_b639.lt sf657_b639
  have CR658 := CR657.trans hC658
  have K658 := K657.ext E658
  have XX658 := own_ext2 XX657 E658
  obtain ⟨_, T664, Lc664, X664, hQ664, st664⟩ := own_virtual (y := y_17) X658 hx hZ658 hown658 (own_w hw 73 rfl) (own_w hw 74 rfl) (own_w hw 76 rfl) (own_w hw 75 rfl) (own_w hw 57 rfl) (own_w hw 77 rfl) (own_apS_n16 l Z a0 hw [] w_CS b633 b639 k640 (((([] : List Int32) ++ fs) ++ [(58 : Int32)]) ++ own_ds qa kk) ba658 bb658 kb658 [(58 : Int32), (32 : Int32)] h658 XX658 S_w_CS (q657_E_b633.ext E658) (q657_F_b633_value.ext E658) (q657_F_b633_coder.ext E658) (q657_F_b633_count.ext E658) (q657_V_b639.ext E658) EA658 FC658 FV658 AV658 g_b633 g_b639 hc1 hc117 ne_b633_b639 (Ne.symm ne_b633_b639)) e658 (q657_E_b633.ext E658) (g := (mkF m 67 #[rv pr] [(.ref ba658), (.ref b633)])) (argsL := [(.ref ba658)]) (rest := []) (W := 0) (lenOf pd_28 rfl) (hb hby d9_67) hml
  obtain ⟨rfl, N664q, K664q, q664_E_b633, q664_F_b633_value, q664_F_b633_coder, q664_F_b633_count, q664_V_b639⟩ := hQ664
  have K664 := K658.trans K664q (allS (Or.inr sz_b633) (allS (Or.inr sz_b639) all0))
  have XX664 := own_extK XX658 K664q (allS g_b633 (allS g_b639 all0))
  have N664 := Fr.app N657 N664q
  have hs664 : ∀ x ∈ [b633, b639], Safe Z consts_1 T658.vm h658 x := (allS sf658_b633 (allS sf658_b639 all0))
  have CQ664 := CHr.keep K664q hs664 CR658.1
  have sf664_b633 := Safe.keep K664q hs664 CR658.1 sf658_b633
  have CR664 := CR658.trans CQ664
  have hk664 := Nat.le_trans hk658 CQ664.2.1
  have f665_F_pr_reason := ((((((((F_pr_reason.ext E633).keep K638q (ninS ne_pr_b633 (nin0))).keep K644q (ninS ne_pr_b633 (ninS ne_pr_b639 (nin0)))).ext E645).keep K650q (ninS ne_pr_b633 (ninS ne_pr_b639 (nin0)))).keep K657q (ninS ne_pr_b633 (ninS ne_pr_b639 (nin0)))).ext E658).keep K664q (ninS ne_pr_b633 (ninS ne_pr_b639 (nin0))))
  obtain ⟨T666, X666, e666, st666⟩ := getF X664 hx hZ658 hown658 (host := "") (Or.inl (own_w hw 48 rfl)) Via.refl rfl f665_F_pr_reason (g := (mkF m 71 #[rv pr] [(.ref pr), (.ref b633)])) rfl rfl (hb hby d9_71)
  have ne_r1_b633 := Nat.ne_of_lt (Nat.lt_of_lt_of_le E_r1.lt (Nat.le_of_eq g633.symm))
  have ne_r1_b639 := Nat.ne_of_lt (Nat.lt_of_lt_of_le (E_r1.ext E633).lt szn_b639)
  have f672_F_r1_coder := ((((((((F_r1_coder.ext E633).keep K638q (ninS ne_r1_b633 (nin0))).keep K644q (ninS ne_r1_b633 (ninS ne_r1_b639 (nin0)))).ext E645).keep K650q (ninS ne_r1_b633 (ninS ne_r1_b639 (nin0)))).keep K657q (ninS ne_r1_b633 (ninS ne_r1_b639 (nin0)))).ext E658).keep K664q (ninS ne_r1_b633 (ninS ne_r1_b639 (nin0))))
  have f673_F_r1_value := ((((((((F_r1_value.ext E633).keep K638q (ninS ne_r1_b633 (nin0))).keep K644q (ninS ne_r1_b633 (ninS ne_r1_b639 (nin0)))).ext E645).keep K650q (ninS ne_r1_b633 (ninS ne_r1_b639 (nin0)))).keep K657q (ninS ne_r1_b633 (ninS ne_r1_b639 (nin0)))).ext E658).keep K664q (ninS ne_r1_b633 (ninS ne_r1_b639 (nin0))))
  have ne_e2_b633 := Nat.ne_of_lt (Nat.lt_of_lt_of_le V_e2.lt (Nat.le_of_eq g633.symm))
  have ne_e2_b639 := Nat.ne_of_lt (Nat.lt_of_lt_of_le (V_e2.ext E633).lt szn_b639)
  have f674_V_e2 := ((((((((V_e2.ext E633).keep K638q (ninS ne_e2_b633 (nin0))).keep K644q (ninS ne_e2_b633 (ninS ne_e2_b639 (nin0)))).ext E645).keep K650q (ninS ne_e2_b633 (ninS ne_e2_b639 (nin0)))).keep K657q (ninS ne_e2_b633 (ninS ne_e2_b639 (nin0)))).ext E658).keep K664q (ninS ne_e2_b633 (ninS ne_e2_b639 (nin0))))
  obtain ⟨_, T669, Lc669, X669, hQ669, st669⟩ := own_virtual (y := y_17) X666 hx hZ658 hown658 (own_w hw 73 rfl) (own_w hw 74 rfl) (own_w hw 76 rfl) (own_w hw 75 rfl) (own_w hw 57 rfl) (own_w hw 77 rfl) (own_apS_g l Z a0 hw [] w_CS b633 b639 k640 ((((([] : List Int32) ++ fs) ++ [(58 : Int32)]) ++ own_ds qa kk) ++ [(58 : Int32), (32 : Int32)]) r1 e2 k2 rs T664.heap XX664 S_w_CS q664_E_b633 q664_F_b633_value q664_F_b633_coder q664_F_b633_count q664_V_b639 (((f656_E_r1.keep K657q).ext E658).keep K664q) f672_F_r1_coder f673_F_r1_value f674_V_e2 g_b633 hc1 hc124 hc125 ne_r1_b633 ne_e2_b633) e666 q664_E_b633 (g := (mkF m 74 #[rv pr] [(.ref r1), (.ref b633)])) (argsL := [(.ref r1)]) (rest := []) (W := 0) (lenOf pd_28 rfl) (hb hby d9_74) hml
  obtain ⟨b670, k671, rfl, N669q, K669q, szn_b670, q669_E_b633, q669_F_b633_value, q669_F_b633_coder, q669_F_b633_count, q669_V_b670⟩ := hQ669
  have K669 := K664.trans K669q (allS (Or.inr sz_b633) all0)
  have XX669 := own_extK XX664 K669q (allS g_b633 all0)
  have N669 := Fr.app N664 N669q
  have hs669 : ∀ x ∈ [b633], Safe Z consts_1 T658.vm T664.heap x := (allS sf664_b633 all0)
  have CQ669 := CHr.keep K669q hs669 CR664.1
  have CR669 := CR664.trans CQ669
  have hk669 := Nat.le_trans hk664 CQ669.2.1
  obtain ⟨_, T677, Lc677, X677, hQ677, st677⟩ := own_virtual (y := y_26) X669 hx hZ658 hown658 (own_w hw 144 rfl) (own_w hw 145 rfl) (own_w hw 147 rfl) (own_w hw 146 rfl) (own_w hw 57 rfl) (own_w hw 148 rfl) (rm235 l Z a0 hw [] w_CS b633 b670 k671 (((((([] : List Int32) ++ fs) ++ [(58 : Int32)]) ++ own_ds qa kk) ++ [(58 : Int32), (32 : Int32)]) ++ rs) T669.heap XX669 S_w_CS q669_E_b633 q669_F_b633_value q669_F_b633_coder q669_F_b633_count q669_V_b670 hc1 hc123) rfl q669_E_b633 (g := (mkF m 77 #[rv pr] [(.ref b633)])) (argsL := []) (rest := []) (W := 0) (lenOf pd_29 rfl) (hb hby d9_77) hml
  obtain ⟨b678, b679, k680, rfl, N677q, K677q, szn_b678, szn_b679, q677_E_b678, q677_F_b678_coder, q677_F_b678_value, q677_V_b679⟩ := hQ677
  have sz_b678 := Nat.le_trans K669.1 szn_b678
  have sz_b679 := Nat.le_trans K669.1 szn_b679
  have K677 := K669.trans K677q all0
  have N677 := Fr.app N669 N677q
  have hs677 : ∀ x ∈ ([] : List Addr), Safe Z consts_1 T658.vm T669.heap x := all0
  have CQ677 := CHr.keep K677q hs677 CR669.1
  have CR677 := CR669.trans CQ677
  have hk677 := Nat.le_trans hk669 CQ677.2.1
  obtain ⟨_, hr, hrun, hended, hend⟩ := leaveW (s := s) (vm₁ := T658.vm) X677 hS658 hk677 (v := some (.ref b678)) (fun h => by rw [hret] at h; cases h) hlk
  refine ⟨_, _, ?_, hrun, hended, _, _, rfl, ?_, ?_, hend.1, hend.2.1, hend.2.2.1, hend.2.2.2.mono (by decide) (by decide)⟩
  · show own_S p e below s₁ (mkF m 0 #[rv pr] []) _
    refine own_aN X0 hx hby d9_0 ?_
    refine st632 _ ?_
    refine own_iy (pc := 4) X632 hx hby d9_4 (feq hc114).2 39 ?_
    refine st633 _ ?_
    refine XS.dup X633.here hx rfl (hb hby d9_42) rfl rfl ?_
    refine st638 _ ?_
    refine own_aN X638 hx hby d9_46 ?_
    refine st641 _ ?_
    refine st644 _ ?_
    refine st645 _ ?_
    refine st650 _ ?_
    refine own_aN X650 hx hby d9_58 ?_
    refine st652 _ ?_
    refine st657 _ ?_
    refine st658 _ ?_
    refine st664 _ ?_
    refine own_aN X664 hx hby d9_70 ?_
    refine st666 _ ?_
    refine st669 _ ?_
    refine st677 _ ?_
    jvm_step X677.here [X677.here.top, hx, (hb hby d9_80), X677.method', hret, Value.isRef, FieldType.isReference]
    first | (intro acts; rw [hr _ acts rfl rfl rfl]) | rw [hr _ _ rfl rfl rfl]
    exact Steps.refl _
  · show Qrm631 Z qa kk fs rs h0 _ T677.heap _
    exact ⟨b678, b679, k680, rfl, N677, K677, sz_b678, sz_b679, q677_E_b678, q677_F_b678_coder, q677_F_b678_value, q677_V_b679⟩
  · rw [hs0]
    show CHr Z consts_1 s.vm h0 T677.vm T677.heap
    skip
    exact CR677.trans (CHv.at (s := s) (vm0 := T658.vm) X677 hZ658 (own_hEL hw) CR677.1)
def Qown_tsZ (Z : State) (fs rs : List Int32) (h0 : Heap) (v : Option Value) (h : Heap) (L : List Loc) : Prop := ∃ b : Addr, v = some (.ref b) ∧ Fr Z.heap.size L ∧ Keep h0 h [] ∧ h0.size ≤ b ∧ Exa Z h b own_cS ∧ own_rep Z h b (own_vz fs rs)
theorem own_tsZ (l : Launch) (Z : State) (a0 : Array Value) (hw : own_HW Z a0) (ws : List Jvm.Cond) (w_CS qa : Int32) (fs rs : List Int32) (pr f1 e1 : Addr) (k1 : ClassId) (r1 e2 : Addr) (k2 : ClassId) (h0 : Heap) (Z0 : Ext Z.heap h0) (S_w_CS : own_w_CS Z w_CS) (E_pr : Exa Z h0 pr own_cP) (F_pr_file : Fld Z h0 pr own_cP "file" "Ljava/lang/String;" (.ref f1)) (F_pr_line : Fld Z h0 pr own_cP "line" "I" (.int qa)) (F_pr_reason : Fld Z h0 pr own_cP "reason" "Ljava/lang/String;" (.ref r1)) (E_f1 : Exa Z h0 f1 own_cS) (F_f1_coder : Fld Z h0 f1 own_cS "coder" "B" (.int (0 : Int32))) (F_f1_value : Fld Z h0 f1 own_cS "value" "[B" (.ref e1)) (V_e1 : Arv Z h0 e1 k1 .byte (Int32.ofNat fs.length) (own_ch fs) (.int (0 : Int32))) (E_r1 : Exa Z h0 r1 own_cS) (F_r1_coder : Fld Z h0 r1 own_cS "coder" "B" (.int (0 : Int32))) (F_r1_value : Fld Z h0 r1 own_cS "value" "[B" (.ref e2)) (V_e2 : Arv Z h0 e2 k2 .byte (Int32.ofNat rs.length) (own_ch rs) (.int (0 : Int32))) (hc1 : ¬ (w_CS = (0 : Int32))) (hc109 : qa = (0 : Int32)) (hc126 : fs.length ≤ 3) (hc127 : rs.length ≤ 3) :
    own_metW l y_43 prog_8_method_2_code 1 (some (.object own_cS)) ws ({ frames := 7, cells := 9, slots := 140, locals := 130 } : Room) Z #[(.ref pr)] h0 (Qown_tsZ Z fs rs h0) := by
  exact own_monoW (rm481 l Z a0 hw ws w_CS qa fs rs pr f1 e1 k1 r1 e2 k2 h0 Z0 S_w_CS E_pr F_pr_file F_pr_line F_pr_reason E_f1 F_f1_coder F_f1_value V_e1 E_r1 F_r1_coder F_r1_value V_e2 hc109 hc1 (by simp only [own_gw, List.length_append, own_ds_len, List.length_cons, List.length_nil]; omega) (by simp only [own_gw, List.length_append, own_ds_len, List.length_cons, List.length_nil]; omega) (by simp only [own_gw, List.length_append, own_ds_len, List.length_cons, List.length_nil]; omega) (by simp only [own_gw, List.length_append, own_ds_len, List.length_cons, List.length_nil]; omega)) fun v h L ⟨b528, b529, k530, z1, z2, z3, s0, s1, f0, f1, f2, f3⟩ => ⟨b528, z1, z2, z3, s0, f0, b529, k530, f2, f1, f3⟩
def Qown_tsN (Z : State) (fs : List Int32) (qa : Int32) (kk : Nat) (rs : List Int32) (h0 : Heap) (v : Option Value) (h : Heap) (L : List Loc) : Prop := ∃ b : Addr, v = some (.ref b) ∧ Fr Z.heap.size L ∧ Keep h0 h [] ∧ h0.size ≤ b ∧ Exa Z h b own_cS ∧ own_rep Z h b (own_vn fs qa kk rs)
theorem own_tsN (l : Launch) (Z : State) (a0 : Array Value) (hw : own_HW Z a0) (ws : List Jvm.Cond) (w_CS qa : Int32) (kk : Nat) (w_DO : Addr) (k_w_DO : ClassId) (w_DT : Addr) (k_w_DT : ClassId) (fs rs : List Int32) (pr f1 e1 : Addr) (k1 : ClassId) (r1 e2 : Addr) (k2 : ClassId) (h0 : Heap) (Z0 : Ext Z.heap h0) (S_w_CS : own_w_CS Z w_CS) (S_w_DO : own_Sw_DO Z w_DO) (A_w_DO : Arv Z Z.heap w_DO k_w_DO .byte (100 : Int32) own_ones (.int (0 : Int32))) (S_w_DT : own_Sw_DT Z w_DT) (A_w_DT : Arv Z Z.heap w_DT k_w_DT .byte (100 : Int32) own_tens (.int (0 : Int32))) (E_pr : Exa Z h0 pr own_cP) (F_pr_file : Fld Z h0 pr own_cP "file" "Ljava/lang/String;" (.ref f1)) (F_pr_line : Fld Z h0 pr own_cP "line" "I" (.int qa)) (F_pr_reason : Fld Z h0 pr own_cP "reason" "Ljava/lang/String;" (.ref r1)) (E_f1 : Exa Z h0 f1 own_cS) (F_f1_coder : Fld Z h0 f1 own_cS "coder" "B" (.int (0 : Int32))) (F_f1_value : Fld Z h0 f1 own_cS "value" "[B" (.ref e1)) (V_e1 : Arv Z h0 e1 k1 .byte (Int32.ofNat fs.length) (own_ch fs) (.int (0 : Int32))) (E_r1 : Exa Z h0 r1 own_cS) (F_r1_coder : Fld Z h0 r1 own_cS "coder" "B" (.int (0 : Int32))) (F_r1_value : Fld Z h0 r1 own_cS "value" "[B" (.ref e2)) (V_e2 : Arv Z h0 e2 k2 .byte (Int32.ofNat rs.length) (own_ch rs) (.int (0 : Int32))) (hc1 : ¬ (w_CS = (0 : Int32))) (hc114 : ¬ (qa = (0 : Int32))) (hc9 : own_nd qa kk) (hc126 : fs.length ≤ 3) (hc127 : rs.length ≤ 3) :
    own_metW l y_43 prog_8_method_2_code 1 (some (.object own_cS)) ws ({ frames := 7, cells := 9, slots := 140, locals := 130 } : Room) Z #[(.ref pr)] h0 (Qown_tsN Z fs qa kk rs h0) := by
  have hk := own_nd_le hc9
  by_cases c1 : 16 < fs.length + 1 + kk + 2
  · exact own_monoW (rm581 l Z a0 hw ws w_CS qa kk w_DO k_w_DO w_DT k_w_DT fs rs pr f1 e1 k1 r1 e2 k2 h0 Z0 S_w_CS S_w_DO A_w_DO S_w_DT A_w_DT E_pr F_pr_file F_pr_line F_pr_reason E_f1 F_f1_coder F_f1_value V_e1 E_r1 F_r1_coder F_r1_value V_e2 hc114 hc1 (by simp only [own_gw, List.length_append, own_ds_len, List.length_cons, List.length_nil]; omega) (by simp only [own_gw, List.length_append, own_ds_len, List.length_cons, List.length_nil]; omega) hc9 (by simp only [own_gw, List.length_append, own_ds_len, List.length_cons, List.length_nil]; omega) (by simp only [own_gw, List.length_append, own_ds_len, List.length_cons, List.length_nil]; omega) (by simp only [own_gw, List.length_append, own_ds_len, List.length_cons, List.length_nil]; omega) (by simp only [own_gw, List.length_append, own_ds_len, List.length_cons, List.length_nil]; omega) (by simp only [own_gw, List.length_append, own_ds_len, List.length_cons, List.length_nil]; omega)) fun v h L ⟨b628, b629, k630, z1, z2, z3, s0, s1, f0, f1, f2, f3⟩ => ⟨b628, z1, z2, z3, s0, f0, b629, k630, f2, f1, f3⟩
  · by_cases c2 : 16 < fs.length + 1 + kk + 2 + rs.length
    · exact own_monoW (rm631 l Z a0 hw ws w_CS qa kk w_DO k_w_DO w_DT k_w_DT fs rs pr f1 e1 k1 r1 e2 k2 h0 Z0 S_w_CS S_w_DO A_w_DO S_w_DT A_w_DT E_pr F_pr_file F_pr_line F_pr_reason E_f1 F_f1_coder F_f1_value V_e1 E_r1 F_r1_coder F_r1_value V_e2 hc114 hc1 (by simp only [own_gw, List.length_append, own_ds_len, List.length_cons, List.length_nil]; omega) (by simp only [own_gw, List.length_append, own_ds_len, List.length_cons, List.length_nil]; omega) hc9 (by simp only [own_gw, List.length_append, own_ds_len, List.length_cons, List.length_nil]; omega) (by simp only [own_gw, List.length_append, own_ds_len, List.length_cons, List.length_nil]; omega) (by simp only [own_gw, List.length_append, own_ds_len, List.length_cons, List.length_nil]; omega) (by simp only [own_gw, List.length_append, own_ds_len, List.length_cons, List.length_nil]; omega) (by simp only [own_gw, List.length_append, own_ds_len, List.length_cons, List.length_nil]; omega)) fun v h L ⟨b678, b679, k680, z1, z2, z3, s0, s1, f0, f1, f2, f3⟩ => ⟨b678, z1, z2, z3, s0, f0, b679, k680, f2, f1, f3⟩
    · exact own_monoW (rm532 l Z a0 hw ws w_CS qa kk w_DO k_w_DO w_DT k_w_DT fs rs pr f1 e1 k1 r1 e2 k2 h0 Z0 S_w_CS S_w_DO A_w_DO S_w_DT A_w_DT E_pr F_pr_file F_pr_line F_pr_reason E_f1 F_f1_coder F_f1_value V_e1 E_r1 F_r1_coder F_r1_value V_e2 hc114 hc1 (by simp only [own_gw, List.length_append, own_ds_len, List.length_cons, List.length_nil]; omega) (by simp only [own_gw, List.length_append, own_ds_len, List.length_cons, List.length_nil]; omega) hc9 (by simp only [own_gw, List.length_append, own_ds_len, List.length_cons, List.length_nil]; omega) (by simp only [own_gw, List.length_append, own_ds_len, List.length_cons, List.length_nil]; omega) (by simp only [own_gw, List.length_append, own_ds_len, List.length_cons, List.length_nil]; omega) (by simp only [own_gw, List.length_append, own_ds_len, List.length_cons, List.length_nil]; omega)) fun v h L ⟨b577, b578, k579, z1, z2, z3, s0, s1, f0, f1, f2, f3⟩ => ⟨b577, z1, z2, z3, s0, f0, b578, k579, f2, f1, f3⟩
def Qrm693 (Z : State) (p3 : Int32) (b684 b687 b689 : Addr) (h0 : Heap) (v : Option Value) (h : Heap) (L : List Loc) : Prop := v = none ∧ Fr Z.heap.size L ∧ Keep h0 h [b689] ∧ Exa Z h b689 own_cP ∧ Fld Z h b689 own_cP "file" "Ljava/lang/String;" (.ref b684) ∧ Fld Z h b689 own_cP "line" "I" (.int p3) ∧ Fld Z h b689 own_cP "reason" "Ljava/lang/String;" (.ref b687)
theorem rm693 (l : Launch) (Z : State) (a0 : Array Value) (hw : own_HW Z a0) (ws : List Jvm.Cond) (p3 : Int32) (b684 b687 b689 : Addr) (h0 : Heap) (Z0 : Ext Z.heap h0) (E_b689 : Exa Z h0 b689 own_cP) (F_b689_file : Fld Z h0 b689 own_cP "file" "Ljava/lang/String;" .null) (F_b689_line : Fld Z h0 b689 own_cP "line" "I" (.int (0 : Int32))) (F_b689_reason : Fld Z h0 b689 own_cP "reason" "Ljava/lang/String;" .null) (g_b689 : Z.heap.size ≤ b689) :
    own_met l y_44 prog_8_method_1_code 4 none ws ({ frames := 1, cells := 0, slots := 0, locals := 12 } : Room) Z #[(.ref b689), (.ref b684), (.int p3), (.ref b687)] h0 (Qrm693 Z p3 b684 b687 b689 h0) := by
  refine own_start (plainFor_of_name pn_10) (fun m => ef_prog_8_method_1_RRIR m b689 b684 p3 b687) ?_
  intro p e s m below meth c s₁ hx hby hml hown hnm X0 hZ e0 hret hlk
  have N0 := Fr.nil Z.heap.size
  obtain ⟨T694, X694, e694, st694⟩ := initO X0 hx hZ hown (own_w hw 43 rfl) (own_w hw 16 rfl) (own_w hw 17 rfl) e0 (g := (mkF m 1 #[rv b689, rv b684, iv p3, rv b687] [(.ref b689)])) rfl (by rw [hml]; rfl) rfl (hb hby d8_1) (by decide) (W := 0) (by show 2 * 0 + _ ≤ _; exact Nat.le_of_eq rfl) (by decide)
  obtain ⟨T695, h695, X695, e695, W695, st695⟩ := putF X694 hx hZ hown (host := "") (Or.inl (own_w hw 44 rfl)) Via.refl e694 F_b689_file E_b689 (Or.inr ⟨(own_w hw 45 rfl), rfl, hnm⟩) (own_w hw 38 rfl) (ty := (.object own_cS)) (by decide) rfl rfl (g := (mkF m 6 #[rv b689, rv b684, iv p3, rv b687] [(.ref b684), (.ref b689)])) rfl rfl (hb hby d8_6)
  have K695 := (Keep.refl h0 [b689]).wr W695 (Or.inl (List.mem_of_getElem? (i := 0) rfl))
  have N695 := Fr.snoc X695 N0 g_b689
  have f696_F_b689_line := (F_b689_line.other W695 (Or.inr (slot_ne (Or.inr (own_w hw 47 rfl)) (Or.inr (own_w hw 45 rfl)) (by decide) (t := .int) (t' := (.object own_cS)) (by decide) (by decide))))
  obtain ⟨T697, h697, X697, e697, W697, st697⟩ := putF X695 hx hZ hown (host := "") (Or.inl (own_w hw 46 rfl)) Via.refl e695 f696_F_b689_line (E_b689.wr W695) (Or.inr ⟨(own_w hw 47 rfl), rfl, hnm⟩) (own_w hw 38 rfl) (ty := .int) (by decide) rfl rfl (g := (mkF m 11 #[rv b689, rv b684, iv p3, rv b687] [(.int p3), (.ref b689)])) rfl rfl (hb hby d8_11)
  have K697 := K695.wr W697 (Or.inl (List.mem_of_getElem? (i := 0) rfl))
  have N697 := Fr.snoc X697 N695 g_b689
  have f698_F_b689_reason := ((F_b689_reason.other W695 (Or.inr (slot_ne (Or.inr (own_w hw 49 rfl)) (Or.inr (own_w hw 45 rfl)) (by decide) (t := (.object own_cS)) (t' := (.object own_cS)) (by decide) (by decide)))).other W697 (Or.inr (slot_ne (Or.inr (own_w hw 49 rfl)) (Or.inr (own_w hw 47 rfl)) (by decide) (t := (.object own_cS)) (t' := .int) (by decide) (by decide))))
  obtain ⟨T699, h699, X699, e699, W699, st699⟩ := putF X697 hx hZ hown (host := "") (Or.inl (own_w hw 48 rfl)) Via.refl e697 f698_F_b689_reason ((E_b689.wr W695).wr W697) (Or.inr ⟨(own_w hw 49 rfl), rfl, hnm⟩) (own_w hw 38 rfl) (ty := (.object own_cS)) (by decide) rfl rfl (g := (mkF m 16 #[rv b689, rv b684, iv p3, rv b687] [(.ref b687), (.ref b689)])) rfl rfl (hb hby d8_16)
  have K699 := K697.wr W699 (Or.inl (List.mem_of_getElem? (i := 0) rfl))
  have N699 := Fr.snoc X699 N697 g_b689
  have f700_F_b689_file := (((F_b689_file.same W695).other W697 (Or.inr (slot_ne (Or.inr (own_w hw 45 rfl)) (Or.inr (own_w hw 47 rfl)) (by decide) (t := (.object own_cS)) (t' := .int) (by decide) (by decide)))).other W699 (Or.inr (slot_ne (Or.inr (own_w hw 45 rfl)) (Or.inr (own_w hw 49 rfl)) (by decide) (t := (.object own_cS)) (t' := (.object own_cS)) (by decide) (by decide))))
  have f701_F_b689_line := ((f696_F_b689_line.same W697).other W699 (Or.inr (slot_ne (Or.inr (own_w hw 47 rfl)) (Or.inr (own_w hw 49 rfl)) (by decide) (t := .int) (t' := (.object own_cS)) (by decide) (by decide))))
  obtain ⟨_, hr, hrun, hended, hW, hsame⟩ := X699.leave (v := none) (fun _ => rfl) hlk
  refine ⟨_, _, ?_, hrun, hended, _, _, rfl, ?_, ⟨_, rfl⟩, hW, hsame.mono (by decide) (by decide)⟩
  · show own_S p e below s₁ (mkF m 0 #[rv b689, rv b684, iv p3, rv b687] []) _
    refine own_aN X0 hx hby d8_0 ?_
    refine st694 _ ?_
    refine own_aN X694 hx hby d8_4 ?_
    refine own_aN X694 hx hby d8_5 ?_
    refine st695 _ ?_
    refine own_aN X695 hx hby d8_9 ?_
    refine own_iN X695 hx hby d8_10 ?_
    refine st697 _ ?_
    refine own_aN X697 hx hby d8_14 ?_
    refine own_aN X697 hx hby d8_15 ?_
    refine st699 _ ?_
    exact X699.returnOut hx hret (hb hby d8_19) hr
  · show Qrm693 Z p3 b684 b687 b689 h0 _ T699.heap _
    rw [e699]
    exact ⟨rfl, N699, K699, (((E_b689.wr W695).wr W697).wr W699), f700_F_b689_file, f701_F_b689_line, (f698_F_b689_reason.same W699)⟩
def Qrm0_z (Z : State)  (h0 : Heap) (v : Option Value) (h : Heap) (L : List Loc) : Prop := v = some (.int 1) ∧ Fr Z.heap.size L
theorem rm0_z (l : Launch) (Z : State) (a0 : Array Value) (hw : own_HW Z a0) (ws : List Jvm.Cond) (w_CS : Int32) (w_SF : Value) (p1 p2 p3 p4 : Int32) (fs rs : List Int32) (h0 : Heap) (Z0 : Ext Z.heap h0) (S_w_CS : own_w_CS Z w_CS) (R_w_SF : w_SF.isRef = true) (S_w_SF : own_w_SF Z w_SF) (hc128 : (p4 &&& (3 : Int32)) = (Int32.ofNat fs.length)) (hc129 : (((p4.toUInt32 >>> ((2 : Int32) &&& 31).toUInt32).toInt32) &&& (3 : Int32)) = (Int32.ofNat rs.length)) (hc1 : ¬ (w_CS = (0 : Int32))) (hc130 : own_mk fs p1) (hc131 : own_mk rs p2) (hc132 : p3 = (0 : Int32)) (hc126 : fs.length ≤ 3) (hc127 : rs.length ≤ 3) (hc133 : ((Int32.ofNat fs.length) + (2 : Int32)) = (Int32.ofNat (fs.length + 2))) (hc134 : ((Int32.ofNat (fs.length + 2)) + (Int32.ofNat rs.length)) = (Int32.ofNat (own_vz fs rs).length)) (hc135 : own_sg (own_vz fs rs) 0 fs) (hc136 : own_at (own_vz fs rs) (Int32.ofNat fs.length) (58 : Int32) (58 : Int32)) (hc137 : ((Int32.ofNat fs.length) + (1 : Int32)) = (Int32.ofNat (fs.length + 1))) (hc138 : own_at (own_vz fs rs) (Int32.ofNat (fs.length + 1)) (32 : Int32) (32 : Int32)) (hc139 : own_sg (own_vz fs rs) (fs.length + 2) rs) :
    own_metW l x code maxLocals ret ws room_1 Z #[(.int p1), (.int p2), (.int p3), (.int p4)] h0 (Qrm0_z Z  h0) := by
  refine own_startW (plainFor_of_name pn_8) (fun m => ef_code_IIII m p1 p2 p3 p4) ?_
  intro p e s m below meth c s₁ hx hby hml hown hnm X0 hZ e0 hret hlk hs0 hC0
  have N0 := Fr.nil Z.heap.size
  have CR0 : CHr Z consts_1 s.vm h0 s.vm h0 := CHr.refl hC0
  have hS0 : s.Since s.vm 0 := (State.WarmedH.refl s).since 0
  have hk0 : 0 ≤ h0.size := Nat.zero_le _
  obtain ⟨_, T683, Lc683, X683, hQ683, hS683, hZ683, hown683, hC683, st683⟩ := own_staticW (y := y_40) (s := s) (vm0 := s.vm) X0 hx hZ hown (own_w hw 0 rfl) (own_w hw 1 rfl) (own_w hw 2 rfl) (own_w hw 3 rfl) (own_mkJ l Z a0 hw [] w_CS p1 fs h0 Z0 S_w_CS hc1 hc130) e0 (own_hEL hw) CR0.1 hS0 hk0 (g := (mkF m 15 #[iv p1, iv p2, iv p3, iv p4, iv (Int32.ofNat fs.length), iv (Int32.ofNat rs.length), .unset, .unset, .unset, .unset, .unset, .unset, .unset, .unset, .unset, .unset, .unset, .unset, .unset, .unset, .unset] [(.int p1), (.int (Int32.ofNat fs.length))])) (argsL := [(.int (Int32.ofNat fs.length)), (.int p1)]) (rest := []) (W := 0) (lenOf pd_31 rfl) (hb hby at_15) hml
  obtain ⟨b684, rfl, N683q, K683q, szn_b684, q683_E_b684, q683_T_b684⟩ := hQ683
  have XX683 := own_extK Z0 K683q all0
  have N683 := Fr.app N0 N683q
  have CR683 := CR0.trans hC683
  have hk683 : T683.heap.size ≤ T683.heap.size := Nat.le_refl _
  obtain ⟨h683, e683⟩ : ∃ z, T683.heap = z := ⟨_, rfl⟩
  rw [e683] at K683q XX683 CR683 hS683 hk683 q683_E_b684 q683_T_b684
  obtain ⟨a685, ka685, oV685, oC685, oA685⟩ := id q683_T_b684
  obtain ⟨_, T686, Lc686, X686, hQ686, hS686, hZ686, hown686, hC686, st686⟩ := own_staticW (y := y_40) (s := s) (vm0 := T683.vm) X683 hx hZ683 hown683 (own_w hw 0 rfl) (own_w hw 1 rfl) (own_w hw 2 rfl) (own_w hw 3 rfl) (own_mkJ l Z a0 hw [] w_CS p2 rs h683 XX683 S_w_CS hc1 hc131) e683 (own_hEL hw) CR683.1 hS683 hk683 (g := (mkF m 23 #[iv p1, iv p2, iv p3, iv p4, iv (Int32.ofNat fs.length), iv (Int32.ofNat rs.length), rv b684, .unset, .unset, .unset, .unset, .unset, .unset, .unset, .unset, .unset, .unset, .unset, .unset, .unset, .unset] [(.int p2), (.int (Int32.ofNat rs.length))])) (argsL := [(.int (Int32.ofNat rs.length)), (.int p2)]) (rest := []) (W := 0) (lenOf pd_31 rfl) (hb hby at_23) hml
  obtain ⟨b687, rfl, N686q, K686q, szn_b687, q686_E_b687, q686_T_b687⟩ := hQ686
  have XX686 := own_extK XX683 K686q all0
  have N686 := Fr.app N683 N686q
  have CR686 := CR683.trans hC686
  have hk686 : T686.heap.size ≤ T686.heap.size := Nat.le_refl _
  obtain ⟨h686, e686⟩ : ∃ z, T686.heap = z := ⟨_, rfl⟩
  rw [e686] at K686q XX686 CR686 hS686 hk686 q686_E_b687 q686_T_b687
  obtain ⟨a688, ka688, oV688, oC688, oA688⟩ := id q686_T_b687
  obtain ⟨T689, h689, X689, e689, E689, A689, D689, -, st689⟩ := newO X686 hx hZ686 hown686 (own_w hw 37 rfl) (own_w hw 38 rfl) (own_w hw 39 rfl) e686 (g := (mkF m 28 #[iv p1, iv p2, iv p3, iv p4, iv (Int32.ofNat fs.length), iv (Int32.ofNat rs.length), rv b684, rv b687, .unset, .unset, .unset, .unset, .unset, .unset, .unset, .unset, .unset, .unset, .unset, .unset, .unset] [])) rfl (hb hby at_28) (by decide) (by decide)
  obtain ⟨b689, g689⟩ : ∃ z, z = h686.size := ⟨_, rfl⟩
  rw [← g689] at A689 D689 st689
  have g_b689 := Nat.le_trans XX686.1 (Nat.le_of_eq g689.symm)
  have F_b689_file : Fld Z h689 b689 own_cP "file" "Ljava/lang/String;" .null := D689 (Or.inr (own_w hw 45 rfl)) (ty := (.object own_cS)) (by decide)
  have F_b689_line : Fld Z h689 b689 own_cP "line" "I" (.int (0 : Int32)) := D689 (Or.inr (own_w hw 47 rfl)) (ty := .int) (by decide)
  have F_b689_reason : Fld Z h689 b689 own_cP "reason" "Ljava/lang/String;" .null := D689 (Or.inr (own_w hw 49 rfl)) (ty := (.object own_cS)) (by decide)
  have XX689 := own_ext2 XX686 E689
  have CQ689 := CHr.ext E689 CR686.1
  have CR689 := CR686.trans CQ689
  have hk689 := Nat.le_trans hk686 CQ689.2.1
  have sf692_b689 : Safe Z consts_1 T686.vm h689 b689 := Safe.exa hZ686.alike A689 (by decide) (by decide)
  obtain ⟨_, T702, Lc702, X702, hQ702, st702⟩ := own_special (y := y_44) X689 hx hZ686 hown686 rfl (own_w hw 40 rfl) (own_w hw 41 rfl) (own_w hw 39 rfl) (own_w hw 42 rfl) (rm693 l Z a0 hw [] p3 b684 b687 b689 h689 XX689 A689 F_b689_file F_b689_line F_b689_reason g_b689) e689 b689 (g := (mkF m 37 #[iv p1, iv p2, iv p3, iv p4, iv (Int32.ofNat fs.length), iv (Int32.ofNat rs.length), rv b684, rv b687, .unset, .unset, .unset, .unset, .unset, .unset, .unset, .unset, .unset, .unset, .unset, .unset, .unset] [(.ref b687), (.int p3), (.ref b684), (.ref b689), (.ref b689)])) (argsL := [(.ref b684), (.int p3), (.ref b687)]) (rest := [(.ref b689)]) (W := 1) (lenOf pd_32 rfl) (hb hby at_37) hml
  obtain ⟨rfl, N702q, K702q, q702_E_b689, q702_F_b689_file, q702_F_b689_line, q702_F_b689_reason⟩ := hQ702
  have XX702 := own_extK XX689 K702q (allS g_b689 all0)
  have N702 := Fr.app N686 N702q
  have hs702 : ∀ x ∈ [b689], Safe Z consts_1 T686.vm h689 x := (allS sf692_b689 all0)
  have CQ702 := CHr.keep K702q hs702 CR689.1
  have sf702_b689 := Safe.keep K702q hs702 CR689.1 sf692_b689
  have CR702 := CR689.trans CQ702
  have hk702 := Nat.le_trans hk689 CQ702.2.1
  have ne_b684_b689 := Nat.ne_of_lt (Nat.lt_of_lt_of_le (q683_E_b684.keep K686q).lt (Nat.le_of_eq g689.symm))
  have f705_F_b684_coder := (((oC685.keep K686q nin0).ext E689).keep K702q (ninS ne_b684_b689 (nin0)))
  have f706_F_b684_value := (((oV685.keep K686q nin0).ext E689).keep K702q (ninS ne_b684_b689 (nin0)))
  have ne_a685_b689 := Nat.ne_of_lt (Nat.lt_of_lt_of_le (oA685.keep K686q nin0).lt (Nat.le_of_eq g689.symm))
  have f707_V_a685 := (((oA685.keep K686q nin0).ext E689).keep K702q (ninS ne_a685_b689 (nin0)))
  have ne_b687_b689 := Nat.ne_of_lt (Nat.lt_of_lt_of_le q686_E_b687.lt (Nat.le_of_eq g689.symm))
  have ne_a688_b689 := Nat.ne_of_lt (Nat.lt_of_lt_of_le oA688.lt (Nat.le_of_eq g689.symm))
  obtain ⟨_, T703, Lc703, X703, hQ703, hS703, hZ703, hown703, hC703, st703⟩ := own_virtualW (y := y_43) (s := s) (vm0 := T686.vm) X702 hx hZ686 hown686 (own_w hw 50 rfl) (own_w hw 51 rfl) (own_w hw 53 rfl) (own_w hw 52 rfl) (own_w hw 39 rfl) (own_w hw 54 rfl) (own_tsZ l Z a0 hw [] w_CS p3 fs rs b689 b684 a685 ka685 b687 a688 ka688 T702.heap XX702 S_w_CS q702_E_b689 q702_F_b689_file q702_F_b689_line q702_F_b689_reason (((q683_E_b684.keep K686q).ext E689).keep K702q) f705_F_b684_coder f706_F_b684_value f707_V_a685 ((q686_E_b687.ext E689).keep K702q) ((oC688.ext E689).keep K702q (ninS ne_b687_b689 (nin0))) ((oV688.ext E689).keep K702q (ninS ne_b687_b689 (nin0))) ((oA688.ext E689).keep K702q (ninS ne_a688_b689 (nin0))) hc1 hc132 hc126 hc127) rfl (own_hEL hw) CR702.1 hS686 hk702 q702_E_b689 (g := (mkF m 44 #[iv p1, iv p2, iv p3, iv p4, iv (Int32.ofNat fs.length), iv (Int32.ofNat rs.length), rv b684, rv b687, rv b689, .unset, .unset, .unset, .unset, .unset, .unset, .unset, .unset, .unset, .unset, .unset, .unset] [(.ref b689)])) (argsL := []) (rest := []) (W := 0) (lenOf pd_29 rfl) (hb hby at_44) hml
  obtain ⟨b704, rfl, N703q, K703q, szn_b704, q703_E_b704, q703_T_b704⟩ := hQ703
  have XX703 := own_extK XX702 K703q all0
  have N703 := Fr.app N702 N703q
  have sf703_b689 := hC703.safe q702_E_b689.lt sf702_b689
  have CR703 := CR702.trans hC703
  have hk703 : T703.heap.size ≤ T703.heap.size := Nat.le_refl _
  obtain ⟨h703, e703⟩ : ∃ z, T703.heap = z := ⟨_, rfl⟩
  rw [e703] at K703q XX703 CR703 hS703 hk703 sf703_b689 q703_E_b704 q703_T_b704
  obtain ⟨a708, ka708, oV708, oC708, oA708⟩ := id q703_T_b704
  have f710_E_b684 := ((((q683_E_b684.keep K686q).ext E689).keep K702q).keep K703q)
  obtain ⟨_, T713, Lc713, X713, hQ713, st713⟩ := own_virtual (y := y_12) X703 hx hZ703 hown703 (own_w hw 189 rfl) (own_w hw 84 rfl) (own_w hw 86 rfl) (own_w hw 85 rfl) (own_w hw 6 rfl) (own_w hw 87 rfl) (rm306 l Z a0 hw [] w_CS (own_vz fs rs) b704 a708 ka708 h703 XX703 S_w_CS q703_E_b704 oC708 oV708 oA708 hc1) e703 q703_E_b704 (g := (mkF m 62 (own_Lz p1 p2 p3 p4 fs rs b684 b687 b689 b704) [(.ref b704)])) (argsL := []) (rest := []) (W := 0) (lenOf pd_9 rfl) (hb hby at_62) hml
  obtain ⟨rfl, N713q, e713⟩ := hQ713
  have N713 := Fr.app N703 N713q
  obtain ⟨_, T717, Lc717, X717, hQ717, st717⟩ := own_static (y := y_32) X713 hx hZ703 hown703 (own_w hw 190 rfl) (own_w hw 191 rfl) (own_w hw 2 rfl) (own_w hw 192 rfl) (own_sgJ l Z a0 hw [] w_CS w_SF (own_vz fs rs) b704 a708 ka708 0 b684 a685 ka685 fs h703 XX703 S_w_CS R_w_SF S_w_SF q703_E_b704 oC708 oV708 oA708 f710_E_b684 (f705_F_b684_coder.keep K703q nin0) (f706_F_b684_value.keep K703q nin0) (f707_V_a685.keep K703q nin0) hc1 hc135) e713 (g := (mkF m 82 (own_Lz p1 p2 p3 p4 fs rs b684 b687 b689 b704) [(.ref b684), (.int (0 : Int32)), (.ref b704)])) (argsL := [(.ref b704), (.int (0 : Int32)), (.ref b684)]) (rest := []) (W := 0) (lenOf pd_33 rfl) (hb hby at_82) hml
  obtain ⟨rfl, N717q, e717⟩ := hQ717
  have N717 := Fr.app N713 N717q
  obtain ⟨_, T721, Lc721, X721, hQ721, st721⟩ := own_virtual (y := y_31) X717 hx hZ703 hown703 (own_w hw 193 rfl) (own_w hw 194 rfl) (own_w hw 196 rfl) (own_w hw 195 rfl) (own_w hw 6 rfl) (own_w hw 197 rfl) (rm310 l Z a0 hw [] w_CS w_SF (Int32.ofNat fs.length) (own_vz fs rs) b704 a708 ka708 (58 : Int32) (58 : Int32) h703 XX703 S_w_CS S_w_SF R_w_SF q703_E_b704 oC708 oV708 oA708 hc1 hc136) e717 q703_E_b704 (g := (mkF m 92 (own_Lz p1 p2 p3 p4 fs rs b684 b687 b689 b704) [(.int (Int32.ofNat fs.length)), (.ref b704)])) (argsL := [(.int (Int32.ofNat fs.length))]) (rest := []) (W := 0) (lenOf pd_21 rfl) (hb hby at_92) hml
  obtain ⟨rfl, N721q, e721⟩ := hQ721
  have N721 := Fr.app N717 N721q
  obtain ⟨_, T725, Lc725, X725, hQ725, st725⟩ := own_virtual (y := y_31) X721 hx hZ703 hown703 (own_w hw 193 rfl) (own_w hw 194 rfl) (own_w hw 196 rfl) (own_w hw 195 rfl) (own_w hw 6 rfl) (own_w hw 197 rfl) (rm310 l Z a0 hw [] w_CS w_SF (Int32.ofNat (fs.length + 1)) (own_vz fs rs) b704 a708 ka708 (32 : Int32) (32 : Int32) h703 XX703 S_w_CS S_w_SF R_w_SF q703_E_b704 oC708 oV708 oA708 hc1 hc138) e721 q703_E_b704 (g := (mkF m 106 (own_Lz p1 p2 p3 p4 fs rs b684 b687 b689 b704) [(.int (Int32.ofNat (fs.length + 1))), (.ref b704)])) (argsL := [(.int (Int32.ofNat (fs.length + 1)))]) (rest := []) (W := 0) (lenOf pd_21 rfl) (hb hby at_106) hml
  obtain ⟨rfl, N725q, e725⟩ := hQ725
  have N725 := Fr.app N721 N725q
  have f730_F_b687_coder := (((oC688.ext E689).keep K702q (ninS ne_b687_b689 (nin0))).keep K703q nin0)
  have f731_F_b687_value := (((oV688.ext E689).keep K702q (ninS ne_b687_b689 (nin0))).keep K703q nin0)
  have f732_V_a688 := (((oA688.ext E689).keep K702q (ninS ne_a688_b689 (nin0))).keep K703q nin0)
  obtain ⟨_, T729, Lc729, X729, hQ729, st729⟩ := own_static (y := y_32) X725 hx hZ703 hown703 (own_w hw 190 rfl) (own_w hw 191 rfl) (own_w hw 2 rfl) (own_w hw 192 rfl) (own_sgJ l Z a0 hw [] w_CS w_SF (own_vz fs rs) b704 a708 ka708 (fs.length + 2) b687 a688 ka688 rs h703 XX703 S_w_CS R_w_SF S_w_SF q703_E_b704 oC708 oV708 oA708 (((q686_E_b687.ext E689).keep K702q).keep K703q) f730_F_b687_coder f731_F_b687_value f732_V_a688 hc1 hc139) e725 (g := (mkF m 122 (own_Lz p1 p2 p3 p4 fs rs b684 b687 b689 b704) [(.ref b687), (.int (Int32.ofNat (fs.length + 2))), (.ref b704)])) (argsL := [(.ref b704), (.int (Int32.ofNat (fs.length + 2))), (.ref b687)]) (rest := []) (W := 0) (lenOf pd_33 rfl) (hb hby at_122) hml
  obtain ⟨rfl, N729q, e729⟩ := hQ729
  have N729 := Fr.app N725 N729q
  obtain ⟨_, hr, hrun, hended, hend⟩ := leaveW (s := s) (vm₁ := T703.vm) X729 hS703 (by rw [e729]; exact hk703) (v := some (.int (1 : Int32))) (fun h => by rw [hret] at h; cases h) hlk
  refine ⟨_, _, ?_, hrun, hended, _, _, rfl, ?_, ?_, hend.1, hend.2.1, hend.2.2.1, hend.2.2.2.mono (by decide) (by decide)⟩
  · show own_S p e below s₁ (mkF m 0 #[iv p1, iv p2, iv p3, iv p4, .unset, .unset, .unset, .unset, .unset, .unset, .unset, .unset, .unset, .unset, .unset, .unset, .unset, .unset, .unset, .unset, .unset] []) _
    refine own_iN X0 hx hby at_0 ?_
    refine own_k X0 hx hby at_1 ?_
    refine XS.iand X0.here hx rfl (hb hby at_2) rfl ?_
    show own_S p e below s₁ (mkF m 3 #[iv p1, iv p2, iv p3, iv p4, .unset, .unset, .unset, .unset, .unset, .unset, .unset, .unset, .unset, .unset, .unset, .unset, .unset, .unset, .unset, .unset, .unset] [(.int (p4 &&& (3 : Int32)))]) _
    rw [hc128]
    refine XS.istore X0.here hx rfl (hb hby at_3) rfl (l' := #[iv p1, iv p2, iv p3, iv p4, iv (Int32.ofNat fs.length), .unset, .unset, .unset, .unset, .unset, .unset, .unset, .unset, .unset, .unset, .unset, .unset, .unset, .unset, .unset, .unset]) rfl ?_
    refine own_iN X0 hx hby at_5 ?_
    refine own_k X0 hx hby at_6 ?_
    refine XS.iushr X0.here hx rfl (hb hby at_7) rfl ?_
    refine own_k X0 hx hby at_8 ?_
    refine XS.iand X0.here hx rfl (hb hby at_9) rfl ?_
    show own_S p e below s₁ (mkF m 10 #[iv p1, iv p2, iv p3, iv p4, iv (Int32.ofNat fs.length), .unset, .unset, .unset, .unset, .unset, .unset, .unset, .unset, .unset, .unset, .unset, .unset, .unset, .unset, .unset, .unset] [(.int (((p4.toUInt32 >>> ((2 : Int32) &&& 31).toUInt32).toInt32) &&& (3 : Int32)))]) _
    rw [hc129]
    refine XS.istore X0.here hx rfl (hb hby at_10) rfl (l' := #[iv p1, iv p2, iv p3, iv p4, iv (Int32.ofNat fs.length), iv (Int32.ofNat rs.length), .unset, .unset, .unset, .unset, .unset, .unset, .unset, .unset, .unset, .unset, .unset, .unset, .unset, .unset, .unset]) rfl ?_
    refine own_i X0 hx hby at_12 ?_
    refine own_iN X0 hx hby at_14 ?_
    refine st683 _ ?_
    refine XS.astore X683.here hx rfl (hb hby at_18) rfl rfl (l' := #[iv p1, iv p2, iv p3, iv p4, iv (Int32.ofNat fs.length), iv (Int32.ofNat rs.length), rv b684, .unset, .unset, .unset, .unset, .unset, .unset, .unset, .unset, .unset, .unset, .unset, .unset, .unset, .unset]) rfl ?_
    refine own_i X683 hx hby at_20 ?_
    refine own_iN X683 hx hby at_22 ?_
    refine st686 _ ?_
    refine XS.astore X686.here hx rfl (hb hby at_26) rfl rfl (l' := #[iv p1, iv p2, iv p3, iv p4, iv (Int32.ofNat fs.length), iv (Int32.ofNat rs.length), rv b684, rv b687, .unset, .unset, .unset, .unset, .unset, .unset, .unset, .unset, .unset, .unset, .unset, .unset, .unset]) rfl ?_
    refine st689 _ ?_
    refine XS.dup X689.here hx rfl (hb hby at_31) rfl rfl ?_
    refine own_a X689 hx hby at_32 ?_
    refine own_iN X689 hx hby at_34 ?_
    refine own_a X689 hx hby at_35 ?_
    refine st702 _ ?_
    refine XS.astore X702.here hx rfl (hb hby at_40) rfl rfl (l' := #[iv p1, iv p2, iv p3, iv p4, iv (Int32.ofNat fs.length), iv (Int32.ofNat rs.length), rv b684, rv b687, rv b689, .unset, .unset, .unset, .unset, .unset, .unset, .unset, .unset, .unset, .unset, .unset, .unset]) rfl ?_
    refine own_a X702 hx hby at_42 ?_
    refine st703 _ ?_
    refine XS.astore X703.here hx rfl (hb hby at_47) rfl rfl (l' := (own_Lz p1 p2 p3 p4 fs rs b684 b687 b689 b704)) rfl ?_
    refine own_a X703 hx hby at_49 ?_
    refine XS.ifnonnullYes X703.here hx rfl (pc0 := 51) (pc' := 56) rfl (hb hby at_51) rfl (by decide) (by decide) ?_
    refine own_iN X703 hx hby at_56 ?_
    refine own_in X703 hx hby at_57 (teq hc132).2 ?_
    refine own_a X703 hx hby at_60 ?_
    refine st713 _ ?_
    refine own_i X713 hx hby at_65 ?_
    refine own_k X713 hx hby at_67 ?_
    refine XS.iadd X713.here hx rfl (hb hby at_68) rfl ?_
    show own_S p e below T713 (mkF m 69 (own_Lz p1 p2 p3 p4 fs rs b684 b687 b689 b704) [(.int ((Int32.ofNat fs.length) + (2 : Int32))), (.int (Int32.ofNat (own_vz fs rs).length))]) _
    rw [hc133]
    refine own_i X713 hx hby at_69 ?_
    refine XS.iadd X713.here hx rfl (hb hby at_71) rfl ?_
    show own_S p e below T713 (mkF m 72 (own_Lz p1 p2 p3 p4 fs rs b684 b687 b689 b704) [(.int ((Int32.ofNat (fs.length + 2)) + (Int32.ofNat rs.length))), (.int (Int32.ofNat (own_vz fs rs).length))]) _
    rw [hc134]
    refine own_cy (pc := 72) X713 hx hby at_72 (teq (rfl : (Int32.ofNat (own_vz fs rs).length) = (Int32.ofNat (own_vz fs rs).length))).1 77 ?_
    refine own_a X713 hx hby at_77 ?_
    refine own_k X713 hx hby at_79 ?_
    refine own_a X713 hx hby at_80 ?_
    refine st717 _ ?_
    refine own_in X717 hx hby at_85 (feq (by decide : ¬ ((1 : Int32) = (0 : Int32)))).1 ?_
    refine own_a X717 hx hby at_88 ?_
    refine own_i X717 hx hby at_90 ?_
    refine st721 _ ?_
    refine XS.bipush X721.here hx rfl (hb hby at_95) ?_
    refine own_cn X721 hx hby at_97 (teq (rfl : (58 : Int32) = (58 : Int32))).2 ?_
    refine own_a X721 hx hby at_100 ?_
    refine own_i X721 hx hby at_102 ?_
    refine own_k X721 hx hby at_104 ?_
    refine XS.iadd X721.here hx rfl (hb hby at_105) rfl ?_
    show own_S p e below T721 (mkF m 106 (own_Lz p1 p2 p3 p4 fs rs b684 b687 b689 b704) [(.int ((Int32.ofNat fs.length) + (1 : Int32))), (.ref b704)]) _
    rw [hc137]
    refine st725 _ ?_
    refine XS.bipush X725.here hx rfl (hb hby at_109) ?_
    refine own_cn X725 hx hby at_111 (teq (rfl : (32 : Int32) = (32 : Int32))).2 ?_
    refine own_a X725 hx hby at_114 ?_
    refine own_i X725 hx hby at_116 ?_
    refine own_k X725 hx hby at_118 ?_
    refine XS.iadd X725.here hx rfl (hb hby at_119) rfl ?_
    show own_S p e below T725 (mkF m 120 (own_Lz p1 p2 p3 p4 fs rs b684 b687 b689 b704) [(.int ((Int32.ofNat fs.length) + (2 : Int32))), (.ref b704)]) _
    rw [hc133]
    refine own_a X725 hx hby at_120 ?_
    refine st729 _ ?_
    refine own_in X729 hx hby at_125 (feq (by decide : ¬ ((1 : Int32) = (0 : Int32)))).1 ?_
    refine own_k X729 hx hby at_128 ?_
    refine own_go (pc := 129) X729 hx hby at_129 133 ?_
    exact retN X729 hx (t := .boolean) hret (by simp) (hb hby at_133) hr
  · show Qrm0_z Z  h0 _ T729.heap _
    exact ⟨rfl, N729⟩
  · rw [hs0]
    show CHr Z consts_1 s.vm h0 T729.vm T729.heap
    rw [e729]
    exact CR703.trans (CHv.at (s := s) (vm0 := T703.vm) X729 hZ703 (own_hEL hw) CR703.1)
def Qrm0_p (Z : State)  (h0 : Heap) (v : Option Value) (h : Heap) (L : List Loc) : Prop := v = some (.int 1) ∧ Fr Z.heap.size L
theorem rm0_p (l : Launch) (Z : State) (a0 : Array Value) (hw : own_HW Z a0) (ws : List Jvm.Cond) (w_CS : Int32) (w_SF : Value) (p1 p2 p3 p4 : Int32) (kk : Nat) (w_DO : Addr) (k_w_DO : ClassId) (w_DT : Addr) (k_w_DT : ClassId) (mm : Int64) (fs rs : List Int32) (h0 : Heap) (Z0 : Ext Z.heap h0) (S_w_CS : own_w_CS Z w_CS) (S_w_DO : own_Sw_DO Z w_DO) (A_w_DO : Arv Z Z.heap w_DO k_w_DO .byte (100 : Int32) own_ones (.int (0 : Int32))) (S_w_DT : own_Sw_DT Z w_DT) (A_w_DT : Arv Z Z.heap w_DT k_w_DT .byte (100 : Int32) own_tens (.int (0 : Int32))) (R_w_SF : w_SF.isRef = true) (S_w_SF : own_w_SF Z w_SF) (hc128 : (p4 &&& (3 : Int32)) = (Int32.ofNat fs.length)) (hc129 : (((p4.toUInt32 >>> ((2 : Int32) &&& 31).toUInt32).toInt32) &&& (3 : Int32)) = (Int32.ofNat rs.length)) (hc1 : ¬ (w_CS = (0 : Int32))) (hc130 : own_mk fs p1) (hc131 : own_mk rs p2) (hc140 : ¬ (p3 = (0 : Int32))) (hc141 : own_nd p3 kk) (hc126 : fs.length ≤ 3) (hc127 : rs.length ≤ 3) (hc142 : (p3.toInt64) = mm) (hc143 : ¬ ((lcmpW mm (0 : Int64)) < (0 : Int32))) (hc79 : own_nm mm kk) (hc137 : ((Int32.ofNat fs.length) + (1 : Int32)) = (Int32.ofNat (fs.length + 1))) (hc144 : ((Int32.ofNat (fs.length + 1)) + (0 : Int32)) = (Int32.ofNat (fs.length + 1))) (hc145 : ((Int32.ofNat (fs.length + 1)) + (Int32.ofNat kk)) = (Int32.ofNat (fs.length + 1 + kk))) (hc146 : ((Int32.ofNat (fs.length + 1 + kk)) + (2 : Int32)) = (Int32.ofNat (fs.length + 1 + kk + 2))) (hc147 : ((Int32.ofNat (fs.length + 1 + kk + 2)) + (Int32.ofNat rs.length)) = (Int32.ofNat (own_vn fs p3 kk rs).length)) (hc148 : own_sg (own_vn fs p3 kk rs) 0 fs) (hc149 : own_at (own_vn fs p3 kk rs) (Int32.ofNat fs.length) (58 : Int32) (58 : Int32)) (hc150 : own_sub (own_vn fs p3 kk rs) (fs.length + 1) kk mm) (hc151 : own_at (own_vn fs p3 kk rs) (Int32.ofNat (fs.length + 1 + kk)) (58 : Int32) (58 : Int32)) (hc152 : ((Int32.ofNat (fs.length + 1 + kk)) + (1 : Int32)) = (Int32.ofNat (fs.length + 1 + kk + 1))) (hc153 : own_at (own_vn fs p3 kk rs) (Int32.ofNat (fs.length + 1 + kk + 1)) (32 : Int32) (32 : Int32)) (hc154 : own_sg (own_vn fs p3 kk rs) (fs.length + 1 + kk + 2) rs) :
    own_metW l x code maxLocals ret ws room_1 Z #[(.int p1), (.int p2), (.int p3), (.int p4)] h0 (Qrm0_p Z  h0) := by
  refine own_startW (plainFor_of_name pn_8) (fun m => ef_code_IIII m p1 p2 p3 p4) ?_
  intro p e s m below meth c s₁ hx hby hml hown hnm X0 hZ e0 hret hlk hs0 hC0
  have N0 := Fr.nil Z.heap.size
  have CR0 : CHr Z consts_1 s.vm h0 s.vm h0 := CHr.refl hC0
  have hS0 : s.Since s.vm 0 := (State.WarmedH.refl s).since 0
  have hk0 : 0 ≤ h0.size := Nat.zero_le _
  obtain ⟨_, T733, Lc733, X733, hQ733, hS733, hZ733, hown733, hC733, st733⟩ := own_staticW (y := y_40) (s := s) (vm0 := s.vm) X0 hx hZ hown (own_w hw 0 rfl) (own_w hw 1 rfl) (own_w hw 2 rfl) (own_w hw 3 rfl) (own_mkJ l Z a0 hw [] w_CS p1 fs h0 Z0 S_w_CS hc1 hc130) e0 (own_hEL hw) CR0.1 hS0 hk0 (g := (mkF m 15 #[iv p1, iv p2, iv p3, iv p4, iv (Int32.ofNat fs.length), iv (Int32.ofNat rs.length), .unset, .unset, .unset, .unset, .unset, .unset, .unset, .unset, .unset, .unset, .unset, .unset, .unset, .unset, .unset] [(.int p1), (.int (Int32.ofNat fs.length))])) (argsL := [(.int (Int32.ofNat fs.length)), (.int p1)]) (rest := []) (W := 0) (lenOf pd_31 rfl) (hb hby at_15) hml
  obtain ⟨b734, rfl, N733q, K733q, szn_b734, q733_E_b734, q733_T_b734⟩ := hQ733
  have XX733 := own_extK Z0 K733q all0
  have N733 := Fr.app N0 N733q
  have CR733 := CR0.trans hC733
  have hk733 : T733.heap.size ≤ T733.heap.size := Nat.le_refl _
  obtain ⟨h733, e733⟩ : ∃ z, T733.heap = z := ⟨_, rfl⟩
  rw [e733] at K733q XX733 CR733 hS733 hk733 q733_E_b734 q733_T_b734
  obtain ⟨a735, ka735, oV735, oC735, oA735⟩ := id q733_T_b734
  obtain ⟨_, T736, Lc736, X736, hQ736, hS736, hZ736, hown736, hC736, st736⟩ := own_staticW (y := y_40) (s := s) (vm0 := T733.vm) X733 hx hZ733 hown733 (own_w hw 0 rfl) (own_w hw 1 rfl) (own_w hw 2 rfl) (own_w hw 3 rfl) (own_mkJ l Z a0 hw [] w_CS p2 rs h733 XX733 S_w_CS hc1 hc131) e733 (own_hEL hw) CR733.1 hS733 hk733 (g := (mkF m 23 #[iv p1, iv p2, iv p3, iv p4, iv (Int32.ofNat fs.length), iv (Int32.ofNat rs.length), rv b734, .unset, .unset, .unset, .unset, .unset, .unset, .unset, .unset, .unset, .unset, .unset, .unset, .unset, .unset] [(.int p2), (.int (Int32.ofNat rs.length))])) (argsL := [(.int (Int32.ofNat rs.length)), (.int p2)]) (rest := []) (W := 0) (lenOf pd_31 rfl) (hb hby at_23) hml
  obtain ⟨b737, rfl, N736q, K736q, szn_b737, q736_E_b737, q736_T_b737⟩ := hQ736
  have XX736 := own_extK XX733 K736q all0
  have N736 := Fr.app N733 N736q
  have CR736 := CR733.trans hC736
  have hk736 : T736.heap.size ≤ T736.heap.size := Nat.le_refl _
  obtain ⟨h736, e736⟩ : ∃ z, T736.heap = z := ⟨_, rfl⟩
  rw [e736] at K736q XX736 CR736 hS736 hk736 q736_E_b737 q736_T_b737
  obtain ⟨a738, ka738, oV738, oC738, oA738⟩ := id q736_T_b737
  obtain ⟨T739, h739, X739, e739, E739, A739, D739, -, st739⟩ := newO X736 hx hZ736 hown736 (own_w hw 37 rfl) (own_w hw 38 rfl) (own_w hw 39 rfl) e736 (g := (mkF m 28 #[iv p1, iv p2, iv p3, iv p4, iv (Int32.ofNat fs.length), iv (Int32.ofNat rs.length), rv b734, rv b737, .unset, .unset, .unset, .unset, .unset, .unset, .unset, .unset, .unset, .unset, .unset, .unset, .unset] [])) rfl (hb hby at_28) (by decide) (by decide)
  obtain ⟨b739, g739⟩ : ∃ z, z = h736.size := ⟨_, rfl⟩
  rw [← g739] at A739 D739 st739
  have g_b739 := Nat.le_trans XX736.1 (Nat.le_of_eq g739.symm)
  have F_b739_file : Fld Z h739 b739 own_cP "file" "Ljava/lang/String;" .null := D739 (Or.inr (own_w hw 45 rfl)) (ty := (.object own_cS)) (by decide)
  have F_b739_line : Fld Z h739 b739 own_cP "line" "I" (.int (0 : Int32)) := D739 (Or.inr (own_w hw 47 rfl)) (ty := .int) (by decide)
  have F_b739_reason : Fld Z h739 b739 own_cP "reason" "Ljava/lang/String;" .null := D739 (Or.inr (own_w hw 49 rfl)) (ty := (.object own_cS)) (by decide)
  have XX739 := own_ext2 XX736 E739
  have CQ739 := CHr.ext E739 CR736.1
  have CR739 := CR736.trans CQ739
  have hk739 := Nat.le_trans hk736 CQ739.2.1
  have sf742_b739 : Safe Z consts_1 T736.vm h739 b739 := Safe.exa hZ736.alike A739 (by decide) (by decide)
  obtain ⟨_, T743, Lc743, X743, hQ743, st743⟩ := own_special (y := y_44) X739 hx hZ736 hown736 rfl (own_w hw 40 rfl) (own_w hw 41 rfl) (own_w hw 39 rfl) (own_w hw 42 rfl) (rm693 l Z a0 hw [] p3 b734 b737 b739 h739 XX739 A739 F_b739_file F_b739_line F_b739_reason g_b739) e739 b739 (g := (mkF m 37 #[iv p1, iv p2, iv p3, iv p4, iv (Int32.ofNat fs.length), iv (Int32.ofNat rs.length), rv b734, rv b737, .unset, .unset, .unset, .unset, .unset, .unset, .unset, .unset, .unset, .unset, .unset, .unset, .unset] [(.ref b737), (.int p3), (.ref b734), (.ref b739), (.ref b739)])) (argsL := [(.ref b734), (.int p3), (.ref b737)]) (rest := [(.ref b739)]) (W := 1) (lenOf pd_32 rfl) (hb hby at_37) hml
  obtain ⟨rfl, N743q, K743q, q743_E_b739, q743_F_b739_file, q743_F_b739_line, q743_F_b739_reason⟩ := hQ743
  have XX743 := own_extK XX739 K743q (allS g_b739 all0)
  have N743 := Fr.app N736 N743q
  have hs743 : ∀ x ∈ [b739], Safe Z consts_1 T736.vm h739 x := (allS sf742_b739 all0)
  have CQ743 := CHr.keep K743q hs743 CR739.1
  have sf743_b739 := Safe.keep K743q hs743 CR739.1 sf742_b739
  have CR743 := CR739.trans CQ743
  have hk743 := Nat.le_trans hk739 CQ743.2.1
  have ne_b734_b739 := Nat.ne_of_lt (Nat.lt_of_lt_of_le (q733_E_b734.keep K736q).lt (Nat.le_of_eq g739.symm))
  have f746_F_b734_coder := (((oC735.keep K736q nin0).ext E739).keep K743q (ninS ne_b734_b739 (nin0)))
  have f747_F_b734_value := (((oV735.keep K736q nin0).ext E739).keep K743q (ninS ne_b734_b739 (nin0)))
  have ne_a735_b739 := Nat.ne_of_lt (Nat.lt_of_lt_of_le (oA735.keep K736q nin0).lt (Nat.le_of_eq g739.symm))
  have f748_V_a735 := (((oA735.keep K736q nin0).ext E739).keep K743q (ninS ne_a735_b739 (nin0)))
  have ne_b737_b739 := Nat.ne_of_lt (Nat.lt_of_lt_of_le q736_E_b737.lt (Nat.le_of_eq g739.symm))
  have ne_a738_b739 := Nat.ne_of_lt (Nat.lt_of_lt_of_le oA738.lt (Nat.le_of_eq g739.symm))
  obtain ⟨_, T744, Lc744, X744, hQ744, hS744, hZ744, hown744, hC744, st744⟩ := own_virtualW (y := y_43) (s := s) (vm0 := T736.vm) X743 hx hZ736 hown736 (own_w hw 50 rfl) (own_w hw 51 rfl) (own_w hw 53 rfl) (own_w hw 52 rfl) (own_w hw 39 rfl) (own_w hw 54 rfl) (own_tsN l Z a0 hw [] w_CS p3 kk w_DO k_w_DO w_DT k_w_DT fs rs b739 b734 a735 ka735 b737 a738 ka738 T743.heap XX743 S_w_CS S_w_DO A_w_DO S_w_DT A_w_DT q743_E_b739 q743_F_b739_file q743_F_b739_line q743_F_b739_reason (((q733_E_b734.keep K736q).ext E739).keep K743q) f746_F_b734_coder f747_F_b734_value f748_V_a735 ((q736_E_b737.ext E739).keep K743q) ((oC738.ext E739).keep K743q (ninS ne_b737_b739 (nin0))) ((oV738.ext E739).keep K743q (ninS ne_b737_b739 (nin0))) ((oA738.ext E739).keep K743q (ninS ne_a738_b739 (nin0))) hc1 hc140 hc141 hc126 hc127) rfl (own_hEL hw) CR743.1 hS736 hk743 q743_E_b739 (g := (mkF m 44 #[iv p1, iv p2, iv p3, iv p4, iv (Int32.ofNat fs.length), iv (Int32.ofNat rs.length), rv b734, rv b737, rv b739, .unset, .unset, .unset, .unset, .unset, .unset, .unset, .unset, .unset, .unset, .unset, .unset] [(.ref b739)])) (argsL := []) (rest := []) (W := 0) (lenOf pd_29 rfl) (hb hby at_44) hml
  obtain ⟨b745, rfl, N744q, K744q, szn_b745, q744_E_b745, q744_T_b745⟩ := hQ744
  have XX744 := own_extK XX743 K744q all0
  have N744 := Fr.app N743 N744q
  have sf744_b739 := hC744.safe q743_E_b739.lt sf743_b739
  have CR744 := CR743.trans hC744
  have hk744 : T744.heap.size ≤ T744.heap.size := Nat.le_refl _
  obtain ⟨h744, e744⟩ : ∃ z, T744.heap = z := ⟨_, rfl⟩
  rw [e744] at K744q XX744 CR744 hS744 hk744 sf744_b739 q744_E_b745 q744_T_b745
  obtain ⟨a749, ka749, oV749, oC749, oA749⟩ := id q744_T_b745
  have f751_E_b734 := ((((q733_E_b734.keep K736q).ext E739).keep K743q).keep K744q)
  obtain ⟨_, T754, Lc754, X754, hQ754, st754⟩ := own_static (y := y_33) X744 hx hZ744 hown744 (own_w hw 185 rfl) (own_w hw 186 rfl) (own_w hw 2 rfl) (own_w hw 187 rfl) (own_ndJ l Z a0 hw [] mm kk h744 XX744 hc79) e744 (g := (mkF m 169 #[iv p1, iv p2, iv p3, iv p4, iv (Int32.ofNat fs.length), iv (Int32.ofNat rs.length), rv b734, rv b737, rv b739, rv b745, .val (.long mm), .second, iv (0 : Int32), .val (.long mm), .second, .unset, .unset, .unset, .unset, .unset, .unset] [(.long mm)])) (argsL := [(.long mm)]) (rest := []) (W := 0) (lenOf pd_34 rfl) (hb hby at_169) hml
  obtain ⟨rfl, N754q, e754⟩ := hQ754
  have N754 := Fr.app N744 N754q
  obtain ⟨_, T758, Lc758, X758, hQ758, st758⟩ := own_virtual (y := y_12) X754 hx hZ744 hown744 (own_w hw 189 rfl) (own_w hw 84 rfl) (own_w hw 86 rfl) (own_w hw 85 rfl) (own_w hw 6 rfl) (own_w hw 87 rfl) (rm306 l Z a0 hw [] w_CS (own_vn fs p3 kk rs) b745 a749 ka749 h744 XX744 S_w_CS q744_E_b745 oC749 oV749 oA749 hc1) e754 q744_E_b745 (g := (mkF m 200 (own_Lp p1 p2 p3 p4 fs rs kk mm b734 b737 b739 b745 .unset .unset .unset) [(.ref b745)])) (argsL := []) (rest := []) (W := 0) (lenOf pd_9 rfl) (hb hby at_200) hml
  obtain ⟨rfl, N758q, e758⟩ := hQ758
  have N758 := Fr.app N754 N758q
  obtain ⟨_, T762, Lc762, X762, hQ762, st762⟩ := own_static (y := y_32) X758 hx hZ744 hown744 (own_w hw 190 rfl) (own_w hw 191 rfl) (own_w hw 2 rfl) (own_w hw 192 rfl) (own_sgJ l Z a0 hw [] w_CS w_SF (own_vn fs p3 kk rs) b745 a749 ka749 0 b734 a735 ka735 fs h744 XX744 S_w_CS R_w_SF S_w_SF q744_E_b745 oC749 oV749 oA749 f751_E_b734 (f746_F_b734_coder.keep K744q nin0) (f747_F_b734_value.keep K744q nin0) (f748_V_a735.keep K744q nin0) hc1 hc148) e758 (g := (mkF m 220 (own_Lp p1 p2 p3 p4 fs rs kk mm b734 b737 b739 b745 .unset .unset .unset) [(.ref b734), (.int (0 : Int32)), (.ref b745)])) (argsL := [(.ref b745), (.int (0 : Int32)), (.ref b734)]) (rest := []) (W := 0) (lenOf pd_33 rfl) (hb hby at_220) hml
  obtain ⟨rfl, N762q, e762⟩ := hQ762
  have N762 := Fr.app N758 N762q
  obtain ⟨_, T766, Lc766, X766, hQ766, st766⟩ := own_virtual (y := y_31) X762 hx hZ744 hown744 (own_w hw 193 rfl) (own_w hw 194 rfl) (own_w hw 196 rfl) (own_w hw 195 rfl) (own_w hw 6 rfl) (own_w hw 197 rfl) (rm310 l Z a0 hw [] w_CS w_SF (Int32.ofNat fs.length) (own_vn fs p3 kk rs) b745 a749 ka749 (58 : Int32) (58 : Int32) h744 XX744 S_w_CS S_w_SF R_w_SF q744_E_b745 oC749 oV749 oA749 hc1 hc149) e762 q744_E_b745 (g := (mkF m 232 (own_Lp p1 p2 p3 p4 fs rs kk mm b734 b737 b739 b745 .unset .unset .unset) [(.int (Int32.ofNat fs.length)), (.ref b745)])) (argsL := [(.int (Int32.ofNat fs.length))]) (rest := []) (W := 0) (lenOf pd_21 rfl) (hb hby at_232) hml
  obtain ⟨rfl, N766q, e766⟩ := hQ766
  have N766 := Fr.app N762 N766q
  obtain ⟨T767, h767, k767, X767, e767, E767, A767, EX767, st767⟩ := newPE X766 hx hZ744 (own_w hw 215 rfl) e766 (g := (mkF m 274 (own_Lp p1 p2 p3 p4 fs rs kk mm b734 b737 b739 b745 (iv (Int32.ofNat (fs.length + 1))) .unset .unset) [(.int (10 : Int32))])) rfl (hb hby at_274) rfl (by decide) (cap := 10) (by decide) (by decide) (by decide) (by decide) (ad := "[J") (by decide)
  obtain ⟨b767, g767⟩ : ∃ z, z = h744.size := ⟨_, rfl⟩
  rw [← g767] at A767 EX767 st767
  have g_b767 := Nat.le_trans XX744.1 (Nat.le_of_eq g767.symm)
  have V_b767 : Arv Z h767 b767 k767 .long (10 : Int32) [(.long (0 : Int64)), (.long (0 : Int64)), (.long (0 : Int64)), (.long (0 : Int64)), (.long (0 : Int64)), (.long (0 : Int64)), (.long (0 : Int64)), (.long (0 : Int64)), (.long (0 : Int64)), (.long (0 : Int64))] (.long (0 : Int64)) := (Arv.new A767 (by decide)).pad (pad_rep [] (.long (0 : Int64)) 10)
  have XX767 := own_ext2 XX744 E767
  have CQ767 := CHr.ext E767 CR744.1
  have CR767 := CR744.trans CQ767
  have hk767 := Nat.le_trans hk744 CQ767.2.1
  have sf768_b767 : Safe Z consts_1 T744.vm h767 b767 := Safe.exa hZ744.alike EX767 (by decide) (by decide)
  obtain ⟨cl769, Ar769, q769, S769, Nn769, H769, G769⟩ := id V_b767
  have hin769 : ¬ ((0 : Int32) < 0 ∨ cl769.slots.size ≤ ((0 : Int32)).toNatClampNeg) := inb_of S769 ⟨by decide, by decide⟩
  obtain ⟨T770, h770, X770, e770, W770, st770⟩ := stJ X767 hx hZ744 e767 Ar769 (j := (0 : Int32)) hin769 (g := (mkF m 279 (own_Lp p1 p2 p3 p4 fs rs kk mm b734 b737 b739 b745 (iv (Int32.ofNat (fs.length + 1))) .unset .unset) [(.long (1 : Int64)), (.int (0 : Int32)), (.ref b767), (.ref b767)])) rfl rfl (hb hby at_279)
  have V770 : Arv Z h770 b767 k767 .long (10 : Int32) [(.long (1 : Int64)), (.long (0 : Int64)), (.long (0 : Int64)), (.long (0 : Int64)), (.long (0 : Int64)), (.long (0 : Int64)), (.long (0 : Int64)), (.long (0 : Int64)), (.long (0 : Int64)), (.long (0 : Int64))] (.long (0 : Int64)) := Arv.set Ar769 q769 S769 Nn769 H769 G769 rfl W770 0 rfl (Nat.le_of_ble_eq_true rfl)
  have XX770 := own_extW XX767 W770 g_b767
  have N770 := Fr.snoc X770 N766 g_b767
  have CQ770 := CHr.wr W770 sf768_b767 CR767.1
  have sf770_b767 := Safe.wr W770 sf768_b767 CR767.1 sf768_b767
  have CR770 := CR767.trans CQ770
  have hk770 := Nat.le_trans hk767 CQ770.2.1
  obtain ⟨cl771, Ar771, q771, S771, Nn771, H771, G771⟩ := id V770
  have hin771 : ¬ ((1 : Int32) < 0 ∨ cl771.slots.size ≤ ((1 : Int32)).toNatClampNeg) := inb_of S771 ⟨by decide, by decide⟩
  obtain ⟨T772, h772, X772, e772, W772, st772⟩ := stJ X770 hx hZ744 e770 Ar771 (j := (1 : Int32)) hin771 (g := (mkF m 285 (own_Lp p1 p2 p3 p4 fs rs kk mm b734 b737 b739 b745 (iv (Int32.ofNat (fs.length + 1))) .unset .unset) [(.long (10 : Int64)), (.int (1 : Int32)), (.ref b767), (.ref b767)])) rfl rfl (hb hby at_285)
  have V772 : Arv Z h772 b767 k767 .long (10 : Int32) [(.long (1 : Int64)), (.long (10 : Int64)), (.long (0 : Int64)), (.long (0 : Int64)), (.long (0 : Int64)), (.long (0 : Int64)), (.long (0 : Int64)), (.long (0 : Int64)), (.long (0 : Int64)), (.long (0 : Int64))] (.long (0 : Int64)) := Arv.set Ar771 q771 S771 Nn771 H771 G771 rfl W772 1 rfl (Nat.le_of_ble_eq_true rfl)
  have XX772 := own_extW XX770 W772 g_b767
  have N772 := Fr.snoc X772 N770 g_b767
  have CQ772 := CHr.wr W772 sf770_b767 CR770.1
  have sf772_b767 := Safe.wr W772 sf770_b767 CR770.1 sf770_b767
  have CR772 := CR770.trans CQ772
  have hk772 := Nat.le_trans hk770 CQ772.2.1
  obtain ⟨cl773, Ar773, q773, S773, Nn773, H773, G773⟩ := id V772
  have hin773 : ¬ ((2 : Int32) < 0 ∨ cl773.slots.size ≤ ((2 : Int32)).toNatClampNeg) := inb_of S773 ⟨by decide, by decide⟩
  obtain ⟨T774, h774, X774, e774, W774, st774⟩ := stJ X772 hx hZ744 e772 Ar773 (j := (2 : Int32)) hin773 (g := (mkF m 291 (own_Lp p1 p2 p3 p4 fs rs kk mm b734 b737 b739 b745 (iv (Int32.ofNat (fs.length + 1))) .unset .unset) [(.long (100 : Int64)), (.int (2 : Int32)), (.ref b767), (.ref b767)])) rfl rfl (hb hby at_291)
  have V774 : Arv Z h774 b767 k767 .long (10 : Int32) [(.long (1 : Int64)), (.long (10 : Int64)), (.long (100 : Int64)), (.long (0 : Int64)), (.long (0 : Int64)), (.long (0 : Int64)), (.long (0 : Int64)), (.long (0 : Int64)), (.long (0 : Int64)), (.long (0 : Int64))] (.long (0 : Int64)) := Arv.set Ar773 q773 S773 Nn773 H773 G773 rfl W774 2 rfl (Nat.le_of_ble_eq_true rfl)
  have XX774 := own_extW XX772 W774 g_b767
  have N774 := Fr.snoc X774 N772 g_b767
  have CQ774 := CHr.wr W774 sf772_b767 CR772.1
  have sf774_b767 := Safe.wr W774 sf772_b767 CR772.1 sf772_b767
  have CR774 := CR772.trans CQ774
  have hk774 := Nat.le_trans hk772 CQ774.2.1
  obtain ⟨cl775, Ar775, q775, S775, Nn775, H775, G775⟩ := id V774
  have hin775 : ¬ ((3 : Int32) < 0 ∨ cl775.slots.size ≤ ((3 : Int32)).toNatClampNeg) := inb_of S775 ⟨by decide, by decide⟩
  obtain ⟨T776, h776, X776, e776, W776, st776⟩ := stJ X774 hx hZ744 e774 Ar775 (j := (3 : Int32)) hin775 (g := (mkF m 297 (own_Lp p1 p2 p3 p4 fs rs kk mm b734 b737 b739 b745 (iv (Int32.ofNat (fs.length + 1))) .unset .unset) [(.long (1000 : Int64)), (.int (3 : Int32)), (.ref b767), (.ref b767)])) rfl rfl (hb hby at_297)
  have V776 : Arv Z h776 b767 k767 .long (10 : Int32) [(.long (1 : Int64)), (.long (10 : Int64)), (.long (100 : Int64)), (.long (1000 : Int64)), (.long (0 : Int64)), (.long (0 : Int64)), (.long (0 : Int64)), (.long (0 : Int64)), (.long (0 : Int64)), (.long (0 : Int64))] (.long (0 : Int64)) := Arv.set Ar775 q775 S775 Nn775 H775 G775 rfl W776 3 rfl (Nat.le_of_ble_eq_true rfl)
  have XX776 := own_extW XX774 W776 g_b767
  have N776 := Fr.snoc X776 N774 g_b767
  have CQ776 := CHr.wr W776 sf774_b767 CR774.1
  have sf776_b767 := Safe.wr W776 sf774_b767 CR774.1 sf774_b767
  have CR776 := CR774.trans CQ776
  have hk776 := Nat.le_trans hk774 CQ776.2.1
  obtain ⟨cl777, Ar777, q777, S777, Nn777, H777, G777⟩ := id V776
  have hin777 : ¬ ((4 : Int32) < 0 ∨ cl777.slots.size ≤ ((4 : Int32)).toNatClampNeg) := inb_of S777 ⟨by decide, by decide⟩
  obtain ⟨T778, h778, X778, e778, W778, st778⟩ := stJ X776 hx hZ744 e776 Ar777 (j := (4 : Int32)) hin777 (g := (mkF m 303 (own_Lp p1 p2 p3 p4 fs rs kk mm b734 b737 b739 b745 (iv (Int32.ofNat (fs.length + 1))) .unset .unset) [(.long (10000 : Int64)), (.int (4 : Int32)), (.ref b767), (.ref b767)])) rfl rfl (hb hby at_303)
  have V778 : Arv Z h778 b767 k767 .long (10 : Int32) [(.long (1 : Int64)), (.long (10 : Int64)), (.long (100 : Int64)), (.long (1000 : Int64)), (.long (10000 : Int64)), (.long (0 : Int64)), (.long (0 : Int64)), (.long (0 : Int64)), (.long (0 : Int64)), (.long (0 : Int64))] (.long (0 : Int64)) := Arv.set Ar777 q777 S777 Nn777 H777 G777 rfl W778 4 rfl (Nat.le_of_ble_eq_true rfl)
  have XX778 := own_extW XX776 W778 g_b767
  have N778 := Fr.snoc X778 N776 g_b767
  have CQ778 := CHr.wr W778 sf776_b767 CR776.1
  have sf778_b767 := Safe.wr W778 sf776_b767 CR776.1 sf776_b767
  have CR778 := CR776.trans CQ778
  have hk778 := Nat.le_trans hk776 CQ778.2.1
  obtain ⟨cl779, Ar779, q779, S779, Nn779, H779, G779⟩ := id V778
  have hin779 : ¬ ((5 : Int32) < 0 ∨ cl779.slots.size ≤ ((5 : Int32)).toNatClampNeg) := inb_of S779 ⟨by decide, by decide⟩
  obtain ⟨T780, h780, X780, e780, W780, st780⟩ := stJ X778 hx hZ744 e778 Ar779 (j := (5 : Int32)) hin779 (g := (mkF m 309 (own_Lp p1 p2 p3 p4 fs rs kk mm b734 b737 b739 b745 (iv (Int32.ofNat (fs.length + 1))) .unset .unset) [(.long (100000 : Int64)), (.int (5 : Int32)), (.ref b767), (.ref b767)])) rfl rfl (hb hby at_309)
  have V780 : Arv Z h780 b767 k767 .long (10 : Int32) [(.long (1 : Int64)), (.long (10 : Int64)), (.long (100 : Int64)), (.long (1000 : Int64)), (.long (10000 : Int64)), (.long (100000 : Int64)), (.long (0 : Int64)), (.long (0 : Int64)), (.long (0 : Int64)), (.long (0 : Int64))] (.long (0 : Int64)) := Arv.set Ar779 q779 S779 Nn779 H779 G779 rfl W780 5 rfl (Nat.le_of_ble_eq_true rfl)
  have XX780 := own_extW XX778 W780 g_b767
  have N780 := Fr.snoc X780 N778 g_b767
  have CQ780 := CHr.wr W780 sf778_b767 CR778.1
  have sf780_b767 := Safe.wr W780 sf778_b767 CR778.1 sf778_b767
  have CR780 := CR778.trans CQ780
  have hk780 := Nat.le_trans hk778 CQ780.2.1
  obtain ⟨cl781, Ar781, q781, S781, Nn781, H781, G781⟩ := id V780
  have hin781 : ¬ ((6 : Int32) < 0 ∨ cl781.slots.size ≤ ((6 : Int32)).toNatClampNeg) := inb_of S781 ⟨by decide, by decide⟩
  obtain ⟨T782, h782, X782, e782, W782, st782⟩ := stJ X780 hx hZ744 e780 Ar781 (j := (6 : Int32)) hin781 (g := (mkF m 316 (own_Lp p1 p2 p3 p4 fs rs kk mm b734 b737 b739 b745 (iv (Int32.ofNat (fs.length + 1))) .unset .unset) [(.long (1000000 : Int64)), (.int (6 : Int32)), (.ref b767), (.ref b767)])) rfl rfl (hb hby at_316)
  have V782 : Arv Z h782 b767 k767 .long (10 : Int32) [(.long (1 : Int64)), (.long (10 : Int64)), (.long (100 : Int64)), (.long (1000 : Int64)), (.long (10000 : Int64)), (.long (100000 : Int64)), (.long (1000000 : Int64)), (.long (0 : Int64)), (.long (0 : Int64)), (.long (0 : Int64))] (.long (0 : Int64)) := Arv.set Ar781 q781 S781 Nn781 H781 G781 rfl W782 6 rfl (Nat.le_of_ble_eq_true rfl)
  have XX782 := own_extW XX780 W782 g_b767
  have N782 := Fr.snoc X782 N780 g_b767
  have CQ782 := CHr.wr W782 sf780_b767 CR780.1
  have sf782_b767 := Safe.wr W782 sf780_b767 CR780.1 sf780_b767
  have CR782 := CR780.trans CQ782
  have hk782 := Nat.le_trans hk780 CQ782.2.1
  obtain ⟨cl783, Ar783, q783, S783, Nn783, H783, G783⟩ := id V782
  have hin783 : ¬ ((7 : Int32) < 0 ∨ cl783.slots.size ≤ ((7 : Int32)).toNatClampNeg) := inb_of S783 ⟨by decide, by decide⟩
  obtain ⟨T784, h784, X784, e784, W784, st784⟩ := stJ X782 hx hZ744 e782 Ar783 (j := (7 : Int32)) hin783 (g := (mkF m 323 (own_Lp p1 p2 p3 p4 fs rs kk mm b734 b737 b739 b745 (iv (Int32.ofNat (fs.length + 1))) .unset .unset) [(.long (10000000 : Int64)), (.int (7 : Int32)), (.ref b767), (.ref b767)])) rfl rfl (hb hby at_323)
  have V784 : Arv Z h784 b767 k767 .long (10 : Int32) [(.long (1 : Int64)), (.long (10 : Int64)), (.long (100 : Int64)), (.long (1000 : Int64)), (.long (10000 : Int64)), (.long (100000 : Int64)), (.long (1000000 : Int64)), (.long (10000000 : Int64)), (.long (0 : Int64)), (.long (0 : Int64))] (.long (0 : Int64)) := Arv.set Ar783 q783 S783 Nn783 H783 G783 rfl W784 7 rfl (Nat.le_of_ble_eq_true rfl)
  have XX784 := own_extW XX782 W784 g_b767
  have N784 := Fr.snoc X784 N782 g_b767
  have CQ784 := CHr.wr W784 sf782_b767 CR782.1
  have sf784_b767 := Safe.wr W784 sf782_b767 CR782.1 sf782_b767
  have CR784 := CR782.trans CQ784
  have hk784 := Nat.le_trans hk782 CQ784.2.1
  obtain ⟨cl785, Ar785, q785, S785, Nn785, H785, G785⟩ := id V784
  have hin785 : ¬ ((8 : Int32) < 0 ∨ cl785.slots.size ≤ ((8 : Int32)).toNatClampNeg) := inb_of S785 ⟨by decide, by decide⟩
  obtain ⟨T786, h786, X786, e786, W786, st786⟩ := stJ X784 hx hZ744 e784 Ar785 (j := (8 : Int32)) hin785 (g := (mkF m 330 (own_Lp p1 p2 p3 p4 fs rs kk mm b734 b737 b739 b745 (iv (Int32.ofNat (fs.length + 1))) .unset .unset) [(.long (100000000 : Int64)), (.int (8 : Int32)), (.ref b767), (.ref b767)])) rfl rfl (hb hby at_330)
  have V786 : Arv Z h786 b767 k767 .long (10 : Int32) [(.long (1 : Int64)), (.long (10 : Int64)), (.long (100 : Int64)), (.long (1000 : Int64)), (.long (10000 : Int64)), (.long (100000 : Int64)), (.long (1000000 : Int64)), (.long (10000000 : Int64)), (.long (100000000 : Int64)), (.long (0 : Int64))] (.long (0 : Int64)) := Arv.set Ar785 q785 S785 Nn785 H785 G785 rfl W786 8 rfl (Nat.le_of_ble_eq_true rfl)
  have XX786 := own_extW XX784 W786 g_b767
  have N786 := Fr.snoc X786 N784 g_b767
  have CQ786 := CHr.wr W786 sf784_b767 CR784.1
  have sf786_b767 := Safe.wr W786 sf784_b767 CR784.1 sf784_b767
  have CR786 := CR784.trans CQ786
  have hk786 := Nat.le_trans hk784 CQ786.2.1
  obtain ⟨cl787, Ar787, q787, S787, Nn787, H787, G787⟩ := id V786
  have hin787 : ¬ ((9 : Int32) < 0 ∨ cl787.slots.size ≤ ((9 : Int32)).toNatClampNeg) := inb_of S787 ⟨by decide, by decide⟩
  obtain ⟨T788, h788, X788, e788, W788, st788⟩ := stJ X786 hx hZ744 e786 Ar787 (j := (9 : Int32)) hin787 (g := (mkF m 337 (own_Lp p1 p2 p3 p4 fs rs kk mm b734 b737 b739 b745 (iv (Int32.ofNat (fs.length + 1))) .unset .unset) [(.long (1000000000 : Int64)), (.int (9 : Int32)), (.ref b767), (.ref b767)])) rfl rfl (hb hby at_337)
  have V788 : Arv Z h788 b767 k767 .long (10 : Int32) [(.long (1 : Int64)), (.long (10 : Int64)), (.long (100 : Int64)), (.long (1000 : Int64)), (.long (10000 : Int64)), (.long (100000 : Int64)), (.long (1000000 : Int64)), (.long (10000000 : Int64)), (.long (100000000 : Int64)), (.long (1000000000 : Int64))] (.long (0 : Int64)) := Arv.set Ar787 q787 S787 Nn787 H787 G787 rfl W788 9 rfl (Nat.le_of_ble_eq_true rfl)
  have XX788 := own_extW XX786 W788 g_b767
  have N788 := Fr.snoc X788 N786 g_b767
  have CQ788 := CHr.wr W788 sf786_b767 CR786.1
  have CR788 := CR786.trans CQ788
  have hk788 := Nat.le_trans hk786 CQ788.2.1
  have f792_E_b737 := ((((((((((((((q736_E_b737.ext E739).keep K743q).keep K744q).ext E767).wr W770).wr W772).wr W774).wr W776).wr W778).wr W780).wr W782).wr W784).wr W786).wr W788)
  have f794_E_b745 := (((((((((((q744_E_b745.ext E767).wr W770).wr W772).wr W774).wr W776).wr W778).wr W780).wr W782).wr W784).wr W786).wr W788)
  have ne_b745_b767 := Nat.ne_of_lt (Nat.lt_of_lt_of_le q744_E_b745.lt (Nat.le_of_eq g767.symm))
  have f796_F_b745_coder := (((((((((((oC749.ext E767).other W770 (Or.inl ne_b745_b767)).other W772 (Or.inl ne_b745_b767)).other W774 (Or.inl ne_b745_b767)).other W776 (Or.inl ne_b745_b767)).other W778 (Or.inl ne_b745_b767)).other W780 (Or.inl ne_b745_b767)).other W782 (Or.inl ne_b745_b767)).other W784 (Or.inl ne_b745_b767)).other W786 (Or.inl ne_b745_b767)).other W788 (Or.inl ne_b745_b767))
  have f797_F_b745_value := (((((((((((oV749.ext E767).other W770 (Or.inl ne_b745_b767)).other W772 (Or.inl ne_b745_b767)).other W774 (Or.inl ne_b745_b767)).other W776 (Or.inl ne_b745_b767)).other W778 (Or.inl ne_b745_b767)).other W780 (Or.inl ne_b745_b767)).other W782 (Or.inl ne_b745_b767)).other W784 (Or.inl ne_b745_b767)).other W786 (Or.inl ne_b745_b767)).other W788 (Or.inl ne_b745_b767))
  have ne_a749_b767 := Nat.ne_of_lt (Nat.lt_of_lt_of_le oA749.lt (Nat.le_of_eq g767.symm))
  have f798_V_a749 := (((((((((((oA749.ext E767).other W770 ne_a749_b767).other W772 ne_a749_b767).other W774 ne_a749_b767).other W776 ne_a749_b767).other W778 ne_a749_b767).other W780 ne_a749_b767).other W782 ne_a749_b767).other W784 ne_a749_b767).other W786 ne_a749_b767).other W788 ne_a749_b767)
  obtain ⟨_, T795, Lc795, X795, hQ795, st795⟩ := own_static (y := y_34) X788 hx hZ744 hown744 (own_w hw 224 rfl) (own_w hw 225 rfl) (own_w hw 2 rfl) (own_w hw 226 rfl) (own_dkJ l Z a0 hw [] w_CS w_SF kk (own_vn fs p3 kk rs) b745 a749 ka749 (fs.length + 1) 0 mm b767 k767 h788 XX788 S_w_CS R_w_SF S_w_SF f794_E_b745 f796_F_b745_coder f797_F_b745_value f798_V_a749 V788 hc1 hc150 (by decide)) e788 (g := (mkF m 351 (own_Lp p1 p2 p3 p4 fs rs kk mm b734 b737 b739 b745 (iv (Int32.ofNat (fs.length + 1))) (rv b767) .unset) [(.ref b767), (.int (0 : Int32)), (.int (Int32.ofNat kk)), (.long mm), (.int (Int32.ofNat (fs.length + 1))), (.ref b745)])) (argsL := [(.ref b745), (.int (Int32.ofNat (fs.length + 1))), (.long mm), (.int (Int32.ofNat kk)), (.int (0 : Int32)), (.ref b767)]) (rest := []) (W := 0) (lenOf pd_35 rfl) (hb hby at_351) hml
  obtain ⟨rfl, N795q, e795⟩ := hQ795
  have N795 := Fr.app N788 N795q
  obtain ⟨_, T802, Lc802, X802, hQ802, st802⟩ := own_static (y := y_34) X795 hx hZ744 hown744 (own_w hw 224 rfl) (own_w hw 225 rfl) (own_w hw 2 rfl) (own_w hw 226 rfl) (own_dkJ l Z a0 hw [] w_CS w_SF kk (own_vn fs p3 kk rs) b745 a749 ka749 (fs.length + 1) 1 mm b767 k767 h788 XX788 S_w_CS R_w_SF S_w_SF f794_E_b745 f796_F_b745_coder f797_F_b745_value f798_V_a749 V788 hc1 hc150 (by decide)) e795 (g := (mkF m 368 (own_Lp p1 p2 p3 p4 fs rs kk mm b734 b737 b739 b745 (iv (Int32.ofNat (fs.length + 1))) (rv b767) .unset) [(.ref b767), (.int (1 : Int32)), (.int (Int32.ofNat kk)), (.long mm), (.int (Int32.ofNat (fs.length + 1))), (.ref b745)])) (argsL := [(.ref b745), (.int (Int32.ofNat (fs.length + 1))), (.long mm), (.int (Int32.ofNat kk)), (.int (1 : Int32)), (.ref b767)]) (rest := []) (W := 0) (lenOf pd_35 rfl) (hb hby at_368) hml
  obtain ⟨rfl, N802q, e802⟩ := hQ802
  have N802 := Fr.app N795 N802q
  obtain ⟨_, T806, Lc806, X806, hQ806, st806⟩ := own_static (y := y_34) X802 hx hZ744 hown744 (own_w hw 224 rfl) (own_w hw 225 rfl) (own_w hw 2 rfl) (own_w hw 226 rfl) (own_dkJ l Z a0 hw [] w_CS w_SF kk (own_vn fs p3 kk rs) b745 a749 ka749 (fs.length + 1) 2 mm b767 k767 h788 XX788 S_w_CS R_w_SF S_w_SF f794_E_b745 f796_F_b745_coder f797_F_b745_value f798_V_a749 V788 hc1 hc150 (by decide)) e802 (g := (mkF m 385 (own_Lp p1 p2 p3 p4 fs rs kk mm b734 b737 b739 b745 (iv (Int32.ofNat (fs.length + 1))) (rv b767) .unset) [(.ref b767), (.int (2 : Int32)), (.int (Int32.ofNat kk)), (.long mm), (.int (Int32.ofNat (fs.length + 1))), (.ref b745)])) (argsL := [(.ref b745), (.int (Int32.ofNat (fs.length + 1))), (.long mm), (.int (Int32.ofNat kk)), (.int (2 : Int32)), (.ref b767)]) (rest := []) (W := 0) (lenOf pd_35 rfl) (hb hby at_385) hml
  obtain ⟨rfl, N806q, e806⟩ := hQ806
  have N806 := Fr.app N802 N806q
  obtain ⟨_, T810, Lc810, X810, hQ810, st810⟩ := own_static (y := y_34) X806 hx hZ744 hown744 (own_w hw 224 rfl) (own_w hw 225 rfl) (own_w hw 2 rfl) (own_w hw 226 rfl) (own_dkJ l Z a0 hw [] w_CS w_SF kk (own_vn fs p3 kk rs) b745 a749 ka749 (fs.length + 1) 3 mm b767 k767 h788 XX788 S_w_CS R_w_SF S_w_SF f794_E_b745 f796_F_b745_coder f797_F_b745_value f798_V_a749 V788 hc1 hc150 (by decide)) e806 (g := (mkF m 402 (own_Lp p1 p2 p3 p4 fs rs kk mm b734 b737 b739 b745 (iv (Int32.ofNat (fs.length + 1))) (rv b767) .unset) [(.ref b767), (.int (3 : Int32)), (.int (Int32.ofNat kk)), (.long mm), (.int (Int32.ofNat (fs.length + 1))), (.ref b745)])) (argsL := [(.ref b745), (.int (Int32.ofNat (fs.length + 1))), (.long mm), (.int (Int32.ofNat kk)), (.int (3 : Int32)), (.ref b767)]) (rest := []) (W := 0) (lenOf pd_35 rfl) (hb hby at_402) hml
  obtain ⟨rfl, N810q, e810⟩ := hQ810
  have N810 := Fr.app N806 N810q
  obtain ⟨_, T814, Lc814, X814, hQ814, st814⟩ := own_static (y := y_34) X810 hx hZ744 hown744 (own_w hw 224 rfl) (own_w hw 225 rfl) (own_w hw 2 rfl) (own_w hw 226 rfl) (own_dkJ l Z a0 hw [] w_CS w_SF kk (own_vn fs p3 kk rs) b745 a749 ka749 (fs.length + 1) 4 mm b767 k767 h788 XX788 S_w_CS R_w_SF S_w_SF f794_E_b745 f796_F_b745_coder f797_F_b745_value f798_V_a749 V788 hc1 hc150 (by decide)) e810 (g := (mkF m 419 (own_Lp p1 p2 p3 p4 fs rs kk mm b734 b737 b739 b745 (iv (Int32.ofNat (fs.length + 1))) (rv b767) .unset) [(.ref b767), (.int (4 : Int32)), (.int (Int32.ofNat kk)), (.long mm), (.int (Int32.ofNat (fs.length + 1))), (.ref b745)])) (argsL := [(.ref b745), (.int (Int32.ofNat (fs.length + 1))), (.long mm), (.int (Int32.ofNat kk)), (.int (4 : Int32)), (.ref b767)]) (rest := []) (W := 0) (lenOf pd_35 rfl) (hb hby at_419) hml
  obtain ⟨rfl, N814q, e814⟩ := hQ814
  have N814 := Fr.app N810 N814q
  obtain ⟨_, T818, Lc818, X818, hQ818, st818⟩ := own_static (y := y_34) X814 hx hZ744 hown744 (own_w hw 224 rfl) (own_w hw 225 rfl) (own_w hw 2 rfl) (own_w hw 226 rfl) (own_dkJ l Z a0 hw [] w_CS w_SF kk (own_vn fs p3 kk rs) b745 a749 ka749 (fs.length + 1) 5 mm b767 k767 h788 XX788 S_w_CS R_w_SF S_w_SF f794_E_b745 f796_F_b745_coder f797_F_b745_value f798_V_a749 V788 hc1 hc150 (by decide)) e814 (g := (mkF m 436 (own_Lp p1 p2 p3 p4 fs rs kk mm b734 b737 b739 b745 (iv (Int32.ofNat (fs.length + 1))) (rv b767) .unset) [(.ref b767), (.int (5 : Int32)), (.int (Int32.ofNat kk)), (.long mm), (.int (Int32.ofNat (fs.length + 1))), (.ref b745)])) (argsL := [(.ref b745), (.int (Int32.ofNat (fs.length + 1))), (.long mm), (.int (Int32.ofNat kk)), (.int (5 : Int32)), (.ref b767)]) (rest := []) (W := 0) (lenOf pd_35 rfl) (hb hby at_436) hml
  obtain ⟨rfl, N818q, e818⟩ := hQ818
  have N818 := Fr.app N814 N818q
  obtain ⟨_, T822, Lc822, X822, hQ822, st822⟩ := own_static (y := y_34) X818 hx hZ744 hown744 (own_w hw 224 rfl) (own_w hw 225 rfl) (own_w hw 2 rfl) (own_w hw 226 rfl) (own_dkJ l Z a0 hw [] w_CS w_SF kk (own_vn fs p3 kk rs) b745 a749 ka749 (fs.length + 1) 6 mm b767 k767 h788 XX788 S_w_CS R_w_SF S_w_SF f794_E_b745 f796_F_b745_coder f797_F_b745_value f798_V_a749 V788 hc1 hc150 (by decide)) e818 (g := (mkF m 454 (own_Lp p1 p2 p3 p4 fs rs kk mm b734 b737 b739 b745 (iv (Int32.ofNat (fs.length + 1))) (rv b767) .unset) [(.ref b767), (.int (6 : Int32)), (.int (Int32.ofNat kk)), (.long mm), (.int (Int32.ofNat (fs.length + 1))), (.ref b745)])) (argsL := [(.ref b745), (.int (Int32.ofNat (fs.length + 1))), (.long mm), (.int (Int32.ofNat kk)), (.int (6 : Int32)), (.ref b767)]) (rest := []) (W := 0) (lenOf pd_35 rfl) (hb hby at_454) hml
  obtain ⟨rfl, N822q, e822⟩ := hQ822
  have N822 := Fr.app N818 N822q
  obtain ⟨_, T826, Lc826, X826, hQ826, st826⟩ := own_static (y := y_34) X822 hx hZ744 hown744 (own_w hw 224 rfl) (own_w hw 225 rfl) (own_w hw 2 rfl) (own_w hw 226 rfl) (own_dkJ l Z a0 hw [] w_CS w_SF kk (own_vn fs p3 kk rs) b745 a749 ka749 (fs.length + 1) 7 mm b767 k767 h788 XX788 S_w_CS R_w_SF S_w_SF f794_E_b745 f796_F_b745_coder f797_F_b745_value f798_V_a749 V788 hc1 hc150 (by decide)) e822 (g := (mkF m 472 (own_Lp p1 p2 p3 p4 fs rs kk mm b734 b737 b739 b745 (iv (Int32.ofNat (fs.length + 1))) (rv b767) .unset) [(.ref b767), (.int (7 : Int32)), (.int (Int32.ofNat kk)), (.long mm), (.int (Int32.ofNat (fs.length + 1))), (.ref b745)])) (argsL := [(.ref b745), (.int (Int32.ofNat (fs.length + 1))), (.long mm), (.int (Int32.ofNat kk)), (.int (7 : Int32)), (.ref b767)]) (rest := []) (W := 0) (lenOf pd_35 rfl) (hb hby at_472) hml
  obtain ⟨rfl, N826q, e826⟩ := hQ826
  have N826 := Fr.app N822 N826q
  obtain ⟨_, T830, Lc830, X830, hQ830, st830⟩ := own_static (y := y_34) X826 hx hZ744 hown744 (own_w hw 224 rfl) (own_w hw 225 rfl) (own_w hw 2 rfl) (own_w hw 226 rfl) (own_dkJ l Z a0 hw [] w_CS w_SF kk (own_vn fs p3 kk rs) b745 a749 ka749 (fs.length + 1) 8 mm b767 k767 h788 XX788 S_w_CS R_w_SF S_w_SF f794_E_b745 f796_F_b745_coder f797_F_b745_value f798_V_a749 V788 hc1 hc150 (by decide)) e826 (g := (mkF m 490 (own_Lp p1 p2 p3 p4 fs rs kk mm b734 b737 b739 b745 (iv (Int32.ofNat (fs.length + 1))) (rv b767) .unset) [(.ref b767), (.int (8 : Int32)), (.int (Int32.ofNat kk)), (.long mm), (.int (Int32.ofNat (fs.length + 1))), (.ref b745)])) (argsL := [(.ref b745), (.int (Int32.ofNat (fs.length + 1))), (.long mm), (.int (Int32.ofNat kk)), (.int (8 : Int32)), (.ref b767)]) (rest := []) (W := 0) (lenOf pd_35 rfl) (hb hby at_490) hml
  obtain ⟨rfl, N830q, e830⟩ := hQ830
  have N830 := Fr.app N826 N830q
  obtain ⟨_, T834, Lc834, X834, hQ834, st834⟩ := own_static (y := y_34) X830 hx hZ744 hown744 (own_w hw 224 rfl) (own_w hw 225 rfl) (own_w hw 2 rfl) (own_w hw 226 rfl) (own_dkJ l Z a0 hw [] w_CS w_SF kk (own_vn fs p3 kk rs) b745 a749 ka749 (fs.length + 1) 9 mm b767 k767 h788 XX788 S_w_CS R_w_SF S_w_SF f794_E_b745 f796_F_b745_coder f797_F_b745_value f798_V_a749 V788 hc1 hc150 (by decide)) e830 (g := (mkF m 508 (own_Lp p1 p2 p3 p4 fs rs kk mm b734 b737 b739 b745 (iv (Int32.ofNat (fs.length + 1))) (rv b767) .unset) [(.ref b767), (.int (9 : Int32)), (.int (Int32.ofNat kk)), (.long mm), (.int (Int32.ofNat (fs.length + 1))), (.ref b745)])) (argsL := [(.ref b745), (.int (Int32.ofNat (fs.length + 1))), (.long mm), (.int (Int32.ofNat kk)), (.int (9 : Int32)), (.ref b767)]) (rest := []) (W := 0) (lenOf pd_35 rfl) (hb hby at_508) hml
  obtain ⟨rfl, N834q, e834⟩ := hQ834
  have N834 := Fr.app N830 N834q
  obtain ⟨_, T838, Lc838, X838, hQ838, st838⟩ := own_virtual (y := y_31) X834 hx hZ744 hown744 (own_w hw 193 rfl) (own_w hw 194 rfl) (own_w hw 196 rfl) (own_w hw 195 rfl) (own_w hw 6 rfl) (own_w hw 197 rfl) (rm310 l Z a0 hw [] w_CS w_SF (Int32.ofNat (fs.length + 1 + kk)) (own_vn fs p3 kk rs) b745 a749 ka749 (58 : Int32) (58 : Int32) h788 XX788 S_w_CS S_w_SF R_w_SF f794_E_b745 f796_F_b745_coder f797_F_b745_value f798_V_a749 hc1 hc151) e834 f794_E_b745 (g := (mkF m 530 (own_Lp p1 p2 p3 p4 fs rs kk mm b734 b737 b739 b745 (iv (Int32.ofNat (fs.length + 1))) (rv b767) (iv (1 : Int32))) [(.int (Int32.ofNat (fs.length + 1 + kk))), (.ref b745)])) (argsL := [(.int (Int32.ofNat (fs.length + 1 + kk)))]) (rest := []) (W := 0) (lenOf pd_21 rfl) (hb hby at_530) hml
  obtain ⟨rfl, N838q, e838⟩ := hQ838
  have N838 := Fr.app N834 N838q
  obtain ⟨_, T842, Lc842, X842, hQ842, st842⟩ := own_virtual (y := y_31) X838 hx hZ744 hown744 (own_w hw 193 rfl) (own_w hw 194 rfl) (own_w hw 196 rfl) (own_w hw 195 rfl) (own_w hw 6 rfl) (own_w hw 197 rfl) (rm310 l Z a0 hw [] w_CS w_SF (Int32.ofNat (fs.length + 1 + kk + 1)) (own_vn fs p3 kk rs) b745 a749 ka749 (32 : Int32) (32 : Int32) h788 XX788 S_w_CS S_w_SF R_w_SF f794_E_b745 f796_F_b745_coder f797_F_b745_value f798_V_a749 hc1 hc153) e838 f794_E_b745 (g := (mkF m 544 (own_Lp p1 p2 p3 p4 fs rs kk mm b734 b737 b739 b745 (iv (Int32.ofNat (fs.length + 1))) (rv b767) (iv (1 : Int32))) [(.int (Int32.ofNat (fs.length + 1 + kk + 1))), (.ref b745)])) (argsL := [(.int (Int32.ofNat (fs.length + 1 + kk + 1)))]) (rest := []) (W := 0) (lenOf pd_21 rfl) (hb hby at_544) hml
  obtain ⟨rfl, N842q, e842⟩ := hQ842
  have N842 := Fr.app N838 N842q
  have ne_b737_b767 := Nat.ne_of_lt (Nat.lt_of_lt_of_le (((q736_E_b737.ext E739).keep K743q).keep K744q).lt (Nat.le_of_eq g767.symm))
  have f847_F_b737_coder := ((((((((((((((oC738.ext E739).keep K743q (ninS ne_b737_b739 (nin0))).keep K744q nin0).ext E767).other W770 (Or.inl ne_b737_b767)).other W772 (Or.inl ne_b737_b767)).other W774 (Or.inl ne_b737_b767)).other W776 (Or.inl ne_b737_b767)).other W778 (Or.inl ne_b737_b767)).other W780 (Or.inl ne_b737_b767)).other W782 (Or.inl ne_b737_b767)).other W784 (Or.inl ne_b737_b767)).other W786 (Or.inl ne_b737_b767)).other W788 (Or.inl ne_b737_b767))
  have f848_F_b737_value := ((((((((((((((oV738.ext E739).keep K743q (ninS ne_b737_b739 (nin0))).keep K744q nin0).ext E767).other W770 (Or.inl ne_b737_b767)).other W772 (Or.inl ne_b737_b767)).other W774 (Or.inl ne_b737_b767)).other W776 (Or.inl ne_b737_b767)).other W778 (Or.inl ne_b737_b767)).other W780 (Or.inl ne_b737_b767)).other W782 (Or.inl ne_b737_b767)).other W784 (Or.inl ne_b737_b767)).other W786 (Or.inl ne_b737_b767)).other W788 (Or.inl ne_b737_b767))
  have ne_a738_b767 := Nat.ne_of_lt (Nat.lt_of_lt_of_le (((oA738.ext E739).keep K743q (ninS ne_a738_b739 (nin0))).keep K744q nin0).lt (Nat.le_of_eq g767.symm))
  have f849_V_a738 := ((((((((((((((oA738.ext E739).keep K743q (ninS ne_a738_b739 (nin0))).keep K744q nin0).ext E767).other W770 ne_a738_b767).other W772 ne_a738_b767).other W774 ne_a738_b767).other W776 ne_a738_b767).other W778 ne_a738_b767).other W780 ne_a738_b767).other W782 ne_a738_b767).other W784 ne_a738_b767).other W786 ne_a738_b767).other W788 ne_a738_b767)
  obtain ⟨_, T846, Lc846, X846, hQ846, st846⟩ := own_static (y := y_32) X842 hx hZ744 hown744 (own_w hw 190 rfl) (own_w hw 191 rfl) (own_w hw 2 rfl) (own_w hw 192 rfl) (own_sgJ l Z a0 hw [] w_CS w_SF (own_vn fs p3 kk rs) b745 a749 ka749 (fs.length + 1 + kk + 2) b737 a738 ka738 rs h788 XX788 S_w_CS R_w_SF S_w_SF f794_E_b745 f796_F_b745_coder f797_F_b745_value f798_V_a749 f792_E_b737 f847_F_b737_coder f848_F_b737_value f849_V_a738 hc1 hc154) e842 (g := (mkF m 560 (own_Lp p1 p2 p3 p4 fs rs kk mm b734 b737 b739 b745 (iv (Int32.ofNat (fs.length + 1))) (rv b767) (iv (1 : Int32))) [(.ref b737), (.int (Int32.ofNat (fs.length + 1 + kk + 2))), (.ref b745)])) (argsL := [(.ref b745), (.int (Int32.ofNat (fs.length + 1 + kk + 2))), (.ref b737)]) (rest := []) (W := 0) (lenOf pd_33 rfl) (hb hby at_560) hml
  obtain ⟨rfl, N846q, e846⟩ := hQ846
  have N846 := Fr.app N842 N846q
  obtain ⟨_, hr, hrun, hended, hend⟩ := leaveW (s := s) (vm₁ := T744.vm) X846 hS744 (by rw [e846]; exact hk788) (v := some (.int (1 : Int32))) (fun h => by rw [hret] at h; cases h) hlk
  refine ⟨_, _, ?_, hrun, hended, _, _, rfl, ?_, ?_, hend.1, hend.2.1, hend.2.2.1, hend.2.2.2.mono (by decide) (by decide)⟩
  · show own_S p e below s₁ (mkF m 0 #[iv p1, iv p2, iv p3, iv p4, .unset, .unset, .unset, .unset, .unset, .unset, .unset, .unset, .unset, .unset, .unset, .unset, .unset, .unset, .unset, .unset, .unset] []) _
    refine own_iN X0 hx hby at_0 ?_
    refine own_k X0 hx hby at_1 ?_
    refine XS.iand X0.here hx rfl (hb hby at_2) rfl ?_
    show own_S p e below s₁ (mkF m 3 #[iv p1, iv p2, iv p3, iv p4, .unset, .unset, .unset, .unset, .unset, .unset, .unset, .unset, .unset, .unset, .unset, .unset, .unset, .unset, .unset, .unset, .unset] [(.int (p4 &&& (3 : Int32)))]) _
    rw [hc128]
    refine XS.istore X0.here hx rfl (hb hby at_3) rfl (l' := #[iv p1, iv p2, iv p3, iv p4, iv (Int32.ofNat fs.length), .unset, .unset, .unset, .unset, .unset, .unset, .unset, .unset, .unset, .unset, .unset, .unset, .unset, .unset, .unset, .unset]) rfl ?_
    refine own_iN X0 hx hby at_5 ?_
    refine own_k X0 hx hby at_6 ?_
    refine XS.iushr X0.here hx rfl (hb hby at_7) rfl ?_
    refine own_k X0 hx hby at_8 ?_
    refine XS.iand X0.here hx rfl (hb hby at_9) rfl ?_
    show own_S p e below s₁ (mkF m 10 #[iv p1, iv p2, iv p3, iv p4, iv (Int32.ofNat fs.length), .unset, .unset, .unset, .unset, .unset, .unset, .unset, .unset, .unset, .unset, .unset, .unset, .unset, .unset, .unset, .unset] [(.int (((p4.toUInt32 >>> ((2 : Int32) &&& 31).toUInt32).toInt32) &&& (3 : Int32)))]) _
    rw [hc129]
    refine XS.istore X0.here hx rfl (hb hby at_10) rfl (l' := #[iv p1, iv p2, iv p3, iv p4, iv (Int32.ofNat fs.length), iv (Int32.ofNat rs.length), .unset, .unset, .unset, .unset, .unset, .unset, .unset, .unset, .unset, .unset, .unset, .unset, .unset, .unset, .unset]) rfl ?_
    refine own_i X0 hx hby at_12 ?_
    refine own_iN X0 hx hby at_14 ?_
    refine st733 _ ?_
    refine XS.astore X733.here hx rfl (hb hby at_18) rfl rfl (l' := #[iv p1, iv p2, iv p3, iv p4, iv (Int32.ofNat fs.length), iv (Int32.ofNat rs.length), rv b734, .unset, .unset, .unset, .unset, .unset, .unset, .unset, .unset, .unset, .unset, .unset, .unset, .unset, .unset]) rfl ?_
    refine own_i X733 hx hby at_20 ?_
    refine own_iN X733 hx hby at_22 ?_
    refine st736 _ ?_
    refine XS.astore X736.here hx rfl (hb hby at_26) rfl rfl (l' := #[iv p1, iv p2, iv p3, iv p4, iv (Int32.ofNat fs.length), iv (Int32.ofNat rs.length), rv b734, rv b737, .unset, .unset, .unset, .unset, .unset, .unset, .unset, .unset, .unset, .unset, .unset, .unset, .unset]) rfl ?_
    refine st739 _ ?_
    refine XS.dup X739.here hx rfl (hb hby at_31) rfl rfl ?_
    refine own_a X739 hx hby at_32 ?_
    refine own_iN X739 hx hby at_34 ?_
    refine own_a X739 hx hby at_35 ?_
    refine st743 _ ?_
    refine XS.astore X743.here hx rfl (hb hby at_40) rfl rfl (l' := #[iv p1, iv p2, iv p3, iv p4, iv (Int32.ofNat fs.length), iv (Int32.ofNat rs.length), rv b734, rv b737, rv b739, .unset, .unset, .unset, .unset, .unset, .unset, .unset, .unset, .unset, .unset, .unset, .unset]) rfl ?_
    refine own_a X743 hx hby at_42 ?_
    refine st744 _ ?_
    refine XS.astore X744.here hx rfl (hb hby at_47) rfl rfl (l' := (own_Lz p1 p2 p3 p4 fs rs b734 b737 b739 b745)) rfl ?_
    refine own_a X744 hx hby at_49 ?_
    refine XS.ifnonnullYes X744.here hx rfl (pc0 := 51) (pc' := 56) rfl (hb hby at_51) rfl (by decide) (by decide) ?_
    refine own_iN X744 hx hby at_56 ?_
    refine own_iy (pc := 57) X744 hx hby at_57 (feq hc140).2 134 ?_
    refine own_iN X744 hx hby at_134 ?_
    refine XS.i2l X744.here hx rfl (hb hby at_135) rfl ?_
    show own_S p e below T744 (mkF m 136 (own_Lz p1 p2 p3 p4 fs rs b734 b737 b739 b745) [(.long (p3.toInt64))]) _
    rw [hc142]
    refine XS.lstore X744.here hx rfl (hb hby at_136) rfl (l' := #[iv p1, iv p2, iv p3, iv p4, iv (Int32.ofNat fs.length), iv (Int32.ofNat rs.length), rv b734, rv b737, rv b739, rv b745, .val (.long mm), .second, .unset, .unset, .unset, .unset, .unset, .unset, .unset, .unset, .unset]) rfl ?_
    refine XS.lload X744.here hx rfl (hb hby at_138) rfl ?_
    refine XS.lconst X744.here hx rfl (hb hby at_140) ?_
    refine XS.lcmp X744.here hx rfl (hb hby at_141) rfl ?_
    refine own_iy (pc := 142) X744 hx hby at_142 (flt hc143).2.1 149 ?_
    refine own_k X744 hx hby at_149 ?_
    refine XS.istore X744.here hx rfl (hb hby at_150) rfl (l' := #[iv p1, iv p2, iv p3, iv p4, iv (Int32.ofNat fs.length), iv (Int32.ofNat rs.length), rv b734, rv b737, rv b739, rv b745, .val (.long mm), .second, iv (0 : Int32), .unset, .unset, .unset, .unset, .unset, .unset, .unset, .unset]) rfl ?_
    refine own_i X744 hx hby at_152 ?_
    refine own_iy (pc := 154) X744 hx hby at_154 (teq (rfl : (0 : Int32) = (0 : Int32))).1 163 ?_
    refine XS.lload X744.here hx rfl (hb hby at_163) rfl ?_
    refine XS.lstore X744.here hx rfl (hb hby at_165) rfl (l' := #[iv p1, iv p2, iv p3, iv p4, iv (Int32.ofNat fs.length), iv (Int32.ofNat rs.length), rv b734, rv b737, rv b739, rv b745, .val (.long mm), .second, iv (0 : Int32), .val (.long mm), .second, .unset, .unset, .unset, .unset, .unset, .unset]) rfl ?_
    refine XS.lload X744.here hx rfl (hb hby at_167) rfl ?_
    refine st754 _ ?_
    refine XS.istore X754.here hx rfl (hb hby at_172) rfl (l' := #[iv p1, iv p2, iv p3, iv p4, iv (Int32.ofNat fs.length), iv (Int32.ofNat rs.length), rv b734, rv b737, rv b739, rv b745, .val (.long mm), .second, iv (0 : Int32), .val (.long mm), .second, iv (Int32.ofNat kk), .unset, .unset, .unset, .unset, .unset]) rfl ?_
    refine own_i X754 hx hby at_174 ?_
    refine own_iy (pc := 176) X754 hx hby at_176 (teq (rfl : (0 : Int32) = (0 : Int32))).1 183 ?_
    refine own_k X754 hx hby at_183 ?_
    refine XS.istore X754.here hx rfl (hb hby at_184) rfl (l' := #[iv p1, iv p2, iv p3, iv p4, iv (Int32.ofNat fs.length), iv (Int32.ofNat rs.length), rv b734, rv b737, rv b739, rv b745, .val (.long mm), .second, iv (0 : Int32), .val (.long mm), .second, iv (Int32.ofNat kk), iv (0 : Int32), .unset, .unset, .unset, .unset]) rfl ?_
    refine own_i X754 hx hby at_186 ?_
    refine own_k X754 hx hby at_188 ?_
    refine XS.iadd X754.here hx rfl (hb hby at_189) rfl ?_
    show own_S p e below T754 (mkF m 190 #[iv p1, iv p2, iv p3, iv p4, iv (Int32.ofNat fs.length), iv (Int32.ofNat rs.length), rv b734, rv b737, rv b739, rv b745, .val (.long mm), .second, iv (0 : Int32), .val (.long mm), .second, iv (Int32.ofNat kk), iv (0 : Int32), .unset, .unset, .unset, .unset] [(.int ((Int32.ofNat fs.length) + (1 : Int32)))]) _
    rw [hc137]
    refine own_i X754 hx hby at_190 ?_
    refine XS.iadd X754.here hx rfl (hb hby at_192) rfl ?_
    show own_S p e below T754 (mkF m 193 #[iv p1, iv p2, iv p3, iv p4, iv (Int32.ofNat fs.length), iv (Int32.ofNat rs.length), rv b734, rv b737, rv b739, rv b745, .val (.long mm), .second, iv (0 : Int32), .val (.long mm), .second, iv (Int32.ofNat kk), iv (0 : Int32), .unset, .unset, .unset, .unset] [(.int ((Int32.ofNat (fs.length + 1)) + (0 : Int32)))]) _
    rw [hc144]
    refine own_i X754 hx hby at_193 ?_
    refine XS.iadd X754.here hx rfl (hb hby at_195) rfl ?_
    show own_S p e below T754 (mkF m 196 #[iv p1, iv p2, iv p3, iv p4, iv (Int32.ofNat fs.length), iv (Int32.ofNat rs.length), rv b734, rv b737, rv b739, rv b745, .val (.long mm), .second, iv (0 : Int32), .val (.long mm), .second, iv (Int32.ofNat kk), iv (0 : Int32), .unset, .unset, .unset, .unset] [(.int ((Int32.ofNat (fs.length + 1)) + (Int32.ofNat kk)))]) _
    rw [hc145]
    refine XS.istore X754.here hx rfl (hb hby at_196) rfl (l' := (own_Lp p1 p2 p3 p4 fs rs kk mm b734 b737 b739 b745 .unset .unset .unset)) rfl ?_
    refine own_a X754 hx hby at_198 ?_
    refine st758 _ ?_
    refine own_i X758 hx hby at_203 ?_
    refine own_k X758 hx hby at_205 ?_
    refine XS.iadd X758.here hx rfl (hb hby at_206) rfl ?_
    show own_S p e below T758 (mkF m 207 (own_Lp p1 p2 p3 p4 fs rs kk mm b734 b737 b739 b745 .unset .unset .unset) [(.int ((Int32.ofNat (fs.length + 1 + kk)) + (2 : Int32))), (.int (Int32.ofNat (own_vn fs p3 kk rs).length))]) _
    rw [hc146]
    refine own_i X758 hx hby at_207 ?_
    refine XS.iadd X758.here hx rfl (hb hby at_209) rfl ?_
    show own_S p e below T758 (mkF m 210 (own_Lp p1 p2 p3 p4 fs rs kk mm b734 b737 b739 b745 .unset .unset .unset) [(.int ((Int32.ofNat (fs.length + 1 + kk + 2)) + (Int32.ofNat rs.length))), (.int (Int32.ofNat (own_vn fs p3 kk rs).length))]) _
    rw [hc147]
    refine own_cy (pc := 210) X758 hx hby at_210 (teq (rfl : (Int32.ofNat (own_vn fs p3 kk rs).length) = (Int32.ofNat (own_vn fs p3 kk rs).length))).1 215 ?_
    refine own_a X758 hx hby at_215 ?_
    refine own_k X758 hx hby at_217 ?_
    refine own_a X758 hx hby at_218 ?_
    refine st762 _ ?_
    refine own_iy (pc := 223) X762 hx hby at_223 (feq (by decide : ¬ ((1 : Int32) = (0 : Int32)))).2 228 ?_
    refine own_a X762 hx hby at_228 ?_
    refine own_i X762 hx hby at_230 ?_
    refine st766 _ ?_
    refine XS.bipush X766.here hx rfl (hb hby at_235) ?_
    refine own_cy (pc := 237) X766 hx hby at_237 (teq (rfl : (58 : Int32) = (58 : Int32))).1 242 ?_
    refine own_i X766 hx hby at_242 ?_
    refine own_iy (pc := 244) X766 hx hby at_244 (teq (rfl : (0 : Int32) = (0 : Int32))).1 263 ?_
    refine own_i X766 hx hby at_263 ?_
    refine own_k X766 hx hby at_265 ?_
    refine XS.iadd X766.here hx rfl (hb hby at_266) rfl ?_
    show own_S p e below T766 (mkF m 267 (own_Lp p1 p2 p3 p4 fs rs kk mm b734 b737 b739 b745 .unset .unset .unset) [(.int ((Int32.ofNat fs.length) + (1 : Int32)))]) _
    rw [hc137]
    refine own_i X766 hx hby at_267 ?_
    refine XS.iadd X766.here hx rfl (hb hby at_269) rfl ?_
    show own_S p e below T766 (mkF m 270 (own_Lp p1 p2 p3 p4 fs rs kk mm b734 b737 b739 b745 .unset .unset .unset) [(.int ((Int32.ofNat (fs.length + 1)) + (0 : Int32)))]) _
    rw [hc144]
    refine XS.istore X766.here hx rfl (hb hby at_270) rfl (l' := (own_Lp p1 p2 p3 p4 fs rs kk mm b734 b737 b739 b745 (iv (Int32.ofNat (fs.length + 1))) .unset .unset)) rfl ?_
    refine XS.bipush X766.here hx rfl (hb hby at_272) ?_
    refine st767 _ ?_
    refine XS.dup X767.here hx rfl (hb hby at_276) rfl rfl ?_
    refine own_k X767 hx hby at_277 ?_
    refine XS.lconst X767.here hx rfl (hb hby at_278) ?_
    refine st770 _ ?_
    refine XS.dup X770.here hx rfl (hb hby at_280) rfl rfl ?_
    refine own_k X770 hx hby at_281 ?_
    refine X770.ldc2Long hx hown744 (mvT hZ744 (own_w hw 188 rfl)) (g := (mkF m 282 (own_Lp p1 p2 p3 p4 fs rs kk mm b734 b737 b739 b745 (iv (Int32.ofNat (fs.length + 1))) .unset .unset) [(.int (1 : Int32)), (.ref b767), (.ref b767)])) rfl (hb hby at_282) _ ?_
    refine st772 _ ?_
    refine XS.dup X772.here hx rfl (hb hby at_286) rfl rfl ?_
    refine own_k X772 hx hby at_287 ?_
    refine X772.ldc2Long hx hown744 (mvT hZ744 (own_w hw 216 rfl)) (g := (mkF m 288 (own_Lp p1 p2 p3 p4 fs rs kk mm b734 b737 b739 b745 (iv (Int32.ofNat (fs.length + 1))) .unset .unset) [(.int (2 : Int32)), (.ref b767), (.ref b767)])) rfl (hb hby at_288) _ ?_
    refine st774 _ ?_
    refine XS.dup X774.here hx rfl (hb hby at_292) rfl rfl ?_
    refine own_k X774 hx hby at_293 ?_
    refine X774.ldc2Long hx hown744 (mvT hZ744 (own_w hw 217 rfl)) (g := (mkF m 294 (own_Lp p1 p2 p3 p4 fs rs kk mm b734 b737 b739 b745 (iv (Int32.ofNat (fs.length + 1))) .unset .unset) [(.int (3 : Int32)), (.ref b767), (.ref b767)])) rfl (hb hby at_294) _ ?_
    refine st776 _ ?_
    refine XS.dup X776.here hx rfl (hb hby at_298) rfl rfl ?_
    refine own_k X776 hx hby at_299 ?_
    refine X776.ldc2Long hx hown744 (mvT hZ744 (own_w hw 218 rfl)) (g := (mkF m 300 (own_Lp p1 p2 p3 p4 fs rs kk mm b734 b737 b739 b745 (iv (Int32.ofNat (fs.length + 1))) .unset .unset) [(.int (4 : Int32)), (.ref b767), (.ref b767)])) rfl (hb hby at_300) _ ?_
    refine st778 _ ?_
    refine XS.dup X778.here hx rfl (hb hby at_304) rfl rfl ?_
    refine own_k X778 hx hby at_305 ?_
    refine X778.ldc2Long hx hown744 (mvT hZ744 (own_w hw 219 rfl)) (g := (mkF m 306 (own_Lp p1 p2 p3 p4 fs rs kk mm b734 b737 b739 b745 (iv (Int32.ofNat (fs.length + 1))) .unset .unset) [(.int (5 : Int32)), (.ref b767), (.ref b767)])) rfl (hb hby at_306) _ ?_
    refine st780 _ ?_
    refine XS.dup X780.here hx rfl (hb hby at_310) rfl rfl ?_
    refine XS.bipush X780.here hx rfl (hb hby at_311) ?_
    refine X780.ldc2Long hx hown744 (mvT hZ744 (own_w hw 220 rfl)) (g := (mkF m 313 (own_Lp p1 p2 p3 p4 fs rs kk mm b734 b737 b739 b745 (iv (Int32.ofNat (fs.length + 1))) .unset .unset) [(.int (6 : Int32)), (.ref b767), (.ref b767)])) rfl (hb hby at_313) _ ?_
    refine st782 _ ?_
    refine XS.dup X782.here hx rfl (hb hby at_317) rfl rfl ?_
    refine XS.bipush X782.here hx rfl (hb hby at_318) ?_
    refine X782.ldc2Long hx hown744 (mvT hZ744 (own_w hw 221 rfl)) (g := (mkF m 320 (own_Lp p1 p2 p3 p4 fs rs kk mm b734 b737 b739 b745 (iv (Int32.ofNat (fs.length + 1))) .unset .unset) [(.int (7 : Int32)), (.ref b767), (.ref b767)])) rfl (hb hby at_320) _ ?_
    refine st784 _ ?_
    refine XS.dup X784.here hx rfl (hb hby at_324) rfl rfl ?_
    refine XS.bipush X784.here hx rfl (hb hby at_325) ?_
    refine X784.ldc2Long hx hown744 (mvT hZ744 (own_w hw 222 rfl)) (g := (mkF m 327 (own_Lp p1 p2 p3 p4 fs rs kk mm b734 b737 b739 b745 (iv (Int32.ofNat (fs.length + 1))) .unset .unset) [(.int (8 : Int32)), (.ref b767), (.ref b767)])) rfl (hb hby at_327) _ ?_
    refine st786 _ ?_
    refine XS.dup X786.here hx rfl (hb hby at_331) rfl rfl ?_
    refine XS.bipush X786.here hx rfl (hb hby at_332) ?_
    refine X786.ldc2Long hx hown744 (mvT hZ744 (own_w hw 223 rfl)) (g := (mkF m 334 (own_Lp p1 p2 p3 p4 fs rs kk mm b734 b737 b739 b745 (iv (Int32.ofNat (fs.length + 1))) .unset .unset) [(.int (9 : Int32)), (.ref b767), (.ref b767)])) rfl (hb hby at_334) _ ?_
    refine st788 _ ?_
    refine XS.astore X788.here hx rfl (hb hby at_338) rfl rfl (l' := (own_Lp p1 p2 p3 p4 fs rs kk mm b734 b737 b739 b745 (iv (Int32.ofNat (fs.length + 1))) (rv b767) .unset)) rfl ?_
    refine own_a X788 hx hby at_340 ?_
    refine own_i X788 hx hby at_342 ?_
    refine XS.lload X788.here hx rfl (hb hby at_344) rfl ?_
    refine own_i X788 hx hby at_346 ?_
    refine own_k X788 hx hby at_348 ?_
    refine own_a X788 hx hby at_349 ?_
    refine st795 _ ?_
    refine own_in X795 hx hby at_354 (feq (by decide : ¬ ((1 : Int32) = (0 : Int32)))).1 ?_
    refine own_a X795 hx hby at_357 ?_
    refine own_i X795 hx hby at_359 ?_
    refine XS.lload X795.here hx rfl (hb hby at_361) rfl ?_
    refine own_i X795 hx hby at_363 ?_
    refine own_k X795 hx hby at_365 ?_
    refine own_a X795 hx hby at_366 ?_
    refine st802 _ ?_
    refine own_in X802 hx hby at_371 (feq (by decide : ¬ ((1 : Int32) = (0 : Int32)))).1 ?_
    refine own_a X802 hx hby at_374 ?_
    refine own_i X802 hx hby at_376 ?_
    refine XS.lload X802.here hx rfl (hb hby at_378) rfl ?_
    refine own_i X802 hx hby at_380 ?_
    refine own_k X802 hx hby at_382 ?_
    refine own_a X802 hx hby at_383 ?_
    refine st806 _ ?_
    refine own_in X806 hx hby at_388 (feq (by decide : ¬ ((1 : Int32) = (0 : Int32)))).1 ?_
    refine own_a X806 hx hby at_391 ?_
    refine own_i X806 hx hby at_393 ?_
    refine XS.lload X806.here hx rfl (hb hby at_395) rfl ?_
    refine own_i X806 hx hby at_397 ?_
    refine own_k X806 hx hby at_399 ?_
    refine own_a X806 hx hby at_400 ?_
    refine st810 _ ?_
    refine own_in X810 hx hby at_405 (feq (by decide : ¬ ((1 : Int32) = (0 : Int32)))).1 ?_
    refine own_a X810 hx hby at_408 ?_
    refine own_i X810 hx hby at_410 ?_
    refine XS.lload X810.here hx rfl (hb hby at_412) rfl ?_
    refine own_i X810 hx hby at_414 ?_
    refine own_k X810 hx hby at_416 ?_
    refine own_a X810 hx hby at_417 ?_
    refine st814 _ ?_
    refine own_in X814 hx hby at_422 (feq (by decide : ¬ ((1 : Int32) = (0 : Int32)))).1 ?_
    refine own_a X814 hx hby at_425 ?_
    refine own_i X814 hx hby at_427 ?_
    refine XS.lload X814.here hx rfl (hb hby at_429) rfl ?_
    refine own_i X814 hx hby at_431 ?_
    refine own_k X814 hx hby at_433 ?_
    refine own_a X814 hx hby at_434 ?_
    refine st818 _ ?_
    refine own_in X818 hx hby at_439 (feq (by decide : ¬ ((1 : Int32) = (0 : Int32)))).1 ?_
    refine own_a X818 hx hby at_442 ?_
    refine own_i X818 hx hby at_444 ?_
    refine XS.lload X818.here hx rfl (hb hby at_446) rfl ?_
    refine own_i X818 hx hby at_448 ?_
    refine XS.bipush X818.here hx rfl (hb hby at_450) ?_
    refine own_a X818 hx hby at_452 ?_
    refine st822 _ ?_
    refine own_in X822 hx hby at_457 (feq (by decide : ¬ ((1 : Int32) = (0 : Int32)))).1 ?_
    refine own_a X822 hx hby at_460 ?_
    refine own_i X822 hx hby at_462 ?_
    refine XS.lload X822.here hx rfl (hb hby at_464) rfl ?_
    refine own_i X822 hx hby at_466 ?_
    refine XS.bipush X822.here hx rfl (hb hby at_468) ?_
    refine own_a X822 hx hby at_470 ?_
    refine st826 _ ?_
    refine own_in X826 hx hby at_475 (feq (by decide : ¬ ((1 : Int32) = (0 : Int32)))).1 ?_
    refine own_a X826 hx hby at_478 ?_
    refine own_i X826 hx hby at_480 ?_
    refine XS.lload X826.here hx rfl (hb hby at_482) rfl ?_
    refine own_i X826 hx hby at_484 ?_
    refine XS.bipush X826.here hx rfl (hb hby at_486) ?_
    refine own_a X826 hx hby at_488 ?_
    refine st830 _ ?_
    refine own_in X830 hx hby at_493 (feq (by decide : ¬ ((1 : Int32) = (0 : Int32)))).1 ?_
    refine own_a X830 hx hby at_496 ?_
    refine own_i X830 hx hby at_498 ?_
    refine XS.lload X830.here hx rfl (hb hby at_500) rfl ?_
    refine own_i X830 hx hby at_502 ?_
    refine XS.bipush X830.here hx rfl (hb hby at_504) ?_
    refine own_a X830 hx hby at_506 ?_
    refine st834 _ ?_
    refine own_in X834 hx hby at_511 (feq (by decide : ¬ ((1 : Int32) = (0 : Int32)))).1 ?_
    refine own_k X834 hx hby at_514 ?_
    refine own_go (pc := 515) X834 hx hby at_515 519 ?_
    refine XS.istore X834.here hx rfl (hb hby at_519) rfl (l' := (own_Lp p1 p2 p3 p4 fs rs kk mm b734 b737 b739 b745 (iv (Int32.ofNat (fs.length + 1))) (rv b767) (iv (1 : Int32)))) rfl ?_
    refine own_i X834 hx hby at_521 ?_
    refine own_in X834 hx hby at_523 (feq (by decide : ¬ ((1 : Int32) = (0 : Int32)))).1 ?_
    refine own_a X834 hx hby at_526 ?_
    refine own_i X834 hx hby at_528 ?_
    refine st838 _ ?_
    refine XS.bipush X838.here hx rfl (hb hby at_533) ?_
    refine own_cn X838 hx hby at_535 (teq (rfl : (58 : Int32) = (58 : Int32))).2 ?_
    refine own_a X838 hx hby at_538 ?_
    refine own_i X838 hx hby at_540 ?_
    refine own_k X838 hx hby at_542 ?_
    refine XS.iadd X838.here hx rfl (hb hby at_543) rfl ?_
    show own_S p e below T838 (mkF m 544 (own_Lp p1 p2 p3 p4 fs rs kk mm b734 b737 b739 b745 (iv (Int32.ofNat (fs.length + 1))) (rv b767) (iv (1 : Int32))) [(.int ((Int32.ofNat (fs.length + 1 + kk)) + (1 : Int32))), (.ref b745)]) _
    rw [hc152]
    refine st842 _ ?_
    refine XS.bipush X842.here hx rfl (hb hby at_547) ?_
    refine own_cn X842 hx hby at_549 (teq (rfl : (32 : Int32) = (32 : Int32))).2 ?_
    refine own_a X842 hx hby at_552 ?_
    refine own_i X842 hx hby at_554 ?_
    refine own_k X842 hx hby at_556 ?_
    refine XS.iadd X842.here hx rfl (hb hby at_557) rfl ?_
    show own_S p e below T842 (mkF m 558 (own_Lp p1 p2 p3 p4 fs rs kk mm b734 b737 b739 b745 (iv (Int32.ofNat (fs.length + 1))) (rv b767) (iv (1 : Int32))) [(.int ((Int32.ofNat (fs.length + 1 + kk)) + (2 : Int32))), (.ref b745)]) _
    rw [hc146]
    refine own_a X842 hx hby at_558 ?_
    refine st846 _ ?_
    refine own_in X846 hx hby at_563 (feq (by decide : ¬ ((1 : Int32) = (0 : Int32)))).1 ?_
    refine own_k X846 hx hby at_566 ?_
    refine own_go (pc := 567) X846 hx hby at_567 571 ?_
    exact retN X846 hx (t := .boolean) hret (by simp) (hb hby at_571) hr
  · show Qrm0_p Z  h0 _ T846.heap _
    exact ⟨rfl, N846⟩
  · rw [hs0]
    show CHr Z consts_1 s.vm h0 T846.vm T846.heap
    rw [e846]
    exact CR788.trans (CHv.at (s := s) (vm0 := T744.vm) X846 hZ744 (own_hEL hw) CR788.1)
def Qrm0_n (Z : State)  (h0 : Heap) (v : Option Value) (h : Heap) (L : List Loc) : Prop := v = some (.int 1) ∧ Fr Z.heap.size L
theorem rm0_n (l : Launch) (Z : State) (a0 : Array Value) (hw : own_HW Z a0) (ws : List Jvm.Cond) (w_CS : Int32) (w_SF : Value) (p1 p2 p3 p4 : Int32) (kk : Nat) (w_DO : Addr) (k_w_DO : ClassId) (w_DT : Addr) (k_w_DT : ClassId) (mm : Int64) (fs rs : List Int32) (h0 : Heap) (Z0 : Ext Z.heap h0) (S_w_CS : own_w_CS Z w_CS) (S_w_DO : own_Sw_DO Z w_DO) (A_w_DO : Arv Z Z.heap w_DO k_w_DO .byte (100 : Int32) own_ones (.int (0 : Int32))) (S_w_DT : own_Sw_DT Z w_DT) (A_w_DT : Arv Z Z.heap w_DT k_w_DT .byte (100 : Int32) own_tens (.int (0 : Int32))) (R_w_SF : w_SF.isRef = true) (S_w_SF : own_w_SF Z w_SF) (hc128 : (p4 &&& (3 : Int32)) = (Int32.ofNat fs.length)) (hc129 : (((p4.toUInt32 >>> ((2 : Int32) &&& 31).toUInt32).toInt32) &&& (3 : Int32)) = (Int32.ofNat rs.length)) (hc1 : ¬ (w_CS = (0 : Int32))) (hc130 : own_mk fs p1) (hc131 : own_mk rs p2) (hc140 : ¬ (p3 = (0 : Int32))) (hc155 : own_nd p3 (kk + 1)) (hc126 : fs.length ≤ 3) (hc127 : rs.length ≤ 3) (hc156 : (lcmpW (p3.toInt64) (0 : Int64)) < (0 : Int32)) (hc157 : (-(p3.toInt64)) = mm) (hc79 : own_nm mm kk) (hc137 : ((Int32.ofNat fs.length) + (1 : Int32)) = (Int32.ofNat (fs.length + 1))) (hc158 : ((Int32.ofNat (fs.length + 1)) + (1 : Int32)) = (Int32.ofNat (fs.length + 2))) (hc159 : ((Int32.ofNat (fs.length + 2)) + (Int32.ofNat kk)) = (Int32.ofNat (fs.length + 2 + kk))) (hc160 : ((Int32.ofNat (fs.length + 2 + kk)) + (2 : Int32)) = (Int32.ofNat (fs.length + 2 + kk + 2))) (hc161 : ((Int32.ofNat (fs.length + 2 + kk + 2)) + (Int32.ofNat rs.length)) = (Int32.ofNat (own_vn fs p3 (kk + 1) rs).length)) (hc162 : own_sg (own_vn fs p3 (kk + 1) rs) 0 fs) (hc163 : own_at (own_vn fs p3 (kk + 1) rs) (Int32.ofNat fs.length) (58 : Int32) (58 : Int32)) (hc164 : own_at (own_vn fs p3 (kk + 1) rs) (Int32.ofNat (fs.length + 1)) (45 : Int32) (45 : Int32)) (hc165 : own_sub (own_vn fs p3 (kk + 1) rs) (fs.length + 2) kk mm) (hc166 : own_at (own_vn fs p3 (kk + 1) rs) (Int32.ofNat (fs.length + 2 + kk)) (58 : Int32) (58 : Int32)) (hc167 : ((Int32.ofNat (fs.length + 2 + kk)) + (1 : Int32)) = (Int32.ofNat (fs.length + 2 + kk + 1))) (hc168 : own_at (own_vn fs p3 (kk + 1) rs) (Int32.ofNat (fs.length + 2 + kk + 1)) (32 : Int32) (32 : Int32)) (hc169 : own_sg (own_vn fs p3 (kk + 1) rs) (fs.length + 2 + kk + 2) rs) :
    own_metW l x code maxLocals ret ws room_1 Z #[(.int p1), (.int p2), (.int p3), (.int p4)] h0 (Qrm0_n Z  h0) := by
  refine own_startW (plainFor_of_name pn_8) (fun m => ef_code_IIII m p1 p2 p3 p4) ?_
  intro p e s m below meth c s₁ hx hby hml hown hnm X0 hZ e0 hret hlk hs0 hC0
  have N0 := Fr.nil Z.heap.size
  have CR0 : CHr Z consts_1 s.vm h0 s.vm h0 := CHr.refl hC0
  have hS0 : s.Since s.vm 0 := (State.WarmedH.refl s).since 0
  have hk0 : 0 ≤ h0.size := Nat.zero_le _
  obtain ⟨_, T850, Lc850, X850, hQ850, hS850, hZ850, hown850, hC850, st850⟩ := own_staticW (y := y_40) (s := s) (vm0 := s.vm) X0 hx hZ hown (own_w hw 0 rfl) (own_w hw 1 rfl) (own_w hw 2 rfl) (own_w hw 3 rfl) (own_mkJ l Z a0 hw [] w_CS p1 fs h0 Z0 S_w_CS hc1 hc130) e0 (own_hEL hw) CR0.1 hS0 hk0 (g := (mkF m 15 #[iv p1, iv p2, iv p3, iv p4, iv (Int32.ofNat fs.length), iv (Int32.ofNat rs.length), .unset, .unset, .unset, .unset, .unset, .unset, .unset, .unset, .unset, .unset, .unset, .unset, .unset, .unset, .unset] [(.int p1), (.int (Int32.ofNat fs.length))])) (argsL := [(.int (Int32.ofNat fs.length)), (.int p1)]) (rest := []) (W := 0) (lenOf pd_31 rfl) (hb hby at_15) hml
  obtain ⟨b851, rfl, N850q, K850q, szn_b851, q850_E_b851, q850_T_b851⟩ := hQ850
  have XX850 := own_extK Z0 K850q all0
  have N850 := Fr.app N0 N850q
  have CR850 := CR0.trans hC850
  have hk850 : T850.heap.size ≤ T850.heap.size := Nat.le_refl _
  obtain ⟨h850, e850⟩ : ∃ z, T850.heap = z := ⟨_, rfl⟩
  rw [e850] at K850q XX850 CR850 hS850 hk850 q850_E_b851 q850_T_b851
  obtain ⟨a852, ka852, oV852, oC852, oA852⟩ := id q850_T_b851
  obtain ⟨_, T853, Lc853, X853, hQ853, hS853, hZ853, hown853, hC853, st853⟩ := own_staticW (y := y_40) (s := s) (vm0 := T850.vm) X850 hx hZ850 hown850 (own_w hw 0 rfl) (own_w hw 1 rfl) (own_w hw 2 rfl) (own_w hw 3 rfl) (own_mkJ l Z a0 hw [] w_CS p2 rs h850 XX850 S_w_CS hc1 hc131) e850 (own_hEL hw) CR850.1 hS850 hk850 (g := (mkF m 23 #[iv p1, iv p2, iv p3, iv p4, iv (Int32.ofNat fs.length), iv (Int32.ofNat rs.length), rv b851, .unset, .unset, .unset, .unset, .unset, .unset, .unset, .unset, .unset, .unset, .unset, .unset, .unset, .unset] [(.int p2), (.int (Int32.ofNat rs.length))])) (argsL := [(.int (Int32.ofNat rs.length)), (.int p2)]) (rest := []) (W := 0) (lenOf pd_31 rfl) (hb hby at_23) hml
  obtain ⟨b854, rfl, N853q, K853q, szn_b854, q853_E_b854, q853_T_b854⟩ := hQ853
  have XX853 := own_extK XX850 K853q all0
  have N853 := Fr.app N850 N853q
  have CR853 := CR850.trans hC853
  have hk853 : T853.heap.size ≤ T853.heap.size := Nat.le_refl _
  obtain ⟨h853, e853⟩ : ∃ z, T853.heap = z := ⟨_, rfl⟩
  rw [e853] at K853q XX853 CR853 hS853 hk853 q853_E_b854 q853_T_b854
  obtain ⟨a855, ka855, oV855, oC855, oA855⟩ := id q853_T_b854
  obtain ⟨T856, h856, X856, e856, E856, A856, D856, -, st856⟩ := newO X853 hx hZ853 hown853 (own_w hw 37 rfl) (own_w hw 38 rfl) (own_w hw 39 rfl) e853 (g := (mkF m 28 #[iv p1, iv p2, iv p3, iv p4, iv (Int32.ofNat fs.length), iv (Int32.ofNat rs.length), rv b851, rv b854, .unset, .unset, .unset, .unset, .unset, .unset, .unset, .unset, .unset, .unset, .unset, .unset, .unset] [])) rfl (hb hby at_28) (by decide) (by decide)
  obtain ⟨b856, g856⟩ : ∃ z, z = h853.size := ⟨_, rfl⟩
  rw [← g856] at A856 D856 st856
  have g_b856 := Nat.le_trans XX853.1 (Nat.le_of_eq g856.symm)
  have F_b856_file : Fld Z h856 b856 own_cP "file" "Ljava/lang/String;" .null := D856 (Or.inr (own_w hw 45 rfl)) (ty := (.object own_cS)) (by decide)
  have F_b856_line : Fld Z h856 b856 own_cP "line" "I" (.int (0 : Int32)) := D856 (Or.inr (own_w hw 47 rfl)) (ty := .int) (by decide)
  have F_b856_reason : Fld Z h856 b856 own_cP "reason" "Ljava/lang/String;" .null := D856 (Or.inr (own_w hw 49 rfl)) (ty := (.object own_cS)) (by decide)
  have XX856 := own_ext2 XX853 E856
  have CQ856 := CHr.ext E856 CR853.1
  have CR856 := CR853.trans CQ856
  have hk856 := Nat.le_trans hk853 CQ856.2.1
  have sf859_b856 : Safe Z consts_1 T853.vm h856 b856 := Safe.exa hZ853.alike A856 (by decide) (by decide)
  obtain ⟨_, T860, Lc860, X860, hQ860, st860⟩ := own_special (y := y_44) X856 hx hZ853 hown853 rfl (own_w hw 40 rfl) (own_w hw 41 rfl) (own_w hw 39 rfl) (own_w hw 42 rfl) (rm693 l Z a0 hw [] p3 b851 b854 b856 h856 XX856 A856 F_b856_file F_b856_line F_b856_reason g_b856) e856 b856 (g := (mkF m 37 #[iv p1, iv p2, iv p3, iv p4, iv (Int32.ofNat fs.length), iv (Int32.ofNat rs.length), rv b851, rv b854, .unset, .unset, .unset, .unset, .unset, .unset, .unset, .unset, .unset, .unset, .unset, .unset, .unset] [(.ref b854), (.int p3), (.ref b851), (.ref b856), (.ref b856)])) (argsL := [(.ref b851), (.int p3), (.ref b854)]) (rest := [(.ref b856)]) (W := 1) (lenOf pd_32 rfl) (hb hby at_37) hml
  obtain ⟨rfl, N860q, K860q, q860_E_b856, q860_F_b856_file, q860_F_b856_line, q860_F_b856_reason⟩ := hQ860
  have XX860 := own_extK XX856 K860q (allS g_b856 all0)
  have N860 := Fr.app N853 N860q
  have hs860 : ∀ x ∈ [b856], Safe Z consts_1 T853.vm h856 x := (allS sf859_b856 all0)
  have CQ860 := CHr.keep K860q hs860 CR856.1
  have sf860_b856 := Safe.keep K860q hs860 CR856.1 sf859_b856
  have CR860 := CR856.trans CQ860
  have hk860 := Nat.le_trans hk856 CQ860.2.1
  have ne_b851_b856 := Nat.ne_of_lt (Nat.lt_of_lt_of_le (q850_E_b851.keep K853q).lt (Nat.le_of_eq g856.symm))
  have f863_F_b851_coder := (((oC852.keep K853q nin0).ext E856).keep K860q (ninS ne_b851_b856 (nin0)))
  have f864_F_b851_value := (((oV852.keep K853q nin0).ext E856).keep K860q (ninS ne_b851_b856 (nin0)))
  have ne_a852_b856 := Nat.ne_of_lt (Nat.lt_of_lt_of_le (oA852.keep K853q nin0).lt (Nat.le_of_eq g856.symm))
  have f865_V_a852 := (((oA852.keep K853q nin0).ext E856).keep K860q (ninS ne_a852_b856 (nin0)))
  have ne_b854_b856 := Nat.ne_of_lt (Nat.lt_of_lt_of_le q853_E_b854.lt (Nat.le_of_eq g856.symm))
  have ne_a855_b856 := Nat.ne_of_lt (Nat.lt_of_lt_of_le oA855.lt (Nat.le_of_eq g856.symm))
  obtain ⟨_, T861, Lc861, X861, hQ861, hS861, hZ861, hown861, hC861, st861⟩ := own_virtualW (y := y_43) (s := s) (vm0 := T853.vm) X860 hx hZ853 hown853 (own_w hw 50 rfl) (own_w hw 51 rfl) (own_w hw 53 rfl) (own_w hw 52 rfl) (own_w hw 39 rfl) (own_w hw 54 rfl) (own_tsN l Z a0 hw [] w_CS p3 (kk + 1) w_DO k_w_DO w_DT k_w_DT fs rs b856 b851 a852 ka852 b854 a855 ka855 T860.heap XX860 S_w_CS S_w_DO A_w_DO S_w_DT A_w_DT q860_E_b856 q860_F_b856_file q860_F_b856_line q860_F_b856_reason (((q850_E_b851.keep K853q).ext E856).keep K860q) f863_F_b851_coder f864_F_b851_value f865_V_a852 ((q853_E_b854.ext E856).keep K860q) ((oC855.ext E856).keep K860q (ninS ne_b854_b856 (nin0))) ((oV855.ext E856).keep K860q (ninS ne_b854_b856 (nin0))) ((oA855.ext E856).keep K860q (ninS ne_a855_b856 (nin0))) hc1 hc140 hc155 hc126 hc127) rfl (own_hEL hw) CR860.1 hS853 hk860 q860_E_b856 (g := (mkF m 44 #[iv p1, iv p2, iv p3, iv p4, iv (Int32.ofNat fs.length), iv (Int32.ofNat rs.length), rv b851, rv b854, rv b856, .unset, .unset, .unset, .unset, .unset, .unset, .unset, .unset, .unset, .unset, .unset, .unset] [(.ref b856)])) (argsL := []) (rest := []) (W := 0) (lenOf pd_29 rfl) (hb hby at_44) hml
  obtain ⟨b862, rfl, N861q, K861q, szn_b862, q861_E_b862, q861_T_b862⟩ := hQ861
  have XX861 := own_extK XX860 K861q all0
  have N861 := Fr.app N860 N861q
  have sf861_b856 := hC861.safe q860_E_b856.lt sf860_b856
  have CR861 := CR860.trans hC861
  have hk861 : T861.heap.size ≤ T861.heap.size := Nat.le_refl _
  obtain ⟨h861, e861⟩ : ∃ z, T861.heap = z := ⟨_, rfl⟩
  rw [e861] at K861q XX861 CR861 hS861 hk861 sf861_b856 q861_E_b862 q861_T_b862
  obtain ⟨a866, ka866, oV866, oC866, oA866⟩ := id q861_T_b862
  have f868_E_b851 := ((((q850_E_b851.keep K853q).ext E856).keep K860q).keep K861q)
  obtain ⟨_, T871, Lc871, X871, hQ871, st871⟩ := own_static (y := y_33) X861 hx hZ861 hown861 (own_w hw 185 rfl) (own_w hw 186 rfl) (own_w hw 2 rfl) (own_w hw 187 rfl) (own_ndJ l Z a0 hw [] mm kk h861 XX861 hc79) e861 (g := (mkF m 169 #[iv p1, iv p2, iv p3, iv p4, iv (Int32.ofNat fs.length), iv (Int32.ofNat rs.length), rv b851, rv b854, rv b856, rv b862, .val (.long (p3.toInt64)), .second, iv (1 : Int32), .val (.long mm), .second, .unset, .unset, .unset, .unset, .unset, .unset] [(.long mm)])) (argsL := [(.long mm)]) (rest := []) (W := 0) (lenOf pd_34 rfl) (hb hby at_169) hml
  obtain ⟨rfl, N871q, e871⟩ := hQ871
  have N871 := Fr.app N861 N871q
  obtain ⟨_, T875, Lc875, X875, hQ875, st875⟩ := own_virtual (y := y_12) X871 hx hZ861 hown861 (own_w hw 189 rfl) (own_w hw 84 rfl) (own_w hw 86 rfl) (own_w hw 85 rfl) (own_w hw 6 rfl) (own_w hw 87 rfl) (rm306 l Z a0 hw [] w_CS (own_vn fs p3 (kk + 1) rs) b862 a866 ka866 h861 XX861 S_w_CS q861_E_b862 oC866 oV866 oA866 hc1) e871 q861_E_b862 (g := (mkF m 200 (own_Ln p1 p2 p3 p4 fs rs kk mm b851 b854 b856 b862 .unset .unset .unset) [(.ref b862)])) (argsL := []) (rest := []) (W := 0) (lenOf pd_9 rfl) (hb hby at_200) hml
  obtain ⟨rfl, N875q, e875⟩ := hQ875
  have N875 := Fr.app N871 N875q
  obtain ⟨_, T879, Lc879, X879, hQ879, st879⟩ := own_static (y := y_32) X875 hx hZ861 hown861 (own_w hw 190 rfl) (own_w hw 191 rfl) (own_w hw 2 rfl) (own_w hw 192 rfl) (own_sgJ l Z a0 hw [] w_CS w_SF (own_vn fs p3 (kk + 1) rs) b862 a866 ka866 0 b851 a852 ka852 fs h861 XX861 S_w_CS R_w_SF S_w_SF q861_E_b862 oC866 oV866 oA866 f868_E_b851 (f863_F_b851_coder.keep K861q nin0) (f864_F_b851_value.keep K861q nin0) (f865_V_a852.keep K861q nin0) hc1 hc162) e875 (g := (mkF m 220 (own_Ln p1 p2 p3 p4 fs rs kk mm b851 b854 b856 b862 .unset .unset .unset) [(.ref b851), (.int (0 : Int32)), (.ref b862)])) (argsL := [(.ref b862), (.int (0 : Int32)), (.ref b851)]) (rest := []) (W := 0) (lenOf pd_33 rfl) (hb hby at_220) hml
  obtain ⟨rfl, N879q, e879⟩ := hQ879
  have N879 := Fr.app N875 N879q
  obtain ⟨_, T883, Lc883, X883, hQ883, st883⟩ := own_virtual (y := y_31) X879 hx hZ861 hown861 (own_w hw 193 rfl) (own_w hw 194 rfl) (own_w hw 196 rfl) (own_w hw 195 rfl) (own_w hw 6 rfl) (own_w hw 197 rfl) (rm310 l Z a0 hw [] w_CS w_SF (Int32.ofNat fs.length) (own_vn fs p3 (kk + 1) rs) b862 a866 ka866 (58 : Int32) (58 : Int32) h861 XX861 S_w_CS S_w_SF R_w_SF q861_E_b862 oC866 oV866 oA866 hc1 hc163) e879 q861_E_b862 (g := (mkF m 232 (own_Ln p1 p2 p3 p4 fs rs kk mm b851 b854 b856 b862 .unset .unset .unset) [(.int (Int32.ofNat fs.length)), (.ref b862)])) (argsL := [(.int (Int32.ofNat fs.length))]) (rest := []) (W := 0) (lenOf pd_21 rfl) (hb hby at_232) hml
  obtain ⟨rfl, N883q, e883⟩ := hQ883
  have N883 := Fr.app N879 N883q
  obtain ⟨_, T887, Lc887, X887, hQ887, st887⟩ := own_virtual (y := y_31) X883 hx hZ861 hown861 (own_w hw 193 rfl) (own_w hw 194 rfl) (own_w hw 196 rfl) (own_w hw 195 rfl) (own_w hw 6 rfl) (own_w hw 197 rfl) (rm310 l Z a0 hw [] w_CS w_SF (Int32.ofNat (fs.length + 1)) (own_vn fs p3 (kk + 1) rs) b862 a866 ka866 (45 : Int32) (45 : Int32) h861 XX861 S_w_CS S_w_SF R_w_SF q861_E_b862 oC866 oV866 oA866 hc1 hc164) e883 q861_E_b862 (g := (mkF m 253 (own_Ln p1 p2 p3 p4 fs rs kk mm b851 b854 b856 b862 .unset .unset .unset) [(.int (Int32.ofNat (fs.length + 1))), (.ref b862)])) (argsL := [(.int (Int32.ofNat (fs.length + 1)))]) (rest := []) (W := 0) (lenOf pd_21 rfl) (hb hby at_253) hml
  obtain ⟨rfl, N887q, e887⟩ := hQ887
  have N887 := Fr.app N883 N887q
  obtain ⟨T888, h888, k888, X888, e888, E888, A888, EX888, st888⟩ := newPE X887 hx hZ861 (own_w hw 215 rfl) e887 (g := (mkF m 274 (own_Ln p1 p2 p3 p4 fs rs kk mm b851 b854 b856 b862 (iv (Int32.ofNat (fs.length + 2))) .unset .unset) [(.int (10 : Int32))])) rfl (hb hby at_274) rfl (by decide) (cap := 10) (by decide) (by decide) (by decide) (by decide) (ad := "[J") (by decide)
  obtain ⟨b888, g888⟩ : ∃ z, z = h861.size := ⟨_, rfl⟩
  rw [← g888] at A888 EX888 st888
  have g_b888 := Nat.le_trans XX861.1 (Nat.le_of_eq g888.symm)
  have V_b888 : Arv Z h888 b888 k888 .long (10 : Int32) [(.long (0 : Int64)), (.long (0 : Int64)), (.long (0 : Int64)), (.long (0 : Int64)), (.long (0 : Int64)), (.long (0 : Int64)), (.long (0 : Int64)), (.long (0 : Int64)), (.long (0 : Int64)), (.long (0 : Int64))] (.long (0 : Int64)) := (Arv.new A888 (by decide)).pad (pad_rep [] (.long (0 : Int64)) 10)
  have XX888 := own_ext2 XX861 E888
  have CQ888 := CHr.ext E888 CR861.1
  have CR888 := CR861.trans CQ888
  have hk888 := Nat.le_trans hk861 CQ888.2.1
  have sf889_b888 : Safe Z consts_1 T861.vm h888 b888 := Safe.exa hZ861.alike EX888 (by decide) (by decide)
  obtain ⟨cl890, Ar890, q890, S890, Nn890, H890, G890⟩ := id V_b888
  have hin890 : ¬ ((0 : Int32) < 0 ∨ cl890.slots.size ≤ ((0 : Int32)).toNatClampNeg) := inb_of S890 ⟨by decide, by decide⟩
  obtain ⟨T891, h891, X891, e891, W891, st891⟩ := stJ X888 hx hZ861 e888 Ar890 (j := (0 : Int32)) hin890 (g := (mkF m 279 (own_Ln p1 p2 p3 p4 fs rs kk mm b851 b854 b856 b862 (iv (Int32.ofNat (fs.length + 2))) .unset .unset) [(.long (1 : Int64)), (.int (0 : Int32)), (.ref b888), (.ref b888)])) rfl rfl (hb hby at_279)
  have V891 : Arv Z h891 b888 k888 .long (10 : Int32) [(.long (1 : Int64)), (.long (0 : Int64)), (.long (0 : Int64)), (.long (0 : Int64)), (.long (0 : Int64)), (.long (0 : Int64)), (.long (0 : Int64)), (.long (0 : Int64)), (.long (0 : Int64)), (.long (0 : Int64))] (.long (0 : Int64)) := Arv.set Ar890 q890 S890 Nn890 H890 G890 rfl W891 0 rfl (Nat.le_of_ble_eq_true rfl)
  have XX891 := own_extW XX888 W891 g_b888
  have N891 := Fr.snoc X891 N887 g_b888
  have CQ891 := CHr.wr W891 sf889_b888 CR888.1
  have sf891_b888 := Safe.wr W891 sf889_b888 CR888.1 sf889_b888
  have CR891 := CR888.trans CQ891
  have hk891 := Nat.le_trans hk888 CQ891.2.1
  obtain ⟨cl892, Ar892, q892, S892, Nn892, H892, G892⟩ := id V891
  have hin892 : ¬ ((1 : Int32) < 0 ∨ cl892.slots.size ≤ ((1 : Int32)).toNatClampNeg) := inb_of S892 ⟨by decide, by decide⟩
  obtain ⟨T893, h893, X893, e893, W893, st893⟩ := stJ X891 hx hZ861 e891 Ar892 (j := (1 : Int32)) hin892 (g := (mkF m 285 (own_Ln p1 p2 p3 p4 fs rs kk mm b851 b854 b856 b862 (iv (Int32.ofNat (fs.length + 2))) .unset .unset) [(.long (10 : Int64)), (.int (1 : Int32)), (.ref b888), (.ref b888)])) rfl rfl (hb hby at_285)
  have V893 : Arv Z h893 b888 k888 .long (10 : Int32) [(.long (1 : Int64)), (.long (10 : Int64)), (.long (0 : Int64)), (.long (0 : Int64)), (.long (0 : Int64)), (.long (0 : Int64)), (.long (0 : Int64)), (.long (0 : Int64)), (.long (0 : Int64)), (.long (0 : Int64))] (.long (0 : Int64)) := Arv.set Ar892 q892 S892 Nn892 H892 G892 rfl W893 1 rfl (Nat.le_of_ble_eq_true rfl)
  have XX893 := own_extW XX891 W893 g_b888
  have N893 := Fr.snoc X893 N891 g_b888
  have CQ893 := CHr.wr W893 sf891_b888 CR891.1
  have sf893_b888 := Safe.wr W893 sf891_b888 CR891.1 sf891_b888
  have CR893 := CR891.trans CQ893
  have hk893 := Nat.le_trans hk891 CQ893.2.1
  obtain ⟨cl894, Ar894, q894, S894, Nn894, H894, G894⟩ := id V893
  have hin894 : ¬ ((2 : Int32) < 0 ∨ cl894.slots.size ≤ ((2 : Int32)).toNatClampNeg) := inb_of S894 ⟨by decide, by decide⟩
  obtain ⟨T895, h895, X895, e895, W895, st895⟩ := stJ X893 hx hZ861 e893 Ar894 (j := (2 : Int32)) hin894 (g := (mkF m 291 (own_Ln p1 p2 p3 p4 fs rs kk mm b851 b854 b856 b862 (iv (Int32.ofNat (fs.length + 2))) .unset .unset) [(.long (100 : Int64)), (.int (2 : Int32)), (.ref b888), (.ref b888)])) rfl rfl (hb hby at_291)
  have V895 : Arv Z h895 b888 k888 .long (10 : Int32) [(.long (1 : Int64)), (.long (10 : Int64)), (.long (100 : Int64)), (.long (0 : Int64)), (.long (0 : Int64)), (.long (0 : Int64)), (.long (0 : Int64)), (.long (0 : Int64)), (.long (0 : Int64)), (.long (0 : Int64))] (.long (0 : Int64)) := Arv.set Ar894 q894 S894 Nn894 H894 G894 rfl W895 2 rfl (Nat.le_of_ble_eq_true rfl)
  have XX895 := own_extW XX893 W895 g_b888
  have N895 := Fr.snoc X895 N893 g_b888
  have CQ895 := CHr.wr W895 sf893_b888 CR893.1
  have sf895_b888 := Safe.wr W895 sf893_b888 CR893.1 sf893_b888
  have CR895 := CR893.trans CQ895
  have hk895 := Nat.le_trans hk893 CQ895.2.1
  obtain ⟨cl896, Ar896, q896, S896, Nn896, H896, G896⟩ := id V895
  have hin896 : ¬ ((3 : Int32) < 0 ∨ cl896.slots.size ≤ ((3 : Int32)).toNatClampNeg) := inb_of S896 ⟨by decide, by decide⟩
  obtain ⟨T897, h897, X897, e897, W897, st897⟩ := stJ X895 hx hZ861 e895 Ar896 (j := (3 : Int32)) hin896 (g := (mkF m 297 (own_Ln p1 p2 p3 p4 fs rs kk mm b851 b854 b856 b862 (iv (Int32.ofNat (fs.length + 2))) .unset .unset) [(.long (1000 : Int64)), (.int (3 : Int32)), (.ref b888), (.ref b888)])) rfl rfl (hb hby at_297)
  have V897 : Arv Z h897 b888 k888 .long (10 : Int32) [(.long (1 : Int64)), (.long (10 : Int64)), (.long (100 : Int64)), (.long (1000 : Int64)), (.long (0 : Int64)), (.long (0 : Int64)), (.long (0 : Int64)), (.long (0 : Int64)), (.long (0 : Int64)), (.long (0 : Int64))] (.long (0 : Int64)) := Arv.set Ar896 q896 S896 Nn896 H896 G896 rfl W897 3 rfl (Nat.le_of_ble_eq_true rfl)
  have XX897 := own_extW XX895 W897 g_b888
  have N897 := Fr.snoc X897 N895 g_b888
  have CQ897 := CHr.wr W897 sf895_b888 CR895.1
  have sf897_b888 := Safe.wr W897 sf895_b888 CR895.1 sf895_b888
  have CR897 := CR895.trans CQ897
  have hk897 := Nat.le_trans hk895 CQ897.2.1
  obtain ⟨cl898, Ar898, q898, S898, Nn898, H898, G898⟩ := id V897
  have hin898 : ¬ ((4 : Int32) < 0 ∨ cl898.slots.size ≤ ((4 : Int32)).toNatClampNeg) := inb_of S898 ⟨by decide, by decide⟩
  obtain ⟨T899, h899, X899, e899, W899, st899⟩ := stJ X897 hx hZ861 e897 Ar898 (j := (4 : Int32)) hin898 (g := (mkF m 303 (own_Ln p1 p2 p3 p4 fs rs kk mm b851 b854 b856 b862 (iv (Int32.ofNat (fs.length + 2))) .unset .unset) [(.long (10000 : Int64)), (.int (4 : Int32)), (.ref b888), (.ref b888)])) rfl rfl (hb hby at_303)
  have V899 : Arv Z h899 b888 k888 .long (10 : Int32) [(.long (1 : Int64)), (.long (10 : Int64)), (.long (100 : Int64)), (.long (1000 : Int64)), (.long (10000 : Int64)), (.long (0 : Int64)), (.long (0 : Int64)), (.long (0 : Int64)), (.long (0 : Int64)), (.long (0 : Int64))] (.long (0 : Int64)) := Arv.set Ar898 q898 S898 Nn898 H898 G898 rfl W899 4 rfl (Nat.le_of_ble_eq_true rfl)
  have XX899 := own_extW XX897 W899 g_b888
  have N899 := Fr.snoc X899 N897 g_b888
  have CQ899 := CHr.wr W899 sf897_b888 CR897.1
  have sf899_b888 := Safe.wr W899 sf897_b888 CR897.1 sf897_b888
  have CR899 := CR897.trans CQ899
  have hk899 := Nat.le_trans hk897 CQ899.2.1
  obtain ⟨cl900, Ar900, q900, S900, Nn900, H900, G900⟩ := id V899
  have hin900 : ¬ ((5 : Int32) < 0 ∨ cl900.slots.size ≤ ((5 : Int32)).toNatClampNeg) := inb_of S900 ⟨by decide, by decide⟩
  obtain ⟨T901, h901, X901, e901, W901, st901⟩ := stJ X899 hx hZ861 e899 Ar900 (j := (5 : Int32)) hin900 (g := (mkF m 309 (own_Ln p1 p2 p3 p4 fs rs kk mm b851 b854 b856 b862 (iv (Int32.ofNat (fs.length + 2))) .unset .unset) [(.long (100000 : Int64)), (.int (5 : Int32)), (.ref b888), (.ref b888)])) rfl rfl (hb hby at_309)
  have V901 : Arv Z h901 b888 k888 .long (10 : Int32) [(.long (1 : Int64)), (.long (10 : Int64)), (.long (100 : Int64)), (.long (1000 : Int64)), (.long (10000 : Int64)), (.long (100000 : Int64)), (.long (0 : Int64)), (.long (0 : Int64)), (.long (0 : Int64)), (.long (0 : Int64))] (.long (0 : Int64)) := Arv.set Ar900 q900 S900 Nn900 H900 G900 rfl W901 5 rfl (Nat.le_of_ble_eq_true rfl)
  have XX901 := own_extW XX899 W901 g_b888
  have N901 := Fr.snoc X901 N899 g_b888
  have CQ901 := CHr.wr W901 sf899_b888 CR899.1
  have sf901_b888 := Safe.wr W901 sf899_b888 CR899.1 sf899_b888
  have CR901 := CR899.trans CQ901
  have hk901 := Nat.le_trans hk899 CQ901.2.1
  obtain ⟨cl902, Ar902, q902, S902, Nn902, H902, G902⟩ := id V901
  have hin902 : ¬ ((6 : Int32) < 0 ∨ cl902.slots.size ≤ ((6 : Int32)).toNatClampNeg) := inb_of S902 ⟨by decide, by decide⟩
  obtain ⟨T903, h903, X903, e903, W903, st903⟩ := stJ X901 hx hZ861 e901 Ar902 (j := (6 : Int32)) hin902 (g := (mkF m 316 (own_Ln p1 p2 p3 p4 fs rs kk mm b851 b854 b856 b862 (iv (Int32.ofNat (fs.length + 2))) .unset .unset) [(.long (1000000 : Int64)), (.int (6 : Int32)), (.ref b888), (.ref b888)])) rfl rfl (hb hby at_316)
  have V903 : Arv Z h903 b888 k888 .long (10 : Int32) [(.long (1 : Int64)), (.long (10 : Int64)), (.long (100 : Int64)), (.long (1000 : Int64)), (.long (10000 : Int64)), (.long (100000 : Int64)), (.long (1000000 : Int64)), (.long (0 : Int64)), (.long (0 : Int64)), (.long (0 : Int64))] (.long (0 : Int64)) := Arv.set Ar902 q902 S902 Nn902 H902 G902 rfl W903 6 rfl (Nat.le_of_ble_eq_true rfl)
  have XX903 := own_extW XX901 W903 g_b888
  have N903 := Fr.snoc X903 N901 g_b888
  have CQ903 := CHr.wr W903 sf901_b888 CR901.1
  have sf903_b888 := Safe.wr W903 sf901_b888 CR901.1 sf901_b888
  have CR903 := CR901.trans CQ903
  have hk903 := Nat.le_trans hk901 CQ903.2.1
  obtain ⟨cl904, Ar904, q904, S904, Nn904, H904, G904⟩ := id V903
  have hin904 : ¬ ((7 : Int32) < 0 ∨ cl904.slots.size ≤ ((7 : Int32)).toNatClampNeg) := inb_of S904 ⟨by decide, by decide⟩
  obtain ⟨T905, h905, X905, e905, W905, st905⟩ := stJ X903 hx hZ861 e903 Ar904 (j := (7 : Int32)) hin904 (g := (mkF m 323 (own_Ln p1 p2 p3 p4 fs rs kk mm b851 b854 b856 b862 (iv (Int32.ofNat (fs.length + 2))) .unset .unset) [(.long (10000000 : Int64)), (.int (7 : Int32)), (.ref b888), (.ref b888)])) rfl rfl (hb hby at_323)
  have V905 : Arv Z h905 b888 k888 .long (10 : Int32) [(.long (1 : Int64)), (.long (10 : Int64)), (.long (100 : Int64)), (.long (1000 : Int64)), (.long (10000 : Int64)), (.long (100000 : Int64)), (.long (1000000 : Int64)), (.long (10000000 : Int64)), (.long (0 : Int64)), (.long (0 : Int64))] (.long (0 : Int64)) := Arv.set Ar904 q904 S904 Nn904 H904 G904 rfl W905 7 rfl (Nat.le_of_ble_eq_true rfl)
  have XX905 := own_extW XX903 W905 g_b888
  have N905 := Fr.snoc X905 N903 g_b888
  have CQ905 := CHr.wr W905 sf903_b888 CR903.1
  have sf905_b888 := Safe.wr W905 sf903_b888 CR903.1 sf903_b888
  have CR905 := CR903.trans CQ905
  have hk905 := Nat.le_trans hk903 CQ905.2.1
  obtain ⟨cl906, Ar906, q906, S906, Nn906, H906, G906⟩ := id V905
  have hin906 : ¬ ((8 : Int32) < 0 ∨ cl906.slots.size ≤ ((8 : Int32)).toNatClampNeg) := inb_of S906 ⟨by decide, by decide⟩
  obtain ⟨T907, h907, X907, e907, W907, st907⟩ := stJ X905 hx hZ861 e905 Ar906 (j := (8 : Int32)) hin906 (g := (mkF m 330 (own_Ln p1 p2 p3 p4 fs rs kk mm b851 b854 b856 b862 (iv (Int32.ofNat (fs.length + 2))) .unset .unset) [(.long (100000000 : Int64)), (.int (8 : Int32)), (.ref b888), (.ref b888)])) rfl rfl (hb hby at_330)
  have V907 : Arv Z h907 b888 k888 .long (10 : Int32) [(.long (1 : Int64)), (.long (10 : Int64)), (.long (100 : Int64)), (.long (1000 : Int64)), (.long (10000 : Int64)), (.long (100000 : Int64)), (.long (1000000 : Int64)), (.long (10000000 : Int64)), (.long (100000000 : Int64)), (.long (0 : Int64))] (.long (0 : Int64)) := Arv.set Ar906 q906 S906 Nn906 H906 G906 rfl W907 8 rfl (Nat.le_of_ble_eq_true rfl)
  have XX907 := own_extW XX905 W907 g_b888
  have N907 := Fr.snoc X907 N905 g_b888
  have CQ907 := CHr.wr W907 sf905_b888 CR905.1
  have sf907_b888 := Safe.wr W907 sf905_b888 CR905.1 sf905_b888
  have CR907 := CR905.trans CQ907
  have hk907 := Nat.le_trans hk905 CQ907.2.1
  obtain ⟨cl908, Ar908, q908, S908, Nn908, H908, G908⟩ := id V907
  have hin908 : ¬ ((9 : Int32) < 0 ∨ cl908.slots.size ≤ ((9 : Int32)).toNatClampNeg) := inb_of S908 ⟨by decide, by decide⟩
  obtain ⟨T909, h909, X909, e909, W909, st909⟩ := stJ X907 hx hZ861 e907 Ar908 (j := (9 : Int32)) hin908 (g := (mkF m 337 (own_Ln p1 p2 p3 p4 fs rs kk mm b851 b854 b856 b862 (iv (Int32.ofNat (fs.length + 2))) .unset .unset) [(.long (1000000000 : Int64)), (.int (9 : Int32)), (.ref b888), (.ref b888)])) rfl rfl (hb hby at_337)
  have V909 : Arv Z h909 b888 k888 .long (10 : Int32) [(.long (1 : Int64)), (.long (10 : Int64)), (.long (100 : Int64)), (.long (1000 : Int64)), (.long (10000 : Int64)), (.long (100000 : Int64)), (.long (1000000 : Int64)), (.long (10000000 : Int64)), (.long (100000000 : Int64)), (.long (1000000000 : Int64))] (.long (0 : Int64)) := Arv.set Ar908 q908 S908 Nn908 H908 G908 rfl W909 9 rfl (Nat.le_of_ble_eq_true rfl)
  have XX909 := own_extW XX907 W909 g_b888
  have N909 := Fr.snoc X909 N907 g_b888
  have CQ909 := CHr.wr W909 sf907_b888 CR907.1
  have CR909 := CR907.trans CQ909
  have hk909 := Nat.le_trans hk907 CQ909.2.1
  have f913_E_b854 := ((((((((((((((q853_E_b854.ext E856).keep K860q).keep K861q).ext E888).wr W891).wr W893).wr W895).wr W897).wr W899).wr W901).wr W903).wr W905).wr W907).wr W909)
  have f915_E_b862 := (((((((((((q861_E_b862.ext E888).wr W891).wr W893).wr W895).wr W897).wr W899).wr W901).wr W903).wr W905).wr W907).wr W909)
  have ne_b862_b888 := Nat.ne_of_lt (Nat.lt_of_lt_of_le q861_E_b862.lt (Nat.le_of_eq g888.symm))
  have f917_F_b862_coder := (((((((((((oC866.ext E888).other W891 (Or.inl ne_b862_b888)).other W893 (Or.inl ne_b862_b888)).other W895 (Or.inl ne_b862_b888)).other W897 (Or.inl ne_b862_b888)).other W899 (Or.inl ne_b862_b888)).other W901 (Or.inl ne_b862_b888)).other W903 (Or.inl ne_b862_b888)).other W905 (Or.inl ne_b862_b888)).other W907 (Or.inl ne_b862_b888)).other W909 (Or.inl ne_b862_b888))
  have f918_F_b862_value := (((((((((((oV866.ext E888).other W891 (Or.inl ne_b862_b888)).other W893 (Or.inl ne_b862_b888)).other W895 (Or.inl ne_b862_b888)).other W897 (Or.inl ne_b862_b888)).other W899 (Or.inl ne_b862_b888)).other W901 (Or.inl ne_b862_b888)).other W903 (Or.inl ne_b862_b888)).other W905 (Or.inl ne_b862_b888)).other W907 (Or.inl ne_b862_b888)).other W909 (Or.inl ne_b862_b888))
  have ne_a866_b888 := Nat.ne_of_lt (Nat.lt_of_lt_of_le oA866.lt (Nat.le_of_eq g888.symm))
  have f919_V_a866 := (((((((((((oA866.ext E888).other W891 ne_a866_b888).other W893 ne_a866_b888).other W895 ne_a866_b888).other W897 ne_a866_b888).other W899 ne_a866_b888).other W901 ne_a866_b888).other W903 ne_a866_b888).other W905 ne_a866_b888).other W907 ne_a866_b888).other W909 ne_a866_b888)
  obtain ⟨_, T916, Lc916, X916, hQ916, st916⟩ := own_static (y := y_34) X909 hx hZ861 hown861 (own_w hw 224 rfl) (own_w hw 225 rfl) (own_w hw 2 rfl) (own_w hw 226 rfl) (own_dkJ l Z a0 hw [] w_CS w_SF kk (own_vn fs p3 (kk + 1) rs) b862 a866 ka866 (fs.length + 2) 0 mm b888 k888 h909 XX909 S_w_CS R_w_SF S_w_SF f915_E_b862 f917_F_b862_coder f918_F_b862_value f919_V_a866 V909 hc1 hc165 (by decide)) e909 (g := (mkF m 351 (own_Ln p1 p2 p3 p4 fs rs kk mm b851 b854 b856 b862 (iv (Int32.ofNat (fs.length + 2))) (rv b888) .unset) [(.ref b888), (.int (0 : Int32)), (.int (Int32.ofNat kk)), (.long mm), (.int (Int32.ofNat (fs.length + 2))), (.ref b862)])) (argsL := [(.ref b862), (.int (Int32.ofNat (fs.length + 2))), (.long mm), (.int (Int32.ofNat kk)), (.int (0 : Int32)), (.ref b888)]) (rest := []) (W := 0) (lenOf pd_35 rfl) (hb hby at_351) hml
  obtain ⟨rfl, N916q, e916⟩ := hQ916
  have N916 := Fr.app N909 N916q
  obtain ⟨_, T923, Lc923, X923, hQ923, st923⟩ := own_static (y := y_34) X916 hx hZ861 hown861 (own_w hw 224 rfl) (own_w hw 225 rfl) (own_w hw 2 rfl) (own_w hw 226 rfl) (own_dkJ l Z a0 hw [] w_CS w_SF kk (own_vn fs p3 (kk + 1) rs) b862 a866 ka866 (fs.length + 2) 1 mm b888 k888 h909 XX909 S_w_CS R_w_SF S_w_SF f915_E_b862 f917_F_b862_coder f918_F_b862_value f919_V_a866 V909 hc1 hc165 (by decide)) e916 (g := (mkF m 368 (own_Ln p1 p2 p3 p4 fs rs kk mm b851 b854 b856 b862 (iv (Int32.ofNat (fs.length + 2))) (rv b888) .unset) [(.ref b888), (.int (1 : Int32)), (.int (Int32.ofNat kk)), (.long mm), (.int (Int32.ofNat (fs.length + 2))), (.ref b862)])) (argsL := [(.ref b862), (.int (Int32.ofNat (fs.length + 2))), (.long mm), (.int (Int32.ofNat kk)), (.int (1 : Int32)), (.ref b888)]) (rest := []) (W := 0) (lenOf pd_35 rfl) (hb hby at_368) hml
  obtain ⟨rfl, N923q, e923⟩ := hQ923
  have N923 := Fr.app N916 N923q
  obtain ⟨_, T927, Lc927, X927, hQ927, st927⟩ := own_static (y := y_34) X923 hx hZ861 hown861 (own_w hw 224 rfl) (own_w hw 225 rfl) (own_w hw 2 rfl) (own_w hw 226 rfl) (own_dkJ l Z a0 hw [] w_CS w_SF kk (own_vn fs p3 (kk + 1) rs) b862 a866 ka866 (fs.length + 2) 2 mm b888 k888 h909 XX909 S_w_CS R_w_SF S_w_SF f915_E_b862 f917_F_b862_coder f918_F_b862_value f919_V_a866 V909 hc1 hc165 (by decide)) e923 (g := (mkF m 385 (own_Ln p1 p2 p3 p4 fs rs kk mm b851 b854 b856 b862 (iv (Int32.ofNat (fs.length + 2))) (rv b888) .unset) [(.ref b888), (.int (2 : Int32)), (.int (Int32.ofNat kk)), (.long mm), (.int (Int32.ofNat (fs.length + 2))), (.ref b862)])) (argsL := [(.ref b862), (.int (Int32.ofNat (fs.length + 2))), (.long mm), (.int (Int32.ofNat kk)), (.int (2 : Int32)), (.ref b888)]) (rest := []) (W := 0) (lenOf pd_35 rfl) (hb hby at_385) hml
  obtain ⟨rfl, N927q, e927⟩ := hQ927
  have N927 := Fr.app N923 N927q
  obtain ⟨_, T931, Lc931, X931, hQ931, st931⟩ := own_static (y := y_34) X927 hx hZ861 hown861 (own_w hw 224 rfl) (own_w hw 225 rfl) (own_w hw 2 rfl) (own_w hw 226 rfl) (own_dkJ l Z a0 hw [] w_CS w_SF kk (own_vn fs p3 (kk + 1) rs) b862 a866 ka866 (fs.length + 2) 3 mm b888 k888 h909 XX909 S_w_CS R_w_SF S_w_SF f915_E_b862 f917_F_b862_coder f918_F_b862_value f919_V_a866 V909 hc1 hc165 (by decide)) e927 (g := (mkF m 402 (own_Ln p1 p2 p3 p4 fs rs kk mm b851 b854 b856 b862 (iv (Int32.ofNat (fs.length + 2))) (rv b888) .unset) [(.ref b888), (.int (3 : Int32)), (.int (Int32.ofNat kk)), (.long mm), (.int (Int32.ofNat (fs.length + 2))), (.ref b862)])) (argsL := [(.ref b862), (.int (Int32.ofNat (fs.length + 2))), (.long mm), (.int (Int32.ofNat kk)), (.int (3 : Int32)), (.ref b888)]) (rest := []) (W := 0) (lenOf pd_35 rfl) (hb hby at_402) hml
  obtain ⟨rfl, N931q, e931⟩ := hQ931
  have N931 := Fr.app N927 N931q
  obtain ⟨_, T935, Lc935, X935, hQ935, st935⟩ := own_static (y := y_34) X931 hx hZ861 hown861 (own_w hw 224 rfl) (own_w hw 225 rfl) (own_w hw 2 rfl) (own_w hw 226 rfl) (own_dkJ l Z a0 hw [] w_CS w_SF kk (own_vn fs p3 (kk + 1) rs) b862 a866 ka866 (fs.length + 2) 4 mm b888 k888 h909 XX909 S_w_CS R_w_SF S_w_SF f915_E_b862 f917_F_b862_coder f918_F_b862_value f919_V_a866 V909 hc1 hc165 (by decide)) e931 (g := (mkF m 419 (own_Ln p1 p2 p3 p4 fs rs kk mm b851 b854 b856 b862 (iv (Int32.ofNat (fs.length + 2))) (rv b888) .unset) [(.ref b888), (.int (4 : Int32)), (.int (Int32.ofNat kk)), (.long mm), (.int (Int32.ofNat (fs.length + 2))), (.ref b862)])) (argsL := [(.ref b862), (.int (Int32.ofNat (fs.length + 2))), (.long mm), (.int (Int32.ofNat kk)), (.int (4 : Int32)), (.ref b888)]) (rest := []) (W := 0) (lenOf pd_35 rfl) (hb hby at_419) hml
  obtain ⟨rfl, N935q, e935⟩ := hQ935
  have N935 := Fr.app N931 N935q
  obtain ⟨_, T939, Lc939, X939, hQ939, st939⟩ := own_static (y := y_34) X935 hx hZ861 hown861 (own_w hw 224 rfl) (own_w hw 225 rfl) (own_w hw 2 rfl) (own_w hw 226 rfl) (own_dkJ l Z a0 hw [] w_CS w_SF kk (own_vn fs p3 (kk + 1) rs) b862 a866 ka866 (fs.length + 2) 5 mm b888 k888 h909 XX909 S_w_CS R_w_SF S_w_SF f915_E_b862 f917_F_b862_coder f918_F_b862_value f919_V_a866 V909 hc1 hc165 (by decide)) e935 (g := (mkF m 436 (own_Ln p1 p2 p3 p4 fs rs kk mm b851 b854 b856 b862 (iv (Int32.ofNat (fs.length + 2))) (rv b888) .unset) [(.ref b888), (.int (5 : Int32)), (.int (Int32.ofNat kk)), (.long mm), (.int (Int32.ofNat (fs.length + 2))), (.ref b862)])) (argsL := [(.ref b862), (.int (Int32.ofNat (fs.length + 2))), (.long mm), (.int (Int32.ofNat kk)), (.int (5 : Int32)), (.ref b888)]) (rest := []) (W := 0) (lenOf pd_35 rfl) (hb hby at_436) hml
  obtain ⟨rfl, N939q, e939⟩ := hQ939
  have N939 := Fr.app N935 N939q
  obtain ⟨_, T943, Lc943, X943, hQ943, st943⟩ := own_static (y := y_34) X939 hx hZ861 hown861 (own_w hw 224 rfl) (own_w hw 225 rfl) (own_w hw 2 rfl) (own_w hw 226 rfl) (own_dkJ l Z a0 hw [] w_CS w_SF kk (own_vn fs p3 (kk + 1) rs) b862 a866 ka866 (fs.length + 2) 6 mm b888 k888 h909 XX909 S_w_CS R_w_SF S_w_SF f915_E_b862 f917_F_b862_coder f918_F_b862_value f919_V_a866 V909 hc1 hc165 (by decide)) e939 (g := (mkF m 454 (own_Ln p1 p2 p3 p4 fs rs kk mm b851 b854 b856 b862 (iv (Int32.ofNat (fs.length + 2))) (rv b888) .unset) [(.ref b888), (.int (6 : Int32)), (.int (Int32.ofNat kk)), (.long mm), (.int (Int32.ofNat (fs.length + 2))), (.ref b862)])) (argsL := [(.ref b862), (.int (Int32.ofNat (fs.length + 2))), (.long mm), (.int (Int32.ofNat kk)), (.int (6 : Int32)), (.ref b888)]) (rest := []) (W := 0) (lenOf pd_35 rfl) (hb hby at_454) hml
  obtain ⟨rfl, N943q, e943⟩ := hQ943
  have N943 := Fr.app N939 N943q
  obtain ⟨_, T947, Lc947, X947, hQ947, st947⟩ := own_static (y := y_34) X943 hx hZ861 hown861 (own_w hw 224 rfl) (own_w hw 225 rfl) (own_w hw 2 rfl) (own_w hw 226 rfl) (own_dkJ l Z a0 hw [] w_CS w_SF kk (own_vn fs p3 (kk + 1) rs) b862 a866 ka866 (fs.length + 2) 7 mm b888 k888 h909 XX909 S_w_CS R_w_SF S_w_SF f915_E_b862 f917_F_b862_coder f918_F_b862_value f919_V_a866 V909 hc1 hc165 (by decide)) e943 (g := (mkF m 472 (own_Ln p1 p2 p3 p4 fs rs kk mm b851 b854 b856 b862 (iv (Int32.ofNat (fs.length + 2))) (rv b888) .unset) [(.ref b888), (.int (7 : Int32)), (.int (Int32.ofNat kk)), (.long mm), (.int (Int32.ofNat (fs.length + 2))), (.ref b862)])) (argsL := [(.ref b862), (.int (Int32.ofNat (fs.length + 2))), (.long mm), (.int (Int32.ofNat kk)), (.int (7 : Int32)), (.ref b888)]) (rest := []) (W := 0) (lenOf pd_35 rfl) (hb hby at_472) hml
  obtain ⟨rfl, N947q, e947⟩ := hQ947
  have N947 := Fr.app N943 N947q
  obtain ⟨_, T951, Lc951, X951, hQ951, st951⟩ := own_static (y := y_34) X947 hx hZ861 hown861 (own_w hw 224 rfl) (own_w hw 225 rfl) (own_w hw 2 rfl) (own_w hw 226 rfl) (own_dkJ l Z a0 hw [] w_CS w_SF kk (own_vn fs p3 (kk + 1) rs) b862 a866 ka866 (fs.length + 2) 8 mm b888 k888 h909 XX909 S_w_CS R_w_SF S_w_SF f915_E_b862 f917_F_b862_coder f918_F_b862_value f919_V_a866 V909 hc1 hc165 (by decide)) e947 (g := (mkF m 490 (own_Ln p1 p2 p3 p4 fs rs kk mm b851 b854 b856 b862 (iv (Int32.ofNat (fs.length + 2))) (rv b888) .unset) [(.ref b888), (.int (8 : Int32)), (.int (Int32.ofNat kk)), (.long mm), (.int (Int32.ofNat (fs.length + 2))), (.ref b862)])) (argsL := [(.ref b862), (.int (Int32.ofNat (fs.length + 2))), (.long mm), (.int (Int32.ofNat kk)), (.int (8 : Int32)), (.ref b888)]) (rest := []) (W := 0) (lenOf pd_35 rfl) (hb hby at_490) hml
  obtain ⟨rfl, N951q, e951⟩ := hQ951
  have N951 := Fr.app N947 N951q
  obtain ⟨_, T955, Lc955, X955, hQ955, st955⟩ := own_static (y := y_34) X951 hx hZ861 hown861 (own_w hw 224 rfl) (own_w hw 225 rfl) (own_w hw 2 rfl) (own_w hw 226 rfl) (own_dkJ l Z a0 hw [] w_CS w_SF kk (own_vn fs p3 (kk + 1) rs) b862 a866 ka866 (fs.length + 2) 9 mm b888 k888 h909 XX909 S_w_CS R_w_SF S_w_SF f915_E_b862 f917_F_b862_coder f918_F_b862_value f919_V_a866 V909 hc1 hc165 (by decide)) e951 (g := (mkF m 508 (own_Ln p1 p2 p3 p4 fs rs kk mm b851 b854 b856 b862 (iv (Int32.ofNat (fs.length + 2))) (rv b888) .unset) [(.ref b888), (.int (9 : Int32)), (.int (Int32.ofNat kk)), (.long mm), (.int (Int32.ofNat (fs.length + 2))), (.ref b862)])) (argsL := [(.ref b862), (.int (Int32.ofNat (fs.length + 2))), (.long mm), (.int (Int32.ofNat kk)), (.int (9 : Int32)), (.ref b888)]) (rest := []) (W := 0) (lenOf pd_35 rfl) (hb hby at_508) hml
  obtain ⟨rfl, N955q, e955⟩ := hQ955
  have N955 := Fr.app N951 N955q
  obtain ⟨_, T959, Lc959, X959, hQ959, st959⟩ := own_virtual (y := y_31) X955 hx hZ861 hown861 (own_w hw 193 rfl) (own_w hw 194 rfl) (own_w hw 196 rfl) (own_w hw 195 rfl) (own_w hw 6 rfl) (own_w hw 197 rfl) (rm310 l Z a0 hw [] w_CS w_SF (Int32.ofNat (fs.length + 2 + kk)) (own_vn fs p3 (kk + 1) rs) b862 a866 ka866 (58 : Int32) (58 : Int32) h909 XX909 S_w_CS S_w_SF R_w_SF f915_E_b862 f917_F_b862_coder f918_F_b862_value f919_V_a866 hc1 hc166) e955 f915_E_b862 (g := (mkF m 530 (own_Ln p1 p2 p3 p4 fs rs kk mm b851 b854 b856 b862 (iv (Int32.ofNat (fs.length + 2))) (rv b888) (iv (1 : Int32))) [(.int (Int32.ofNat (fs.length + 2 + kk))), (.ref b862)])) (argsL := [(.int (Int32.ofNat (fs.length + 2 + kk)))]) (rest := []) (W := 0) (lenOf pd_21 rfl) (hb hby at_530) hml
  obtain ⟨rfl, N959q, e959⟩ := hQ959
  have N959 := Fr.app N955 N959q
  obtain ⟨_, T963, Lc963, X963, hQ963, st963⟩ := own_virtual (y := y_31) X959 hx hZ861 hown861 (own_w hw 193 rfl) (own_w hw 194 rfl) (own_w hw 196 rfl) (own_w hw 195 rfl) (own_w hw 6 rfl) (own_w hw 197 rfl) (rm310 l Z a0 hw [] w_CS w_SF (Int32.ofNat (fs.length + 2 + kk + 1)) (own_vn fs p3 (kk + 1) rs) b862 a866 ka866 (32 : Int32) (32 : Int32) h909 XX909 S_w_CS S_w_SF R_w_SF f915_E_b862 f917_F_b862_coder f918_F_b862_value f919_V_a866 hc1 hc168) e959 f915_E_b862 (g := (mkF m 544 (own_Ln p1 p2 p3 p4 fs rs kk mm b851 b854 b856 b862 (iv (Int32.ofNat (fs.length + 2))) (rv b888) (iv (1 : Int32))) [(.int (Int32.ofNat (fs.length + 2 + kk + 1))), (.ref b862)])) (argsL := [(.int (Int32.ofNat (fs.length + 2 + kk + 1)))]) (rest := []) (W := 0) (lenOf pd_21 rfl) (hb hby at_544) hml
  obtain ⟨rfl, N963q, e963⟩ := hQ963
  have N963 := Fr.app N959 N963q
  have ne_b854_b888 := Nat.ne_of_lt (Nat.lt_of_lt_of_le (((q853_E_b854.ext E856).keep K860q).keep K861q).lt (Nat.le_of_eq g888.symm))
  have f968_F_b854_coder := ((((((((((((((oC855.ext E856).keep K860q (ninS ne_b854_b856 (nin0))).keep K861q nin0).ext E888).other W891 (Or.inl ne_b854_b888)).other W893 (Or.inl ne_b854_b888)).other W895 (Or.inl ne_b854_b888)).other W897 (Or.inl ne_b854_b888)).other W899 (Or.inl ne_b854_b888)).other W901 (Or.inl ne_b854_b888)).other W903 (Or.inl ne_b854_b888)).other W905 (Or.inl ne_b854_b888)).other W907 (Or.inl ne_b854_b888)).other W909 (Or.inl ne_b854_b888))
  have f969_F_b854_value := ((((((((((((((oV855.ext E856).keep K860q (ninS ne_b854_b856 (nin0))).keep K861q nin0).ext E888).other W891 (Or.inl ne_b854_b888)).other W893 (Or.inl ne_b854_b888)).other W895 (Or.inl ne_b854_b888)).other W897 (Or.inl ne_b854_b888)).other W899 (Or.inl ne_b854_b888)).other W901 (Or.inl ne_b854_b888)).other W903 (Or.inl ne_b854_b888)).other W905 (Or.inl ne_b854_b888)).other W907 (Or.inl ne_b854_b888)).other W909 (Or.inl ne_b854_b888))
  have ne_a855_b888 := Nat.ne_of_lt (Nat.lt_of_lt_of_le (((oA855.ext E856).keep K860q (ninS ne_a855_b856 (nin0))).keep K861q nin0).lt (Nat.le_of_eq g888.symm))
  have f970_V_a855 := ((((((((((((((oA855.ext E856).keep K860q (ninS ne_a855_b856 (nin0))).keep K861q nin0).ext E888).other W891 ne_a855_b888).other W893 ne_a855_b888).other W895 ne_a855_b888).other W897 ne_a855_b888).other W899 ne_a855_b888).other W901 ne_a855_b888).other W903 ne_a855_b888).other W905 ne_a855_b888).other W907 ne_a855_b888).other W909 ne_a855_b888)
  obtain ⟨_, T967, Lc967, X967, hQ967, st967⟩ := own_static (y := y_32) X963 hx hZ861 hown861 (own_w hw 190 rfl) (own_w hw 191 rfl) (own_w hw 2 rfl) (own_w hw 192 rfl) (own_sgJ l Z a0 hw [] w_CS w_SF (own_vn fs p3 (kk + 1) rs) b862 a866 ka866 (fs.length + 2 + kk + 2) b854 a855 ka855 rs h909 XX909 S_w_CS R_w_SF S_w_SF f915_E_b862 f917_F_b862_coder f918_F_b862_value f919_V_a866 f913_E_b854 f968_F_b854_coder f969_F_b854_value f970_V_a855 hc1 hc169) e963 (g := (mkF m 560 (own_Ln p1 p2 p3 p4 fs rs kk mm b851 b854 b856 b862 (iv (Int32.ofNat (fs.length + 2))) (rv b888) (iv (1 : Int32))) [(.ref b854), (.int (Int32.ofNat (fs.length + 2 + kk + 2))), (.ref b862)])) (argsL := [(.ref b862), (.int (Int32.ofNat (fs.length + 2 + kk + 2))), (.ref b854)]) (rest := []) (W := 0) (lenOf pd_33 rfl) (hb hby at_560) hml
  obtain ⟨rfl, N967q, e967⟩ := hQ967
  have N967 := Fr.app N963 N967q
  obtain ⟨_, hr, hrun, hended, hend⟩ := leaveW (s := s) (vm₁ := T861.vm) X967 hS861 (by rw [e967]; exact hk909) (v := some (.int (1 : Int32))) (fun h => by rw [hret] at h; cases h) hlk
  refine ⟨_, _, ?_, hrun, hended, _, _, rfl, ?_, ?_, hend.1, hend.2.1, hend.2.2.1, hend.2.2.2.mono (by decide) (by decide)⟩
  · show own_S p e below s₁ (mkF m 0 #[iv p1, iv p2, iv p3, iv p4, .unset, .unset, .unset, .unset, .unset, .unset, .unset, .unset, .unset, .unset, .unset, .unset, .unset, .unset, .unset, .unset, .unset] []) _
    refine own_iN X0 hx hby at_0 ?_
    refine own_k X0 hx hby at_1 ?_
    refine XS.iand X0.here hx rfl (hb hby at_2) rfl ?_
    show own_S p e below s₁ (mkF m 3 #[iv p1, iv p2, iv p3, iv p4, .unset, .unset, .unset, .unset, .unset, .unset, .unset, .unset, .unset, .unset, .unset, .unset, .unset, .unset, .unset, .unset, .unset] [(.int (p4 &&& (3 : Int32)))]) _
    rw [hc128]
    refine XS.istore X0.here hx rfl (hb hby at_3) rfl (l' := #[iv p1, iv p2, iv p3, iv p4, iv (Int32.ofNat fs.length), .unset, .unset, .unset, .unset, .unset, .unset, .unset, .unset, .unset, .unset, .unset, .unset, .unset, .unset, .unset, .unset]) rfl ?_
    refine own_iN X0 hx hby at_5 ?_
    refine own_k X0 hx hby at_6 ?_
    refine XS.iushr X0.here hx rfl (hb hby at_7) rfl ?_
    refine own_k X0 hx hby at_8 ?_
    refine XS.iand X0.here hx rfl (hb hby at_9) rfl ?_
    show own_S p e below s₁ (mkF m 10 #[iv p1, iv p2, iv p3, iv p4, iv (Int32.ofNat fs.length), .unset, .unset, .unset, .unset, .unset, .unset, .unset, .unset, .unset, .unset, .unset, .unset, .unset, .unset, .unset, .unset] [(.int (((p4.toUInt32 >>> ((2 : Int32) &&& 31).toUInt32).toInt32) &&& (3 : Int32)))]) _
    rw [hc129]
    refine XS.istore X0.here hx rfl (hb hby at_10) rfl (l' := #[iv p1, iv p2, iv p3, iv p4, iv (Int32.ofNat fs.length), iv (Int32.ofNat rs.length), .unset, .unset, .unset, .unset, .unset, .unset, .unset, .unset, .unset, .unset, .unset, .unset, .unset, .unset, .unset]) rfl ?_
    refine own_i X0 hx hby at_12 ?_
    refine own_iN X0 hx hby at_14 ?_
    refine st850 _ ?_
    refine XS.astore X850.here hx rfl (hb hby at_18) rfl rfl (l' := #[iv p1, iv p2, iv p3, iv p4, iv (Int32.ofNat fs.length), iv (Int32.ofNat rs.length), rv b851, .unset, .unset, .unset, .unset, .unset, .unset, .unset, .unset, .unset, .unset, .unset, .unset, .unset, .unset]) rfl ?_
    refine own_i X850 hx hby at_20 ?_
    refine own_iN X850 hx hby at_22 ?_
    refine st853 _ ?_
    refine XS.astore X853.here hx rfl (hb hby at_26) rfl rfl (l' := #[iv p1, iv p2, iv p3, iv p4, iv (Int32.ofNat fs.length), iv (Int32.ofNat rs.length), rv b851, rv b854, .unset, .unset, .unset, .unset, .unset, .unset, .unset, .unset, .unset, .unset, .unset, .unset, .unset]) rfl ?_
    refine st856 _ ?_
    refine XS.dup X856.here hx rfl (hb hby at_31) rfl rfl ?_
    refine own_a X856 hx hby at_32 ?_
    refine own_iN X856 hx hby at_34 ?_
    refine own_a X856 hx hby at_35 ?_
    refine st860 _ ?_
    refine XS.astore X860.here hx rfl (hb hby at_40) rfl rfl (l' := #[iv p1, iv p2, iv p3, iv p4, iv (Int32.ofNat fs.length), iv (Int32.ofNat rs.length), rv b851, rv b854, rv b856, .unset, .unset, .unset, .unset, .unset, .unset, .unset, .unset, .unset, .unset, .unset, .unset]) rfl ?_
    refine own_a X860 hx hby at_42 ?_
    refine st861 _ ?_
    refine XS.astore X861.here hx rfl (hb hby at_47) rfl rfl (l' := (own_Lz p1 p2 p3 p4 fs rs b851 b854 b856 b862)) rfl ?_
    refine own_a X861 hx hby at_49 ?_
    refine XS.ifnonnullYes X861.here hx rfl (pc0 := 51) (pc' := 56) rfl (hb hby at_51) rfl (by decide) (by decide) ?_
    refine own_iN X861 hx hby at_56 ?_
    refine own_iy (pc := 57) X861 hx hby at_57 (feq hc140).2 134 ?_
    refine own_iN X861 hx hby at_134 ?_
    refine XS.i2l X861.here hx rfl (hb hby at_135) rfl ?_
    refine XS.lstore X861.here hx rfl (hb hby at_136) rfl (l' := #[iv p1, iv p2, iv p3, iv p4, iv (Int32.ofNat fs.length), iv (Int32.ofNat rs.length), rv b851, rv b854, rv b856, rv b862, .val (.long (p3.toInt64)), .second, .unset, .unset, .unset, .unset, .unset, .unset, .unset, .unset, .unset]) rfl ?_
    refine XS.lload X861.here hx rfl (hb hby at_138) rfl ?_
    refine XS.lconst X861.here hx rfl (hb hby at_140) ?_
    refine XS.lcmp X861.here hx rfl (hb hby at_141) rfl ?_
    refine own_in X861 hx hby at_142 (tlt hc156).2.1 ?_
    refine own_k X861 hx hby at_145 ?_
    refine own_go (pc := 146) X861 hx hby at_146 150 ?_
    refine XS.istore X861.here hx rfl (hb hby at_150) rfl (l' := #[iv p1, iv p2, iv p3, iv p4, iv (Int32.ofNat fs.length), iv (Int32.ofNat rs.length), rv b851, rv b854, rv b856, rv b862, .val (.long (p3.toInt64)), .second, iv (1 : Int32), .unset, .unset, .unset, .unset, .unset, .unset, .unset, .unset]) rfl ?_
    refine own_i X861 hx hby at_152 ?_
    refine own_in X861 hx hby at_154 (feq (by decide : ¬ ((1 : Int32) = (0 : Int32)))).1 ?_
    refine XS.lload X861.here hx rfl (hb hby at_157) rfl ?_
    refine XS.lneg X861.here hx rfl (hb hby at_159) rfl ?_
    show own_S p e below T861 (mkF m 160 #[iv p1, iv p2, iv p3, iv p4, iv (Int32.ofNat fs.length), iv (Int32.ofNat rs.length), rv b851, rv b854, rv b856, rv b862, .val (.long (p3.toInt64)), .second, iv (1 : Int32), .unset, .unset, .unset, .unset, .unset, .unset, .unset, .unset] [(.long (-(p3.toInt64)))]) _
    rw [hc157]
    refine own_go (pc := 160) X861 hx hby at_160 165 ?_
    refine XS.lstore X861.here hx rfl (hb hby at_165) rfl (l' := #[iv p1, iv p2, iv p3, iv p4, iv (Int32.ofNat fs.length), iv (Int32.ofNat rs.length), rv b851, rv b854, rv b856, rv b862, .val (.long (p3.toInt64)), .second, iv (1 : Int32), .val (.long mm), .second, .unset, .unset, .unset, .unset, .unset, .unset]) rfl ?_
    refine XS.lload X861.here hx rfl (hb hby at_167) rfl ?_
    refine st871 _ ?_
    refine XS.istore X871.here hx rfl (hb hby at_172) rfl (l' := #[iv p1, iv p2, iv p3, iv p4, iv (Int32.ofNat fs.length), iv (Int32.ofNat rs.length), rv b851, rv b854, rv b856, rv b862, .val (.long (p3.toInt64)), .second, iv (1 : Int32), .val (.long mm), .second, iv (Int32.ofNat kk), .unset, .unset, .unset, .unset, .unset]) rfl ?_
    refine own_i X871 hx hby at_174 ?_
    refine own_in X871 hx hby at_176 (feq (by decide : ¬ ((1 : Int32) = (0 : Int32)))).1 ?_
    refine own_k X871 hx hby at_179 ?_
    refine own_go (pc := 180) X871 hx hby at_180 184 ?_
    refine XS.istore X871.here hx rfl (hb hby at_184) rfl (l' := #[iv p1, iv p2, iv p3, iv p4, iv (Int32.ofNat fs.length), iv (Int32.ofNat rs.length), rv b851, rv b854, rv b856, rv b862, .val (.long (p3.toInt64)), .second, iv (1 : Int32), .val (.long mm), .second, iv (Int32.ofNat kk), iv (1 : Int32), .unset, .unset, .unset, .unset]) rfl ?_
    refine own_i X871 hx hby at_186 ?_
    refine own_k X871 hx hby at_188 ?_
    refine XS.iadd X871.here hx rfl (hb hby at_189) rfl ?_
    show own_S p e below T871 (mkF m 190 #[iv p1, iv p2, iv p3, iv p4, iv (Int32.ofNat fs.length), iv (Int32.ofNat rs.length), rv b851, rv b854, rv b856, rv b862, .val (.long (p3.toInt64)), .second, iv (1 : Int32), .val (.long mm), .second, iv (Int32.ofNat kk), iv (1 : Int32), .unset, .unset, .unset, .unset] [(.int ((Int32.ofNat fs.length) + (1 : Int32)))]) _
    rw [hc137]
    refine own_i X871 hx hby at_190 ?_
    refine XS.iadd X871.here hx rfl (hb hby at_192) rfl ?_
    show own_S p e below T871 (mkF m 193 #[iv p1, iv p2, iv p3, iv p4, iv (Int32.ofNat fs.length), iv (Int32.ofNat rs.length), rv b851, rv b854, rv b856, rv b862, .val (.long (p3.toInt64)), .second, iv (1 : Int32), .val (.long mm), .second, iv (Int32.ofNat kk), iv (1 : Int32), .unset, .unset, .unset, .unset] [(.int ((Int32.ofNat (fs.length + 1)) + (1 : Int32)))]) _
    rw [hc158]
    refine own_i X871 hx hby at_193 ?_
    refine XS.iadd X871.here hx rfl (hb hby at_195) rfl ?_
    show own_S p e below T871 (mkF m 196 #[iv p1, iv p2, iv p3, iv p4, iv (Int32.ofNat fs.length), iv (Int32.ofNat rs.length), rv b851, rv b854, rv b856, rv b862, .val (.long (p3.toInt64)), .second, iv (1 : Int32), .val (.long mm), .second, iv (Int32.ofNat kk), iv (1 : Int32), .unset, .unset, .unset, .unset] [(.int ((Int32.ofNat (fs.length + 2)) + (Int32.ofNat kk)))]) _
    rw [hc159]
    refine XS.istore X871.here hx rfl (hb hby at_196) rfl (l' := (own_Ln p1 p2 p3 p4 fs rs kk mm b851 b854 b856 b862 .unset .unset .unset)) rfl ?_
    refine own_a X871 hx hby at_198 ?_
    refine st875 _ ?_
    refine own_i X875 hx hby at_203 ?_
    refine own_k X875 hx hby at_205 ?_
    refine XS.iadd X875.here hx rfl (hb hby at_206) rfl ?_
    show own_S p e below T875 (mkF m 207 (own_Ln p1 p2 p3 p4 fs rs kk mm b851 b854 b856 b862 .unset .unset .unset) [(.int ((Int32.ofNat (fs.length + 2 + kk)) + (2 : Int32))), (.int (Int32.ofNat (own_vn fs p3 (kk + 1) rs).length))]) _
    rw [hc160]
    refine own_i X875 hx hby at_207 ?_
    refine XS.iadd X875.here hx rfl (hb hby at_209) rfl ?_
    show own_S p e below T875 (mkF m 210 (own_Ln p1 p2 p3 p4 fs rs kk mm b851 b854 b856 b862 .unset .unset .unset) [(.int ((Int32.ofNat (fs.length + 2 + kk + 2)) + (Int32.ofNat rs.length))), (.int (Int32.ofNat (own_vn fs p3 (kk + 1) rs).length))]) _
    rw [hc161]
    refine own_cy (pc := 210) X875 hx hby at_210 (teq (rfl : (Int32.ofNat (own_vn fs p3 (kk + 1) rs).length) = (Int32.ofNat (own_vn fs p3 (kk + 1) rs).length))).1 215 ?_
    refine own_a X875 hx hby at_215 ?_
    refine own_k X875 hx hby at_217 ?_
    refine own_a X875 hx hby at_218 ?_
    refine st879 _ ?_
    refine own_iy (pc := 223) X879 hx hby at_223 (feq (by decide : ¬ ((1 : Int32) = (0 : Int32)))).2 228 ?_
    refine own_a X879 hx hby at_228 ?_
    refine own_i X879 hx hby at_230 ?_
    refine st883 _ ?_
    refine XS.bipush X883.here hx rfl (hb hby at_235) ?_
    refine own_cy (pc := 237) X883 hx hby at_237 (teq (rfl : (58 : Int32) = (58 : Int32))).1 242 ?_
    refine own_i X883 hx hby at_242 ?_
    refine own_in X883 hx hby at_244 (feq (by decide : ¬ ((1 : Int32) = (0 : Int32)))).1 ?_
    refine own_a X883 hx hby at_247 ?_
    refine own_i X883 hx hby at_249 ?_
    refine own_k X883 hx hby at_251 ?_
    refine XS.iadd X883.here hx rfl (hb hby at_252) rfl ?_
    show own_S p e below T883 (mkF m 253 (own_Ln p1 p2 p3 p4 fs rs kk mm b851 b854 b856 b862 .unset .unset .unset) [(.int ((Int32.ofNat fs.length) + (1 : Int32))), (.ref b862)]) _
    rw [hc137]
    refine st887 _ ?_
    refine XS.bipush X887.here hx rfl (hb hby at_256) ?_
    refine own_cy (pc := 258) X887 hx hby at_258 (teq (rfl : (45 : Int32) = (45 : Int32))).1 263 ?_
    refine own_i X887 hx hby at_263 ?_
    refine own_k X887 hx hby at_265 ?_
    refine XS.iadd X887.here hx rfl (hb hby at_266) rfl ?_
    show own_S p e below T887 (mkF m 267 (own_Ln p1 p2 p3 p4 fs rs kk mm b851 b854 b856 b862 .unset .unset .unset) [(.int ((Int32.ofNat fs.length) + (1 : Int32)))]) _
    rw [hc137]
    refine own_i X887 hx hby at_267 ?_
    refine XS.iadd X887.here hx rfl (hb hby at_269) rfl ?_
    show own_S p e below T887 (mkF m 270 (own_Ln p1 p2 p3 p4 fs rs kk mm b851 b854 b856 b862 .unset .unset .unset) [(.int ((Int32.ofNat (fs.length + 1)) + (1 : Int32)))]) _
    rw [hc158]
    refine XS.istore X887.here hx rfl (hb hby at_270) rfl (l' := (own_Ln p1 p2 p3 p4 fs rs kk mm b851 b854 b856 b862 (iv (Int32.ofNat (fs.length + 2))) .unset .unset)) rfl ?_
    refine XS.bipush X887.here hx rfl (hb hby at_272) ?_
    refine st888 _ ?_
    refine XS.dup X888.here hx rfl (hb hby at_276) rfl rfl ?_
    refine own_k X888 hx hby at_277 ?_
    refine XS.lconst X888.here hx rfl (hb hby at_278) ?_
    refine st891 _ ?_
    refine XS.dup X891.here hx rfl (hb hby at_280) rfl rfl ?_
    refine own_k X891 hx hby at_281 ?_
    refine X891.ldc2Long hx hown861 (mvT hZ861 (own_w hw 188 rfl)) (g := (mkF m 282 (own_Ln p1 p2 p3 p4 fs rs kk mm b851 b854 b856 b862 (iv (Int32.ofNat (fs.length + 2))) .unset .unset) [(.int (1 : Int32)), (.ref b888), (.ref b888)])) rfl (hb hby at_282) _ ?_
    refine st893 _ ?_
    refine XS.dup X893.here hx rfl (hb hby at_286) rfl rfl ?_
    refine own_k X893 hx hby at_287 ?_
    refine X893.ldc2Long hx hown861 (mvT hZ861 (own_w hw 216 rfl)) (g := (mkF m 288 (own_Ln p1 p2 p3 p4 fs rs kk mm b851 b854 b856 b862 (iv (Int32.ofNat (fs.length + 2))) .unset .unset) [(.int (2 : Int32)), (.ref b888), (.ref b888)])) rfl (hb hby at_288) _ ?_
    refine st895 _ ?_
    refine XS.dup X895.here hx rfl (hb hby at_292) rfl rfl ?_
    refine own_k X895 hx hby at_293 ?_
    refine X895.ldc2Long hx hown861 (mvT hZ861 (own_w hw 217 rfl)) (g := (mkF m 294 (own_Ln p1 p2 p3 p4 fs rs kk mm b851 b854 b856 b862 (iv (Int32.ofNat (fs.length + 2))) .unset .unset) [(.int (3 : Int32)), (.ref b888), (.ref b888)])) rfl (hb hby at_294) _ ?_
    refine st897 _ ?_
    refine XS.dup X897.here hx rfl (hb hby at_298) rfl rfl ?_
    refine own_k X897 hx hby at_299 ?_
    refine X897.ldc2Long hx hown861 (mvT hZ861 (own_w hw 218 rfl)) (g := (mkF m 300 (own_Ln p1 p2 p3 p4 fs rs kk mm b851 b854 b856 b862 (iv (Int32.ofNat (fs.length + 2))) .unset .unset) [(.int (4 : Int32)), (.ref b888), (.ref b888)])) rfl (hb hby at_300) _ ?_
    refine st899 _ ?_
    refine XS.dup X899.here hx rfl (hb hby at_304) rfl rfl ?_
    refine own_k X899 hx hby at_305 ?_
    refine X899.ldc2Long hx hown861 (mvT hZ861 (own_w hw 219 rfl)) (g := (mkF m 306 (own_Ln p1 p2 p3 p4 fs rs kk mm b851 b854 b856 b862 (iv (Int32.ofNat (fs.length + 2))) .unset .unset) [(.int (5 : Int32)), (.ref b888), (.ref b888)])) rfl (hb hby at_306) _ ?_
    refine st901 _ ?_
    refine XS.dup X901.here hx rfl (hb hby at_310) rfl rfl ?_
    refine XS.bipush X901.here hx rfl (hb hby at_311) ?_
    refine X901.ldc2Long hx hown861 (mvT hZ861 (own_w hw 220 rfl)) (g := (mkF m 313 (own_Ln p1 p2 p3 p4 fs rs kk mm b851 b854 b856 b862 (iv (Int32.ofNat (fs.length + 2))) .unset .unset) [(.int (6 : Int32)), (.ref b888), (.ref b888)])) rfl (hb hby at_313) _ ?_
    refine st903 _ ?_
    refine XS.dup X903.here hx rfl (hb hby at_317) rfl rfl ?_
    refine XS.bipush X903.here hx rfl (hb hby at_318) ?_
    refine X903.ldc2Long hx hown861 (mvT hZ861 (own_w hw 221 rfl)) (g := (mkF m 320 (own_Ln p1 p2 p3 p4 fs rs kk mm b851 b854 b856 b862 (iv (Int32.ofNat (fs.length + 2))) .unset .unset) [(.int (7 : Int32)), (.ref b888), (.ref b888)])) rfl (hb hby at_320) _ ?_
    refine st905 _ ?_
    refine XS.dup X905.here hx rfl (hb hby at_324) rfl rfl ?_
    refine XS.bipush X905.here hx rfl (hb hby at_325) ?_
    refine X905.ldc2Long hx hown861 (mvT hZ861 (own_w hw 222 rfl)) (g := (mkF m 327 (own_Ln p1 p2 p3 p4 fs rs kk mm b851 b854 b856 b862 (iv (Int32.ofNat (fs.length + 2))) .unset .unset) [(.int (8 : Int32)), (.ref b888), (.ref b888)])) rfl (hb hby at_327) _ ?_
    refine st907 _ ?_
    refine XS.dup X907.here hx rfl (hb hby at_331) rfl rfl ?_
    refine XS.bipush X907.here hx rfl (hb hby at_332) ?_
    refine X907.ldc2Long hx hown861 (mvT hZ861 (own_w hw 223 rfl)) (g := (mkF m 334 (own_Ln p1 p2 p3 p4 fs rs kk mm b851 b854 b856 b862 (iv (Int32.ofNat (fs.length + 2))) .unset .unset) [(.int (9 : Int32)), (.ref b888), (.ref b888)])) rfl (hb hby at_334) _ ?_
    refine st909 _ ?_
    refine XS.astore X909.here hx rfl (hb hby at_338) rfl rfl (l' := (own_Ln p1 p2 p3 p4 fs rs kk mm b851 b854 b856 b862 (iv (Int32.ofNat (fs.length + 2))) (rv b888) .unset)) rfl ?_
    refine own_a X909 hx hby at_340 ?_
    refine own_i X909 hx hby at_342 ?_
    refine XS.lload X909.here hx rfl (hb hby at_344) rfl ?_
    refine own_i X909 hx hby at_346 ?_
    refine own_k X909 hx hby at_348 ?_
    refine own_a X909 hx hby at_349 ?_
    refine st916 _ ?_
    refine own_in X916 hx hby at_354 (feq (by decide : ¬ ((1 : Int32) = (0 : Int32)))).1 ?_
    refine own_a X916 hx hby at_357 ?_
    refine own_i X916 hx hby at_359 ?_
    refine XS.lload X916.here hx rfl (hb hby at_361) rfl ?_
    refine own_i X916 hx hby at_363 ?_
    refine own_k X916 hx hby at_365 ?_
    refine own_a X916 hx hby at_366 ?_
    refine st923 _ ?_
    refine own_in X923 hx hby at_371 (feq (by decide : ¬ ((1 : Int32) = (0 : Int32)))).1 ?_
    refine own_a X923 hx hby at_374 ?_
    refine own_i X923 hx hby at_376 ?_
    refine XS.lload X923.here hx rfl (hb hby at_378) rfl ?_
    refine own_i X923 hx hby at_380 ?_
    refine own_k X923 hx hby at_382 ?_
    refine own_a X923 hx hby at_383 ?_
    refine st927 _ ?_
    refine own_in X927 hx hby at_388 (feq (by decide : ¬ ((1 : Int32) = (0 : Int32)))).1 ?_
    refine own_a X927 hx hby at_391 ?_
    refine own_i X927 hx hby at_393 ?_
    refine XS.lload X927.here hx rfl (hb hby at_395) rfl ?_
    refine own_i X927 hx hby at_397 ?_
    refine own_k X927 hx hby at_399 ?_
    refine own_a X927 hx hby at_400 ?_
    refine st931 _ ?_
    refine own_in X931 hx hby at_405 (feq (by decide : ¬ ((1 : Int32) = (0 : Int32)))).1 ?_
    refine own_a X931 hx hby at_408 ?_
    refine own_i X931 hx hby at_410 ?_
    refine XS.lload X931.here hx rfl (hb hby at_412) rfl ?_
    refine own_i X931 hx hby at_414 ?_
    refine own_k X931 hx hby at_416 ?_
    refine own_a X931 hx hby at_417 ?_
    refine st935 _ ?_
    refine own_in X935 hx hby at_422 (feq (by decide : ¬ ((1 : Int32) = (0 : Int32)))).1 ?_
    refine own_a X935 hx hby at_425 ?_
    refine own_i X935 hx hby at_427 ?_
    refine XS.lload X935.here hx rfl (hb hby at_429) rfl ?_
    refine own_i X935 hx hby at_431 ?_
    refine own_k X935 hx hby at_433 ?_
    refine own_a X935 hx hby at_434 ?_
    refine st939 _ ?_
    refine own_in X939 hx hby at_439 (feq (by decide : ¬ ((1 : Int32) = (0 : Int32)))).1 ?_
    refine own_a X939 hx hby at_442 ?_
    refine own_i X939 hx hby at_444 ?_
    refine XS.lload X939.here hx rfl (hb hby at_446) rfl ?_
    refine own_i X939 hx hby at_448 ?_
    refine XS.bipush X939.here hx rfl (hb hby at_450) ?_
    refine own_a X939 hx hby at_452 ?_
    refine st943 _ ?_
    refine own_in X943 hx hby at_457 (feq (by decide : ¬ ((1 : Int32) = (0 : Int32)))).1 ?_
    refine own_a X943 hx hby at_460 ?_
    refine own_i X943 hx hby at_462 ?_
    refine XS.lload X943.here hx rfl (hb hby at_464) rfl ?_
    refine own_i X943 hx hby at_466 ?_
    refine XS.bipush X943.here hx rfl (hb hby at_468) ?_
    refine own_a X943 hx hby at_470 ?_
    refine st947 _ ?_
    refine own_in X947 hx hby at_475 (feq (by decide : ¬ ((1 : Int32) = (0 : Int32)))).1 ?_
    refine own_a X947 hx hby at_478 ?_
    refine own_i X947 hx hby at_480 ?_
    refine XS.lload X947.here hx rfl (hb hby at_482) rfl ?_
    refine own_i X947 hx hby at_484 ?_
    refine XS.bipush X947.here hx rfl (hb hby at_486) ?_
    refine own_a X947 hx hby at_488 ?_
    refine st951 _ ?_
    refine own_in X951 hx hby at_493 (feq (by decide : ¬ ((1 : Int32) = (0 : Int32)))).1 ?_
    refine own_a X951 hx hby at_496 ?_
    refine own_i X951 hx hby at_498 ?_
    refine XS.lload X951.here hx rfl (hb hby at_500) rfl ?_
    refine own_i X951 hx hby at_502 ?_
    refine XS.bipush X951.here hx rfl (hb hby at_504) ?_
    refine own_a X951 hx hby at_506 ?_
    refine st955 _ ?_
    refine own_in X955 hx hby at_511 (feq (by decide : ¬ ((1 : Int32) = (0 : Int32)))).1 ?_
    refine own_k X955 hx hby at_514 ?_
    refine own_go (pc := 515) X955 hx hby at_515 519 ?_
    refine XS.istore X955.here hx rfl (hb hby at_519) rfl (l' := (own_Ln p1 p2 p3 p4 fs rs kk mm b851 b854 b856 b862 (iv (Int32.ofNat (fs.length + 2))) (rv b888) (iv (1 : Int32)))) rfl ?_
    refine own_i X955 hx hby at_521 ?_
    refine own_in X955 hx hby at_523 (feq (by decide : ¬ ((1 : Int32) = (0 : Int32)))).1 ?_
    refine own_a X955 hx hby at_526 ?_
    refine own_i X955 hx hby at_528 ?_
    refine st959 _ ?_
    refine XS.bipush X959.here hx rfl (hb hby at_533) ?_
    refine own_cn X959 hx hby at_535 (teq (rfl : (58 : Int32) = (58 : Int32))).2 ?_
    refine own_a X959 hx hby at_538 ?_
    refine own_i X959 hx hby at_540 ?_
    refine own_k X959 hx hby at_542 ?_
    refine XS.iadd X959.here hx rfl (hb hby at_543) rfl ?_
    show own_S p e below T959 (mkF m 544 (own_Ln p1 p2 p3 p4 fs rs kk mm b851 b854 b856 b862 (iv (Int32.ofNat (fs.length + 2))) (rv b888) (iv (1 : Int32))) [(.int ((Int32.ofNat (fs.length + 2 + kk)) + (1 : Int32))), (.ref b862)]) _
    rw [hc167]
    refine st963 _ ?_
    refine XS.bipush X963.here hx rfl (hb hby at_547) ?_
    refine own_cn X963 hx hby at_549 (teq (rfl : (32 : Int32) = (32 : Int32))).2 ?_
    refine own_a X963 hx hby at_552 ?_
    refine own_i X963 hx hby at_554 ?_
    refine own_k X963 hx hby at_556 ?_
    refine XS.iadd X963.here hx rfl (hb hby at_557) rfl ?_
    show own_S p e below T963 (mkF m 558 (own_Ln p1 p2 p3 p4 fs rs kk mm b851 b854 b856 b862 (iv (Int32.ofNat (fs.length + 2))) (rv b888) (iv (1 : Int32))) [(.int ((Int32.ofNat (fs.length + 2 + kk)) + (2 : Int32))), (.ref b862)]) _
    rw [hc160]
    refine own_a X963 hx hby at_558 ?_
    refine st967 _ ?_
    refine own_in X967 hx hby at_563 (feq (by decide : ¬ ((1 : Int32) = (0 : Int32)))).1 ?_
    refine own_k X967 hx hby at_566 ?_
    refine own_go (pc := 567) X967 hx hby at_567 571 ?_
    exact retN X967 hx (t := .boolean) hret (by simp) (hb hby at_571) hr
  · show Qrm0_n Z  h0 _ T967.heap _
    exact ⟨rfl, N967⟩
  · rw [hs0]
    show CHr Z consts_1 s.vm h0 T967.vm T967.heap
    rw [e967]
    exact CR909.trans (CHv.at (s := s) (vm0 := T861.vm) X967 hZ861 (own_hEL hw) CR909.1)
set_option maxRecDepth 65536 in
set_option maxHeartbeats 40000000 in
theorem comes_1 {Post : Tables → Env → Array Value → State → Outcome → State → Prop} (hpost : ∀ tb e args s v u, (limb_1_1.after args s (.returned v) u = true ∧ limb_1_2.after args s (.returned v) u = true ∧ True) → ReturnedEndW s (.returned v) u (Jvm.fieldLocs frame_1_writes args s ++ Jvm.arrayLocs frame_1_arrays args s ++ Jvm.staticLocs frame_1_statics s) 40 3392 → Post tb e args s (.returned v) u) :
    ArmFor flags0 classFile x code maxLocals ret World_1 tables_1 room_1 Calls_1 rest_1 Pre_1 Post := by
  intro l hfl _ _ p e ha hc hk s m args below hf hA hF happ hP
  obtain ⟨hcalls, hrest, hpre⟩ := hP
  obtain ⟨-, -, -, hnamed, -, -, -, hat⟩ := (Spec.applies_iff hf).mp happ
  obtain ⟨hg, hn⟩ := and_e (Cond.before_iff.mp (show (Jvm.Cond.and given_1 narrow_1).before args s = true from hpre))
  obtain ⟨hcount, hG0⟩ := and_e hg
  obtain ⟨hA0, hG1⟩ := and_e hG0
  obtain ⟨hA1, hG2⟩ := and_e hG1
  obtain ⟨hA2, hG3⟩ := and_e hG2
  have hA3 := hG3
  obtain ⟨v0, v1, v2, v3, rfl⟩ : ∃ v0 v1 v2 v3 : Value, args = #[v0, v1, v2, v3] := by
    have hs : args.size = 4 := by simpa [Cond.value, given_1] using hcount
    obtain ⟨L⟩ := args
    match L, hs with
    | [v0, v1, v2, v3], _ => exact ⟨v0, v1, v2, v3, rfl⟩
  have hw := fun d (hd : d ∈ tables_1) => atoms_spec (ws := Jvm.Cond.code x code maxLocals ret :: tables_1) hat d (List.mem_cons_of_mem _ hd)
  obtain ⟨p1, ei0⟩ := is_v hA0
  obtain rfl : v0 = (.int p1) := Option.some.inj ei0
  obtain ⟨p2, ei1⟩ := is_v hA1
  obtain rfl : v1 = (.int p2) := Option.some.inj ei1
  obtain ⟨p3, ei2⟩ := is_v hA2
  obtain rfl : v2 = (.int p3) := Option.some.inj ei2
  obtain ⟨p4, ei3⟩ := is_v hA3
  obtain rfl : v3 = (.int p4) := Option.some.inj ei3
  obtain ⟨hsets, hown0⟩ := atoms_of _ (rest_1_c_eq ▸ (show rest_1_c.before _ s = true from hrest))
  obtain ⟨w_CS, ev_w_CS⟩ := is_v (Cond.before_iff.mp (hsets _ (List.mem_of_getElem? (i := 1) rfl)))
  have S_w_CS : Sta s s.heap own_cS "COMPACT_STRINGS" "Z" (.int w_CS) := Sta.start ev_w_CS (Or.inl (hsets _ (List.mem_of_getElem? (i := 0) rfl)))
  have hc1 : ¬ (w_CS = (0 : Int32)) := own_neI (not_v (Cond.before_iff.mp (hsets _ (List.mem_of_getElem? (i := 2) rfl)))) ev_w_CS
  obtain ⟨w_SF, ev_w_SF, R_w_SF⟩ := isR_v (Cond.before_iff.mp (hsets _ (List.mem_of_getElem? (i := 8) rfl)))
  have S_w_SF : Sta s s.heap "jdk/internal/util/Preconditions" "SIOOBE_FORMATTER" "Ljava/util/function/BiFunction;" w_SF := Sta.start ev_w_SF (Or.inl (hsets _ (List.mem_of_getElem? (i := 7) rfl)))
  obtain ⟨w_DO, k_w_DO, S_w_DO, A_w_DO⟩ := own_digits (xs := own_ones) (Cond.before_iff.mp (hsets _ (List.mem_of_getElem? (i := 12) rfl))) (hsets _ (List.mem_of_getElem? (i := 11) rfl)) (Cond.before_iff.mp (hsets _ (List.mem_of_getElem? (i := 13) rfl))) (Cond.before_iff.mp (hsets _ (List.mem_of_getElem? (i := 14) rfl))) (own_w hw 23 rfl) (own_on _ _)
  obtain ⟨w_DT, k_w_DT, S_w_DT, A_w_DT⟩ := own_digits (xs := own_tens) (Cond.before_iff.mp (hsets _ (List.mem_of_getElem? (i := 17) rfl))) (hsets _ (List.mem_of_getElem? (i := 16) rfl)) (Cond.before_iff.mp (hsets _ (List.mem_of_getElem? (i := 18) rfl))) (Cond.before_iff.mp (hsets _ (List.mem_of_getElem? (i := 19) rfl))) (own_w hw 23 rfl) (own_tn _ _)
  have hCH : CHv s consts_1 s.vm s.heap := CHv.start (own_hEL hw) (fun p hp => hcalls.1 p hp) (hsets _ (List.mem_of_getElem? (i := 2) rfl)) (own_w hw 23 rfl) (own_w hw 5 rfl)
  have hX0 : Ext s.heap s.heap := ⟨Nat.le_refl _, fun _ _ q => q⟩
  have key : MetFree l x (head1 (Jvm.Cond.code x code maxLocals ret :: tables_1) room_1) (fun a U => a = #[(.int p1), (.int p2), (.int p3), (.int p4)] ∧ s.Warmed39 U.vm ∧ U.heap = s.heap ∧ CHv s consts_1 U.vm s.heap) (fun _ _ _ _ _ => True) (fun _ U o U' => ∃ v L, o = .returned v ∧ (v = some (.int 1) ∧ Fr s.heap.size L) ∧ ReturnedEndW U o U' L room_1.cells room_1.slots) := by
    obtain ⟨fs, hc130, hc128, hc126⟩ := own_mk_ex p1 (own_m3 p4)
    obtain ⟨rs, hc131, hc129, hc127⟩ := own_mk_ex p2 (own_m3 ((p4.toUInt32 >>> ((2 : Int32) &&& 31).toUInt32).toInt32))
    by_cases hc132 : p3 = (0 : Int32)
    · exact own_metW_drop (rm0_z l s _ hw tables_1 w_CS w_SF p1 p2 p3 p4 fs rs s.heap hX0 S_w_CS R_w_SF S_w_SF hc128 hc129 hc1 hc130 hc131 hc132 hc126 hc127 (Int32.ofNat_add fs.length 2).symm (own_z_len fs rs) (own_z_s1 hc126 hc127) (own_z_a1 hc126 hc127) (Int32.ofNat_add fs.length 1).symm (own_z_a2 hc126 hc127) (own_z_s2 hc126 hc127))
    · have hc140 : ¬ (p3 = (0 : Int32)) := hc132
      by_cases hp : p3 < (0 : Int32)
      · obtain ⟨kk, hD⟩ := own_dn_ex hp
        have hN := own_nd_n hD
        exact own_metW_drop (rm0_n l s _ hw tables_1 w_CS w_SF p1 p2 p3 p4 kk w_DO k_w_DO w_DT k_w_DT (-(p3.toInt64)) fs rs s.heap hX0 S_w_CS S_w_DO A_w_DO S_w_DT A_w_DT R_w_SF S_w_SF hc128 hc129 hc1 hc130 hc131 hc140 hN hc126 hc127 (own_n_l hD) rfl (own_n_m hD) (Int32.ofNat_add fs.length 1).symm (Int32.ofNat_add (fs.length + 1) 1).symm (Int32.ofNat_add _ _).symm (Int32.ofNat_add (fs.length + 2 + kk) 2).symm (own_n_len fs p3 kk rs) (own_n_s1 hc126 hc127 hD) (own_n_a1 hc126 hc127 hD) (own_n_a2 hc126 hc127 hD) (own_n_d hc126 hc127 hD) (own_n_a3 hc126 hc127 hD) (Int32.ofNat_add (fs.length + 2 + kk) 1).symm (own_n_a4 hc126 hc127 hD) (own_n_s2 hc126 hc127 hD))
      · obtain ⟨kk, hD⟩ := own_dp_ex hp
        have hN := own_nd_p hD
        exact own_metW_drop (rm0_p l s _ hw tables_1 w_CS w_SF p1 p2 p3 p4 kk w_DO k_w_DO w_DT k_w_DT (p3.toInt64) fs rs s.heap hX0 S_w_CS S_w_DO A_w_DO S_w_DT A_w_DT R_w_SF S_w_SF hc128 hc129 hc1 hc130 hc131 hc140 hN hc126 hc127 rfl (own_p_l hD) (own_p_m hD) (Int32.ofNat_add fs.length 1).symm (Int32.add_zero _) (Int32.ofNat_add _ _).symm (Int32.ofNat_add (fs.length + 1 + kk) 2).symm (own_p_len fs p3 kk rs) (own_p_s1 hc126 hc127 hD) (own_p_a1 hc126 hc127 hD) (own_p_d hc126 hc127 hD) (own_p_a3 hc126 hc127 hD) (Int32.ofNat_add (fs.length + 1 + kk) 1).symm (own_p_a4 hc126 hc127 hD) (own_p_s2 hc126 hc127 hD))
  obtain ⟨n, o, h1, h2, h3, _, L, rfl, ⟨rfl, N⟩, hq⟩ := key p e ha hc hk s m _ below hf ((Spec.applies_iff_loose hf).mp happ).1 ⟨rfl, State.Warmed39.refl s, rfl, hCH⟩ trivial
  refine ⟨n, _, h1, h2, h3, hpost _ _ _ _ _ _ ⟨Cond.after_iff.mpr rfl, Cond.after_iff.mpr (eq_i res_at (Term.int_eval (1)) rfl), trivial⟩ ⟨hq.1, hq.2.1, hq.2.2.1, (hq.2.2.2.sift fun y hy => Or.inr (N y hy)).mono (by decide) (by decide)⟩⟩
theorem main_1_1 : Claimed_1_1 := comes_1 fun _ _ _ _ _ _ h hF => ⟨h.1, hF⟩
theorem main_1_2 : Claimed_1_2 := comes_1 fun _ _ _ _ _ _ h hF => ⟨h.2.1, hF⟩
end Jvm.Pilot.@@N@@
namespace Jvm.Pilot.@@N@@
open Jvm Jvm.ClassFile Sem Op Lib Jvm.Free Jvm.Stand Jvm.Pilot.@@N@@.Jvm.D
/-! MADE BY PROGRAM (witnessworld.py) out of the Statement's table words and the real class files: 30 classes; the members and pool entries that the words name. The judged class is class 1, her method 1. -/
namespace start1
open Jvm.ClassFile
def u (s : String) : CpInfo := .utf8 (stringToUtf16 s)
/-- a pool by its gaps: so many unusable entries, then the entry; so many at the end -/
def gap : Nat → List CpInfo → List CpInfo
  | 0, r => r
  | n + 1, r => .unusable :: gap n r
def poolList (es : List (Nat × CpInfo)) (last : Nat) : List CpInfo := es.foldr (fun e r => gap e.1 (e.2 :: r)) (gap last [])
def pool (es : List (Nat × CpInfo)) (last : Nat) : Array CpInfo := ⟨poolList es last⟩
def fileOf (pool : Array CpInfo) (this : Nat) (attrs : Array Attribute := #[]) (ms : Array MethodInfo := #[]) (fl : Nat := 33) (sup : Nat := 0) (ifs : Array Nat := #[]) (fds : Array FieldInfo := #[]) : ClassFile where
  minorVersion := 0
  majorVersion := 65
  constantPool := pool
  accessFlags := fl
  thisClass := this
  superClass := sup
  interfaces := ifs
  fields := fds
  methods := ms
  attributes := attrs
def plain (name : String) (sup : Option ClassId) : Class where
  name := name
  kind := .ordinary
  loader := none
  accessFlags := 33
  super := sup
  interfaces := #[]
  cf := none
  fields := #[]
  methods := #[]
  instanceTypes := #[]
  staticTypes := #[]
  resolved := #[]
  callSites := []
  init := .initialized
  statics := none
  mirror := none

def pool0 : Array CpInfo := pool [(5, u "<init>"), (0, u "()V"), (1, .class_ 10), (1, u "java/lang/Object"), (85, u "clone"), (0, u "()Ljava/lang/Object;")] 26

def k0c0 : Code := { maxStack := 0, maxLocals := 1, code := object_method_1_code, exceptionTable := #[], attributes := #[] }
def k0m0 : Method := { name := "<init>", desc := "()V", sig := { parameters := [], returnType := none }, accessFlags := 1, code := some k0c0 }
def k0m1 : Method := { name := "clone", desc := "()Ljava/lang/Object;", sig := { parameters := [], returnType := some (.object "java/lang/Object") }, accessFlags := 260, code := none }
/-- java/lang/Object -/
def k0 : Class := { plain "java/lang/Object" none with
  accessFlags := 33
  interfaces := #[]
  cf := some (fileOf pool0 8 #[] #[{ accessFlags := 1, nameIndex := 5, descriptorIndex := 6, attributes := #[] }, { accessFlags := 260, nameIndex := 96, descriptorIndex := 97, attributes := #[] }] 33 0 #[] #[])
  fields := #[]
  methods := #[k0m0, k0m1]
  instanceTypes := #[]
  staticTypes := #[]
  resolved := Array.replicate 124 none
  statics := none }

def pool1 : Array CpInfo := pool [(2, .class_ 4), (1, u "java/lang/Object"), (0, u "<init>"), (0, u "()V"), (0, .methodref 8 9), (0, .class_ 10), (0, .nameAndType 11 12), (0, u "com/example/fill_realm/fillrealm/ProblemToStringPinLaw"), (0, u "mk"), (0, u "(II)Ljava/lang/String;"), (0, .class_ 14), (0, u "com/example/fill_realm/fillrealm/Problem"), (0, .methodref 13 16), (0, .nameAndType 5 17), (0, u "(Ljava/lang/String;ILjava/lang/String;)V"), (0, .methodref 13 19), (0, .nameAndType 20 21), (0, u "toString"), (0, u "()Ljava/lang/String;"), (0, .methodref 23 24), (0, .class_ 25), (0, .nameAndType 26 27), (0, u "java/lang/String"), (0, u "length"), (0, u "()I"), (0, .methodref 8 29), (0, .nameAndType 30 31), (0, u "seg"), (0, u "(Ljava/lang/String;ILjava/lang/String;)Z"), (0, .methodref 23 33), (0, .nameAndType 34 35), (0, u "charAt"), (0, u "(I)C"), (0, .methodref 8 37), (0, .nameAndType 38 39), (0, u "ndig"), (0, u "(J)I"), (0, .long 10), (1, .long 100), (1, .long 1000), (1, .long 10000), (1, .long 100000), (1, .long 1000000), (1, .long 10000000), (1, .long 100000000), (1, .long 1000000000), (1, .methodref 8 59), (0, .nameAndType 60 61), (0, u "dig"), (0, u "(Ljava/lang/String;IJII[J)Z"), (0, .methodref 23 63), (0, .nameAndType 5 64), (0, u "([C)V"), (2, u "law"), (0, u "(IIII)Z")] 5

def k1m0 : Method := { name := "<init>", desc := "()V", sig := { parameters := [], returnType := none }, accessFlags := 1, code := none }
def k1c1 : Code := { maxStack := 7, maxLocals := 21, code := code, exceptionTable := #[], attributes := #[] }
def k1m1 : Method := { name := "law", desc := "(IIII)Z", sig := { parameters := [.int, .int, .int, .int], returnType := some .boolean }, accessFlags := 9, code := some k1c1 }
def k1c2 : Code := { maxStack := 6, maxLocals := 5, code := method_3_code, exceptionTable := #[], attributes := #[] }
def k1m2 : Method := { name := "mk", desc := "(II)Ljava/lang/String;", sig := { parameters := [.int, .int], returnType := some (.object "java/lang/String") }, accessFlags := 10, code := some k1c2 }
def k1c3 : Code := { maxStack := 3, maxLocals := 4, code := method_4_code, exceptionTable := #[], attributes := #[] }
def k1m3 : Method := { name := "seg", desc := "(Ljava/lang/String;ILjava/lang/String;)Z", sig := { parameters := [(.object "java/lang/String"), .int, (.object "java/lang/String")], returnType := some .boolean }, accessFlags := 10, code := some k1c3 }
def k1c4 : Code := { maxStack := 4, maxLocals := 2, code := method_5_code, exceptionTable := #[], attributes := #[] }
def k1m4 : Method := { name := "ndig", desc := "(J)I", sig := { parameters := [.long], returnType := some .int }, accessFlags := 10, code := some k1c4 }
def k1c5 : Code := { maxStack := 5, maxLocals := 9, code := method_6_code, exceptionTable := #[], attributes := #[] }
def k1m5 : Method := { name := "dig", desc := "(Ljava/lang/String;IJII[J)Z", sig := { parameters := [(.object "java/lang/String"), .int, .long, .int, .int, (.array .long)], returnType := some .boolean }, accessFlags := 10, code := some k1c5 }
/-- com/example/fill_realm/fillrealm/ProblemToStringPinLaw -/
def k1 : Class := { plain "com/example/fill_realm/fillrealm/ProblemToStringPinLaw" (some 0) with
  accessFlags := 49
  interfaces := #[]
  cf := some (fileOf pool1 8 #[] #[{ accessFlags := 1, nameIndex := 5, descriptorIndex := 6, attributes := #[] }, { accessFlags := 9, nameIndex := 67, descriptorIndex := 68, attributes := #[] }, { accessFlags := 10, nameIndex := 11, descriptorIndex := 12, attributes := #[] }, { accessFlags := 10, nameIndex := 30, descriptorIndex := 31, attributes := #[] }, { accessFlags := 10, nameIndex := 38, descriptorIndex := 39, attributes := #[] }, { accessFlags := 10, nameIndex := 60, descriptorIndex := 61, attributes := #[] }] 49 2 #[] #[])
  fields := #[]
  methods := #[k1m0, k1m1, k1m2, k1m3, k1m4, k1m5]
  instanceTypes := #[]
  staticTypes := #[]
  resolved := Array.replicate 74 none
  statics := none }

def pool2 : Array CpInfo := pool [(1, .class_ 2), (0, u "java/io/Serializable"), (0, .class_ 4), (0, u "java/lang/Object")] 2

/-- java/io/Serializable -/
def k2 : Class := { plain "java/io/Serializable" (some 0) with
  accessFlags := 1537
  interfaces := #[]
  cf := some (fileOf pool2 1 #[] #[] 1537 3 #[] #[])
  fields := #[]
  methods := #[]
  instanceTypes := #[]
  staticTypes := #[]
  resolved := Array.replicate 7 none
  statics := none }

def pool3 : Array CpInfo := pool [(1, .class_ 2), (0, u "java/lang/Comparable"), (0, .class_ 4), (0, u "java/lang/Object")] 7

/-- java/lang/Comparable -/
def k3 : Class := { plain "java/lang/Comparable" (some 0) with
  accessFlags := 1537
  interfaces := #[]
  cf := some (fileOf pool3 1 #[] #[] 1537 3 #[] #[])
  fields := #[]
  methods := #[]
  instanceTypes := #[]
  staticTypes := #[]
  resolved := Array.replicate 12 none
  statics := none }

def pool4 : Array CpInfo := pool [(2, .class_ 4), (1, u "java/lang/CharSequence"), (42, .class_ 48), (0, u "java/lang/CharSequence$1CodePointIterator"), (10, .class_ 60), (0, u "java/lang/CharSequence$1CharIterator"), (5, .class_ 67), (0, u "java/lang/Object")] 63

/-- java/lang/CharSequence -/
def k4 : Class := { plain "java/lang/CharSequence" (some 0) with
  accessFlags := 1537
  interfaces := #[]
  cf := some (fileOf pool4 2 #[.nestMembers #[47, 59]] #[] 1537 66 #[] #[])
  fields := #[]
  methods := #[]
  instanceTypes := #[]
  staticTypes := #[]
  resolved := Array.replicate 131 none
  statics := none }

def pool5 : Array CpInfo := pool [(1, .class_ 2), (0, u "java/lang/constant/Constable"), (0, .class_ 4), (0, u "java/lang/Object")] 6

/-- java/lang/constant/Constable -/
def k5 : Class := { plain "java/lang/constant/Constable" (some 0) with
  accessFlags := 1537
  interfaces := #[]
  cf := some (fileOf pool5 1 #[] #[] 1537 3 #[] #[])
  fields := #[]
  methods := #[]
  instanceTypes := #[]
  staticTypes := #[]
  resolved := Array.replicate 11 none
  statics := none }

def pool6 : Array CpInfo := pool [(1, .class_ 2), (0, u "java/lang/constant/ConstantDesc"), (0, .class_ 4), (0, u "java/lang/Object")] 32

/-- java/lang/constant/ConstantDesc -/
def k6 : Class := { plain "java/lang/constant/ConstantDesc" (some 0) with
  accessFlags := 1537
  interfaces := #[]
  cf := some (fileOf pool6 1 #[] #[] 1537 3 #[] #[])
  fields := #[]
  methods := #[]
  instanceTypes := #[]
  staticTypes := #[]
  resolved := Array.replicate 37 none
  statics := none }

def pool7 : Array CpInfo := pool [(1, .methodref 2 3), (0, .class_ 4), (0, .nameAndType 5 6), (0, u "java/lang/Object"), (0, u "<init>"), (0, u "()V"), (0, .string 8), (0, u ""), (0, .fieldref 10 11), (0, .class_ 12), (0, .nameAndType 13 14), (0, u "java/lang/String"), (0, u "value"), (0, u "[B"), (0, .fieldref 10 16), (0, .nameAndType 17 18), (0, u "coder"), (0, u "B"), (2, u "hash"), (0, u "I"), (2, u "hashIsZero"), (0, u "Z"), (0, .methodref 10 28), (0, .nameAndType 5 29), (0, u "([CIILjava/lang/Void;)V"), (8, .fieldref 10 39), (0, .nameAndType 40 26), (0, u "COMPACT_STRINGS"), (1, .class_ 44), (1, u "java/lang/StringUTF16"), (0, u "compress"), (1, .methodref 42 48), (0, .nameAndType 49 50), (0, u "coderFromArrayLen"), (0, u "([BI)B"), (3, .methodref 55 56), (0, .class_ 57), (0, .nameAndType 58 59), (0, u "java/util/Arrays"), (0, u "copyOfRange"), (0, u "([BII)[B"), (47, .class_ 109), (1, u "java/lang/StringLatin1"), (32, u "()Z"), (34, .methodref 42 178), (0, .nameAndType 45 179), (0, u "([CII)[B"), (13, .class_ 195), (1, u "java/lang/System"), (16, .methodref 193 213), (0, .nameAndType 214 215), (0, u "arraycopy"), (0, u "(Ljava/lang/Object;ILjava/lang/Object;II)V"), (118, u "()I"), (0, .methodref 10 336), (0, .nameAndType 17 337), (0, u "()B"), (2, u "()[B"), (22, u "([BI)C"), (27, u "(II)V"), (35, u "(I)C"), (61, .methodref 10 490), (0, .nameAndType 5 491), (0, u "(Ljava/lang/AbstractStringBuilder;Ljava/lang/Void;)V"), (0, .methodref 10 493), (0, .nameAndType 494 142), (0, u "isLatin1"), (0, .methodref 107 496), (0, .nameAndType 497 363), (0, u "charAt"), (3, u "checkIndex"), (4, .nameAndType 507 334), (0, u "length"), (24, u "getBytes"), (16, .methodref 550 506), (0, .class_ 551), (0, u "java/lang/AbstractStringBuilder"), (0, .methodref 550 553), (0, .nameAndType 554 340), (0, u "getValue"), (20, .class_ 576), (0, u "java/lang/CharSequence"), (22, u "CASE_INSENSITIVE_ORDER"), (0, u "Ljava/util/Comparator;"), (220, u "([BIB)V"), (188, u "([C)V"), (36, .methodref 550 493), (5, .fieldref 1054 1055), (0, .class_ 1056), (0, .nameAndType 1057 1058), (0, u "jdk/internal/util/Preconditions"), (0, u "SIOOBE_FORMATTER"), (0, u "Ljava/util/function/BiFunction;"), (0, .methodref 1054 1060), (0, .nameAndType 501 1061), (0, u "(IILjava/util/function/BiFunction;)I"), (39, u "serialPersistentFields"), (0, u "[Ljava/io/ObjectStreamField;"), (0, .class_ 1104), (0, u "java/lang/String$CaseInsensitiveComparator"), (1, .class_ 1107), (0, u "java/io/Serializable"), (0, .class_ 1109), (0, u "java/lang/Comparable"), (0, .class_ 1111), (0, u "java/lang/constant/Constable"), (0, .class_ 1113), (0, u "java/lang/constant/ConstantDesc"), (2, u "serialVersionUID"), (0, u "J"), (3, u "REPL"), (0, u "C"), (2, u "LATIN1"), (1, u "UTF16"), (105, u "(Ljava/lang/StringBuilder;)V")] 217

def k7m0 : Method := { name := "<init>", desc := "()V", sig := { parameters := [], returnType := none }, accessFlags := 1, code := none }
def k7c1 : Code := { maxStack := 5, maxLocals := 2, code := jdk_42_method_3_code, exceptionTable := #[], attributes := #[] }
def k7m1 : Method := { name := "<init>", desc := "([C)V", sig := { parameters := [(.array .char)], returnType := none }, accessFlags := 1, code := some k7c1 }
def k7c2 : Code := { maxStack := 3, maxLocals := 2, code := jdk_42_method_53_code, exceptionTable := #[], attributes := #[] }
def k7m2 : Method := { name := "<init>", desc := "(Ljava/lang/StringBuilder;)V", sig := { parameters := [(.object "java/lang/StringBuilder")], returnType := none }, accessFlags := 1, code := some k7c2 }
def k7c3 : Code := { maxStack := 2, maxLocals := 1, code := jdk_42_method_54_code, exceptionTable := #[], attributes := #[] }
def k7m3 : Method := { name := "length", desc := "()I", sig := { parameters := [], returnType := some .int }, accessFlags := 1, code := some k7c3 }
def k7c4 : Code := { maxStack := 2, maxLocals := 2, code := jdk_42_method_56_code, exceptionTable := #[], attributes := #[] }
def k7m4 : Method := { name := "charAt", desc := "(I)C", sig := { parameters := [.int], returnType := some .char }, accessFlags := 1, code := some k7c4 }
def k7c5 : Code := { maxStack := 5, maxLocals := 4, code := jdk_42_method_147_code, exceptionTable := #[], attributes := #[] }
def k7m5 : Method := { name := "getBytes", desc := "([BIB)V", sig := { parameters := [(.array .byte), .int, .byte], returnType := none }, accessFlags := 0, code := some k7c5 }
def k7c6 : Code := { maxStack := 4, maxLocals := 6, code := jdk_42_method_149_code, exceptionTable := #[], attributes := #[] }
def k7m6 : Method := { name := "<init>", desc := "([CIILjava/lang/Void;)V", sig := { parameters := [(.array .char), .int, .int, (.object "java/lang/Void")], returnType := none }, accessFlags := 2, code := some k7c6 }
def k7c7 : Code := { maxStack := 5, maxLocals := 5, code := jdk_42_method_150_code, exceptionTable := #[], attributes := #[] }
def k7m7 : Method := { name := "<init>", desc := "(Ljava/lang/AbstractStringBuilder;Ljava/lang/Void;)V", sig := { parameters := [(.object "java/lang/AbstractStringBuilder"), (.object "java/lang/Void")], returnType := none }, accessFlags := 0, code := some k7c7 }
def k7c8 : Code := { maxStack := 1, maxLocals := 1, code := jdk_42_method_152_code, exceptionTable := #[], attributes := #[] }
def k7m8 : Method := { name := "coder", desc := "()B", sig := { parameters := [], returnType := some .byte }, accessFlags := 0, code := some k7c8 }
def k7c9 : Code := { maxStack := 1, maxLocals := 1, code := jdk_42_method_154_code, exceptionTable := #[], attributes := #[] }
def k7m9 : Method := { name := "isLatin1", desc := "()Z", sig := { parameters := [], returnType := some .boolean }, accessFlags := 0, code := some k7c9 }
def k7c10 : Code := { maxStack := 3, maxLocals := 2, code := jdk_42_method_155_code, exceptionTable := #[], attributes := #[] }
def k7m10 : Method := { name := "checkIndex", desc := "(II)V", sig := { parameters := [.int, .int], returnType := none }, accessFlags := 8, code := some k7c10 }
/-- java/lang/String -/
def k7 : Class := { plain "java/lang/String" (some 0) with
  accessFlags := 49
  interfaces := #[2, 3, 4, 5, 6]
  cf := some (fileOf pool7 10 #[.nestMembers #[1103]] #[{ accessFlags := 1, nameIndex := 5, descriptorIndex := 6, attributes := #[] }, { accessFlags := 1, nameIndex := 5, descriptorIndex := 1010, attributes := #[] }, { accessFlags := 1, nameIndex := 5, descriptorIndex := 1233, attributes := #[] }, { accessFlags := 1, nameIndex := 507, descriptorIndex := 334, attributes := #[] }, { accessFlags := 1, nameIndex := 497, descriptorIndex := 427, attributes := #[] }, { accessFlags := 0, nameIndex := 532, descriptorIndex := 821, attributes := #[] }, { accessFlags := 2, nameIndex := 5, descriptorIndex := 29, attributes := #[] }, { accessFlags := 0, nameIndex := 5, descriptorIndex := 491, attributes := #[] }, { accessFlags := 0, nameIndex := 17, descriptorIndex := 337, attributes := #[] }, { accessFlags := 0, nameIndex := 494, descriptorIndex := 142, attributes := #[] }, { accessFlags := 8, nameIndex := 501, descriptorIndex := 391, attributes := #[] }] 49 2 #[1106, 1108, 575, 1110, 1112] #[{ accessFlags := 18, nameIndex := 13, descriptorIndex := 14, attributes := #[] }, { accessFlags := 18, nameIndex := 17, descriptorIndex := 18, attributes := #[] }, { accessFlags := 2, nameIndex := 21, descriptorIndex := 22, attributes := #[] }, { accessFlags := 2, nameIndex := 25, descriptorIndex := 26, attributes := #[] }, { accessFlags := 26, nameIndex := 1116, descriptorIndex := 1117, attributes := #[] }, { accessFlags := 24, nameIndex := 40, descriptorIndex := 26, attributes := #[] }, { accessFlags := 26, nameIndex := 1101, descriptorIndex := 1102, attributes := #[] }, { accessFlags := 26, nameIndex := 1121, descriptorIndex := 1122, attributes := #[] }, { accessFlags := 25, nameIndex := 599, descriptorIndex := 600, attributes := #[] }, { accessFlags := 24, nameIndex := 1125, descriptorIndex := 18, attributes := #[] }, { accessFlags := 24, nameIndex := 1127, descriptorIndex := 18, attributes := #[] }])
  fields := #[{ name := "value", type := (.array .byte), accessFlags := 18, slot := 0, constantValue := 0 }, { name := "coder", type := .byte, accessFlags := 18, slot := 1, constantValue := 0 }, { name := "hash", type := .int, accessFlags := 2, slot := 2, constantValue := 0 }, { name := "hashIsZero", type := .boolean, accessFlags := 2, slot := 3, constantValue := 0 }, { name := "serialVersionUID", type := .long, accessFlags := 26, slot := 0, constantValue := 0 }, { name := "COMPACT_STRINGS", type := .boolean, accessFlags := 24, slot := 1, constantValue := 0 }, { name := "serialPersistentFields", type := (.array (.object "java/io/ObjectStreamField")), accessFlags := 26, slot := 2, constantValue := 0 }, { name := "REPL", type := .char, accessFlags := 26, slot := 3, constantValue := 0 }, { name := "CASE_INSENSITIVE_ORDER", type := (.object "java/util/Comparator"), accessFlags := 25, slot := 4, constantValue := 0 }, { name := "LATIN1", type := .byte, accessFlags := 24, slot := 5, constantValue := 0 }, { name := "UTF16", type := .byte, accessFlags := 24, slot := 6, constantValue := 0 }]
  methods := #[k7m0, k7m1, k7m2, k7m3, k7m4, k7m5, k7m6, k7m7, k7m8, k7m9, k7m10]
  instanceTypes := #[(.array .byte), .byte, .int, .boolean]
  staticTypes := #[.long, .boolean, (.array (.object "java/io/ObjectStreamField")), .char, (.object "java/util/Comparator"), .byte, .byte]
  resolved := Array.replicate 1451 none
  statics := some 0 }

def pool8 : Array CpInfo := pool [(6, .class_ 8), (1, u "java/lang/Object"), (0, u "<init>"), (0, u "()V"), (1, .class_ 14), (1, u "java/lang/StringUTF16"), (31, u "$assertionsDisabled"), (0, u "Z"), (13, u "HI_BYTE_SHIFT"), (0, u "I"), (2, u "LO_BYTE_SHIFT"), (49, .methodref 12 116), (0, .nameAndType 117 118), (0, u "compress"), (0, u "([CI[BII)I"), (3, u "([CII)[B"), (138, u "coderFromArrayLen"), (0, u "([BI)B"), (106, .class_ 371), (1, u "java/lang/StringUTF16$LinesSpliterator"), (58, u "MAX_LENGTH"), (196, .class_ 628), (0, u "java/lang/StringUTF16$CodePointsSpliterator"), (0, .class_ 630), (0, u "java/lang/StringUTF16$CharsSpliterator")] 4

def k8m0 : Method := { name := "<init>", desc := "()V", sig := { parameters := [], returnType := none }, accessFlags := 0, code := none }
def k8c1 : Code := { maxStack := 2, maxLocals := 2, code := jdk_52_method_15_code, exceptionTable := #[], attributes := #[] }
def k8m1 : Method := { name := "coderFromArrayLen", desc := "([BI)B", sig := { parameters := [(.array .byte), .int], returnType := some .byte }, accessFlags := 8, code := some k8c1 }
def k8c2 : Code := { maxStack := 5, maxLocals := 6, code := jdk_52_method_16_code, exceptionTable := #[], attributes := #[] }
def k8m2 : Method := { name := "compress", desc := "([CII)[B", sig := { parameters := [(.array .char), .int, .int], returnType := some (.array .byte) }, accessFlags := 9, code := some k8c2 }
def k8c3 : Code := { maxStack := 3, maxLocals := 7, code := jdk_52_method_21_code, exceptionTable := #[], attributes := #[] }
def k8m3 : Method := { name := "compress", desc := "([CI[BII)I", sig := { parameters := [(.array .char), .int, (.array .byte), .int, .int], returnType := some .int }, accessFlags := 9, code := some k8c3 }
/-- java/lang/StringUTF16 -/
def k8 : Class := { plain "java/lang/StringUTF16" (some 0) with
  accessFlags := 48
  interfaces := #[]
  cf := some (fileOf pool8 12 #[.nestMembers #[627, 629, 369]] #[{ accessFlags := 0, nameIndex := 9, descriptorIndex := 10, attributes := #[] }, { accessFlags := 8, nameIndex := 261, descriptorIndex := 262, attributes := #[] }, { accessFlags := 9, nameIndex := 117, descriptorIndex := 122, attributes := #[] }, { accessFlags := 9, nameIndex := 117, descriptorIndex := 118, attributes := #[] }] 48 6 #[] #[{ accessFlags := 26, nameIndex := 61, descriptorIndex := 62, attributes := #[] }, { accessFlags := 26, nameIndex := 65, descriptorIndex := 62, attributes := #[] }, { accessFlags := 24, nameIndex := 430, descriptorIndex := 62, attributes := #[] }, { accessFlags := 4120, nameIndex := 46, descriptorIndex := 47, attributes := #[] }])
  fields := #[{ name := "HI_BYTE_SHIFT", type := .int, accessFlags := 26, slot := 0, constantValue := 0 }, { name := "LO_BYTE_SHIFT", type := .int, accessFlags := 26, slot := 1, constantValue := 0 }, { name := "MAX_LENGTH", type := .int, accessFlags := 24, slot := 2, constantValue := 0 }, { name := "$assertionsDisabled", type := .boolean, accessFlags := 4120, slot := 3, constantValue := 0 }]
  methods := #[k8m0, k8m1, k8m2, k8m3]
  instanceTypes := #[]
  staticTypes := #[.int, .int, .int, .boolean]
  resolved := Array.replicate 635 none
  statics := none }

def pool9 : Array CpInfo := pool [(1, .methodref 2 3), (0, .class_ 4), (0, .nameAndType 5 6), (0, u "java/lang/Object"), (0, u "<init>"), (0, u "()V"), (0, .fieldref 8 9), (0, .class_ 10), (0, .nameAndType 11 12), (0, u "com/example/fill_realm/fillrealm/Problem"), (0, u "file"), (0, u "Ljava/lang/String;"), (0, .fieldref 8 14), (0, .nameAndType 15 16), (0, u "line"), (0, u "I"), (0, .fieldref 8 18), (0, .nameAndType 19 12), (0, u "reason"), (0, .class_ 21), (0, u "java/lang/StringBuilder"), (0, .methodref 20 3), (0, .methodref 20 24), (0, .nameAndType 25 26), (0, u "append"), (0, u "(Ljava/lang/String;)Ljava/lang/StringBuilder;"), (0, .string 28), (0, u ": "), (0, .methodref 20 30), (0, .nameAndType 31 32), (0, u "toString"), (0, u "()Ljava/lang/String;"), (0, .string 34), (0, u ":"), (0, .methodref 20 36), (0, .nameAndType 25 37), (0, u "(I)Ljava/lang/StringBuilder;"), (0, .class_ 39), (0, u "java/io/Serializable"), (0, u "serialVersionUID"), (0, u "J"), (3, u "(Ljava/lang/String;ILjava/lang/String;)V")] 7

def k9c0 : Code := { maxStack := 2, maxLocals := 4, code := prog_8_method_1_code, exceptionTable := #[], attributes := #[] }
def k9m0 : Method := { name := "<init>", desc := "(Ljava/lang/String;ILjava/lang/String;)V", sig := { parameters := [(.object "java/lang/String"), .int, (.object "java/lang/String")], returnType := none }, accessFlags := 1, code := some k9c0 }
def k9c1 : Code := { maxStack := 2, maxLocals := 1, code := prog_8_method_2_code, exceptionTable := #[], attributes := #[] }
def k9m1 : Method := { name := "toString", desc := "()Ljava/lang/String;", sig := { parameters := [], returnType := some (.object "java/lang/String") }, accessFlags := 1, code := some k9c1 }
/-- com/example/fill_realm/fillrealm/Problem -/
def k9 : Class := { plain "com/example/fill_realm/fillrealm/Problem" (some 0) with
  accessFlags := 49
  interfaces := #[2]
  cf := some (fileOf pool9 8 #[] #[{ accessFlags := 1, nameIndex := 5, descriptorIndex := 45, attributes := #[] }, { accessFlags := 1, nameIndex := 31, descriptorIndex := 32, attributes := #[] }] 49 2 #[38] #[{ accessFlags := 26, nameIndex := 40, descriptorIndex := 41, attributes := #[] }, { accessFlags := 18, nameIndex := 11, descriptorIndex := 12, attributes := #[] }, { accessFlags := 18, nameIndex := 15, descriptorIndex := 16, attributes := #[] }, { accessFlags := 18, nameIndex := 19, descriptorIndex := 12, attributes := #[] }])
  fields := #[{ name := "serialVersionUID", type := .long, accessFlags := 26, slot := 0, constantValue := 0 }, { name := "file", type := (.object "java/lang/String"), accessFlags := 18, slot := 0, constantValue := 0 }, { name := "line", type := .int, accessFlags := 18, slot := 1, constantValue := 0 }, { name := "reason", type := (.object "java/lang/String"), accessFlags := 18, slot := 2, constantValue := 0 }]
  methods := #[k9m0, k9m1]
  instanceTypes := #[(.object "java/lang/String"), .int, (.object "java/lang/String")]
  staticTypes := #[.long]
  resolved := Array.replicate 53 none
  statics := none }

def pool10 : Array CpInfo := pool [(1, .class_ 2), (0, u "java/lang/Appendable"), (0, .class_ 4), (0, u "java/lang/Object")] 9

/-- java/lang/Appendable -/
def k10 : Class := { plain "java/lang/Appendable" (some 0) with
  accessFlags := 1537
  interfaces := #[]
  cf := some (fileOf pool10 1 #[] #[] 1537 3 #[] #[])
  fields := #[]
  methods := #[]
  instanceTypes := #[]
  staticTypes := #[]
  resolved := Array.replicate 14 none
  statics := none }

def pool11 : Array CpInfo := pool [(1, .class_ 2), (0, u "java/lang/String"), (0, .methodref 4 5), (0, .class_ 6), (0, .nameAndType 7 8), (0, u "java/lang/Object"), (0, u "<init>"), (0, u "()V"), (1, .class_ 12), (1, u "java/lang/AbstractStringBuilder"), (0, u "EMPTYVALUE"), (0, u "[B"), (0, .fieldref 10 16), (0, .nameAndType 17 14), (0, u "value"), (0, .fieldref 1 19), (0, .nameAndType 20 21), (0, u "COMPACT_STRINGS"), (0, u "Z"), (0, .fieldref 10 23), (0, .nameAndType 24 25), (0, u "coder"), (0, u "B"), (6, .methodref 1 33), (0, .nameAndType 34 35), (0, u "length"), (0, u "()I"), (0, .class_ 37), (0, u "java/lang/Integer"), (1, .integer 2147483647), (0, .methodref 1 41), (0, .nameAndType 24 42), (0, u "()B"), (2, u "append"), (0, u "(Ljava/lang/String;)Ljava/lang/AbstractStringBuilder;"), (1, .class_ 49), (0, u "java/lang/CharSequence"), (19, u "(Ljava/lang/String;)V"), (5, u "maybeLatin1"), (3, .fieldref 10 80), (0, .nameAndType 81 82), (0, u "count"), (0, u "I"), (0, .methodref 10 84), (0, .nameAndType 85 86), (0, u "isLatin1"), (0, u "()Z"), (13, .methodref 10 101), (0, .nameAndType 102 103), (0, u "ensureCapacityInternal"), (0, u "(I)V"), (0, .methodref 10 105), (0, .nameAndType 106 107), (0, u "newCapacity"), (0, u "(I)I"), (0, .methodref 109 110), (0, .class_ 111), (0, .nameAndType 112 113), (0, u "java/util/Arrays"), (0, u "copyOf"), (0, u "([BI)[B"), (0, .methodref 115 116), (0, .class_ 117), (0, .nameAndType 118 119), (0, u "jdk/internal/util/ArraysSupport"), (0, u "newLength"), (0, u "(III)I"), (68, u "getChars"), (19, .methodref 10 209), (0, .nameAndType 210 211), (0, u "putStringAt"), (0, u "(ILjava/lang/String;)V"), (5, u "inflateIfNeededFor"), (2, .nameAndType 221 222), (0, u "getBytes"), (0, u "([BIB)V"), (22, .methodref 36 246), (0, .nameAndType 247 107), (0, u "stringSize"), (0, .methodref 36 249), (0, .nameAndType 188 250), (0, u "(II[B)I"), (146, .methodref 10 398), (0, .nameAndType 217 69), (0, .methodref 1 220), (3, u "()[B"), (40, .class_ 445), (0, u "java/lang/Appendable"), (65, u "(I)Ljava/lang/AbstractStringBuilder;"), (40, u "getValue")] 56

def k11m0 : Method := { name := "<init>", desc := "()V", sig := { parameters := [], returnType := none }, accessFlags := 0, code := none }
def k11c1 : Code := { maxStack := 2, maxLocals := 2, code := jdk_68_method_2_code, exceptionTable := #[], attributes := #[] }
def k11m1 : Method := { name := "<init>", desc := "(I)V", sig := { parameters := [.int], returnType := none }, accessFlags := 0, code := some k11c1 }
def k11c2 : Code := { maxStack := 1, maxLocals := 1, code := jdk_68_method_6_code, exceptionTable := #[], attributes := #[] }
def k11m2 : Method := { name := "length", desc := "()I", sig := { parameters := [], returnType := some .int }, accessFlags := 1, code := some k11c2 }
def k11c3 : Code := { maxStack := 4, maxLocals := 3, code := jdk_68_method_9_code, exceptionTable := #[], attributes := #[] }
def k11m3 : Method := { name := "ensureCapacityInternal", desc := "(I)V", sig := { parameters := [.int], returnType := none }, accessFlags := 2, code := some k11c3 }
def k11c4 : Code := { maxStack := 5, maxLocals := 6, code := jdk_68_method_10_code, exceptionTable := #[], attributes := #[] }
def k11m4 : Method := { name := "newCapacity", desc := "(I)I", sig := { parameters := [.int], returnType := some .int }, accessFlags := 2, code := some k11c4 }
def k11c5 : Code := { maxStack := 3, maxLocals := 3, code := jdk_68_method_22_code, exceptionTable := #[], attributes := #[] }
def k11m5 : Method := { name := "append", desc := "(Ljava/lang/String;)Ljava/lang/AbstractStringBuilder;", sig := { parameters := [(.object "java/lang/String")], returnType := some (.object "java/lang/AbstractStringBuilder") }, accessFlags := 1, code := some k11c5 }
def k11c6 : Code := { maxStack := 4, maxLocals := 4, code := jdk_68_method_32_code, exceptionTable := #[], attributes := #[] }
def k11m6 : Method := { name := "append", desc := "(I)Ljava/lang/AbstractStringBuilder;", sig := { parameters := [.int], returnType := some (.object "java/lang/AbstractStringBuilder") }, accessFlags := 1, code := some k11c6 }
def k11c7 : Code := { maxStack := 1, maxLocals := 1, code := jdk_68_method_64_code, exceptionTable := #[], attributes := #[] }
def k11m7 : Method := { name := "getValue", desc := "()[B", sig := { parameters := [], returnType := some (.array .byte) }, accessFlags := 16, code := some k11c7 }
def k11c8 : Code := { maxStack := 1, maxLocals := 1, code := jdk_68_method_68_code, exceptionTable := #[], attributes := #[] }
def k11m8 : Method := { name := "isLatin1", desc := "()Z", sig := { parameters := [], returnType := some .boolean }, accessFlags := 16, code := some k11c8 }
def k11c9 : Code := { maxStack := 2, maxLocals := 2, code := jdk_68_method_71_code, exceptionTable := #[], attributes := #[] }
def k11m9 : Method := { name := "inflateIfNeededFor", desc := "(Ljava/lang/String;)V", sig := { parameters := [(.object "java/lang/String")], returnType := none }, accessFlags := 2, code := some k11c9 }
def k11c10 : Code := { maxStack := 4, maxLocals := 3, code := jdk_68_method_73_code, exceptionTable := #[], attributes := #[] }
def k11m10 : Method := { name := "putStringAt", desc := "(ILjava/lang/String;)V", sig := { parameters := [.int, (.object "java/lang/String")], returnType := none }, accessFlags := 2, code := some k11c10 }
/-- java/lang/AbstractStringBuilder -/
def k11 : Class := { plain "java/lang/AbstractStringBuilder" (some 0) with
  accessFlags := 1056
  interfaces := #[10, 4]
  cf := some (fileOf pool11 10 #[] #[{ accessFlags := 0, nameIndex := 7, descriptorIndex := 8, attributes := #[] }, { accessFlags := 0, nameIndex := 7, descriptorIndex := 103, attributes := #[] }, { accessFlags := 1, nameIndex := 34, descriptorIndex := 35, attributes := #[] }, { accessFlags := 2, nameIndex := 102, descriptorIndex := 103, attributes := #[] }, { accessFlags := 2, nameIndex := 106, descriptorIndex := 107, attributes := #[] }, { accessFlags := 1, nameIndex := 45, descriptorIndex := 46, attributes := #[] }, { accessFlags := 1, nameIndex := 45, descriptorIndex := 511, attributes := #[] }, { accessFlags := 16, nameIndex := 552, descriptorIndex := 403, attributes := #[] }, { accessFlags := 16, nameIndex := 85, descriptorIndex := 86, attributes := #[] }, { accessFlags := 2, nameIndex := 217, descriptorIndex := 69, attributes := #[] }, { accessFlags := 2, nameIndex := 210, descriptorIndex := 211, attributes := #[] }] 1056 4 #[444, 48] #[{ accessFlags := 0, nameIndex := 17, descriptorIndex := 14, attributes := #[] }, { accessFlags := 0, nameIndex := 24, descriptorIndex := 25, attributes := #[] }, { accessFlags := 0, nameIndex := 75, descriptorIndex := 21, attributes := #[] }, { accessFlags := 0, nameIndex := 81, descriptorIndex := 82, attributes := #[] }, { accessFlags := 26, nameIndex := 13, descriptorIndex := 14, attributes := #[] }])
  fields := #[{ name := "value", type := (.array .byte), accessFlags := 0, slot := 0, constantValue := 0 }, { name := "coder", type := .byte, accessFlags := 0, slot := 1, constantValue := 0 }, { name := "maybeLatin1", type := .boolean, accessFlags := 0, slot := 2, constantValue := 0 }, { name := "count", type := .int, accessFlags := 0, slot := 3, constantValue := 0 }, { name := "EMPTYVALUE", type := (.array .byte), accessFlags := 26, slot := 0, constantValue := 0 }]
  methods := #[k11m0, k11m1, k11m2, k11m3, k11m4, k11m5, k11m6, k11m7, k11m8, k11m9, k11m10]
  instanceTypes := #[(.array .byte), .byte, .boolean, .int]
  staticTypes := #[(.array .byte)]
  resolved := Array.replicate 609 none
  statics := none }

def pool12 : Array CpInfo := pool [(1, .methodref 2 3), (0, .class_ 4), (0, .nameAndType 5 6), (0, u "java/lang/AbstractStringBuilder"), (0, u "<init>"), (0, u "(I)V"), (11, .class_ 20), (1, u "java/lang/String"), (3, .class_ 26), (1, u "java/lang/StringBuilder"), (0, u "append"), (0, u "(Ljava/lang/String;)Ljava/lang/StringBuilder;"), (0, .methodref 2 30), (0, .nameAndType 27 31), (0, u "(Ljava/lang/String;)Ljava/lang/AbstractStringBuilder;"), (21, .methodref 2 54), (0, .nameAndType 27 55), (0, u "(I)Ljava/lang/AbstractStringBuilder;"), (81, .methodref 18 138), (0, .nameAndType 5 139), (0, u "(Ljava/lang/StringBuilder;)V"), (5, u "()V"), (10, u "()I"), (111, u "(I)Ljava/lang/StringBuilder;"), (74, .methodref 2 344), (0, .nameAndType 345 156), (0, u "length"), (3, .class_ 350), (0, u "java/lang/Appendable"), (0, .class_ 352), (0, u "java/io/Serializable"), (0, .class_ 354), (0, u "java/lang/Comparable"), (0, .class_ 356), (0, u "java/lang/CharSequence"), (0, u "serialVersionUID"), (0, u "J"), (40, u "toString"), (0, u "()Ljava/lang/String;")] 21

def k12c0 : Code := { maxStack := 2, maxLocals := 1, code := jdk_67_method_1_code, exceptionTable := #[], attributes := #[] }
def k12m0 : Method := { name := "<init>", desc := "()V", sig := { parameters := [], returnType := none }, accessFlags := 1, code := some k12c0 }
def k12c1 : Code := { maxStack := 2, maxLocals := 2, code := jdk_67_method_7_code, exceptionTable := #[], attributes := #[] }
def k12m1 : Method := { name := "append", desc := "(Ljava/lang/String;)Ljava/lang/StringBuilder;", sig := { parameters := [(.object "java/lang/String")], returnType := some (.object "java/lang/StringBuilder") }, accessFlags := 1, code := some k12c1 }
def k12c2 : Code := { maxStack := 2, maxLocals := 2, code := jdk_67_method_15_code, exceptionTable := #[], attributes := #[] }
def k12m2 : Method := { name := "append", desc := "(I)Ljava/lang/StringBuilder;", sig := { parameters := [.int], returnType := some (.object "java/lang/StringBuilder") }, accessFlags := 1, code := some k12c2 }
def k12c3 : Code := { maxStack := 3, maxLocals := 1, code := jdk_67_method_42_code, exceptionTable := #[], attributes := #[] }
def k12m3 : Method := { name := "toString", desc := "()Ljava/lang/String;", sig := { parameters := [], returnType := some (.object "java/lang/String") }, accessFlags := 1, code := some k12c3 }
def k12c4 : Code := { maxStack := 1, maxLocals := 1, code := jdk_67_method_93_code, exceptionTable := #[], attributes := #[] }
def k12m4 : Method := { name := "length", desc := "()I", sig := { parameters := [], returnType := some .int }, accessFlags := 4161, code := some k12c4 }
/-- java/lang/StringBuilder -/
def k12 : Class := { plain "java/lang/StringBuilder" (some 11) with
  accessFlags := 49
  interfaces := #[10, 2, 3, 4]
  cf := some (fileOf pool12 24 #[] #[{ accessFlags := 1, nameIndex := 5, descriptorIndex := 145, attributes := #[] }, { accessFlags := 1, nameIndex := 27, descriptorIndex := 28, attributes := #[] }, { accessFlags := 1, nameIndex := 27, descriptorIndex := 268, attributes := #[] }, { accessFlags := 1, nameIndex := 399, descriptorIndex := 400, attributes := #[] }, { accessFlags := 4161, nameIndex := 345, descriptorIndex := 156, attributes := #[] }] 49 2 #[349, 351, 353, 355] #[{ accessFlags := 24, nameIndex := 357, descriptorIndex := 358, attributes := #[] }])
  fields := #[{ name := "serialVersionUID", type := .long, accessFlags := 24, slot := 0, constantValue := 0 }]
  methods := #[k12m0, k12m1, k12m2, k12m3, k12m4]
  instanceTypes := #[(.array .byte), .byte, .boolean, .int]
  staticTypes := #[.long]
  resolved := Array.replicate 422 none
  statics := none }

def pool13 : Array CpInfo := pool [(2, .class_ 4), (1, u "java/lang/Object"), (0, u "<init>"), (0, u "()V"), (1, .class_ 10), (1, u "java/lang/System"), (0, u "allowSecurityManager"), (0, u "I"), (16, u "cons"), (0, u "Ljava/io/Console;"), (77, .class_ 110), (1, u "java/lang/System$CallersHolder"), (43, u "initialErrStream"), (0, u "Ljava/io/PrintStream;"), (19, u "security"), (0, u "Ljava/lang/SecurityManager;"), (31, .class_ 209), (0, u "java/lang/System$1"), (7, u "props"), (0, u "Ljava/util/Properties;"), (2, u "lineSeparator"), (0, u "Ljava/lang/String;"), (96, .class_ 321), (1, u "java/lang/System$LoggerFinder"), (5, .class_ 328), (0, u "java/lang/System$Logger"), (67, u "err"), (2, u "out"), (91, u "notSupportedJnuEncoding"), (15, u "in"), (17, u "initialIn"), (0, u "Ljava/io/InputStream;"), (35, u "bootLayer"), (0, u "Ljava/lang/ModuleLayer;"), (99, .class_ 664), (0, u "java/lang/System$2"), (9, u "NEVER"), (2, u "MAYBE"), (49, u "arraycopy"), (0, u "(Ljava/lang/Object;ILjava/lang/Object;II)V"), (72, .class_ 802), (0, u "java/lang/System$Logger$Level")] 31

def k13m0 : Method := { name := "<init>", desc := "()V", sig := { parameters := [], returnType := none }, accessFlags := 2, code := none }
def k13m1 : Method := { name := "arraycopy", desc := "(Ljava/lang/Object;ILjava/lang/Object;II)V", sig := { parameters := [(.object "java/lang/Object"), .int, (.object "java/lang/Object"), .int, .int], returnType := none }, accessFlags := 265, code := none }
/-- java/lang/System -/
def k13 : Class := { plain "java/lang/System" (some 0) with
  accessFlags := 49
  interfaces := #[]
  cf := some (fileOf pool13 8 #[.nestMembers #[319, 327, 801, 108, 663, 208]] #[{ accessFlags := 2, nameIndex := 5, descriptorIndex := 6, attributes := #[] }, { accessFlags := 265, nameIndex := 727, descriptorIndex := 728, attributes := #[] }] 49 2 #[] #[{ accessFlags := 25, nameIndex := 507, descriptorIndex := 526, attributes := #[] }, { accessFlags := 25, nameIndex := 399, descriptorIndex := 155, attributes := #[] }, { accessFlags := 25, nameIndex := 396, descriptorIndex := 155, attributes := #[] }, { accessFlags := 10, nameIndex := 525, descriptorIndex := 526, attributes := #[] }, { accessFlags := 26, nameIndex := 674, descriptorIndex := 12, attributes := #[] }, { accessFlags := 26, nameIndex := 677, descriptorIndex := 12, attributes := #[] }, { accessFlags := 10, nameIndex := 11, descriptorIndex := 12, attributes := #[] }, { accessFlags := 74, nameIndex := 175, descriptorIndex := 176, attributes := #[] }, { accessFlags := 10, nameIndex := 491, descriptorIndex := 222, attributes := #[] }, { accessFlags := 74, nameIndex := 29, descriptorIndex := 30, attributes := #[] }, { accessFlags := 74, nameIndex := 154, descriptorIndex := 155, attributes := #[] }, { accessFlags := 10, nameIndex := 217, descriptorIndex := 218, attributes := #[] }, { accessFlags := 10, nameIndex := 221, descriptorIndex := 222, attributes := #[] }, { accessFlags := 8, nameIndex := 562, descriptorIndex := 563, attributes := #[] }])
  fields := #[{ name := "in", type := (.object "java/io/InputStream"), accessFlags := 25, slot := 0, constantValue := 0 }, { name := "out", type := (.object "java/io/PrintStream"), accessFlags := 25, slot := 1, constantValue := 0 }, { name := "err", type := (.object "java/io/PrintStream"), accessFlags := 25, slot := 2, constantValue := 0 }, { name := "initialIn", type := (.object "java/io/InputStream"), accessFlags := 10, slot := 3, constantValue := 0 }, { name := "NEVER", type := .int, accessFlags := 26, slot := 4, constantValue := 0 }, { name := "MAYBE", type := .int, accessFlags := 26, slot := 5, constantValue := 0 }, { name := "allowSecurityManager", type := .int, accessFlags := 10, slot := 6, constantValue := 0 }, { name := "security", type := (.object "java/lang/SecurityManager"), accessFlags := 74, slot := 7, constantValue := 0 }, { name := "notSupportedJnuEncoding", type := (.object "java/lang/String"), accessFlags := 10, slot := 8, constantValue := 0 }, { name := "cons", type := (.object "java/io/Console"), accessFlags := 74, slot := 9, constantValue := 0 }, { name := "initialErrStream", type := (.object "java/io/PrintStream"), accessFlags := 74, slot := 10, constantValue := 0 }, { name := "props", type := (.object "java/util/Properties"), accessFlags := 10, slot := 11, constantValue := 0 }, { name := "lineSeparator", type := (.object "java/lang/String"), accessFlags := 10, slot := 12, constantValue := 0 }, { name := "bootLayer", type := (.object "java/lang/ModuleLayer"), accessFlags := 8, slot := 13, constantValue := 0 }]
  methods := #[k13m0, k13m1]
  instanceTypes := #[]
  staticTypes := #[(.object "java/io/InputStream"), (.object "java/io/PrintStream"), (.object "java/io/PrintStream"), (.object "java/io/InputStream"), .int, .int, .int, (.object "java/lang/SecurityManager"), (.object "java/lang/String"), (.object "java/io/Console"), (.object "java/io/PrintStream"), (.object "java/util/Properties"), (.object "java/lang/String"), (.object "java/lang/ModuleLayer")]
  resolved := Array.replicate 834 none
  statics := none }

def pool14 : Array CpInfo := pool [(2, .class_ 4), (1, u "java/lang/Object"), (0, u "<init>"), (0, u "()V"), (1, .class_ 10), (1, u "java/lang/Number"), (2, .class_ 14), (0, u "java/io/Serializable"), (0, u "serialVersionUID"), (0, u "J")] 20

def k14m0 : Method := { name := "<init>", desc := "()V", sig := { parameters := [], returnType := none }, accessFlags := 1, code := none }
/-- java/lang/Number -/
def k14 : Class := { plain "java/lang/Number" (some 0) with
  accessFlags := 1057
  interfaces := #[2]
  cf := some (fileOf pool14 8 #[] #[{ accessFlags := 1, nameIndex := 5, descriptorIndex := 6, attributes := #[] }] 1057 2 #[13] #[{ accessFlags := 26, nameIndex := 15, descriptorIndex := 16, attributes := #[] }])
  fields := #[{ name := "serialVersionUID", type := .long, accessFlags := 26, slot := 0, constantValue := 0 }]
  methods := #[k14m0]
  instanceTypes := #[]
  staticTypes := #[.long]
  resolved := Array.replicate 37 none
  statics := none }

def pool15 : Array CpInfo := pool [(1, .class_ 2), (0, u "java/lang/Integer"), (16, u "digits"), (0, u "[C"), (33, u "(I)I"), (19, u "stringSize"), (2, u "getChars"), (0, u "(II[B)I"), (4, .fieldref 1 84), (0, .nameAndType 85 86), (0, u "DigitOnes"), (0, u "[B"), (0, .fieldref 1 88), (0, .nameAndType 89 86), (0, u "DigitTens"), (99, .class_ 190), (0, u "java/lang/Integer$IntegerCache"), (3, u "I"), (8, .class_ 204), (0, u "java/lang/Number"), (2, u "value"), (94, u "TYPE"), (0, u "Ljava/lang/Class;"), (0, .class_ 305), (0, u "java/lang/Comparable"), (0, .class_ 307), (0, u "java/lang/constant/Constable"), (0, .class_ 309), (0, u "java/lang/constant/ConstantDesc"), (0, u "MIN_VALUE"), (1, u "MAX_VALUE"), (3, u "SIZE"), (1, u "BYTES"), (1, u "serialVersionUID"), (0, u "J")] 131

def k15c0 : Code := { maxStack := 4, maxLocals := 7, code := jdk_33_method_12_code, exceptionTable := #[], attributes := #[] }
def k15m0 : Method := { name := "getChars", desc := "(II[B)I", sig := { parameters := [.int, .int, (.array .byte)], returnType := some .int }, accessFlags := 8, code := some k15c0 }
def k15c1 : Code := { maxStack := 2, maxLocals := 4, code := jdk_33_method_13_code, exceptionTable := #[], attributes := #[] }
def k15m1 : Method := { name := "stringSize", desc := "(I)I", sig := { parameters := [.int], returnType := some .int }, accessFlags := 8, code := some k15c1 }
/-- java/lang/Integer -/
def k15 : Class := { plain "java/lang/Integer" (some 14) with
  accessFlags := 49
  interfaces := #[3, 5, 6]
  cf := some (fileOf pool15 1 #[.nestMembers #[189]] #[{ accessFlags := 8, nameIndex := 77, descriptorIndex := 78, attributes := #[] }, { accessFlags := 8, nameIndex := 74, descriptorIndex := 54, attributes := #[] }] 49 203 #[304, 306, 308] #[{ accessFlags := 25, nameIndex := 310, descriptorIndex := 194, attributes := #[] }, { accessFlags := 25, nameIndex := 312, descriptorIndex := 194, attributes := #[] }, { accessFlags := 25, nameIndex := 302, descriptorIndex := 303, attributes := #[] }, { accessFlags := 24, nameIndex := 19, descriptorIndex := 20, attributes := #[] }, { accessFlags := 24, nameIndex := 89, descriptorIndex := 86, attributes := #[] }, { accessFlags := 24, nameIndex := 85, descriptorIndex := 86, attributes := #[] }, { accessFlags := 18, nameIndex := 207, descriptorIndex := 194, attributes := #[] }, { accessFlags := 25, nameIndex := 316, descriptorIndex := 194, attributes := #[] }, { accessFlags := 25, nameIndex := 318, descriptorIndex := 194, attributes := #[] }, { accessFlags := 26, nameIndex := 320, descriptorIndex := 321, attributes := #[] }])
  fields := #[{ name := "MIN_VALUE", type := .int, accessFlags := 25, slot := 0, constantValue := 0 }, { name := "MAX_VALUE", type := .int, accessFlags := 25, slot := 1, constantValue := 0 }, { name := "TYPE", type := (.object "java/lang/Class"), accessFlags := 25, slot := 2, constantValue := 0 }, { name := "digits", type := (.array .char), accessFlags := 24, slot := 3, constantValue := 0 }, { name := "DigitTens", type := (.array .byte), accessFlags := 24, slot := 4, constantValue := 0 }, { name := "DigitOnes", type := (.array .byte), accessFlags := 24, slot := 5, constantValue := 0 }, { name := "value", type := .int, accessFlags := 18, slot := 0, constantValue := 0 }, { name := "SIZE", type := .int, accessFlags := 25, slot := 6, constantValue := 0 }, { name := "BYTES", type := .int, accessFlags := 25, slot := 7, constantValue := 0 }, { name := "serialVersionUID", type := .long, accessFlags := 26, slot := 8, constantValue := 0 }]
  methods := #[k15m0, k15m1]
  instanceTypes := #[.int]
  staticTypes := #[.int, .int, (.object "java/lang/Class"), (.array .char), (.array .byte), (.array .byte), .int, .int, .long]
  resolved := Array.replicate 453 none
  statics := some 1 }

def pool16 : Array CpInfo := pool [(2, .class_ 4), (1, u "java/lang/Object"), (0, u "<init>"), (0, u "()V"), (7, .class_ 16), (1, u "java/util/Arrays"), (57, .class_ 76), (1, u "java/util/Arrays$NaturalOrder"), (32, u "()Ljava/lang/Object;"), (3, .class_ 115), (1, u "java/util/Arrays$LegacyMergeSort"), (1, u "Z"), (10, .nameAndType 129 109), (0, u "clone"), (9, u "copyOfRange"), (10, .methodref 151 152), (0, .class_ 153), (0, .nameAndType 154 155), (0, u "java/lang/System"), (0, u "arraycopy"), (0, u "(Ljava/lang/Object;ILjava/lang/Object;II)V"), (146, u "copyOf"), (1, .methodref 305 306), (0, .class_ 307), (0, .nameAndType 308 309), (0, u "java/lang/Math"), (0, u "min"), (0, u "(II)I"), (0, .methodref 311 128), (0, .class_ 312), (0, u "[B"), (26, .methodref 14 340), (0, .nameAndType 341 342), (0, u "copyOfRangeByte"), (0, u "([BII)[B"), (0, .methodref 14 344), (0, .nameAndType 345 346), (0, u "checkLength"), (0, u "(II)V"), (28, .class_ 376), (0, u "java/util/Arrays$ArrayList"), (68, u "$assertionsDisabled"), (269, u "MIN_ARRAY_SORT_GRAN"), (0, u "I"), (2, u "INSERTIONSORT_THRESHOLD"), (149, u "([BI)[B"), (105, .class_ 976), (0, u "java/util/Arrays$ArrayItr")] 52

def k16m0 : Method := { name := "<init>", desc := "()V", sig := { parameters := [], returnType := none }, accessFlags := 2, code := none }
def k16c1 : Code := { maxStack := 6, maxLocals := 3, code := jdk_65_method_121_code, exceptionTable := #[], attributes := #[] }
def k16m1 : Method := { name := "copyOf", desc := "([BI)[B", sig := { parameters := [(.array .byte), .int], returnType := some (.array .byte) }, accessFlags := 9, code := some k16c1 }
def k16c2 : Code := { maxStack := 4, maxLocals := 2, code := jdk_65_method_131_code, exceptionTable := #[], attributes := #[] }
def k16m2 : Method := { name := "checkLength", desc := "(II)V", sig := { parameters := [.int, .int], returnType := none }, accessFlags := 10, code := some k16c2 }
def k16c3 : Code := { maxStack := 3, maxLocals := 3, code := jdk_65_method_132_code, exceptionTable := #[], attributes := #[] }
def k16m3 : Method := { name := "copyOfRange", desc := "([BII)[B", sig := { parameters := [(.array .byte), .int, .int], returnType := some (.array .byte) }, accessFlags := 9, code := some k16c3 }
def k16c4 : Code := { maxStack := 6, maxLocals := 5, code := jdk_65_method_133_code, exceptionTable := #[], attributes := #[] }
def k16m4 : Method := { name := "copyOfRangeByte", desc := "([BII)[B", sig := { parameters := [(.array .byte), .int, .int], returnType := some (.array .byte) }, accessFlags := 10, code := some k16c4 }
/-- java/util/Arrays -/
def k16 : Class := { plain "java/util/Arrays" (some 0) with
  accessFlags := 49
  interfaces := #[]
  cf := some (fileOf pool16 14 #[.nestMembers #[975, 375, 113, 74]] #[{ accessFlags := 2, nameIndex := 5, descriptorIndex := 6, attributes := #[] }, { accessFlags := 9, nameIndex := 302, descriptorIndex := 869, attributes := #[] }, { accessFlags := 10, nameIndex := 345, descriptorIndex := 346, attributes := #[] }, { accessFlags := 9, nameIndex := 139, descriptorIndex := 342, attributes := #[] }, { accessFlags := 10, nameIndex := 341, descriptorIndex := 342, attributes := #[] }] 49 2 #[] #[{ accessFlags := 26, nameIndex := 715, descriptorIndex := 716, attributes := #[] }, { accessFlags := 26, nameIndex := 719, descriptorIndex := 716, attributes := #[] }, { accessFlags := 4120, nameIndex := 445, descriptorIndex := 117, attributes := #[] }])
  fields := #[{ name := "MIN_ARRAY_SORT_GRAN", type := .int, accessFlags := 26, slot := 0, constantValue := 0 }, { name := "INSERTIONSORT_THRESHOLD", type := .int, accessFlags := 26, slot := 1, constantValue := 0 }, { name := "$assertionsDisabled", type := .boolean, accessFlags := 4120, slot := 2, constantValue := 0 }]
  methods := #[k16m0, k16m1, k16m2, k16m3, k16m4]
  instanceTypes := #[]
  staticTypes := #[.int, .int, .boolean]
  resolved := Array.replicate 1029 none
  statics := none }

def pool17 : Array CpInfo := pool [(1, .class_ 2), (0, u "java/lang/Math"), (1, .class_ 6), (1, u "java/lang/Object"), (0, u "<init>"), (0, u "()V"), (89, .class_ 100), (1, u "java/lang/Math$RandomNumberGeneratorHolder"), (71, u "negativeZeroFloatBits"), (0, u "J"), (2, u "negativeZeroDoubleBits"), (21, u "max"), (2, u "min"), (43, u "$assertionsDisabled"), (0, u "Z"), (88, u "(II)I"), (2, u "twoToTheDoubleScaleDown"), (0, u "D"), (4, u "twoToTheDoubleScaleUp"), (9, u "E"), (3, u "PI"), (2, u "TAU"), (2, u "DEGREES_TO_RADIANS"), (0, u "RADIANS_TO_DEGREES")] 94

def k17m0 : Method := { name := "<init>", desc := "()V", sig := { parameters := [], returnType := none }, accessFlags := 2, code := none }
def k17c1 : Code := { maxStack := 2, maxLocals := 2, code := jdk_29_method_65_code, exceptionTable := #[], attributes := #[] }
def k17m1 : Method := { name := "max", desc := "(II)I", sig := { parameters := [.int, .int], returnType := some .int }, accessFlags := 9, code := some k17c1 }
def k17c2 : Code := { maxStack := 2, maxLocals := 2, code := jdk_29_method_69_code, exceptionTable := #[], attributes := #[] }
def k17m2 : Method := { name := "min", desc := "(II)I", sig := { parameters := [.int, .int], returnType := some .int }, accessFlags := 9, code := some k17c2 }
/-- java/lang/Math -/
def k17 : Class := { plain "java/lang/Math" (some 0) with
  accessFlags := 49
  interfaces := #[]
  cf := some (fileOf pool17 1 #[.nestMembers #[98]] #[{ accessFlags := 2, nameIndex := 7, descriptorIndex := 8, attributes := #[] }, { accessFlags := 9, nameIndex := 198, descriptorIndex := 335, attributes := #[] }, { accessFlags := 9, nameIndex := 201, descriptorIndex := 335, attributes := #[] }] 49 4 #[] #[{ accessFlags := 25, nameIndex := 354, descriptorIndex := 339, attributes := #[] }, { accessFlags := 25, nameIndex := 358, descriptorIndex := 339, attributes := #[] }, { accessFlags := 25, nameIndex := 361, descriptorIndex := 339, attributes := #[] }, { accessFlags := 26, nameIndex := 364, descriptorIndex := 339, attributes := #[] }, { accessFlags := 26, nameIndex := 365, descriptorIndex := 339, attributes := #[] }, { accessFlags := 26, nameIndex := 172, descriptorIndex := 173, attributes := #[] }, { accessFlags := 26, nameIndex := 176, descriptorIndex := 173, attributes := #[] }, { accessFlags := 8, nameIndex := 344, descriptorIndex := 339, attributes := #[] }, { accessFlags := 8, nameIndex := 338, descriptorIndex := 339, attributes := #[] }, { accessFlags := 4120, nameIndex := 245, descriptorIndex := 246, attributes := #[] }])
  fields := #[{ name := "E", type := .double, accessFlags := 25, slot := 0, constantValue := 0 }, { name := "PI", type := .double, accessFlags := 25, slot := 1, constantValue := 0 }, { name := "TAU", type := .double, accessFlags := 25, slot := 2, constantValue := 0 }, { name := "DEGREES_TO_RADIANS", type := .double, accessFlags := 26, slot := 3, constantValue := 0 }, { name := "RADIANS_TO_DEGREES", type := .double, accessFlags := 26, slot := 4, constantValue := 0 }, { name := "negativeZeroFloatBits", type := .long, accessFlags := 26, slot := 5, constantValue := 0 }, { name := "negativeZeroDoubleBits", type := .long, accessFlags := 26, slot := 6, constantValue := 0 }, { name := "twoToTheDoubleScaleUp", type := .double, accessFlags := 8, slot := 7, constantValue := 0 }, { name := "twoToTheDoubleScaleDown", type := .double, accessFlags := 8, slot := 8, constantValue := 0 }, { name := "$assertionsDisabled", type := .boolean, accessFlags := 4120, slot := 9, constantValue := 0 }]
  methods := #[k17m0, k17m1, k17m2]
  instanceTypes := #[]
  staticTypes := #[.double, .double, .double, .double, .double, .long, .long, .double, .double, .boolean]
  resolved := Array.replicate 460 none
  statics := none }

def pool18 : Array CpInfo := pool [(1, .class_ 2), (0, u "java/lang/String"), (1, .class_ 6), (1, u "java/lang/Object"), (0, u "<init>"), (0, u "()V"), (0, .methodref 1 10), (0, .nameAndType 11 12), (0, u "checkIndex"), (0, u "(II)V"), (1, .class_ 16), (1, u "java/lang/StringLatin1"), (36, u "([BI)C"), (67, u "$assertionsDisabled"), (0, u "Z"), (98, .class_ 223), (1, u "java/lang/StringLatin1$LinesSpliterator"), (28, u "charAt"), (137, .class_ 391), (0, u "java/lang/StringLatin1$CharsSpliterator")] 3

def k18m0 : Method := { name := "<init>", desc := "()V", sig := { parameters := [], returnType := none }, accessFlags := 0, code := none }
def k18c1 : Code := { maxStack := 2, maxLocals := 2, code := jdk_43_method_2_code, exceptionTable := #[], attributes := #[] }
def k18m1 : Method := { name := "charAt", desc := "([BI)C", sig := { parameters := [(.array .byte), .int], returnType := some .char }, accessFlags := 9, code := some k18c1 }
/-- java/lang/StringLatin1 -/
def k18 : Class := { plain "java/lang/StringLatin1" (some 0) with
  accessFlags := 48
  interfaces := #[]
  cf := some (fileOf pool18 14 #[.nestMembers #[390, 221]] #[{ accessFlags := 0, nameIndex := 7, descriptorIndex := 8, attributes := #[] }, { accessFlags := 9, nameIndex := 252, descriptorIndex := 53, attributes := #[] }] 48 4 #[] #[{ accessFlags := 4120, nameIndex := 121, descriptorIndex := 122, attributes := #[] }])
  fields := #[{ name := "$assertionsDisabled", type := .boolean, accessFlags := 4120, slot := 0, constantValue := 0 }]
  methods := #[k18m0, k18m1]
  instanceTypes := #[]
  staticTypes := #[.boolean]
  resolved := Array.replicate 395 none
  statics := none }

def pool19 : Array CpInfo := pool [(2, .class_ 4), (1, u "java/lang/Object"), (0, u "<init>"), (0, u "()V"), (17, .class_ 26), (1, u "jdk/internal/util/Preconditions"), (6, u "checkIndex"), (21, .class_ 56), (0, u "jdk/internal/util/Preconditions$4"), (57, .class_ 115), (0, u "jdk/internal/util/Preconditions$1"), (7, u "SIOOBE_FORMATTER"), (0, u "Ljava/util/function/BiFunction;"), (0, .class_ 126), (0, u "jdk/internal/util/Preconditions$2"), (3, u "AIOOBE_FORMATTER"), (0, .class_ 132), (0, u "jdk/internal/util/Preconditions$3"), (3, u "IOOBE_FORMATTER"), (41, u "(IILjava/util/function/BiFunction;)I")] 15

def k19m0 : Method := { name := "<init>", desc := "()V", sig := { parameters := [], returnType := none }, accessFlags := 1, code := none }
def k19c1 : Code := { maxStack := 3, maxLocals := 3, code := jdk_41_method_11_code, exceptionTable := #[], attributes := #[] }
def k19m1 : Method := { name := "checkIndex", desc := "(IILjava/util/function/BiFunction;)I", sig := { parameters := [.int, .int, (.object "java/util/function/BiFunction")], returnType := some .int }, accessFlags := 9, code := some k19c1 }
/-- jdk/internal/util/Preconditions -/
def k19 : Class := { plain "jdk/internal/util/Preconditions" (some 0) with
  accessFlags := 33
  interfaces := #[]
  cf := some (fileOf pool19 24 #[.nestMembers #[55, 131, 125, 114]] #[{ accessFlags := 1, nameIndex := 5, descriptorIndex := 6, attributes := #[] }, { accessFlags := 9, nameIndex := 33, descriptorIndex := 178, attributes := #[] }] 33 2 #[] #[{ accessFlags := 25, nameIndex := 123, descriptorIndex := 124, attributes := #[] }, { accessFlags := 25, nameIndex := 130, descriptorIndex := 124, attributes := #[] }, { accessFlags := 25, nameIndex := 136, descriptorIndex := 124, attributes := #[] }])
  fields := #[{ name := "SIOOBE_FORMATTER", type := (.object "java/util/function/BiFunction"), accessFlags := 25, slot := 0, constantValue := 0 }, { name := "AIOOBE_FORMATTER", type := (.object "java/util/function/BiFunction"), accessFlags := 25, slot := 1, constantValue := 0 }, { name := "IOOBE_FORMATTER", type := (.object "java/util/function/BiFunction"), accessFlags := 25, slot := 2, constantValue := 0 }]
  methods := #[k19m0, k19m1]
  instanceTypes := #[]
  staticTypes := #[(.object "java/util/function/BiFunction"), (.object "java/util/function/BiFunction"), (.object "java/util/function/BiFunction")]
  resolved := Array.replicate 194 none
  statics := some 2 }

def pool20 : Array CpInfo := pool [(1, .class_ 2), (0, u "java/lang/Cloneable"), (0, .class_ 4), (0, u "java/lang/Object")] 2

/-- java/lang/Cloneable -/
def k20 : Class := { plain "java/lang/Cloneable" (some 0) with
  accessFlags := 1537
  interfaces := #[]
  cf := some (fileOf pool20 1 #[] #[] 1537 3 #[] #[])
  fields := #[]
  methods := #[]
  instanceTypes := #[]
  staticTypes := #[]
  resolved := Array.replicate 7 none
  statics := none }

def pool21 : Array CpInfo := pool [(9, u "<init>"), (6, .class_ 18), (1, u "java/lang/Object"), (0, u "()V"), (1, .class_ 23), (1, u "jdk/internal/util/ArraysSupport"), (0, u "LOG2_ARRAY_LONG_INDEX_SCALE"), (0, u "I"), (2, u "U"), (0, u "Ljdk/internal/misc/Unsafe;"), (8, u "BIG_ENDIAN"), (0, u "Z"), (8, u "LOG2_BYTE_BIT_SIZE"), (4, u "LOG2_ARRAY_INT_INDEX_SCALE"), (54, u "JLA"), (0, u "Ljdk/internal/access/JavaLangAccess;"), (11, u "LOG2_ARRAY_BOOLEAN_INDEX_SCALE"), (9, u "LOG2_ARRAY_BYTE_INDEX_SCALE"), (5, u "LOG2_ARRAY_CHAR_INDEX_SCALE"), (5, u "LOG2_ARRAY_SHORT_INDEX_SCALE"), (18, u "LOG2_ARRAY_FLOAT_INDEX_SCALE"), (24, u "LOG2_ARRAY_DOUBLE_INDEX_SCALE"), (6, .methodref 195 196), (0, .class_ 197), (0, .nameAndType 198 199), (0, u "java/lang/Math"), (0, u "max"), (0, u "(II)I"), (0, .integer 2147483639), (76, u "T_BOOLEAN"), (2, u "T_CHAR"), (1, u "T_FLOAT"), (1, u "T_DOUBLE"), (1, u "T_BYTE"), (1, u "T_SHORT"), (1, u "T_INT"), (1, u "T_LONG"), (1, u "SOFT_MAX_ARRAY_LENGTH"), (56, u "newLength"), (0, u "(III)I")] 25

def k21m0 : Method := { name := "<init>", desc := "()V", sig := { parameters := [], returnType := none }, accessFlags := 2, code := none }
def k21c1 : Code := { maxStack := 3, maxLocals := 4, code := jdk_48_method_27_code, exceptionTable := #[], attributes := #[] }
def k21m1 : Method := { name := "newLength", desc := "(III)I", sig := { parameters := [.int, .int, .int], returnType := some .int }, accessFlags := 9, code := some k21c1 }
/-- jdk/internal/util/ArraysSupport -/
def k21 : Class := { plain "jdk/internal/util/ArraysSupport" (some 0) with
  accessFlags := 33
  interfaces := #[]
  cf := some (fileOf pool21 21 #[] #[{ accessFlags := 2, nameIndex := 9, descriptorIndex := 19, attributes := #[] }, { accessFlags := 9, nameIndex := 351, descriptorIndex := 352, attributes := #[] }] 33 16 #[] #[{ accessFlags := 24, nameIndex := 28, descriptorIndex := 29, attributes := #[] }, { accessFlags := 26, nameIndex := 38, descriptorIndex := 39, attributes := #[] }, { accessFlags := 25, nameIndex := 121, descriptorIndex := 25, attributes := #[] }, { accessFlags := 25, nameIndex := 131, descriptorIndex := 25, attributes := #[] }, { accessFlags := 25, nameIndex := 137, descriptorIndex := 25, attributes := #[] }, { accessFlags := 25, nameIndex := 143, descriptorIndex := 25, attributes := #[] }, { accessFlags := 25, nameIndex := 53, descriptorIndex := 25, attributes := #[] }, { accessFlags := 25, nameIndex := 24, descriptorIndex := 25, attributes := #[] }, { accessFlags := 25, nameIndex := 162, descriptorIndex := 25, attributes := #[] }, { accessFlags := 25, nameIndex := 187, descriptorIndex := 25, attributes := #[] }, { accessFlags := 26, nameIndex := 48, descriptorIndex := 25, attributes := #[] }, { accessFlags := 25, nameIndex := 277, descriptorIndex := 25, attributes := #[] }, { accessFlags := 25, nameIndex := 280, descriptorIndex := 25, attributes := #[] }, { accessFlags := 25, nameIndex := 282, descriptorIndex := 25, attributes := #[] }, { accessFlags := 25, nameIndex := 284, descriptorIndex := 25, attributes := #[] }, { accessFlags := 25, nameIndex := 286, descriptorIndex := 25, attributes := #[] }, { accessFlags := 25, nameIndex := 288, descriptorIndex := 25, attributes := #[] }, { accessFlags := 25, nameIndex := 290, descriptorIndex := 25, attributes := #[] }, { accessFlags := 25, nameIndex := 292, descriptorIndex := 25, attributes := #[] }, { accessFlags := 26, nameIndex := 108, descriptorIndex := 109, attributes := #[] }, { accessFlags := 25, nameIndex := 294, descriptorIndex := 25, attributes := #[] }])
  fields := #[{ name := "U", type := (.object "jdk/internal/misc/Unsafe"), accessFlags := 24, slot := 0, constantValue := 0 }, { name := "BIG_ENDIAN", type := .boolean, accessFlags := 26, slot := 1, constantValue := 0 }, { name := "LOG2_ARRAY_BOOLEAN_INDEX_SCALE", type := .int, accessFlags := 25, slot := 2, constantValue := 0 }, { name := "LOG2_ARRAY_BYTE_INDEX_SCALE", type := .int, accessFlags := 25, slot := 3, constantValue := 0 }, { name := "LOG2_ARRAY_CHAR_INDEX_SCALE", type := .int, accessFlags := 25, slot := 4, constantValue := 0 }, { name := "LOG2_ARRAY_SHORT_INDEX_SCALE", type := .int, accessFlags := 25, slot := 5, constantValue := 0 }, { name := "LOG2_ARRAY_INT_INDEX_SCALE", type := .int, accessFlags := 25, slot := 6, constantValue := 0 }, { name := "LOG2_ARRAY_LONG_INDEX_SCALE", type := .int, accessFlags := 25, slot := 7, constantValue := 0 }, { name := "LOG2_ARRAY_FLOAT_INDEX_SCALE", type := .int, accessFlags := 25, slot := 8, constantValue := 0 }, { name := "LOG2_ARRAY_DOUBLE_INDEX_SCALE", type := .int, accessFlags := 25, slot := 9, constantValue := 0 }, { name := "LOG2_BYTE_BIT_SIZE", type := .int, accessFlags := 26, slot := 10, constantValue := 0 }, { name := "T_BOOLEAN", type := .int, accessFlags := 25, slot := 11, constantValue := 0 }, { name := "T_CHAR", type := .int, accessFlags := 25, slot := 12, constantValue := 0 }, { name := "T_FLOAT", type := .int, accessFlags := 25, slot := 13, constantValue := 0 }, { name := "T_DOUBLE", type := .int, accessFlags := 25, slot := 14, constantValue := 0 }, { name := "T_BYTE", type := .int, accessFlags := 25, slot := 15, constantValue := 0 }, { name := "T_SHORT", type := .int, accessFlags := 25, slot := 16, constantValue := 0 }, { name := "T_INT", type := .int, accessFlags := 25, slot := 17, constantValue := 0 }, { name := "T_LONG", type := .int, accessFlags := 25, slot := 18, constantValue := 0 }, { name := "JLA", type := (.object "jdk/internal/access/JavaLangAccess"), accessFlags := 26, slot := 19, constantValue := 0 }, { name := "SOFT_MAX_ARRAY_LENGTH", type := .int, accessFlags := 25, slot := 20, constantValue := 0 }]
  methods := #[k21m0, k21m1]
  instanceTypes := #[]
  staticTypes := #[(.object "jdk/internal/misc/Unsafe"), .boolean, .int, .int, .int, .int, .int, .int, .int, .int, .int, .int, .int, .int, .int, .int, .int, .int, .int, (.object "jdk/internal/access/JavaLangAccess"), .int]
  resolved := Array.replicate 378 none
  statics := none }

/-- the primitive byte -/
def k22 : Class := { plain "byte" none with kind := .primitive 'B', accessFlags := 0x411 }
/-- [B -/
def k23 : Class := { plain "[B" (some 0) with kind := .array 22 .byte, interfaces := #[20, 2], accessFlags := 1041 }

/-- the primitive char -/
def k24 : Class := { plain "char" none with kind := .primitive 'C', accessFlags := 0x411 }
/-- [C -/
def k25 : Class := { plain "[C" (some 0) with kind := .array 24 .char, interfaces := #[20, 2], accessFlags := 1041 }

/-- the primitive int -/
def k26 : Class := { plain "int" none with kind := .primitive 'I', accessFlags := 0x411 }
/-- [I -/
def k27 : Class := { plain "[I" (some 0) with kind := .array 26 .int, interfaces := #[20, 2], accessFlags := 1041 }

/-- the primitive long -/
def k28 : Class := { plain "long" none with kind := .primitive 'J', accessFlags := 0x411 }
/-- [J -/
def k29 : Class := { plain "[J" (some 0) with kind := .array 28 .long, interfaces := #[20, 2], accessFlags := 1041 }

def heap : Heap := #[{ cls := 7, slots := #[.long 0, .int 1, .null, .int 0, .null, .int 0, .int 0], vm := .statics 7 },
  { cls := 15, slots := #[.int 0, .int 0, .null, .null, .ref 4, .ref 3, .int 0, .int 0, .long 0], vm := .statics 15 },
  { cls := 19, slots := #[.null, .null, .null], vm := .statics 19 },
  { cls := 23, slots := #[.int 48, .int 49, .int 50, .int 51, .int 52, .int 53, .int 54, .int 55, .int 56, .int 57, .int 48, .int 49, .int 50, .int 51, .int 52, .int 53, .int 54, .int 55, .int 56, .int 57, .int 48, .int 49, .int 50, .int 51, .int 52, .int 53, .int 54, .int 55, .int 56, .int 57, .int 48, .int 49, .int 50, .int 51, .int 52, .int 53, .int 54, .int 55, .int 56, .int 57, .int 48, .int 49, .int 50, .int 51, .int 52, .int 53, .int 54, .int 55, .int 56, .int 57, .int 48, .int 49, .int 50, .int 51, .int 52, .int 53, .int 54, .int 55, .int 56, .int 57, .int 48, .int 49, .int 50, .int 51, .int 52, .int 53, .int 54, .int 55, .int 56, .int 57, .int 48, .int 49, .int 50, .int 51, .int 52, .int 53, .int 54, .int 55, .int 56, .int 57, .int 48, .int 49, .int 50, .int 51, .int 52, .int 53, .int 54, .int 55, .int 56, .int 57, .int 48, .int 49, .int 50, .int 51, .int 52, .int 53, .int 54, .int 55, .int 56, .int 57], vm := .none },
  { cls := 23, slots := #[.int 48, .int 48, .int 48, .int 48, .int 48, .int 48, .int 48, .int 48, .int 48, .int 48, .int 49, .int 49, .int 49, .int 49, .int 49, .int 49, .int 49, .int 49, .int 49, .int 49, .int 50, .int 50, .int 50, .int 50, .int 50, .int 50, .int 50, .int 50, .int 50, .int 50, .int 51, .int 51, .int 51, .int 51, .int 51, .int 51, .int 51, .int 51, .int 51, .int 51, .int 52, .int 52, .int 52, .int 52, .int 52, .int 52, .int 52, .int 52, .int 52, .int 52, .int 53, .int 53, .int 53, .int 53, .int 53, .int 53, .int 53, .int 53, .int 53, .int 53, .int 54, .int 54, .int 54, .int 54, .int 54, .int 54, .int 54, .int 54, .int 54, .int 54, .int 55, .int 55, .int 55, .int 55, .int 55, .int 55, .int 55, .int 55, .int 55, .int 55, .int 56, .int 56, .int 56, .int 56, .int 56, .int 56, .int 56, .int 56, .int 56, .int 56, .int 57, .int 57, .int 57, .int 57, .int 57, .int 57, .int 57, .int 57, .int 57, .int 57], vm := .none }]
def classes : Array Class := #[k0, k1, k2, k3, k4, k5, k6, k7, k8, k9, k10, k11, k12, k13, k14, k15, k16, k17, k18, k19, k20, k21, k22, k23, k24, k25, k26, k27, k28, k29]
def interned : List (Array UInt16 × Addr) := []
def slotsUsed : Nat := 219
def theMethod : MethodId := ⟨1, 1⟩
def args0 : Array Value := #[.int 25185, .int 99, .int 345, .int 6]
def aboutOver (below : List Frame) : State where
  vm := { classes := classes, interned := interned.toArray }
  heap := heap
  slotsUsed := slotsUsed
  threads := #[{ frames := .invoking theMethod args0 :: below }]
def below0 : List Frame := [.native { method := ⟨0, 0⟩, args := #[] }]
def about1 : State := aboutOver below0
def p0 : Program := .bare "" "" ""
def e0 : Env := launch0.env 0 0 0
theorem w_frames : about1.frames = Frame.invoking theMethod args0 :: below0 := rfl
set_option maxRecDepth 65536 in
theorem w_args : argsFit about1.vm theMethod args0 = true := by decide +kernel
set_option maxRecDepth 65536 in
theorem w_heap : heapFits about1 = true := by decide +kernel
set_option maxRecDepth 65536 in
theorem w_runnable : about1.curStatus? = some .runnable := by decide +kernel
set_option maxRecDepth 65536 in
theorem w_alone : about1.alone = true := by decide +kernel
set_option maxRecDepth 65536 in
theorem w_named : about1.methodNamed? x = some theMethod := by decide +kernel
set_option maxRecDepth 65536 in
theorem w_hears : about1.hears theMethod below0 = true := by decide +kernel
set_option maxRecDepth 65536 in
theorem w_ripe : about1.ripe theMethod args0 below0 = true := by decide +kernel
theorem w_running : about1.status = .running := rfl
set_option maxRecDepth 65536 in
theorem w_room : about1.hasRoom e0.platform room_1 = true :=
  launch0.hasRoom_least _ room_1 (by decide +kernel) (by decide +kernel) (by decide +kernel) (by decide +kernel) (by decide +kernel) (by decide +kernel)
theorem allAtoms_all (ts : List Jvm.Cond) (a : Array Jvm.Value) (st : Jvm.State) : (allAtoms ts).before a st = ts.all (fun c => c.before a st) := by
  induction ts with
  | nil => rfl
  | cons c t ih =>
    show (Jvm.Cond.and c (allAtoms t)).before a st = _
    rw [Jvm.Cond.before_and, ih, List.all_cons]
def words1 : List Jvm.Cond := Jvm.Cond.code x code maxLocals ret :: tables_1
/-- a 'code' word, met by the world's own term for the bytes: nothing is compared byte by byte -/
theorem code_word {y : MethodName} {bytes : ByteArray} {mx : Nat} {rt : Option FieldType} {a : Array Value} {s : State} {m : MethodId} {meth : Method} {c : Code} (h1 : s.methodNamed? y = some m) (h2 : s.vm.method? m = some meth) (h3 : meth.code = some c) (h4 : c.code = bytes)
    (h5 : (c.maxLocals == mx && c.exceptionTable.isEmpty && decide (c.maxStack ≤ mostOperands) && decide (meth.sig.returnType = rt) && !meth.locks && decide (parseMethodDescriptor y.desc = some meth.sig)) = true) : (Jvm.Cond.code y bytes mx rt).before a s = true := by
  simp only [Bool.and_eq_true, beq_iff_eq, Bool.not_eq_true', decide_eq_true_eq] at h5
  obtain ⟨⟨⟨⟨⟨g1, g2⟩, g3⟩, g4⟩, g5⟩, g6⟩ := h5
  simp [Cond.before, Cond.holds, Cond.value, h1, h2, h3, h4, g1, g2, g3, g4, g5, g6]
def isCode : Jvm.Cond → Bool
  | .code _ _ _ _ => true
  | _ => false
theorem all_split {L : List Jvm.Cond} {P : Jvm.Cond → Bool} (h1 : L.all (fun c => isCode c || P c) = true) (h2 : ∀ c ∈ L.filter isCode, P c = true) : L.all P = true := by
  refine List.all_eq_true.mpr fun c hc => ?_
  have h := List.all_eq_true.mp h1 c hc
  rcases Bool.eq_false_or_eq_true (isCode c) with hi | hi
  · exact h2 c (List.mem_filter.mpr ⟨hc, hi⟩)
  · simpa [hi] using h
set_option maxRecDepth 65536 in
theorem w_c0 : (Jvm.Cond.code x code maxLocals ret).before args0 about1 = true := code_word (m := ⟨1, 1⟩) (meth := k1m1) (c := k1c1) (by decide +kernel) rfl rfl rfl (by decide +kernel)
set_option maxRecDepth 65536 in
theorem w_c1 : (Jvm.Cond.code ({ cls := "com/example/fill_realm/fillrealm/ProblemToStringPinLaw", name := "mk", desc := "(II)Ljava/lang/String;" } : Jvm.MethodName) method_3_code (5 : Nat) (Option.some (Jvm.ClassFile.FieldType.object "java/lang/String"))).before args0 about1 = true := code_word (m := ⟨1, 2⟩) (meth := k1m2) (c := k1c2) (by decide +kernel) rfl rfl rfl (by decide +kernel)
set_option maxRecDepth 65536 in
theorem w_c2 : (Jvm.Cond.code ({ cls := "java/lang/String", name := "<init>", desc := "([C)V" } : Jvm.MethodName) jdk_42_method_3_code (2 : Nat) (Option.none : Option Jvm.ClassFile.FieldType)).before args0 about1 = true := code_word (m := ⟨7, 1⟩) (meth := k7m1) (c := k7c1) (by decide +kernel) rfl rfl rfl (by decide +kernel)
set_option maxRecDepth 65536 in
theorem w_c3 : (Jvm.Cond.code ({ cls := "java/lang/String", name := "<init>", desc := "([CIILjava/lang/Void;)V" } : Jvm.MethodName) jdk_42_method_149_code (6 : Nat) (Option.none : Option Jvm.ClassFile.FieldType)).before args0 about1 = true := code_word (m := ⟨7, 6⟩) (meth := k7m6) (c := k7c6) (by decide +kernel) rfl rfl rfl (by decide +kernel)
set_option maxRecDepth 65536 in
theorem w_c4 : (Jvm.Cond.code ({ cls := "java/lang/Object", name := "<init>", desc := "()V" } : Jvm.MethodName) object_method_1_code (1 : Nat) (Option.none : Option Jvm.ClassFile.FieldType)).before args0 about1 = true := code_word (m := ⟨0, 0⟩) (meth := k0m0) (c := k0c0) (by decide +kernel) rfl rfl rfl (by decide +kernel)
set_option maxRecDepth 65536 in
theorem w_c5 : (Jvm.Cond.code ({ cls := "java/lang/StringUTF16", name := "compress", desc := "([CII)[B" } : Jvm.MethodName) jdk_52_method_16_code (6 : Nat) (Option.some (Jvm.ClassFile.FieldType.array Jvm.ClassFile.FieldType.byte))).before args0 about1 = true := code_word (m := ⟨8, 2⟩) (meth := k8m2) (c := k8c2) (by decide +kernel) rfl rfl rfl (by decide +kernel)
set_option maxRecDepth 65536 in
theorem w_c6 : (Jvm.Cond.code ({ cls := "java/lang/StringUTF16", name := "compress", desc := "([CI[BII)I" } : Jvm.MethodName) jdk_52_method_21_code (7 : Nat) (Option.some Jvm.ClassFile.FieldType.int)).before args0 about1 = true := code_word (m := ⟨8, 3⟩) (meth := k8m3) (c := k8c3) (by decide +kernel) rfl rfl rfl (by decide +kernel)
set_option maxRecDepth 65536 in
theorem w_c7 : (Jvm.Cond.code ({ cls := "java/lang/StringUTF16", name := "coderFromArrayLen", desc := "([BI)B" } : Jvm.MethodName) jdk_52_method_15_code (2 : Nat) (Option.some Jvm.ClassFile.FieldType.byte)).before args0 about1 = true := code_word (m := ⟨8, 1⟩) (meth := k8m1) (c := k8c1) (by decide +kernel) rfl rfl rfl (by decide +kernel)
set_option maxRecDepth 65536 in
theorem w_c8 : (Jvm.Cond.code ({ cls := "com/example/fill_realm/fillrealm/Problem", name := "<init>", desc := "(Ljava/lang/String;ILjava/lang/String;)V" } : Jvm.MethodName) prog_8_method_1_code (4 : Nat) (Option.none : Option Jvm.ClassFile.FieldType)).before args0 about1 = true := code_word (m := ⟨9, 0⟩) (meth := k9m0) (c := k9c0) (by decide +kernel) rfl rfl rfl (by decide +kernel)
set_option maxRecDepth 65536 in
theorem w_c9 : (Jvm.Cond.code ({ cls := "com/example/fill_realm/fillrealm/Problem", name := "toString", desc := "()Ljava/lang/String;" } : Jvm.MethodName) prog_8_method_2_code (1 : Nat) (Option.some (Jvm.ClassFile.FieldType.object "java/lang/String"))).before args0 about1 = true := code_word (m := ⟨9, 1⟩) (meth := k9m1) (c := k9c1) (by decide +kernel) rfl rfl rfl (by decide +kernel)
set_option maxRecDepth 65536 in
theorem w_c10 : (Jvm.Cond.code ({ cls := "java/lang/StringBuilder", name := "<init>", desc := "()V" } : Jvm.MethodName) jdk_67_method_1_code (1 : Nat) (Option.none : Option Jvm.ClassFile.FieldType)).before args0 about1 = true := code_word (m := ⟨12, 0⟩) (meth := k12m0) (c := k12c0) (by decide +kernel) rfl rfl rfl (by decide +kernel)
set_option maxRecDepth 65536 in
theorem w_c11 : (Jvm.Cond.code ({ cls := "java/lang/AbstractStringBuilder", name := "<init>", desc := "(I)V" } : Jvm.MethodName) jdk_68_method_2_code (2 : Nat) (Option.none : Option Jvm.ClassFile.FieldType)).before args0 about1 = true := code_word (m := ⟨11, 1⟩) (meth := k11m1) (c := k11c1) (by decide +kernel) rfl rfl rfl (by decide +kernel)
set_option maxRecDepth 65536 in
theorem w_c12 : (Jvm.Cond.code ({ cls := "java/lang/StringBuilder", name := "append", desc := "(Ljava/lang/String;)Ljava/lang/StringBuilder;" } : Jvm.MethodName) jdk_67_method_7_code (2 : Nat) (Option.some (Jvm.ClassFile.FieldType.object "java/lang/StringBuilder"))).before args0 about1 = true := code_word (m := ⟨12, 1⟩) (meth := k12m1) (c := k12c1) (by decide +kernel) rfl rfl rfl (by decide +kernel)
set_option maxRecDepth 65536 in
theorem w_c13 : (Jvm.Cond.code ({ cls := "java/lang/AbstractStringBuilder", name := "append", desc := "(Ljava/lang/String;)Ljava/lang/AbstractStringBuilder;" } : Jvm.MethodName) jdk_68_method_22_code (3 : Nat) (Option.some (Jvm.ClassFile.FieldType.object "java/lang/AbstractStringBuilder"))).before args0 about1 = true := code_word (m := ⟨11, 5⟩) (meth := k11m5) (c := k11c5) (by decide +kernel) rfl rfl rfl (by decide +kernel)
set_option maxRecDepth 65536 in
theorem w_c14 : (Jvm.Cond.code ({ cls := "java/lang/String", name := "length", desc := "()I" } : Jvm.MethodName) jdk_42_method_54_code (1 : Nat) (Option.some Jvm.ClassFile.FieldType.int)).before args0 about1 = true := code_word (m := ⟨7, 3⟩) (meth := k7m3) (c := k7c3) (by decide +kernel) rfl rfl rfl (by decide +kernel)
set_option maxRecDepth 65536 in
theorem w_c15 : (Jvm.Cond.code ({ cls := "java/lang/String", name := "coder", desc := "()B" } : Jvm.MethodName) jdk_42_method_152_code (1 : Nat) (Option.some Jvm.ClassFile.FieldType.byte)).before args0 about1 = true := code_word (m := ⟨7, 8⟩) (meth := k7m8) (c := k7c8) (by decide +kernel) rfl rfl rfl (by decide +kernel)
set_option maxRecDepth 65536 in
theorem w_c16 : (Jvm.Cond.code ({ cls := "java/lang/AbstractStringBuilder", name := "ensureCapacityInternal", desc := "(I)V" } : Jvm.MethodName) jdk_68_method_9_code (3 : Nat) (Option.none : Option Jvm.ClassFile.FieldType)).before args0 about1 = true := code_word (m := ⟨11, 3⟩) (meth := k11m3) (c := k11c3) (by decide +kernel) rfl rfl rfl (by decide +kernel)
set_option maxRecDepth 65536 in
theorem w_c17 : (Jvm.Cond.code ({ cls := "java/lang/AbstractStringBuilder", name := "putStringAt", desc := "(ILjava/lang/String;)V" } : Jvm.MethodName) jdk_68_method_73_code (3 : Nat) (Option.none : Option Jvm.ClassFile.FieldType)).before args0 about1 = true := code_word (m := ⟨11, 10⟩) (meth := k11m10) (c := k11c10) (by decide +kernel) rfl rfl rfl (by decide +kernel)
set_option maxRecDepth 65536 in
theorem w_c18 : (Jvm.Cond.code ({ cls := "java/lang/AbstractStringBuilder", name := "inflateIfNeededFor", desc := "(Ljava/lang/String;)V" } : Jvm.MethodName) jdk_68_method_71_code (2 : Nat) (Option.none : Option Jvm.ClassFile.FieldType)).before args0 about1 = true := code_word (m := ⟨11, 9⟩) (meth := k11m9) (c := k11c9) (by decide +kernel) rfl rfl rfl (by decide +kernel)
set_option maxRecDepth 65536 in
theorem w_c19 : (Jvm.Cond.code ({ cls := "java/lang/String", name := "getBytes", desc := "([BIB)V" } : Jvm.MethodName) jdk_42_method_147_code (4 : Nat) (Option.none : Option Jvm.ClassFile.FieldType)).before args0 about1 = true := code_word (m := ⟨7, 5⟩) (meth := k7m5) (c := k7c5) (by decide +kernel) rfl rfl rfl (by decide +kernel)
set_option maxRecDepth 65536 in
theorem w_c20 : (Jvm.Cond.code ({ cls := "java/lang/StringBuilder", name := "append", desc := "(I)Ljava/lang/StringBuilder;" } : Jvm.MethodName) jdk_67_method_15_code (2 : Nat) (Option.some (Jvm.ClassFile.FieldType.object "java/lang/StringBuilder"))).before args0 about1 = true := code_word (m := ⟨12, 2⟩) (meth := k12m2) (c := k12c2) (by decide +kernel) rfl rfl rfl (by decide +kernel)
set_option maxRecDepth 65536 in
theorem w_c21 : (Jvm.Cond.code ({ cls := "java/lang/AbstractStringBuilder", name := "append", desc := "(I)Ljava/lang/AbstractStringBuilder;" } : Jvm.MethodName) jdk_68_method_32_code (4 : Nat) (Option.some (Jvm.ClassFile.FieldType.object "java/lang/AbstractStringBuilder"))).before args0 about1 = true := code_word (m := ⟨11, 6⟩) (meth := k11m6) (c := k11c6) (by decide +kernel) rfl rfl rfl (by decide +kernel)
set_option maxRecDepth 65536 in
theorem w_c22 : (Jvm.Cond.code ({ cls := "java/lang/Integer", name := "stringSize", desc := "(I)I" } : Jvm.MethodName) jdk_33_method_13_code (4 : Nat) (Option.some Jvm.ClassFile.FieldType.int)).before args0 about1 = true := code_word (m := ⟨15, 1⟩) (meth := k15m1) (c := k15c1) (by decide +kernel) rfl rfl rfl (by decide +kernel)
set_option maxRecDepth 65536 in
theorem w_c23 : (Jvm.Cond.code ({ cls := "java/lang/AbstractStringBuilder", name := "isLatin1", desc := "()Z" } : Jvm.MethodName) jdk_68_method_68_code (1 : Nat) (Option.some Jvm.ClassFile.FieldType.boolean)).before args0 about1 = true := code_word (m := ⟨11, 8⟩) (meth := k11m8) (c := k11c8) (by decide +kernel) rfl rfl rfl (by decide +kernel)
set_option maxRecDepth 65536 in
theorem w_c24 : (Jvm.Cond.code ({ cls := "java/lang/Integer", name := "getChars", desc := "(II[B)I" } : Jvm.MethodName) jdk_33_method_12_code (7 : Nat) (Option.some Jvm.ClassFile.FieldType.int)).before args0 about1 = true := code_word (m := ⟨15, 0⟩) (meth := k15m0) (c := k15c0) (by decide +kernel) rfl rfl rfl (by decide +kernel)
set_option maxRecDepth 65536 in
theorem w_c25 : (Jvm.Cond.code ({ cls := "java/lang/StringBuilder", name := "toString", desc := "()Ljava/lang/String;" } : Jvm.MethodName) jdk_67_method_42_code (1 : Nat) (Option.some (Jvm.ClassFile.FieldType.object "java/lang/String"))).before args0 about1 = true := code_word (m := ⟨12, 3⟩) (meth := k12m3) (c := k12c3) (by decide +kernel) rfl rfl rfl (by decide +kernel)
set_option maxRecDepth 65536 in
theorem w_c26 : (Jvm.Cond.code ({ cls := "java/lang/String", name := "<init>", desc := "(Ljava/lang/StringBuilder;)V" } : Jvm.MethodName) jdk_42_method_53_code (2 : Nat) (Option.none : Option Jvm.ClassFile.FieldType)).before args0 about1 = true := code_word (m := ⟨7, 2⟩) (meth := k7m2) (c := k7c2) (by decide +kernel) rfl rfl rfl (by decide +kernel)
set_option maxRecDepth 65536 in
theorem w_c27 : (Jvm.Cond.code ({ cls := "java/lang/String", name := "<init>", desc := "(Ljava/lang/AbstractStringBuilder;Ljava/lang/Void;)V" } : Jvm.MethodName) jdk_42_method_150_code (5 : Nat) (Option.none : Option Jvm.ClassFile.FieldType)).before args0 about1 = true := code_word (m := ⟨7, 7⟩) (meth := k7m7) (c := k7c7) (by decide +kernel) rfl rfl rfl (by decide +kernel)
set_option maxRecDepth 65536 in
theorem w_c28 : (Jvm.Cond.code ({ cls := "java/lang/AbstractStringBuilder", name := "getValue", desc := "()[B" } : Jvm.MethodName) jdk_68_method_64_code (1 : Nat) (Option.some (Jvm.ClassFile.FieldType.array Jvm.ClassFile.FieldType.byte))).before args0 about1 = true := code_word (m := ⟨11, 7⟩) (meth := k11m7) (c := k11c7) (by decide +kernel) rfl rfl rfl (by decide +kernel)
set_option maxRecDepth 65536 in
theorem w_c29 : (Jvm.Cond.code ({ cls := "java/lang/StringBuilder", name := "length", desc := "()I" } : Jvm.MethodName) jdk_67_method_93_code (1 : Nat) (Option.some Jvm.ClassFile.FieldType.int)).before args0 about1 = true := code_word (m := ⟨12, 4⟩) (meth := k12m4) (c := k12c4) (by decide +kernel) rfl rfl rfl (by decide +kernel)
set_option maxRecDepth 65536 in
theorem w_c30 : (Jvm.Cond.code ({ cls := "java/lang/AbstractStringBuilder", name := "length", desc := "()I" } : Jvm.MethodName) jdk_68_method_6_code (1 : Nat) (Option.some Jvm.ClassFile.FieldType.int)).before args0 about1 = true := code_word (m := ⟨11, 2⟩) (meth := k11m2) (c := k11c2) (by decide +kernel) rfl rfl rfl (by decide +kernel)
set_option maxRecDepth 65536 in
theorem w_c31 : (Jvm.Cond.code ({ cls := "java/util/Arrays", name := "copyOfRange", desc := "([BII)[B" } : Jvm.MethodName) jdk_65_method_132_code (3 : Nat) (Option.some (Jvm.ClassFile.FieldType.array Jvm.ClassFile.FieldType.byte))).before args0 about1 = true := code_word (m := ⟨16, 3⟩) (meth := k16m3) (c := k16c3) (by decide +kernel) rfl rfl rfl (by decide +kernel)
set_option maxRecDepth 65536 in
theorem w_c32 : (Jvm.Cond.code ({ cls := "java/util/Arrays", name := "copyOfRangeByte", desc := "([BII)[B" } : Jvm.MethodName) jdk_65_method_133_code (5 : Nat) (Option.some (Jvm.ClassFile.FieldType.array Jvm.ClassFile.FieldType.byte))).before args0 about1 = true := code_word (m := ⟨16, 4⟩) (meth := k16m4) (c := k16c4) (by decide +kernel) rfl rfl rfl (by decide +kernel)
set_option maxRecDepth 65536 in
theorem w_c33 : (Jvm.Cond.code ({ cls := "java/util/Arrays", name := "checkLength", desc := "(II)V" } : Jvm.MethodName) jdk_65_method_131_code (2 : Nat) (Option.none : Option Jvm.ClassFile.FieldType)).before args0 about1 = true := code_word (m := ⟨16, 2⟩) (meth := k16m2) (c := k16c2) (by decide +kernel) rfl rfl rfl (by decide +kernel)
set_option maxRecDepth 65536 in
theorem w_c34 : (Jvm.Cond.code ({ cls := "java/lang/Math", name := "min", desc := "(II)I" } : Jvm.MethodName) jdk_29_method_69_code (2 : Nat) (Option.some Jvm.ClassFile.FieldType.int)).before args0 about1 = true := code_word (m := ⟨17, 2⟩) (meth := k17m2) (c := k17c2) (by decide +kernel) rfl rfl rfl (by decide +kernel)
set_option maxRecDepth 65536 in
theorem w_c35 : (Jvm.Cond.code ({ cls := "com/example/fill_realm/fillrealm/ProblemToStringPinLaw", name := "ndig", desc := "(J)I" } : Jvm.MethodName) method_5_code (2 : Nat) (Option.some Jvm.ClassFile.FieldType.int)).before args0 about1 = true := code_word (m := ⟨1, 4⟩) (meth := k1m4) (c := k1c4) (by decide +kernel) rfl rfl rfl (by decide +kernel)
set_option maxRecDepth 65536 in
theorem w_c36 : (Jvm.Cond.code ({ cls := "com/example/fill_realm/fillrealm/ProblemToStringPinLaw", name := "seg", desc := "(Ljava/lang/String;ILjava/lang/String;)Z" } : Jvm.MethodName) method_4_code (4 : Nat) (Option.some Jvm.ClassFile.FieldType.boolean)).before args0 about1 = true := code_word (m := ⟨1, 3⟩) (meth := k1m3) (c := k1c3) (by decide +kernel) rfl rfl rfl (by decide +kernel)
set_option maxRecDepth 65536 in
theorem w_c37 : (Jvm.Cond.code ({ cls := "java/lang/String", name := "charAt", desc := "(I)C" } : Jvm.MethodName) jdk_42_method_56_code (2 : Nat) (Option.some Jvm.ClassFile.FieldType.char)).before args0 about1 = true := code_word (m := ⟨7, 4⟩) (meth := k7m4) (c := k7c4) (by decide +kernel) rfl rfl rfl (by decide +kernel)
set_option maxRecDepth 65536 in
theorem w_c38 : (Jvm.Cond.code ({ cls := "java/lang/String", name := "isLatin1", desc := "()Z" } : Jvm.MethodName) jdk_42_method_154_code (1 : Nat) (Option.some Jvm.ClassFile.FieldType.boolean)).before args0 about1 = true := code_word (m := ⟨7, 9⟩) (meth := k7m9) (c := k7c9) (by decide +kernel) rfl rfl rfl (by decide +kernel)
set_option maxRecDepth 65536 in
theorem w_c39 : (Jvm.Cond.code ({ cls := "java/lang/StringLatin1", name := "charAt", desc := "([BI)C" } : Jvm.MethodName) jdk_43_method_2_code (2 : Nat) (Option.some Jvm.ClassFile.FieldType.char)).before args0 about1 = true := code_word (m := ⟨18, 1⟩) (meth := k18m1) (c := k18c1) (by decide +kernel) rfl rfl rfl (by decide +kernel)
set_option maxRecDepth 65536 in
theorem w_c40 : (Jvm.Cond.code ({ cls := "java/lang/String", name := "checkIndex", desc := "(II)V" } : Jvm.MethodName) jdk_42_method_155_code (2 : Nat) (Option.none : Option Jvm.ClassFile.FieldType)).before args0 about1 = true := code_word (m := ⟨7, 10⟩) (meth := k7m10) (c := k7c10) (by decide +kernel) rfl rfl rfl (by decide +kernel)
set_option maxRecDepth 65536 in
theorem w_c41 : (Jvm.Cond.code ({ cls := "jdk/internal/util/Preconditions", name := "checkIndex", desc := "(IILjava/util/function/BiFunction;)I" } : Jvm.MethodName) jdk_41_method_11_code (3 : Nat) (Option.some Jvm.ClassFile.FieldType.int)).before args0 about1 = true := code_word (m := ⟨19, 1⟩) (meth := k19m1) (c := k19c1) (by decide +kernel) rfl rfl rfl (by decide +kernel)
set_option maxRecDepth 65536 in
theorem w_c42 : (Jvm.Cond.code ({ cls := "com/example/fill_realm/fillrealm/ProblemToStringPinLaw", name := "dig", desc := "(Ljava/lang/String;IJII[J)Z" } : Jvm.MethodName) method_6_code (9 : Nat) (Option.some Jvm.ClassFile.FieldType.boolean)).before args0 about1 = true := code_word (m := ⟨1, 5⟩) (meth := k1m5) (c := k1c5) (by decide +kernel) rfl rfl rfl (by decide +kernel)
set_option maxRecDepth 65536 in
theorem w_c43 : (Jvm.Cond.code ({ cls := "java/lang/AbstractStringBuilder", name := "newCapacity", desc := "(I)I" } : Jvm.MethodName) jdk_68_method_10_code (6 : Nat) (Option.some Jvm.ClassFile.FieldType.int)).before args0 about1 = true := code_word (m := ⟨11, 4⟩) (meth := k11m4) (c := k11c4) (by decide +kernel) rfl rfl rfl (by decide +kernel)
set_option maxRecDepth 65536 in
theorem w_c44 : (Jvm.Cond.code ({ cls := "jdk/internal/util/ArraysSupport", name := "newLength", desc := "(III)I" } : Jvm.MethodName) jdk_48_method_27_code (4 : Nat) (Option.some Jvm.ClassFile.FieldType.int)).before args0 about1 = true := code_word (m := ⟨21, 1⟩) (meth := k21m1) (c := k21c1) (by decide +kernel) rfl rfl rfl (by decide +kernel)
set_option maxRecDepth 65536 in
theorem w_c45 : (Jvm.Cond.code ({ cls := "java/lang/Math", name := "max", desc := "(II)I" } : Jvm.MethodName) jdk_29_method_65_code (2 : Nat) (Option.some Jvm.ClassFile.FieldType.int)).before args0 about1 = true := code_word (m := ⟨17, 1⟩) (meth := k17m1) (c := k17c1) (by decide +kernel) rfl rfl rfl (by decide +kernel)
set_option maxRecDepth 65536 in
theorem w_c46 : (Jvm.Cond.code ({ cls := "java/util/Arrays", name := "copyOf", desc := "([BI)[B" } : Jvm.MethodName) jdk_65_method_121_code (3 : Nat) (Option.some (Jvm.ClassFile.FieldType.array Jvm.ClassFile.FieldType.byte))).before args0 about1 = true := code_word (m := ⟨16, 1⟩) (meth := k16m1) (c := k16c1) (by decide +kernel) rfl rfl rfl (by decide +kernel)
def codes1 : List Jvm.Cond := [Jvm.Cond.code x code maxLocals ret, Jvm.Cond.code ({ cls := "com/example/fill_realm/fillrealm/ProblemToStringPinLaw", name := "mk", desc := "(II)Ljava/lang/String;" } : Jvm.MethodName) method_3_code (5 : Nat) (Option.some (Jvm.ClassFile.FieldType.object "java/lang/String")), Jvm.Cond.code ({ cls := "java/lang/String", name := "<init>", desc := "([C)V" } : Jvm.MethodName) jdk_42_method_3_code (2 : Nat) (Option.none : Option Jvm.ClassFile.FieldType), Jvm.Cond.code ({ cls := "java/lang/String", name := "<init>", desc := "([CIILjava/lang/Void;)V" } : Jvm.MethodName) jdk_42_method_149_code (6 : Nat) (Option.none : Option Jvm.ClassFile.FieldType), Jvm.Cond.code ({ cls := "java/lang/Object", name := "<init>", desc := "()V" } : Jvm.MethodName) object_method_1_code (1 : Nat) (Option.none : Option Jvm.ClassFile.FieldType), Jvm.Cond.code ({ cls := "java/lang/StringUTF16", name := "compress", desc := "([CII)[B" } : Jvm.MethodName) jdk_52_method_16_code (6 : Nat) (Option.some (Jvm.ClassFile.FieldType.array Jvm.ClassFile.FieldType.byte)), Jvm.Cond.code ({ cls := "java/lang/StringUTF16", name := "compress", desc := "([CI[BII)I" } : Jvm.MethodName) jdk_52_method_21_code (7 : Nat) (Option.some Jvm.ClassFile.FieldType.int), Jvm.Cond.code ({ cls := "java/lang/StringUTF16", name := "coderFromArrayLen", desc := "([BI)B" } : Jvm.MethodName) jdk_52_method_15_code (2 : Nat) (Option.some Jvm.ClassFile.FieldType.byte), Jvm.Cond.code ({ cls := "com/example/fill_realm/fillrealm/Problem", name := "<init>", desc := "(Ljava/lang/String;ILjava/lang/String;)V" } : Jvm.MethodName) prog_8_method_1_code (4 : Nat) (Option.none : Option Jvm.ClassFile.FieldType), Jvm.Cond.code ({ cls := "com/example/fill_realm/fillrealm/Problem", name := "toString", desc := "()Ljava/lang/String;" } : Jvm.MethodName) prog_8_method_2_code (1 : Nat) (Option.some (Jvm.ClassFile.FieldType.object "java/lang/String")), Jvm.Cond.code ({ cls := "java/lang/StringBuilder", name := "<init>", desc := "()V" } : Jvm.MethodName) jdk_67_method_1_code (1 : Nat) (Option.none : Option Jvm.ClassFile.FieldType), Jvm.Cond.code ({ cls := "java/lang/AbstractStringBuilder", name := "<init>", desc := "(I)V" } : Jvm.MethodName) jdk_68_method_2_code (2 : Nat) (Option.none : Option Jvm.ClassFile.FieldType), Jvm.Cond.code ({ cls := "java/lang/StringBuilder", name := "append", desc := "(Ljava/lang/String;)Ljava/lang/StringBuilder;" } : Jvm.MethodName) jdk_67_method_7_code (2 : Nat) (Option.some (Jvm.ClassFile.FieldType.object "java/lang/StringBuilder")), Jvm.Cond.code ({ cls := "java/lang/AbstractStringBuilder", name := "append", desc := "(Ljava/lang/String;)Ljava/lang/AbstractStringBuilder;" } : Jvm.MethodName) jdk_68_method_22_code (3 : Nat) (Option.some (Jvm.ClassFile.FieldType.object "java/lang/AbstractStringBuilder")), Jvm.Cond.code ({ cls := "java/lang/String", name := "length", desc := "()I" } : Jvm.MethodName) jdk_42_method_54_code (1 : Nat) (Option.some Jvm.ClassFile.FieldType.int), Jvm.Cond.code ({ cls := "java/lang/String", name := "coder", desc := "()B" } : Jvm.MethodName) jdk_42_method_152_code (1 : Nat) (Option.some Jvm.ClassFile.FieldType.byte), Jvm.Cond.code ({ cls := "java/lang/AbstractStringBuilder", name := "ensureCapacityInternal", desc := "(I)V" } : Jvm.MethodName) jdk_68_method_9_code (3 : Nat) (Option.none : Option Jvm.ClassFile.FieldType), Jvm.Cond.code ({ cls := "java/lang/AbstractStringBuilder", name := "putStringAt", desc := "(ILjava/lang/String;)V" } : Jvm.MethodName) jdk_68_method_73_code (3 : Nat) (Option.none : Option Jvm.ClassFile.FieldType), Jvm.Cond.code ({ cls := "java/lang/AbstractStringBuilder", name := "inflateIfNeededFor", desc := "(Ljava/lang/String;)V" } : Jvm.MethodName) jdk_68_method_71_code (2 : Nat) (Option.none : Option Jvm.ClassFile.FieldType), Jvm.Cond.code ({ cls := "java/lang/String", name := "getBytes", desc := "([BIB)V" } : Jvm.MethodName) jdk_42_method_147_code (4 : Nat) (Option.none : Option Jvm.ClassFile.FieldType), Jvm.Cond.code ({ cls := "java/lang/StringBuilder", name := "append", desc := "(I)Ljava/lang/StringBuilder;" } : Jvm.MethodName) jdk_67_method_15_code (2 : Nat) (Option.some (Jvm.ClassFile.FieldType.object "java/lang/StringBuilder")), Jvm.Cond.code ({ cls := "java/lang/AbstractStringBuilder", name := "append", desc := "(I)Ljava/lang/AbstractStringBuilder;" } : Jvm.MethodName) jdk_68_method_32_code (4 : Nat) (Option.some (Jvm.ClassFile.FieldType.object "java/lang/AbstractStringBuilder")), Jvm.Cond.code ({ cls := "java/lang/Integer", name := "stringSize", desc := "(I)I" } : Jvm.MethodName) jdk_33_method_13_code (4 : Nat) (Option.some Jvm.ClassFile.FieldType.int), Jvm.Cond.code ({ cls := "java/lang/AbstractStringBuilder", name := "isLatin1", desc := "()Z" } : Jvm.MethodName) jdk_68_method_68_code (1 : Nat) (Option.some Jvm.ClassFile.FieldType.boolean), Jvm.Cond.code ({ cls := "java/lang/Integer", name := "getChars", desc := "(II[B)I" } : Jvm.MethodName) jdk_33_method_12_code (7 : Nat) (Option.some Jvm.ClassFile.FieldType.int), Jvm.Cond.code ({ cls := "java/lang/StringBuilder", name := "toString", desc := "()Ljava/lang/String;" } : Jvm.MethodName) jdk_67_method_42_code (1 : Nat) (Option.some (Jvm.ClassFile.FieldType.object "java/lang/String")), Jvm.Cond.code ({ cls := "java/lang/String", name := "<init>", desc := "(Ljava/lang/StringBuilder;)V" } : Jvm.MethodName) jdk_42_method_53_code (2 : Nat) (Option.none : Option Jvm.ClassFile.FieldType), Jvm.Cond.code ({ cls := "java/lang/String", name := "<init>", desc := "(Ljava/lang/AbstractStringBuilder;Ljava/lang/Void;)V" } : Jvm.MethodName) jdk_42_method_150_code (5 : Nat) (Option.none : Option Jvm.ClassFile.FieldType), Jvm.Cond.code ({ cls := "java/lang/AbstractStringBuilder", name := "getValue", desc := "()[B" } : Jvm.MethodName) jdk_68_method_64_code (1 : Nat) (Option.some (Jvm.ClassFile.FieldType.array Jvm.ClassFile.FieldType.byte)), Jvm.Cond.code ({ cls := "java/lang/StringBuilder", name := "length", desc := "()I" } : Jvm.MethodName) jdk_67_method_93_code (1 : Nat) (Option.some Jvm.ClassFile.FieldType.int), Jvm.Cond.code ({ cls := "java/lang/AbstractStringBuilder", name := "length", desc := "()I" } : Jvm.MethodName) jdk_68_method_6_code (1 : Nat) (Option.some Jvm.ClassFile.FieldType.int), Jvm.Cond.code ({ cls := "java/util/Arrays", name := "copyOfRange", desc := "([BII)[B" } : Jvm.MethodName) jdk_65_method_132_code (3 : Nat) (Option.some (Jvm.ClassFile.FieldType.array Jvm.ClassFile.FieldType.byte)), Jvm.Cond.code ({ cls := "java/util/Arrays", name := "copyOfRangeByte", desc := "([BII)[B" } : Jvm.MethodName) jdk_65_method_133_code (5 : Nat) (Option.some (Jvm.ClassFile.FieldType.array Jvm.ClassFile.FieldType.byte)), Jvm.Cond.code ({ cls := "java/util/Arrays", name := "checkLength", desc := "(II)V" } : Jvm.MethodName) jdk_65_method_131_code (2 : Nat) (Option.none : Option Jvm.ClassFile.FieldType), Jvm.Cond.code ({ cls := "java/lang/Math", name := "min", desc := "(II)I" } : Jvm.MethodName) jdk_29_method_69_code (2 : Nat) (Option.some Jvm.ClassFile.FieldType.int), Jvm.Cond.code ({ cls := "com/example/fill_realm/fillrealm/ProblemToStringPinLaw", name := "ndig", desc := "(J)I" } : Jvm.MethodName) method_5_code (2 : Nat) (Option.some Jvm.ClassFile.FieldType.int), Jvm.Cond.code ({ cls := "com/example/fill_realm/fillrealm/ProblemToStringPinLaw", name := "seg", desc := "(Ljava/lang/String;ILjava/lang/String;)Z" } : Jvm.MethodName) method_4_code (4 : Nat) (Option.some Jvm.ClassFile.FieldType.boolean), Jvm.Cond.code ({ cls := "java/lang/String", name := "charAt", desc := "(I)C" } : Jvm.MethodName) jdk_42_method_56_code (2 : Nat) (Option.some Jvm.ClassFile.FieldType.char), Jvm.Cond.code ({ cls := "java/lang/String", name := "isLatin1", desc := "()Z" } : Jvm.MethodName) jdk_42_method_154_code (1 : Nat) (Option.some Jvm.ClassFile.FieldType.boolean), Jvm.Cond.code ({ cls := "java/lang/StringLatin1", name := "charAt", desc := "([BI)C" } : Jvm.MethodName) jdk_43_method_2_code (2 : Nat) (Option.some Jvm.ClassFile.FieldType.char), Jvm.Cond.code ({ cls := "java/lang/String", name := "checkIndex", desc := "(II)V" } : Jvm.MethodName) jdk_42_method_155_code (2 : Nat) (Option.none : Option Jvm.ClassFile.FieldType), Jvm.Cond.code ({ cls := "jdk/internal/util/Preconditions", name := "checkIndex", desc := "(IILjava/util/function/BiFunction;)I" } : Jvm.MethodName) jdk_41_method_11_code (3 : Nat) (Option.some Jvm.ClassFile.FieldType.int), Jvm.Cond.code ({ cls := "com/example/fill_realm/fillrealm/ProblemToStringPinLaw", name := "dig", desc := "(Ljava/lang/String;IJII[J)Z" } : Jvm.MethodName) method_6_code (9 : Nat) (Option.some Jvm.ClassFile.FieldType.boolean), Jvm.Cond.code ({ cls := "java/lang/AbstractStringBuilder", name := "newCapacity", desc := "(I)I" } : Jvm.MethodName) jdk_68_method_10_code (6 : Nat) (Option.some Jvm.ClassFile.FieldType.int), Jvm.Cond.code ({ cls := "jdk/internal/util/ArraysSupport", name := "newLength", desc := "(III)I" } : Jvm.MethodName) jdk_48_method_27_code (4 : Nat) (Option.some Jvm.ClassFile.FieldType.int), Jvm.Cond.code ({ cls := "java/lang/Math", name := "max", desc := "(II)I" } : Jvm.MethodName) jdk_29_method_65_code (2 : Nat) (Option.some Jvm.ClassFile.FieldType.int), Jvm.Cond.code ({ cls := "java/util/Arrays", name := "copyOf", desc := "([BI)[B" } : Jvm.MethodName) jdk_65_method_121_code (3 : Nat) (Option.some (Jvm.ClassFile.FieldType.array Jvm.ClassFile.FieldType.byte))]
set_option maxRecDepth 65536 in
theorem codes_eq : words1.filter isCode = codes1 := rfl
theorem w_codes : ∀ c ∈ words1.filter isCode, c.before args0 about1 = true := by
  rw [codes_eq]
  intro c hc
  simp only [codes1, List.mem_cons, List.not_mem_nil, or_false] at hc
  rcases hc with rfl | rfl | rfl | rfl | rfl | rfl | rfl | rfl | rfl | rfl | rfl | rfl | rfl | rfl | rfl | rfl | rfl | rfl | rfl | rfl | rfl | rfl | rfl | rfl | rfl | rfl | rfl | rfl | rfl | rfl | rfl | rfl | rfl | rfl | rfl | rfl | rfl | rfl | rfl | rfl | rfl | rfl | rfl | rfl | rfl | rfl | rfl
  · exact w_c0
  · exact w_c1
  · exact w_c2
  · exact w_c3
  · exact w_c4
  · exact w_c5
  · exact w_c6
  · exact w_c7
  · exact w_c8
  · exact w_c9
  · exact w_c10
  · exact w_c11
  · exact w_c12
  · exact w_c13
  · exact w_c14
  · exact w_c15
  · exact w_c16
  · exact w_c17
  · exact w_c18
  · exact w_c19
  · exact w_c20
  · exact w_c21
  · exact w_c22
  · exact w_c23
  · exact w_c24
  · exact w_c25
  · exact w_c26
  · exact w_c27
  · exact w_c28
  · exact w_c29
  · exact w_c30
  · exact w_c31
  · exact w_c32
  · exact w_c33
  · exact w_c34
  · exact w_c35
  · exact w_c36
  · exact w_c37
  · exact w_c38
  · exact w_c39
  · exact w_c40
  · exact w_c41
  · exact w_c42
  · exact w_c43
  · exact w_c44
  · exact w_c45
  · exact w_c46
set_option maxRecDepth 65536 in
theorem w_t1 : (words1.take 24).all (fun c => isCode c || c.before args0 about1) = true := by decide +kernel
set_option maxRecDepth 65536 in
theorem w_t2 : ((words1.drop 24).take 24).all (fun c => isCode c || c.before args0 about1) = true := by decide +kernel
set_option maxRecDepth 65536 in
theorem w_t3 : (((words1.drop 24).drop 24).take 24).all (fun c => isCode c || c.before args0 about1) = true := by decide +kernel
set_option maxRecDepth 65536 in
theorem w_t4 : ((((words1.drop 24).drop 24).drop 24).take 24).all (fun c => isCode c || c.before args0 about1) = true := by decide +kernel
set_option maxRecDepth 65536 in
theorem w_t5 : (((((words1.drop 24).drop 24).drop 24).drop 24).take 24).all (fun c => isCode c || c.before args0 about1) = true := by decide +kernel
set_option maxRecDepth 65536 in
theorem w_t6 : ((((((words1.drop 24).drop 24).drop 24).drop 24).drop 24).take 24).all (fun c => isCode c || c.before args0 about1) = true := by decide +kernel
set_option maxRecDepth 65536 in
theorem w_t7 : (((((((words1.drop 24).drop 24).drop 24).drop 24).drop 24).drop 24).take 24).all (fun c => isCode c || c.before args0 about1) = true := by decide +kernel
set_option maxRecDepth 65536 in
theorem w_t8 : ((((((((words1.drop 24).drop 24).drop 24).drop 24).drop 24).drop 24).drop 24).take 24).all (fun c => isCode c || c.before args0 about1) = true := by decide +kernel
set_option maxRecDepth 65536 in
theorem w_t9 : (((((((((words1.drop 24).drop 24).drop 24).drop 24).drop 24).drop 24).drop 24).drop 24).take 24).all (fun c => isCode c || c.before args0 about1) = true := by decide +kernel
set_option maxRecDepth 65536 in
theorem w_t10 : ((((((((((words1.drop 24).drop 24).drop 24).drop 24).drop 24).drop 24).drop 24).drop 24).drop 24).take 24).all (fun c => isCode c || c.before args0 about1) = true := by decide +kernel
set_option maxRecDepth 65536 in
theorem w_t11 : ((((((((((words1.drop 24).drop 24).drop 24).drop 24).drop 24).drop 24).drop 24).drop 24).drop 24).drop 24).all (fun c => isCode c || c.before args0 about1) = true := by decide +kernel
theorem w_tables : (allAtoms (Jvm.Cond.code x code maxLocals ret :: tables_1)).before args0 about1 = true := by
  rw [allAtoms_all]
  show words1.all (fun c => c.before args0 about1) = true
  refine all_split ?_ w_codes
  rw [← List.take_append_drop 24 words1, List.all_append, w_t1, ← List.take_append_drop 24 (words1.drop 24), List.all_append, w_t2, ← List.take_append_drop 24 ((words1.drop 24).drop 24), List.all_append, w_t3, ← List.take_append_drop 24 (((words1.drop 24).drop 24).drop 24), List.all_append, w_t4, ← List.take_append_drop 24 ((((words1.drop 24).drop 24).drop 24).drop 24), List.all_append, w_t5, ← List.take_append_drop 24 (((((words1.drop 24).drop 24).drop 24).drop 24).drop 24), List.all_append, w_t6, ← List.take_append_drop 24 ((((((words1.drop 24).drop 24).drop 24).drop 24).drop 24).drop 24), List.all_append, w_t7, ← List.take_append_drop 24 (((((((words1.drop 24).drop 24).drop 24).drop 24).drop 24).drop 24).drop 24), List.all_append, w_t8, ← List.take_append_drop 24 ((((((((words1.drop 24).drop 24).drop 24).drop 24).drop 24).drop 24).drop 24).drop 24), List.all_append, w_t9, ← List.take_append_drop 24 (((((((((words1.drop 24).drop 24).drop 24).drop 24).drop 24).drop 24).drop 24).drop 24).drop 24), List.all_append, w_t10, w_t11]
  rfl
set_option maxRecDepth 65536 in
theorem w_rest : rest_1_c.before args0 about1 = true := by decide +kernel
set_option maxRecDepth 65536 in
theorem w_case : (Jvm.Cond.and given_1 narrow_1).before args0 about1 = true := by decide +kernel
set_option maxRecDepth 65536 in
theorem w_consts : constsHeld consts_1 about1 := Jvm.Lit.constsHeldB_iff.mp (by decide +kernel)
theorem w_applies : (headSpec (Jvm.Cond.code x code maxLocals ret :: tables_1) room_1).applies x e0.platform about1 = true :=
  (Spec.applies_iff w_frames).mpr ⟨w_running, w_runnable, w_alone, w_named, w_hears, w_ripe, w_room, w_tables⟩
theorem atStart : AtStart classFile x code maxLocals ret World_1 tables_1 room_1 Calls_1 rest_1 Pre_1 launch0 p0 e0 about1 theMethod args0 below0 :=
  ⟨lists_1, trivial, launch0.admits_env _ _ _, launch0.least_env, fairChoices_fair.cas, fairChoices_fair.clock, w_frames, w_args, w_heap, w_applies, ⟨w_consts, trivial⟩, w_rest, w_case⟩
end start1
theorem witness_1 : WitnessClaimed_1 := ⟨start1.p0, start1.e0, start1.about1, start1.theMethod, start1.args0, start1.below0, start1.atStart⟩
end Jvm.Pilot.@@N@@
