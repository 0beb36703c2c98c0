import JvmDerived
import JvmDerived.Pilot.@@N@@Statement
import JvmDerived.Pilot.@@N@@Code
set_option linter.unusedVariables false
set_option linter.unusedSimpArgs false
namespace Jvm.RoadKit
open Sem ClassFile Op Lib Jvm.Stand Jvm.Free Jvm.LawKit
section New
variable {p : Program} {l : Launch} {e : Env} {R : Room} {s : State} {m : MethodId} {args : Array Value} {below : List Frame} {meth : Method} {c : Code} {T : State} {locs : List Loc} {cells slots : Nat}
theorem retI (X : Stand p l e R s m args below meth c T locs cells slots) (hx : p.tables.exec = Jvm.exec) {pc : Nat} {Ls : Array Slot} {z : Int32} {rest : List Value} (hret : meth.sig.returnType = some .int) (hd : decode c.code pc = .ok (.ireturn, 1)) {fs : List Frame}
    (hl : ∀ (f : JFrame) (acts : List Action), f.method = m → f.locked = none → f.entered = [] → (doReturn e (T.setTop f) acts (some (.int z))).1 = T.setFrames fs) : Steps p.tables e below (T.setTop (mkF m pc Ls (.int z :: rest))) (T.setFrames fs) := by
  have hm' : T.vm.method? m = some meth := X.method'
  have hn : narrow .int (.int z) = .int z := rfl
  show Steps p.tables e below (T.setTop { method := m, pc := pc, locals := Ls, stack := _ :: rest, locked := none }) _
  jvm_step X.here [X.here.top, hx, hd, hm', hret, hn]
  first | (intro acts; rw [hl _ acts rfl rfl rfl]) | rw [hl _ _ rfl rfl rfl]
  exact Steps.refl _
end New
end Jvm.RoadKit
namespace Jvm.Pilot.@@N@@
open Jvm Jvm.ClassFile Sem Op Lib Jvm.Free Jvm.Stand Jvm.LawKit Jvm.RoadKit Bundle Jvm.Pilot.@@N@@.Jvm.D
theorem own_eqI {t : Term} {n : Int32} {args : Array Value} {s : State} (h : (Jvm.Cond.eq t (.int n)).value args s none s [] = some true) : t.eval args s none [] s = some (.int n) := by
  simp only [Cond.value, Term.eval] at h
  cases ht : t.eval args s none [] s with
  | none => simp [ht] at h
  | some x => cases x <;> simp [ht] at h ⊢; exact h
theorem own_eqJ {t : Term} {n : Int64} {args : Array Value} {s : State} (h : (Jvm.Cond.eq t (.long n)).value args s none s [] = some true) : t.eval args s none [] s = some (.long n) := by
  simp only [Cond.value, Term.eval] at h
  cases ht : t.eval args s none [] s with
  | none => simp [ht] at h
  | some x => cases x <;> simp [ht] at h ⊢; exact h
theorem own_eqR {t u : Term} {a : Addr} {args : Array Value} {s : State} (h : (Jvm.Cond.eq t u).value args s none s [] = some true) (hu : u.eval args s none [] s = some (.ref a)) : t.eval args s none [] s = some (.ref a) := by
  simp only [Cond.value, hu] at h
  cases ht : t.eval args s none [] s with
  | none => simp [ht] at h
  | some x => cases x <;> simp [ht] at h ⊢; exact h
theorem own_len {t : Term} {w : Addr} {c : Cell} {ty : FieldType} {n : Int32} {args : Array Value} {s : State} (ev : t.eval args s none [] s = some (.ref w)) (A : Arr s s.heap w c ty) (h : (Term.length t).eval args s none [] s = some (.int n)) (hn : ¬ n < 0) : c.slots.size = n.toNatClampNeg := by
  simp only [Term.eval, ev, A.fin (Vm.Alike.refl _), Option.bind_eq_bind, Option.bind_some] at h
  split at h
  · rename_i hl
    have q : c.slots.size.toInt32 = n := by simpa using h
    rw [← q]
    have q2 : c.slots.size.toInt32.toInt = (c.slots.size : Int) := len_toInt hl
    have q3 := nat_of (j := c.slots.size.toInt32) (by rw [q]; exact hn)
    omega
  · simp at h
theorem own_extW {Z : State} {h h' : Heap} {a : Addr} {sl : Nat} {v : Value} (X : Ext Z.heap h) (W : Wr h h' a sl v) (q : Z.heap.size ≤ a) : Ext Z.heap h' := (Old.wr (Z := Z) ⟨rfl, X⟩ W q).2
theorem own_ext2 {h h' h'' : Heap} (X : Ext h h') (E : Ext h' h'') : Ext h h'' := ⟨Nat.le_trans X.1 E.1, fun x c q => E.2 x c (X.2 x c q)⟩
theorem own_extK {Z : State} {h h' : Heap} {ws : List Addr} (X : Ext Z.heap h) (K : Keep h h' ws) (q : ∀ x ∈ ws, Z.heap.size ≤ x) : Ext Z.heap h' := (Old.keep (Z := Z) ⟨rfl, X⟩ K q).2
theorem own_neI {t : Term} {n x : Int32} {args : Array Value} {s : State} (h : (Jvm.Cond.eq t (.int n)).value args s none s [] = some (!true)) (ev : t.eval args s none [] s = some (.int x)) : ¬ (x = n) := by
  intro q
  subst q
  simp [Cond.value, Term.eval, ev] at h
theorem own_nsRoot {Z : State} {a0 : Array Value} {O K : String} {n : Nat} (w : (Jvm.Cond.noSuperclass O).before a0 Z = true) (wk : (Jvm.Cond.instantiable K n).before a0 Z = true) (hn : O ≠ K) : NS Z O K := by
  obtain ⟨c, k, h1, h2, h3, -, -⟩ := Cond.noSuperclass_spec w
  obtain ⟨t, k', g1, -⟩ := Cond.instantiable_spec wk
  have ne := ids_ne h1 g1 hn
  refine ⟨c, t, h1, g1, fun fuel => ?_⟩
  cases fuel with
  | zero => rfl
  | succ f => simp [Vm.isSubclassAux, ne, h2, h3]
theorem own_nsNo {Z : State} {a0 : Array Value} {C S K : String} {n : Nat} (w : (Jvm.Cond.superclass C S).before a0 Z = true) (wk : (Jvm.Cond.instantiable K n).before a0 Z = true) (N : NS Z C K) (hn : C ≠ K) : ∃ c t, Z.vm.findClass C = some c ∧ Z.vm.findClass K = some t ∧ Z.vm.assignable c t = false := by
  obtain ⟨c, t, h0, g0, n3⟩ := N
  obtain ⟨p, k, kp, h1, h2, h3, h4, h5, -, h7⟩ := Cond.superclass_spec h0 w
  obtain ⟨q, k', g1, g2, g5, g7, -, -⟩ := Cond.instantiable_spec wk
  cases g0.symm.trans g1
  have ne := ids_ne h0 g0 hn
  have gi : k'.isInterface = false := by cases hi : k'.isInterface <;> simp [hi] at g7 ⊢
  refine ⟨c, t, h0, g0, ?_⟩
  show Z.vm.assignableAux (255 + 1) c t = false
  simp [Vm.assignableAux, ne, h2, g2, h5, g5, gi, Vm.isSubclass, n3]
theorem own_nb (x : Int32) : nar .byte (x.toInt8.toInt32) = x.toInt8.toInt32 := by simp [nar]
abbrev own_S (p : Program) (e : Env) (below : List Frame) (T : State) (g : JFrame) (t : State) : Prop := Steps p.tables e below (T.setTop g) t
theorem own_w {Z : State} {a0 : Array Value} (hw : ∀ d ∈ tables_1, d.before a0 Z = true) {d : Jvm.Cond} (i : Nat) (h : tables_1[i]? = some d) : d.before a0 Z = true := hw _ (List.mem_of_getElem? h)
/-- a body's contract: what it returns and leaves -/
abbrev own_met (l : Launch) (y : MethodName) (b : ByteArray) (ml : Nat) (rt : Option FieldType) (ws : List Jvm.Cond) (R : Room) (Z : State) (A : Array Value) (h0 : Heap) (Q : Option Value → Heap → List Loc → Prop) : Prop :=
  MetFree l y (head1 (Jvm.Cond.code y b ml rt :: ws) R) (fun a U => a = A ∧ Z.Warmed39 U.vm ∧ U.heap = h0) (fun _ _ _ _ _ => True) (fun _ U o U' => ∃ v L, o = .returned v ∧ Q v U'.heap L ∧ FrameEnd U o U' L R.cells R.slots)
theorem own_start {l : Launch} {y : MethodName} {b : ByteArray} {ml : Nat} {rt : Option FieldType} {ws : List Jvm.Cond} {R : Room} {Z : State} {A : Array Value} {h0 : Heap} {Q : Option Value → Heap → List Loc → Prop} {Ls : Array Slot}
    (hpl : plainFor y = true) (hef : ∀ m, entryFrame m A ml = mkF m 0 Ls [])
    (body : ∀ p e s m below meth c s₁, p.tables.exec = Jvm.exec → c.code = b → c.maxLocals = ml → s.vm.findClass y.cls = some m.cls → meth.name = y.name → Stand p l e R s m A below meth c s₁ [] 0 0 → Z.Warmed39 s.vm → s₁.heap = h0 → meth.sig.returnType = rt → meth.locks = false →
      ∃ s₂ o, Steps p.tables e below (s₁.setTop (mkF m 0 Ls [])) s₂ ∧ s₂.status = .running ∧ Ended s₂ below o ∧ ∃ v L, o = .returned v ∧ Q v s₂.heap L ∧ FrameEnd s o s₂ L R.cells R.slots) : own_met l y b ml rt ws R Z A h0 Q := by
  refine MetFree.of_bodySF hpl hisR ?_
  intro p e s m args below meth c s₁ Bd hml0 hP hK
  obtain ⟨rfl, hZ, hh⟩ := hP
  obtain ⟨s₂, o, k, r⟩ := body p e s m below meth c s₁ Bd.exec Bd.bytes hml0 (findClass_of_methodNamed Bd.named) (name_of_methodNamed Bd.named Bd.method).1 (Stand.of_body Bd) hZ (by rw [← hh, Bd.state]; rfl) Bd.returns Bd.notSynchronized
  exact ⟨s₂, o, castTop (hef m) k, r⟩
section OwnCalls
variable {p : Program} {l : Launch} {e : Env} {R : Room} {s : State} {m : MethodId} {args : Array Value} {below : List Frame} {meth : Method} {c : Code} {T : State} {locs : List Loc} {cells slots : Nat} {Z : State} {a0 : Array Value} {h : Heap} {own : String} {index : Nat} {y z : MethodName} {b : ByteArray} {ml : Nat} {rt : Option FieldType} {rm : Room} {as' : Array Value} {Q : Option Value → Heap → List Loc → Prop} {W : Nat} {g : JFrame} {argsL rest : List Value}
theorem own_static (X : Stand p l e R s m args below meth c T locs cells slots) (hx : p.tables.exec = Jvm.exec) (hZ : Z.Warmed39 s.vm) (hown : s.vm.findClass own = some m.cls) (w1 : (Jvm.Cond.methodLink own index y).before a0 Z = true) (w2 : (Jvm.Cond.static y).before a0 Z = true) (w3 : (Jvm.Cond.initialized y.cls).before a0 Z = true) (w4 : (Jvm.Cond.code y b ml rt).before a0 Z = true)
    (hy : y.cls ≠ "java/lang/invoke/MethodHandle" ∧ y.cls ≠ "java/lang/invoke/VarHandle") (hM : own_met l y b ml rt [] rm Z as' h Q) (hf : rm.frames + 1 ≤ R.frames) (hl : W + (ml + 11) + rm.locals ≤ R.locals) (eT : T.heap = h) (hg : g.method = m) (hsize : g.locals.size = c.maxLocals) (hlen : ∀ sig, parseMethodDescriptor y.desc = some sig → argsL.length = sig.parameters.length) (ha : argsL.toArray = as')
    (hs : g.stack = argsL.reverse ++ rest) (hW : 2 * g.monitorRoom + (rest.map fun v => v.category).sum ≤ W) (hd : decode c.code g.pc = .ok (.invokestatic index, 3)) (hc : cells + rm.cells ≤ R.cells) (hsl : slots + rm.slots ≤ R.slots) :
    ∃ v T' L, Stand p l e R s m args below meth c T' (locs ++ L) (cells + rm.cells) (slots + rm.slots) ∧ Q v T'.heap L ∧ ∀ target, Steps p.tables e below (T'.setTop { g with pc := g.pc + 3, stack := v.toList ++ rest }) target → Steps p.tables e below (T.setTop g) target := by
  obtain ⟨v, _, ⟨T', L', k', n'⟩, -, X', ⟨Lc, hQ, l1, y1, z1⟩, st⟩ := Jvm.LawKit.callS X hx (y := y) hown (mvT hZ w1) (mvT hZ w2) (mvT hZ w3) (mvT hZ w4) hy (backOf (W := W) hM hZ w4 w3 hf hl) (g := g) hg hsize (argsL := argsL) (rest := rest) hlen hs hW hd (fun _ _ => ⟨ha, eT, hc, hsl⟩)
  dsimp only [Pt.U, Pt.locs, Pt.cells, Pt.slots] at X' l1 y1 z1 st hQ
  subst l1 y1 z1
  exact ⟨v, T', Lc, X', hQ, st⟩
theorem own_special (X : Stand p l e R s m args below meth c T locs cells slots) (hx : p.tables.exec = Jvm.exec) (hZ : Z.Warmed39 s.vm) (hown : s.vm.findClass own = some m.cls) (hn : y.name = "<init>") (w1 : (Jvm.Cond.methodLink own index y).before a0 Z = true) (w2 : (Jvm.Cond.instanceMethod y).before a0 Z = true) (w3 : (Jvm.Cond.initialized y.cls).before a0 Z = true) (w4 : (Jvm.Cond.code y b ml none).before a0 Z = true)
    (hy : y.cls ≠ "java/lang/invoke/MethodHandle" ∧ y.cls ≠ "java/lang/invoke/VarHandle") (hM : own_met l y b ml none [] rm Z as' h Q) (hf : rm.frames + 1 ≤ R.frames) (hl : W + (ml + 11) + rm.locals ≤ R.locals) (eT : T.heap = h) (hg : g.method = m) (hsize : g.locals.size = c.maxLocals) (a : Addr) (hlen : ∀ sig, parseMethodDescriptor y.desc = some sig → argsL.length = sig.parameters.length) (ha : (Value.ref a :: argsL).toArray = as')
    (hs : g.stack = argsL.reverse ++ .ref a :: rest) (hW : 2 * g.monitorRoom + (rest.map fun v => v.category).sum ≤ W) (hd : decode c.code g.pc = .ok (.invokespecial index, 3)) (hc : cells + rm.cells ≤ R.cells) (hsl : slots + rm.slots ≤ R.slots) :
    ∃ v T' L, Stand p l e R s m args below meth c T' (locs ++ L) (cells + rm.cells) (slots + rm.slots) ∧ Q v T'.heap L ∧ ∀ target, Steps p.tables e below (T'.setTop { g with pc := g.pc + 3, stack := v.toList ++ rest }) target → Steps p.tables e below (T.setTop g) target := by
  obtain ⟨v, _, ⟨T', L', k', n'⟩, -, X', ⟨Lc, hQ, l1, y1, z1⟩, st⟩ := X.specialBack hx (y := y) hn hown (mvT hZ w1) (mvT hZ w2) (mvT hZ w4) hy (backOf (W := W) hM hZ w4 w3 hf hl) (g := g) hg hsize (Steps.refl _) (a := a) (argsL := argsL) (rest := rest) hlen hs hW hd (fun _ _ => ⟨ha, eT, hc, hsl⟩)
  dsimp only [Pt.U, Pt.locs, Pt.cells, Pt.slots] at X' l1 y1 z1 st hQ
  subst l1 y1 z1
  exact ⟨v, T', Lc, X', hQ, fun _ k => st.trans k⟩
theorem own_virtual (X : Stand p l e R s m args below meth c T locs cells slots) (hx : p.tables.exec = Jvm.exec) (hZ : Z.Warmed39 s.vm) (hown : s.vm.findClass own = some m.cls) {C : String} (w1 : (Jvm.Cond.methodLink own index y).before a0 Z = true) (w5 : (Jvm.Cond.declares y).before a0 Z = true) (w6 : (Jvm.Cond.selects C y y).before a0 Z = true) (w2 : (Jvm.Cond.instanceMethod y).before a0 Z = true) (w3 : (Jvm.Cond.initialized y.cls).before a0 Z = true) (w4 : (Jvm.Cond.code y b ml rt).before a0 Z = true)
    (hy : y.cls ≠ "java/lang/invoke/MethodHandle" ∧ y.cls ≠ "java/lang/invoke/VarHandle") (hM : own_met l y b ml rt [] rm Z as' h Q) (hf : rm.frames + 1 ≤ R.frames) (hl : W + (ml + 11) + rm.locals ≤ R.locals) (eT : T.heap = h) {a : Addr} (E : Exa Z h a C) (hg : g.method = m) (hsize : g.locals.size = c.maxLocals) (hlen : ∀ sig, parseMethodDescriptor y.desc = some sig → argsL.length = sig.parameters.length) (ha : (Value.ref a :: argsL).toArray = as')
    (hs : g.stack = argsL.reverse ++ .ref a :: rest) (hW : 2 * g.monitorRoom + (rest.map fun v => v.category).sum ≤ W) (hd : decode c.code g.pc = .ok (.invokevirtual index, 3)) (hc : cells + rm.cells ≤ R.cells) (hsl : slots + rm.slots ≤ R.slots) :
    ∃ v T' L, Stand p l e R s m args below meth c T' (locs ++ L) (cells + rm.cells) (slots + rm.slots) ∧ Q v T'.heap L ∧ ∀ target, Steps p.tables e below (T'.setTop { g with pc := g.pc + 3, stack := v.toList ++ rest }) target → Steps p.tables e below (T.setTop g) target := by
  obtain ⟨cq, kq, qa, qb, qc⟩ := isOf hZ eT E
  obtain ⟨v, _, ⟨T', L', k', n'⟩, -, X', ⟨Lc, hQ, l1, y1, z1⟩, st⟩ := X.virtualBack hx (y := y) (z := y) hown (mvT hZ w1) (mvT hZ w5) (notFace_of_selects (args := #[]) (mvT hZ w6)) (mvT hZ w6) (mvT hZ w2) hy (backOf (W := W) hM hZ w4 w3 hf hl) qa qc (g := g) hg hsize (Steps.refl _) (argsL := argsL) (rest := rest) hlen hs hW hd (fun _ _ => ⟨ha, eT, hc, hsl⟩)
  dsimp only [Pt.U, Pt.locs, Pt.cells, Pt.slots] at X' l1 y1 z1 st hQ
  subst l1 y1 z1
  exact ⟨v, T', Lc, X', hQ, fun _ k => st.trans k⟩
theorem own_virtualUp (X : Stand p l e R s m args below meth c T locs cells slots) (hx : p.tables.exec = Jvm.exec) (hZ : Z.Warmed39 s.vm) (hown : s.vm.findClass own = some m.cls) {C owner : String} (w1 : (Jvm.Cond.methodLink own index z).before a0 Z = true) (w7 : (Jvm.Cond.sameMethod z.cls owner z.name z.desc).before a0 Z = true) (w5 : (Jvm.Cond.declares ⟨owner, z.name, z.desc⟩).before a0 Z = true) (w6 : (Jvm.Cond.selects C z y).before a0 Z = true) (w2 : (Jvm.Cond.instanceMethod y).before a0 Z = true) (w3 : (Jvm.Cond.initialized y.cls).before a0 Z = true) (w4 : (Jvm.Cond.code y b ml rt).before a0 Z = true)
    (hy : owner ≠ "java/lang/invoke/MethodHandle" ∧ owner ≠ "java/lang/invoke/VarHandle") (hM : own_met l y b ml rt [] rm Z as' h Q) (hf : rm.frames + 1 ≤ R.frames) (hl : W + (ml + 11) + rm.locals ≤ R.locals) (eT : T.heap = h) {a : Addr} (E : Exa Z h a C) (hg : g.method = m) (hsize : g.locals.size = c.maxLocals) (hlen : ∀ sig, parseMethodDescriptor z.desc = some sig → argsL.length = sig.parameters.length) (ha : (Value.ref a :: argsL).toArray = as')
    (hs : g.stack = argsL.reverse ++ .ref a :: rest) (hW : 2 * g.monitorRoom + (rest.map fun v => v.category).sum ≤ W) (hd : decode c.code g.pc = .ok (.invokevirtual index, 3)) (hc : cells + rm.cells ≤ R.cells) (hsl : slots + rm.slots ≤ R.slots) :
    ∃ v T' L, Stand p l e R s m args below meth c T' (locs ++ L) (cells + rm.cells) (slots + rm.slots) ∧ Q v T'.heap L ∧ ∀ target, Steps p.tables e below (T'.setTop { g with pc := g.pc + 3, stack := v.toList ++ rest }) target → Steps p.tables e below (T.setTop g) target := by
  obtain ⟨cq, kq, qa, qb, qc⟩ := isOf hZ eT E
  obtain ⟨v, _, ⟨T', L', k', n'⟩, -, X', ⟨Lc, hQ, l1, y1, z1⟩, st⟩ := X.virtualBackUp hx (x := z) (y := y) (owner := owner) hown (mvT hZ w1) (mvT hZ w7) (mvT hZ w5) hy (mvT hZ w6) (mvT hZ w2) (backOf (W := W) hM hZ w4 w3 hf hl) qa qc (g := g) hg hsize (Steps.refl _) (argsL := argsL) (rest := rest) hlen hs hW hd (fun _ _ => ⟨ha, eT, hc, hsl⟩)
  dsimp only [Pt.U, Pt.locs, Pt.cells, Pt.slots] at X' l1 y1 z1 st hQ
  subst l1 y1 z1
  exact ⟨v, T', Lc, X', hQ, fun _ k => st.trans k⟩
end OwnCalls

theorem own_split (p1 : Int32) : (p1 &&& (1 : Int32)) = (0 : Int32) ∨ (p1 &&& (1 : Int32)) = (1 : Int32) := by
  have h := c_mask p1 (1 : Int32) 1 (by decide) (by decide)
  have hk : ((2 ^ 1 : Nat) : Int) = 2 := by decide
  rw [hk] at h
  have q : ((p1 &&& (1 : Int32))).toInt = 0 ∨ ((p1 &&& (1 : Int32))).toInt = 1 := by omega
  rcases q with q | q
  · exact Or.inl (Int32.toInt_inj.mp (q.trans (by decide)))
  · exact Or.inr ((Int32.toInt_inj.mp (q.trans (by decide))))
theorem pn_0 : plainName "com/example/slackline/slackline/deque/Anchor$Change" = true := by first | (simp [plainName, overriddenIn]; done) | decide +kernel
theorem pn_1 : plainName "com/example/slackline/slackline/deque/ChangePoppedPinLaw" = true := by first | (simp [plainName, overriddenIn]; done) | decide +kernel
theorem pd_0 : parseMethodDescriptor "(Lcom/example/slackline/slackline/deque/End;)Lcom/example/slackline/slackline/deque/Anchor$Change;" = some ⟨[(.object "com/example/slackline/slackline/deque/End")], some (.object "com/example/slackline/slackline/deque/Anchor$Change")⟩ := by decide +kernel
theorem pd_1 : parseMethodDescriptor "()Lcom/example/slackline/slackline/deque/End;" = some ⟨[], some (.object "com/example/slackline/slackline/deque/End")⟩ := by decide +kernel
abbrev y_0 : MethodName := ⟨"com/example/slackline/slackline/deque/Anchor$Change", "popped", "(Lcom/example/slackline/slackline/deque/End;)Lcom/example/slackline/slackline/deque/Anchor$Change;"⟩
abbrev y_1 : MethodName := ⟨"com/example/slackline/slackline/deque/Anchor$Change", "end", "()Lcom/example/slackline/slackline/deque/End;"⟩
theorem d_prog_2_method_4_0 : decode prog_2_method_4_code 0 = .ok (.aload_n 0, 1) := by decide +kernel
theorem d_prog_2_method_4_1 : decode prog_2_method_4_code 1 = .ok (.getstatic 42, 3) := by decide +kernel
theorem d_prog_2_method_4_4 : decode prog_2_method_4_code 4 = .ok (.if_acmp .ne 9, 3) := by decide +kernel
theorem d_prog_2_method_4_7 : decode prog_2_method_4_code 7 = .ok (.getstatic 10, 3) := by decide +kernel
theorem d_prog_2_method_4_10 : decode prog_2_method_4_code 10 = .ok (.goto 6, 3) := by decide +kernel
theorem d_prog_2_method_4_16 : decode prog_2_method_4_code 16 = .ok (.areturn, 1) := by decide +kernel
theorem d_prog_2_method_5_0 : decode prog_2_method_5_code 0 = .ok (.aload_n 0, 1) := by decide +kernel
theorem d_prog_2_method_5_1 : decode prog_2_method_5_code 1 = .ok (.getfield 38, 3) := by decide +kernel
theorem d_prog_2_method_5_4 : decode prog_2_method_5_code 4 = .ok (.areturn, 1) := by decide +kernel
theorem d_prog_2_method_4_13 : decode prog_2_method_4_code 13 = .ok (.getstatic 13, 3) := by decide +kernel
theorem ef_prog_2_method_4_R (m : MethodId) (x0 : Addr) : entryFrame m #[(.ref x0)] 1 = mkF m 0 #[.val (.ref x0)] [] := by first | (simp [entryFrame, mkF, argsToLocals, Value.category]; done) | rfl
theorem ef_prog_2_method_5_R (m : MethodId) (x0 : Addr) : entryFrame m #[(.ref x0)] 1 = mkF m 0 #[.val (.ref x0)] [] := by first | (simp [entryFrame, mkF, argsToLocals, Value.category]; done) | rfl
theorem ef_code_I (m : MethodId) (x0 : Int32) : entryFrame m #[(.int x0)] maxLocals = mkF m 0 #[.val (.int x0), .unset, .unset, .unset] [] := by first | (simp [entryFrame, mkF, argsToLocals, Value.category, maxLocals]; done) | rfl
def Qrm2 (Z : State) (w_FRONT : Addr) (w_POPPED_FRONT : Addr) (h0 : Heap) (v : Option Value) (h : Heap) (L : List Loc) : Prop := v = some (.ref w_POPPED_FRONT) ∧ Fr Z.heap.size L ∧ h = h0
set_option maxRecDepth 65536 in
set_option maxHeartbeats 40000000 in
theorem rm2 (l : Launch) (Z : State) (a0 : Array Value) (hw : ∀ d ∈ tables_1, d.before a0 Z = true) (ws : List Jvm.Cond) (w_FRONT : Addr) (w_POPPED_FRONT : Addr) (h0 : Heap) (Z0 : Ext Z.heap h0) (S_w_FRONT : Sta Z Z.heap "com/example/slackline/slackline/deque/End" "FRONT" "Lcom/example/slackline/slackline/deque/End;" (.ref w_FRONT)) (S_w_POPPED_FRONT : Sta Z Z.heap "com/example/slackline/slackline/deque/Anchor$Change" "POPPED_FRONT" "Lcom/example/slackline/slackline/deque/Anchor$Change;" (.ref w_POPPED_FRONT)) :
    own_met l y_0 prog_2_method_4_code 1 (some (.object "com/example/slackline/slackline/deque/Anchor$Change")) ws ({ frames := 0, cells := 0, slots := 0, locals := 0 } : Room) Z #[(.ref w_FRONT)] h0 (Qrm2 Z w_FRONT w_POPPED_FRONT h0) := by
  refine own_start (plainFor_of_name pn_0) (fun m => ef_prog_2_method_4_R m w_FRONT) ?_
  intro p e s m below meth c s₁ hx hby hml hown hnm X0 hZ e0 hret hlk
  have N0 := Fr.nil Z.heap.size
  obtain ⟨T3, X3, e3, st3⟩ := getS2 X0 hx hZ hown (host := "") (Or.inl (own_w hw 7 rfl)) Via.refl e0 (S_w_FRONT.ext Z0) (g := (mkF m 1 #[.val (.ref w_FRONT)] [(.ref w_FRONT)])) rfl (hb hby d_prog_2_method_4_1)
  obtain ⟨T4, X4, e4, st4⟩ := getS2 X3 hx hZ hown (host := "") (Or.inl (own_w hw 8 rfl)) Via.refl e3 (S_w_POPPED_FRONT.ext Z0) (g := (mkF m 7 #[.val (.ref w_FRONT)] [])) rfl (hb hby d_prog_2_method_4_7)
  obtain ⟨fs, hr, hrun, hended, hW, hsame⟩ := X4.leave (v := some (.ref w_POPPED_FRONT)) (fun h => by rw [hret] at h; cases h) hlk
  refine ⟨_, _, ?_, hrun, hended, _, _, rfl, ?_, ⟨_, rfl⟩, hW, hsame.mono (by decide) (by decide)⟩
  · show own_S p e below s₁ (mkF m 0 #[.val (.ref w_FRONT)] []) _
    refine XS.aloadN X0.here hx rfl (hb hby d_prog_2_method_4_0) rfl rfl ?_
    show own_S p e below s₁ (mkF m 1 #[.val (.ref w_FRONT)] [(.ref w_FRONT)]) _
    refine st3 _ ?_
    show own_S p e below T3 (mkF m 4 #[.val (.ref w_FRONT)] [(.ref w_FRONT), (.ref w_FRONT)]) _
    refine Jvm.RoadKit.acmp (g := (mkF m 4 #[.val (.ref w_FRONT)] [(.ref w_FRONT), (.ref w_FRONT)])) X3 hx rfl rfl rfl (pc0 := 4) (pc' := 7) (same := true) rfl (hb hby d_prog_2_method_4_4) rfl (decide_eq_true rfl) (by decide) (by decide) ?_
    show own_S p e below T3 (mkF m 7 #[.val (.ref w_FRONT)] []) _
    refine st4 _ ?_
    show own_S p e below T4 (mkF m 10 #[.val (.ref w_FRONT)] [(.ref w_POPPED_FRONT)]) _
    refine XS.goto X4.here hx rfl (pc0 := 10) (pc' := 16) rfl (hb hby d_prog_2_method_4_10) (by decide) (by decide) ?_
    show own_S p e below T4 (mkF m 16 #[.val (.ref w_FRONT)] [(.ref w_POPPED_FRONT)]) _
    jvm_step X4.here [X4.here.top, hx, (hb hby d_prog_2_method_4_16), X4.method', hret, Value.isRef, FieldType.isReference]
    first | (intro acts; rw [hr _ acts rfl rfl rfl]) | rw [hr _ _ rfl rfl rfl]
    exact Steps.refl _
  · show Qrm2 Z w_FRONT w_POPPED_FRONT h0 _ T4.heap _
    rw [e4]
    exact ⟨rfl, N0, rfl⟩
def Qrm7 (Z : State) (w_FRONT : Addr) (w_POPPED_FRONT : Addr) (h0 : Heap) (v : Option Value) (h : Heap) (L : List Loc) : Prop := v = some (.ref w_FRONT) ∧ Fr Z.heap.size L ∧ h = h0
set_option maxRecDepth 65536 in
set_option maxHeartbeats 40000000 in
theorem rm7 (l : Launch) (Z : State) (a0 : Array Value) (hw : ∀ d ∈ tables_1, d.before a0 Z = true) (ws : List Jvm.Cond) (w_FRONT : Addr) (w_POPPED_FRONT : Addr) (h0 : Heap) (Z0 : Ext Z.heap h0) (F_w_POPPED_FRONT_mEnd : Fld Z Z.heap w_POPPED_FRONT "com/example/slackline/slackline/deque/Anchor$Change" "mEnd" "Lcom/example/slackline/slackline/deque/End;" (.ref w_FRONT)) :
    own_met l y_1 prog_2_method_5_code 1 (some (.object "com/example/slackline/slackline/deque/End")) ws ({ frames := 0, cells := 0, slots := 0, locals := 0 } : Room) Z #[(.ref w_POPPED_FRONT)] h0 (Qrm7 Z w_FRONT w_POPPED_FRONT h0) := by
  refine own_start (plainFor_of_name pn_0) (fun m => ef_prog_2_method_5_R m w_POPPED_FRONT) ?_
  intro p e s m below meth c s₁ hx hby hml hown hnm X0 hZ e0 hret hlk
  have N0 := Fr.nil Z.heap.size
  obtain ⟨T8, X8, e8, st8⟩ := getF X0 hx hZ hown (host := "") (Or.inl (own_w hw 16 rfl)) Via.refl e0 (F_w_POPPED_FRONT_mEnd.ext Z0) (g := (mkF m 1 #[.val (.ref w_POPPED_FRONT)] [(.ref w_POPPED_FRONT)])) rfl rfl (hb hby d_prog_2_method_5_1)
  obtain ⟨fs, hr, hrun, hended, hW, hsame⟩ := X8.leave (v := some (.ref w_FRONT)) (fun h => by rw [hret] at h; cases h) hlk
  refine ⟨_, _, ?_, hrun, hended, _, _, rfl, ?_, ⟨_, rfl⟩, hW, hsame.mono (by decide) (by decide)⟩
  · show own_S p e below s₁ (mkF m 0 #[.val (.ref w_POPPED_FRONT)] []) _
    refine XS.aloadN X0.here hx rfl (hb hby d_prog_2_method_5_0) rfl rfl ?_
    show own_S p e below s₁ (mkF m 1 #[.val (.ref w_POPPED_FRONT)] [(.ref w_POPPED_FRONT)]) _
    refine st8 _ ?_
    show own_S p e below T8 (mkF m 4 #[.val (.ref w_POPPED_FRONT)] [(.ref w_FRONT)]) _
    jvm_step X8.here [X8.here.top, hx, (hb hby d_prog_2_method_5_4), X8.method', hret, Value.isRef, FieldType.isReference]
    first | (intro acts; rw [hr _ acts rfl rfl rfl]) | rw [hr _ _ rfl rfl rfl]
    exact Steps.refl _
  · show Qrm7 Z w_FRONT w_POPPED_FRONT h0 _ T8.heap _
    rw [e8]
    exact ⟨rfl, N0, rfl⟩
def Qrm0_0 (Z : State) (w_FRONT : Addr) (w_POPPED_FRONT : Addr) (p1 : Int32) (h0 : Heap) (v : Option Value) (h : Heap) (L : List Loc) : Prop := v = some (.int 1) ∧ Fr Z.heap.size L
set_option maxRecDepth 65536 in
set_option maxHeartbeats 40000000 in
theorem rm0_0 (l : Launch) (Z : State) (a0 : Array Value) (hw : ∀ d ∈ tables_1, d.before a0 Z = true) (ws : List Jvm.Cond) (w_FRONT : Addr) (w_POPPED_FRONT : Addr) (p1 : Int32) (h0 : Heap) (Z0 : Ext Z.heap h0) (S_w_FRONT : Sta Z Z.heap "com/example/slackline/slackline/deque/End" "FRONT" "Lcom/example/slackline/slackline/deque/End;" (.ref w_FRONT)) (S_w_POPPED_FRONT : Sta Z Z.heap "com/example/slackline/slackline/deque/Anchor$Change" "POPPED_FRONT" "Lcom/example/slackline/slackline/deque/Anchor$Change;" (.ref w_POPPED_FRONT)) (E_w_POPPED_FRONT : Exa Z Z.heap w_POPPED_FRONT "com/example/slackline/slackline/deque/Anchor$Change") (F_w_POPPED_FRONT_mEnd : Fld Z Z.heap w_POPPED_FRONT "com/example/slackline/slackline/deque/Anchor$Change" "mEnd" "Lcom/example/slackline/slackline/deque/End;" (.ref w_FRONT)) (hc1 : (p1 &&& (1 : Int32)) = (0 : Int32)) :
    own_met l x code maxLocals ret ws room_1 Z #[(.int p1)] h0 (Qrm0_0 Z w_FRONT w_POPPED_FRONT p1 h0) := by
  refine own_start (plainFor_of_name pn_1) (fun m => ef_code_I m p1) ?_
  intro p e s m below meth c s₁ hx hby hml hown hnm X0 hZ e0 hret hlk
  have N0 := Fr.nil Z.heap.size
  obtain ⟨T1, X1, e1, st1⟩ := getS2 X0 hx hZ hown (host := "") (Or.inl (own_w hw 0 rfl)) Via.refl e0 (S_w_FRONT.ext Z0) (g := (mkF m 6 #[.val (.int p1), .unset, .unset, .unset] [])) rfl (hb hby at_6)
  obtain ⟨_, T5, Lc5, X5, hQ5, st5⟩ := own_static (y := y_0) X1 hx hZ hown (own_w hw 3 rfl) (own_w hw 4 rfl) (own_w hw 5 rfl) (own_w hw 6 rfl) (by decide) (rm2 l Z a0 hw [] w_FRONT w_POPPED_FRONT h0 Z0 S_w_FRONT S_w_POPPED_FRONT) (by decide) (by decide) e1 (g := (mkF m 17 #[.val (.int p1), .val (.ref w_FRONT), .unset, .unset] [(.ref w_FRONT)])) rfl (by rw [hml]; rfl) (argsL := [(.ref w_FRONT)]) (rest := []) (lenOf pd_0 rfl) rfl rfl (W := 0) (by show 2 * 0 + _ ≤ _; exact Nat.le_of_eq rfl) (hb hby at_17) (by decide) (by decide)
  obtain ⟨rfl, N5q, e5⟩ := hQ5
  have N5 := Fr.app N0 N5q
  obtain ⟨T6, X6, e6, st6⟩ := getS2 X5 hx hZ hown (host := "") (Or.inl (own_w hw 10 rfl)) Via.refl e5 (S_w_POPPED_FRONT.ext Z0) (g := (mkF m 22 #[.val (.int p1), .val (.ref w_FRONT), .val (.ref w_POPPED_FRONT), .unset] [(.ref w_POPPED_FRONT)])) rfl (hb hby at_22)
  obtain ⟨_, T9, Lc9, X9, hQ9, st9⟩ := own_virtual (y := y_1) X6 hx hZ hown (own_w hw 11 rfl) (own_w hw 12 rfl) (own_w hw 14 rfl) (own_w hw 13 rfl) (own_w hw 5 rfl) (own_w hw 15 rfl) (by decide) (rm7 l Z a0 hw [] w_FRONT w_POPPED_FRONT h0 Z0 F_w_POPPED_FRONT_mEnd) (by decide) (by decide) e6 (E_w_POPPED_FRONT.ext Z0) (g := (mkF m 46 #[.val (.int p1), .val (.ref w_FRONT), .val (.ref w_POPPED_FRONT), .val (.int (1 : Int32))] [(.ref w_POPPED_FRONT)])) rfl (by rw [hml]; rfl) (argsL := []) (rest := []) (lenOf pd_1 rfl) rfl rfl (W := 0) (by show 2 * 0 + _ ≤ _; exact Nat.le_of_eq rfl) (hb hby at_46) (by decide) (by decide)
  obtain ⟨rfl, N9q, e9⟩ := hQ9
  have N9 := Fr.app N5 N9q
  obtain ⟨fs, hr, hrun, hended, hW, hsame⟩ := X9.leave (v := some (.int (1 : Int32))) (fun h => by rw [hret] at h; cases h) hlk
  refine ⟨_, _, ?_, hrun, hended, _, _, rfl, ?_, ⟨_, rfl⟩, hW, hsame.mono (by decide) (by decide)⟩
  · show own_S p e below s₁ (mkF m 0 #[.val (.int p1), .unset, .unset, .unset] []) _
    refine XS.iloadN X0.here hx rfl (hb hby at_0) rfl ?_
    show own_S p e below s₁ (mkF m 1 #[.val (.int p1), .unset, .unset, .unset] [(.int p1)]) _
    refine XS.iconst X0.here hx rfl (hb hby at_1) ?_
    show own_S p e below s₁ (mkF m 2 #[.val (.int p1), .unset, .unset, .unset] [(.int (1 : Int32)), (.int p1)]) _
    refine XS.iand X0.here hx rfl (hb hby at_2) rfl ?_
    show own_S p e below s₁ (mkF m 3 #[.val (.int p1), .unset, .unset, .unset] [(.int (p1 &&& (1 : Int32)))]) _
    rw [hc1]
    show own_S p e below s₁ (mkF m 3 #[.val (.int p1), .unset, .unset, .unset] [(.int (0 : Int32))]) _
    refine XS.ifNo X0.here hx rfl (hb hby at_3) rfl ((if0 _ _).trans (teq (rfl : (0 : Int32) = (0 : Int32))).2) ?_
    show own_S p e below s₁ (mkF m 6 #[.val (.int p1), .unset, .unset, .unset] []) _
    refine st1 _ ?_
    show own_S p e below T1 (mkF m 9 #[.val (.int p1), .unset, .unset, .unset] [(.ref w_FRONT)]) _
    refine XS.goto X1.here hx rfl (pc0 := 9) (pc' := 15) rfl (hb hby at_9) (by decide) (by decide) ?_
    show own_S p e below T1 (mkF m 15 #[.val (.int p1), .unset, .unset, .unset] [(.ref w_FRONT)]) _
    refine XS.astoreN X1.here hx rfl (hb hby at_15) rfl rfl (l' := #[.val (.int p1), .val (.ref w_FRONT), .unset, .unset]) rfl ?_
    show own_S p e below T1 (mkF m 16 #[.val (.int p1), .val (.ref w_FRONT), .unset, .unset] []) _
    refine XS.aloadN X1.here hx rfl (hb hby at_16) rfl rfl ?_
    show own_S p e below T1 (mkF m 17 #[.val (.int p1), .val (.ref w_FRONT), .unset, .unset] [(.ref w_FRONT)]) _
    refine st5 _ ?_
    show own_S p e below T5 (mkF m 20 #[.val (.int p1), .val (.ref w_FRONT), .unset, .unset] [(.ref w_POPPED_FRONT)]) _
    refine XS.astoreN X5.here hx rfl (hb hby at_20) rfl rfl (l' := #[.val (.int p1), .val (.ref w_FRONT), .val (.ref w_POPPED_FRONT), .unset]) rfl ?_
    show own_S p e below T5 (mkF m 21 #[.val (.int p1), .val (.ref w_FRONT), .val (.ref w_POPPED_FRONT), .unset] []) _
    refine XS.aloadN X5.here hx rfl (hb hby at_21) rfl rfl ?_
    show own_S p e below T5 (mkF m 22 #[.val (.int p1), .val (.ref w_FRONT), .val (.ref w_POPPED_FRONT), .unset] [(.ref w_POPPED_FRONT)]) _
    refine st6 _ ?_
    show own_S p e below T6 (mkF m 25 #[.val (.int p1), .val (.ref w_FRONT), .val (.ref w_POPPED_FRONT), .unset] [(.ref w_POPPED_FRONT), (.ref w_POPPED_FRONT)]) _
    refine Jvm.RoadKit.acmp (g := (mkF m 25 #[.val (.int p1), .val (.ref w_FRONT), .val (.ref w_POPPED_FRONT), .unset] [(.ref w_POPPED_FRONT), (.ref w_POPPED_FRONT)])) X6 hx rfl rfl rfl (pc0 := 25) (pc' := 35) (same := true) rfl (hb hby at_25) rfl (decide_eq_true rfl) (by decide) (by decide) ?_
    show own_S p e below T6 (mkF m 35 #[.val (.int p1), .val (.ref w_FRONT), .val (.ref w_POPPED_FRONT), .unset] []) _
    refine XS.iconst X6.here hx rfl (hb hby at_35) ?_
    show own_S p e below T6 (mkF m 36 #[.val (.int p1), .val (.ref w_FRONT), .val (.ref w_POPPED_FRONT), .unset] [(.int (1 : Int32))]) _
    refine XS.goto X6.here hx rfl (pc0 := 36) (pc' := 40) rfl (hb hby at_36) (by decide) (by decide) ?_
    show own_S p e below T6 (mkF m 40 #[.val (.int p1), .val (.ref w_FRONT), .val (.ref w_POPPED_FRONT), .unset] [(.int (1 : Int32))]) _
    refine XS.istoreN X6.here hx rfl (hb hby at_40) rfl (l' := #[.val (.int p1), .val (.ref w_FRONT), .val (.ref w_POPPED_FRONT), .val (.int (1 : Int32))]) rfl ?_
    show own_S p e below T6 (mkF m 41 #[.val (.int p1), .val (.ref w_FRONT), .val (.ref w_POPPED_FRONT), .val (.int (1 : Int32))] []) _
    refine XS.iloadN X6.here hx rfl (hb hby at_41) rfl ?_
    show own_S p e below T6 (mkF m 42 #[.val (.int p1), .val (.ref w_FRONT), .val (.ref w_POPPED_FRONT), .val (.int (1 : Int32))] [(.int (1 : Int32))]) _
    refine XS.ifNo X6.here hx rfl (hb hby at_42) rfl ((if0 _ _).trans (feq (by decide : ¬ ((1 : Int32) = (0 : Int32)))).1) ?_
    show own_S p e below T6 (mkF m 45 #[.val (.int p1), .val (.ref w_FRONT), .val (.ref w_POPPED_FRONT), .val (.int (1 : Int32))] []) _
    refine XS.aloadN X6.here hx rfl (hb hby at_45) rfl rfl ?_
    show own_S p e below T6 (mkF m 46 #[.val (.int p1), .val (.ref w_FRONT), .val (.ref w_POPPED_FRONT), .val (.int (1 : Int32))] [(.ref w_POPPED_FRONT)]) _
    refine st9 _ ?_
    show own_S p e below T9 (mkF m 49 #[.val (.int p1), .val (.ref w_FRONT), .val (.ref w_POPPED_FRONT), .val (.int (1 : Int32))] [(.ref w_FRONT)]) _
    refine XS.aloadN X9.here hx rfl (hb hby at_49) rfl rfl ?_
    show own_S p e below T9 (mkF m 50 #[.val (.int p1), .val (.ref w_FRONT), .val (.ref w_POPPED_FRONT), .val (.int (1 : Int32))] [(.ref w_FRONT), (.ref w_FRONT)]) _
    refine Jvm.RoadKit.acmp (g := (mkF m 50 #[.val (.int p1), .val (.ref w_FRONT), .val (.ref w_POPPED_FRONT), .val (.int (1 : Int32))] [(.ref w_FRONT), (.ref w_FRONT)])) X9 hx rfl rfl rfl (pc0 := 50) (pc' := 53) (same := true) rfl (hb hby at_50) rfl (decide_eq_true rfl) (by decide) (by decide) ?_
    show own_S p e below T9 (mkF m 53 #[.val (.int p1), .val (.ref w_FRONT), .val (.ref w_POPPED_FRONT), .val (.int (1 : Int32))] []) _
    refine XS.iconst X9.here hx rfl (hb hby at_53) ?_
    show own_S p e below T9 (mkF m 54 #[.val (.int p1), .val (.ref w_FRONT), .val (.ref w_POPPED_FRONT), .val (.int (1 : Int32))] [(.int (1 : Int32))]) _
    refine XS.goto X9.here hx rfl (pc0 := 54) (pc' := 58) rfl (hb hby at_54) (by decide) (by decide) ?_
    show own_S p e below T9 (mkF m 58 #[.val (.int p1), .val (.ref w_FRONT), .val (.ref w_POPPED_FRONT), .val (.int (1 : Int32))] [(.int (1 : Int32))]) _
    exact retN X9 hx (t := .boolean) hret (by simp) (hb hby at_58) hr
  · show Qrm0_0 Z w_FRONT w_POPPED_FRONT p1 h0 _ T9.heap _
    exact ⟨rfl, N9⟩
def Qrm11 (Z : State) (w_FRONT : Addr) (w_BACK : Addr) (w_POPPED_BACK : Addr) (h0 : Heap) (v : Option Value) (h : Heap) (L : List Loc) : Prop := v = some (.ref w_POPPED_BACK) ∧ Fr Z.heap.size L ∧ h = h0
set_option maxRecDepth 65536 in
set_option maxHeartbeats 40000000 in
theorem rm11 (l : Launch) (Z : State) (a0 : Array Value) (hw : ∀ d ∈ tables_1, d.before a0 Z = true) (ws : List Jvm.Cond) (w_FRONT : Addr) (w_BACK : Addr) (w_POPPED_BACK : Addr) (h0 : Heap) (Z0 : Ext Z.heap h0) (S_w_FRONT : Sta Z Z.heap "com/example/slackline/slackline/deque/End" "FRONT" "Lcom/example/slackline/slackline/deque/End;" (.ref w_FRONT)) (S_w_POPPED_BACK : Sta Z Z.heap "com/example/slackline/slackline/deque/Anchor$Change" "POPPED_BACK" "Lcom/example/slackline/slackline/deque/Anchor$Change;" (.ref w_POPPED_BACK)) (hc3 : ¬ (w_BACK = w_FRONT)) :
    own_met l y_0 prog_2_method_4_code 1 (some (.object "com/example/slackline/slackline/deque/Anchor$Change")) ws ({ frames := 0, cells := 0, slots := 0, locals := 0 } : Room) Z #[(.ref w_BACK)] h0 (Qrm11 Z w_FRONT w_BACK w_POPPED_BACK h0) := by
  refine own_start (plainFor_of_name pn_0) (fun m => ef_prog_2_method_4_R m w_BACK) ?_
  intro p e s m below meth c s₁ hx hby hml hown hnm X0 hZ e0 hret hlk
  have N0 := Fr.nil Z.heap.size
  obtain ⟨T12, X12, e12, st12⟩ := getS2 X0 hx hZ hown (host := "") (Or.inl (own_w hw 7 rfl)) Via.refl e0 (S_w_FRONT.ext Z0) (g := (mkF m 1 #[.val (.ref w_BACK)] [(.ref w_BACK)])) rfl (hb hby d_prog_2_method_4_1)
  obtain ⟨T13, X13, e13, st13⟩ := getS2 X12 hx hZ hown (host := "") (Or.inl (own_w hw 20 rfl)) Via.refl e12 (S_w_POPPED_BACK.ext Z0) (g := (mkF m 13 #[.val (.ref w_BACK)] [])) rfl (hb hby d_prog_2_method_4_13)
  obtain ⟨fs, hr, hrun, hended, hW, hsame⟩ := X13.leave (v := some (.ref w_POPPED_BACK)) (fun h => by rw [hret] at h; cases h) hlk
  refine ⟨_, _, ?_, hrun, hended, _, _, rfl, ?_, ⟨_, rfl⟩, hW, hsame.mono (by decide) (by decide)⟩
  · show own_S p e below s₁ (mkF m 0 #[.val (.ref w_BACK)] []) _
    refine XS.aloadN X0.here hx rfl (hb hby d_prog_2_method_4_0) rfl rfl ?_
    show own_S p e below s₁ (mkF m 1 #[.val (.ref w_BACK)] [(.ref w_BACK)]) _
    refine st12 _ ?_
    show own_S p e below T12 (mkF m 4 #[.val (.ref w_BACK)] [(.ref w_FRONT), (.ref w_BACK)]) _
    refine Jvm.RoadKit.acmp (g := (mkF m 4 #[.val (.ref w_BACK)] [(.ref w_FRONT), (.ref w_BACK)])) X12 hx rfl rfl rfl (pc0 := 4) (pc' := 13) (same := false) rfl (hb hby d_prog_2_method_4_4) rfl (decide_eq_false fun q => hc3 (Value.ref.inj q)) (by decide) (by decide) ?_
    show own_S p e below T12 (mkF m 13 #[.val (.ref w_BACK)] []) _
    refine st13 _ ?_
    show own_S p e below T13 (mkF m 16 #[.val (.ref w_BACK)] [(.ref w_POPPED_BACK)]) _
    jvm_step X13.here [X13.here.top, hx, (hb hby d_prog_2_method_4_16), X13.method', hret, Value.isRef, FieldType.isReference]
    first | (intro acts; rw [hr _ acts rfl rfl rfl]) | rw [hr _ _ rfl rfl rfl]
    exact Steps.refl _
  · show Qrm11 Z w_FRONT w_BACK w_POPPED_BACK h0 _ T13.heap _
    rw [e13]
    exact ⟨rfl, N0, rfl⟩
def Qrm17 (Z : State) (w_BACK : Addr) (w_POPPED_BACK : Addr) (h0 : Heap) (v : Option Value) (h : Heap) (L : List Loc) : Prop := v = some (.ref w_BACK) ∧ Fr Z.heap.size L ∧ h = h0
set_option maxRecDepth 65536 in
set_option maxHeartbeats 40000000 in
theorem rm17 (l : Launch) (Z : State) (a0 : Array Value) (hw : ∀ d ∈ tables_1, d.before a0 Z = true) (ws : List Jvm.Cond) (w_BACK : Addr) (w_POPPED_BACK : Addr) (h0 : Heap) (Z0 : Ext Z.heap h0) (F_w_POPPED_BACK_mEnd : Fld Z Z.heap w_POPPED_BACK "com/example/slackline/slackline/deque/Anchor$Change" "mEnd" "Lcom/example/slackline/slackline/deque/End;" (.ref w_BACK)) :
    own_met l y_1 prog_2_method_5_code 1 (some (.object "com/example/slackline/slackline/deque/End")) ws ({ frames := 0, cells := 0, slots := 0, locals := 0 } : Room) Z #[(.ref w_POPPED_BACK)] h0 (Qrm17 Z w_BACK w_POPPED_BACK h0) := by
  refine own_start (plainFor_of_name pn_0) (fun m => ef_prog_2_method_5_R m w_POPPED_BACK) ?_
  intro p e s m below meth c s₁ hx hby hml hown hnm X0 hZ e0 hret hlk
  have N0 := Fr.nil Z.heap.size
  obtain ⟨T18, X18, e18, st18⟩ := getF X0 hx hZ hown (host := "") (Or.inl (own_w hw 16 rfl)) Via.refl e0 (F_w_POPPED_BACK_mEnd.ext Z0) (g := (mkF m 1 #[.val (.ref w_POPPED_BACK)] [(.ref w_POPPED_BACK)])) rfl rfl (hb hby d_prog_2_method_5_1)
  obtain ⟨fs, hr, hrun, hended, hW, hsame⟩ := X18.leave (v := some (.ref w_BACK)) (fun h => by rw [hret] at h; cases h) hlk
  refine ⟨_, _, ?_, hrun, hended, _, _, rfl, ?_, ⟨_, rfl⟩, hW, hsame.mono (by decide) (by decide)⟩
  · show own_S p e below s₁ (mkF m 0 #[.val (.ref w_POPPED_BACK)] []) _
    refine XS.aloadN X0.here hx rfl (hb hby d_prog_2_method_5_0) rfl rfl ?_
    show own_S p e below s₁ (mkF m 1 #[.val (.ref w_POPPED_BACK)] [(.ref w_POPPED_BACK)]) _
    refine st18 _ ?_
    show own_S p e below T18 (mkF m 4 #[.val (.ref w_POPPED_BACK)] [(.ref w_BACK)]) _
    jvm_step X18.here [X18.here.top, hx, (hb hby d_prog_2_method_5_4), X18.method', hret, Value.isRef, FieldType.isReference]
    first | (intro acts; rw [hr _ acts rfl rfl rfl]) | rw [hr _ _ rfl rfl rfl]
    exact Steps.refl _
  · show Qrm17 Z w_BACK w_POPPED_BACK h0 _ T18.heap _
    rw [e18]
    exact ⟨rfl, N0, rfl⟩
def Qrm0_1 (Z : State) (w_FRONT : Addr) (w_POPPED_FRONT : Addr) (w_BACK : Addr) (w_POPPED_BACK : Addr) (p1 : Int32) (h0 : Heap) (v : Option Value) (h : Heap) (L : List Loc) : Prop := v = some (.int 1) ∧ Fr Z.heap.size L
set_option maxRecDepth 65536 in
set_option maxHeartbeats 40000000 in
theorem rm0_1 (l : Launch) (Z : State) (a0 : Array Value) (hw : ∀ d ∈ tables_1, d.before a0 Z = true) (ws : List Jvm.Cond) (w_FRONT : Addr) (w_POPPED_FRONT : Addr) (w_BACK : Addr) (w_POPPED_BACK : Addr) (p1 : Int32) (h0 : Heap) (Z0 : Ext Z.heap h0) (S_w_BACK : Sta Z Z.heap "com/example/slackline/slackline/deque/End" "BACK" "Lcom/example/slackline/slackline/deque/End;" (.ref w_BACK)) (S_w_FRONT : Sta Z Z.heap "com/example/slackline/slackline/deque/End" "FRONT" "Lcom/example/slackline/slackline/deque/End;" (.ref w_FRONT)) (S_w_POPPED_BACK : Sta Z Z.heap "com/example/slackline/slackline/deque/Anchor$Change" "POPPED_BACK" "Lcom/example/slackline/slackline/deque/Anchor$Change;" (.ref w_POPPED_BACK)) (S_w_POPPED_FRONT : Sta Z Z.heap "com/example/slackline/slackline/deque/Anchor$Change" "POPPED_FRONT" "Lcom/example/slackline/slackline/deque/Anchor$Change;" (.ref w_POPPED_FRONT)) (E_w_POPPED_BACK : Exa Z Z.heap w_POPPED_BACK "com/example/slackline/slackline/deque/Anchor$Change") (F_w_POPPED_BACK_mEnd : Fld Z Z.heap w_POPPED_BACK "com/example/slackline/slackline/deque/Anchor$Change" "mEnd" "Lcom/example/slackline/slackline/deque/End;" (.ref w_BACK)) (hc2 : (p1 &&& (1 : Int32)) = (1 : Int32)) (hc3 : ¬ (w_BACK = w_FRONT)) (hc4 : ¬ (w_POPPED_BACK = w_POPPED_FRONT)) :
    own_met l x code maxLocals ret ws room_1 Z #[(.int p1)] h0 (Qrm0_1 Z w_FRONT w_POPPED_FRONT w_BACK w_POPPED_BACK p1 h0) := by
  refine own_start (plainFor_of_name pn_1) (fun m => ef_code_I m p1) ?_
  intro p e s m below meth c s₁ hx hby hml hown hnm X0 hZ e0 hret hlk
  have N0 := Fr.nil Z.heap.size
  obtain ⟨T10, X10, e10, st10⟩ := getS2 X0 hx hZ hown (host := "") (Or.inl (own_w hw 18 rfl)) Via.refl e0 (S_w_BACK.ext Z0) (g := (mkF m 12 #[.val (.int p1), .unset, .unset, .unset] [])) rfl (hb hby at_12)
  obtain ⟨_, T14, Lc14, X14, hQ14, st14⟩ := own_static (y := y_0) X10 hx hZ hown (own_w hw 3 rfl) (own_w hw 4 rfl) (own_w hw 5 rfl) (own_w hw 6 rfl) (by decide) (rm11 l Z a0 hw [] w_FRONT w_BACK w_POPPED_BACK h0 Z0 S_w_FRONT S_w_POPPED_BACK hc3) (by decide) (by decide) e10 (g := (mkF m 17 #[.val (.int p1), .val (.ref w_BACK), .unset, .unset] [(.ref w_BACK)])) rfl (by rw [hml]; rfl) (argsL := [(.ref w_BACK)]) (rest := []) (lenOf pd_0 rfl) rfl rfl (W := 0) (by show 2 * 0 + _ ≤ _; exact Nat.le_of_eq rfl) (hb hby at_17) (by decide) (by decide)
  obtain ⟨rfl, N14q, e14⟩ := hQ14
  have N14 := Fr.app N0 N14q
  obtain ⟨T15, X15, e15, st15⟩ := getS2 X14 hx hZ hown (host := "") (Or.inl (own_w hw 10 rfl)) Via.refl e14 (S_w_POPPED_FRONT.ext Z0) (g := (mkF m 22 #[.val (.int p1), .val (.ref w_BACK), .val (.ref w_POPPED_BACK), .unset] [(.ref w_POPPED_BACK)])) rfl (hb hby at_22)
  obtain ⟨T16, X16, e16, st16⟩ := getS2 X15 hx hZ hown (host := "") (Or.inl (own_w hw 22 rfl)) Via.refl e15 (S_w_POPPED_BACK.ext Z0) (g := (mkF m 29 #[.val (.int p1), .val (.ref w_BACK), .val (.ref w_POPPED_BACK), .unset] [(.ref w_POPPED_BACK)])) rfl (hb hby at_29)
  obtain ⟨_, T19, Lc19, X19, hQ19, st19⟩ := own_virtual (y := y_1) X16 hx hZ hown (own_w hw 11 rfl) (own_w hw 12 rfl) (own_w hw 14 rfl) (own_w hw 13 rfl) (own_w hw 5 rfl) (own_w hw 15 rfl) (by decide) (rm17 l Z a0 hw [] w_BACK w_POPPED_BACK h0 Z0 F_w_POPPED_BACK_mEnd) (by decide) (by decide) e16 (E_w_POPPED_BACK.ext Z0) (g := (mkF m 46 #[.val (.int p1), .val (.ref w_BACK), .val (.ref w_POPPED_BACK), .val (.int (1 : Int32))] [(.ref w_POPPED_BACK)])) rfl (by rw [hml]; rfl) (argsL := []) (rest := []) (lenOf pd_1 rfl) rfl rfl (W := 0) (by show 2 * 0 + _ ≤ _; exact Nat.le_of_eq rfl) (hb hby at_46) (by decide) (by decide)
  obtain ⟨rfl, N19q, e19⟩ := hQ19
  have N19 := Fr.app N14 N19q
  obtain ⟨fs, hr, hrun, hended, hW, hsame⟩ := X19.leave (v := some (.int (1 : Int32))) (fun h => by rw [hret] at h; cases h) hlk
  refine ⟨_, _, ?_, hrun, hended, _, _, rfl, ?_, ⟨_, rfl⟩, hW, hsame.mono (by decide) (by decide)⟩
  · show own_S p e below s₁ (mkF m 0 #[.val (.int p1), .unset, .unset, .unset] []) _
    refine XS.iloadN X0.here hx rfl (hb hby at_0) rfl ?_
    show own_S p e below s₁ (mkF m 1 #[.val (.int p1), .unset, .unset, .unset] [(.int p1)]) _
    refine XS.iconst X0.here hx rfl (hb hby at_1) ?_
    show own_S p e below s₁ (mkF m 2 #[.val (.int p1), .unset, .unset, .unset] [(.int (1 : Int32)), (.int p1)]) _
    refine XS.iand X0.here hx rfl (hb hby at_2) rfl ?_
    show own_S p e below s₁ (mkF m 3 #[.val (.int p1), .unset, .unset, .unset] [(.int (p1 &&& (1 : Int32)))]) _
    rw [hc2]
    show own_S p e below s₁ (mkF m 3 #[.val (.int p1), .unset, .unset, .unset] [(.int (1 : Int32))]) _
    refine XS.ifYes X0.here hx rfl (pc0 := 3) (pc' := 12) rfl (hb hby at_3) rfl ((if0 _ _).trans (feq (by decide : ¬ ((1 : Int32) = (0 : Int32)))).2) (by decide) (by decide) ?_
    show own_S p e below s₁ (mkF m 12 #[.val (.int p1), .unset, .unset, .unset] []) _
    refine st10 _ ?_
    show own_S p e below T10 (mkF m 15 #[.val (.int p1), .unset, .unset, .unset] [(.ref w_BACK)]) _
    refine XS.astoreN X10.here hx rfl (hb hby at_15) rfl rfl (l' := #[.val (.int p1), .val (.ref w_BACK), .unset, .unset]) rfl ?_
    show own_S p e below T10 (mkF m 16 #[.val (.int p1), .val (.ref w_BACK), .unset, .unset] []) _
    refine XS.aloadN X10.here hx rfl (hb hby at_16) rfl rfl ?_
    show own_S p e below T10 (mkF m 17 #[.val (.int p1), .val (.ref w_BACK), .unset, .unset] [(.ref w_BACK)]) _
    refine st14 _ ?_
    show own_S p e below T14 (mkF m 20 #[.val (.int p1), .val (.ref w_BACK), .unset, .unset] [(.ref w_POPPED_BACK)]) _
    refine XS.astoreN X14.here hx rfl (hb hby at_20) rfl rfl (l' := #[.val (.int p1), .val (.ref w_BACK), .val (.ref w_POPPED_BACK), .unset]) rfl ?_
    show own_S p e below T14 (mkF m 21 #[.val (.int p1), .val (.ref w_BACK), .val (.ref w_POPPED_BACK), .unset] []) _
    refine XS.aloadN X14.here hx rfl (hb hby at_21) rfl rfl ?_
    show own_S p e below T14 (mkF m 22 #[.val (.int p1), .val (.ref w_BACK), .val (.ref w_POPPED_BACK), .unset] [(.ref w_POPPED_BACK)]) _
    refine st15 _ ?_
    show own_S p e below T15 (mkF m 25 #[.val (.int p1), .val (.ref w_BACK), .val (.ref w_POPPED_BACK), .unset] [(.ref w_POPPED_FRONT), (.ref w_POPPED_BACK)]) _
    refine Jvm.RoadKit.acmp (g := (mkF m 25 #[.val (.int p1), .val (.ref w_BACK), .val (.ref w_POPPED_BACK), .unset] [(.ref w_POPPED_FRONT), (.ref w_POPPED_BACK)])) X15 hx rfl rfl rfl (pc0 := 25) (pc' := 28) (same := false) rfl (hb hby at_25) rfl (decide_eq_false fun q => hc4 (Value.ref.inj q)) (by decide) (by decide) ?_
    show own_S p e below T15 (mkF m 28 #[.val (.int p1), .val (.ref w_BACK), .val (.ref w_POPPED_BACK), .unset] []) _
    refine XS.aloadN X15.here hx rfl (hb hby at_28) rfl rfl ?_
    show own_S p e below T15 (mkF m 29 #[.val (.int p1), .val (.ref w_BACK), .val (.ref w_POPPED_BACK), .unset] [(.ref w_POPPED_BACK)]) _
    refine st16 _ ?_
    show own_S p e below T16 (mkF m 32 #[.val (.int p1), .val (.ref w_BACK), .val (.ref w_POPPED_BACK), .unset] [(.ref w_POPPED_BACK), (.ref w_POPPED_BACK)]) _
    refine Jvm.RoadKit.acmp (g := (mkF m 32 #[.val (.int p1), .val (.ref w_BACK), .val (.ref w_POPPED_BACK), .unset] [(.ref w_POPPED_BACK), (.ref w_POPPED_BACK)])) X16 hx rfl rfl rfl (pc0 := 32) (pc' := 35) (same := true) rfl (hb hby at_32) rfl (decide_eq_true rfl) (by decide) (by decide) ?_
    show own_S p e below T16 (mkF m 35 #[.val (.int p1), .val (.ref w_BACK), .val (.ref w_POPPED_BACK), .unset] []) _
    refine XS.iconst X16.here hx rfl (hb hby at_35) ?_
    show own_S p e below T16 (mkF m 36 #[.val (.int p1), .val (.ref w_BACK), .val (.ref w_POPPED_BACK), .unset] [(.int (1 : Int32))]) _
    refine XS.goto X16.here hx rfl (pc0 := 36) (pc' := 40) rfl (hb hby at_36) (by decide) (by decide) ?_
    show own_S p e below T16 (mkF m 40 #[.val (.int p1), .val (.ref w_BACK), .val (.ref w_POPPED_BACK), .unset] [(.int (1 : Int32))]) _
    refine XS.istoreN X16.here hx rfl (hb hby at_40) rfl (l' := #[.val (.int p1), .val (.ref w_BACK), .val (.ref w_POPPED_BACK), .val (.int (1 : Int32))]) rfl ?_
    show own_S p e below T16 (mkF m 41 #[.val (.int p1), .val (.ref w_BACK), .val (.ref w_POPPED_BACK), .val (.int (1 : Int32))] []) _
    refine XS.iloadN X16.here hx rfl (hb hby at_41) rfl ?_
    show own_S p e below T16 (mkF m 42 #[.val (.int p1), .val (.ref w_BACK), .val (.ref w_POPPED_BACK), .val (.int (1 : Int32))] [(.int (1 : Int32))]) _
    refine XS.ifNo X16.here hx rfl (hb hby at_42) rfl ((if0 _ _).trans (feq (by decide : ¬ ((1 : Int32) = (0 : Int32)))).1) ?_
    show own_S p e below T16 (mkF m 45 #[.val (.int p1), .val (.ref w_BACK), .val (.ref w_POPPED_BACK), .val (.int (1 : Int32))] []) _
    refine XS.aloadN X16.here hx rfl (hb hby at_45) rfl rfl ?_
    show own_S p e below T16 (mkF m 46 #[.val (.int p1), .val (.ref w_BACK), .val (.ref w_POPPED_BACK), .val (.int (1 : Int32))] [(.ref w_POPPED_BACK)]) _
    refine st19 _ ?_
    show own_S p e below T19 (mkF m 49 #[.val (.int p1), .val (.ref w_BACK), .val (.ref w_POPPED_BACK), .val (.int (1 : Int32))] [(.ref w_BACK)]) _
    refine XS.aloadN X19.here hx rfl (hb hby at_49) rfl rfl ?_
    show own_S p e below T19 (mkF m 50 #[.val (.int p1), .val (.ref w_BACK), .val (.ref w_POPPED_BACK), .val (.int (1 : Int32))] [(.ref w_BACK), (.ref w_BACK)]) _
    refine Jvm.RoadKit.acmp (g := (mkF m 50 #[.val (.int p1), .val (.ref w_BACK), .val (.ref w_POPPED_BACK), .val (.int (1 : Int32))] [(.ref w_BACK), (.ref w_BACK)])) X19 hx rfl rfl rfl (pc0 := 50) (pc' := 53) (same := true) rfl (hb hby at_50) rfl (decide_eq_true rfl) (by decide) (by decide) ?_
    show own_S p e below T19 (mkF m 53 #[.val (.int p1), .val (.ref w_BACK), .val (.ref w_POPPED_BACK), .val (.int (1 : Int32))] []) _
    refine XS.iconst X19.here hx rfl (hb hby at_53) ?_
    show own_S p e below T19 (mkF m 54 #[.val (.int p1), .val (.ref w_BACK), .val (.ref w_POPPED_BACK), .val (.int (1 : Int32))] [(.int (1 : Int32))]) _
    refine XS.goto X19.here hx rfl (pc0 := 54) (pc' := 58) rfl (hb hby at_54) (by decide) (by decide) ?_
    show own_S p e below T19 (mkF m 58 #[.val (.int p1), .val (.ref w_BACK), .val (.ref w_POPPED_BACK), .val (.int (1 : Int32))] [(.int (1 : Int32))]) _
    exact retN X19 hx (t := .boolean) hret (by simp) (hb hby at_58) hr
  · show Qrm0_1 Z w_FRONT w_POPPED_FRONT w_BACK w_POPPED_BACK p1 h0 _ T19.heap _
    exact ⟨rfl, N19⟩
set_option maxRecDepth 65536 in
set_option maxHeartbeats 40000000 in
theorem comes_1 {Post : Tables → Env → Array Value → State → Outcome → State → Prop} (hpost : ∀ tb e args s v u, (limb_1_1.after args s (.returned v) u = true ∧ limb_1_2.after args s (.returned v) u = true ∧ True) → FrameEnd s (.returned v) u (Jvm.fieldLocs frame_1_writes args s ++ Jvm.arrayLocs frame_1_arrays args s ++ Jvm.staticLocs frame_1_statics s) 0 0 → Post tb e args s (.returned v) u) :
    ArmFor flags0 classFile x code maxLocals ret World_1 tables_1 room_1 Calls_1 rest_1 Pre_1 Post := by
  intro l hfl _ _ p e ha hc hk s m args below hf hA hF happ hP
  obtain ⟨hcalls, hrest, hpre⟩ := hP
  obtain ⟨-, -, -, hnamed, -, -, -, hat⟩ := (Spec.applies_iff hf).mp happ
  obtain ⟨hg, hn⟩ := and_e (Cond.before_iff.mp (show (Jvm.Cond.and given_1 narrow_1).before args s = true from hpre))
  obtain ⟨hcount, hG0⟩ := and_e hg
  have hA0 := hG0
  obtain ⟨v0, rfl⟩ : ∃ v0 : Value, args = #[v0] := by
    have hs : args.size = 1 := by simpa [Cond.value, given_1] using hcount
    obtain ⟨L⟩ := args
    match L, hs with
    | [v0], _ => exact ⟨v0, rfl⟩
  have hw := fun d (hd : d ∈ tables_1) => atoms_spec (ws := Jvm.Cond.code x code maxLocals ret :: tables_1) hat d (List.mem_cons_of_mem _ hd)
  obtain ⟨p1, ei0⟩ := is_v hA0
  obtain rfl : v0 = (.int p1) := Option.some.inj ei0
  obtain ⟨hN0, hR0⟩ := and_e hn
  obtain ⟨hN1, hR1⟩ := and_e hR0
  obtain ⟨hN2, hR2⟩ := and_e hR1
  obtain ⟨hN3, hR3⟩ := and_e hR2
  obtain ⟨hN4, hR4⟩ := and_e hR3
  obtain ⟨hN5, hR5⟩ := and_e hR4
  obtain ⟨hN6, hR6⟩ := and_e hR5
  obtain ⟨hN7, hR7⟩ := and_e hR6
  obtain ⟨hN8, hR8⟩ := and_e hR7
  have hN9 := hR8
  obtain ⟨w_FRONT, ev_w_FRONT⟩ := exa_v hN0
  have E_w_FRONT : Exa s s.heap w_FRONT "com/example/slackline/slackline/deque/End" := Exa.start ev_w_FRONT hN0
  have S_w_FRONT : Sta s s.heap "com/example/slackline/slackline/deque/End" "FRONT" "Lcom/example/slackline/slackline/deque/End;" (.ref w_FRONT) := Sta.start ev_w_FRONT (Or.inr ⟨(own_w hw 1 rfl), (own_w hw 2 rfl)⟩)
  obtain ⟨w_POPPED_FRONT, ev_w_POPPED_FRONT⟩ := exa_v hN1
  have E_w_POPPED_FRONT : Exa s s.heap w_POPPED_FRONT "com/example/slackline/slackline/deque/Anchor$Change" := Exa.start ev_w_POPPED_FRONT hN1
  have S_w_POPPED_FRONT : Sta s s.heap "com/example/slackline/slackline/deque/Anchor$Change" "POPPED_FRONT" "Lcom/example/slackline/slackline/deque/Anchor$Change;" (.ref w_POPPED_FRONT) := Sta.start ev_w_POPPED_FRONT (Or.inr ⟨(own_w hw 5 rfl), (own_w hw 9 rfl)⟩)
  obtain ⟨w_BACK, ev_w_BACK⟩ := exa_v hN3
  have E_w_BACK : Exa s s.heap w_BACK "com/example/slackline/slackline/deque/End" := Exa.start ev_w_BACK hN3
  have S_w_BACK : Sta s s.heap "com/example/slackline/slackline/deque/End" "BACK" "Lcom/example/slackline/slackline/deque/End;" (.ref w_BACK) := Sta.start ev_w_BACK (Or.inr ⟨(own_w hw 1 rfl), (own_w hw 19 rfl)⟩)
  obtain ⟨w_POPPED_BACK, ev_w_POPPED_BACK⟩ := exa_v hN6
  have E_w_POPPED_BACK : Exa s s.heap w_POPPED_BACK "com/example/slackline/slackline/deque/Anchor$Change" := Exa.start ev_w_POPPED_BACK hN6
  have S_w_POPPED_BACK : Sta s s.heap "com/example/slackline/slackline/deque/Anchor$Change" "POPPED_BACK" "Lcom/example/slackline/slackline/deque/Anchor$Change;" (.ref w_POPPED_BACK) := Sta.start ev_w_POPPED_BACK (Or.inr ⟨(own_w hw 5 rfl), (own_w hw 21 rfl)⟩)
  have F_w_POPPED_FRONT_mEnd : Fld s s.heap w_POPPED_FRONT "com/example/slackline/slackline/deque/Anchor$Change" "mEnd" "Lcom/example/slackline/slackline/deque/End;" (.ref w_FRONT) := Fld.start ((fld_at ev_w_POPPED_FRONT).symm.trans (own_eqR hN2 ev_w_FRONT))
  have F_w_BACK_ordinal : Fld s s.heap w_BACK "java/lang/Enum" "ordinal" "I" (.int (1 : Int32)) := Fld.start ((fld_at ev_w_BACK).symm.trans (own_eqI hN4))
  have F_w_FRONT_ordinal : Fld s s.heap w_FRONT "java/lang/Enum" "ordinal" "I" (.int (0 : Int32)) := Fld.start ((fld_at ev_w_FRONT).symm.trans (own_eqI hN5))
  have F_w_POPPED_BACK_ordinal : Fld s s.heap w_POPPED_BACK "java/lang/Enum" "ordinal" "I" (.int (3 : Int32)) := Fld.start ((fld_at ev_w_POPPED_BACK).symm.trans (own_eqI hN7))
  have F_w_POPPED_FRONT_ordinal : Fld s s.heap w_POPPED_FRONT "java/lang/Enum" "ordinal" "I" (.int (2 : Int32)) := Fld.start ((fld_at ev_w_POPPED_FRONT).symm.trans (own_eqI hN8))
  have F_w_POPPED_BACK_mEnd : Fld s s.heap w_POPPED_BACK "com/example/slackline/slackline/deque/Anchor$Change" "mEnd" "Lcom/example/slackline/slackline/deque/End;" (.ref w_BACK) := Fld.start ((fld_at ev_w_POPPED_BACK).symm.trans (own_eqR hN9 ev_w_BACK))
  have hX0 : Ext s.heap s.heap := ⟨Nat.le_refl _, fun _ _ q => q⟩
  have key : MetFree l x (head1 (Jvm.Cond.code x code maxLocals ret :: tables_1) room_1) (fun a U => a = #[(.int p1)] ∧ s.Warmed39 U.vm ∧ U.heap = s.heap) (fun _ _ _ _ _ => True) (fun _ U o U' => ∃ v L, o = .returned v ∧ (v = some (.int 1) ∧ Fr s.heap.size L) ∧ FrameEnd U o U' L room_1.cells room_1.slots) := by
    rcases own_split p1 with hq | hq
    · exact rm0_0 l s _ hw tables_1 w_FRONT w_POPPED_FRONT p1 s.heap hX0 S_w_FRONT S_w_POPPED_FRONT E_w_POPPED_FRONT F_w_POPPED_FRONT_mEnd hq
    · exact rm0_1 l s _ hw tables_1 w_FRONT w_POPPED_FRONT w_BACK w_POPPED_BACK p1 s.heap hX0 S_w_BACK S_w_FRONT S_w_POPPED_BACK S_w_POPPED_FRONT E_w_POPPED_BACK F_w_POPPED_BACK_mEnd hq (F_w_BACK_ordinal.ne F_w_FRONT_ordinal (by decide)) (F_w_POPPED_BACK_ordinal.ne F_w_POPPED_FRONT_ordinal (by decide))
  obtain ⟨n, o, h1, h2, h3, _, L, rfl, ⟨rfl, N⟩, hq⟩ := key p e ha hc hk s m _ below hf ((Spec.applies_iff_loose hf).mp happ).1 ⟨rfl, State.Warmed39.refl s, rfl⟩ trivial
  refine ⟨n, _, h1, h2, h3, hpost _ _ _ _ _ _ ⟨Cond.after_iff.mpr rfl, Cond.after_iff.mpr (eq_i res_at (Term.int_eval (1)) rfl), trivial⟩ ⟨hq.1, hq.2.1, (hq.2.2.sift fun y hy => Or.inr (N y hy)).mono (by decide) (by decide)⟩⟩
theorem main_1_1 : Claimed_1_1 := comes_1 fun _ _ _ _ _ _ h hF => ⟨h.1, hF⟩
theorem main_1_2 : Claimed_1_2 := comes_1 fun _ _ _ _ _ _ h hF => ⟨h.2.1, hF⟩
end Jvm.Pilot.@@N@@
namespace Jvm.Pilot.@@N@@
open Jvm Jvm.ClassFile Sem Op Lib Jvm.Free Jvm.Stand Jvm.Pilot.@@N@@.Jvm.D
/-! MADE BY PROGRAM (witnessworld.py) out of the Statement's table words and the real class files: 13 classes; the members and pool entries that the words name. The judged class is class 1, her method 1. -/
namespace start1
open Jvm.ClassFile
def u (s : String) : CpInfo := .utf8 (stringToUtf16 s)
/-- a pool by its gaps: so many unusable entries, then the entry; so many at the end -/
def gap : Nat → List CpInfo → List CpInfo
  | 0, r => r
  | n + 1, r => .unusable :: gap n r
def poolList (es : List (Nat × CpInfo)) (last : Nat) : List CpInfo := es.foldr (fun e r => gap e.1 (e.2 :: r)) (gap last [])
def pool (es : List (Nat × CpInfo)) (last : Nat) : Array CpInfo := ⟨poolList es last⟩
def fileOf (pool : Array CpInfo) (this : Nat) (attrs : Array Attribute := #[]) (ms : Array MethodInfo := #[]) (fl : Nat := 33) (sup : Nat := 0) (ifs : Array Nat := #[]) (fds : Array FieldInfo := #[]) : ClassFile where
  minorVersion := 0
  majorVersion := 65
  constantPool := pool
  accessFlags := fl
  thisClass := this
  superClass := sup
  interfaces := ifs
  fields := fds
  methods := ms
  attributes := attrs
def plain (name : String) (sup : Option ClassId) : Class where
  name := name
  kind := .ordinary
  loader := none
  accessFlags := 33
  super := sup
  interfaces := #[]
  cf := none
  fields := #[]
  methods := #[]
  instanceTypes := #[]
  staticTypes := #[]
  resolved := #[]
  callSites := []
  init := .initialized
  statics := none
  mirror := none

def pool0 : Array CpInfo := pool [(5, u "<init>"), (0, u "()V"), (1, .class_ 10), (1, u "java/lang/Object")] 113

def k0m0 : Method := { name := "<init>", desc := "()V", sig := { parameters := [], returnType := none }, accessFlags := 1, code := none }
/-- java/lang/Object -/
def k0 : Class := { plain "java/lang/Object" none with
  accessFlags := 33
  interfaces := #[]
  cf := some (fileOf pool0 8 #[] #[{ accessFlags := 1, nameIndex := 5, descriptorIndex := 6, attributes := #[] }] 33 0 #[] #[])
  fields := #[]
  methods := #[k0m0]
  instanceTypes := #[]
  staticTypes := #[]
  resolved := Array.replicate 124 none
  statics := none }

def pool1 : Array CpInfo := pool [(2, .class_ 4), (1, u "java/lang/Object"), (0, u "<init>"), (0, u "()V"), (0, .fieldref 8 9), (0, .class_ 10), (0, .nameAndType 11 12), (0, u "com/example/slackline/slackline/deque/End"), (0, u "FRONT"), (0, u "Lcom/example/slackline/slackline/deque/End;"), (0, .fieldref 8 14), (0, .nameAndType 15 12), (0, u "BACK"), (0, .methodref 17 18), (0, .class_ 19), (0, .nameAndType 20 21), (0, u "com/example/slackline/slackline/deque/Anchor$Change"), (0, u "popped"), (0, u "(Lcom/example/slackline/slackline/deque/End;)Lcom/example/slackline/slackline/deque/Anchor$Change;"), (0, .fieldref 17 23), (0, .nameAndType 24 25), (0, u "POPPED_FRONT"), (0, u "Lcom/example/slackline/slackline/deque/Anchor$Change;"), (0, .fieldref 17 27), (0, .nameAndType 28 25), (0, u "POPPED_BACK"), (0, .methodref 17 30), (0, .nameAndType 31 32), (0, u "end"), (0, u "()Lcom/example/slackline/slackline/deque/End;"), (0, .class_ 34), (0, u "com/example/slackline/slackline/deque/ChangePoppedPinLaw"), (2, u "law"), (0, u "(I)Z")] 7

def k1m0 : Method := { name := "<init>", desc := "()V", sig := { parameters := [], returnType := none }, accessFlags := 2, code := none }
def k1c1 : Code := { maxStack := 2, maxLocals := 4, code := code, exceptionTable := #[], attributes := #[] }
def k1m1 : Method := { name := "law", desc := "(I)Z", sig := { parameters := [.int], returnType := some .boolean }, accessFlags := 9, code := some k1c1 }
/-- com/example/slackline/slackline/deque/ChangePoppedPinLaw -/
def k1 : Class := { plain "com/example/slackline/slackline/deque/ChangePoppedPinLaw" (some 0) with
  accessFlags := 49
  interfaces := #[]
  cf := some (fileOf pool1 33 #[] #[{ accessFlags := 2, nameIndex := 5, descriptorIndex := 6, attributes := #[] }, { accessFlags := 9, nameIndex := 37, descriptorIndex := 38, attributes := #[] }] 49 2 #[] #[])
  fields := #[]
  methods := #[k1m0, k1m1]
  instanceTypes := #[]
  staticTypes := #[]
  resolved := Array.replicate 46 none
  statics := none }

def pool2 : Array CpInfo := pool [(1, .class_ 2), (0, u "java/lang/constant/Constable"), (0, .class_ 4), (0, u "java/lang/Object")] 6

/-- java/lang/constant/Constable -/
def k2 : Class := { plain "java/lang/constant/Constable" (some 0) with
  accessFlags := 1537
  interfaces := #[]
  cf := some (fileOf pool2 1 #[] #[] 1537 3 #[] #[])
  fields := #[]
  methods := #[]
  instanceTypes := #[]
  staticTypes := #[]
  resolved := Array.replicate 11 none
  statics := none }

def pool3 : Array CpInfo := pool [(1, .class_ 2), (0, u "java/lang/Comparable"), (0, .class_ 4), (0, u "java/lang/Object")] 7

/-- java/lang/Comparable -/
def k3 : Class := { plain "java/lang/Comparable" (some 0) with
  accessFlags := 1537
  interfaces := #[]
  cf := some (fileOf pool3 1 #[] #[] 1537 3 #[] #[])
  fields := #[]
  methods := #[]
  instanceTypes := #[]
  staticTypes := #[]
  resolved := Array.replicate 12 none
  statics := none }

def pool4 : Array CpInfo := pool [(1, .class_ 2), (0, u "java/io/Serializable"), (0, .class_ 4), (0, u "java/lang/Object")] 2

/-- java/io/Serializable -/
def k4 : Class := { plain "java/io/Serializable" (some 0) with
  accessFlags := 1537
  interfaces := #[]
  cf := some (fileOf pool4 1 #[] #[] 1537 3 #[] #[])
  fields := #[]
  methods := #[]
  instanceTypes := #[]
  staticTypes := #[]
  resolved := Array.replicate 7 none
  statics := none }

def pool5 : Array CpInfo := pool [(2, .class_ 4), (1, u "java/lang/Enum"), (0, u "name"), (0, u "Ljava/lang/String;"), (2, u "ordinal"), (0, u "I"), (1, .class_ 14), (1, u "java/lang/Object"), (4, u "hash"), (86, .class_ 108), (1, u "java/lang/Enum$EnumDesc"), (2, .class_ 112), (0, u "java/lang/constant/Constable"), (0, .class_ 114), (0, u "java/lang/Comparable"), (0, .class_ 116), (0, u "java/io/Serializable")] 87

/-- java/lang/Enum -/
def k5 : Class := { plain "java/lang/Enum" (some 0) with
  accessFlags := 1057
  interfaces := #[2, 3, 4]
  cf := some (fileOf pool5 2 #[.nestMembers #[106]] #[] 1057 12 #[111, 113, 115] #[{ accessFlags := 18, nameIndex := 5, descriptorIndex := 6, attributes := #[] }, { accessFlags := 18, nameIndex := 9, descriptorIndex := 10, attributes := #[] }, { accessFlags := 2, nameIndex := 19, descriptorIndex := 10, attributes := #[] }])
  fields := #[{ name := "name", type := (.object "java/lang/String"), accessFlags := 18, slot := 0, constantValue := 0 }, { name := "ordinal", type := .int, accessFlags := 18, slot := 1, constantValue := 0 }, { name := "hash", type := .int, accessFlags := 2, slot := 2, constantValue := 0 }]
  methods := #[]
  instanceTypes := #[(.object "java/lang/String"), .int, .int]
  staticTypes := #[]
  resolved := Array.replicate 204 none
  statics := none }

def pool6 : Array CpInfo := pool [(1, .class_ 2), (0, u "com/example/slackline/slackline/deque/End"), (2, u "FRONT"), (0, u "Lcom/example/slackline/slackline/deque/End;"), (2, u "BACK"), (2, u "$VALUES"), (0, u "[Lcom/example/slackline/slackline/deque/End;"), (6, .class_ 22), (1, u "java/lang/Enum")] 27

/-- com/example/slackline/slackline/deque/End -/
def k6 : Class := { plain "com/example/slackline/slackline/deque/End" (some 5) with
  accessFlags := 16432
  interfaces := #[]
  cf := some (fileOf pool6 1 #[] #[] 16432 20 #[] #[{ accessFlags := 16409, nameIndex := 5, descriptorIndex := 6, attributes := #[] }, { accessFlags := 16409, nameIndex := 9, descriptorIndex := 6, attributes := #[] }, { accessFlags := 4122, nameIndex := 12, descriptorIndex := 13, attributes := #[] }])
  fields := #[{ name := "FRONT", type := (.object "com/example/slackline/slackline/deque/End"), accessFlags := 16409, slot := 0, constantValue := 0 }, { name := "BACK", type := (.object "com/example/slackline/slackline/deque/End"), accessFlags := 16409, slot := 1, constantValue := 0 }, { name := "$VALUES", type := (.array (.object "com/example/slackline/slackline/deque/End")), accessFlags := 4122, slot := 2, constantValue := 0 }]
  methods := #[]
  instanceTypes := #[(.object "java/lang/String"), .int, .int]
  staticTypes := #[(.object "com/example/slackline/slackline/deque/End"), (.object "com/example/slackline/slackline/deque/End"), (.array (.object "com/example/slackline/slackline/deque/End"))]
  resolved := Array.replicate 50 none
  statics := some 0 }

def pool7 : Array CpInfo := pool [(1, .class_ 2), (0, u "com/example/slackline/slackline/deque/Anchor$Change"), (2, u "PUSHED_FRONT"), (0, u "Lcom/example/slackline/slackline/deque/Anchor$Change;"), (2, u "PUSHED_BACK"), (0, .fieldref 1 11), (0, .nameAndType 12 6), (0, u "POPPED_FRONT"), (0, .fieldref 1 14), (0, .nameAndType 15 6), (0, u "POPPED_BACK"), (2, u "REMOVED"), (2, u "$VALUES"), (0, u "[Lcom/example/slackline/slackline/deque/Anchor$Change;"), (6, .class_ 31), (1, u "java/lang/Enum"), (6, .fieldref 1 39), (0, .nameAndType 40 41), (0, u "mEnd"), (0, u "Lcom/example/slackline/slackline/deque/End;"), (0, .fieldref 43 44), (0, .class_ 45), (0, .nameAndType 46 41), (0, u "com/example/slackline/slackline/deque/End"), (0, u "FRONT"), (22, u "popped"), (0, u "(Lcom/example/slackline/slackline/deque/End;)Lcom/example/slackline/slackline/deque/Anchor$Change;"), (1, u "end"), (0, u "()Lcom/example/slackline/slackline/deque/End;"), (6, .class_ 81), (0, u "com/example/slackline/slackline/deque/Anchor")] 2

def k7c0 : Code := { maxStack := 2, maxLocals := 1, code := prog_2_method_4_code, exceptionTable := #[], attributes := #[] }
def k7m0 : Method := { name := "popped", desc := "(Lcom/example/slackline/slackline/deque/End;)Lcom/example/slackline/slackline/deque/Anchor$Change;", sig := { parameters := [(.object "com/example/slackline/slackline/deque/End")], returnType := some (.object "com/example/slackline/slackline/deque/Anchor$Change") }, accessFlags := 8, code := some k7c0 }
def k7c1 : Code := { maxStack := 1, maxLocals := 1, code := prog_2_method_5_code, exceptionTable := #[], attributes := #[] }
def k7m1 : Method := { name := "end", desc := "()Lcom/example/slackline/slackline/deque/End;", sig := { parameters := [], returnType := some (.object "com/example/slackline/slackline/deque/End") }, accessFlags := 0, code := some k7c1 }
/-- com/example/slackline/slackline/deque/Anchor$Change -/
def k7 : Class := { plain "com/example/slackline/slackline/deque/Anchor$Change" (some 5) with
  accessFlags := 16432
  interfaces := #[]
  cf := some (fileOf pool7 1 #[.nestHost 80] #[{ accessFlags := 8, nameIndex := 69, descriptorIndex := 70, attributes := #[] }, { accessFlags := 0, nameIndex := 72, descriptorIndex := 73, attributes := #[] }] 16432 29 #[] #[{ accessFlags := 16409, nameIndex := 5, descriptorIndex := 6, attributes := #[] }, { accessFlags := 16409, nameIndex := 9, descriptorIndex := 6, attributes := #[] }, { accessFlags := 16409, nameIndex := 12, descriptorIndex := 6, attributes := #[] }, { accessFlags := 16409, nameIndex := 15, descriptorIndex := 6, attributes := #[] }, { accessFlags := 16409, nameIndex := 18, descriptorIndex := 6, attributes := #[] }, { accessFlags := 18, nameIndex := 40, descriptorIndex := 41, attributes := #[] }, { accessFlags := 4122, nameIndex := 21, descriptorIndex := 22, attributes := #[] }])
  fields := #[{ name := "PUSHED_FRONT", type := (.object "com/example/slackline/slackline/deque/Anchor$Change"), accessFlags := 16409, slot := 0, constantValue := 0 }, { name := "PUSHED_BACK", type := (.object "com/example/slackline/slackline/deque/Anchor$Change"), accessFlags := 16409, slot := 1, constantValue := 0 }, { name := "POPPED_FRONT", type := (.object "com/example/slackline/slackline/deque/Anchor$Change"), accessFlags := 16409, slot := 2, constantValue := 0 }, { name := "POPPED_BACK", type := (.object "com/example/slackline/slackline/deque/Anchor$Change"), accessFlags := 16409, slot := 3, constantValue := 0 }, { name := "REMOVED", type := (.object "com/example/slackline/slackline/deque/Anchor$Change"), accessFlags := 16409, slot := 4, constantValue := 0 }, { name := "mEnd", type := (.object "com/example/slackline/slackline/deque/End"), accessFlags := 18, slot := 3, constantValue := 0 }, { name := "$VALUES", type := (.array (.object "com/example/slackline/slackline/deque/Anchor$Change")), accessFlags := 4122, slot := 5, constantValue := 0 }]
  methods := #[k7m0, k7m1]
  instanceTypes := #[(.object "java/lang/String"), .int, .int, (.object "com/example/slackline/slackline/deque/End")]
  staticTypes := #[(.object "com/example/slackline/slackline/deque/Anchor$Change"), (.object "com/example/slackline/slackline/deque/Anchor$Change"), (.object "com/example/slackline/slackline/deque/Anchor$Change"), (.object "com/example/slackline/slackline/deque/Anchor$Change"), (.object "com/example/slackline/slackline/deque/Anchor$Change"), (.array (.object "com/example/slackline/slackline/deque/Anchor$Change"))]
  resolved := Array.replicate 84 none
  statics := some 1 }

def pool8 : Array CpInfo := pool [(1, u "java/lang/Cloneable"), (0, .class_ 1), (0, u "java/lang/Object"), (0, .class_ 3)] 3

/-- java/lang/Cloneable -/
def k8 : Class := { plain "java/lang/Cloneable" (some 0) with
  accessFlags := 1537
  interfaces := #[]
  cf := some (fileOf pool8 2 #[] #[] 1537 4 #[] #[])
  fields := #[]
  methods := #[]
  instanceTypes := #[]
  staticTypes := #[]
  resolved := Array.replicate 8 none
  statics := none }

/-- the primitive byte -/
def k9 : Class := { plain "byte" none with kind := .primitive 'B', accessFlags := 0x411 }
/-- [B -/
def k10 : Class := { plain "[B" (some 0) with kind := .array 9 .byte, interfaces := #[8, 4], accessFlags := 1041 }

/-- the primitive int -/
def k11 : Class := { plain "int" none with kind := .primitive 'I', accessFlags := 0x411 }
/-- [I -/
def k12 : Class := { plain "[I" (some 0) with kind := .array 11 .int, interfaces := #[8, 4], accessFlags := 1041 }

def heap : Heap := #[{ cls := 6, slots := #[.ref 2, .ref 4, .null], vm := .statics 6 },
  { cls := 7, slots := #[.null, .null, .ref 3, .ref 5, .null, .null], vm := .statics 7 },
  { cls := 6, slots := #[.null, .int 0, .int 0], vm := .none },
  { cls := 7, slots := #[.null, .int 2, .int 0, .ref 2], vm := .none },
  { cls := 6, slots := #[.null, .int 1, .int 0], vm := .none },
  { cls := 7, slots := #[.null, .int 3, .int 0, .ref 4], vm := .none }]
def classes : Array Class := #[k0, k1, k2, k3, k4, k5, k6, k7, k8, k9, k10, k11, k12]
def interned : List (Array UInt16 × Addr) := []
def slotsUsed : Nat := 23
def theMethod : MethodId := ⟨1, 1⟩
def args0 : Array Value := #[.int 5]
def aboutOver (below : List Frame) : State where
  vm := { classes := classes, interned := interned.toArray }
  heap := heap
  slotsUsed := slotsUsed
  threads := #[{ frames := .invoking theMethod args0 :: below }]
def below0 : List Frame := [.native { method := ⟨0, 0⟩, args := #[] }]
def about1 : State := aboutOver below0
def p0 : Program := .bare "" "" ""
def e0 : Env := launch0.env 0 0 0
theorem w_frames : about1.frames = Frame.invoking theMethod args0 :: below0 := rfl
set_option maxRecDepth 65536 in
theorem w_args : argsFit about1.vm theMethod args0 = true := by decide +kernel
set_option maxRecDepth 65536 in
theorem w_heap : heapFits about1 = true := by decide +kernel
set_option maxRecDepth 65536 in
theorem w_runnable : about1.curStatus? = some .runnable := by decide +kernel
set_option maxRecDepth 65536 in
theorem w_alone : about1.alone = true := by decide +kernel
set_option maxRecDepth 65536 in
theorem w_named : about1.methodNamed? x = some theMethod := by decide +kernel
set_option maxRecDepth 65536 in
theorem w_hears : about1.hears theMethod below0 = true := by decide +kernel
set_option maxRecDepth 65536 in
theorem w_ripe : about1.ripe theMethod args0 below0 = true := by decide +kernel
theorem w_running : about1.status = .running := rfl
set_option maxRecDepth 65536 in
theorem w_room : about1.hasRoom e0.platform room_1 = true :=
  launch0.hasRoom_least _ room_1 (by decide +kernel) (by decide +kernel) (by decide +kernel) (by decide +kernel) (by decide +kernel) (by decide +kernel)
theorem allAtoms_all (ts : List Jvm.Cond) (a : Array Jvm.Value) (st : Jvm.State) : (allAtoms ts).before a st = ts.all (fun c => c.before a st) := by
  induction ts with
  | nil => rfl
  | cons c t ih =>
    show (Jvm.Cond.and c (allAtoms t)).before a st = _
    rw [Jvm.Cond.before_and, ih, List.all_cons]
def words1 : List Jvm.Cond := Jvm.Cond.code x code maxLocals ret :: tables_1
/-- a 'code' word, met by the world's own term for the bytes: nothing is compared byte by byte -/
theorem code_word {y : MethodName} {bytes : ByteArray} {mx : Nat} {rt : Option FieldType} {a : Array Value} {s : State} {m : MethodId} {meth : Method} {c : Code} (h1 : s.methodNamed? y = some m) (h2 : s.vm.method? m = some meth) (h3 : meth.code = some c) (h4 : c.code = bytes)
    (h5 : (c.maxLocals == mx && c.exceptionTable.isEmpty && decide (c.maxStack ≤ mostOperands) && decide (meth.sig.returnType = rt) && !meth.locks && decide (parseMethodDescriptor y.desc = some meth.sig)) = true) : (Jvm.Cond.code y bytes mx rt).before a s = true := by
  simp only [Bool.and_eq_true, beq_iff_eq, Bool.not_eq_true', decide_eq_true_eq] at h5
  obtain ⟨⟨⟨⟨⟨g1, g2⟩, g3⟩, g4⟩, g5⟩, g6⟩ := h5
  simp [Cond.before, Cond.holds, Cond.value, h1, h2, h3, h4, g1, g2, g3, g4, g5, g6]
def isCode : Jvm.Cond → Bool
  | .code _ _ _ _ => true
  | _ => false
theorem all_split {L : List Jvm.Cond} {P : Jvm.Cond → Bool} (h1 : L.all (fun c => isCode c || P c) = true) (h2 : ∀ c ∈ L.filter isCode, P c = true) : L.all P = true := by
  refine List.all_eq_true.mpr fun c hc => ?_
  have h := List.all_eq_true.mp h1 c hc
  rcases Bool.eq_false_or_eq_true (isCode c) with hi | hi
  · exact h2 c (List.mem_filter.mpr ⟨hc, hi⟩)
  · simpa [hi] using h
set_option maxRecDepth 65536 in
theorem w_c0 : (Jvm.Cond.code x code maxLocals ret).before args0 about1 = true := code_word (m := ⟨1, 1⟩) (meth := k1m1) (c := k1c1) (by decide +kernel) rfl rfl rfl (by decide +kernel)
set_option maxRecDepth 65536 in
theorem w_c1 : (Jvm.Cond.code ({ cls := "com/example/slackline/slackline/deque/Anchor$Change", name := "popped", desc := "(Lcom/example/slackline/slackline/deque/End;)Lcom/example/slackline/slackline/deque/Anchor$Change;" } : Jvm.MethodName) prog_2_method_4_code (1 : Nat) (Option.some (Jvm.ClassFile.FieldType.object "com/example/slackline/slackline/deque/Anchor$Change"))).before args0 about1 = true := code_word (m := ⟨7, 0⟩) (meth := k7m0) (c := k7c0) (by decide +kernel) rfl rfl rfl (by decide +kernel)
set_option maxRecDepth 65536 in
theorem w_c2 : (Jvm.Cond.code ({ cls := "com/example/slackline/slackline/deque/Anchor$Change", name := "end", desc := "()Lcom/example/slackline/slackline/deque/End;" } : Jvm.MethodName) prog_2_method_5_code (1 : Nat) (Option.some (Jvm.ClassFile.FieldType.object "com/example/slackline/slackline/deque/End"))).before args0 about1 = true := code_word (m := ⟨7, 1⟩) (meth := k7m1) (c := k7c1) (by decide +kernel) rfl rfl rfl (by decide +kernel)
def codes1 : List Jvm.Cond := [Jvm.Cond.code x code maxLocals ret, Jvm.Cond.code ({ cls := "com/example/slackline/slackline/deque/Anchor$Change", name := "popped", desc := "(Lcom/example/slackline/slackline/deque/End;)Lcom/example/slackline/slackline/deque/Anchor$Change;" } : Jvm.MethodName) prog_2_method_4_code (1 : Nat) (Option.some (Jvm.ClassFile.FieldType.object "com/example/slackline/slackline/deque/Anchor$Change")), Jvm.Cond.code ({ cls := "com/example/slackline/slackline/deque/Anchor$Change", name := "end", desc := "()Lcom/example/slackline/slackline/deque/End;" } : Jvm.MethodName) prog_2_method_5_code (1 : Nat) (Option.some (Jvm.ClassFile.FieldType.object "com/example/slackline/slackline/deque/End"))]
set_option maxRecDepth 65536 in
theorem codes_eq : words1.filter isCode = codes1 := rfl
theorem w_codes : ∀ c ∈ words1.filter isCode, c.before args0 about1 = true := by
  rw [codes_eq]
  intro c hc
  simp only [codes1, List.mem_cons, List.not_mem_nil, or_false] at hc
  rcases hc with rfl | rfl | rfl
  · exact w_c0
  · exact w_c1
  · exact w_c2
set_option maxRecDepth 65536 in
theorem w_t1 : words1.all (fun c => isCode c || c.before args0 about1) = true := by decide +kernel
theorem w_tables : (allAtoms (Jvm.Cond.code x code maxLocals ret :: tables_1)).before args0 about1 = true := by
  rw [allAtoms_all]
  show words1.all (fun c => c.before args0 about1) = true
  refine all_split ?_ w_codes
  rw [w_t1]
set_option maxRecDepth 65536 in
theorem w_case : (Jvm.Cond.and given_1 narrow_1).before args0 about1 = true := by decide +kernel
theorem w_applies : (headSpec (Jvm.Cond.code x code maxLocals ret :: tables_1) room_1).applies x e0.platform about1 = true :=
  (Spec.applies_iff w_frames).mpr ⟨w_running, w_runnable, w_alone, w_named, w_hears, w_ripe, w_room, w_tables⟩
theorem atStart : AtStart classFile x code maxLocals ret World_1 tables_1 room_1 Calls_1 rest_1 Pre_1 launch0 p0 e0 about1 theMethod args0 below0 :=
  ⟨lists_1, trivial, launch0.admits_env _ _ _, launch0.least_env, fairChoices_fair.cas, fairChoices_fair.clock, w_frames, w_args, w_heap, w_applies, trivial, trivial, w_case⟩
end start1
theorem witness_1 : WitnessClaimed_1 := ⟨start1.p0, start1.e0, start1.about1, start1.theMethod, start1.args0, start1.below0, start1.atStart⟩
end Jvm.Pilot.@@N@@
